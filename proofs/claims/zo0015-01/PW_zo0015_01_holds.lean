import PyProof.Rows.All
import Wide.All
import OpenK.AllK
import Wide.FinOn
import PySem.Challenge.RW_zo0015_01
set_option linter.all false
set_option Elab.async false
section
open PySem PySem.W PySem.W.X PyProof.Rows
set_option Elab.async false
set_option maxRecDepth 100000
set_option maxHeartbeats 0
namespace Mine
theorem rs0 : True := by w_top off; trivial
open Sem (wp)
/-! A run in a context in whose stack no decoder stands: `wpC` is `wpAny` over such contexts alone. -/
def dec (c : Code) : Bool := match c with | .builtin id _ => Builtin.Bytes.decodersThatHold.contains id | _ => false
def Bare (l : List (Code × Pos)) : Prop := ∀ c ∈ l, dec c.1 = false
def Cln (Γ : Ctx) : Prop := dec Γ.code = false ∧ Bare Γ.below
def wpC {α : Type} (M : PySem.Model) (A : Around) (t : Sem α) (Q : α → Shared → Prop) (E : Value → Shared → Prop) (s : Shared) : Prop :=
  ∀ Γ p, Γ.In A → Cln Γ → wp M Γ t (fun a _ s' => Q a s') (fun e _ s' => E e s') p s
def codeC (M : PySem.Model) (A : Around) (c : Code) (R : Result → Shared → Prop) (s : Shared) : Prop :=
  ∀ Γ p, Γ.code = c → Γ.Below A → Bare Γ.below → wpCode M Γ R p s
section
variable {α β : Type} {M : PySem.Model} {A : Around} {E : Value → Shared → Prop} {s : Shared}
theorem wpC.of {t : Sem α} {Q : α → Shared → Prop} (h : wpAny M A t Q E s) : wpC M A t Q E s := fun Γ p hΓ _ => h Γ p hΓ
theorem codeC.of {c : Code} {R : Result → Shared → Prop} (h : codeAny M A c R s) : codeC M A c R s := fun Γ p hc hΓ _ => h Γ p hc hΓ
theorem wpC.mono {t : Sem α} {Q Q' : α → Shared → Prop} {E' : Value → Shared → Prop} (h : wpC M A t Q E s) (hQ : ∀ a s, Q a s → Q' a s) (hE : ∀ e s, E e s → E' e s) : wpC M A t Q' E' s :=
  fun Γ p hΓ hC => Sem.wp_mono M Γ t (fun a _ s => hQ a s) (fun e _ s => hE e s) p s (h Γ p hΓ hC)
theorem wpC.bind {m : Sem α} {f : α → Sem β} {Q : β → Shared → Prop} (h : wpC M A m (fun a s' => wpC M A (f a) Q E s') E s) : wpC M A (m >>= f) Q E s := fun Γ p hΓ hC => by
  rw [Sem.wp_bind']
  exact Sem.wp_mono M Γ m (fun a p' s' h' => h' Γ p' hΓ hC) (fun _ _ _ h' => h') p s (h Γ p hΓ hC)
theorem wpC.bindA {m : Sem α} {f : α → Sem β} {Q : β → Shared → Prop} (h : wpAny M A m (fun a s' => wpC M A (f a) Q E s') E s) : wpC M A (m >>= f) Q E s := wpC.bind (wpC.of h)
theorem wpC.pure {a : α} {Q : α → Shared → Prop} (h : Q a s) : wpC M A (pure a) Q E s := fun _ _ _ _ => h
theorem wpC.onRaise {m : Sem α} {k : Value → Sem Unit} {Q : α → Shared → Prop}
    (h : wpC M A m Q (fun e s' => wpAny M A (k e) (fun _ s'' => E e s'') E s') s) : wpC M A (m.onRaise k) Q E s := fun Γ p hΓ hC => by
  rw [Sem.wp_onRaise]
  exact Sem.wp_mono M Γ m (fun _ _ _ h' => h') (fun e p' s' h' => h' Γ p' hΓ) p s (h Γ p hΓ hC)
theorem wpC.holding {vs : List Value} {m : Sem α} {Q : α → Shared → Prop} (h : wpC M A m Q E s) : wpC M A (holding vs m) Q E s :=
  fun Γ p hΓ hC => by rw [Sem.wp_holding]; exact h Γ p hΓ hC
theorem codeC.mono {c : Code} {R R' : Result → Shared → Prop} (h : codeC M A c R s) (hR : ∀ r s, R r s → R' r s) : codeC M A c R' s :=
  fun Γ p hc hΓ hB => wpCode_mono hR (h Γ p hc hΓ hB)
theorem wpC.runValue {c : Code} {Q : Value → Shared → Prop}
    (hc : codeC M A c (fun r s' => match r with | .ok (.ret v) => Q v s' | .ok _ => False | .error e => E e s') s) :
    wpC M A (runValue c) Q E s := fun Γ p hΓ hC => by
  rw [Sem.wp_runValue]
  refine hc _ p rfl (hΓ.enter c none p (by intro x; cases x)) fun x hx => ?_
  cases hx with
  | head => exact hC.1
  | tail _ h => exact hC.2 x h
theorem wpC.call {f : Value} {pos : List Value} {kw : List (Str × Value)} {Q : Value → Shared → Prop}
    (hc : codeC M A (.call f ⟨pos, kw⟩) (fun r s' => match r with | .ok (.ret v) => Q v s' | .ok _ => False | .error e => E e s') s) :
    wpC M A (call f pos kw) Q E s := wpC.runValue hc
theorem codeC.tree {c : Code} {R : Result → Shared → Prop} (hd : dec c = false)
    (h : wpC M (A.under c) (M.den c) (fun fin s' => match fin with | .done f => R (.ok f) s' | .again c' => c'.quiet = true ∧ codeC M A c' R s')
      (fun e s' => R (.error e) s') s) : codeC M A c R s := fun Γ p hc hΓ hB => by
  rw [wpCode_iff_wp, hc]
  refine Sem.wp_mono M Γ _ (fun fin p' s' h' => ?_) (fun _ _ _ h' => h') p s (h Γ p (hc ▸ hΓ.in) ⟨hc ▸ hd, hB⟩)
  cases fin with
  | done f => exact h'
  | again c' => exact ⟨h'.1, h'.2 (Γ.goto c') p' rfl (hΓ.goto c') hB⟩
end
section
variable {prog : Program} {w : World} {A : Around} {E : Value → Shared → Prop} {R : Result → Shared → Prop} {s : Shared}
theorem codeC.builtin {id : String} {args : Args} {b : Builtin} (hd : Builtin.Bytes.decodersThatHold.contains id = false) (hb : entryFor table id = some b)
    (h : wpC (model prog w) (A.under (.builtin id args)) (b args)
      (fun fin s' => match fin with | .done f => R (.ok f) s' | .again c' => c'.quiet = true ∧ codeC (model prog w) A c' R s') (fun e s' => R (.error e) s') s) :
    codeC (model prog w) A (.builtin id args) R s := by
  refine codeC.tree hd ?_
  show wpC _ _ (match entryFor table id with | some b => b args | none => unsupported ((withoutEnding? id "#data").getD id)) _ _ s
  rw [hb]; exact h
theorem codeC.func {body env}
    (h : wpC (model prog w) (A.deeper env) (execs body env) (fun f s' => R (.ok (.ret (match f with | .ret v => v | _ => .none))) s')
      (fun e s' => wpAny (model prog w) (A.deeper env) (leaving env e) (fun _ s'' => R (.error e) s'') (fun e' s'' => R (.error e') s'') s') s) :
    codeC (model prog w) A (.func body env) R s := by
  refine codeC.tree rfl ?_
  show wpC _ (A.deeper env) (do point; match ← (execs body env).onRaise (leaving env) with | .ret v => ret v | _ => ret .none) _ _ s
  refine wpC.bindA (wpAny_point (wpC.bind (wpC.onRaise (wpC.mono h (fun f s' h' => ?_) fun _ _ h' => h'))))
  cases f <;> exact wpC.pure h'
theorem codeC.callFunction {a : Addr} {args : Args} {o : Obj} {fd : FuncData} {body : List Stmt} (hroom : A.depth < recursionLimit)
    (ho : s.heap.get? a = some o)
    (hd' : o.data = .func fd) (hco : fd.scope.isCoroutine = false) (hgen : fd.scope.isGenerator = false) (hbody : fd.body = .stmts body) (hcd : s.heap.CodeRec fd.code fd.qualname)
    (h : wpAny (model prog w) A.in1 (bindArgs fd args) (fun binds s₁ =>
      wpAny (model prog w) A.in1 (newFunctionEnv fd.scope fd.globals fd.closure binds (fd.qualname ++ ".<locals>.") (some a) fd.code none fd.builtins)
        (fun env s₂ => s₂.heap.NoLimit ∧ codeC (model prog w) A (.func body env) R s₂) (fun e s' => R (.error e) s') s₁) (fun e s' => R (.error e) s') s) :
    codeC (model prog w) A (.call (.ref a) args) R s := by
  refine codeC.tree rfl (wpC.of ?_)
  show wpAny _ A.in1 (callAny (.ref a) args) _ _ s
  simp only [callAny]
  refine wpAny_bind (wpAny_load ho ?_)
  obtain ⟨c, oc, vs, tq, hc, hoc, hdc, hq⟩ := hcd
  simp only [hd', PySem.callFunction, hco, hgen, hbody, hc]
  rw [hc] at h
  refine wpAny_bind (m := field (.ref c) 1) (wpAny_field hoc hdc hq (wpAny_bind (wpAny_pure ?_)))
  exact wpAny_bind (wpAny_mono h (fun binds s₁ h₁ => wpAny_bind (wpAny_mono h₁ (fun env s₂ h₂ => wpAny_bind (wpAny_enterFrame h₂.1 hroom
    (wpAny_pure (And.intro rfl h₂.2)))) fun _ _ h' => h')) fun _ _ h' => h')
theorem wpC.exported {self : Value} {Q : Bool → Shared → Prop} (hg : A.guards = some []) (h : Q false s) : wpC (model prog w) A (Builtin.Bytes.exported self) Q E s := fun Γ p hΓ hC => by
  have hno : ∀ x ∈ (Γ.code, p) :: Γ.below, x.1.isGuard = false ∧ dec x.1 = false := by
    have hgs : guardsOf ((Γ.code, p) :: Γ.below) = [] := by rw [guardsOf_cons]; exact hΓ.2.2.2.1 _ hg
    have hall : ∀ l : List (Code × Pos), guardsOf l = [] → ∀ x ∈ l, x.1.isGuard = false := by
      intro l
      induction l with
      | nil => intro _ x hx; cases hx
      | cons y l ih =>
        intro hl x hx
        obtain ⟨c, q⟩ := y
        rw [guardsOf_cons] at hl
        obtain ⟨h1, h2⟩ := List.append_eq_nil_iff.mp hl
        cases hx with
        | head =>
          cases hgu : c.isGuard with
          | false => rfl
          | true => simp [Code.guards, hgu] at h1
        | tail _ hx => exact ih h2 x hx
    intro x hx
    refine ⟨hall _ hgs x hx, ?_⟩
    cases hx with
    | head => exact hC.1
    | tail _ hx => exact hC.2 x hx
  have key : ∀ b : Bool, b = false → Q b s := fun b e => e ▸ h
  refine key (((Γ.code, p) :: Γ.below).any _) ?_
  rw [List.any_eq_false]
  intro x hx
  obtain ⟨g1, g2⟩ := hno x hx
  clear hx hno
  obtain ⟨c, q⟩ := x
  have no : ∀ {id : String} {a : Args}, (Code.builtin id a).isGuard = false → (Code.builtin id a).isGuard = true → False := fun h h' => Bool.false_ne_true (h.symm.trans h')
  cases c with
  | builtin id a =>
    obtain ⟨l, kw⟩ := a
    by_cases h1 : id = "bytearray.__contains__"
    · subst h1; exact (no g1 rfl).elim
    by_cases h2 : id = "bytearray.__mod__"
    · subst h2; exact (no g1 rfl).elim
    by_cases h3 : id = "bytearray.__rmod__"
    · subst h3; exact (no g1 rfl).elim
    by_cases h4 : id = "_struct.pack_into.held"
    · subst h4; exact (no g1 rfl).elim
    by_cases h5 : id = "bytearray.find.held"
    · subst h5; exact (no g1 rfl).elim
    replace g2 : Builtin.Bytes.decodersThatHold.contains id = false := g2
    delta Builtin.Bytes.exported.match_1
    show ¬ (@dite _ (id = "bytearray.__contains__") _ _ _) = true
    rw [dif_neg h1, dif_neg h2, dif_neg h3, dif_neg h4, dif_neg h5]
    cases l with
    | nil => exact Bool.false_ne_true
    | cons v r => 
      show ¬ (Builtin.Bytes.sameRef v self && Builtin.Bytes.decodersThatHold.contains id) = true
      rw [g2, Bool.and_false]; exact Bool.false_ne_true
  | _ => exact Bool.false_ne_true
end
theorem letN {h₀ h : Heap} {L : Addr} {news : List (Addr × Obj)} {P : Prop} (N : PyProof.Rows.News h₀ L h news) (k : let n := news; PyProof.Rows.News h₀ L h n → P) : P := k N
theorem letF {h₀ h : Heap} {L : Addr} {m : Str → Option Value} {P : Prop} (F : PyProof.Rows.Fr h₀ L h m) (k : let n := m; PyProof.Rows.Fr h₀ L h n → P) : P := k F
theorem letA {M : PySem.Model} {A : Around} {α : Type} {t : Sem α} {Q : α → Shared → Prop} {E : Value → Shared → Prop} {s : Shared} (k : let B := A; wpAny M B t Q E s) : wpAny M A t Q E s := k
theorem wp_gen {M : PySem.Model} {A : Around} {α : Type} {t : Sem α} {Q : α → Shared → Prop} {E : Value → Shared → Prop} {s : Shared} (h : ∀ tk, wpAny M A t Q E { s with toks := tk }) : wpAny M A t Q E s := h s.toks
end Mine
end
section
open PySem PySem.W PySem.Calls PyProof.Rows
set_option Elab.async false
set_option maxRecDepth 100000
namespace Mine
local macro_rules | `(tactic| walk_at "none") => `(tactic| skip)
theorem rs1 : True := by w_top off; trivial
theorem cln_caller : Cln ⟨.builtin "claim.caller" {}, none, none, [], none⟩ := ⟨by decide +kernel, fun _ h => nomatch h⟩
theorem thread_endsC {prog : Program} {w : World} {t : Sem PySem.Fin} {s : Shared} {R : Result → Shared → Prop} (hreg : s.asleep)
    (h : wpC (model prog w) callerA t (fun fin s' => ∃ f, fin = .done f ∧ (R (.ok f) s' ∧ leftWithCleanup s'.gens = false)) (fun e s' => R (.error e) s' ∧ leftWithCleanup s'.gens = false) s) :
    ∃ n r s' s'', runN (denote table) prog w n s ⟨t, .builtin "claim.caller" {}, default, []⟩ = .halted (outcomeOf r) s' ∧
      schedN (denote table) prog w n (.single s ⟨t, .builtin "claim.caller" {}, default, []⟩) = .halted (outcomeOf r) s' ∧ s'.forget = s''.forget ∧ R r s'' := by
  have h2 : Sem.wp (model prog w) ⟨.builtin "claim.caller" {}, none, none, [], none⟩ t (Sem.finPost (model prog w) ⟨.builtin "claim.caller" {}, none, none, [], none⟩ fun r s' => R r s' ∧ leftWithCleanup s'.gens = false)
      (fun e _ s' => R (.error e) s' ∧ leftWithCleanup s'.gens = false) default s := by
    refine Sem.wp_mono _ _ _ (fun fin p' s' h' => ?_) (fun _ _ _ h' => h') _ _ (h _ default caller_in cln_caller)
    obtain ⟨f, rfl, hf⟩ := h'
    exact hf
  obtain ⟨n, r, s₁, s₂, hs, hn, hfo, hR⟩ := wp_halts_full (M := model prog w) (R := R) hreg h2
  exact ⟨n, r, s₂, s₁, hn, hs, hfo, hR⟩
theorem callFromC {c : ClaimW} {tree : List Value → Sem PySem.Fin} {w : World} {s : Shared} {free : Addr → Prop} {gens : Prop} {kept : Heap → Prop} (hz : s.asleep) (hgens : s.gens = #[])
    (hspec : ∀ args, c.pre args = true → WData.layableAll args = true →
      ∀ ord : List DictEntry → List DictEntry, (∀ l, (ord l).Perm l) →
      ∃ vs s₁, layAllW c.records (classAt s.heap) w.params ord args s = some (vs, s₁) ∧
        wpC (model c.prog w) callerA (tree vs) (fun fin s' => ∃ f, fin = .done f ∧ (c.Ends s args vs s₁ (.ok f) s' ∧ s'.os = s.os ∧ AllBare s'.gens ∧ kept s'.heap))
          (fun e s' => c.Ends s args vs s₁ (.error e) s' ∧ s'.os = s.os ∧ AllBare s'.gens ∧ kept s'.heap) s₁) :
    c.CallFrom (fun vs => ⟨tree vs, .builtin "claim.caller" {}, default, []⟩) w free gens kept s := by
  intro args hpre hlay ord hord
  obtain ⟨vs, s₁, hlaid, hcode⟩ := hspec args hpre hlay ord hord
  have hal := layAllW_rest _ _ _ hlaid
  obtain ⟨k, r, s', s'', hrun, hsched, hfo, hcase, hos, hkp⟩ := thread_endsC (prog := c.prog) (w := w) (t := tree vs) (s := s₁)
    (R := fun r s' => c.Ends s args vs s₁ r s' ∧ s'.os = s.os ∧ kept s'.heap)
    (Shared.asleep_of_life hal.2.2.2 hz)
    (wpC.mono hcode (by
      rintro fin s' ⟨f, e, h1, h2, h3, h4⟩
      exact ⟨f, e, ⟨h1, h2, h4⟩, leftWithCleanup_false_of_bare h3⟩) (by
      rintro e s' ⟨h1, h2, h3, h4⟩
      exact ⟨⟨h1, h2, h4⟩, leftWithCleanup_false_of_bare h3⟩))
  obtain ⟨eh, _, _, eo, _⟩ := Shared.forget_eq hfo
  have hcase := hcase.congr eh
  have hkp : kept s'.heap := by first | exact eh ▸ hkp | (rw [eh] at hkp; exact hkp) | (rw [← eh] at hkp; exact hkp)
  rw [← eo] at hos
  have hlife : s'.heap.life = s.heap.life := (runN_life _ _ _ hrun).trans hal.2.2.2
  refine ⟨vs, s₁, hlaid, k, _, s', hsched, ?_, (fun _ i x hx => by rw [hgens] at hx; simp at hx), hkp, by rw [hlife], Shared.rest_eq hos⟩
  refine hcase.imp (Exists.imp fun v h => ⟨congrArg outcomeOf h.1, h.2.1, h.2.2.1, h.2.2.2.1, fun b o y _ => h.2.2.2.2.1 b o y, h.2.2.2.2.2⟩) (Exists.imp fun e => Exists.imp fun ob => Exists.imp fun cls h => ⟨congrArg outcomeOf h.1, h.2.1, h.2.2.1, h.2.2.2.1, h.2.2.2.2.1, fun b o y _ => h.2.2.2.2.2 b o y⟩)
abbrev WalkC (q : Program) (loose : List Str) (XP : (Str → Option Value) → Heap → Prop) (YP : World → Heap → Prop) (r : RowW) (d : DefRec) (kwd : List (Str × Expr)) : Prop :=
  ∀ (w : World) (s₀ s₁ : Shared) (mg mb : Str → Option Value), Ground q loose r.records XP w s₀ mg mb s₁.heap → YP w s₁.heap → ∀ (a : Addr) (o : Obj) (pm cd doc dV kV : Value), s₁.heap.get? a = some o →
    o.data = .func { docDef d.name d.params d.body d.scope pm cd doc with defaults := dV, kwdefaults := kV } → s₁.heap.CodeRec cd d.name → Dflts mg s₁.heap d.params kwd dV kV → mg d.name = some (.ref a) → s₁.gens = #[] →
    ∀ (args : List WData) (vals : List Value) (as : List Addr), r.claim.pre args = true → WData.layableAll args = true → ReadsAllW r.records (classAt s₀.heap) s₁.heap vals args as → WellAll w.params s₁.heap vals args → (∀ a ∈ as, (a == sysModules) = false) →
      wpC (model r.prog w) callerA (PySem.call (.ref a) vals) (fun v s' => GoodWG r.claim (classAt s₀.heap) (ExcName.means s₀.heap) args s₁ (.ok (.ret v)) s')
        (fun e s' => GoodWG r.claim (classAt s₀.heap) (ExcName.means s₀.heap) args s₁ (.error e) s') s₁
theorem open_anyC {r : RowW} {tree : List Value → Sem PySem.Fin} {q : Program} {loose defs kps : List Str} {writes : Bool} {Xt : Shared → Bool} {XP : (Str → Option Value) → Heap → Prop} {α : Type} {Yf : Shared → α} {Ya : World → α} {YP : World → Heap → Prop} {N : Nat}
    (left : LeftO r.prog q loose Xt Yf Ya N) (hY : ∀ w s, Yf s = Ya w → YP w s.heap) (hYk : ∀ w h h', YP w h → (∀ b o, h.get? b = some o → h'.get? b = some o) → YP w h') (hX : ∀ s, Xt s = true → XP (s.heap.nsMap mainGlobals) s.heap) (hXk : ∀ mg h h', XP mg h → (∀ b o, h.get? b = some o → h'.get? b = some o) → XP mg h')
    (hRf : ∀ s, Xt s = true → RecFacts r.records s.heap) (hwr : (!writes || r.records.isEmpty) = true) (ok : (chainsOk q && opensWell r.prog && (frees r && r.within.isEmpty)) = true) (hb : r.prog.bare) (hw : r.promised)
    (ht : ∀ vs (w : World) (s : Shared) mg f (Q : PySem.Fin → Shared → Prop) (E : Value → Shared → Prop), s.heap.Ns mainGlobals mg → mg r.name = some f → wpC (model r.prog w) callerA (PySem.call f vs) (fun v s' => Q (.done (.ret v)) s') E s → wpC (model r.prog w) callerA (tree vs) Q E s)
    (pin : ∀ w s, s.heap.isNs mainGlobals = true → Ground q loose [] XP w s (s.heap.nsMap mainGlobals) (s.heap.nsMap builtinsNs) s.heap → ∀ n ∈ defs, isTheDefsW r.prog s.heap n)
    (call : ∀ (w : World) (s₀ s₁ : Shared) (mg mb : Str → Option Value), Ground q loose r.records XP w s₀ mg mb s₁.heap → YP w s₁.heap → ∀ (args : List WData) (vs : List Value) (as : List Addr),
      r.claim.pre args = true → WData.layableAll args = true → Laid r.records w s₀ s₁ args vs as → sysModules < s₀.heap.objs.size → ∃ f, mg r.name = some f ∧
        wpC (model r.prog w) callerA (PySem.call f vs) (fun v s' => GoodWG r.claim (classAt s₀.heap) (ExcName.means s₀.heap) args s₁ (.ok (.ret v)) s')
          (fun e s' => GoodWG r.claim (classAt s₀.heap) (ExcName.means s₀.heap) args s₁ (.error e) s') s₁) : r.claim.HoldsOpenBy (fun vs => ⟨tree vs, .builtin "claim.caller" {}, default, []⟩) defs kps writes := by
  obtain ⟨ok, k5⟩ := Bool.and_eq_true_iff.mp ok
  obtain ⟨hch, o1⟩ := Bool.and_eq_true_iff.mp ok
  obtain ⟨k5, k6⟩ := Bool.and_eq_true_iff.mp k5
  obtain ⟨hsame, hu, ha, hap, hm⟩ := frees_parts k5
  refine ⟨⟨hb, o1, by show r.makers.map _ = []; rw [hm]; rfl⟩, hw.witness, fun w => ⟨(left.behind hX hch w).1, fun s' hs' => ?_⟩⟩
  obtain ⟨s₀, hf, hg0, s, hT, hz, hgens, hg, G00, y⟩ := (left.behind (XP := fun mg h => XP mg h ∧ RecFacts r.records h) (fun s hs => ⟨hX s hs, hRf s hs⟩) hch w).2 s' hs'
  have G0 : Ground q loose [] XP w s (s.heap.nsMap mainGlobals) (s.heap.nsMap builtinsNs) s.heap := ⟨G00.T, G00.B, G00.D, G00.TE, G00.TD, G00.W, G00.X.1, G00.cls, G00.has, G00.apart, G00.once, G00.K⟩
  have RF := G00.X.2
  have hT' := hT
  refine ⟨s₀, hf, hg0, s, hT, pin w s hg G0, RF.1, RF.2.1, ?_⟩
  have hgens : s.gens = #[] := Array.eq_empty_of_size_eq_zero (beq_iff_eq.mp hgens)
  have G : Ground q loose r.records XP w s _ _ s.heap := RF.ground G0
  refine callFromC (c := r.claim) hz hgens fun args hpre hlay ord hord => ?_
  obtain ⟨⟨vs, s₁⟩, hlaid⟩ := Option.isSome_iff_exists.mp (layAllW_isSome (P := w.params) (ord := ord) G.has args r.args s (pre_splitW hpre).1)
  have keeps := layAllW_keeps _ _ _ hlaid
  have hal := layAllW_rest _ _ _ hlaid
  obtain ⟨as, hrd, hin, hold⟩ := reads_layAllW hord _ _ _ hlaid hlay s₁.heap (fun _ _ e => e)
  have L : Laid r.records w s s₁ args vs as := ⟨⟨ord, hord, hlaid⟩, hrd, hin, hold, keeps, hal.1.trans hgens, hal.2.2.1⟩
  have G₁ := G.keeps hXk keeps
  obtain ⟨f, hf, h⟩ := call w s s₁ _ _ G₁ (hYk _ _ _ (hY w s y) keeps) args vs as hpre hlay L G.low
  have hi := ident_freeW hu ha hap
  have hwi : r.claim.within = [] := List.isEmpty_iff.mp k6
  exact ⟨vs, s₁, hlaid, ht vs w s₁ _ f _ _ G₁.T.g hf (wpC.mono h (fun v s' g => ⟨_, rfl, have z := g.laid (c := r.claim) hsame hwi hi L; ⟨z.1, z.2.1, z.2.2, fun q => ⟨namesKept_of hT' hg kps keeps g.2.1.old, noTable hwr q⟩⟩⟩) fun e s' g => have z := g.laid (c := r.claim) hsame hwi hi L; ⟨z.1, z.2.1, z.2.2, fun q => ⟨namesKept_of hT' hg kps keeps g.2.1.old, noTable hwr q⟩⟩)⟩
end Mine
theorem Mine.PySem.W.holds_open {r : OpenRow} {q : Program} {loose : List Str} {Xt : Shared → Bool} {XP : (Str → Option Value) → Heap → Prop} {α : Type} {Yf : Shared → α} {Ya : World → α} {YP : World → Heap → Prop} {d : DefRec} {kwd : List (Str × Expr)} {N : Nat}
    (left : LeftO r.prog q loose Xt Yf Ya N) (hY : ∀ w s, Yf s = Ya w → YP w s.heap) (hYk : ∀ w h h', YP w h → (∀ b o, h.get? b = some o → h'.get? b = some o) → YP w h')
    (hX : ∀ s, Xt s = true → XP (s.heap.nsMap mainGlobals) s.heap) (hXk : ∀ mg h h', XP mg h → (∀ b o, h.get? b = some o → h'.get? b = some o) → XP mg h')
    (hdef : defOf q r.name = some (d, kwd)) (hp : r.prog.theDef r.name = some (d.params, d.body, d.scope)) (hk : kwWritten? d.params.kwonlyargs d.params.kw_defaults = some kwd) (hRf : ∀ s, Xt s = true → RecFacts r.records s.heap) (hwr : (!r.writes || r.records.isEmpty) = true)
    (k1 : r.wellSaid = true) (ok : (chainsOk q && opensWell r.prog && (frees r.toRowW && r.within.isEmpty)) = true) (hb : r.prog.bare) (hw : r.toRowW.promised)
    (call : WalkC q loose XP YP r.toRowW d kwd) : r.Holds := by
  refine ⟨k1, hw, open_anyC (r := r.toRowW) (tree := fun vs => do match ← nsGet mainNs r.name with
      | some f => do ret (← PySem.call f vs)
      | none => unsupported "claim.caller:no-such-global") left hY hYk hX hXk hRf hwr ok hb hw
    (fun vs w s mg f Q E hg hf h => wpC.bindA (wpAny_nsGet hg (by rw [hf]; exact wpC.bind (wpC.mono h (fun _ _ x => wpC.pure x) fun _ _ x => x))))
    (fun w s hg G n hn => ?_) fun w s₀ s₁ mg mb G Y args vs as hpre hlay L low => ?_⟩
  · obtain rfl : n = r.name := by split at hn <;> simp_all
    exact pinned_of_view hg G hdef hp hk
  · obtain ⟨a, o, pm, cd, doc, dV, kV, h1, h2, h3, h4, h5⟩ := G.fn hdef
    exact ⟨.ref a, h1, call w s₀ s₁ mg mb G Y a o pm cd doc dV kV h2 h3 h4 h5 (defOf_name hdef ▸ h1) L.gens args vs as hpre hlay L.reads L.well (L.low low)⟩
end
section
open PySem PySem.W PyProof.Rows
set_option Elab.async false
namespace Mine
theorem rs2 : True := by w_top off; trivial
local macro_rules | `(tactic| k_head) => `(tactic| x_head)
local macro_rules | `(tactic| omega) => `(tactic| lia)
set_option maxRecDepth 100000 in
set_option maxHeartbeats 0 in
open_top hd for PySem.Challenge.rw_zo0015_01
end Mine
end
section
open PySem PySem.W PySem.W.X PyProof.Rows
set_option Elab.async false
set_option maxRecDepth 100000
set_option maxHeartbeats 0
namespace Mine
local macro_rules | `(tactic| walk_at "none") => `(tactic| skip)
theorem rs3 : True := by w_top off; trivial
abbrev PP : Program := PySem.Challenge.pw_zo0015_01
structure Cx (j : Nat) (w : World) (loose : List Str) (mean : ExcName → Option Value) (mg mb : Str → Option Value) (dp un : Nat) (cs : Scope) (outer : List Env) (A₀ : Around) (base h₀ : Heap) (L : Addr) (m : Str → Option Value) (h : Heap) (news : List (Addr × Obj)) : Prop where
  B : Below A₀ base outer h₀
  F : Fr h₀ L h m
  X : (Mine.hd.heap_39 w.params).In h₀
  N : News h₀ L h news
  T : Top Mine.hd.view_39 loose mean mg mb h₀
  k : cs.kind = .function
  d : dp + j < recursionLimit
  u : un + 8 * j < cLine
end Mine
end
section
open PySem PySem.W PySem.W.X PyProof.Rows
set_option Elab.async false
set_option maxRecDepth 100000
set_option maxHeartbeats 0
namespace Mine
theorem rs4 : True := by w_top off; trivial
open PySem.Builtin.Re
def reCode : Array Nat := #[14, 8, 1, 2, 4294967295, 1, 1, 46, 0, 16, 46, 24, 9, 1, 4294967295, 13, 4, 8, 0, 0, 1, 6, 5, 1]
def reDone (m : Sre.M) : Bool := m.outcome.isSome
def reFell (m : Sre.M) : Bool := match m.outcome with | some .failed => true | _ => false
def drive : Nat → Sre.M → Option Sre.M
  | 0, _ => none
  | n + 1, m => if reDone (m.runFor 4) then some (m.runFor 4) else drive n (m.runFor 4)
/-- the search in this text finds nothing -/
def noMatch (x : Str) : Bool := match drive 400 (Sre.forSearch reCode x.cps 0 0 x.cps.size false) with
  | some m => reFell m
  | none => false
section
variable {prog : Program} {w : World} {A : Around} {E : Value → Shared → Prop} {s : Shared}
theorem drive_wp {Q : Sre.M → Shared → Prop} {M : Model} : ∀ (k n : Nat) (m m' : Sre.M), drive k m = some m' → k ≤ n → Q m' s → wpAny M A (reDrive n m) Q E s
  | 0, _, _, _, h, _, _ => by cases h
  | k + 1, 0, _, _, _, hn, _ => absurd hn (Nat.not_succ_le_zero _)
  | k + 1, n + 1, m, m', h, hn, hQ => by
    show wpAny M A (if (m.runFor reTurnSteps).outcome.isSome = true then pure (m.runFor reTurnSteps) else do rule "sre.turn"; reDrive n (m.runFor reTurnSteps)) Q E s
    unfold drive at h
    by_cases q : reDone (m.runFor 4) = true
    · rw [if_pos q] at h
      cases h
      rw [if_pos (show (m.runFor reTurnSteps).outcome.isSome = true from q)]
      exact wpAny_pure hQ
    · rw [if_neg q] at h
      rw [if_neg (show ¬ (m.runFor reTurnSteps).outcome.isSome = true from q)]
      exact wpAny_bind (wpAny_rule (drive_wp k n _ _ h (Nat.le_of_succ_le_succ hn) hQ))
theorem rules_wp {M : Model} {α : Type} {p : α → Bool} {f : α → String} {Q : Unit → Shared → Prop} (hQ : Q () s) : ∀ l : List α,
    wpAny M A (forIn l PUnit.unit fun i _ => if p i = true then do rule (f i); pure (ForInStep.yield PUnit.unit) else pure (ForInStep.yield PUnit.unit)) (fun _ s' => Q () s') E s
  | [] => by rw [List.forIn_nil]; exact wpAny_pure hQ
  | a :: l => by
    rw [List.forIn_cons]
    refine wpAny_bind ?_
    by_cases q : p a = true
    · rw [if_pos q]
      exact wpAny_bind (wpAny_rule (wpAny_pure (rules_wp hQ l)))
    · rw [if_neg q]
      exact wpAny_pure (rules_wp hQ l)
theorem run_wp {M : Model} {m : Sre.M} {k : Nat} {m' : Sre.M} {Q : Option Sre.M → Shared → Prop} (h : drive k m = some m') (hk : k ≤ 2 ^ 64) (hf : reFell m' = true) (hQ : Q none s) : wpAny M A (reRunToEnd m) Q E s := by
  unfold reRunToEnd
  refine wpAny_bind (drive_wp k _ m m' h hk ?_)
  refine wpAny_bind ?_
  refine wpAny_mono (rules_wp (p := fun i => m'.seen.has i) (f := fun i => Sre.names.getD i "") (Q := fun _ s' => wpAny M A (match m'.outcome with
    | some .matched => pure (some m')
    | some .failed => pure none
    | some (.stuck why) => unsupported s!"_sre:{why}"
    | none => unsupported "internal:sre:no-outcome") Q E s') ?_ _) (fun _ _ x => x) fun _ _ x => x
  unfold reFell at hf
  split at hf
  · rename_i e
    rw [e]
    exact wpAny_pure hQ
  · cases hf
end
end Mine
end
section
open PySem PySem.W PySem.W.X PyProof.Rows
set_option Elab.async false
set_option maxRecDepth 100000
set_option maxHeartbeats 0
namespace Mine
local macro_rules | `(tactic| walk_at "none") => `(tactic| skip)
theorem rs5 : True := by w_top off; trivial
local macro_rules | `(tactic| omega) => `(tactic| lia)
open PySem.Builtin.Re
theorem re_slot : Slot "re.Pattern" "search" "re.Pattern.search" :=
  .of (owner := "re.Pattern") (n := "search") (by rw [typeLookup_type, builtinLookup_eq_fast]; kernel_rfl) (by decide +kernel) (by decide +kernel) (by decide +kernel)
    (by first | exact .inl (by decide +kernel) | exact .inr (by decide +kernel)) (by rw [isSubtype_type]; kernel_rfl)
theorem re_type : typeOf (.builtin "re.Pattern.search") = pure (.type "method_descriptor") := by show builtinType _ = _; rw [builtinType_eq_fast]; kernel_rfl
theorem re_entry : entryFor table "re.Pattern.search" = some Builtin.«re.Pattern.search» := by first | exact entryFor_of_tree (by kernel_rfl) | exact entryFor_of_fast (by kernel_rfl)
theorem re_plainAttrs : PlainAttrs "re.Pattern" := ⟨⟨"object.__getattribute__", by rw [typeLookup_type, builtinLookup_eq_fast]; kernel_rfl, by decide +kernel⟩, by rw [typeLookup_type, builtinLookup_eq_fast]; kernel_rfl⟩
theorem re_args (a b : Value) : argsOk "re.Pattern.search" ⟨[a, b], []⟩ := by
  unfold argsOk; rw [signature?_of (id := "re.Pattern.search") (n := "search".toList.reverse) (o := "re.Pattern".toList.reverse) (by kernel_rfl) (rows := (List.lookup "re.Pattern" Manifest.owners).getD []) (by kernel_rfl)]; kernel_rfl
theorem re_named (v : Value) : reNamed "re.Pattern.search" "search" ["string", "pos", "endpos"] 1 [v] [] = pure [some v, none, none] := by kernel_rfl
def patObj : Obj := { cls := .type "re.Pattern", data := .fields #[.str (Str.ofString "\\.\\d+$") 285, .int 256 312, .int 0 0, .none, .none, .ref 35, .int 0 0] }
def codeObj : Obj := { cls := .type "tuple", data := .seq #[.int 14 0, .int 8 0, .int 1 0, .int 2 0, .int 4294967295 0, .int 1 0, .int 1 0, .int 46 0, .int 0 0, .int 16 0, .int 46 0, .int 24 0, .int 9 0, .int 1 0, .int 4294967295 0, .int 13 0, .int 4 0, .int 8 0, .int 0 0, .int 0 0, .int 1 0, .int 6 0, .int 5 0, .int 1 0] }
theorem pat_in {w : World} {h : Heap} (X : (Mine.hd.heap_39 w.params).In h) : h.get? 36 = some patObj := X 36 patObj rfl
theorem code_in {w : World} {h : Heap} (X : (Mine.hd.heap_39 w.params).In h) : h.get? 35 = some codeObj := X 35 codeObj rfl
section
variable {prog : Program} {w : World} {A : Around} {E : Value → Shared → Prop} {s : Shared}
theorem run_none {M : Model} {x : Str} {code : Array Nat} {g : Nat} {Q : Option Sre.M → Shared → Prop} (hc : code = reCode) (hg : g = 0) (hx : noMatch x = true) (hQ : Q none s) :
    wpAny M A (reRunToEnd (Sre.forSearch code x.cps g 0 x.cps.size false)) Q E s := by
  subst hc hg
  unfold noMatch at hx
  split at hx
  · rename_i m' hm'
    exact run_wp (k := 400) (m' := m') hm' (by decide) hx hQ
  · cases hx
theorem getMethod_search {pl : Sem Bool} {Q : Value × List Value → Shared → Prop} (X : (Mine.hd.heap_39 w.params).In s.heap) (h : Q (.builtin "re.Pattern.search", [.ref 36]) s) :
    wpAny (model prog w) A (getMethod (.ref 36) (Str.ofString "search") pl) Q E s :=
  getMethod_builtin (T := "re.Pattern") ⟨_, pat_in X, rfl⟩ re_plainAttrs re_slot re_type (fun a e => by cases e; exact ⟨_, pat_in X, rfl⟩) h
theorem call_search {x : Str} {t : Tok} {Q : Value → Shared → Prop} (X : (Mine.hd.heap_39 w.params).In s.heap) (hx : noMatch x = true) (hz : x.length ≤ 1000) (h : Q .none s) :
    wpAny (model prog w) A (call (.builtin "re.Pattern.search") [.ref 36, .str x t]) Q E s := by
  refine wpAny_call_entry re_slot (T := "re.Pattern") ⟨_, pat_in X, rfl⟩ re_entry ?_ (re_args _ _)
  unfold Builtin.«re.Pattern.search» reTarget
  refine wpAny_bind ?_
  dsimp only
  refine wpAny_bind (wpAny_of_eq (re_named _) ?_)
  dsimp only
  refine wpAny_bind (wpAny_pure ?_)
  refine wpAny_bind (wpAny_pure ?_)
  refine wpAny_bind ?_
  show wpAny _ _ (load 36 >>= _) _ _ _
  refine wpAny_bind (wpAny_load (pat_in X) ?_)
  refine wpAny_pure ?_
  refine wpAny_bind (wpAny_of_eq (a := (x.cps, 0)) rfl ?_)
  dsimp only
  refine wpAny_ite ?_
  rw [if_neg (by decide)]
  refine wpAny_ite ?_
  rw [if_neg (by decide)]
  refine wpAny_bind (wpAny_of_eq (a := ()) rfl ?_)
  refine wpAny_bind ?_
  show wpAny _ _ (load 35 >>= _) _ _ _
  refine wpAny_bind (wpAny_load (code_in X) ?_)
  dsimp only
  refine wpAny_pure ?_
  refine wpAny_pure ?_
  unfold reAnswer
  refine wpAny_bind ?_
  dsimp only
  have hp : min (Int.toNat 0) x.cps.size = 0 := Nat.zero_min _
  have hl : min (Int.toNat (2 ^ 63 - 1)) x.cps.size = x.cps.size := Nat.min_eq_right (by
    have : x.cps.size ≤ 1000 := hz
    have h2 : Int.toNat (2 ^ 63 - 1) = 9223372036854775807 := by decide
    omega)
  rw [hp, hl]
  refine run_none (by decide +kernel) (by decide +kernel) hx ?_
  exact wpAny_pure ⟨_, rfl, h⟩
end
theorem noMatch_ex : noMatch (Str.ofString "a.b.c.local") = true := by decide +kernel
end Mine
end
section
open PySem PySem.Float64
set_option Elab.async false
namespace Mine
theorem rs6 : True := by w_top off; trivial
local macro_rules | `(tactic| omega) => `(tactic| lia)
theorem halfEven_mul (n d c : Nat) (hc : 0 < c) : halfEven (n * c) (d * c) = halfEven n d := by
  unfold halfEven
  have h1 : n * c / (d * c) = n / d := Nat.mul_div_mul_right n d hc
  have h2 : n * c % (d * c) = n % d * c := Nat.mul_mod_mul_right c n d
  rw [h1, h2]
  have e1 : (2 * (n % d * c) > d * c) = (2 * (n % d) > d) := by
    rw [← Nat.mul_assoc]
    exact propext (Nat.mul_lt_mul_right hc)
  have e2 : (2 * (n % d * c) == d * c) = (2 * (n % d) == d) := by
    rw [← Nat.mul_assoc, Bool.eq_iff_iff, beq_iff_eq, beq_iff_eq]
    constructor
    · intro h; exact Nat.eq_of_mul_eq_mul_right hc h
    · intro h; rw [h]
  simp only [e1, e2]
theorem log2_mul_pow (n r : Nat) (h : n ≠ 0) : (n * 2 ^ r).log2 = n.log2 + r := by
  induction r with
  | zero => simp
  | succ r ih =>
    rw [Nat.pow_succ, ← Nat.mul_assoc]
    have h2 : n * 2 ^ r ≠ 0 := Nat.mul_ne_zero h (Nat.pos_iff_ne_zero.mp (Nat.two_pow_pos r))
    rw [Nat.mul_comm (n * 2 ^ r) 2, Nat.log2_two_mul h2, ih]
    omega
theorem shift_mul (n d c : Nat) (k : Int) : shift (n * c) (d * c) k = ((shift n d k).1 * c, (shift n d k).2 * c) := by
  unfold shift
  split
  · simp only [Nat.mul_assoc, Nat.mul_comm c]
  · simp only [Nat.mul_assoc, Nat.mul_comm c]
/-- the rounding looks at the ratio alone, for a common factor under which the two lengths grow alike -/
theorem roundMag_scale {n d c : Nat} (hc : 0 < c) (hl : n ≠ 0 → ((n * c).log2 : Int) - ((d * c).log2 : Int) = (n.log2 : Int) - (d.log2 : Int)) : roundMag (n * c) (d * c) = roundMag n d := by
  by_cases h0 : n = 0
  · subst h0; simp [roundMag]
  have hn : n * c ≠ 0 := Nat.mul_ne_zero h0 (Nat.pos_iff_ne_zero.mp hc)
  unfold roundMag
  have e0 : (n * c == 0) = false := by simpa using hn
  have e1 : (n == 0) = false := by simpa using h0
  rw [e0, e1]
  simp only [Bool.false_eq_true, if_false]
  rw [hl h0]
  simp only [shift_mul]
  have e2 : ∀ x y : Nat, (x * c ≥ y * c) = (x ≥ y) := fun x y => propext (Nat.mul_le_mul_right_iff hc)
  simp only [e2, halfEven_mul _ _ _ hc]
theorem roundMag_pow {n d : Nat} (r : Nat) (hd : d ≠ 0) : roundMag (n * 2 ^ r) (d * 2 ^ r) = roundMag n d :=
  roundMag_scale (Nat.two_pow_pos r) fun h => by rw [log2_mul_pow n r h, log2_mul_pow d r hd]; omega
theorem ofFrac_pow {s : Bool} {n d : Nat} (r : Nat) (hd : d ≠ 0) : ofFrac s (n * 2 ^ r) (d * 2 ^ r) = ofFrac s n d := by
  unfold ofFrac; rw [roundMag_pow r hd]
theorem ofBin_neg {s : Bool} {n r : Nat} {e : Int} (he : e = -(r : Int)) : ofBin s (n * 2 ^ r) e = ofFrac s n 1 := by
  subst he
  unfold ofBin shift
  by_cases hr : r = 0
  · subst hr; simp
  · rw [if_neg (by omega)]
    have : (- -(r : Int)).toNat = r := by omega
    simp only [this]
    exact ofFrac_pow r (by decide)
/-- the float x is the int n (a nought may bear a minus) -/
def FI (x : UInt64) (n : Int) : Prop := ∃ (s : Bool) (r : Nat), decode x = .fin s (n.natAbs * 2 ^ r) (-(r : Int)) ∧ (n ≠ 0 → s = decide (n < 0))
end Mine
end
section
open PySem PySem.Float64
set_option Elab.async false
set_option maxRecDepth 10000
namespace Mine
local macro_rules | `(tactic| walk_at "none") => `(tactic| skip)
theorem rs7 : True := by w_top off; trivial
local macro_rules | `(tactic| omega) => `(tactic| lia)
theorem halfEven_one (n : Nat) : halfEven n 1 = n := by
  unfold halfEven
  simp [Nat.mod_one]
theorem roundMag_int {a : Nat} (h0 : a ≠ 0) (h : a < 2 ^ 53) : roundMag a 1 = (a.log2 + 1022) * 2 ^ 52 + a * 2 ^ (52 - a.log2) := by
  have hl1 := Nat.log2_self_le h0
  have hl2 : a < 2 ^ (a.log2 + 1) := Nat.lt_log2_self
  have hl3 : a.log2 < 53 := (Nat.log2_lt h0).2 h
  rw [roundMag_eq a 1 h0, log2_one]
  generalize hL : a.log2 = L at *
  have hge : (shift a 1 (-((L : Int) - ((0 : Nat) : Int)))).1 ≥ (shift a 1 (-((L : Int) - ((0 : Nat) : Int)))).2 := by
    have e1 : -((L : Int) - ((0 : Nat) : Int)) = -(L : Int) := by omega
    rw [e1]
    by_cases hL : L = 0
    · subst hL; unfold shift; simp; omega
    · rw [shift_negNat a 1 L (by omega)]; simpa using hl1
  rw [if_pos hge]
  have e2 : max ((L : Int) - ((0 : Nat) : Int) - 52) (-1074) = (L : Int) - 52 := by omega
  rw [e2]
  have e3 : -((L : Int) - 52) = ((52 - L : Nat) : Int) := by omega
  rw [e3, shift_nat]
  simp only [halfEven_one]
  have e4 : ((L : Int) - 52 + 1074).toNat = L + 1022 := by omega
  rw [e4]
  have hpow : a * 2 ^ (52 - L) < 2 ^ 53 := by
    have : a * 2 ^ (52 - L) < 2 ^ (L + 1) * 2 ^ (52 - L) := Nat.mul_lt_mul_of_pos_right hl2 (Nat.two_pow_pos _)
    rw [← Nat.pow_add] at this
    have e : L + 1 + (52 - L) = 53 := by omega
    rwa [e] at this
  refine Nat.min_eq_right ?_
  have hm : infMag = 9218868437227405312 := by unfold infMag; decide
  rw [hm]
  generalize a * 2 ^ (52 - L) = M at hpow ⊢
  have e7 : (2 : Nat) ^ 52 = 4503599627370496 := by decide
  have e8 : (2 : Nat) ^ 53 = 9007199254740992 := by decide
  rw [e8] at hpow
  rw [e7]
  omega
theorem e6_of {L : Nat} (h : L < 53) : ((L + 1023 : Nat) : Int) - 1075 = -((52 - L : Nat) : Int) := by omega +splitDisjunctions
theorem hx_of (B c n m : Nat) : c * (B * 2048) + (n * B + (B + m)) = (c * 2048 + (n + 1)) * B + m := by
  rw [Nat.add_mul, Nat.succ_mul, Nat.mul_assoc c 2048 B, Nat.mul_comm 2048 B]; simp only [Nat.add_assoc]
theorem dm_of {a b B : Nat} (h : b < B) : (a * B + b) / B = a ∧ (a * B + b) % B = b :=
  ⟨by rw [Nat.mul_comm, Nat.mul_add_div (Nat.lt_of_le_of_lt (Nat.zero_le _) h), Nat.div_eq_of_lt h, Nat.add_zero], by rw [Nat.mul_comm, Nat.mul_add_mod, Nat.mod_eq_of_lt h]⟩
theorem decode_int {s : Bool} {a : Nat} (h0 : a ≠ 0) (h : a < 2 ^ 53) : decode (pack s (roundMag a 1)) = .fin s (a * 2 ^ (52 - a.log2)) (-((52 - a.log2 : Nat) : Int)) := by
  have hl1 := Nat.log2_self_le h0
  have hl2 : a < 2 ^ (a.log2 + 1) := Nat.lt_log2_self
  have hl3 : a.log2 < 53 := (Nat.log2_lt h0).2 h
  rw [roundMag_int h0 h]
  generalize hL : a.log2 = L at *
  have hlo : 2 ^ 52 ≤ a * 2 ^ (52 - L) := by
    have : 2 ^ L * 2 ^ (52 - L) ≤ a * 2 ^ (52 - L) := Nat.mul_le_mul_right _ hl1
    rw [← Nat.pow_add] at this
    have e : L + (52 - L) = 52 := by omega +splitDisjunctions
    rwa [e] at this
  have hhi : a * 2 ^ (52 - L) < 2 ^ 53 := by
    have : a * 2 ^ (52 - L) < 2 ^ (L + 1) * 2 ^ (52 - L) := Nat.mul_lt_mul_of_pos_right hl2 (Nat.two_pow_pos _)
    rw [← Nat.pow_add] at this
    have e : L + 1 + (52 - L) = 53 := by omega +splitDisjunctions
    rwa [e] at this
  generalize a * 2 ^ (52 - L) = M at *
  obtain ⟨M', rfl⟩ : ∃ M', M = 2 ^ 52 + M' := ⟨M - 2 ^ 52, (Nat.add_sub_of_le hlo).symm⟩
  have hM : M' < 2 ^ 52 := Nat.lt_of_add_lt_add_left (n := 2 ^ 52) hhi
  have hL3 : L + 1023 < 2048 := Nat.add_lt_add_right (m := 1025) (Nat.lt_of_lt_of_le hl3 (by decide)) 1023
  clear hl1 hl2 hlo hhi
  have hx : ∀ c : Nat, c * 2 ^ 63 + ((L + 1022) * 2 ^ 52 + (2 ^ 52 + M')) = (c * 2048 + (L + 1023)) * 2 ^ 52 + M' := fun c => hx_of (2 ^ 52) c (L + 1022) M'
  have hm : (L + 1022) * 2 ^ 52 + (2 ^ 52 + M') < 2 ^ 63 := by
    have e := hx 0
    simp only [Nat.zero_mul, Nat.zero_add] at e
    rw [e]
    exact Nat.lt_of_lt_of_le (Nat.add_lt_add_left hM _) (by rw [← Nat.succ_mul]; exact Nat.mul_le_mul_right _ hL3)
  unfold decode
  rw [toNat_pack s hm]
  have hs : (if s = true then 2 ^ 63 else 0 : Nat) = (if s = true then 1 else 0) * 2 ^ 63 := by cases s <;> rfl
  rw [hs]
  generalize hc : (if s = true then 1 else 0 : Nat) = c
  rw [hx c]
  obtain ⟨q4, q3⟩ := dm_of (a := c * 2048 + (L + 1023)) hM
  obtain ⟨q5, q6⟩ := dm_of (a := c) hL3
  have q1 : ((c * 2048 + (L + 1023)) * 2 ^ 52 + M') / 2 ^ 63 = c := by
    rw [show (2 : Nat) ^ 63 = 2 ^ 52 * 2048 from rfl, ← Nat.div_div_eq_div_mul, q4, q5]
  have q2 : ((c * 2048 + (L + 1023)) * 2 ^ 52 + M') / 2 ^ 52 % 2048 = L + 1023 := by rw [q4, q6]
  simp only [q1, q2, q3]
  have n1 : (L + 1023 == 2047) = false := beq_eq_false_iff_ne.mpr (Nat.ne_of_lt (Nat.add_lt_add_right (Nat.lt_of_lt_of_le hl3 (by decide)) 1023))
  have n2 : (L + 1023 == 0) = false := rfl
  simp only [n1, n2, Bool.false_eq_true, if_false]
  have e6 : ((L + 1023 : Nat) : Int) - 1075 = -((52 - L : Nat) : Int) := e6_of hl3
  rw [e6, ← hc]
  cases s <;> rfl
theorem fi_zero (s : Bool) : FI (zero s) 0 := by
  refine ⟨s, 1074, ?_, fun h => absurd rfl h⟩
  cases s <;> kernel_rfl
theorem fi_ofFrac {n : Int} (h : n.natAbs < 2 ^ 53) {s : Bool} (hs : n ≠ 0 → s = decide (n < 0)) : FI (ofFrac s n.natAbs 1) n := by
  by_cases h0 : n = 0
  · subst h0
    have : ofFrac s (Int.natAbs 0) 1 = zero s := by cases s <;> kernel_rfl
    rw [this]; exact fi_zero s
  · refine ⟨s, 52 - n.natAbs.log2, ?_, hs⟩
    unfold ofFrac
    exact decode_int (by omega) h
theorem fi_ofInt {n : Int} (h : n.natAbs < 2 ^ 53) : FI (ofInt n) n := by
  unfold ofInt
  exact fi_ofFrac h fun _ => rfl
theorem FI.fin {x : UInt64} {n : Int} (h : FI x n) : isFinite x = true := by
  obtain ⟨s, r, hd, _⟩ := h
  unfold isFinite; rw [hd]
theorem FI.sgn {x : UInt64} {n : Int} {s : Bool} {r : Nat} (hs : n ≠ 0 → s = decide (n < 0)) : Float64.sgn s (n.natAbs * 2 ^ r) = n * 2 ^ r := by
  unfold Float64.sgn
  by_cases h0 : n = 0
  · subst h0; cases s <;> simp
  · rw [hs h0]
    by_cases hn : n < 0
    · rw [decide_eq_true hn]
      simp only [if_true]
      rw [Int.natCast_mul, ← Int.neg_mul]
      have : -(n.natAbs : Int) = n := by omega
      rw [this, Int.natCast_pow]; rfl
    · rw [decide_eq_false hn]
      simp only [Bool.false_eq_true, if_false]
      rw [Int.natCast_mul]
      have : (n.natAbs : Int) = n := by omega
      rw [this, Int.natCast_pow]; rfl
theorem align_fi {n k : Int} {s1 s2 : Bool} {r1 r2 : Nat} (h1 : n ≠ 0 → s1 = decide (n < 0)) (h2 : k ≠ 0 → s2 = decide (k < 0)) :
    ∃ r : Nat, align s1 (n.natAbs * 2 ^ r1) (-(r1 : Int)) s2 (k.natAbs * 2 ^ r2) (-(r2 : Int)) = (n * 2 ^ r, k * 2 ^ r, -(r : Int)) := by
  refine ⟨max r1 r2, ?_⟩
  unfold align
  have e0 : min (-(r1 : Int)) (-(r2 : Int)) = -((max r1 r2 : Nat) : Int) := by omega
  have e1 : (-(r1 : Int) - -((max r1 r2 : Nat) : Int)).toNat = max r1 r2 - r1 := by omega
  have e2 : (-(r2 : Int) - -((max r1 r2 : Nat) : Int)).toNat = max r1 r2 - r2 := by omega
  simp only [e0, e1, e2, Nat.mul_assoc, ← Nat.pow_add]
  have e3 : r1 + (max r1 r2 - r1) = max r1 r2 := by omega
  have e4 : r2 + (max r1 r2 - r2) = max r1 r2 := by omega
  rw [e3, e4, FI.sgn (x := 0) h1, FI.sgn (x := 0) h2]
theorem natAbs_mul_pow (n : Int) (r : Nat) : (n * 2 ^ r).natAbs = n.natAbs * 2 ^ r := by
  rw [Int.natAbs_mul, Int.natAbs_pow]; rfl
theorem neg_mul_pow (n : Int) (r : Nat) : (n * 2 ^ r < 0) = (n < 0) := by
  apply propext
  have hp : (0 : Int) < 2 ^ r := Int.pow_pos (by decide)
  constructor
  · intro h
    apply Int.not_le.mp
    intro hn
    exact absurd (Int.mul_nonneg hn (Int.le_of_lt hp)) (Int.not_le.mpr h)
  · intro h
    exact Int.mul_neg_of_neg_of_pos h hp
theorem zero_mul_pow (n : Int) (r : Nat) : (n * 2 ^ r = 0) = (n = 0) := by
  apply propext
  have hp : (2 : Int) ^ r ≠ 0 := Int.ne_of_gt (Int.pow_pos (by decide))
  rw [Int.mul_eq_zero]
  constructor
  · rintro (h | h)
    · exact h
    · exact absurd h hp
  · exact .inl
theorem add_val {x y : UInt64} {n k : Int} (hx : FI x n) (hy : FI y k) : FI (add x y) (n + k) ∧ (n + k ≠ 0 → add x y = ofInt (n + k)) ∨ ¬ (n + k).natAbs < 2 ^ 53 := by
  by_cases hb : (n + k).natAbs < 2 ^ 53
  · left
    obtain ⟨s1, r1, d1, h1⟩ := hx
    obtain ⟨s2, r2, d2, h2⟩ := hy
    obtain ⟨r, ha⟩ := align_fi (r1 := r1) (r2 := r2) h1 h2
    have hadd : add x y = if n + k = 0 then zero (s1 && s2) else ofInt (n + k) := by
      unfold add
      rw [d1, d2]
      dsimp only
      rw [ha]
      dsimp only
      rw [← Int.add_mul]
      have z := zero_mul_pow (n + k) r
      by_cases h0 : n + k = 0
      · rw [if_pos h0, h0]; simp
      · rw [if_neg h0]
        have : ((n + k) * 2 ^ r == 0) = false := by
          rw [beq_eq_false_iff_ne]; intro q; exact h0 (z ▸ q)
        rw [this]
        simp only [Bool.false_eq_true, if_false]
        rw [natAbs_mul_pow, ofBin_neg rfl]
        unfold ofInt
        congr 1
        exact decide_eq_decide.mpr (by rw [neg_mul_pow])
    rw [hadd]
    split
    · rename_i h0
      exact ⟨by rw [h0]; exact fi_zero _, fun h => absurd h0 h⟩
    · exact ⟨fi_ofInt hb, fun _ => rfl⟩
  · exact .inr hb
theorem add_fi {x y : UInt64} {n k : Int} (hx : FI x n) (hy : FI y k) (hb : (n + k).natAbs < 2 ^ 53) : FI (add x y) (n + k) := by
  rcases add_val hx hy with h | h
  · exact h.1
  · exact absurd hb h
theorem mul_fi {x y : UInt64} {n k : Int} (hx : FI x n) (hy : FI y k) (hb : (n * k).natAbs < 2 ^ 53) : FI (mul x y) (n * k) := by
  obtain ⟨s1, r1, d1, h1⟩ := hx
  obtain ⟨s2, r2, d2, h2⟩ := hy
  have : mul x y = ofFrac (s1 != s2) (n * k).natAbs 1 := by
    unfold mul
    rw [d1, d2]
    dsimp only
    have e : n.natAbs * 2 ^ r1 * (k.natAbs * 2 ^ r2) = (n * k).natAbs * 2 ^ (r1 + r2) := by
      rw [Int.natAbs_mul, Nat.pow_add]; simp only [Nat.mul_assoc, Nat.mul_left_comm, Nat.mul_comm]
    rw [e, ofBin_neg (by omega)]
  rw [this]
  refine fi_ofFrac hb fun h0 => ?_
  have hn : n ≠ 0 := fun q => h0 (by rw [q, Int.zero_mul])
  have hk : k ≠ 0 := fun q => h0 (by rw [q, Int.mul_zero])
  rw [h1 hn, h2 hk]
  by_cases a : n < 0 <;> by_cases b : k < 0
  · have : ¬ n * k < 0 := Int.not_lt.mpr (Int.le_of_lt (Int.mul_pos_of_neg_of_neg a b)); simp [a, b, this]
  · have : n * k < 0 := Int.mul_neg_of_neg_of_pos a (by omega); simp [a, b, this]
  · have : n * k < 0 := Int.mul_neg_of_pos_of_neg (by omega) b; simp [a, b, this]
  · have : ¬ n * k < 0 := Int.not_lt.mpr (Int.mul_nonneg (by omega) (by omega)); simp [a, b, this]
theorem neg_fi {x : UInt64} {n : Int} (hx : FI x n) : FI (neg x) (-n) := by
  obtain ⟨s, r, d, h⟩ := hx
  refine ⟨!s, r, ?_, fun h0 => ?_⟩
  · rw [Int.natAbs_neg]; exact neg_decode d
  · rw [h (by omega)]
    by_cases hn : n < 0
    · rw [decide_eq_true hn, decide_eq_false (show ¬ (-n < 0) by omega)]; rfl
    · rw [decide_eq_false hn, decide_eq_true (show -n < 0 by omega)]; rfl
theorem sub_fi {x y : UInt64} {n k : Int} (hx : FI x n) (hy : FI y k) (hb : (n - k).natAbs < 2 ^ 53) : FI (sub x y) (n - k) := by
  unfold sub
  have := add_fi hx (neg_fi hy) (by rw [← Int.sub_eq_add_neg]; exact hb)
  rw [← Int.sub_eq_add_neg] at this
  exact this
theorem compare_mul_pow (n k : Int) (r : Nat) : compare (n * 2 ^ r) (k * 2 ^ r) = compare n k := by
  have hp : (0 : Int) < 2 ^ r := Int.pow_pos (by decide)
  have h1 : (n * 2 ^ r < k * 2 ^ r) = (n < k) := propext (Int.mul_lt_mul_right hp)
  have h2 : (n * 2 ^ r = k * 2 ^ r) = (n = k) := propext ⟨fun h => Int.eq_of_mul_eq_mul_right (Int.ne_of_gt hp) h, fun h => by rw [h]⟩
  show compareOfLessAndEq _ _ = compareOfLessAndEq _ _
  unfold compareOfLessAndEq
  simp only [h1, h2]
theorem cmp_fi {x y : UInt64} {n k : Int} (hx : FI x n) (hy : FI y k) : cmp x y = some (compare n k) := by
  obtain ⟨s1, r1, d1, h1⟩ := hx
  obtain ⟨s2, r2, d2, h2⟩ := hy
  obtain ⟨r, ha⟩ := align_fi (r1 := r1) (r2 := r2) h1 h2
  unfold cmp
  rw [d1, d2]
  dsimp only
  rw [ha]
  dsimp only
  rw [compare_mul_pow]
theorem isZero_fi {x : UInt64} {n : Int} (hx : FI x n) : isZero x = decide (n = 0) := by
  obtain ⟨s, r, d, h⟩ := hx
  unfold isZero
  rw [d]
  by_cases h0 : n = 0
  · subst h0; simp
  · have : n.natAbs * 2 ^ r ≠ 0 := Nat.mul_ne_zero (by omega) (Nat.pos_iff_ne_zero.mp (Nat.two_pow_pos r))
    rw [decide_eq_false h0]
    generalize n.natAbs * 2 ^ r = M at this
    cases M with
    | zero => exact absurd rfl this
    | succ _ => rfl
theorem div_fi {x y : UInt64} {n k : Int} (hx : FI x n) (hy : FI y k) (hk : k ≠ 0) : ∃ s : Bool, (n ≠ 0 → s = (decide (n < 0) != decide (k < 0))) ∧ div x y = ofFrac s n.natAbs k.natAbs := by
  obtain ⟨s1, r1, d1, h1⟩ := hx
  obtain ⟨s2, r2, d2, h2⟩ := hy
  refine ⟨s1 != s2, fun hn => by rw [h1 hn, h2 hk], ?_⟩
  unfold div
  rw [d1, d2]
  dsimp only
  have hk2 : k.natAbs * 2 ^ r2 ≠ 0 := Nat.mul_ne_zero (by omega) (Nat.pos_iff_ne_zero.mp (Nat.two_pow_pos r2))
  have e0 : (k.natAbs * 2 ^ r2 == 0) = false := by rw [beq_eq_false_iff_ne]; exact hk2
  rw [e0]
  simp only [Bool.false_eq_true, if_false]
  unfold shift
  split
  · rename_i hge
    have e1 : ((-(r1 : Int)) - (-(r2 : Int))).toNat = r2 - r1 := by omega
    simp only [e1, Nat.mul_assoc, ← Nat.pow_add]
    have e2 : r1 + (r2 - r1) = r2 := by omega
    rw [e2]
    exact ofFrac_pow r2 (by omega)
  · rename_i hlt
    have e1 : (-((-(r1 : Int)) - (-(r2 : Int)))).toNat = r1 - r2 := by omega
    simp only [e1, Nat.mul_assoc, ← Nat.pow_add]
    have e2 : r2 + (r1 - r2) = r1 := by omega
    rw [e2]
    exact ofFrac_pow r1 (by omega)
theorem log2_two (c : Nat) (hc : 0 < c) : (2 * c).log2 = c.log2 + 1 := Nat.log2_two_mul (Nat.pos_iff_ne_zero.mp hc)
theorem frac_half {s : Bool} {c : Nat} (hc : 0 < c) : ofFrac s c (2 * c) = ofFrac s 1 2 := by
  unfold ofFrac
  have := roundMag_scale (n := 1) (d := 2) hc fun _ => by
    rw [Nat.one_mul, log2_two c hc]
    have : (2 : Nat).log2 = 1 := by simpa using Nat.log2_two_pow (n := 1)
    have h1 := log2_one
    omega
  rw [Nat.one_mul] at this
  rw [this]
theorem frac_one {s : Bool} {c : Nat} (hc : 0 < c) : ofFrac s c c = ofFrac s 1 1 := by
  unfold ofFrac
  have := roundMag_scale (n := 1) (d := 1) hc fun _ => by rw [Nat.one_mul]; omega
  rw [Nat.one_mul] at this
  rw [this]
theorem frac_zero {s : Bool} {c : Nat} : ofFrac s 0 c = zero s := by
  unfold ofFrac zero roundMag; rfl
end Mine
end
section
open PySem PySem.W PyProof.Rows PySem.Float64
set_option Elab.async false
set_option maxRecDepth 10000
namespace Mine
theorem rs8 : True := by w_top off; trivial
local macro_rules | `(tactic| omega) => `(tactic| lia)
theorem cmpInt_fi {x : UInt64} {n i : Int} (hx : FI x n) : cmpInt x i = some (compare n i) := by
  obtain ⟨s, r, d, h⟩ := hx
  unfold cmpInt
  rw [d]
  dsimp only
  by_cases hr : r = 0
  · subst hr
    have e : Float64.sgn s (n.natAbs * 2 ^ 0) = n * 2 ^ 0 := FI.sgn (x := 0) h
    rw [if_pos (by decide)]
    have e2 : ((-((0 : Nat) : Int)).toNat) = 0 := by decide
    rw [e, e2]; simp
  · rw [if_neg (by omega)]
    have e2 : (- -(r : Int)).toNat = r := by omega
    rw [FI.sgn (x := 0) h, e2]
    exact congrArg some (compare_mul_pow n i r)
/-- the value is the number n: an int, or a float that is one -/
def Den (v : Value) (n : Int) : Prop := (∃ t, v = .int n t) ∨ ∃ b t, v = .float b t ∧ FI b n
theorem Den.int (n : Int) (t : Tok) : Den (.int n t) n := .inl ⟨t, rfl⟩
theorem Den.flt {b : UInt64} {n : Int} (h : FI b n) (t : Tok) : Den (.float b t) n := .inr ⟨b, t, rfl, h⟩
abbrev Small (n : Int) : Prop := n.natAbs < 2 ^ 53
theorem not_inf_small {n : Int} (h : Small n) : isInf (ofInt n) = false := by
  obtain ⟨s, r, d, _⟩ := fi_ofInt h
  unfold isInf; rw [d]
abbrev Small' (n : Int) : Prop := n.natAbs < 2 ^ 53
theorem small_over {n : Int} (h : Small n) : ¬ (2 ^ 1024 - 2 ^ 970 ≤ n.natAbs) := by
  have : (2 : Nat) ^ 53 ≤ 2 ^ 1024 - 2 ^ 970 := by decide +kernel
  unfold Small at h
  omega
section
variable {prog : Program} {w : World} {A : Around} {E : Value → Shared → Prop} {s : Shared} {u v : Value} {a b : Int} {Q : Value → Shared → Prop}
theorem den_add (hh : A.handled = none) (hu : Den u a) (hv : Den v b) (ha : Small a) (hb : Small b) (hab : Small (a + b)) (h : ∀ r tk, Den r (a + b) → Q r { s with toks := tk }) :
    wpAny (model prog w) A (binaryOp .Add u v) Q E s := by
  rcases hu with ⟨t, rfl⟩ | ⟨x, t, rfl, hx⟩ <;> rcases hv with ⟨t', rfl⟩ | ⟨y, t', rfl, hy⟩
  · exact add_int (h _ _ (.int _ _))
  · exact add_if_sharp hh (fun q => absurd q (small_over ha)) fun _ => h _ _ (.flt (add_fi (fi_ofInt ha) hy hab) _)
  · exact add_fi_sharp hh (fun q => absurd q (small_over hb)) fun _ => h _ _ (.flt (add_fi hx (fi_ofInt hb) hab) _)
  · exact add_float (h _ _ (.flt (add_fi hx hy hab) _))
theorem den_sub (hh : A.handled = none) (hu : Den u a) (hv : Den v b) (ha : Small a) (hb : Small b) (hab : Small (a - b)) (h : ∀ r tk, Den r (a - b) → Q r { s with toks := tk }) :
    wpAny (model prog w) A (binaryOp .Sub u v) Q E s := by
  rcases hu with ⟨t, rfl⟩ | ⟨x, t, rfl, hx⟩ <;> rcases hv with ⟨t', rfl⟩ | ⟨y, t', rfl, hy⟩
  · exact sub_int (h _ _ (.int _ _))
  · exact sub_if_sharp hh (fun q => absurd q (small_over ha)) fun _ => h _ _ (.flt (sub_fi (fi_ofInt ha) hy hab) _)
  · exact sub_fi_sharp hh (fun q => absurd q (small_over hb)) fun _ => h _ _ (.flt (sub_fi hx (fi_ofInt hb) hab) _)
  · exact sub_float (h _ _ (.flt (sub_fi hx hy hab) _))
theorem cmp_eq_dec (a b : Int) : (some (compare a b) == some Ordering.eq) = decide (a = b) := by
  by_cases h : a = b
  · subst h; rw [decide_eq_true rfl, Int.compare_eq_eq.mpr rfl]; rfl
  · rw [decide_eq_false h]
    cases e : compare a b with
    | eq => exact absurd (Int.compare_eq_eq.mp e) h
    | lt => rfl
    | gt => rfl
theorem cmp_lt_dec (a b : Int) : (some (compare a b) == some Ordering.lt) = decide (a < b) := by
  by_cases h : a < b
  · rw [decide_eq_true h, Int.compare_eq_lt.mpr h]; rfl
  · rw [decide_eq_false h]
    cases e : compare a b with
    | lt => exact absurd (Int.compare_eq_lt.mp e) h
    | eq => rfl
    | gt => rfl
theorem cmp_gt_dec (a b : Int) : (some (compare a b) == some Ordering.gt) = decide (b < a) := by
  by_cases h : b < a
  · rw [decide_eq_true h, Int.compare_eq_gt.mpr h]; rfl
  · rw [decide_eq_false h]
    cases e : compare a b with
    | gt => exact absurd (Int.compare_eq_gt.mp e) h
    | eq => rfl
    | lt => rfl
theorem den_eq (hu : Den u a) (hv : Den v b) (h : Q (.bool (decide (a = b))) s) : wpAny (model prog w) A (compareOp .Eq u v) Q E s := by
  rcases hu with ⟨t, rfl⟩ | ⟨x, t, rfl, hx⟩ <;> rcases hv with ⟨t', rfl⟩ | ⟨y, t', rfl, hy⟩
  · refine eq_int ?_
    have : (a == b) = decide (a = b) := by by_cases q : a = b <;> simp [q]
    rw [this]; exact h
  · refine eq_if ?_
    rw [cmpInt_fi hy, cmp_eq_dec]
    have : decide (b = a) = decide (a = b) := decide_eq_decide.mpr eq_comm
    rw [this]; exact h
  · refine eq_fi ?_
    rw [cmpInt_fi hx, cmp_eq_dec]; exact h
  · refine AutoFloatOps.eq_0 ?_
    rw [cmp_fi hx hy, cmp_eq_dec]; exact h
theorem den_lt (hu : Den u a) (hv : Den v b) (h : Q (.bool (decide (a < b))) s) : wpAny (model prog w) A (compareOp .Lt u v) Q E s := by
  rcases hu with ⟨t, rfl⟩ | ⟨x, t, rfl, hx⟩ <;> rcases hv with ⟨t', rfl⟩ | ⟨y, t', rfl, hy⟩
  · exact lt_int h
  · refine lt_if ?_
    rw [cmpInt_fi hy, cmp_gt_dec]; exact h
  · refine lt_fi ?_
    rw [cmpInt_fi hx, cmp_lt_dec]; exact h
  · refine AutoFloatOps.lt_0 ?_
    rw [cmp_fi hx hy, cmp_lt_dec]; exact h
theorem den_gt (hu : Den u a) (hv : Den v b) (h : Q (.bool (decide (b < a))) s) : wpAny (model prog w) A (compareOp .Gt u v) Q E s := by
  rcases hu with ⟨t, rfl⟩ | ⟨x, t, rfl, hx⟩ <;> rcases hv with ⟨t', rfl⟩ | ⟨y, t', rfl, hy⟩
  · exact gt_int h
  · refine gt_if ?_
    rw [cmpInt_fi hy, cmp_lt_dec]; exact h
  · refine gt_fi ?_
    rw [cmpInt_fi hx, cmp_gt_dec]; exact h
  · refine AutoFloatOps.gt_0 ?_
    rw [cmp_fi hx hy, cmp_gt_dec]; exact h
end
/-- the place of the best of three, by the first that is not beaten -/
def vals (a b c : Int) : Nat → Int
  | 0 => a
  | 1 => b
  | _ => c
theorem den_at {u v z : Value} {a b c : Int} (hu : Den u a) (hv : Den v b) (hz : Den z c) {i : Nat} {x : Value} (h : (#[u, v, z] : Array Value)[i]? = some x) : Den x (vals a b c i) := by
  match i, h with
  | 0, h => cases h; exact hu
  | 1, h => cases h; exact hv
  | 2, h => cases h; exact hz
  | n + 3, h => simp at h
theorem arg2 (bt : Nat → Nat → Bool) : argBest bt 2 = if bt 1 0 = true then (if bt 2 1 = true then 2 else 1) else (if bt 2 0 = true then 2 else 0) := by
  show (if bt 2 (if bt 1 0 = true then 1 else 0) = true then 2 else if bt 1 0 = true then 1 else 0) = _
  by_cases h1 : bt 1 0 = true
  · rw [if_pos h1, if_pos h1]
  · rw [if_neg h1, if_neg h1]
theorem best_max (a b c : Int) : vals a b c (argBest (fun i j => decide (vals a b c j < vals a b c i)) 2) = max a (max b c) := by
  rw [arg2]
  simp only [decide_eq_true_eq]
  show vals a b c (if a < b then (if b < c then 2 else 1) else (if a < c then 2 else 0)) = _
  by_cases h1 : a < b
  · rw [if_pos h1]
    by_cases h2 : b < c
    · rw [if_pos h2]; show c = _; omega
    · rw [if_neg h2]; show b = _; omega
  · rw [if_neg h1]
    by_cases h2 : a < c
    · rw [if_pos h2]; show c = _; omega
    · rw [if_neg h2]; show a = _; omega
theorem best_min (a b c : Int) : vals a b c (argBest (fun i j => decide (vals a b c i < vals a b c j)) 2) = min a (min b c) := by
  rw [arg2]
  simp only [decide_eq_true_eq]
  show vals a b c (if b < a then (if c < b then 2 else 1) else (if c < a then 2 else 0)) = _
  by_cases h1 : b < a
  · rw [if_pos h1]
    by_cases h2 : c < b
    · rw [if_pos h2]; show c = _; omega
    · rw [if_neg h2]; show b = _; omega
  · rw [if_neg h1]
    by_cases h2 : c < a
    · rw [if_pos h2]; show c = _; omega
    · rw [if_neg h2]; show a = _; omega
section
variable {prog : Program} {w : World} {A : Around} {E : Value → Shared → Prop} {s : Shared} {u v z : Value} {a b c : Int} {Q : Value → Shared → Prop} {h₀ : Heap} {L : Addr} {m : Str → Option Value} {news : List (Addr × Obj)}
theorem den_max3 (hh : A.handled = none) (hu : Den u a) (hv : Den v b) (hz : Den z c) (F : Fr h₀ L s.heap m) (N : News h₀ L s.heap news)
    (h : ∀ r h' tk, Den r (max a (max b c)) → Fr h₀ L h' m → News h₀ L h' news → Q r { s with heap := h', toks := tk }) : wpAny (model prog w) A (call (.builtin "max") [u, v, z]) Q E s := by
  have hT : (s.heap.push { cls := .type "tuple", data := .seq #[u, v, z] }).IsTuple s.heap.objs.size #[u, v, z] := ⟨_, Heap.get?_push_size _ rfl, rfl, 0, rfl⟩
  refine call_max_three (wpAny_pyIter_tuple hT ?_)
  have hsz : (s.heap.push { cls := .type "tuple", data := .seq #[u, v, z] }).objs.size = s.heap.objs.size + 1 := Heap.size_push ..
  refine ⟨_, [_, s.heap.objs.size], [_], _, _, _, fun i j => decide (vals a b c j < vals a b c i), rfl, Walks.tuple (A := A.in1) hh _ s.heap.objs.size (by rw [hsz]; exact Nat.ne_of_lt (Nat.lt_succ_self _)) #[u, v, z],
    ⟨⟨_, Heap.get?_push_size _ rfl, rfl, rfl⟩, hT.push _⟩, fun d hd => ?_, Nat.succ_pos _, fun i j vi vj s Q E hi hj h => den_gt (den_at hu hv hz hi) (den_at hu hv hz hj) h, fun r h' tk hP hk => ?_⟩
  · show d < ((s.heap.push _).push _).objs.size
    rw [Heap.size_push, hsz]
    rcases List.mem_cons.mp hd with rfl | hd
    · rw [hsz]; exact Nat.lt_succ_self _
    · rcases List.mem_cons.mp hd with rfl | hd
      · exact Nat.lt_succ_of_lt (Nat.lt_succ_self _)
      · cases hd
  · have hold : ∀ d o, s.heap.get? d = some o → h'.get? d = some o := fun d o e => by
      refine hk d o (fun hm => ?_) (Heap.get?_push_of_some _ (Heap.get?_push_of_some _ e))
      rcases List.mem_cons.mp hm with e1 | hm
      · have := Heap.lt_size e; rw [e1, hsz] at this; exact Nat.lt_irrefl _ (Nat.lt_of_succ_lt this)
      · cases hm
    have hD := den_at hu hv hz hP
    have e : vals a b c (argBest (fun i j => decide (vals a b c j < vals a b c i)) ((#[u, v, z] : Array Value).size - 1)) = max a (max b c) := best_max a b c
    rw [e] at hD
    exact h r h' tk hD (F.keeps hold) (N.grown hold)
theorem den_min3 (hh : A.handled = none) (hu : Den u a) (hv : Den v b) (hz : Den z c) (F : Fr h₀ L s.heap m) (N : News h₀ L s.heap news)
    (h : ∀ r h' tk, Den r (min a (min b c)) → Fr h₀ L h' m → News h₀ L h' news → Q r { s with heap := h', toks := tk }) : wpAny (model prog w) A (call (.builtin "min") [u, v, z]) Q E s := by
  have hT : (s.heap.push { cls := .type "tuple", data := .seq #[u, v, z] }).IsTuple s.heap.objs.size #[u, v, z] := ⟨_, Heap.get?_push_size _ rfl, rfl, 0, rfl⟩
  refine call_min_three (wpAny_pyIter_tuple hT ?_)
  have hsz : (s.heap.push { cls := .type "tuple", data := .seq #[u, v, z] }).objs.size = s.heap.objs.size + 1 := Heap.size_push ..
  refine ⟨_, [_, s.heap.objs.size], [_], _, _, _, fun i j => decide (vals a b c i < vals a b c j), rfl, Walks.tuple (A := A.in1) hh _ s.heap.objs.size (by rw [hsz]; exact Nat.ne_of_lt (Nat.lt_succ_self _)) #[u, v, z],
    ⟨⟨_, Heap.get?_push_size _ rfl, rfl, rfl⟩, hT.push _⟩, fun d hd => ?_, Nat.succ_pos _, fun i j vi vj s Q E hi hj h => den_lt (den_at hu hv hz hi) (den_at hu hv hz hj) h, fun r h' tk hP hk => ?_⟩
  · show d < ((s.heap.push _).push _).objs.size
    rw [Heap.size_push, hsz]
    rcases List.mem_cons.mp hd with rfl | hd
    · rw [hsz]; exact Nat.lt_succ_self _
    · rcases List.mem_cons.mp hd with rfl | hd
      · exact Nat.lt_succ_of_lt (Nat.lt_succ_self _)
      · cases hd
  · have hold : ∀ d o, s.heap.get? d = some o → h'.get? d = some o := fun d o e => by
      refine hk d o (fun hm => ?_) (Heap.get?_push_of_some _ (Heap.get?_push_of_some _ e))
      rcases List.mem_cons.mp hm with e1 | hm
      · have := Heap.lt_size e; rw [e1, hsz] at this; exact Nat.lt_irrefl _ (Nat.lt_of_succ_lt this)
      · cases hm
    have hD := den_at hu hv hz hP
    have e : vals a b c (argBest (fun i j => decide (vals a b c i < vals a b c j)) ((#[u, v, z] : Array Value).size - 1)) = min a (min b c) := best_min a b c
    rw [e] at hD
    exact h r h' tk hD (F.keeps hold) (N.grown hold)
theorem den_minL {l : Addr} {n : Nat} (hh : A.handled = none) (hu : Den u a) (hv : Den v b) (hz : Den z c) (F : Fr h₀ L s.heap m) (N : News h₀ L s.heap news) (hl : s.heap.IsList l #[u, v, z])
    (h : ∀ r h' tk, Den r (min a (min b c)) → Fr h₀ L h' m → News h₀ L h' news → Q r { s with heap := h', toks := tk }) : wpAny (model prog w) A (call (.builtin "min") [.ref l]) Q E s := by
  refine call_min_walk (PySem.Flt.iter_list_ hl fun s₂ e st hfp hlI => ?_)
  subst e
  have W := Walks.list (prog := prog) (w := w) (A := A.in1) hh _ l hlI #[u, v, z]
  refine ⟨_, _, _, _, _, _, fun i j => decide (vals a b c i < vals a b c j), rfl, W, st, hfp, Nat.succ_pos _, fun i j vi vj s Q E hi hj h => den_lt (den_at hu hv hz hi) (den_at hu hv hz hj) h, fun r h' tk hP hk => ?_⟩
  have hD := den_at hu hv hz hP
  have e : vals a b c (argBest (fun i j => decide (vals a b c i < vals a b c j)) ((#[u, v, z] : Array Value).size - 1)) = min a (min b c) := best_min a b c
  rw [e] at hD
  have kp := PySem.Flt.kept_iter hk
  exact h r h' tk hD (F.grownK kp) (N.grown kp)
/-- what the division of two small numbers gives -/
def Frac (r : UInt64) (a b : Int) : Prop := ∃ s : Bool, (a ≠ 0 → s = (decide (a < 0) != decide (b < 0))) ∧ r = ofFrac s a.natAbs b.natAbs
theorem den_div (hh : A.handled = none) (hu : Den u a) (hv : Den v b) (ha : Small a) (hb : Small b) (hb0 : b ≠ 0) (hi : isInf (ofFrac (decide (a < 0) != decide (b < 0)) a.natAbs b.natAbs) = false) (h : ∀ r t tk, Frac r a b → Q (.float r t) { s with toks := tk }) :
    wpAny (model prog w) A (binaryOp .Div u v) Q E s := by
  have nz : ∀ {x : UInt64} {n : Int}, FI x n → n ≠ 0 → ¬ (isZero x = true) := fun hx h0 => by rw [isZero_fi hx, decide_eq_false h0]; exact Bool.false_ne_true
  rcases hu with ⟨t, rfl⟩ | ⟨x, t, rfl, hx⟩ <;> rcases hv with ⟨t', rfl⟩ | ⟨y, t', rfl, hy⟩
  · refine AutoIntOps.truediv_2 ?_ ?_ ?_
    · simpa using hb0
    · rw [hi]; exact Bool.false_ne_true
    · exact h _ _ _ ⟨_, fun _ => rfl, rfl⟩
  · refine AutoFloatOpsIf.truediv_if ?_
    rw [if_neg (by rw [not_inf_small ha]; exact Bool.false_ne_true), if_neg (nz hy hb0)]
    obtain ⟨sg, h1, h2⟩ := div_fi (fi_ofInt ha) hy hb0
    exact h _ _ _ ⟨sg, h1, h2⟩
  · refine AutoFloatOpsIf.truediv_fi ?_
    rw [if_neg (by rw [not_inf_small hb]; exact Bool.false_ne_true), if_neg (nz (fi_ofInt hb) hb0)]
    obtain ⟨sg, h1, h2⟩ := div_fi hx (fi_ofInt hb) hb0
    exact h _ _ _ ⟨sg, h1, h2⟩
  · refine truediv_float_or hh (fun q => absurd q (nz hy hb0)) fun _ => ?_
    obtain ⟨sg, h1, h2⟩ := div_fi hx hy hb0
    exact h _ _ _ ⟨sg, h1, h2⟩
end
end Mine
end
section
open PySem PySem.W PySem.W.X PyProof.Rows
set_option Elab.async false
set_option maxRecDepth 100000
set_option maxHeartbeats 0
namespace Mine
local macro_rules | `(tactic| walk_at "none") => `(tactic| skip)
theorem rs9 : True := by w_top off; trivial
theorem fill_C_hsv : Mine.hd.heap_39 = Mine.hd.heap_39 ∧ PySem.Challenge.rw_zo0015_01 = PySem.Challenge.rw_zo0015_01 := by k_fill; exact ⟨rfl, rfl⟩
open PySem.Float64 in
theorem fi_one : FI 4607182418800017408 1 := ⟨false, 52, by kernel_rfl, fun _ => rfl⟩
def U : Int → Nat → Int
  | 0, 0 => 1 | 1, 0 => 1 | 5, 0 => 1
  | 1, 1 => 1 | 2, 1 => 1 | 3, 1 => 1
  | 3, 2 => 1 | 4, 2 => 1 | 5, 2 => 1
  | _, _ => 0
theorem hsv_q {f : UInt64} {v : Int} (hf : FI f 0) (hv : Small v) : FI (Float64.mul (Float64.ofInt v) (Float64.sub 4607182418800017408 (Float64.mul 4607182418800017408 f))) v := by
  have h1 : FI (Float64.mul 4607182418800017408 f) (1 * 0) := mul_fi fi_one hf (by decide)
  have h2 : FI (Float64.sub 4607182418800017408 (Float64.mul 4607182418800017408 f)) (1 - 1 * 0) := sub_fi fi_one h1 (by decide)
  have h3 := mul_fi (fi_ofInt hv) h2 (by simpa using hv)
  simpa using h3
theorem hsv_t {f : UInt64} {v : Int} (hf : FI f 0) (hv : Small v) : FI (Float64.mul (Float64.ofInt v) (Float64.sub 4607182418800017408 (Float64.mul 4607182418800017408 (Float64.sub 4607182418800017408 f)))) 0 := by
  have h0 : FI (Float64.sub 4607182418800017408 f) (1 - 0) := sub_fi fi_one hf (by decide)
  have h1 : FI (Float64.mul 4607182418800017408 (Float64.sub 4607182418800017408 f)) (1 * (1 - 0)) := mul_fi fi_one h0 (by decide)
  have h2 : FI (Float64.sub 4607182418800017408 (Float64.mul 4607182418800017408 (Float64.sub 4607182418800017408 f))) (1 - 1 * (1 - 0)) := sub_fi fi_one h1 (by decide)
  have h3 := mul_fi (fi_ofInt hv) h2 (by simp)
  simpa using h3
theorem hsv_p {v : Int} (hv : Small v) : FI (Float64.mul (Float64.ofInt v) (Float64.sub 4607182418800017408 4607182418800017408)) 0 := by
  have h2 : FI (Float64.sub 4607182418800017408 4607182418800017408) (1 - 1) := sub_fi fi_one fi_one (by decide)
  have h3 := mul_fi (fi_ofInt hv) h2 (by simp)
  simpa using h3
theorem den_cast {x : Value} {a b : Int} (h : Den x a) (e : a = b) : Den x b := e ▸ h
theorem hsv_leaf {P : Prop} {v e r a b c : Int} {x y z : Value} (h : e = r) (hx : Den x a) (hy : Den y b) (hz : Den z c) (e0 : a = v * U r 0) (e1 : b = v * U r 1) (e2 : c = v * U r 2)
    (k : Den x (v * U e 0) → Den y (v * U e 1) → Den z (v * U e 2) → P) : P := by subst h; subst e0; subst e1; subst e2; exact k hx hy hz
theorem fmod6 (n : Int) : 0 ≤ n.fmod 6 ∧ n.fmod 6 < 6 := by rw [Int.fmod_eq_emod_of_nonneg _ (by decide)]; omega
theorem hsv_none {n : Int} (h0 : ¬ n.fmod 6 = 0) (h1 : ¬ n.fmod 6 = 1) (h2 : ¬ n.fmod 6 = 2) (h3 : ¬ n.fmod 6 = 3) (h4 : ¬ n.fmod 6 = 4) (h5 : ¬ n.fmod 6 = 5) : False := by have := fmod6 n; omega
theorem hsv_zero (h : (Float64.cmp 4607182418800017408 0 == some Ordering.eq) = true) : False := absurd h (by decide +kernel)
theorem c_hsv {w : World} {loose : List Str} {mean : ExcName → Option Value} {mg mb : Str → Option Value} {dp un : Nat} {gd : Option (List Code)} {cn : Str} {cs : Scope} {a : Addr} {ccd : Value} {cl : List (Str × Addr)} {outer : List Env} {A₀ : Around} {base h₀ : Heap} {L : Addr} {m : Str → Option Value} {news : List (Addr × Obj)} {s : Shared} {Q E : Value → Shared → Prop}
   (cx : Cx 1 w loose mean mg mb dp un cs outer A₀ base h₀ L m s.heap news) {v : Int} {hb : UInt64} {t1 t2 t3 : Tok} (hv : Small v) (hI : Small (Flt.toInt Float64.truncOf (Float64.mul hb 4618441417868443648))) (hfin : Float64.isFinite (Float64.mul hb 4618441417868443648) = true) (hf : FI (Float64.sub (Float64.mul hb 4618441417868443648) (Float64.ofInt (Flt.toInt Float64.truncOf (Float64.mul hb 4618441417868443648)))) 0)
   (hret : ∀ (D : Addr) (x y z : Value) (h' : Heap) (tk' : Nat), Den x (v * U ((Flt.toInt Float64.truncOf (Float64.mul hb 4618441417868443648)).fmod 6) 0) → Den y (v * U ((Flt.toInt Float64.truncOf (Float64.mul hb 4618441417868443648)).fmod 6) 1) → Den z (v * U ((Flt.toInt Float64.truncOf (Float64.mul hb 4618441417868443648)).fmod 6) 2) → Fr h₀ L h' m → News h₀ L h' ((D, { cls := .type "tuple", data := .seq #[x, y, z] }) :: news) → (∀ p : Addr × Obj, p ∈ news → p.1 < D) → Q (.ref D) { s with heap := h', toks := tk' }) :
  wpAny (model PP w) (ktrTop dp un gd cn cs L a ccd cl outer) (call (.ref 78) [.float hb t1, .float 4607182418800017408 t2, .int v t3]) Q E s := by
  obtain ⟨cB, cF, cX, cN, cT, ck, cd, cu⟩ := cx
  refine wpAny_call ?_
  k_dflt cell_enter
  with_reducible refine wp_gen fun tk0 => ?_
  dsimp only
  with_reducible refine letA ?_
  intro A0
  k_steps
  all_goals (first | (exact hsv_leaf (by assumption : _ = (0 : Int)) (Den.int v _) (Den.flt (hsv_t hf hv) _) (Den.flt (hsv_p hv) _) (by simp [U]) (by simp [U]) (by simp [U]) (fun q1 q2 q3 => hret _ _ _ _ _ _ q1 q2 q3 (by assumption) (by assumption) (by assumption))) | (exact hsv_leaf (by assumption : _ = (1 : Int)) (Den.flt (hsv_q hf hv) _) (Den.int v _) (Den.flt (hsv_p hv) _) (by simp [U]) (by simp [U]) (by simp [U]) (fun q1 q2 q3 => hret _ _ _ _ _ _ q1 q2 q3 (by assumption) (by assumption) (by assumption))) | (exact hsv_leaf (by assumption : _ = (2 : Int)) (Den.flt (hsv_p hv) _) (Den.int v _) (Den.flt (hsv_t hf hv) _) (by simp [U]) (by simp [U]) (by simp [U]) (fun q1 q2 q3 => hret _ _ _ _ _ _ q1 q2 q3 (by assumption) (by assumption) (by assumption))) | (exact hsv_leaf (by assumption : _ = (3 : Int)) (Den.flt (hsv_p hv) _) (Den.flt (hsv_q hf hv) _) (Den.int v _) (by simp [U]) (by simp [U]) (by simp [U]) (fun q1 q2 q3 => hret _ _ _ _ _ _ q1 q2 q3 (by assumption) (by assumption) (by assumption))) | (exact hsv_leaf (by assumption : _ = (4 : Int)) (Den.flt (hsv_t hf hv) _) (Den.flt (hsv_p hv) _) (Den.int v _) (by simp [U]) (by simp [U]) (by simp [U]) (fun q1 q2 q3 => hret _ _ _ _ _ _ q1 q2 q3 (by assumption) (by assumption) (by assumption))) | (exact hsv_leaf (by assumption : _ = (5 : Int)) (Den.int v _) (Den.flt (hsv_p hv) _) (Den.flt (hsv_q hf hv) _) (by simp [U]) (by simp [U]) (by simp [U]) (fun q1 q2 q3 => hret _ _ _ _ _ _ q1 q2 q3 (by assumption) (by assumption) (by assumption))) | exact (hsv_none (by assumption) (by assumption) (by assumption) (by assumption) (by assumption) (by assumption)).elim | exact (hsv_zero (by assumption)).elim | exact (absurd (by assumption) (small_over hI)) | trace_state)
end Mine
end
namespace Mine
local macro_rules | `(tactic| omega) => `(tactic| lia)
local macro_rules | `(tactic| walk_at "cx") => `(tactic| (constructor; (iterate 5 (first | k_asm | (k_dflt k_asm))); (first | exact rfl | assumption); ktr_room; ktr_units))
local macro_rules | `(tactic| walk_at "mem") => `(tactic| repeat (first | exact List.Mem.head _ | assumption | refine List.Mem.tail _ ?_))
section
open _root_.PySem _root_.PySem.W _root_.PySem.W.X _root_.PyProof.Rows
set_option Elab.async false
set_option maxRecDepth 100000
set_option maxHeartbeats 0
namespace Mine
theorem rs10 : True := by w_top off; trivial
def lawDef : Stmt := PP.main.body.getLast?.getD (.Pass ⟨0,0,0,0⟩)
def lawBody : List Stmt := match lawDef with | .FunctionDef _ _ b _ _ _ _ _ _ _ => b | _ => []
def lawScope : Scope := match lawDef with | .FunctionDef _ _ _ _ _ _ sc _ _ _ => sc | _ => default
abbrev lawEnv (L fa : Addr) (cd : Value) : Env := envOfC (Str.ofString "law") lawScope L fa cd
abbrev lawA (L fa : Addr) (cd : Value) : Around := callerA.deeper (lawEnv L fa cd)
abbrev Off7 (L a : Addr) : Prop := @Ne Nat a (L + 1) ∧ @Ne Nat a (L + 1 + 1) ∧ @Ne Nat a (L + 1 + 1 + 1) ∧ @Ne Nat a (L + 1 + 1 + 1 + 1) ∧ @Ne Nat a (L + 1 + 1 + 1 + 1 + 1) ∧ @Ne Nat a (L + 1 + 1 + 1 + 1 + 1 + 1) ∧ @Ne Nat a (L + 1 + 1 + 1 + 1 + 1 + 1 + 1)
def st (k : Nat) : Stmt := lawBody.getD k (.Pass ⟨0,0,0,0⟩)
end Mine
end
section
open _root_.PySem _root_.PySem.W _root_.PySem.W.X _root_.PyProof.Rows
set_option Elab.async false
set_option maxRecDepth 100000
set_option maxHeartbeats 0
namespace Mine
local macro_rules | `(tactic| walk_at "none") => `(tactic| skip)
theorem rs11 : True := by w_top off; trivial
def topSt (k : Nat) : Stmt := PP.main.body.getD k (.Pass ⟨0,0,0,0⟩)
def fnBody (k : Nat) : List Stmt := match topSt k with | .FunctionDef _ _ b _ _ _ _ _ _ _ => b | _ => []
def fnScope (k : Nat) : Scope := match topSt k with | .FunctionDef _ _ _ _ _ _ sc _ _ _ => sc | _ => default
def whTest (s : Stmt) : Expr := match s with | .While t _ _ _ => t | _ => .Name (Str.ofString "") ⟨0,0,0,0⟩
def whBody (s : Stmt) : List Stmt := match s with | .While _ b _ _ => b | _ => []
def i2aWhile : Stmt := (fnBody 11).getD 3 (.Pass ⟨0,0,0,0⟩)
abbrev i2aEnv (L : Addr) : Env := envOf (Str.ofString "Int2AP") (fnScope 11) L 85 (.ref 84)
theorem Fr.known {h₀ h : Heap} {L : Addr} {m : Str → Option Value} {x : Str} {v : Value} (F : Fr h₀ L h m) (hx : m x = some v) : Fr h₀ L h (fun y => if y = x then some v else m y) := by
  have : (fun y => if y = x then some v else m y) = m := by
    funext y
    by_cases q : y = x
    · rw [if_pos q, q, hx]
    · rw [if_neg q]
  rw [this]; exact F
abbrev apLit : Array UInt8 := #[65, 66, 67, 68, 69, 70, 71, 72, 73, 74, 75, 76, 77, 78, 79, 80]
theorem my_divmod {prog : Program} {w : World} {A : Around} {E : Value → Shared → Prop} {s : Shared} {Q : Value → Shared → Prop} {a b : Int} {t u : Tok} {h₀ : Heap} {L : Addr} {m : Str → Option Value} {news : List (Addr × Obj)} (F : Fr h₀ L s.heap m) (N : News h₀ L s.heap news) (hb : b ≠ 0) (hs1 : a.natAbs < 2 ^ 53) (hs2 : b.natAbs < 1073741824)
    (h : ∀ D t1 t2 h' tk, Fr h₀ L h' m → News h₀ L h' ((D, { cls := .type "tuple", data := .seq #[.int (a.fdiv b) t1, .int (a.fmod b) t2] }) :: news) → (∀ p : Addr × Obj, p ∈ news → p.1 < D) →
      Q (.ref D) { s with heap := h', toks := tk }) :
    wpAny (model prog w) A (call (.builtin "divmod") [.int a t, .int b u]) Q E s := by
  refine divmod_N F N hb (fun h' F' N' => ?_) (Or.inl (PyProof.noPylong_small hs2))
  exact h _ _ _ _ _ F' N' (fun p hp => Heap.lt_size (N p hp).1)
theorem ne_bool {a : Int} (h : a ≠ 0) : (a != 0) = true := by simpa using h
theorem eq_bool {a : Int} (h : a = 0) : (a != 0) = false := by simp [h]
def Halt (P : Prop) : Prop := P
theorem Halt.go {P : Prop} (h : Halt P) : P := h
theorem news_drop {h₀ h : Heap} {L : Addr} {news news' : List (Addr × Obj)} (N : News h₀ L h news) (hs : ∀ p, p ∈ news' → p ∈ news) : News h₀ L h news' := fun p hp => N p (hs p hp)
theorem num_get {m : Str → Option Value} {a b c : Value} : (fun y => if y = Str.ofString "val" then some a else if y = Str.ofString "mod" then some b else if y = Str.ofString "num" then some c else m y) (Str.ofString "num") = some c := rfl
local macro_rules | `(tactic| walk_at "WhlRest") => `(tactic| (refine Halt.go ?_))
def apL : Nat → Int → List Int
  | 0, _ => []
  | f + 1, a => if a = 0 then [] else apL f (a.fdiv 16) ++ [65 + a.fmod 16]
theorem apL_len : ∀ (f : Nat) (a : Int), (apL f a).length ≤ f
  | 0, _ => Nat.le_refl _
  | f + 1, a => by
    unfold apL
    split
    · exact Nat.zero_le _
    · rw [List.length_append]; have := apL_len f (a.fdiv 16); simpa using this
theorem ap_cut {a : Int} {b : Array UInt8} {ks : List Int} (h : KBw.bInts b = List.take
      (clipAt [65, 66, 67, 68, 69, 70, 71, 72, 73, 74, 75, 76, 77, 78, 79, 80].length (a.fmod 16 + 1) -
        clipAt [65, 66, 67, 68, 69, 70, 71, 72, 73, 74, 75, 76, 77, 78, 79, 80].length (a.fmod 16))
      (List.drop (clipAt [65, 66, 67, 68, 69, 70, 71, 72, 73, 74, 75, 76, 77, 78, 79, 80].length (a.fmod 16))
        [65, 66, 67, 68, 69, 70, 71, 72, 73, 74, 75, 76, 77, 78, 79, 80]) ++ ks) : KBw.bInts b = [65 + a.fmod 16] ++ ks := by
  rw [h]
  refine congrArg (· ++ ks) ?_
  have h0 : 0 ≤ a.fmod 16 := by rw [Int.fmod_eq_emod_of_nonneg _ (by decide)]; omega
  have h1 : a.fmod 16 < 16 := by rw [Int.fmod_eq_emod_of_nonneg _ (by decide)]; omega
  revert h0 h1
  generalize a.fmod 16 = r
  intro h0 h1
  obtain ⟨n, rfl⟩ := Int.eq_ofNat_of_zero_le h0
  have hn : n < 16 := by omega
  clear h h0 h1
  revert n
  decide
theorem ap_loop {w : World} {loose : List Str} {mean : ExcName → Option Value} {mg mb : Str → Option Value} {dp un : Nat} {gd : Option (List Code)} {cn : Str} {cs : Scope} {aa L₀ : Addr} {ccd : Value} {cl : List (Str × Addr)} {outer : List Env} {g : Heap} {L : Addr} {E : Value → Shared → Prop}
   (cX : (Mine.hd.heap_39 w.params).In g) (cT : Top Mine.hd.view_39 loose mean mg mb g) (hE : PassesOwn (model PP w) ((ktrTop dp un gd cn cs L₀ aa ccd cl outer).deeper (i2aEnv L)) (i2aEnv L) E) (cd : dp + 1 < recursionLimit) (cu : un + 8 < cLine)
   {news : List (Addr × Obj)} {s₀ : Shared} {Q : Flow → Shared → Prop} {all : List Int} (hl : all.length ≤ 10)
   (hQ : ∀ (h' : Heap) (tk' : Nat) (m' : Str → Option Value) (v' : Array UInt8) (t' : Tok), Fr g L h' m' → News g L h' news → m' (Str.ofString "val") = some (.bytes v' t') → KBw.bInts v' = all → Q .next { s₀ with heap := h', toks := tk' }) :
   ∀ (f : Nat) (a : Int) (v : Array UInt8) (ks : List Int) (t t1 t2 : Tok) (m : Str → Option Value) (h : Heap) (tk : Nat), 0 ≤ a → a < 16 ^ f → KBw.bInts v = ks → apL f a ++ ks = all →
   Fr g L h m → News g L h news → m (Str.ofString "num") = some (.int a t) → m (Str.ofString "val") = some (.bytes v t1) → m (Str.ofString "AP") = some (.bytes apLit t2) → f ≤ 4 →
   WhlRest PP w ((ktrTop dp un gd cn cs L₀ aa ccd cl outer).deeper (i2aEnv L)) E (i2aEnv L) (whTest i2aWhile) (whBody i2aWhile) [] Q 100 { s₀ with heap := h, toks := tk } := by
  intro f
  induction f with
  | zero =>
    intro a v ks t t1 t2 m h tk a0 a1 hks hall F N m1 m2 m3 hf
    have a2 : a = 0 := by omega
    have m2' : (fun y => if y = Str.ofString "AP" then some (Value.bytes apLit t2) else m y) (Str.ofString "val") = some (.bytes v t1) := by
      rw [← m2]; exact if_neg (by decide)
    have m1' : (fun y => if y = Str.ofString "val" then some (Value.bytes v t1) else if y = Str.ofString "AP" then some (Value.bytes apLit t2) else m y) (Str.ofString "num") = some (.int a t) := by
      rw [← m1]; exact (if_neg (by decide)).trans (if_neg (by decide))
    have F' := Fr.known (Fr.known (Fr.known F m3) m2') m1'
    clear m1' m2' F
    refine whl_turn hE ?_
    obtain ⟨tt, ht⟩ : ∃ x, x = whTest i2aWhile := ⟨_, rfl⟩
    obtain ⟨tb, hb⟩ : ∃ x, x = whBody i2aWhile := ⟨_, rfl⟩
    obtain ⟨sc, hs⟩ : ∃ x, x = fnScope 11 := ⟨_, rfl⟩
    unfold i2aEnv
    rw [← ht, ← hb, ← hs]
    conv at ht => rhs; whnf
    conv at hb => rhs; whnf
    conv at hs => rhs; whnf
    subst ht hb hs
    (repeat' (first | (k_unfold; (try dsimp only)) | (k_end; wrow_close) | (k_end; first | (first | (refine WhlIf.yes (ne_bool (by assumption)) ?_) | (refine WhlIf.no (eq_bool (by assumption)) ?_))) | ((with_reducible show wpAny _ _ (call (Value.builtin "divmod") _ _) _ _ _); (k_here; k_dflt (refine' my_divmod (by k_asm) (by k_asm) (by omega) (by omega) (by omega) ?_); intro _ _ _ _ _ _ _ _)) | walk1 | (dsimp only; walk1) | (leave1; try dsimp only) | fail "no step"))
    refine hQ _ _ _ _ _ F' (by assumption) rfl ?_
    rw [hks, ← hall, a2]; rfl
  | succ f ih =>
    intro a v ks t t1 t2 m h tk a0 a1 hks hall F N m1 m2 m3 hf
    by_cases a2 : a = 0
    · have m2' : (fun y => if y = Str.ofString "AP" then some (Value.bytes apLit t2) else m y) (Str.ofString "val") = some (.bytes v t1) := by
        rw [← m2]; exact if_neg (by decide)
      have m1' : (fun y => if y = Str.ofString "val" then some (Value.bytes v t1) else if y = Str.ofString "AP" then some (Value.bytes apLit t2) else m y) (Str.ofString "num") = some (.int a t) := by
        rw [← m1]; exact (if_neg (by decide)).trans (if_neg (by decide))
      have F' := Fr.known (Fr.known (Fr.known F m3) m2') m1'
      clear m1' m2' F
      refine whl_turn hE ?_
      obtain ⟨tt, ht⟩ : ∃ x, x = whTest i2aWhile := ⟨_, rfl⟩
      obtain ⟨tb, hb⟩ : ∃ x, x = whBody i2aWhile := ⟨_, rfl⟩
      obtain ⟨sc, hs⟩ : ∃ x, x = fnScope 11 := ⟨_, rfl⟩
      unfold i2aEnv
      rw [← ht, ← hb, ← hs]
      conv at ht => rhs; whnf
      conv at hb => rhs; whnf
      conv at hs => rhs; whnf
      subst ht hb hs
      (repeat' (first | (k_unfold; (try dsimp only)) | (k_end; wrow_close) | (k_end; first | (first | (refine WhlIf.yes (ne_bool (by assumption)) ?_) | (refine WhlIf.no (eq_bool (by assumption)) ?_))) | ((with_reducible show wpAny _ _ (call (Value.builtin "divmod") _ _) _ _ _); (k_here; k_dflt (refine' my_divmod (by k_asm) (by k_asm) (by omega) (by omega) (by omega) ?_); intro _ _ _ _ _ _ _ _)) | walk1 | (dsimp only; walk1) | (leave1; try dsimp only) | fail "no step"))
      refine hQ _ _ _ _ _ F' (by assumption) rfl ?_
      rw [hks, ← hall, a2]; rfl
    · have hap : KBw.bInts apLit = [65, 66, 67, 68, 69, 70, 71, 72, 73, 74, 75, 76, 77, 78, 79, 80] := by decide
      have hle : ks.length ≤ 10 := by rw [← hall, List.length_append] at hl; omega
      have a3 : a < 65536 := Int.lt_of_lt_of_le a1 (by have : f = 0 ∨ f = 1 ∨ f = 2 ∨ f = 3 := by omega
                                                       rcases this with h | h | h | h <;> (rw [h]; decide))
      have m2' : (fun y => if y = Str.ofString "AP" then some (Value.bytes apLit t2) else m y) (Str.ofString "val") = some (.bytes v t1) := by
        rw [← m2]; exact if_neg (by decide)
      have m1' : (fun y => if y = Str.ofString "val" then some (Value.bytes v t1) else if y = Str.ofString "AP" then some (Value.bytes apLit t2) else m y) (Str.ofString "num") = some (.int a t) := by
        rw [← m1]; exact (if_neg (by decide)).trans (if_neg (by decide))
      have F' := Fr.known (Fr.known (Fr.known F m3) m2') m1'
      clear m1' m2' F
      refine whl_turn hE ?_
      obtain ⟨tt, ht⟩ : ∃ x, x = whTest i2aWhile := ⟨_, rfl⟩
      obtain ⟨tb, hb⟩ : ∃ x, x = whBody i2aWhile := ⟨_, rfl⟩
      obtain ⟨sc, hs⟩ : ∃ x, x = fnScope 11 := ⟨_, rfl⟩
      unfold i2aEnv
      rw [← ht, ← hb, ← hs]
      conv at ht => rhs; whnf
      conv at hb => rhs; whnf
      conv at hs => rhs; whnf
      subst ht hb hs
      (repeat' (first | (k_unfold; (try dsimp only)) | (k_end; wrow_close) | (k_end; first | (first | (refine WhlIf.yes (ne_bool (by assumption)) ?_) | (refine WhlIf.no (eq_bool (by assumption)) ?_))) | ((with_reducible show wpAny _ _ (call (Value.builtin "divmod") _ _) _ _ _); (k_here; k_dflt (refine' my_divmod (by k_asm) (by k_asm) (by omega) (by omega) (by omega) ?_); intro _ _ _ _ _ _ _ _)) | walk1 | (dsimp only; walk1) | (leave1; try dsimp only) | fail "no step"))
      unfold Halt
      refine ih (a.fdiv 16) _ ([65 + a.fmod 16] ++ ks) _ _ _ _ _ _ ?_ ?_ (ap_cut (by assumption)) ?_ (by assumption) (news_drop (by assumption) (fun p hp => List.mem_cons_of_mem _ hp)) rfl rfl rfl (by omega)
      · rw [Int.fdiv_eq_ediv_of_nonneg _ (by decide)]; omega
      · rw [Int.fdiv_eq_ediv_of_nonneg _ (by decide)]; rw [Int.pow_succ] at a1; omega
      · rw [← hall]; show _ = (if a = 0 then [] else apL f (a.fdiv 16) ++ [65 + a.fmod 16]) ++ ks
        rw [if_neg a2, List.append_assoc]
end Mine
end
section
open _root_.PySem _root_.PySem.W _root_.PySem.W.X _root_.PyProof.Rows
set_option Elab.async false
set_option maxRecDepth 100000
set_option maxHeartbeats 0
namespace Mine
local macro_rules | `(tactic| walk_at "none") => `(tactic| skip)
theorem rs12 : True := by w_top off; trivial
local macro_rules | `(tactic| walk_at "exec While Name cons nil") => `(tactic| (k_here; k_dflt (refine whl_start 100 ?_)))
local macro_rules | `(tactic| walk_at "WhlRest") => `(tactic| (refine Halt.go ?_))
theorem c_ap {w : World} {loose : List Str} {mean : ExcName → Option Value} {mg mb : Str → Option Value} {dp un : Nat} {gd : Option (List Code)} {cn : Str} {cs : Scope} {a : Addr} {ccd : Value} {cl : List (Str × Addr)} {outer : List Env} {A₀ : Around} {base h₀ : Heap} {L : Addr} {m : Str → Option Value} {news : List (Addr × Obj)} {s : Shared} {Q E : Value → Shared → Prop}
   (cx : Cx 1 w loose mean mg mb dp un cs outer A₀ base h₀ L m s.heap news) {n : Int} {t : Tok} (n0 : -4096 < n) (n1 : n ≤ 0)
   (hret : ∀ (b : Array UInt8) (t' : Tok) (h' : Heap) (tk' : Nat), KBw.bInts b = apL 3 (-n) → Fr h₀ L h' m → News h₀ L h' news → Q (.bytes b t') { s with heap := h', toks := tk' }) :
  wpAny (model PP w) (ktrTop dp un gd cn cs L a ccd cl outer) (call (.ref 85) [.int n t]) Q E s := by
  obtain ⟨cB, cF, cX, cN, cT, ck, cd, cu⟩ := cx
  refine wpAny_call ?_
  k_dflt cell_enter
  with_reducible refine wp_gen fun tk0 => ?_
  dsimp only
  with_reducible refine letA ?_
  intro A0
  k_steps
  unfold Halt
  have e : (if n < 0 then -n else n) = -n := by split <;> omega
  refine ap_loop (by assumption) (by assumption) (by first | passes_own | with_unfolding_all passes_own) cd (by omega) (news := news) (all := apL 3 (-n)) (Nat.le_trans (apL_len _ _) (by decide)) ?_ 3 (if n < 0 then -n else n) #[] [] _ _ _ _ _ _ (by rw [e]; omega) (by rw [e]; omega) rfl (by rw [e, List.append_nil]) (by assumption) (by assumption) rfl rfl rfl (by decide)
  intro h9 tk9 m9 v9 t9 F9 N9 mv hv
  have F10 := Fr.known F9 mv
  clear F9
  k_steps
  exact hret _ _ _ _ hv (by assumption) (by assumption)
end Mine
end
section
open _root_.PySem _root_.PySem.W _root_.PySem.W.X _root_.PyProof.Rows
set_option Elab.async false
namespace Mine
theorem rs13 : True := by w_top off; trivial
section
variable {prog : Program} {w : World} {A : Around} {E : Value → Shared → Prop} {s : Shared} {Q : Value → Shared → Prop}
theorem pad_b {n : Int} {t u : Tok} (k : Nat) (hn : n = k) (hk : k ≤ 3) (h : ∀ (b : Array UInt8) t' tk, KBw.bInts b = List.replicate k 65 → Q (.bytes b t') { s with toks := tk }) :
    wpAny (model prog w) A (binaryOp .Mult (.bytes [65].toArray t) (.int n u)) Q E s := by
  have e : ∀ j : Nat, j ≤ 3 → KBw.bInts (List.replicate j ([65] : List UInt8)).flatten.toArray = List.replicate j 65 := by decide
  have en : n.toNat = k := by omega
  refine bytes_mul_any (List.cons_ne_nil _ _) ?_ (by omega) (by simp) fun t' tk => ?_
  · omega
  · rw [en]; exact h _ _ _ (e k hk)
theorem len_b {b : Array UInt8} {t : Tok} {ks : List Int} (n : Int) (hb : KBw.bInts b = ks) (hn : (ks.length : Int) = n) (hz : ks.length ≤ 1000) (h : ∀ t' tk, Q (.int n t') { s with toks := tk }) : wpAny (model prog w) A (call (.builtin "len") [.bytes b t]) Q E s := by
  subst hn
  exact KBw.len_K hb (by omega) (h _ _)
theorem add_b {b c : Array UInt8} {t u : Tok} {ks ls : List Int} (hb : KBw.bInts b = ks) (hc : KBw.bInts c = ls) (hsz : ks.length + ls.length ≤ 1000) (h : ∀ r t' k, KBw.bInts r = ks ++ ls → Q (.bytes r t') { s with toks := k }) : wpAny (model prog w) A (binaryOp .Add (.bytes b t) (.bytes c u)) Q E s :=
  KBa.add_K hb hc (by omega) fun t' k e => h _ t' k e
end
end Mine
end
section
open _root_.PySem _root_.PySem.W _root_.PySem.W.X _root_.PyProof.Rows
set_option Elab.async false
set_option maxRecDepth 100000
set_option maxHeartbeats 0
namespace Mine
local macro_rules | `(tactic| walk_at "none") => `(tactic| skip)
theorem rs14 : True := by w_top off; trivial
def forBody (s : Stmt) : List Stmt := match s with | .For _ _ b _ _ => b | _ => []
def forB (s : Stmt) (k : Nat) : Stmt := (forBody s).getD k (.Pass ⟨0,0,0,0⟩)
theorem Fr.put {h₀ h : Heap} {L : Addr} {m : Str → Option Value} {v : Value} (x : Str) (F : Fr h₀ L h m) (hx : m x = some v) : Fr h₀ L h (fun y => if y = x then some v else m y) := Fr.known F hx
def apK (h m l : Int) : List Int := apL 3 (-(-256 * h - 16 * m - l))
def apP (h m l : Int) : Nat := 3 - (apK h m l).length
theorem apK_len (h m l : Int) : (apK h m l).length ≤ 3 := apL_len _ _
theorem apP_le (h m l : Int) : apP h m l ≤ 3 := Nat.sub_le _ _
theorem apP_eq (h m l : Int) : 3 - ((apK h m l).length : Int) = (apP h m l : Int) := by have := apK_len h m l; unfold apP; omega
theorem apF {h m l : Int} (h0 : 0 ≤ h) (h1 : h ≤ 2) (m0 : 0 ≤ m) (m1 : m ≤ 2) (l0 : 0 ≤ l) (l1 : l ≤ 2) : apL 3 (-(-256 * h - 16 * m - l)) = apK h m l := rfl
theorem apJoin {h m l : Int} (h0 : 0 ≤ h) (h1 : h ≤ 2) (m0 : 0 ≤ m) (m1 : m ≤ 2) (l0 : 0 ≤ l) (l1 : l ≤ 2) : List.replicate (apP h m l) 65 ++ apK h m l = [65 + h, 65 + m, 65 + l] := by
  obtain ⟨a, rfl⟩ := Int.eq_ofNat_of_zero_le h0
  obtain ⟨b, rfl⟩ := Int.eq_ofNat_of_zero_le m0
  obtain ⟨c, rfl⟩ := Int.eq_ofNat_of_zero_le l0
  have ha : a < 3 := by omega
  have hb : b < 3 := by omega
  have hc : c < 3 := by omega
  have hh : ∀ a, a < 3 → ∀ b, b < 3 → ∀ c, c < 3 → List.replicate (apP (a : Nat) (b : Nat) (c : Nat)) 65 ++ apK (a : Nat) (b : Nat) (c : Nat) = [65 + ((a : Nat) : Int), 65 + ((b : Nat) : Int), 65 + ((c : Nat) : Int)] := by decide
  exact hh a ha b hb c hc
local macro_rules | `(tactic| walk_at "call ref") => `(tactic| (k_here; (with_reducible show wpAny _ _ (call (Value.ref 85) _) _ _ _); k_dflt (refine' c_ap (by walk_at "cx") (by omega) (by omega) ?_); intro b9 t9 h9 tk9 hb9 F9 N9; (rw [apF (by assumption) (by assumption) (by assumption) (by assumption) (by assumption) (by assumption)] at hb9); (try dsimp only); (try k_fold)))
local macro_rules | `(tactic| walk_at "RangeRest") => `(tactic| (refine Halt.go ?_))
abbrev lowBody : List Stmt := forBody (forB (forB (st 11) 0) 0)
theorem low_loop {w : World} {loose : List Str} {mean : ExcName → Option Value} {mg mb : Str → Option Value} {base : Heap} {L fa : Addr} {cd : Value} {E : Value → Shared → Prop} {Q : Flow → Shared → Prop}
   (cB : Below callerA base [] base) (cX : (Mine.hd.heap_39 w.params).In base) (cT : Top Mine.hd.view_39 loose mean mg mb base) (hE : PassesOwn (model PP w) (lawA L fa cd) (lawEnv L fa cd) E)
   {h mi : Int} (h0 : 0 ≤ h) (h1 : h ≤ 2) (m0 : 0 ≤ mi) (m1 : mi ≤ 2) {s : Shared} {I : Addr} {n : Nat} (hn : n ≤ 3) {v1 v2 v3 v4 : Value}
   : ∀ (k i : Nat) (m : Str → Option Value) (news : List (Addr × Obj)) (wd : Array UInt8) (ks : List Int) (th tm tw : Tok), k + i = n → KBw.bInts wd = ks → ks.length + 3 * k ≤ 100 → (∀ p ∈ news, p.1 < I) → 
   (∀ (m' : Str → Option Value) (h' : Heap) (tk' : Nat) (wd' : Array UInt8) (th tm tw : Tok), KBw.bInts wd' = ks ++ (List.range' i k).flatMap (fun (j : Nat) => [65 + h, 65 + mi, 65 + (j : Int)]) → Fr base L h' (fun y => if y = Str.ofString "words" then some (.bytes wd' tw) else if y = Str.ofString "middle" then some (.int mi tm) else if y = Str.ofString "high" then some (.int h th) else if y = Str.ofString "zone" then some (v4) else if y = Str.ofString "forms" then some (v3) else if y = Str.ofString "count" then some (v2) else if y = Str.ofString "own" then some (v1) else m' y) → News base L h' news → Q .next { s with heap := h', toks := tk' }) →
   RangeRest PP w (lawA L fa cd) E base (lawEnv L fa cd) (Str.ofString "low") lowBody Q s I 0 n k i (fun y => if y = Str.ofString "words" then some (.bytes wd tw) else if y = Str.ofString "middle" then some (.int mi tm) else if y = Str.ofString "high" then some (.int h th) else if y = Str.ofString "zone" then some (v4) else if y = Str.ofString "forms" then some (v3) else if y = Str.ofString "count" then some (v2) else if y = Str.ofString "own" then some (v1) else m y) news := by
  intro k
  induction k with
  | zero =>
    intro i m news wd ks th tm tw hki hwd hsz hlt hQ
    exact fun h tk F N => hQ m h tk wd _ _ _ (by rw [hwd]; simp) F N
  | succ k ih =>
    intro i m news wd ks th tm tw hki hwd hsz hlt hQ
    refine RangeRest.succ fun t9 h9 tk9 F9 N9 => ?_
    obtain ⟨tb, htb⟩ : ∃ x, x = lowBody := ⟨_, rfl⟩
    obtain ⟨sc, hsc⟩ : ∃ x, x = lawScope := ⟨_, rfl⟩
    unfold lawA lawEnv
    rw [← htb, ← hsc]
    conv at htb => rhs; whnf
    conv at hsc => rhs; whnf
    subst htb hsc
    have hi0 : (0 : Int) ≤ 0 + (i : Int) := by omega
    have hi1 : 0 + (i : Int) ≤ 2 := by omega
    have q1 := apK_len h mi (0 + (i : Int))
    have q2 := apP_le h mi (0 + (i : Int))
    (repeat' (first | (k_unfold; (try dsimp only)) | (k_end; wrow_close) | ((k_here; (with_reducible show wpAny _ _ (binaryOp Operator.Add (Value.bytes _ _) (Value.bytes _ _)) _ _ _); (refine add_b (by assumption) (by assumption) (by simp only [List.length_append, List.length_replicate]; omega) ?_); intro _ _ _ _)) | ((k_here; (with_reducible show wpAny _ _ (binaryOp Operator.Mult (Value.bytes _ _) (Value.int _ _)) _ _ _); k_dflt (refine pad_b _ (apP_eq _ _ _) (apP_le _ _ _) ?_); intro _ _ _ _)) | ((k_here; (with_reducible show wpAny _ _ (call (Value.builtin "len") [Value.bytes _ _]) _ _ _); k_dflt (refine len_b _ (by assumption) (by exact rfl) (Nat.le_trans (apK_len _ _ _) (by decide)) ?_); intro _ _)) | walk1 | (dsimp only; walk1) | (leave1; try dsimp only) | fail "no step"))
    rename_i b9 t9 k9 hb9 h3 F3 N3
    have F4 := Fr.put (Str.ofString "words") (Fr.put (Str.ofString "middle") (Fr.put (Str.ofString "high") (Fr.put (Str.ofString "zone") (Fr.put (Str.ofString "forms") (Fr.put (Str.ofString "count") (Fr.put (Str.ofString "own") F3 rfl) rfl) rfl) rfl) rfl) rfl) rfl
    refine UnrEnd.intro F4 N3 news (fun p hp => hp) (fun p hp => Nat.ne_of_lt (hlt p hp)) ?_
    refine ih (i + 1) _ _ _ _ _ _ _ (by omega) hb9 (by have e := congrArg List.length (apJoin h0 h1 m0 m1 hi0 hi1); simp only [List.length_append, List.length_cons, List.length_nil] at e ⊢; omega) hlt (fun m' h' tk' wd' th tm tw e F N => hQ m' h' tk' wd' th tm tw ?_ F N)
    rw [e, List.range'_succ, List.flatMap_cons, List.append_assoc, List.append_assoc, ← List.append_assoc (List.replicate _ _), apJoin h0 h1 m0 m1 hi0 hi1, Int.zero_add]
end Mine
end
section
open _root_.PySem _root_.PySem.W _root_.PySem.W.X _root_.PyProof.Rows
set_option Elab.async false
set_option maxRecDepth 100000
set_option maxHeartbeats 0
namespace Mine
theorem rs15 : True := by w_top off; trivial
def cut (ks : List Int) (i : Nat) : List Int := (ks.drop (3 * i)).take 3
theorem clip_at {n a : Nat} {i : Int} (h : i = (a : Int)) (q : a ≤ n) : clipAt n i = a := by rw [h, clipAt_nat]; exact Nat.min_eq_left q
theorem slice3 {prog : Program} {w : World} {A : Around} {E : Value → Shared → Prop} {s : Shared} {value slice : PySem.Expr} {b : Array UInt8} {t u1 u2 : Tok} {h₀ : Heap} {L : Addr} {m : PySem.Str → Option Value} {news : List (Addr × Obj)} {Q : Value → Shared → Prop} {ks : List Int} {i : Nat} {lo hi : Int}
    (hF : Fr h₀ L s.heap m) (hN : News h₀ L s.heap news) (hk : KBw.bInts b = ks) (hz : ks.length = 36) (hi12 : i < 12) (e1 : lo = 0 + (i : Int) * 3) (e2 : hi = 0 + (i : Int) * 3 + 3) {c0 c1 c2 : Int} (hc : cut ks i = [c0, c1, c2])
    (h : ∀ h' b' t' k, Fr h₀ L h' m → News h₀ L h' news → KBw.bInts b' = [c0, c1, c2] → Q (.bytes b' t') { s with heap := h', toks := k })
    (hs : subscripted slice false (.bytes b t) (.ref s.heap.objs.size) = operate [.ref s.heap.objs.size, .bytes b t] (getItem (.bytes b t) (.ref s.heap.objs.size)) := by with_unfolding_all rfl)
    (ht : ∀ r, letTemporaryGo value (.bytes b t) r = pure () := by intro _; with_unfolding_all rfl) :
    wpAny (model prog w) A (subscriptTail value slice (.bytes b t) (.ref s.heap.objs.size)) Q E { s with heap := s.heap.push { cls := .type "slice", data := .fields #[.int lo u1, .int hi u2, .none] } } := by
  refine KBc.slice_K hF hN hk (by constructor) (by constructor) (by omega) (fun h' t' k F N e => h h' _ t' k F N ?_) hs ht
  rw [e]
  simp only [Option.elim]
  have q1 : clipAt ks.length lo = 3 * i := clip_at (by omega) (by omega)
  have q2 : clipAt ks.length hi = 3 * i + 3 := clip_at (by omega) (by omega)
  rw [q1, q2, ← hc, show 3 * i + 3 - 3 * i = 3 by omega]
  rfl
end Mine
end
section
open _root_.PySem _root_.PySem.W _root_.PySem.W.X _root_.PyProof.Rows
set_option Elab.async false
set_option maxRecDepth 100000
set_option maxHeartbeats 0
namespace Mine
local macro_rules | `(tactic| walk_at "none") => `(tactic| skip)
theorem rs16 : True := by w_top off; trivial
theorem all_cons {d a : Addr} {o : Obj} {r : List (Addr × Obj)} (h : @Ne Nat a d) (t : ∀ p ∈ r, p.1 ≠ d) : ∀ p ∈ (a, o) :: r, p.1 ≠ d := by
  intro p hp
  rcases List.mem_cons.mp hp with rfl | hp
  · exact h
  · exact t p hp
theorem all_off1 {L : Addr} {ns : List (Addr × Obj)} (h : ∀ p ∈ ns, (Off7 L p.1)) : ∀ p ∈ ns, p.1 ≠ L + 1 := fun p hp => (h p hp).1
theorem all_off2 {L : Addr} {ns : List (Addr × Obj)} (h : ∀ p ∈ ns, (Off7 L p.1)) : ∀ p ∈ ns, p.1 ≠ L + 1 + 1 := fun p hp => (h p hp).2.1
theorem all_off3 {L : Addr} {ns : List (Addr × Obj)} (h : ∀ p ∈ ns, (Off7 L p.1)) : ∀ p ∈ ns, p.1 ≠ L + 1 + 1 + 1 := fun p hp => (h p hp).2.2.1
theorem all_off4 {L : Addr} {ns : List (Addr × Obj)} (h : ∀ p ∈ ns, (Off7 L p.1)) : ∀ p ∈ ns, p.1 ≠ L + 1 + 1 + 1 + 1 := fun p hp => (h p hp).2.2.2.1
theorem all_off5 {L : Addr} {ns : List (Addr × Obj)} (h : ∀ p ∈ ns, (Off7 L p.1)) : ∀ p ∈ ns, p.1 ≠ L + 1 + 1 + 1 + 1 + 1 := fun p hp => (h p hp).2.2.2.2.1
theorem all_off6 {L : Addr} {ns : List (Addr × Obj)} (h : ∀ p ∈ ns, (Off7 L p.1)) : ∀ p ∈ ns, p.1 ≠ L + 1 + 1 + 1 + 1 + 1 + 1 := fun p hp => (h p hp).2.2.2.2.2.1
theorem all_off7 {L : Addr} {ns : List (Addr × Obj)} (h : ∀ p ∈ ns, (Off7 L p.1)) : ∀ p ∈ ns, p.1 ≠ L + 1 + 1 + 1 + 1 + 1 + 1 + 1 := fun p hp => (h p hp).2.2.2.2.2.2
theorem allLt_to2 {d : Addr} : ∀ {l : List (Addr × Obj)}, AllLt d l → ∀ p ∈ l, p.1 < d
  | [], _, _, hp => nomatch hp
  | _ :: _, h, p, hp => by
    rcases List.mem_cons.mp hp with rfl | hp
    · exact h.1
    · exact allLt_to2 h.2 p hp
theorem UnrEnd.go {h₀ : Heap} {L I : Addr} {it : Obj} {rest : (Str → Option Value) → List (Addr × Obj) → Prop} {s₁ : Shared} {h' : Heap} {tk : Nat} {m' : Str → Option Value} {news' : List (Addr × Obj)} (F : Fr h₀ L h' m') (N : News h₀ L h' ((I, it) :: news'))
    (hlt : ∀ p ∈ news', p.1 < I) (r : rest m' news') : UnrEnd h₀ L s₁ I it rest { s₁ with heap := h', toks := tk } := UnrEnd.intro F N news' (fun p hp => hp) (fun p hp => Nat.ne_of_lt (hlt p hp)) r
theorem rr_put {prog : Program} {w : World} {A : Around} {E : Value → Shared → Prop} {h₀ : Heap} {env : Env} {z : Str} {body : List Stmt} {Q : Flow → Shared → Prop} {s : Shared} {I : Addr} {a : Int} {n k i : Nat} {m : Str → Option Value} {news : List (Addr × Obj)} {v : Value} (x : Str) (hx : m x = some v)
    (h : RangeRest prog w A E h₀ env z body Q s I a n k i (fun y => if y = x then some v else m y) news) : RangeRest prog w A E h₀ env z body Q s I a n k i m news := by
  have e : (fun y => if y = x then some v else m y) = m := by
    funext y
    by_cases q : y = x
    · rw [if_pos q, q, hx]
    · rw [if_neg q]
  rw [e] at h; exact h
theorem compEnd_tup {h₀ : Heap} {L : Addr} {m : Str → Option Value} {s₁ : Shared} {I C D T : Addr} {oI oC oD oT : Obj} {S : List (Addr × Obj) → Prop} {R : Value → List (Addr × Obj) → Prop} {y : Value} {h' : Heap} {tk : Nat} {news : List (Addr × Obj)} {X : Prop} (F : Fr h₀ L h' m) (N : News h₀ L h' ((T, oT) :: (I, oI) :: (C, oC) :: (D, oD) :: news))
    (off : LCg.Off3 I C D news) (lt : @LT.lt Nat _ I T ∧ @LT.lt Nat _ C T ∧ @LT.lt Nat _ D T ∧ X) (hS : S ((T, oT) :: news)) (r : R y ((T, oT) :: news)) : LCg.CompEnd h₀ L m s₁ I oI C oC D oD S R y { s₁ with heap := h', toks := tk } :=
  LCg.CompEnd.intro F N ((T, oT) :: news) (fun p hp => by
    simp only [List.mem_cons] at hp ⊢
    rcases hp with h | h | h | h | h
    · exact .inr (.inl h)
    · exact .inr (.inr (.inl h))
    · exact .inr (.inr (.inr (.inl h)))
    · exact .inl h
    · exact .inr (.inr (.inr (.inr h)))) ⟨⟨Nat.ne_of_gt lt.1, Nat.ne_of_gt lt.2.1, Nat.ne_of_gt lt.2.2.1⟩, off⟩ hS r
theorem sp_t {a : Int} {c : Bool} (h : c = true) : a * 2 = a * (if c then 2 else 1) := by rw [h]; rfl
theorem sp_f {a : Int} {c : Bool} (h : c = false) : a * 1 = a * (if c then 2 else 1) := by rw [h]; rfl
theorem ints3 {ys : List Value} {a b c : Int} (h : IntsAre ys [a, b, c]) : ∃ t0 t1 t2, ys = [.int a t0, .int b t1, .int c t2] := by
  cases h with
  | cons _ t0 h =>
    cases h with
    | cons _ t1 h =>
      cases h with
      | cons _ t2 h =>
        cases h
        exact ⟨t0, t1, t2, rfl⟩
theorem slice_to {prog : Program} {w : World} {A : Around} {E : Value → Shared → Prop} {s : Shared} {h₀ : Heap} {L : Addr} {m : Str → Option Value} {news : List (Addr × Obj)} {value slice : PySem.Expr} {x y : Str} {t : Tok} {Q : Value → Shared → Prop} {i : Int} {ui : Tok} (hF : Fr h₀ L s.heap m) (hN : News h₀ L s.heap news) (e : Txt.slice x (some i) none = y) (hz : x.length ≤ 1000)
    (h : ∀ h' t' k, Fr h₀ L h' m → News h₀ L h' news → Q (.str y t') { s with heap := h', toks := k })
    (hs : subscripted slice false (.str x t) (.ref s.heap.objs.size) = operate [.ref s.heap.objs.size, .str x t] (getItem (.str x t) (.ref s.heap.objs.size)) := by with_unfolding_all rfl)
    (ht : ∀ r, letTemporaryGo value (.str x t) r = pure () := by intro _; with_unfolding_all rfl) :
    wpAny (model prog w) A (subscriptTail value slice (.str x t) (.ref s.heap.objs.size)) Q E { s with heap := s.heap.push { cls := .type "slice", data := .fields #[.int i ui, .none, .none] } } := by
  subst e
  exact slice_strN_sn hF hN h hs ht (by rw [sizeLine_eq]; omega)
theorem fa_cons {α : Type} {P : α → Prop} {a : α} {r : List α} (h : P a) (t : ∀ p ∈ r, P p) : ∀ p ∈ a :: r, P p := List.forall_mem_cons.mpr ⟨h, t⟩
theorem ne7 {D L : Addr} {X : Prop} (h : @Ne Nat (L + 1 + 1 + 1 + 1 + 1 + 1 + 1) D ∧ @Ne Nat (L + 1 + 1 + 1 + 1 + 1 + 1) D ∧ @Ne Nat (L + 1 + 1 + 1 + 1 + 1) D ∧ @Ne Nat (L + 1 + 1 + 1 + 1) D ∧ @Ne Nat (L + 1 + 1 + 1) D ∧ @Ne Nat (L + 1 + 1) D ∧ @Ne Nat (L + 1) D ∧ X) : (Off7 L D) := ⟨Ne.symm h.2.2.2.2.2.2.1, Ne.symm h.2.2.2.2.2.1, Ne.symm h.2.2.2.2.1, Ne.symm h.2.2.2.1, Ne.symm h.2.2.1, Ne.symm h.2.1, Ne.symm h.1⟩
theorem lt7 {D L : Addr} {X : Prop} (h : @LT.lt Nat _ (L + 1 + 1 + 1 + 1 + 1 + 1 + 1) D ∧ @LT.lt Nat _ (L + 1 + 1 + 1 + 1 + 1 + 1) D ∧ @LT.lt Nat _ (L + 1 + 1 + 1 + 1 + 1) D ∧ @LT.lt Nat _ (L + 1 + 1 + 1 + 1) D ∧ @LT.lt Nat _ (L + 1 + 1 + 1) D ∧ @LT.lt Nat _ (L + 1 + 1) D ∧ @LT.lt Nat _ (L + 1) D ∧ X) : (Off7 L D) := ⟨Nat.ne_of_gt h.2.2.2.2.2.2.1, Nat.ne_of_gt h.2.2.2.2.2.1, Nat.ne_of_gt h.2.2.2.2.1, Nat.ne_of_gt h.2.2.2.1, Nat.ne_of_gt h.2.2.1, Nat.ne_of_gt h.2.1, Nat.ne_of_gt h.1⟩
end Mine
end
section
open _root_.PySem _root_.PySem.W _root_.PySem.W.X _root_.PyProof.Rows
set_option Elab.async false
set_option maxRecDepth 100000
set_option maxHeartbeats 0
namespace Mine
theorem rs17 : True := by w_top off; trivial
local macro_rules | `(tactic| k_updF) => `(tactic| first | (refine' UpdF.head ?a; (case a => (repeat (refine all_cons (by first | k_ne | omega) ?_)); first | exact all_off1 (by assumption) | exact all_off2 (by assumption) | exact all_off3 (by assumption) | exact all_off4 (by assumption) | exact all_off5 (by assumption) | exact all_off6 (by assumption) | exact all_off7 (by assumption) | (intro p hp; cases hp))) | (refine' UpdF.tail ?a ?b; (case a => first | k_ne | omega); (case b => k_updF)))
theorem s14_0 {w : World} {loose : List Str} {mean : ExcName → Option Value} {mg mb : Str → Option Value} {base : Heap} {L fa : Addr} {cd : Value} {m : Str → Option Value} {s : Shared} {Q : Flow → Shared → Prop} {E : Value → Shared → Prop}
   (cB : Below callerA base [] base) (cX : (Mine.hd.heap_39 w.params).In base) (cT : Top Mine.hd.view_39 loose mean mg mb base) (hE : PassesOwn (model PP w) (lawA L fa cd) (lawEnv L fa cd) E)
   {o1 o2 o3 o4 o5 o6 o7 : Obj} {ns : List (Addr × Obj)} (hns : ∀ p ∈ ns, (Off7 L p.1))
   {lo lf lb lp : Addr} {ct fr : Int} {wd td le : Array UInt8} {zn : Str} {dd : Bool} {tc tw tz tt ti tl tf : Tok} {i : Nat} {ts : List Int} {f0 f1 f2 : Int} (htd : KBw.bInts td = ts) (hts : ts.length = 36) (hi : i < 12) (hc : cut ts i = [f0, f1, f2])
   (cF : Fr base L s.heap (fun y => if y = Str.ofString "start" then some (.int (0 + (i : Int) * 3) ti) else if y = Str.ofString "turned" then some (.bytes td tt) else if y = Str.ofString "zone" then some (.str zn tz) else if y = Str.ofString "words" then some (.bytes wd tw) else if y = Str.ofString "forms" then some (.ref lf) else if y = Str.ofString "count" then some (.int ct tc) else if y = Str.ofString "own" then some (.ref lo) else m y)) (cN : News base L s.heap ((L + 1 + 1 + 1 + 1 + 1 + 1 + 1, o7) :: (L + 1 + 1 + 1 + 1 + 1 + 1, o6) :: (L + 1 + 1 + 1 + 1 + 1, o5) :: (L + 1 + 1 + 1 + 1, o4) :: (L + 1 + 1 + 1, o3) :: (L + 1 + 1, o2) :: (L + 1, o1) :: ns))
  
   (hret : ∀ (m' : Str → Option Value) (h' : Heap) (tk' : Nat) (b : Array UInt8) (t : Tok), KBw.bInts b = [f0, f1, f2] → Fr base L h' (fun y => if y = Str.ofString "letters" then some (.bytes b t) else if y = Str.ofString "start" then some (.int (0 + (i : Int) * 3) ti) else if y = Str.ofString "turned" then some (.bytes td tt) else if y = Str.ofString "zone" then some (.str zn tz) else if y = Str.ofString "words" then some (.bytes wd tw) else if y = Str.ofString "forms" then some (.ref lf) else if y = Str.ofString "count" then some (.int ct tc) else if y = Str.ofString "own" then some (.ref lo) else m' y) → News base L h' ((L + 1 + 1 + 1 + 1 + 1 + 1 + 1, o7) :: (L + 1 + 1 + 1 + 1 + 1 + 1, o6) :: (L + 1 + 1 + 1 + 1 + 1, o5) :: (L + 1 + 1 + 1 + 1, o4) :: (L + 1 + 1 + 1, o3) :: (L + 1 + 1, o2) :: (L + 1, o1) :: ns) → Q .next { s with heap := h', toks := tk' }) :
   wpAny (model PP w) (lawA L fa cd) (exec (forB (st 14) 0) (lawEnv L fa cd)) Q E s := by
  conv in (forB (st 14) 0) => whnf
  unfold lawA lawEnv
  conv in (occs := *) lawScope => all_goals whnf
  with_reducible refine wp_gen fun tk0 => ?_
  with_reducible refine letN cN ?_
  intro nz0 cN0
  clear cN
  with_reducible refine letF cF ?_
  intro mz0 cF0
  clear cF
  with_reducible refine letA ?_
  intro A0
  (repeat' (first | (k_unfold; (try dsimp only)) | (k_end; wrow_close) | ((k_here; (with_reducible show wpAny _ _ (subscriptTail _ (Expr.Slice _ _ none _) (Value.bytes _ _) (Value.ref _)) _ _ _); (with_reducible rename Fr _ _ _ _ => F'); (with_reducible rename News _ _ _ _ => N'); (refine slice3 (s := ⟨_, _, _, _, _⟩) F' N' (by with_reducible assumption) (by with_reducible assumption) (by with_reducible assumption) (by rfl) (by rfl) (by with_reducible assumption) ?_); intro _ _ _ _ _ _ _)) | walk1 | (dsimp only; walk1) | (leave1; try dsimp only) | fail "no step"))
  exact hret _ _ _ _ _ (by assumption) (Fr.put (Str.ofString "letters") (Fr.put (Str.ofString "start") (Fr.put (Str.ofString "turned") (Fr.put (Str.ofString "zone") (Fr.put (Str.ofString "words") (Fr.put (Str.ofString "forms") (Fr.put (Str.ofString "count") (Fr.put (Str.ofString "own") ((by assumption)) rfl) rfl) rfl) rfl) rfl) rfl) rfl) rfl) (by assumption)
end Mine
end
section
open _root_.PySem _root_.PySem.W _root_.PySem.W.X _root_.PyProof.Rows _root_.PySem.Spec _root_.PySem.Calls _root_.PyProof.Rows.LCg
set_option Elab.async false
set_option maxRecDepth 100000
set_option maxHeartbeats 0
namespace Mine
local macro_rules | `(tactic| walk_at "none") => `(tactic| skip)
theorem rs18 : True := by w_top off; trivial
def BRest (prog : Program) (w : World) (A : Around) (h₀ : Heap) (L : Addr) (m : Str → Option Value) (env : Env) (elt : Expr) (x : Str) (scope : Scope) (cl : List (Str × Addr)) (s : Shared)
    (Fin : List Value → List (Addr × Obj) → Prop) : List Int → List Value → List (Addr × Obj) → Prop
  | [], ys, news => Fin ys news
  | k :: ks, ys, news => ∀ t I oI C oC D m₂ h tk (E' : Value → Shared → Prop), NsObj oC m₂ → m₂ x = some (.int k t) → Fr h₀ L h m → News h₀ L h ((I, oI) :: (C, oC) :: (D, lst ys) :: news) → Off3 I C D news → ((@Ne Nat I C) ∧ (@Ne Nat I D) ∧ (@Ne Nat C D)) →
      wpAny (model prog w) A (eval elt (compEnvC scope cl C env)) (CompEnd h₀ L m { s with heap := h, toks := tk } I oI C oC D (lst ys) (fun _ => True) (fun y news' => BRest prog w A h₀ L m env elt x scope cl s Fin ks (ys ++ [y]) news')) E' { s with heap := h, toks := tk }
section
variable {prog : Program} {w : World} {A : Around} {E : Value → Shared → Prop} {s : Shared} {h₀ : Heap} {L : Addr} {m : Str → Option Value} {env : Env}
theorem BRest.zero {elt : Expr} {x : Str} {scope : Scope} {cl : List (Str × Addr)} {Fin : List Value → List (Addr × Obj) → Prop} {ys : List Value} {news : List (Addr × Obj)} (h : Fin ys news) :
    BRest prog w A h₀ L m env elt x scope cl s Fin [] ys news := h
theorem BRest.succ {elt : Expr} {x : Str} {scope : Scope} {cl : List (Str × Addr)} {Fin : List Value → List (Addr × Obj) → Prop} {k : Int} {ks : List Int} {ys : List Value} {news : List (Addr × Obj)}
    (h : ∀ t I oI C oC D m₂ h tk (E' : Value → Shared → Prop), NsObj oC m₂ → m₂ x = some (.int k t) → Fr h₀ L h m → News h₀ L h ((I, oI) :: (C, oC) :: (D, lst ys) :: news) → Off3 I C D news → ((@Ne Nat I C) ∧ (@Ne Nat I D) ∧ (@Ne Nat C D)) →
      wpAny (model prog w) A (eval elt (compEnvC scope cl C env)) (CompEnd h₀ L m { s with heap := h, toks := tk } I oI C oC D (lst ys) (fun _ => True) (fun y news' => BRest prog w A h₀ L m env elt x scope cl s Fin ks (ys ++ [y]) news')) E' { s with heap := h, toks := tk }) :
    BRest prog w A h₀ L m env elt x scope cl s Fin (k :: ks) ys news := h
theorem compEnd_mono {s₁ s₂ : Shared} {I C D : Addr} {oI oC oD : Obj} {S : List (Addr × Obj) → Prop} {R R' : Value → List (Addr × Obj) → Prop} {y : Value} (h : CompEnd h₀ L m s₁ I oI C oC D oD S R y s₂) (k : ∀ y news', R y news' → R' y news') :
    CompEnd h₀ L m s₁ I oI C oC D oD S R' y s₂ := by
  obtain ⟨h', tk, news', e, F, N, o, hS, r⟩ := h
  exact ⟨h', tk, news', e, F, N, o, hS, k _ _ r⟩
theorem brest_comp {elt : Expr} {x : Str} {scope : Scope} {cl : List (Str × Addr)} {Fin : List Value → List (Addr × Obj) → Prop} {f : Nat → Int} : ∀ (ks : List Int) (i : Nat) (ys : List Value) (news : List (Addr × Obj)), (∀ j, j < ks.length → f (i + j) = ks.getD j 0) →
    BRest prog w A h₀ L m env elt x scope cl s Fin ks ys news → CompRest prog w A h₀ L m env elt x scope cl s (fun _ => True) (fun i v => ∃ t, v = .int (f i) t) Fin ks.length i ys news
  | [], _, _, _, _, h => h
  | k :: ks, i, ys, news, hf, h => by
    refine CompRest.succ ?_
    rintro v I oI C oC D m₂ hh tk E' ⟨t, rfl⟩ hC hx F N off ne
    have e0 : f i = k := hf 0 (Nat.succ_pos _)
    rw [e0] at hx
    refine wpAny_mono (h t I oI C oC D m₂ hh tk E' hC hx F N off ne) (fun y s' q => compEnd_mono q fun y news' r => ?_) fun _ _ e => e
    exact brest_comp ks (i + 1) _ _ (fun j hj => by have := hf (j + 1) (Nat.succ_lt_succ hj); rw [Nat.add_assoc, Nat.add_comm 1 j]; exact this) r
def BSrc (prog : Program) (w : World) (A : Around) (h₀ : Heap) (L : Addr) (m : Str → Option Value) (env : Env) (elt : Expr) (x : Str) (scope : Scope) (cl : List (Str × Addr)) (Fin : Shared → List Value → List (Addr × Obj) → Prop) (xv : Value) (s₁ : Shared) : Prop :=
  ∃ b t ks news, xv = .bytes b t ∧ KBw.bInts b = ks ∧ ks.length ≤ sizeLine ∧ A.handled = none ∧ Fr h₀ L s₁.heap m ∧ News h₀ L s₁.heap news ∧
      ∀ g, BRest prog w A h₀ L m env elt x scope cl { s₁ with heap := g } (Fin { s₁ with heap := g }) ks [] news
theorem BSrc.intro {elt : Expr} {x : Str} {scope : Scope} {cl : List (Str × Addr)} {Fin : Shared → List Value → List (Addr × Obj) → Prop} {b : Array UInt8} {t : Tok} {ks : List Int} {news : List (Addr × Obj)}
    (hk : KBw.bInts b = ks) (hz : ks.length ≤ sizeLine) (hh : A.handled = none) (F : Fr h₀ L s.heap m) (N : News h₀ L s.heap news) (h : ∀ g, BRest prog w A h₀ L m env elt x scope cl { s with heap := g } (Fin { s with heap := g }) ks [] news) :
    BSrc prog w A h₀ L m env elt x scope cl Fin (.bytes b t) s := ⟨b, t, ks, news, rfl, hk, hz, hh, F, N, h⟩
theorem ListComp_bytes {elt iter : Expr} {x : Str} {px : Pos} {scope : Scope} {cl : List (Str × Addr)} {pos : Pos} {Q : Value → Shared → Prop} (F₀ : Fr h₀ L s.heap m)
    (hclos : closureFor scope env = pure cl) (hcell : ∀ y ∈ scope.names, y.2 ≠ .cell) (hkind : scope.kind = .function)
    (hnames : ∀ y ∈ scope.names, y.2 = .local → scope.names.lookup y.1 = some .local) (hx : scope.names.lookup x = some .local)
    (h : wpAny (model prog w) A (eval iter env) (BSrc prog w A h₀ L m env elt x scope cl (fun s₂ => FinE h₀ L m s₂ Q)) E s)
    (hs : ∀ x, foldedSetIterable iter env x = pure x := by intro _; rfl) :
    wpAny (model prog w) A (eval (.ListComp elt [⟨.Name x px, iter, [], 0⟩] scope pos) env) Q E s := by
  rw [eval_ListComp]
  refine wpAny_comprehension_free (use := none) rfl hs hclos hkind hnames (wpAny_mono h (fun xv s₁ h₁ => ?_) fun _ _ e => e)
  obtain ⟨b, t, ks, news, rfl, hk, hsz, hh, F, N, R⟩ := h₁
  subst hk
  refine KBw.pyIter_bytes ?_
  have up : ∀ b' o, s₁.heap.get? b' = some o → (s₁.heap.push { cls := .type "bytes_iterator", data := .fields #[.bytes b t, .int 0 0] }).get? b' = some o := fun b' o e => Heap.get?_push_of_some _ e
  have W := KBw.walks (prog := prog) (w := w) hh s₁.heap.objs.size b t
  have hlen : b.size = (KBw.bInts b).length := (KBw.ints_length b).symm
  have W' : Walks prog w A s₁.heap.objs.size [s₁.heap.objs.size] [s₁.heap.objs.size] (KBw.bInts b).length (fun i v => ∃ t, v = .int ((KBw.bInts b).getD i 0) t) (fun i h => KBw.IsBytesIter h s₁.heap.objs.size b t i) := by
    rw [← hlen]
    refine ⟨W.sub, W.frame, fun i s' Q' E' hi hst hQ => ?_, W.done, W.self⟩
    refine W.item i s' Q' E' hi hst fun v h' tk hP => hQ v h' tk ?_
    obtain ⟨c, u, hc, rfl⟩ := hP
    have hg := KBw.ints_get hc
    exact ⟨u, by rw [List.getD_eq_getElem?_getD, hg]; rfl⟩
  refine block_U W' hsz (fun i h st => by obtain ⟨o, e, _⟩ := st; exact ⟨o, e⟩) (fun i h h' o nw st e e' _ _ _ => by obtain ⟨o', q, r⟩ := st; rw [e] at q; cases q; exact ⟨o, e', r⟩) hcell hkind hx
    ⟨_, Heap.get?_push_size _ rfl, rfl, rfl⟩ (fun b' hb => ?_) (F.keeps up) (N.grown up) (Nat.ne_of_lt F.ns.lt) (next_is_new F) (fun p hp => Nat.ne_of_lt (Heap.lt_size (N p hp).1)) trivial
    (brest_comp (KBw.bInts b) 0 [] news (fun j hj => by rw [Nat.zero_add]) (R _)) ?_
  · show b' < (s₁.heap.push _).objs.size
    rw [Heap.size_push, List.mem_singleton.mp hb]
    exact Nat.lt_succ_self _
  · intro D C h tk m' ys news' F' N' o1 hn hC₀ hD₀ hCL hDL hCD offC fin
    refine ⟨m', hn, fun h'' hs'' => fin D h'' tk (F'.change hs'' hCL hC₀) (fun p hp => ?_) o1⟩
    refine ⟨hs''.extBut _ _ ?_ (N' p hp).1, (N' p hp).2⟩
    rcases List.mem_cons.mp hp with rfl | hp
    · exact Ne.symm hCD
    · exact offC p hp
end
end Mine
end
section
open _root_.PySem _root_.PySem.W _root_.PySem.W.X _root_.PyProof.Rows
set_option Elab.async false
set_option maxRecDepth 100000
set_option maxHeartbeats 0
namespace Mine
theorem rs19 : True := by w_top off; trivial
local macro_rules | `(tactic| k_updF) => `(tactic| first | (refine' UpdF.head ?a; (case a => (repeat (refine all_cons (by first | k_ne | omega) ?_)); first | exact all_off1 (by assumption) | exact all_off2 (by assumption) | exact all_off3 (by assumption) | exact all_off4 (by assumption) | exact all_off5 (by assumption) | exact all_off6 (by assumption) | exact all_off7 (by assumption) | (intro p hp; cases hp))) | (refine' UpdF.tail ?a ?b; (case a => first | k_ne | omega); (case b => k_updF)))
theorem off1_tail {D : Addr} {z1 z2 z3 z4 z5 z6 z7 : Addr × Obj} {ns : List (Addr × Obj)} (h : LCg.Off1 D (z1 :: z2 :: z3 :: z4 :: z5 :: z6 :: z7 :: ns)) : LCg.Off1 D ns := h.2.2.2.2.2.2.2
theorem ne7o {D L : Addr} {o1 o2 o3 o4 o5 o6 o7 : Obj} {ns : List (Addr × Obj)} (h : LCg.Off1 D ((L + 1 + 1 + 1 + 1 + 1 + 1 + 1, o7) :: (L + 1 + 1 + 1 + 1 + 1 + 1, o6) :: (L + 1 + 1 + 1 + 1 + 1, o5) :: (L + 1 + 1 + 1 + 1, o4) :: (L + 1 + 1 + 1, o3) :: (L + 1 + 1, o2) :: (L + 1, o1) :: ns)) : (Off7 L D) := ⟨Ne.symm h.2.2.2.2.2.2.1, Ne.symm h.2.2.2.2.2.1, Ne.symm h.2.2.2.2.1, Ne.symm h.2.2.2.1, Ne.symm h.2.2.1, Ne.symm h.2.1, Ne.symm h.1⟩
local macro_rules | `(tactic| walk_at "BRest") => `(tactic| ((with_reducible show BRest ..); with_unfolding_all first | (refine BRest.succ ?_; intro t' I' oI' C' oC' D' m' h' tk' E' hC' hx' F' N' off' ne'; clear ne') | refine BRest.zero ?_))
local macro_rules | `(tactic| walk_at "CompRest") => `(tactic| (with_unfolding_all first
  | (refine LCg.CompRest.succ ?_; intro v' I' oI' C' oC' D' m' h' tk' E' hv' hC' hx' F' N' off' ne'; (first | lcg_open hv' | (obtain ⟨t9', hv9'⟩ := hv'; subst hv9')); have off2' := off'; (try simp only [LCg.Off3, and_true] at off2'))
  | refine LCg.CompRest.zero ?_))
local macro_rules | `(tactic| walk_at "FinE") => `(tactic| ((unfold LCg.FinE); intro D' h' tk' F' N' o1'; have o2' := o1'; (try simp only [LCg.Off1] at o2'); (try simp only [List.nil_append, List.cons_append] at N'); (try dsimp only)))
theorem s14_1 {w : World} {loose : List Str} {mean : ExcName → Option Value} {mg mb : Str → Option Value} {base : Heap} {L fa : Addr} {cd : Value} {m : Str → Option Value} {s : Shared} {Q : Flow → Shared → Prop} {E : Value → Shared → Prop}
   (cB : Below callerA base [] base) (cX : (Mine.hd.heap_39 w.params).In base) (cT : Top Mine.hd.view_39 loose mean mg mb base) (hE : PassesOwn (model PP w) (lawA L fa cd) (lawEnv L fa cd) E)
   {o1 o2 o3 o4 o5 o6 o7 : Obj} {ns : List (Addr × Obj)} (hns : ∀ p ∈ ns, (Off7 L p.1))
   {lo lf lb lp : Addr} {ct fr : Int} {wd td le : Array UInt8} {zn : Str} {dd : Bool} {tc tw tz tt ti tl tf : Tok} {i : Nat} {yf : Option Value} {f0 f1 f2 : Int} (hle : KBw.bInts le = [f0, f1, f2]) (a0 : 65 ≤ f0) (a1 : f0 ≤ 67) (b0 : 65 ≤ f1) (b1 : f1 ≤ 67) (d0 : 65 ≤ f2) (d1 : f2 ≤ 67)
   (cF : Fr base L s.heap (fun y => if y = Str.ofString "letters" then some (.bytes le tl) else if y = Str.ofString "start" then some (.int (0 + (i : Int) * 3) ti) else if y = Str.ofString "turned" then some (.bytes td tt) else if y = Str.ofString "zone" then some (.str zn tz) else if y = Str.ofString "words" then some (.bytes wd tw) else if y = Str.ofString "forms" then some (.ref lf) else if y = Str.ofString "count" then some (.int ct tc) else if y = Str.ofString "own" then some (.ref lo) else m y)) (cN : News base L s.heap ((L + 1 + 1 + 1 + 1 + 1 + 1 + 1, o7) :: (L + 1 + 1 + 1 + 1 + 1 + 1, o6) :: (L + 1 + 1 + 1 + 1 + 1, o5) :: (L + 1 + 1 + 1 + 1, o4) :: (L + 1 + 1 + 1, o3) :: (L + 1 + 1, o2) :: (L + 1, o1) :: ns))
   (d6 : o6.data = .cell (yf))
   (hret : ∀ (m' : Str → Option Value) (h' : Heap) (tk' : Nat) (q6 : Obj) (D : Addr) (x0 x1 x2 : Tok), (Off7 L D) → LCg.Off1 D ns → q6.data = .cell (some (.ref D)) → Fr base L h' (fun y => if y = Str.ofString "letters" then some (.bytes le tl) else if y = Str.ofString "start" then some (.int (0 + (i : Int) * 3) ti) else if y = Str.ofString "turned" then some (.bytes td tt) else if y = Str.ofString "zone" then some (.str zn tz) else if y = Str.ofString "words" then some (.bytes wd tw) else if y = Str.ofString "forms" then some (.ref lf) else if y = Str.ofString "count" then some (.int ct tc) else if y = Str.ofString "own" then some (.ref lo) else m' y) → News base L h' ((D, LCg.lst [.int (f0 - 65) x0, .int (f1 - 65) x1, .int (f2 - 65) x2]) :: (L + 1 + 1 + 1 + 1 + 1 + 1 + 1, o7) :: (L + 1 + 1 + 1 + 1 + 1 + 1, q6) :: (L + 1 + 1 + 1 + 1 + 1, o5) :: (L + 1 + 1 + 1 + 1, o4) :: (L + 1 + 1 + 1, o3) :: (L + 1 + 1, o2) :: (L + 1, o1) :: ns) → Q .next { s with heap := h', toks := tk' }) :
   wpAny (model PP w) (lawA L fa cd) (exec (forB (st 14) 1) (lawEnv L fa cd)) Q E s := by
  conv in (forB (st 14) 1) => whnf
  unfold lawA lawEnv
  conv in (occs := *) lawScope => all_goals whnf
  with_reducible refine wp_gen fun tk0 => ?_
  with_reducible refine letF cF ?_
  intro mz0 cF0
  clear cF
  with_reducible refine letA ?_
  intro A0
  (repeat' (first | (k_unfold; (try dsimp only)) | (k_end; wrow_close) | (k_end; first | ((k_dflt (refine LCg.CompEnd.intro (by assumption) (by k_asm) _ (fun p hp => hp) (by assumption) True.intro ?_))) | ((k_here; k_dflt (refine LCg.CompSrc.range (by rfl) (by k_asm) (by k_asm) (by assumption) (by first | decide | rfl) (by first | rfl | decide) (by first | size_fits | exact Nat.le_of_ble_eq_true rfl) ?_; intro _; lcg_lit))) | ((k_dflt (refine BSrc.intro (by with_reducible assumption) (by exact Nat.le_of_ble_eq_true rfl) (by rfl) (by k_asm) (by k_asm) ?_); intro _))) | ((k_here; first | ((with_reducible show wpAny _ _ (eval (PySem.Expr.ListComp _ [⟨_, PySem.Expr.Name _ _, _, _⟩] _ _) _) _ _ _); k_dflt (refine ListComp_bytes (F₀ := by k_asm) (by rfl) (by decide) (by rfl) (by decide) (by rfl) ?_)) | ((with_reducible show wpAny _ _ (eval (PySem.Expr.ListComp _ [⟨_, PySem.Expr.Call _ _ _ _, _, _⟩] _ _) _) _ _ _); k_dflt (refine LCg.ListComp_U (F₀ := by k_asm) (by rfl) (by decide) (by rfl) (by decide) (by rfl) ?_)))) | walk1 | (dsimp only; walk1) | (leave1; try dsimp only) | fail "no step"))
  rename_i D1 h11 tk11 o1z o2z h12 o6z Fz Nz d6z
  exact hret _ _ _ o6z D1 _ _ _ (ne7o o1z) (off1_tail o1z) d6z (Fr.put (Str.ofString "letters") (Fr.put (Str.ofString "start") (Fr.put (Str.ofString "turned") (Fr.put (Str.ofString "zone") (Fr.put (Str.ofString "words") (Fr.put (Str.ofString "forms") (Fr.put (Str.ofString "count") (Fr.put (Str.ofString "own") ((by assumption)) rfl) rfl) rfl) rfl) rfl) rfl) rfl) rfl) Nz
end Mine
end
section
open _root_.PySem _root_.PySem.W _root_.PySem.W.X _root_.PyProof.Rows
set_option Elab.async false
set_option maxRecDepth 100000
set_option maxHeartbeats 0
namespace Mine
local macro_rules | `(tactic| walk_at "none") => `(tactic| skip)
theorem rs20 : True := by w_top off; trivial
def hostS (f0 f1 f2 : Int) : Str := ⟨#[f0.toNat, 46, f1.toNat, 46, f2.toNat, 46, 108, 111, 99, 97, 108]⟩
theorem join_host (n0 n1 n2 : Nat) : Txt.join (Str.ofString ".") [⟨#[n0]⟩, ⟨#[n1]⟩, ⟨#[n2]⟩, Str.ofString "local"] = ⟨#[n0, 46, n1, 46, n2, 46, 108, 111, 99, 97, 108]⟩ := by
  first | rfl | (apply Str.ext'; rfl) | kernel_rfl
theorem join4 {prog : Program} {w : World} {A : Around} {E : Value → Shared → Prop} {s : Shared} {Q : Value → Shared → Prop} {h₀ : Heap} {L D : Addr} {news : List (Addr × Obj)} {n0 n1 n2 n : Nat} {t t0 t1 t2 t3 : Tok}
    (N : News h₀ L s.heap news) (hm : (D, W.listOf #[.str ⟨#[n0]⟩ t0, .str ⟨#[n1]⟩ t1, .str ⟨#[n2]⟩ t2, .str (Str.ofString "local") t3] n) ∈ news)
    (h : ∀ t' k, Q (.str ⟨#[n0, 46, n1, 46, n2, 46, 108, 111, 99, 97, 108]⟩ t') { s with toks := k }) : wpAny (model prog w) A (call (.builtin "str.join") [.str (Str.ofString ".") t, .ref D]) Q E s := by
  refine SC.join (l := [(⟨#[n0]⟩, t0), (⟨#[n1]⟩, t1), (⟨#[n2]⟩, t2), (Str.ofString "local", t3)]) (News.isList N hm) rfl ?_ ?_
  · refine joinOk_of ?_
    have e : (Str.ofString "local").length = 5 := by decide
    have e2 : (Str.ofString ".").length = 1 := by decide
    show (1 + (1 + (1 + ((Str.ofString "local").length + 0)))) + 4 * (Str.ofString ".").length ≤ 16777216
    rw [e, e2]; decide
  · intro t' k
    rw [show List.map (fun x => x.1) [((⟨#[n0]⟩ : Str), t0), (⟨#[n1]⟩, t1), (⟨#[n2]⟩, t2), (Str.ofString "local", t3)] = [⟨#[n0]⟩, ⟨#[n1]⟩, ⟨#[n2]⟩, Str.ofString "local"] from rfl, join_host]
    exact h t' k
theorem c_hostb {w : World} {loose : List Str} {mean : ExcName → Option Value} {mg mb : Str → Option Value} {dp un : Nat} {gd : Option (List Code)} {cn : Str} {cs : Scope} {a : Addr} {ccd : Value} {cl : List (Str × Addr)} {outer : List Env} {A₀ : Around} {base h₀ : Heap} {L : Addr} {m : Str → Option Value} {news : List (Addr × Obj)} {s : Shared} {Q E : Value → Shared → Prop}
   (cx : Cx 1 w loose mean mg mb dp un cs outer A₀ base h₀ L m s.heap news) {b : Array UInt8} {f0 f1 f2 : Int} {t : Tok} (hb : KBw.bInts b = [f0, f1, f2]) (a0 : 65 ≤ f0) (a1 : f0 ≤ 67) (b0 : 65 ≤ f1) (b1 : f1 ≤ 67) (c0 : 65 ≤ f2) (c1 : f2 ≤ 67)
   (hret : ∀ (t' : Tok) (h' : Heap) (tk' : Nat), Fr h₀ L h' m → News h₀ L h' news → Q (.str (hostS f0 f1 f2) t') { s with heap := h', toks := tk' }) :
  wpAny (model PP w) (ktrTop dp un gd cn cs L a ccd cl outer) (call (.ref 97) [.bytes b t]) Q E s := by
  obtain ⟨cB, cF, cX, cN, cT, ck, cd, cu⟩ := cx
  refine wpAny_call ?_
  k_dflt cell_enter
  with_reducible refine wp_gen fun tk0 => ?_
  dsimp only
  with_reducible refine letA ?_
  intro A0
  (repeat' (first | (k_unfold; (try dsimp only)) | (k_end; wrow_close) | (k_end; first | ((k_dflt (refine LCg.CompEnd.intro (by assumption) (by k_asm) _ (fun p hp => hp) (by assumption) True.intro ?_))) | (((with_reducible show BRest ..); with_unfolding_all first | (refine BRest.succ ?_; intro _ _ _ _ _ _ _ _ _ _ _ _ _ _ off' _; (try simp only [LCg.Off3, and_true] at off')) | refine BRest.zero ?_)) | ((k_dflt (refine BSrc.intro (by assumption) (by first | size_fits | exact Nat.le_of_ble_eq_true rfl) (by rfl) (by k_asm) (by k_asm) ?_); intro _))) | ((with_reducible show wpAny _ _ (call (Value.builtin "str.join") _ _) _ _ _); (k_here; k_dflt (refine' join4 (by k_asm) (by k_mem) ?_); intro _ _)) | ((with_reducible show wpAny _ _ (eval (PySem.Expr.ListComp _ _ _ _) _) _ _ _); (k_here; k_dflt (refine ListComp_bytes (F₀ := by k_asm) (by rfl) (by decide) (by rfl) (by decide) (by rfl) ?_))) | walk1 | (dsimp only; walk1) | (leave1; try dsimp only) | fail "no step"))
  all_goals (first | (exact hret _ _ _ (by assumption) (cb_drop (by assumption) (by intro p hp; simp only [List.mem_cons]; simp only [hp, or_true]))) | trace_state)
end Mine
end
section
open _root_.PySem _root_.PySem.W _root_.PySem.W.X _root_.PyProof.Rows
set_option Elab.async false
set_option maxRecDepth 100000
set_option maxHeartbeats 0
namespace Mine
local macro_rules | `(tactic| walk_at "none") => `(tactic| skip)
theorem rs21 : True := by w_top off; trivial
local macro_rules | `(tactic| walk_at "call builtin:re.Pattern.search") => `(tactic| (k_here; (refine call_search (by k_in) (by assumption) (by assumption) ?_)))
theorem c_lib {w : World} {loose : List Str} {mean : ExcName → Option Value} {mg mb : Str → Option Value} {dp un : Nat} {gd : Option (List Code)} {cn : Str} {cs : Scope} {a : Addr} {ccd : Value} {cl : List (Str × Addr)} {outer : List Env} {A₀ : Around} {base h₀ : Heap} {L : Addr} {m : Str → Option Value} {news : List (Addr × Obj)} {s : Shared} {Q E : Value → Shared → Prop}
   (cx : Cx 1 w loose mean mg mb dp un cs outer A₀ base h₀ L m s.heap news) {x : Str} {t : Tok} (hx : noMatch x = true) (hz : x.length ≤ 1000)
   (hret : ∀ (h' : Heap) (tk' : Nat), Fr h₀ L h' m → News h₀ L h' news → Q (.bool true) { s with heap := h', toks := tk' }) :
  wpAny (model PP w) (ktrTop dp un gd cn cs L a ccd cl outer) (call (.ref 50) [.str x t]) Q E s := by
  obtain ⟨cB, cF, cX, cN, cT, ck, cd, cu⟩ := cx
  refine wpAny_call ?_
  k_dflt cell_enter
  with_reducible refine wp_gen fun tk0 => ?_
  dsimp only
  with_reducible refine letA ?_
  intro A0
  (repeat' (first | (k_unfold; (try dsimp only)) | (k_end; wrow_close) | ((k_here; (with_reducible show wpAny _ _ (getMethod (Value.ref 36) _ _) _ _ _); (refine getMethod_search (by k_in) ?_))) | walk1 | (dsimp only; walk1) | (leave1; try dsimp only) | fail "no step"))
  all_goals (first | (exact hret _ _ (by assumption) (by assumption)) | (exfalso; simp_all; done))
end Mine
end
section
open _root_.PySem _root_.PySem.W _root_.PySem.W.X _root_.PyProof.Rows
set_option Elab.async false
set_option maxRecDepth 100000
set_option maxHeartbeats 0
namespace Mine
theorem rs22 : True := by w_top off; trivial
def udmF (x y : Str) : Bool := if Txt.startswith y (Str.ofString ".") = true then Txt.endswith x y else x == y
theorem udm1 {x y : Str} {r : Bool} (h1 : Txt.startswith y (Str.ofString ".") = true) (h2 : Txt.endswith x y = r) : udmF x y = r := by unfold udmF; rw [if_pos h1, h2]
theorem udm2 {x y : Str} {r : Bool} (h1 : Txt.startswith y (Str.ofString ".") = false) (h2 : (x == y) = r) : udmF x y = r := by unfold udmF; rw [if_neg (by rw [h1]; decide), h2]
local macro_rules | `(tactic| walk_at "call builtin:str.lower") => `(tactic| (k_here; (refine KXw.lower (by assumption) (by assumption) ?_); intro _ _))
theorem c_udm {w : World} {loose : List Str} {mean : ExcName → Option Value} {mg mb : Str → Option Value} {dp un : Nat} {gd : Option (List Code)} {cn : Str} {cs : Scope} {a : Addr} {ccd : Value} {cl : List (Str × Addr)} {outer : List Env} {A₀ : Around} {base h₀ : Heap} {L : Addr} {m : Str → Option Value} {news : List (Addr × Obj)} {s : Shared} {Q E : Value → Shared → Prop}
   (cx : Cx 2 w loose mean mg mb dp un cs outer A₀ base h₀ L m s.heap news) {x y xl yl : Str} {t t' : Tok} (hx1 : Txt.lower x = xl) (hx2 : Builtin.Str.tooLong (Txt.lower x).length = false) (hy1 : Txt.lower y = yl) (hy2 : Builtin.Str.tooLong (Txt.lower y).length = false) (nx : noMatch xl = true) (ny : noMatch yl = true) (lx : xl.length ≤ 1000) (ly : yl.length ≤ 1000)
   (hret : ∀ (r : Bool) (h' : Heap) (tk' : Nat), udmF xl yl = r → Fr h₀ L h' m → News h₀ L h' news → Q (.bool r) { s with heap := h', toks := tk' }) :
  wpAny (model PP w) (ktrTop dp un gd cn cs L a ccd cl outer) (call (.ref 57) [.str x t, .str y t']) Q E s := by
  obtain ⟨cB, cF, cX, cN, cT, ck, cd, cu⟩ := cx
  refine wpAny_call ?_
  k_dflt cell_enter
  with_reducible refine wp_gen fun tk0 => ?_
  dsimp only
  with_reducible refine letA ?_
  intro A0
  (repeat' (first | (k_unfold; (try dsimp only)) | (k_end; wrow_close) | ((k_here; (with_reducible show wpAny _ _ (call (Value.ref 50) _) _ _ _); k_dflt (refine' c_lib (by walk_at "cx") (by assumption) (by assumption) ?_); intro _ _ _ _; (try dsimp only); (try k_fold))) | walk1 | (dsimp only; walk1) | (leave1; try dsimp only) | fail "no step"))
  all_goals (first | (exact hret _ _ _ (udm1 (by assumption) (by assumption)) (by assumption) (by assumption)) | (exact hret _ _ _ (udm2 (by assumption) (by assumption)) (by assumption) (by assumption)))
end Mine
end
section
open _root_.PySem _root_.PySem.W _root_.PySem.W.X _root_.PyProof.Rows
set_option Elab.async false
set_option maxRecDepth 100000
set_option maxHeartbeats 0
namespace Mine
local macro_rules | `(tactic| walk_at "none") => `(tactic| skip)
local macro_rules | `(tactic| walk_at "none") => `(tactic| skip)
theorem rs23 : True := by w_top off; trivial
def hostL (f0 f1 f2 : Int) : Str := ⟨#[(f0 + 32).toNat, 46, (f1 + 32).toNat, 46, (f2 + 32).toNat, 46, 108, 111, 99, 97, 108]⟩
local macro_rules | `(tactic| k_updF) => `(tactic| first | (refine' UpdF.head ?a; (case a => (repeat (refine all_cons (by first | k_ne | omega) ?_)); first | exact all_off1 (by assumption) | exact all_off2 (by assumption) | exact all_off3 (by assumption) | exact all_off4 (by assumption) | exact all_off5 (by assumption) | exact all_off6 (by assumption) | exact all_off7 (by assumption) | (intro p hp; cases hp))) | (refine' UpdF.tail ?a ?b; (case a => first | k_ne | omega); (case b => k_updF)))
theorem s14_2 {w : World} {loose : List Str} {mean : ExcName → Option Value} {mg mb : Str → Option Value} {base : Heap} {L fa : Addr} {cd : Value} {m : Str → Option Value} {s : Shared} {Q : Flow → Shared → Prop} {E : Value → Shared → Prop}
   (cB : Below callerA base [] base) (cX : (Mine.hd.heap_39 w.params).In base) (cT : Top Mine.hd.view_39 loose mean mg mb base) (hE : PassesOwn (model PP w) (lawA L fa cd) (lawEnv L fa cd) E)
   {o1 o2 o3 o4 o5 o6 o7 : Obj} {ns : List (Addr × Obj)} (hns : ∀ p ∈ ns, (Off7 L p.1))
   {lo lf lb lp : Addr} {ct fr : Int} {wd td le : Array UInt8} {zn : Str} {dd : Bool} {tc tw tz tt ti tl tf : Tok} {i : Nat} {zl : Str} {f0 f1 f2 : Int} (hle : KBw.bInts le = [f0, f1, f2]) (a0 : 65 ≤ f0) (a1 : f0 ≤ 67) (b0 : 65 ≤ f1) (b1 : f1 ≤ 67) (d0 : 65 ≤ f2) (d1 : f2 ≤ 67) (e0 : Txt.lower (hostS f0 f1 f2) = hostL f0 f1 f2) (e1 : Builtin.Str.tooLong (Txt.lower (hostS f0 f1 f2)).length = false) (e2 : noMatch (hostL f0 f1 f2) = true) (e3 : (hostL f0 f1 f2).length ≤ 1000) (hz1 : Txt.lower zn = zl) (hz2 : Builtin.Str.tooLong (Txt.lower zn).length = false) (hz3 : noMatch zl = true) (hz4 : zl.length ≤ 1000)
   (cF : Fr base L s.heap (fun y => if y = Str.ofString "letters" then some (.bytes le tl) else if y = Str.ofString "start" then some (.int (0 + (i : Int) * 3) ti) else if y = Str.ofString "turned" then some (.bytes td tt) else if y = Str.ofString "zone" then some (.str zn tz) else if y = Str.ofString "words" then some (.bytes wd tw) else if y = Str.ofString "forms" then some (.ref lf) else if y = Str.ofString "count" then some (.int ct tc) else if y = Str.ofString "own" then some (.ref lo) else m y)) (cN : News base L s.heap ((L + 1 + 1 + 1 + 1 + 1 + 1 + 1, o7) :: (L + 1 + 1 + 1 + 1 + 1 + 1, o6) :: (L + 1 + 1 + 1 + 1 + 1, o5) :: (L + 1 + 1 + 1 + 1, o4) :: (L + 1 + 1 + 1, o3) :: (L + 1 + 1, o2) :: (L + 1, o1) :: ns))
  
   (hret : ∀ (m' : Str → Option Value) (h' : Heap) (tk' : Nat) (r : Bool), udmF (hostL f0 f1 f2) zl = r → Fr base L h' (fun y => if y = Str.ofString "held" then some (.bool r) else if y = Str.ofString "letters" then some (.bytes le tl) else if y = Str.ofString "start" then some (.int (0 + (i : Int) * 3) ti) else if y = Str.ofString "turned" then some (.bytes td tt) else if y = Str.ofString "zone" then some (.str zn tz) else if y = Str.ofString "words" then some (.bytes wd tw) else if y = Str.ofString "forms" then some (.ref lf) else if y = Str.ofString "count" then some (.int ct tc) else if y = Str.ofString "own" then some (.ref lo) else m' y) → News base L h' ((L + 1 + 1 + 1 + 1 + 1 + 1 + 1, o7) :: (L + 1 + 1 + 1 + 1 + 1 + 1, o6) :: (L + 1 + 1 + 1 + 1 + 1, o5) :: (L + 1 + 1 + 1 + 1, o4) :: (L + 1 + 1 + 1, o3) :: (L + 1 + 1, o2) :: (L + 1, o1) :: ns) → Q .next { s with heap := h', toks := tk' }) :
   wpAny (model PP w) (lawA L fa cd) (exec (forB (st 14) 2) (lawEnv L fa cd)) Q E s := by
  conv in (forB (st 14) 2) => whnf
  unfold lawA lawEnv
  conv in (occs := *) lawScope => all_goals whnf
  with_reducible refine wp_gen fun tk0 => ?_
  with_reducible refine letN cN ?_
  intro nz0 cN0
  clear cN
  with_reducible refine letF cF ?_
  intro mz0 cF0
  clear cF
  with_reducible refine letA ?_
  intro A0
  (repeat' (first | (k_unfold; (try dsimp only)) | (k_end; wrow_close) | ((k_here; (with_reducible show wpAny _ _ (call (Value.ref 57) _) _ _ _); k_dflt (refine' c_udm (by walk_at "cx")  (by with_reducible assumption) (by with_reducible assumption) (by with_reducible assumption) (by with_reducible assumption) (by with_reducible assumption) (by with_reducible assumption) (by with_reducible assumption) (by with_reducible assumption) ?_); intro _ _ _ _ _ _; (try dsimp only); (try k_fold))) | ((k_here; (with_reducible show wpAny _ _ (call (Value.ref 97) _) _ _ _); k_dflt (refine' c_hostb (by walk_at "cx") (by with_reducible assumption) (by with_reducible assumption) (by with_reducible assumption) (by with_reducible assumption) (by with_reducible assumption) (by with_reducible assumption) (by with_reducible assumption) ?_); intro _ _ _ _ _; (try dsimp only); (try k_fold))) | walk1 | (dsimp only; walk1) | (leave1; try dsimp only) | fail "no step"))
  exact hret _ _ _ _ (by assumption) (Fr.put (Str.ofString "held") (Fr.put (Str.ofString "letters") (Fr.put (Str.ofString "start") (Fr.put (Str.ofString "turned") (Fr.put (Str.ofString "zone") (Fr.put (Str.ofString "words") (Fr.put (Str.ofString "forms") (Fr.put (Str.ofString "count") (Fr.put (Str.ofString "own") ((by assumption)) rfl) rfl) rfl) rfl) rfl) rfl) rfl) rfl) rfl) (by assumption)
end Mine
end
section
open _root_.PySem _root_.PySem.W _root_.PySem.W.X _root_.PyProof.Rows
set_option Elab.async false
set_option maxRecDepth 100000
set_option maxHeartbeats 0
namespace Mine
theorem rs24 : True := by w_top off; trivial
local macro_rules | `(tactic| k_updF) => `(tactic| first | (refine' UpdF.head ?a; (case a => (repeat (refine all_cons (by first | k_ne | omega) ?_)); first | exact all_off1 (by assumption) | exact all_off2 (by assumption) | exact all_off3 (by assumption) | exact all_off4 (by assumption) | exact all_off5 (by assumption) | exact all_off6 (by assumption) | exact all_off7 (by assumption) | (intro p hp; cases hp))) | (refine' UpdF.tail ?a ?b; (case a => first | k_ne | omega); (case b => k_updF)))
theorem ints3i {a b c : Int} {t u v : Tok} : IntsAre [.int a t, .int b u, .int c v] [a, b, c] := .cons _ _ (.cons _ _ (.cons _ _ .nil))
theorem isnot_same {prog : Program} {w : World} {A : Around} {E : Value → Shared → Prop} {s : Shared} {Q : Value → Shared → Prop} {a b : Bool} (e : a = b) (h : Q (.bool false) s) : wpAny (model prog w) A (compareOp .IsNot (.bool a) (.bool b)) Q E s := by
  subst e
  refine wpAny_isNot_plain (by cases a <;> rfl) ?_
  have : (!(Value.bool a == Value.bool a)) = false := by simp
  rw [this]; exact h
local macro_rules | `(tactic| walk_at "compareOp IsNot bool bool") => `(tactic| (k_here; k_dflt (refine isnot_same (by with_reducible assumption) ?_)))
theorem s14_3 {w : World} {loose : List Str} {mean : ExcName → Option Value} {mg mb : Str → Option Value} {base : Heap} {L fa : Addr} {cd : Value} {m : Str → Option Value} {s : Shared} {Q : Flow → Shared → Prop} {E : Value → Shared → Prop}
   (cB : Below callerA base [] base) (cX : (Mine.hd.heap_39 w.params).In base) (cT : Top Mine.hd.view_39 loose mean mg mb base) (hE : PassesOwn (model PP w) (lawA L fa cd) (lawEnv L fa cd) E)
   {o1 o2 o3 o4 o5 o6 o7 : Obj} {ns : List (Addr × Obj)} (hns : ∀ p ∈ ns, (Off7 L p.1))
   {lo lf lb lp : Addr} {ct fr : Int} {wd td le : Array UInt8} {zn : Str} {dd : Bool} {tc tw tz tt ti tl tf : Tok} {i : Nat} {D : Addr} {f0 f1 f2 v0q v1q v2q : Int} {x0 x1 x2 v0 v1 v2 : Tok} (fr0 : 0 ≤ fr) (hdd : dd = decide (List.drop fr.toNat [f0 - 65, f1 - 65, f2 - 65] = List.drop fr.toNat [v0q, v1q, v2q]))
   (cF : Fr base L s.heap (fun y => if y = Str.ofString "held" then some (.bool dd) else if y = Str.ofString "letters" then some (.bytes le tl) else if y = Str.ofString "start" then some (.int (0 + (i : Int) * 3) ti) else if y = Str.ofString "turned" then some (.bytes td tt) else if y = Str.ofString "zone" then some (.str zn tz) else if y = Str.ofString "words" then some (.bytes wd tw) else if y = Str.ofString "forms" then some (.ref lf) else if y = Str.ofString "count" then some (.int ct tc) else if y = Str.ofString "own" then some (.ref lo) else m y)) (cN : News base L s.heap ((D, LCg.lst [.int (f0 - 65) x0, .int (f1 - 65) x1, .int (f2 - 65) x2]) :: (lo, LCg.lst [.int v0q v0, .int v1q v1, .int v2q v2]) :: (L + 1 + 1 + 1 + 1 + 1 + 1 + 1, o7) :: (L + 1 + 1 + 1 + 1 + 1 + 1, o6) :: (L + 1 + 1 + 1 + 1 + 1, o5) :: (L + 1 + 1 + 1 + 1, o4) :: (L + 1 + 1 + 1, o3) :: (L + 1 + 1, o2) :: (L + 1, o1) :: ns))
   (d3 : o3.data = .cell (some (.int fr tf))) (d6 : o6.data = .cell (some (.ref D)))
   (hret : ∀ (m' : Str → Option Value) (h' : Heap) (tk' : Nat) , Fr base L h' (fun y => if y = Str.ofString "held" then some (.bool dd) else if y = Str.ofString "letters" then some (.bytes le tl) else if y = Str.ofString "start" then some (.int (0 + (i : Int) * 3) ti) else if y = Str.ofString "turned" then some (.bytes td tt) else if y = Str.ofString "zone" then some (.str zn tz) else if y = Str.ofString "words" then some (.bytes wd tw) else if y = Str.ofString "forms" then some (.ref lf) else if y = Str.ofString "count" then some (.int ct tc) else if y = Str.ofString "own" then some (.ref lo) else m' y) → News base L h' ((D, LCg.lst [.int (f0 - 65) x0, .int (f1 - 65) x1, .int (f2 - 65) x2]) :: (lo, LCg.lst [.int v0q v0, .int v1q v1, .int v2q v2]) :: (L + 1 + 1 + 1 + 1 + 1 + 1 + 1, o7) :: (L + 1 + 1 + 1 + 1 + 1 + 1, o6) :: (L + 1 + 1 + 1 + 1 + 1, o5) :: (L + 1 + 1 + 1 + 1, o4) :: (L + 1 + 1 + 1, o3) :: (L + 1 + 1, o2) :: (L + 1, o1) :: ns) → Q .next { s with heap := h', toks := tk' }) :
   wpAny (model PP w) (lawA L fa cd) (exec (forB (st 14) 3) (lawEnv L fa cd)) Q E s := by
  conv in (forB (st 14) 3) => whnf
  unfold lawA lawEnv
  conv in (occs := *) lawScope => all_goals whnf
  with_reducible refine wp_gen fun tk0 => ?_
  with_reducible refine letN cN ?_
  intro nz0 cN0
  clear cN
  with_reducible refine letF cF ?_
  intro mz0 cF0
  clear cF
  with_reducible refine letA ?_
  intro A0
  (repeat' (first | (k_unfold; (try dsimp only)) | (k_end; wrow_close) | ((k_here; (with_reducible show wpAny _ _ (subscriptTail _ (PySem.Expr.Slice _ _ none _) (Value.ref _) (Value.ref _)) _ _ _); k_dflt (refine' kmk_slice_ints (by k_asm) (by k_asm) (by exact News.isList (by k_asm) (by walk_at "mem")) (by exact IsPart.int _ _) (by exact IsPart.none) (by exact ints3i) (by exact kmk_from ints3i (by with_reducible assumption)) rfl ?_ (by with_unfolding_all rfl) (by kmk_pure) (by exact Nat.le_of_ble_eq_true rfl)); intro _ _ _ _ _ _ _ hC' hL'; clear hC' hL')) | ((k_here; (with_reducible show wpAny _ _ (compareOp CmpOp.Eq (Value.ref _) (Value.ref _)) _ _ _); k_dflt (refine' ke_eq_ints (by exact News.isList (by k_asm) (by walk_at "mem")) (by exact News.isList (by k_asm) (by walk_at "mem")) (by with_reducible assumption) (by with_reducible assumption) (by ke_room) ?_))) | walk1 | (dsimp only; walk1) | (leave1; try dsimp only) | fail "no step"))
  exact hret _ _ _ (Fr.put (Str.ofString "held") (Fr.put (Str.ofString "letters") (Fr.put (Str.ofString "start") (Fr.put (Str.ofString "turned") (Fr.put (Str.ofString "zone") (Fr.put (Str.ofString "words") (Fr.put (Str.ofString "forms") (Fr.put (Str.ofString "count") (Fr.put (Str.ofString "own") ((by assumption)) rfl) rfl) rfl) rfl) rfl) rfl) rfl) rfl) rfl) (news_drop (by assumption) (fun p hp => by repeat (first | exact hp | refine List.Mem.tail _ ?_)))
end Mine
end
section
open _root_.PySem _root_.PySem.W _root_.PySem.W.X _root_.PyProof.Rows
set_option Elab.async false
set_option maxRecDepth 100000
set_option maxHeartbeats 0
namespace Mine
local macro_rules | `(tactic| walk_at "none") => `(tactic| skip)
local macro_rules | `(tactic| walk_at "none") => `(tactic| skip)
theorem rs25 : True := by w_top off; trivial
theorem UnrEndW.go {h₀ : Heap} {L I : Addr} {o : Obj} {rest : (Str → Option Value) → List (Addr × Obj) → Prop} {s₁ : Shared} {h' : Heap} {tk : Nat} {m' : Str → Option Value} {news' : List (Addr × Obj)} (F : Fr h₀ L h' m') (N : News h₀ L h' ((I, o) :: news'))
    (hlt : ∀ p ∈ news', p.1 < I) (r : rest m' news') : UnrEndW h₀ L s₁ [(I, o)] rest { s₁ with heap := h', toks := tk } :=
  ⟨h', tk, m', news', rfl, F, N, fun p hp q hq => by rw [List.mem_singleton.mp hq]; exact Nat.ne_of_lt (hlt p hp), r⟩
def forTarget (s : Stmt) : Expr := match s with | .For t _ _ _ _ => t | _ => .Name (Str.ofString "") ⟨0,0,0,0⟩
structure Form where
  p : Addr
  b : Int
  e : Bool
  f : Int
def Form.In (news : List (Addr × Obj)) (x : Form) : Prop := ∃ t u, (x.p, { cls := .type "tuple", data := .seq #[.int x.b t, .bool x.e, .int x.f u] }) ∈ news
def fval (b : Int) (ks : List Int) : Int := ks.foldl (fun v k => v * b + k - 65) 0
def Form.val (w m : List Int) (x : Form) : Int := fval x.b (if x.e then m else w) + x.f
def lightOf (w m : List Int) (l : Int) (fs : List Form) : Int := fs.foldl (fun l x => l * x.val w m) l
theorem mulok {l : Int} {n : Nat} (h : l.natAbs * 50 ^ n ≤ 2 ^ 60) : ∀ i, IntMulOk l i := by
  have h1 : l.natAbs ≤ 2 ^ 60 := Nat.le_trans (Nat.le_mul_of_pos_right _ (Nat.pow_pos (by decide))) h
  intro i
  exact PySem.IntMulOk.of_left (PySem.intBits_le_64 (by omega) (by omega))
theorem mulnext {l v : Int} {n : Nat} (h : l.natAbs * 50 ^ (n + 1) ≤ 2 ^ 60) (hv : v.natAbs ≤ 50) : (l * v).natAbs * 50 ^ n ≤ 2 ^ 60 := by
  refine Nat.le_trans ?_ h
  rw [Int.natAbs_mul, Nat.pow_succ, Nat.mul_comm (50 ^ n) 50, ← Nat.mul_assoc]
  exact Nat.mul_le_mul_right _ (Nat.mul_le_mul_left _ hv)
abbrev prEnv (L : Addr) : Env := envOf (Str.ofString "_law_product") (fnScope 16) L 104 (.ref 103)
abbrev prFor : Stmt := (fnBody 16).getD 1 (.Pass ⟨0,0,0,0⟩)
local macro_rules | `(tactic| walk_at "UnrEndW") => `(tactic| (refine Halt.go ?_))
local macro_rules | `(tactic| walk_at "pyIter bytes") => `(tactic| (refine Halt.go ?_))
theorem prod_loop {w : World} {loose : List Str} {mean : ExcName → Option Value} {mg mb : Str → Option Value} {dp un : Nat} {gd : Option (List Code)} {cn : Str} {cs : Scope} {aa L₀ : Addr} {ccd : Value} {cl : List (Str × Addr)} {outer : List Env} {g : Heap} {L : Addr} {E : Value → Shared → Prop}
   (cX : (Mine.hd.heap_39 w.params).In g) (cT : Top Mine.hd.view_39 loose mean mg mb g) (hE : PassesOwn (model PP w) ((ktrTop dp un gd cn cs L₀ aa ccd cl outer).deeper (prEnv L)) (prEnv L) E) (cd : dp + 1 < recursionLimit) (cu : un + 8 < cLine)
   {s : Shared} {Q : Flow → Shared → Prop} {I lf : Addr} {lo : Obj} {news : List (Addr × Obj)} {wd md : Array UInt8} {t1 t2 : Tok} {w0 w1 w2 m0 m1 m2 : Int} (hw : KBw.bInts wd = [w0, w1, w2]) (hm : KBw.bInts md = [m0, m1, m2]) (hlt : ∀ p ∈ news, p.1 < I) (hlf : (lf, lo) ∈ news) {r : Int}
   (hQ : ∀ (m' : Str → Option Value) (h' : Heap) (tk' : Nat) (tl : Tok), Fr g L h' (fun y => if y = Str.ofString "light" then some (.int r tl) else if y = Str.ofString "mirrored" then some (.bytes md t2) else if y = Str.ofString "word" then some (.bytes wd t1) else m' y) → News g L h' news → Q .next { s with heap := h', toks := tk' }) :
   ∀ (fs : List Form) (m : Str → Option Value) (l : Int) (tl : Tok), (∀ x ∈ fs, x.In news) → (∀ x ∈ fs, -4 ≤ x.b ∧ x.b ≤ 4 ∧ (x.val [w0, w1, w2] [m0, m1, m2]).natAbs ≤ 50) → l.natAbs * 50 ^ fs.length ≤ 2 ^ 60 → lightOf [w0, w1, w2] [m0, m1, m2] l fs = r →
   ItemsRest PP w ((ktrTop dp un gd cn cs L₀ aa ccd cl outer).deeper (prEnv L)) E g (prEnv L) (forTarget prFor) (forBody prFor) Q s [(I, "list_iterator")] [(lf, lo)] (fs.map fun x => .val (.ref x.p)) (fun y => if y = Str.ofString "light" then some (.int l tl) else if y = Str.ofString "mirrored" then some (.bytes md t2) else if y = Str.ofString "word" then some (.bytes wd t1) else m y) news := by
  intro fs
  induction fs with
  | nil =>
    intro m l tl _ _ _ he
    subst he
    exact fun h tk F N => hQ m h tk tl F N
  | cons x fs ih =>
    intro m l tl hin hbd hml he
    obtain ⟨xp, xb, xe, xf⟩ := x
    obtain ⟨tx, ux, hx⟩ := hin _ (.head _)
    dsimp only at hx
    refine ItemsRest.val fun h9 k9 F9 => AllObj.cons fun o9 hc9 => AllObj.nil fun N9 => ?_
    simp only [List.cons_append, List.nil_append] at N9
    have hx9 : (xp, ({ cls := .type "tuple", data := .seq #[.int xb tx, .bool xe, .int xf ux] } : Obj)) ∈ (I, o9) :: news := .tail _ hx
    obtain ⟨ta, hta⟩ : ∃ x, x = forTarget prFor := ⟨_, rfl⟩
    obtain ⟨tb, htb⟩ : ∃ x, x = forBody prFor := ⟨_, rfl⟩
    obtain ⟨sc, hsc⟩ : ∃ x, x = fnScope 16 := ⟨_, rfl⟩
    unfold prEnv
    rw [← hta, ← htb, ← hsc]
    conv at hta => rhs; whnf
    conv at htb => rhs; whnf
    conv at hsc => rhs; whnf
    subst hta htb hsc
    have hb := hbd _ (.head _)
    dsimp only at hb
    cases xe with
    | true =>
      (repeat' (first | (k_unfold; (try dsimp only)) | (k_end; wrow_close) | ((k_here; (with_reducible show wpAny _ _ (assign (Expr.Tuple _ _ _) _ (Value.ref _)) _ _ _); k_dflt (refine' unpackN_ (by k_asm) (by k_asm) (by exact News.isTup (by k_asm) (by assumption)) (by exact rfl) (by exact rfl) (by exact rfl) ?_); intro _ _ _)) | walk1 | (dsimp only; walk1) | (leave1; try dsimp only) | fail "no step"))
      unfold Halt
      refine KBw.iterBytes_acc1 (y := Str.ofString "value") (fun v k => v * xb + k - 65) hm (by rfl) (by assumption) (by assumption) (by rfl) ?_ ?_
      · intro k tk0 a ta h8 k8 own hmem k0 k1 hoff F8 N8
        (repeat' (first | (k_unfold; (try dsimp only)) | (k_end; wrow_close) | ((k_here; (with_reducible show wpAny _ _ (assign (Expr.Tuple _ _ _) _ (Value.ref _)) _ _ _); k_dflt (refine' unpackN_ (by k_asm) (by k_asm) (by exact News.isTup (by k_asm) (by assumption)) (by exact rfl) (by exact rfl) (by exact rfl) ?_); intro _ _ _)) | walk1 | (dsimp only; walk1) | (leave1; try dsimp only) | fail "no step"))
        refine InvEndN.intro (nx := (I, o9) :: news) (by assumption) (by assumption) ⟨rfl, ⟨_, rfl⟩, by intro z h1 h2; simp [h1, h2]⟩ rfl (fun p hp => ?_) (fun p hp => ?_)
        · first | exact List.mem_append_left _ hp | (simp only [List.mem_cons, List.mem_append] at hp ⊢; rcases hp with hp | hp; exact .inl hp; exact .inr (.inl hp))
        · first | exact List.mem_append_right _ hp | (simp only [List.mem_cons, List.mem_append]; exact .inr (.inr hp))
      · intro u8 t8 h8 k8 F8 N8
        have hmul : IntMulOk l (List.foldl (fun v k => v * xb + k - 65) 0 [m0, m1, m2] + xf) := mulok hml _
        (repeat' (first | (k_unfold; (try dsimp only)) | (k_end; wrow_close) | ((k_here; (with_reducible show wpAny _ _ (assign (Expr.Tuple _ _ _) _ (Value.ref _)) _ _ _); k_dflt (refine' unpackN_ (by k_asm) (by k_asm) (by exact News.isTup (by k_asm) (by assumption)) (by exact rfl) (by exact rfl) (by exact rfl) ?_); intro _ _ _)) | walk1 | (dsimp only; walk1) | (leave1; try dsimp only) | fail "no step"))
        unfold Halt
        rename_i F5 N5
        refine UnrEndW.go (Fr.put (Str.ofString "light") (Fr.put (Str.ofString "mirrored") (Fr.put (Str.ofString "word") (F5) rfl) rfl) rfl) N5 hlt ⟨⟨hlf, trivial⟩, ?_⟩
        refine ih _ _ _ (fun y hy => hin y (.tail _ hy)) (fun y hy => hbd y (.tail _ hy)) ?_ he
        exact mulnext hml hb.2.2
    | false =>
      (repeat' (first | (k_unfold; (try dsimp only)) | (k_end; wrow_close) | ((k_here; (with_reducible show wpAny _ _ (assign (Expr.Tuple _ _ _) _ (Value.ref _)) _ _ _); k_dflt (refine' unpackN_ (by k_asm) (by k_asm) (by exact News.isTup (by k_asm) (by assumption)) (by exact rfl) (by exact rfl) (by exact rfl) ?_); intro _ _ _)) | walk1 | (dsimp only; walk1) | (leave1; try dsimp only) | fail "no step"))
      unfold Halt
      refine KBw.iterBytes_acc1 (y := Str.ofString "value") (fun v k => v * xb + k - 65) hw (by rfl) (by assumption) (by assumption) (by rfl) ?_ ?_
      · intro k tk0 a ta h8 k8 own hmem k0 k1 hoff F8 N8
        (repeat' (first | (k_unfold; (try dsimp only)) | (k_end; wrow_close) | ((k_here; (with_reducible show wpAny _ _ (assign (Expr.Tuple _ _ _) _ (Value.ref _)) _ _ _); k_dflt (refine' unpackN_ (by k_asm) (by k_asm) (by exact News.isTup (by k_asm) (by assumption)) (by exact rfl) (by exact rfl) (by exact rfl) ?_); intro _ _ _)) | walk1 | (dsimp only; walk1) | (leave1; try dsimp only) | fail "no step"))
        refine InvEndN.intro (nx := (I, o9) :: news) (by assumption) (by assumption) ⟨rfl, ⟨_, rfl⟩, by intro z h1 h2; simp [h1, h2]⟩ rfl (fun p hp => ?_) (fun p hp => ?_)
        · first | exact List.mem_append_left _ hp | (simp only [List.mem_cons, List.mem_append] at hp ⊢; rcases hp with hp | hp; exact .inl hp; exact .inr (.inl hp))
        · first | exact List.mem_append_right _ hp | (simp only [List.mem_cons, List.mem_append]; exact .inr (.inr hp))
      · intro u8 t8 h8 k8 F8 N8
        have hmul : IntMulOk l (List.foldl (fun v k => v * xb + k - 65) 0 [w0, w1, w2] + xf) := mulok hml _
        (repeat' (first | (k_unfold; (try dsimp only)) | (k_end; wrow_close) | ((k_here; (with_reducible show wpAny _ _ (assign (Expr.Tuple _ _ _) _ (Value.ref _)) _ _ _); k_dflt (refine' unpackN_ (by k_asm) (by k_asm) (by exact News.isTup (by k_asm) (by assumption)) (by exact rfl) (by exact rfl) (by exact rfl) ?_); intro _ _ _)) | walk1 | (dsimp only; walk1) | (leave1; try dsimp only) | fail "no step"))
        unfold Halt
        rename_i F5 N5
        refine UnrEndW.go (Fr.put (Str.ofString "light") (Fr.put (Str.ofString "mirrored") (Fr.put (Str.ofString "word") (F5) rfl) rfl) rfl) N5 hlt ⟨⟨hlf, trivial⟩, ?_⟩
        refine ih _ _ _ (fun y hy => hin y (.tail _ hy)) (fun y hy => hbd y (.tail _ hy)) ?_ he
        exact mulnext hml hb.2.2
end Mine
end
section
open _root_.PySem _root_.PySem.W _root_.PySem.W.X _root_.PyProof.Rows
set_option Elab.async false
set_option maxRecDepth 100000
set_option maxHeartbeats 0
namespace Mine
local macro_rules | `(tactic| walk_at "none") => `(tactic| skip)
theorem rs26 : True := by w_top off; trivial
local macro_rules | `(tactic| walk_at "exec For Tuple Name cons nil") => `(tactic| (k_here; (rename Fr _ _ _ _ => lF'); (with_unfolding_all refine' For_turns lF' ?_; k_whole)))
local macro_rules | `(tactic| walk_at "ItemsRest") => `(tactic| (refine Halt.go ?_))
theorem items_put {prog : Program} {w : World} {A : Around} {E : Value → Shared → Prop} {h₀ : Heap} {env : Env} {target : Expr} {body : List Stmt} {Q : Flow → Shared → Prop} {s : Shared} {ws : List (Addr × String)} {keep : List (Addr × Obj)} {r : List Itm} {m : Str → Option Value} {news : List (Addr × Obj)} {v : Value} (x : Str) (hx : m x = some v)
    (h : ItemsRest prog w A E h₀ env target body Q s ws keep r (fun y => if y = x then some v else m y) news) : ItemsRest prog w A E h₀ env target body Q s ws keep r m news := by
  have e : (fun y => if y = x then some v else m y) = m := by
    funext y
    by_cases q : y = x
    · rw [if_pos q, q, hx]
    · rw [if_neg q]
  rw [e] at h; exact h
theorem c_prod {w : World} {loose : List Str} {mean : ExcName → Option Value} {mg mb : Str → Option Value} {dp un : Nat} {gd : Option (List Code)} {cn : Str} {cs : Scope} {a : Addr} {ccd : Value} {cl : List (Str × Addr)} {outer : List Env} {A₀ : Around} {base h₀ : Heap} {L : Addr} {m : Str → Option Value} {news : List (Addr × Obj)} {s : Shared} {Q E : Value → Shared → Prop}
   (cx : Cx 1 w loose mean mg mb dp un cs outer A₀ base h₀ L m s.heap news) {wd md : Array UInt8} {t1 t2 : Tok} {w0 w1 w2 m0 m1 m2 : Int} (hw : KBw.bInts wd = [w0, w1, w2]) (hm : KBw.bInts md = [m0, m1, m2]) {lf : Addr} {kf : Nat} {fs : List Form}
   (hlf : (lf, { cls := .type "list", data := .seq (fs.map fun x => Value.ref x.p).toArray kf }) ∈ news) (hin : ∀ x ∈ fs, x.In news) (hbd : ∀ x ∈ fs, -4 ≤ x.b ∧ x.b ≤ 4 ∧ (x.val [w0, w1, w2] [m0, m1, m2]).natAbs ≤ 50) (hn : fs.length ≤ 3)
   (hret : ∀ (t' : Tok) (h' : Heap) (tk' : Nat), Fr h₀ L h' m → News h₀ L h' news → Q (.int (lightOf [w0, w1, w2] [m0, m1, m2] 1 fs) t') { s with heap := h', toks := tk' }) :
  wpAny (model PP w) (ktrTop dp un gd cn cs L a ccd cl outer) (call (.ref 104) [.bytes wd t1, .bytes md t2, .ref lf]) Q E s := by
  obtain ⟨cB, cF, cX, cN, cT, ck, cd, cu⟩ := cx
  have hp : (1 : Int).natAbs * 50 ^ fs.length ≤ 2 ^ 60 := by
    have : fs.length = 0 ∨ fs.length = 1 ∨ fs.length = 2 ∨ fs.length = 3 := by omega
    rcases this with h | h | h | h <;> (rw [h]; decide)
  refine wpAny_call ?_
  k_dflt cell_enter
  with_reducible refine wp_gen fun tk0 => ?_
  dsimp only
  with_reducible refine letA ?_
  intro A0
  (repeat' (first | (k_unfold; (try dsimp only)) | (k_end; wrow_close) | ((k_here; (with_reducible show wpAny _ _ (pyIter (Value.ref _)) (fun it s₂ => TurnsAt _ _ _ _ _ _ _ _ _ it s₂) _ _); k_dflt (refine iter_listTurns (by rfl) (by k_asm) (by k_asm) (by assumption) (by rfl) (by rfl) ?_); intro _ _)) | walk1 | (dsimp only; walk1) | (leave1; try dsimp only) | fail "no step"))
  unfold Halt
  rw [List.map_map]
  refine items_put (Str.ofString "word") rfl (items_put (Str.ofString "mirrored") rfl (items_put (Str.ofString "light") rfl (prod_loop (by assumption) (by assumption) (by first | passes_own | with_unfolding_all passes_own) (by omega) (by omega) hw hm (by assumption) hlf ?_ fs _ 1 _ hin hbd hp rfl)))
  intro m2 h2 k2 tl F2 N2
  (repeat' (first | (k_unfold; (try dsimp only)) | (k_end; wrow_close) | ((k_here; (with_reducible show wpAny _ _ (pyIter (Value.ref _)) (fun it s₂ => TurnsAt _ _ _ _ _ _ _ _ _ it s₂) _ _); k_dflt (refine iter_listTurns (by rfl) (by k_asm) (by k_asm) (by assumption) (by rfl) (by rfl) ?_); intro _ _)) | walk1 | (dsimp only; walk1) | (leave1; try dsimp only) | fail "no step"))
  exact hret _ _ _ (by assumption) (by assumption)
end Mine
end
section
open _root_.PySem _root_.PySem.W _root_.PySem.W.X _root_.PyProof.Rows
set_option Elab.async false
set_option maxRecDepth 100000
set_option maxHeartbeats 0
namespace Mine
theorem rs27 : True := by w_top off; trivial
open _root_.PySem.Float64 in
theorem fi_z0 : FI 0 0 := ⟨false, 1074, by kernel_rfl, fun h => absurd rfl h⟩
open _root_.PySem.Float64 in
theorem fi_z1 : FI 9223372036854775808 0 := ⟨true, 1074, by kernel_rfl, fun h => absurd rfl h⟩
def HueOk (hb : UInt64) (sx : Int) : Prop := Flt.toInt Float64.truncOf (Float64.mul hb 4618441417868443648) = sx ∧ Small (Flt.toInt Float64.truncOf (Float64.mul hb 4618441417868443648)) ∧ Float64.isFinite (Float64.mul hb 4618441417868443648) = true ∧ FI (Float64.sub (Float64.mul hb 4618441417868443648) (Float64.ofInt (Flt.toInt Float64.truncOf (Float64.mul hb 4618441417868443648)))) 0
def hueB (s : Bool) (n : Nat) : Bool :=
  let m := Float64.mul (Float64.ofFrac s n 6) 4618441417868443648
  let i := Flt.toInt Float64.truncOf m
  let f := Float64.sub m (Float64.ofInt i)
  i == (n : Int) && Float64.isFinite m && (f == 0 || f == 9223372036854775808)
theorem hueB_all : ∀ n, n < 11 → (hueB false n && (n != 0 || hueB true n)) = true := by decide +kernel
theorem hueOk_of {s : Bool} {n : Nat} (h : hueB s n = true) (hn : n < 11) : HueOk (Float64.ofFrac s n 6) (n : Int) := by
  unfold hueB at h
  simp only [Bool.and_eq_true, Bool.or_eq_true, beq_iff_eq] at h
  obtain ⟨⟨h1, h2⟩, h3⟩ := h
  refine ⟨h1, ?_, h2, ?_⟩
  · rw [h1]; unfold Small; omega
  · rcases h3 with h3 | h3
    · rw [h3]; exact fi_z0
    · rw [h3]; exact fi_z1
theorem hue_facts {hb : UInt64} {sx : Int} (d : Frac hb sx 6) (h0 : 0 ≤ sx) (h1 : sx ≤ 10) : HueOk hb sx := by
  obtain ⟨s, hs, rfl⟩ := d
  obtain ⟨n, rfl⟩ := Int.eq_ofNat_of_zero_le h0
  have hn : n < 11 := by omega
  have hb := hueB_all n hn
  simp only [Bool.and_eq_true, Bool.or_eq_true] at hb
  have e : ((n : Int).natAbs) = n := Int.natAbs_natCast n
  have e6 : (6 : Int).natAbs = 6 := rfl
  rw [e, e6]
  by_cases hz : n = 0
  · subst hz
    cases s with
    | false => exact hueOk_of hb.1 hn
    | true => exact hueOk_of (hb.2.resolve_left (by decide)) hn
  · have hs' := hs (by omega)
    have : s = false := by rw [hs']; simp
    subst this
    exact hueOk_of hb.1 hn
end Mine
end
section
open _root_.PySem _root_.PySem.W _root_.PySem.W.X _root_.PyProof.Rows _root_.PySem.Spec _root_.PySem.Calls _root_.PyProof.Rows.LCg
set_option Elab.async false
set_option maxRecDepth 100000
set_option maxHeartbeats 0
namespace Mine
local macro_rules | `(tactic| walk_at "none") => `(tactic| skip)
theorem rs28 : True := by w_top off; trivial
theorem relabel_cell {env : Env} : ∀ {names : List (Str × NameKind)} {x : Str}, names.lookup x = some .cell →
    (names.map fun (n, k) => if (k == NameKind.free && env.scope.kind == .function && env.kindOf n == some .cell) then (n, NameKind.cell) else (n, k)).lookup x = some .cell
  | [], _, h => by simp at h
  | (n, k) :: r, x, h => by
    have ih := @relabel_cell env r x
    simp only [List.map_cons]
    by_cases hc : (k == NameKind.free && env.scope.kind == .function && env.kindOf n == some .cell) = true
    · rw [if_pos hc]
      by_cases hx : (x == n) = true
      · simp only [List.lookup_cons, hx]
      · have hx := Bool.eq_false_iff.mpr hx
        simp only [List.lookup_cons, hx] at h ⊢; exact ih h
    · rw [if_neg hc]
      by_cases hx : (x == n) = true
      · simp only [List.lookup_cons, hx] at h ⊢; exact h
      · have hx := Bool.eq_false_iff.mpr hx
        simp only [List.lookup_cons, hx] at h ⊢; exact ih h
abbrev cellO (v : Option Value) : Obj := { cls := .type "cell", data := .cell v }
section
variable {prog : Program} {w : World} {A : Around} {E : Value → Shared → Prop} {s : Shared} {h₀ : Heap} {L : Addr} {m : Str → Option Value} {env : Env}
theorem newEnv_around {M : PySem.Model} {scope : Scope} {globals : Addr} {cl : List (Str × Addr)} {qual : Str} {outer : Env} {Q : Env → Shared → Prop}
    (h : Q { scope, locals := s.heap.objs.size, globals, cells := cellsFrom (s.heap.objs.size + 1) scope.names cl, qual, func := none, code := outer.code, frame := outer.frame, builtins := outer.builtins }
      { s with heap := pushCells (s.heap.push { cls := .type "dict", data := .dict #[] }) scope.names }) :
    wpAny M A (newFunctionEnv scope globals cl [] qual none .none (some outer)) Q E s := by
  simp only [newFunctionEnv, Option.isSome_some, if_true]
  refine wpAny_bind (wpAny_alloc ?_)
  refine wpAny_bind (wpAny_layCells _ (fun name kind cells => by cases hkc : kind == NameKind.cell <;> simp [hkc]) _ _ _ _ ?_)
  rw [show ({ s with heap := s.heap.push { cls := .type "dict", data := .dict #[] } } : Shared).heap.objs.size = s.heap.objs.size + 1 from Heap.size_push ..]
  refine wpAny_bind ?_
  rw [List.forIn_nil]
  exact wpAny_pure (wpAny_pure h)
/-- the end of a turn of a comprehension whose own name is a cell -/
def CellEnd (h₀ : Heap) (L : Addr) (m : Str → Option Value) (s₁ : Shared) (I : Addr) (oI : Obj) (C : Addr) (oC : Obj) (D : Addr) (oD : Obj) (X : Addr) (oX : Obj) (rest : Value → List (Addr × Obj) → Prop) (y : Value) (s₂ : Shared) : Prop :=
  ∃ h' tk news', s₂ = { s₁ with heap := h', toks := tk } ∧ Fr h₀ L h' m ∧ News h₀ L h' ((I, oI) :: (C, oC) :: (D, oD) :: (X, oX) :: news') ∧ Off3 I C D news' ∧ Off1 X news' ∧ rest y news'
theorem CellEnd.intro {I C D X : Addr} {s₁ : Shared} {oI oC oD oX : Obj} {rest : Value → List (Addr × Obj) → Prop} {y : Value} {h' : Heap} {tk : Nat} {news' : List (Addr × Obj)}
    (F : Fr h₀ L h' m) (N : News h₀ L h' ((I, oI) :: (C, oC) :: (D, oD) :: (X, oX) :: news')) (off : Off3 I C D news') (ox : Off1 X news') (r : rest y news') :
    CellEnd h₀ L m s₁ I oI C oC D oD X oX rest y { s₁ with heap := h', toks := tk } := ⟨h', tk, news', rfl, F, N, off, ox, r⟩
def CellRest (prog : Program) (w : World) (A : Around) (h₀ : Heap) (L : Addr) (m : Str → Option Value) (env : Env) (elt : PySem.Expr) (x : Str) (scope : Scope) (cl : List (Str × Addr)) (s : Shared)
    (Fin : List Value → List (Addr × Obj) → Prop) (a : Int) : Nat → Nat → List Value → List (Addr × Obj) → Prop
  | 0, _, ys, news => Fin ys news
  | k + 1, i, ys, news => ∀ t I oI C oC D X oX h tk (E' : Value → Shared → Prop), oX.data = .cell (some (.int (a + (i : Int)) t)) → Fr h₀ L h m → News h₀ L h ((I, oI) :: (C, oC) :: (D, lst ys) :: (X, oX) :: news) → Off3 I C D news → Off1 X news →
      ((@Ne Nat I C) ∧ (@Ne Nat I D) ∧ (@Ne Nat C D) ∧ (@Ne Nat I X) ∧ (@Ne Nat C X) ∧ (@Ne Nat D X)) →
      wpAny (model prog w) A (eval elt (compEnvC scope ((x, X) :: cl) C env)) (CellEnd h₀ L m { s with heap := h, toks := tk } I oI C oC D (lst ys) X oX (fun y news' => CellRest prog w A h₀ L m env elt x scope cl s Fin a k (i + 1) (ys ++ [y]) news')) E' { s with heap := h, toks := tk }
theorem CellRest.zero {elt : PySem.Expr} {x : Str} {scope : Scope} {cl : List (Str × Addr)} {a : Int} {Fin : List Value → List (Addr × Obj) → Prop} {i : Nat} {ys : List Value} {news : List (Addr × Obj)} (h : Fin ys news) :
    CellRest prog w A h₀ L m env elt x scope cl s Fin a 0 i ys news := h
theorem CellRest.succ {elt : PySem.Expr} {x : Str} {scope : Scope} {cl : List (Str × Addr)} {a : Int} {Fin : List Value → List (Addr × Obj) → Prop} {k i : Nat} {ys : List Value} {news : List (Addr × Obj)}
    (h : ∀ t I oI C oC D X oX h tk (E' : Value → Shared → Prop), oX.data = .cell (some (.int (a + (i : Int)) t)) → Fr h₀ L h m → News h₀ L h ((I, oI) :: (C, oC) :: (D, lst ys) :: (X, oX) :: news) → Off3 I C D news → Off1 X news →
      ((@Ne Nat I C) ∧ (@Ne Nat I D) ∧ (@Ne Nat C D) ∧ (@Ne Nat I X) ∧ (@Ne Nat C X) ∧ (@Ne Nat D X)) →
      wpAny (model prog w) A (eval elt (compEnvC scope ((x, X) :: cl) C env)) (CellEnd h₀ L m { s with heap := h, toks := tk } I oI C oC D (lst ys) X oX (fun y news' => CellRest prog w A h₀ L m env elt x scope cl s Fin a k (i + 1) (ys ++ [y]) news')) E' { s with heap := h, toks := tk }) :
    CellRest prog w A h₀ L m env elt x scope cl s Fin a (k + 1) i ys news := h
theorem off1_mem {D : Addr} : ∀ {l : List (Addr × Obj)}, Off1 D l → ∀ p ∈ l, p.1 ≠ D
  | [], _, _, h => nomatch h
  | _ :: _, x, p, h => by
    rcases List.mem_cons.mp h with rfl | h
    · exact x.1
    · exact off1_mem x.2 p h
theorem off1_of {D : Addr} : ∀ {l : List (Addr × Obj)}, (∀ p ∈ l, p.1 ≠ D) → Off1 D l
  | [], _ => trivial
  | _ :: _, h => ⟨h _ List.mem_cons_self, off1_of fun p hp => h p (List.mem_cons_of_mem _ hp)⟩
inductive CInv (prog : Program) (w : World) (A : Around) (h₀ : Heap) (L : Addr) (m : Str → Option Value) (env : Env) (elt : PySem.Expr) (x : Str) (scope : Scope) (cl : List (Str × Addr)) (s₂ : Shared) (Fin : List Value → List (Addr × Obj) → Prop) (I C D X : Addr) (a : Int) (n : Nat) : Nat → Shared → Prop
  | mk (h' : Heap) (tk i : Nat) (ys : List Value) (m' : Str → Option Value) (oX : Obj) (u : Option Value) (news' : List (Addr × Obj)) (hi : i ≤ n) (hyl : ys.length = i) (hst' : IsRangeIter h' I (a + ((i : Nat) : Int) * 1) ((n : Int) - ((i : Nat) : Int)) 1) (F' : Fr h₀ L h' m) (hn' : h'.Ns C m') (N' : News h₀ L h' ((D, lst ys) :: (X, oX) :: news')) (hdX : oX.data = .cell u)
      (off' : Off3 I C D news') (offx' : Off1 X news') (R' : CellRest prog w A h₀ L m env elt x scope cl s₂ Fin a (n - i) i ys news') : CInv prog w A h₀ L m env elt x scope cl s₂ Fin I C D X a n (n + 1 - i) { s₂ with heap := h', toks := tk }
theorem block_cell {elt iter : PySem.Expr} {x : Str} {px : Pos} {scope : Scope} {cl : List (Str × Addr)} {pos : Pos} {s₂ : Shared} {I : Addr} {a : Int} {n : Nat} {news : List (Addr × Obj)}
    {Fin : List Value → List (Addr × Obj) → Prop} {RR : Value → Addr → Result → Shared → Prop}
    (hh : A.handled = none) (hsz : n ≤ sizeLine)
    (hcl : ∀ n, cellsFrom n scope.names cl = (x, n) :: cl) (hpc : ∀ h, pushCells h scope.names = h.push (cellO none)) (hkind : scope.kind = .function) (hx : scope.names.lookup x = some .cell)
    (hst : IsRangeIter s₂.heap I (a + ((0 : Nat) : Int) * 1) ((n : Int) - ((0 : Nat) : Int)) 1)
    (F : Fr h₀ L s₂.heap m) (N : News h₀ L s₂.heap news) (hIL : L ≠ I) (hI₀ : h₀.get? I = none) (off : ∀ p ∈ news, p.1 ≠ I)
    (R : CellRest prog w A h₀ L m env elt x scope cl s₂ Fin a n 0 [] news)
    (hRR : ∀ D C h tk m' ys news', Fr h₀ L h m → News h₀ L h ((D, lst ys) :: news') → Off1 D news' → h.Ns C m' → h₀.get? C = none → h₀.get? D = none → C ≠ L → D ≠ L → C ≠ D → (∀ p ∈ news', p.1 ≠ C) → Fin ys news' → RR (.ref D) C (.ok .next) { s₂ with heap := h, toks := tk }) :
    wpAny (model prog w) A (newList []) (fun acc s₃ => wpAny (model prog w) A (newFunctionEnv scope env.globals cl [] env.qual none .none (some env)) (fun cenv s₄ =>
      codeAny (model prog w) A (.compStart (.ListComp elt [⟨.Name x px, iter, [], 0⟩] scope pos) 0 (.ref I) acc { cenv with scope := relabel scope env }) (RR acc cenv.locals) s₄) E s₃) E s₂ := by
  have W := range_walks (prog := prog) (w := w) (A := A) (I := I) hh a n
  refine wpAny_newObj_type (newEnv_around ?_)
  dsimp only
  generalize hH2 : s₂.heap.push { cls := .type "list", dict := none, data := .seq ([] : List Value).toArray } = H2
  have hC : H2.objs.size = s₂.heap.objs.size + 1 := by rw [← hH2, Heap.size_push]
  rw [hcl, hpc]
  have hCn : (H2.push { cls := .type "dict", data := .dict #[] }).Ns H2.objs.size (fun _ => none) := Heap.Ns.new H2 (.type "dict")
  generalize hH3 : H2.push { cls := .type "dict", data := .dict #[] } = H3 at hCn ⊢
  have hC3 : H3.objs.size = H2.objs.size + 1 := by rw [← hH3, Heap.size_push]
  generalize hH4 : H3.push (cellO none) = h₁
  have up4 : ∀ b o, H3.get? b = some o → h₁.get? b = some o := fun b o e => hH4 ▸ Heap.get?_push_of_some _ e
  have up3 : ∀ b o, H2.get? b = some o → H3.get? b = some o := fun b o e => hH3 ▸ Heap.get?_push_of_some _ e
  have up2 : ∀ b o, s₂.heap.get? b = some o → H2.get? b = some o := fun b o e => hH2 ▸ Heap.get?_push_of_some _ e
  have old : ∀ b o, s₂.heap.get? b = some o → h₁.get? b = some o := fun b o e => up4 _ _ (up3 _ _ (up2 _ _ e))
  have hns₁ : h₁.Ns H2.objs.size (fun _ => none) := hCn.keeps up4
  have hX1 : h₁.get? (H2.objs.size + 1) = some (cellO none) := by rw [← hC3, ← hH4]; exact Heap.get?_push_size _ rfl
  have hacc : h₁.get? s₂.heap.objs.size = some (lst []) := up4 _ _ (up3 _ _ (by rw [← hH2]; exact Heap.get?_push_size _ rfl))
  obtain ⟨X, hX⟩ : ∃ X : Nat, X = H2.objs.size + 1 := ⟨_, rfl⟩
  obtain ⟨C, hCe⟩ : ∃ C : Nat, C = H2.objs.size := ⟨_, rfl⟩
  obtain ⟨D, hDe⟩ : ∃ D : Nat, D = s₂.heap.objs.size := ⟨_, rfl⟩
  rw [← hX] at hX1 ⊢
  rw [← hCe] at hns₁ hX hC ⊢
  rw [← hDe] at hacc hC ⊢
  have hIlt : I < s₂.heap.objs.size := Heap.lt_size hst
  have below : ∀ b : Nat, b < s₂.heap.objs.size → b ≠ C ∧ b ≠ D ∧ b ≠ X := fun b hb => by omega
  have fresh₀ : ∀ a : Nat, s₂.heap.objs.size ≤ a → h₀.get? a = none := fun a ha => by
    cases e : h₀.get? a with
    | none => rfl
    | some o' => have := Heap.lt_size (F.keep a o' e); exact absurd this (Nat.not_lt.mpr ha)
  have hD₀ : h₀.get? D = none := fresh₀ _ (by omega)
  have hC₀ : h₀.get? C = none := fresh₀ _ (by omega)
  have hX₀ : h₀.get? X = none := fresh₀ _ (by omega)
  have hLlt : L < s₂.heap.objs.size := F.ns.lt
  have hDL : D ≠ L := Ne.symm (below L hLlt).2.1
  have hCL : C ≠ L := Ne.symm (below L hLlt).1
  have hXL : X ≠ L := Ne.symm (below L hLlt).2.2
  have hDC : D ≠ C := by intro e; have : (D : Nat) = C := e; omega
  have hDX : D ≠ X := by intro e; have : (D : Nat) = X := e; omega
  have hCX : C ≠ X := by intro e; have : (C : Nat) = X := e; omega
  have hCI : I ≠ C := (below I hIlt).1
  have hDI : I ≠ D := (below I hIlt).2.1
  have hXI : I ≠ X := (below I hIlt).2.2
  have off₀ : Off3 I C D news := Off3.of fun p hp => ⟨off p hp, (below _ (Heap.lt_size (N p hp).1)).1, (below _ (Heap.lt_size (N p hp).1)).2.1⟩
  have offx₀ : Off1 X news := off1_of fun p hp => (below _ (Heap.lt_size (N p hp).1)).2.2
  have hst₁ : IsRangeIter h₁ I (a + ((0 : Nat) : Int) * 1) ((n : Int) - ((0 : Nat) : Int)) 1 := old _ _ hst
  have hke : Env.kindOf (compEnvC scope ((x, X) :: cl) C env) x = some .cell := relabel_cell hx
  have loop : ∀ s₃ : Shared, (∃ tk, s₃ = { s₂ with heap := h₁, toks := tk }) →
      codeAny (model prog w) A (.compLoop (.ListComp elt [⟨.Name x px, iter, [], 0⟩] scope pos) 0 (.ref I) (.ref D) (compEnvC scope ((x, X) :: cl) C env))
        (RR (.ref D) C) s₃ := by
    rintro s₃ ⟨tk₀, rfl⟩
    refine codeAny_compLoop_tests
      (CInv prog w A h₀ L m env elt x scope cl s₂ Fin I C D X a n) ?_ (n + 1)
      (CInv.mk h₁ _ 0 [] _ (cellO none) none news (Nat.zero_le _) rfl hst₁ (F.keeps old) hns₁ (fun p hp => ?_) rfl off₀ offx₀ R)
    · rintro k s' ⟨h', tk, i, ys, m', oX, u, news', hi, hyl, hst', F', hn', N', hdX, off', offx', R'⟩
      have off3 := off'.mem
      have offx := off1_mem offx'
      by_cases hlt : i < n
      · obtain ⟨j, hj⟩ : ∃ j, n - i = j + 1 := ⟨n - i - 1, by omega⟩
        rw [hj] at R'
        refine W.item i _ _ _ hlt hst' fun v h₂ tk₂ hPv hst₂ hk₂ => ?_
        obtain ⟨t, rfl⟩ := hPv
        have N₂ : News h₀ L h₂ ((D, lst ys) :: (X, oX) :: news') := news_but N' hk₂ fun p hp => by
          rcases List.mem_cons.mp hp with rfl | hp
          · exact Ne.symm hDI
          rcases List.mem_cons.mp hp with rfl | hp
          · exact Ne.symm hXI
          · exact (off3 p hp).1
        refine wpAny_assign_Name (wpAny_storeName_cell (c := X) (by simp [compEnvC, relabel, hkind]) hke (by simp [compEnvC]) ⟨oX, (N₂ (X, oX) (.tail _ (.head _))).1, hdX⟩ (fun h₃ hX₃ hs₃ => ?_))
        refine wpAny_tests_nil ?_
        simp only [if_true]
        have hst₃ : IsRangeIter h₃ I (a + (((i + 1 : Nat)) : Int) * 1) ((n : Int) - ((i + 1 : Nat) : Int)) 1 := hs₃.extBut _ _ hXI hst₂
        obtain ⟨oX₃, heX, hdX₃⟩ := hX₃
        obtain ⟨oC, heC, hoC⟩ := ns_obj (hn'.at' (h' := h₃) fun o e => hs₃.extBut _ _ hCX (hk₂ _ o (by simpa using Ne.symm hCI) e))
        have F₃ : Fr h₀ L h₃ m := (fr_but F' hk₂ hIL hI₀).change hs₃ hXL hX₀
        have N₃ : News h₀ L h₃ ((I, _) :: (C, oC) :: (D, lst ys) :: (X, oX₃) :: news') := fun p hp => by
          rcases List.mem_cons.mp hp with rfl | hp
          · exact ⟨hst₃, Ne.symm hIL, hI₀⟩
          rcases List.mem_cons.mp hp with rfl | hp
          · exact ⟨heC, hCL, hC₀⟩
          rcases List.mem_cons.mp hp with rfl | hp
          · have z := N₂ (D, lst ys) (.head _)
            exact ⟨hs₃.extBut _ _ hDX z.1, z.2⟩
          rcases List.mem_cons.mp hp with rfl | hp
          · exact ⟨heX, hXL, hX₀⟩
          · have z := N₂ p (.tail _ (.tail _ hp))
            exact ⟨hs₃.extBut _ _ (offx p hp) z.1, z.2⟩
        refine wpAny_mono (R' t I _ C oC D X oX₃ h₃ _ _ hdX₃ F₃ N₃ off' offx' ⟨hCI, hDI, Ne.symm hDC, hXI, hCX, hDX⟩) (fun y s₄ h₄ => ?_) fun _ _ e => e
        obtain ⟨h₄, tk₄, news₄, rfl, F₄, N₄, off₄, offx₄, R₄⟩ := h₄
        have zI := (N₄ _ List.mem_cons_self).1
        have zC := (N₄ (C, oC) (.tail _ (.head _))).1
        have zD := (N₄ (D, lst ys) (.tail _ (.tail _ (.head _)))).1
        have zX := (N₄ (X, oX₃) (.tail _ (.tail _ (.tail _ (.head _))))).1
        have N₄' : News h₀ L h₄ news₄ := fun p hp => N₄ p (.tail _ (.tail _ (.tail _ (.tail _ hp))))
        refine append_at (hsz := by show ys.toArray.size ≤ sizeLine; rw [List.size_toArray, hyl]; exact Nat.le_trans hi hsz) zD fun h₅ hs₅ hD₅ => ?_
        have off4 := off₄.mem
        refine ⟨n + 1 - (i + 1), by omega, CInv.mk h₅ tk₄ (i + 1) (ys ++ [y]) _ oX₃ _ news₄ hlt (by rw [List.length_append, List.length_singleton, hyl]) (hs₅.extBut _ _ hDI zI) (F₄.change hs₅ hDL hD₀)
          ((hoC.ns zC).sameBut hs₅ (Ne.symm hDC)) (fun p hp => ?_) hdX₃ off₄ offx₄ ?_⟩
        · rcases List.mem_cons.mp hp with rfl | hp
          · exact ⟨hD₅.trans (congrArg some (lst_snoc ys y)), hDL, hD₀⟩
          rcases List.mem_cons.mp hp with rfl | hp
          · exact ⟨hs₅.extBut _ _ (Ne.symm hDX) zX, hXL, hX₀⟩
          · exact ⟨hs₅.extBut _ _ (off4 p hp).2.2 (N₄' p hp).1, (N₄' p hp).2⟩
        · rw [show n - (i + 1) = j by omega]
          exact R₄
      · obtain rfl : i = n := Nat.le_antisymm hi (Nat.not_lt.mp hlt)
        rw [Nat.sub_self] at R'
        refine W.done _ _ _ hst' fun h₂ tk₂ hk₂ => ?_
        exact hRR _ _ h₂ tk₂ _ ys news' (fr_but F' hk₂ hIL hI₀) (fun p hp => (news_but N' hk₂ fun p hp => by
          rcases List.mem_cons.mp hp with rfl | hp
          · exact Ne.symm hDI
          rcases List.mem_cons.mp hp with rfl | hp
          · exact Ne.symm hXI
          · exact (off3 p hp).1) p (by
            rcases List.mem_cons.mp hp with rfl | hp
            · exact .head _
            · exact .tail _ (.tail _ hp))) off'.one (hn'.at' fun o e => hk₂ _ o (by simpa using Ne.symm hCI) e) hC₀ hD₀ hCL hDL (Ne.symm hDC) (fun p hp => (off3 p hp).2.1) R'
    · rcases List.mem_cons.mp hp with rfl | hp
      · exact ⟨hacc, hDL, hD₀⟩
      rcases List.mem_cons.mp hp with rfl | hp
      · exact ⟨hX1, hXL, hX₀⟩
      · exact ⟨old _ _ (N p hp).1, (N p hp).2⟩
  exact codeAny_compStart_list (loop _ ⟨_, rfl⟩) (W.self 0 _ _ _ hst₁ (loop _ ⟨_, rfl⟩))
def CellSrc (prog : Program) (w : World) (A : Around) (h₀ : Heap) (L : Addr) (m : Str → Option Value) (env : Env) (elt : PySem.Expr) (x : Str) (scope : Scope) (cl : List (Str × Addr)) (Fin : Shared → List Value → List (Addr × Obj) → Prop) (xv : Value) (s₁ : Shared) : Prop :=
  ∃ r a b t u v n news, xv = .ref r ∧ A.handled = none ∧ Fr h₀ L s₁.heap m ∧ News h₀ L s₁.heap news ∧ IsRange s₁.heap r a b 1 t u v ∧ Builtin.Range.small a b 1 = true ∧ Builtin.Range.rangeSize a b 1 = ((n : Nat) : Int) ∧ n ≤ sizeLine ∧
    ∀ g, CellRest prog w A h₀ L m env elt x scope cl { s₁ with heap := g } (Fin { s₁ with heap := g }) a n 0 [] news
theorem CellSrc.intro {elt : PySem.Expr} {x : Str} {scope : Scope} {cl : List (Str × Addr)} {Fin : Shared → List Value → List (Addr × Obj) → Prop} {r : Addr} {a b : Int} {t u v : Tok} {n : Nat} {news : List (Addr × Obj)} {s₁ : Shared}
    (hh : A.handled = none) (F : Fr h₀ L s₁.heap m) (N : News h₀ L s₁.heap news) (hr : IsRange s₁.heap r a b 1 t u v) (hsm : Builtin.Range.small a b 1 = true) (hn : Builtin.Range.rangeSize a b 1 = ((n : Nat) : Int)) (hsz : n ≤ sizeLine)
    (h : ∀ g, CellRest prog w A h₀ L m env elt x scope cl { s₁ with heap := g } (Fin { s₁ with heap := g }) a n 0 [] news) :
    CellSrc prog w A h₀ L m env elt x scope cl Fin (.ref r) s₁ := ⟨r, a, b, t, u, v, n, news, rfl, hh, F, N, hr, hsm, hn, hsz, h⟩
theorem ListComp_cell {elt iter : PySem.Expr} {x : Str} {px : Pos} {scope : Scope} {cl : List (Str × Addr)} {pos : Pos} {Q : Value → Shared → Prop} (F₀ : Fr h₀ L s.heap m)
    (hclos : closureFor scope env = pure cl) (hcl : ∀ n, cellsFrom n scope.names cl = (x, n) :: cl) (hpc : ∀ h, pushCells h scope.names = h.push (cellO none)) (hkind : scope.kind = .function)
    (hnames : ∀ y ∈ scope.names, y.2 = .local → scope.names.lookup y.1 = some .local) (hx : scope.names.lookup x = some .cell)
    (h : wpAny (model prog w) A (eval iter env) (CellSrc prog w A h₀ L m env elt x scope cl (fun s₂ => FinE h₀ L m s₂ Q)) E s)
    (hs : ∀ x, foldedSetIterable iter env x = pure x := by intro _; rfl) :
    wpAny (model prog w) A (eval (.ListComp elt [⟨.Name x px, iter, [], 0⟩] scope pos) env) Q E s := by
  rw [eval_ListComp]
  refine wpAny_comprehension_free (use := none) rfl hs hclos hkind hnames (wpAny_mono h (fun xv s₁ h₁ => ?_) fun _ _ e => e)
  obtain ⟨r, a, b, t, u, v, n, news, rfl, hh, F, N, hr, hsm, hn, hsz, R⟩ := h₁
  refine wpAny_pyIter_range hr hsm ?_
  refine block_cell hh hsz hcl hpc hkind hx (I := s₁.heap.objs.size) (a := a) (n := n) (by show IsRangeIter _ _ _ _ _; rw [hn]; simpa using Heap.get?_push_size _ rfl)
    (F.keeps fun _ _ e => Heap.get?_push_of_some _ e) (N.grown fun _ _ e => Heap.get?_push_of_some _ e) (Nat.ne_of_lt F.ns.lt) (next_is_new F) (fun p hp => Nat.ne_of_lt (Heap.lt_size (N p hp).1)) (R _) ?_
  intro D C h tk m' ys news' F' N' o1 hn hC₀ hD₀ hCL hDL hCD offC fin
  refine ⟨m', hn, fun h'' hs'' => fin D h'' tk (F'.change hs'' hCL hC₀) (fun p hp => ?_) o1⟩
  refine ⟨hs''.extBut _ _ ?_ (N' p hp).1, (N' p hp).2⟩
  rcases List.mem_cons.mp hp with rfl | hp
  · exact Ne.symm hCD
  · exact offC p hp
end
end Mine
end
section
open _root_.PySem _root_.PySem.W _root_.PySem.W.X _root_.PyProof.Rows _root_.PySem.Spec _root_.PySem.Calls _root_.PyProof.Rows.LCg
set_option Elab.async false
set_option maxRecDepth 100000
set_option maxHeartbeats 0
namespace Mine
theorem rs29 : True := by w_top off; trivial
section
variable {prog : Program} {w : World} {A : Around} {E : Value → Shared → Prop} {s : Shared} {h₀ : Heap} {L : Addr} {m : Str → Option Value} {env : Env}
abbrev formsO (fs : List Form) (k : Nat) : Obj := { cls := .type "list", data := .seq (fs.map fun x => Value.ref x.p).toArray k }
def Five (I C D X Y : Addr) : Prop := (@Ne Nat I C) ∧ (@Ne Nat I D) ∧ (@Ne Nat C D) ∧ (@Ne Nat I X) ∧ (@Ne Nat C X) ∧ (@Ne Nat D X) ∧ (@Ne Nat I Y) ∧ (@Ne Nat C Y) ∧ (@Ne Nat D Y) ∧ (@Ne Nat X Y)
/-- the end of a turn of a comprehension over forms, two of whose names are cells -/
def FormEnd (h₀ : Heap) (L : Addr) (m : Str → Option Value) (s₁ : Shared) (I : Addr) (oI : Obj) (C : Addr) (oC : Obj) (D : Addr) (oD : Obj) (X : Addr) (oX : Obj) (Y : Addr) (oY : Obj) (S : List (Addr × Obj) → Prop) (rest : Value → List (Addr × Obj) → Prop) (y : Value) (s₂ : Shared) : Prop :=
  ∃ h' tk news', s₂ = { s₁ with heap := h', toks := tk } ∧ Fr h₀ L h' m ∧ News h₀ L h' ((I, oI) :: (C, oC) :: (D, oD) :: (X, oX) :: (Y, oY) :: news') ∧ Off3 I C D news' ∧ Off1 X news' ∧ Off1 Y news' ∧ S news' ∧ rest y news'
theorem FormEnd.intro {I C D X Y : Addr} {s₁ : Shared} {oI oC oD oX oY : Obj} {S : List (Addr × Obj) → Prop} {rest : Value → List (Addr × Obj) → Prop} {y : Value} {h' : Heap} {tk : Nat} {news' all : List (Addr × Obj)}
    (F : Fr h₀ L h' m) (N : News h₀ L h' all) (sub : ∀ p ∈ (I, oI) :: (C, oC) :: (D, oD) :: (X, oX) :: (Y, oY) :: news', p ∈ all) (off : Off3 I C D news') (ox : Off1 X news') (oy : Off1 Y news') (hS : S news') (r : rest y news') :
    FormEnd h₀ L m s₁ I oI C oC D oD X oX Y oY S rest y { s₁ with heap := h', toks := tk } := ⟨h', tk, news', rfl, F, fun p hp => N p (sub p hp), off, ox, oy, hS, r⟩
def FormRest (prog : Program) (w : World) (A : Around) (h₀ : Heap) (L : Addr) (m : Str → Option Value) (env : Env) (elt : PySem.Expr) (b e : Str) (scope : Scope) (cl : List (Str × Addr)) (s : Shared) (S : List (Addr × Obj) → Prop)
    (Fin : List Value → List (Addr × Obj) → Prop) : List Form → List Value → List (Addr × Obj) → Prop
  | [], ys, news => Fin ys news
  | f :: r, ys, news => ∀ t I oI C oC D X oX Y oY h tk (E' : Value → Shared → Prop), oX.data = .cell (some (.int f.b t)) → oY.data = .cell (some (.bool f.e)) → Fr h₀ L h m → News h₀ L h ((I, oI) :: (C, oC) :: (D, lst ys) :: (X, oX) :: (Y, oY) :: news) → Off3 I C D news → Off1 X news → Off1 Y news →
      Five I C D X Y →
      wpAny (model prog w) A (eval elt (compEnvC scope ((e, Y) :: (b, X) :: cl) C env)) (FormEnd h₀ L m { s with heap := h, toks := tk } I oI C oC D (lst ys) X oX Y oY S (fun y news' => FormRest prog w A h₀ L m env elt b e scope cl s S Fin r (ys ++ [y]) news')) E' { s with heap := h, toks := tk }
theorem FormRest.nil {elt : PySem.Expr} {b e : Str} {scope : Scope} {cl : List (Str × Addr)} {S : List (Addr × Obj) → Prop} {Fin : List Value → List (Addr × Obj) → Prop} {ys : List Value} {news : List (Addr × Obj)} (h : Fin ys news) :
    FormRest prog w A h₀ L m env elt b e scope cl s S Fin [] ys news := h
theorem FormRest.cons {elt : PySem.Expr} {b e : Str} {scope : Scope} {cl : List (Str × Addr)} {S : List (Addr × Obj) → Prop} {Fin : List Value → List (Addr × Obj) → Prop} {f : Form} {r : List Form} {ys : List Value} {news : List (Addr × Obj)}
    (h : ∀ t I oI C oC D X oX Y oY h tk (E' : Value → Shared → Prop), oX.data = .cell (some (.int f.b t)) → oY.data = .cell (some (.bool f.e)) → Fr h₀ L h m → News h₀ L h ((I, oI) :: (C, oC) :: (D, lst ys) :: (X, oX) :: (Y, oY) :: news) → Off3 I C D news → Off1 X news → Off1 Y news →
      Five I C D X Y →
      wpAny (model prog w) A (eval elt (compEnvC scope ((e, Y) :: (b, X) :: cl) C env)) (FormEnd h₀ L m { s with heap := h, toks := tk } I oI C oC D (lst ys) X oX Y oY S (fun y news' => FormRest prog w A h₀ L m env elt b e scope cl s S Fin r (ys ++ [y]) news')) E' { s with heap := h, toks := tk }) :
    FormRest prog w A h₀ L m env elt b e scope cl s S Fin (f :: r) ys news := h
def FormS (lf : Addr) (fs : List Form) (k : Nat) (news : List (Addr × Obj)) : Prop := (lf, formsO fs k) ∈ news ∧ ∀ x ∈ fs, x.In news
inductive FInv (prog : Program) (w : World) (A : Around) (h₀ : Heap) (L : Addr) (m : Str → Option Value) (env : Env) (elt : PySem.Expr) (b e : Str) (scope : Scope) (cl : List (Str × Addr)) (s₂ : Shared) (lf : Addr) (fs : List Form) (kf : Nat) (Fin : List Value → List (Addr × Obj) → Prop) (I C D X Y : Addr) : Nat → Shared → Prop
  | mk (h' : Heap) (tk i : Nat) (ys : List Value) (m' : Str → Option Value) (oX : Obj) (u : Option Value) (oY : Obj) (v : Option Value) (news' : List (Addr × Obj)) (hi : i ≤ fs.length) (hyl : ys.length = i) (hst' : h'.IsListIter I lf i) (F' : Fr h₀ L h' m) (hn' : h'.Ns C m') (N' : News h₀ L h' ((D, lst ys) :: (X, oX) :: (Y, oY) :: news')) (hdX : oX.data = .cell u) (hdY : oY.data = .cell v)
      (off' : Off3 I C D news') (offx' : Off1 X news') (offy' : Off1 Y news') (hS' : FormS lf fs kf news') (R' : FormRest prog w A h₀ L m env elt b e scope cl s₂ (FormS lf fs kf) Fin (fs.drop i) ys news') : FInv prog w A h₀ L m env elt b e scope cl s₂ lf fs kf Fin I C D X Y (fs.length + 1 - i) { s₂ with heap := h', toks := tk }
theorem block_form {elt iter : PySem.Expr} {b e c : Str} {pb pe pc tp : Pos} {tq : Nat} {scope : Scope} {cl : List (Str × Addr)} {pos : Pos} {s₂ : Shared} {I lf : Addr} {fs : List Form} {kf : Nat} {news : List (Addr × Obj)}
    {Fin : List Value → List (Addr × Obj) → Prop} {RR : Value → Addr → Result → Shared → Prop}
    (hh : A.handled = none) (hsz : fs.length ≤ sizeLine)
    (hcl : ∀ n, cellsFrom n scope.names cl = (e, n + 1) :: (b, n) :: cl) (hpc : ∀ h, pushCells h scope.names = (h.push (cellO none)).push (cellO none)) (hkind : scope.kind = .function) (hb : scope.names.lookup b = some .cell) (he : scope.names.lookup e = some .cell) (hc : scope.names.lookup c = some .local) (heb : (b == e) = false)
    (hst : s₂.heap.IsListIter I lf 0)
    (F : Fr h₀ L s₂.heap m) (N : News h₀ L s₂.heap news) (hIL : L ≠ I) (hI₀ : h₀.get? I = none) (off : ∀ p ∈ news, p.1 ≠ I) (hS : FormS lf fs kf news)
    (R : FormRest prog w A h₀ L m env elt b e scope cl s₂ (FormS lf fs kf) Fin fs [] news)
    (hRR : ∀ D C h tk m' ys news', Fr h₀ L h m → News h₀ L h ((D, lst ys) :: news') → Off1 D news' → h.Ns C m' → h₀.get? C = none → h₀.get? D = none → C ≠ L → D ≠ L → C ≠ D → (∀ p ∈ news', p.1 ≠ C) → Fin ys news' → RR (.ref D) C (.ok .next) { s₂ with heap := h, toks := tk }) :
    wpAny (model prog w) A (newList []) (fun acc s₃ => wpAny (model prog w) A (newFunctionEnv scope env.globals cl [] env.qual none .none (some env)) (fun cenv s₄ =>
      codeAny (model prog w) A (.compStart (.ListComp elt [⟨.Tuple [.Name b pb, .Name e pe, .Name c pc] tq tp, iter, [], 0⟩] scope pos) 0 (.ref I) acc { cenv with scope := relabel scope env }) (RR acc cenv.locals) s₄) E s₃) E s₂ := by
  have hNl := (N _ hS.1).1
  have hlI : lf ≠ I := off _ hS.1
  obtain ⟨its, hits⟩ : ∃ its, its = (fs.map fun x => Value.ref x.p).toArray := ⟨_, rfl⟩
  have hlen : its.size = fs.length := by rw [hits]; simp
  have W := Walks.list (prog := prog) (w := w) (A := A) hh I lf hlI its
  have hat : ∀ (h : Heap), h.get? lf = some (formsO fs kf) → h.IsList lf its := fun h q => ⟨_, q, rfl, kf, by rw [hits]⟩
  refine wpAny_newObj_type (newEnv_around ?_)
  dsimp only
  generalize hH2 : s₂.heap.push { cls := .type "list", dict := none, data := .seq ([] : List Value).toArray } = H2
  have hC : H2.objs.size = s₂.heap.objs.size + 1 := by rw [← hH2, Heap.size_push]
  rw [hcl, hpc]
  have hCn : (H2.push { cls := .type "dict", data := .dict #[] }).Ns H2.objs.size (fun _ => none) := Heap.Ns.new H2 (.type "dict")
  generalize hH3 : H2.push { cls := .type "dict", data := .dict #[] } = H3 at hCn ⊢
  have hC3 : H3.objs.size = H2.objs.size + 1 := by rw [← hH3, Heap.size_push]
  generalize hH4 : H3.push (cellO none) = H4
  have hC4 : H4.objs.size = H2.objs.size + 2 := by rw [← hH4, Heap.size_push, hC3]
  generalize hH5 : H4.push (cellO none) = h₁
  have up5 : ∀ b o, H4.get? b = some o → h₁.get? b = some o := fun b o e => hH5 ▸ Heap.get?_push_of_some _ e
  have up4 : ∀ b o, H3.get? b = some o → h₁.get? b = some o := fun b o e => up5 _ _ (hH4 ▸ Heap.get?_push_of_some _ e)
  have up3 : ∀ b o, H2.get? b = some o → H3.get? b = some o := fun b o e => hH3 ▸ Heap.get?_push_of_some _ e
  have up2 : ∀ b o, s₂.heap.get? b = some o → H2.get? b = some o := fun b o e => hH2 ▸ Heap.get?_push_of_some _ e
  have old : ∀ b o, s₂.heap.get? b = some o → h₁.get? b = some o := fun b o e => up4 _ _ (up3 _ _ (up2 _ _ e))
  have hns₁ : h₁.Ns H2.objs.size (fun _ => none) := hCn.keeps up4
  have hX1 : h₁.get? (H2.objs.size + 1) = some (cellO none) := by rw [← hC3]; exact up5 _ _ (by rw [← hH4]; exact Heap.get?_push_size _ rfl)
  have hY1 : h₁.get? (H2.objs.size + 1 + 1) = some (cellO none) := by rw [show H2.objs.size + 1 + 1 = H4.objs.size by rw [hC4], ← hH5]; exact Heap.get?_push_size _ rfl
  have hacc : h₁.get? s₂.heap.objs.size = some (lst []) := up4 _ _ (up3 _ _ (by rw [← hH2]; exact Heap.get?_push_size _ rfl))
  obtain ⟨Y, hY⟩ : ∃ Y : Nat, Y = H2.objs.size + 1 + 1 := ⟨_, rfl⟩
  obtain ⟨X, hX⟩ : ∃ X : Nat, X = H2.objs.size + 1 := ⟨_, rfl⟩
  obtain ⟨C, hCe⟩ : ∃ C : Nat, C = H2.objs.size := ⟨_, rfl⟩
  obtain ⟨D, hDe⟩ : ∃ D : Nat, D = s₂.heap.objs.size := ⟨_, rfl⟩
  rw [← hY] at hY1 ⊢
  rw [← hX] at hX1 ⊢
  rw [← hCe] at hns₁ hX hY hC ⊢
  rw [← hDe] at hacc hC ⊢
  have hIlt : I < s₂.heap.objs.size := by obtain ⟨_, q, _⟩ := hst; exact Heap.lt_size q
  have below : ∀ b : Nat, b < s₂.heap.objs.size → b ≠ C ∧ b ≠ D ∧ b ≠ X ∧ b ≠ Y := fun b hb => by omega
  have fresh₀ : ∀ a : Nat, s₂.heap.objs.size ≤ a → h₀.get? a = none := fun a ha => by
    cases e : h₀.get? a with
    | none => rfl
    | some o' => have := Heap.lt_size (F.keep a o' e); exact absurd this (Nat.not_lt.mpr ha)
  have hD₀ : h₀.get? D = none := fresh₀ _ (by omega)
  have hC₀ : h₀.get? C = none := fresh₀ _ (by omega)
  have hX₀ : h₀.get? X = none := fresh₀ _ (by omega)
  have hY₀ : h₀.get? Y = none := fresh₀ _ (by omega)
  have hLlt : L < s₂.heap.objs.size := F.ns.lt
  have hDL : D ≠ L := Ne.symm (below L hLlt).2.1
  have hCL : C ≠ L := Ne.symm (below L hLlt).1
  have hXL : X ≠ L := Ne.symm (below L hLlt).2.2.1
  have hYL : Y ≠ L := Ne.symm (below L hLlt).2.2.2
  have hDC : D ≠ C := by intro e; have : (D : Nat) = C := e; omega
  have hDX : D ≠ X := by intro e; have : (D : Nat) = X := e; omega
  have hDY : D ≠ Y := by intro e; have : (D : Nat) = Y := e; omega
  have hCX : C ≠ X := by intro e; have : (C : Nat) = X := e; omega
  have hCY : C ≠ Y := by intro e; have : (C : Nat) = Y := e; omega
  have hXY : X ≠ Y := by intro e; have : (X : Nat) = Y := e; omega
  have hCI : I ≠ C := (below I hIlt).1
  have hDI : I ≠ D := (below I hIlt).2.1
  have hXI : I ≠ X := (below I hIlt).2.2.1
  have hYI : I ≠ Y := (below I hIlt).2.2.2
  have off₀ : Off3 I C D news := Off3.of fun p hp => ⟨off p hp, (below _ (Heap.lt_size (N p hp).1)).1, (below _ (Heap.lt_size (N p hp).1)).2.1⟩
  have offx₀ : Off1 X news := off1_of fun p hp => (below _ (Heap.lt_size (N p hp).1)).2.2.1
  have offy₀ : Off1 Y news := off1_of fun p hp => (below _ (Heap.lt_size (N p hp).1)).2.2.2
  have hst₁ : h₁.IsListIter I lf 0 := hst.at fun o e => old _ o e
  have hke : Env.kindOf (compEnvC scope ((e, Y) :: (b, X) :: cl) C env) e = some .cell := relabel_cell he
  have hkb : Env.kindOf (compEnvC scope ((e, Y) :: (b, X) :: cl) C env) b = some .cell := relabel_cell hb
  have hkc : Env.kindOf (compEnvC scope ((e, Y) :: (b, X) :: cl) C env) c = some .local := lookup_relabel_local hc
  have loop : ∀ s₃ : Shared, (∃ tk, s₃ = { s₂ with heap := h₁, toks := tk }) →
      codeAny (model prog w) A (.compLoop (.ListComp elt [⟨.Tuple [.Name b pb, .Name e pe, .Name c pc] tq tp, iter, [], 0⟩] scope pos) 0 (.ref I) (.ref D) (compEnvC scope ((e, Y) :: (b, X) :: cl) C env))
        (RR (.ref D) C) s₃ := by
    rintro s₃ ⟨tk₀, rfl⟩
    refine LCp.codeAny_compLoop_pair
      (FInv prog w A h₀ L m env elt b e scope cl s₂ lf fs kf Fin I C D X Y) ?_ (fs.length + 1)
      (FInv.mk h₁ _ 0 [] _ (cellO none) none (cellO none) none news (Nat.zero_le _) rfl hst₁ (F.keeps old) hns₁ (fun p hp => ?_) rfl rfl off₀ offx₀ offy₀ hS (by rw [List.drop_zero]; exact R))
    · rintro k s' ⟨h', tk, i, ys, m', oX, u, oY, v, news', hi, hyl, hst', F', hn', N', hdX, hdY, off', offx', offy', hS', R'⟩
      have off3 := off'.mem
      have offx := off1_mem offx'
      have offy := off1_mem offy'
      have hl' : h'.IsList lf its := hat _ (N' _ (.tail _ (.tail _ (.tail _ hS'.1)))).1
      by_cases hlt : i < fs.length
      · obtain ⟨f, hf⟩ : ∃ f, f = fs[i] := ⟨_, rfl⟩
        have hdrop : fs.drop i = f :: fs.drop (i + 1) := by rw [List.drop_eq_getElem_cons hlt, hf]
        rw [hdrop] at R'
        refine W.item i _ _ _ (by rw [hlen]; exact hlt) ⟨hst', hl'⟩ fun v h₂ tk₂ hPv hst₂ hk₂ => ?_
        have hv : v = .ref f.p := by
          rw [hits] at hPv
          have : (fs.map fun x => Value.ref x.p)[i]? = some v := by simpa using hPv
          rw [List.getElem?_map, List.getElem?_eq_getElem hlt] at this
          rw [hf]; exact (Option.some.inj this).symm
        subst hv
        have N₂ : News h₀ L h₂ ((D, lst ys) :: (X, oX) :: (Y, oY) :: news') := news_but N' hk₂ fun p hp => by
          rcases List.mem_cons.mp hp with rfl | hp
          · exact Ne.symm hDI
          rcases List.mem_cons.mp hp with rfl | hp
          · exact Ne.symm hXI
          rcases List.mem_cons.mp hp with rfl | hp
          · exact Ne.symm hYI
          · exact (off3 p hp).1
        obtain ⟨t, u', hfm⟩ := hS'.2 f (by rw [hf]; exact List.getElem_mem hlt)
        have ht : IsTup h₂ f.p #[.int f.b t, .bool f.e, .int f.f u'] := ⟨_, (N₂ _ (.tail _ (.tail _ (.tail _ hfm)))).1, rfl, 0, rfl⟩
        refine wpAny_letOwnedTupleGo_listiter hst₂.1 ?_
        refine assign_Tuple_tuple hh ht rfl rfl fun h₅ he₅ => ?_
        have he' : ∀ b o, h₂.get? b = some o → h₅.get? b = some o := fun b o e => he₅ b o (Nat.ne_of_lt (Heap.lt_size e)) e
        refine assignInOrder_cons (wpAny_assign_Name (wpAny_storeName_cell (c := X) (by simp [compEnvC, relabel, hkind]) hkb (by simp only [compEnvC, List.lookup_cons, heb, beq_self_eq_true]) ⟨oX, he' _ _ (N₂ (X, oX) (.tail _ (.head _))).1, hdX⟩ (fun h₆ hX₆ hs₆ => ?_)))
        refine assignInOrder_cons (wpAny_assign_Name (wpAny_storeName_cell (c := Y) (by simp [compEnvC, relabel, hkind]) hke (by simp only [compEnvC, List.lookup_cons, beq_self_eq_true]) ⟨oY, hs₆.extBut _ _ (Ne.symm hXY) (he' _ _ (N₂ (Y, oY) (.tail _ (.tail _ (.head _)))).1), hdY⟩ (fun h₇ hY₇ hs₇ => ?_)))
        have hn₇ : h₇.Ns C m' := hn'.at' fun o e => hs₇.extBut _ _ hCY (hs₆.extBut _ _ hCX (he' _ _ (hk₂ _ o (by simpa using Ne.symm hCI) e)))
        refine assignInOrder_cons (wpAny_assign_Name (wpAny_storeName_local (m := m') hkc hn₇ (fun h₃ hn₃ hs₃ => ?_) (by simp [compEnvC, relabel, hkind])))
        refine assignInOrder_nil ?_
        have hs₃ : Heap.SameBut C h₇ h₃ := hs₃
        have hn₃ : h₃.Ns C _ := hn₃
        have old3 : ∀ b o, b ≠ C → b ≠ X → b ≠ Y → h₂.get? b = some o → h₃.get? b = some o := fun b o h1 h2 h3 e => hs₃.extBut b o h1 (hs₇.extBut b o h3 (hs₆.extBut b o h2 (he' b o e)))
        obtain ⟨oX₃, heX₆, hdX₃⟩ := hX₆
        have heX : h₃.get? X = some oX₃ := hs₃.extBut _ _ (Ne.symm hCX) (hs₇.extBut _ _ hXY heX₆)
        obtain ⟨oY₃, heY₇, hdY₃⟩ := hY₇
        have heY : h₃.get? Y = some oY₃ := hs₃.extBut _ _ (Ne.symm hCY) heY₇
        obtain ⟨oI, heI, hIc, hId⟩ := hst₂.1
        have heI₃ := old3 _ _ hCI hXI hYI heI
        obtain ⟨oC, heC, hoC⟩ := ns_obj hn₃
        have F₃ : Fr h₀ L h₃ m := ((((fr_but F' hk₂ hIL hI₀).keeps he').change hs₆ hXL hX₀).change hs₇ hYL hY₀).change hs₃ hCL hC₀
        have N₃ : News h₀ L h₃ ((I, oI) :: (C, oC) :: (D, lst ys) :: (X, oX₃) :: (Y, oY₃) :: news') := fun p hp => by
          rcases List.mem_cons.mp hp with rfl | hp
          · exact ⟨heI₃, Ne.symm hIL, hI₀⟩
          rcases List.mem_cons.mp hp with rfl | hp
          · exact ⟨heC, hCL, hC₀⟩
          rcases List.mem_cons.mp hp with rfl | hp
          · have z := N₂ (D, lst ys) (.head _)
            exact ⟨old3 _ _ hDC hDX hDY z.1, z.2⟩
          rcases List.mem_cons.mp hp with rfl | hp
          · exact ⟨heX, hXL, hX₀⟩
          rcases List.mem_cons.mp hp with rfl | hp
          · exact ⟨heY, hYL, hY₀⟩
          · have z := N₂ p (.tail _ (.tail _ (.tail _ hp)))
            exact ⟨old3 _ _ (off3 p hp).2.1 (offx p hp) (offy p hp) z.1, z.2⟩
        refine wpAny_mono (R' t I oI C oC D X oX₃ Y oY₃ h₃ _ _ hdX₃ hdY₃ F₃ N₃ off' offx' offy' ⟨hCI, hDI, Ne.symm hDC, hXI, hCX, hDX, hYI, hCY, hDY, hXY⟩) (fun y s₄ h₄ => ?_) fun _ _ e => e
        obtain ⟨h₄, tk₄, news₄, rfl, F₄, N₄, off₄, offx₄, offy₄, hS₄, R₄⟩ := h₄
        have zI := (N₄ _ List.mem_cons_self).1
        have zC := (N₄ (C, oC) (.tail _ (.head _))).1
        have zD := (N₄ (D, lst ys) (.tail _ (.tail _ (.head _)))).1
        have zX := (N₄ (X, oX₃) (.tail _ (.tail _ (.tail _ (.head _))))).1
        have zY := (N₄ (Y, oY₃) (.tail _ (.tail _ (.tail _ (.tail _ (.head _)))))).1
        have N₄' : News h₀ L h₄ news₄ := fun p hp => N₄ p (.tail _ (.tail _ (.tail _ (.tail _ (.tail _ hp)))))
        refine append_at (hsz := by show ys.toArray.size ≤ sizeLine; rw [List.size_toArray, hyl]; exact Nat.le_trans hi hsz) zD fun h₅ hs₅ hD₅ => ?_
        have off4 := off₄.mem
        refine ⟨fs.length + 1 - (i + 1), by omega, FInv.mk h₅ tk₄ (i + 1) (ys ++ [y]) _ oX₃ _ oY₃ _ news₄ hlt (by rw [List.length_append, List.length_singleton, hyl]) ⟨oI, hs₅.extBut _ _ hDI zI, hIc, hId⟩ (F₄.change hs₅ hDL hD₀)
          ((hoC.ns zC).sameBut hs₅ (Ne.symm hDC)) (fun p hp => ?_) hdX₃ hdY₃ off₄ offx₄ offy₄ hS₄ R₄⟩
        rcases List.mem_cons.mp hp with rfl | hp
        · exact ⟨hD₅.trans (congrArg some (lst_snoc ys y)), hDL, hD₀⟩
        rcases List.mem_cons.mp hp with rfl | hp
        · exact ⟨hs₅.extBut _ _ (Ne.symm hDX) zX, hXL, hX₀⟩
        rcases List.mem_cons.mp hp with rfl | hp
        · exact ⟨hs₅.extBut _ _ (Ne.symm hDY) zY, hYL, hY₀⟩
        · exact ⟨hs₅.extBut _ _ (off4 p hp).2.2 (N₄' p hp).1, (N₄' p hp).2⟩
      · have hin : i = fs.length := Nat.le_antisymm hi (Nat.not_lt.mp hlt)
        subst hin
        have hnil : fs.drop fs.length = [] := List.drop_eq_nil_of_le (Nat.le_refl _)
        rw [hnil] at R'
        refine W.done _ _ _ (by rw [hlen]; exact ⟨hst', hl'⟩) fun h₂ tk₂ hk₂ => ?_
        exact hRR _ _ h₂ tk₂ _ ys news' (fr_but F' hk₂ hIL hI₀) (fun p hp => (news_but N' hk₂ fun p hp => by
          rcases List.mem_cons.mp hp with rfl | hp
          · exact Ne.symm hDI
          rcases List.mem_cons.mp hp with rfl | hp
          · exact Ne.symm hXI
          rcases List.mem_cons.mp hp with rfl | hp
          · exact Ne.symm hYI
          · exact (off3 p hp).1) p (by
            rcases List.mem_cons.mp hp with rfl | hp
            · exact .head _
            · exact .tail _ (.tail _ (.tail _ hp)))) off'.one (hn'.at' fun o e => hk₂ _ o (by simpa using Ne.symm hCI) e) hC₀ hD₀ hCL hDL (Ne.symm hDC) (fun p hp => (off3 p hp).2.1) R'
    · rcases List.mem_cons.mp hp with rfl | hp
      · exact ⟨hacc, hDL, hD₀⟩
      rcases List.mem_cons.mp hp with rfl | hp
      · exact ⟨hX1, hXL, hX₀⟩
      rcases List.mem_cons.mp hp with rfl | hp
      · exact ⟨hY1, hYL, hY₀⟩
      · exact ⟨old _ _ (N p hp).1, (N p hp).2⟩
  exact codeAny_compStart_list (loop _ ⟨_, rfl⟩) (W.self 0 _ _ _ ⟨hst₁, hat _ (old _ _ hNl)⟩ (loop _ ⟨_, rfl⟩))
def FormSrc (prog : Program) (w : World) (A : Around) (h₀ : Heap) (L : Addr) (m : Str → Option Value) (env : Env) (elt : PySem.Expr) (b e : Str) (scope : Scope) (cl : List (Str × Addr)) (Fin : Shared → List Value → List (Addr × Obj) → Prop) (xv : Value) (s₁ : Shared) : Prop :=
  ∃ lf fs k news, xv = .ref lf ∧ A.handled = none ∧ Fr h₀ L s₁.heap m ∧ News h₀ L s₁.heap news ∧ FormS lf fs k news ∧ fs.length ≤ sizeLine ∧
    ∀ g, FormRest prog w A h₀ L m env elt b e scope cl { s₁ with heap := g } (FormS lf fs k) (Fin { s₁ with heap := g }) fs [] news
theorem FormSrc.intro {elt : PySem.Expr} {b e : Str} {scope : Scope} {cl : List (Str × Addr)} {Fin : Shared → List Value → List (Addr × Obj) → Prop} {lf : Addr} {fs : List Form} {k : Nat} {news : List (Addr × Obj)} {s₁ : Shared}
    (hh : A.handled = none) (F : Fr h₀ L s₁.heap m) (N : News h₀ L s₁.heap news) (hS : FormS lf fs k news) (hsz : fs.length ≤ sizeLine)
    (h : ∀ g, FormRest prog w A h₀ L m env elt b e scope cl { s₁ with heap := g } (FormS lf fs k) (Fin { s₁ with heap := g }) fs [] news) :
    FormSrc prog w A h₀ L m env elt b e scope cl Fin (.ref lf) s₁ := ⟨lf, fs, k, news, rfl, hh, F, N, hS, hsz, h⟩
theorem ListComp_form {elt iter : PySem.Expr} {b e c : Str} {pb pe pc tp : Pos} {tq : Nat} {scope : Scope} {cl : List (Str × Addr)} {pos : Pos} {Q : Value → Shared → Prop} (_F₀ : Fr h₀ L s.heap m)
    (hclos : closureFor scope env = pure cl) (hcl : ∀ n, cellsFrom n scope.names cl = (e, n + 1) :: (b, n) :: cl) (hpc : ∀ h, pushCells h scope.names = (h.push (cellO none)).push (cellO none)) (hkind : scope.kind = .function)
    (hnames : ∀ y ∈ scope.names, y.2 = .local → scope.names.lookup y.1 = some .local) (hb : scope.names.lookup b = some .cell) (he : scope.names.lookup e = some .cell) (hc : scope.names.lookup c = some .local) (heb : (b == e) = false)
    (h : wpAny (model prog w) A (eval iter env) (FormSrc prog w A h₀ L m env elt b e scope cl (fun s₂ => FinE h₀ L m s₂ Q)) E s)
    (hs : ∀ x, foldedSetIterable iter env x = pure x := by intro _; rfl) :
    wpAny (model prog w) A (eval (.ListComp elt [⟨.Tuple [.Name b pb, .Name e pe, .Name c pc] tq tp, iter, [], 0⟩] scope pos) env) Q E s := by
  rw [eval_ListComp]
  refine wpAny_comprehension_free (use := none) rfl hs hclos hkind hnames (wpAny_mono h (fun xv s₁ h₁ => ?_) fun _ _ e => e)
  obtain ⟨lf, fs, kf, news, rfl, hh, F, N, hS, hsz, R⟩ := h₁
  have hl : s₁.heap.IsList lf (fs.map fun x => Value.ref x.p).toArray := ⟨_, (N _ hS.1).1, rfl, kf, rfl⟩
  have hlt : lf < s₁.heap.objs.size := Heap.lt_size (N _ hS.1).1
  refine wpAny_pyIter_list hl ?_
  have up : ∀ b o, s₁.heap.get? b = some o → (s₁.heap.push { cls := .type "list_iterator", data := .fields #[.ref lf, .int 0 0] }).get? b = some o := fun b o e => Heap.get?_push_of_some _ e
  refine block_form hh hsz hcl hpc hkind hb he hc heb (I := s₁.heap.objs.size) (fs := fs) (kf := kf) ⟨_, Heap.get?_push_size _ rfl, rfl, rfl⟩
    (F.keeps up) (N.grown up) (Nat.ne_of_lt F.ns.lt) (next_is_new F) (fun p hp => Nat.ne_of_lt (Heap.lt_size (N p hp).1)) hS (R _) ?_
  intro D C h tk m' ys news' F' N' o1 hn hC₀ hD₀ hCL hDL hCD offC fin
  refine ⟨m', hn, fun h'' hs'' => fin D h'' tk (F'.change hs'' hCL hC₀) (fun p hp => ?_) o1⟩
  refine ⟨hs''.extBut _ _ ?_ (N' p hp).1, (N' p hp).2⟩
  rcases List.mem_cons.mp hp with rfl | hp
  · exact Ne.symm hCD
  · exact offC p hp
end
end Mine
end
section
open _root_.PySem _root_.PySem.W _root_.PySem.W.X _root_.PyProof.Rows
set_option Elab.async false
set_option maxRecDepth 100000
set_option maxHeartbeats 0
namespace Mine
local macro_rules | `(tactic| walk_at "none") => `(tactic| skip)
theorem rs30 : True := by w_top off; trivial
local macro_rules | `(tactic| k_updF) => `(tactic| first | (refine' UpdF.head ?a; (case a => (repeat (refine all_cons (by first | k_ne | omega) ?_)); first | exact all_off1 (by assumption) | exact all_off2 (by assumption) | exact all_off3 (by assumption) | exact all_off4 (by assumption) | exact all_off5 (by assumption) | exact all_off6 (by assumption) | exact all_off7 (by assumption) | (intro p hp; cases hp))) | (refine' UpdF.tail ?a ?b; (case a => first | k_ne | omega); (case b => k_updF)))
def tw1 (sg fr b0 b1 b2 w0 w1 w2 : Int) (i : Nat) : Int :=
  if sg = 0 then 0 else if 0 + (i : Int) < fr then [0, 0, 6, 7].getD ([b0, b1, b2].getD (0 + (i : Int)).toNat 0).toNat 0 else Int.fdiv 12 ([b0, b1, b2].getD (0 + (i : Int)).toNat 0) * [w0, w1, w2].getD (0 + (i : Int)).toNat 0
def twN (sg fr b0 b1 b2 w0 w1 w2 : Int) : Nat → Nat → Int → Int
  | 0, _, tv => tv
  | k + 1, i, tv => twN sg fr b0 b1 b2 w0 w1 w2 k (i + 1) (tv + tw1 sg fr b0 b1 b2 w0 w1 w2 i)
theorem bget {b0 b1 b2 : Int} (b0a : 2 ≤ b0) (b0b : b0 ≤ 3) (b1a : 2 ≤ b1) (b1b : b1 ≤ 3) (b2a : 2 ≤ b2) (b2b : b2 ≤ 3) {k : Int} (k0 : 0 ≤ k) (k1 : k ≤ 2) : 2 ≤ [b0, b1, b2].getD k.toNat 0 ∧ [b0, b1, b2].getD k.toNat 0 ≤ 3 := by
  have : k = 0 ∨ k = 1 ∨ k = 2 := by omega
  rcases this with rfl | rfl | rfl
  · exact ⟨b0a, b0b⟩
  · exact ⟨b1a, b1b⟩
  · exact ⟨b2a, b2b⟩
theorem tw1_a {sg fr b0 b1 b2 w0 w1 w2 tv : Int} {i : Nat} (h : sg = 0) : tv = tv + tw1 sg fr b0 b1 b2 w0 w1 w2 i := by unfold tw1; rw [if_pos h]; omega
theorem tw1_b {sg fr b0 b1 b2 w0 w1 w2 tv : Int} {i : Nat} (h : sg ≠ 0) (q : 0 + (i : Int) < fr) : tv + [0, 0, 6, 7].getD ([b0, b1, b2].getD (0 + (i : Int)).toNat 0).toNat 0 = tv + tw1 sg fr b0 b1 b2 w0 w1 w2 i := by unfold tw1; rw [if_neg h, if_pos q]
theorem tw1_c {sg fr b0 b1 b2 w0 w1 w2 tv : Int} {i : Nat} (h : sg ≠ 0) (q : ¬ 0 + (i : Int) < fr) : tv + Int.fdiv 12 ([b0, b1, b2].getD (0 + (i : Int)).toNat 0) * [w0, w1, w2].getD (0 + (i : Int)).toNat 0 = tv + tw1 sg fr b0 b1 b2 w0 w1 w2 i := by unfold tw1; rw [if_neg h, if_neg q]
local macro_rules | `(tactic| walk_at "RangeRest") => `(tactic| (refine Halt.go ?_))
local macro_rules | `(tactic| walk_at "UnrEnd") => `(tactic| (refine Halt.go ?_))
theorem mulk {b x : Int} (h0 : 2 ≤ b) (h1 : b ≤ 3) : IntMulOk (Int.fdiv 12 b) x := by
  have : b = 2 ∨ b = 3 := by omega
  rcases this with rfl | rfl
  · exact PySem.IntMulOk.of_left (PySem.intBits_le_64 (by decide) (by decide))
  · exact PySem.IntMulOk.of_left (PySem.intBits_le_64 (by decide) (by decide))
abbrev body20 : List Stmt := forBody (st 20)
theorem loop20 {w : World} {loose : List Str} {mean : ExcName → Option Value} {mg mb : Str → Option Value} {base : Heap} {L fa : Addr} {cd : Value} {E : Value → Shared → Prop} {Q : Flow → Shared → Prop}
   (cB : Below callerA base [] base) (cX : (Mine.hd.heap_39 w.params).In base) (cT : Top Mine.hd.view_39 loose mean mg mb base) (hE : PassesOwn (model PP w) (lawA L fa cd) (lawEnv L fa cd) E)
   {s : Shared} {I : Addr} {q2 q3 q4 q5 : Value} {sg fr b0 b1 b2 w0 w1 w2 : Int} {ts tf u0 u1 u2 v0 v1 v2 : Tok} {lo lb : Addr} {o1 o2 o3 o4 o5 o6 o7 : Obj} {ns : List (Addr × Obj)}
   (b0a : 2 ≤ b0) (b0b : b0 ≤ 3) (b1a : 2 ≤ b1) (b1b : b1 ≤ 3) (b2a : 2 ≤ b2) (b2b : b2 ≤ 3)
   (d2 : o2.data = .cell (some (.ref lb))) (d3 : o3.data = .cell (some (.int fr tf)))
   (hlt : ∀ p ∈ (lo, LCg.lst [.int w0 v0, .int w1 v1, .int w2 v2]) :: (lb, LCg.lst [.int b0 u0, .int b1 u1, .int b2 u2]) :: (L + 1 + 1 + 1 + 1 + 1 + 1 + 1, o7) :: (L + 1 + 1 + 1 + 1 + 1 + 1, o6) :: (L + 1 + 1 + 1 + 1 + 1, o5) :: (L + 1 + 1 + 1 + 1, o4) :: (L + 1 + 1 + 1, o3) :: (L + 1 + 1, o2) :: (L + 1, o1) :: ns, p.1 < I)
   : ∀ (k i : Nat) (m : Str → Option Value) (tv : Int) (tt : Tok), k + i = 3 →
   (∀ (m' : Str → Option Value) (h' : Heap) (tk' : Nat) (tt' : Tok), Fr base L h' (fun y => if y = Str.ofString "twelfths" then some (.int (twN sg fr b0 b1 b2 w0 w1 w2 k i tv) tt') else if y = Str.ofString "spread" then some (q5) else if y = Str.ofString "strength" then some (.int sg ts) else if y = Str.ofString "shown" then some (q4) else if y = Str.ofString "forms" then some (q3) else if y = Str.ofString "count" then some (q2) else if y = Str.ofString "own" then some (.ref lo) else m' y) → News base L h' ((lo, LCg.lst [.int w0 v0, .int w1 v1, .int w2 v2]) :: (lb, LCg.lst [.int b0 u0, .int b1 u1, .int b2 u2]) :: (L + 1 + 1 + 1 + 1 + 1 + 1 + 1, o7) :: (L + 1 + 1 + 1 + 1 + 1 + 1, o6) :: (L + 1 + 1 + 1 + 1 + 1, o5) :: (L + 1 + 1 + 1 + 1, o4) :: (L + 1 + 1 + 1, o3) :: (L + 1 + 1, o2) :: (L + 1, o1) :: ns) → Q .next { s with heap := h', toks := tk' }) →
   RangeRest PP w (lawA L fa cd) E base (lawEnv L fa cd) (Str.ofString "k") body20 Q s I 0 3 k i (fun y => if y = Str.ofString "twelfths" then some (.int tv tt) else if y = Str.ofString "spread" then some (q5) else if y = Str.ofString "strength" then some (.int sg ts) else if y = Str.ofString "shown" then some (q4) else if y = Str.ofString "forms" then some (q3) else if y = Str.ofString "count" then some (q2) else if y = Str.ofString "own" then some (.ref lo) else m y) ((lo, LCg.lst [.int w0 v0, .int w1 v1, .int w2 v2]) :: (lb, LCg.lst [.int b0 u0, .int b1 u1, .int b2 u2]) :: (L + 1 + 1 + 1 + 1 + 1 + 1 + 1, o7) :: (L + 1 + 1 + 1 + 1 + 1 + 1, o6) :: (L + 1 + 1 + 1 + 1 + 1, o5) :: (L + 1 + 1 + 1 + 1, o4) :: (L + 1 + 1 + 1, o3) :: (L + 1 + 1, o2) :: (L + 1, o1) :: ns) := by
  intro k
  induction k with
  | zero =>
    intro i m tv tt hki hQ
    exact fun h tk F N => hQ m h tk _ F N
  | succ k ih =>
    intro i m tv tt hki hQ
    refine RangeRest.succ fun t9 h9 tk9 F9 N9 => ?_
    obtain ⟨tb, htb⟩ : ∃ x, x = body20 := ⟨_, rfl⟩
    obtain ⟨sc, hsc⟩ : ∃ x, x = lawScope := ⟨_, rfl⟩
    unfold lawA lawEnv
    rw [← htb, ← hsc]
    conv at htb => rhs; whnf
    conv at hsc => rhs; whnf
    subst htb hsc
    have hi0 : (0 : Int) ≤ 0 + (i : Int) := by omega
    have hi1 : 0 + (i : Int) ≤ 2 := by omega
    have hb9 := bget b0a b0b b1a b1b b2a b2b hi0 hi1
    obtain ⟨hb8, hb7⟩ := hb9
    have hh0 : (0 : Int) ≤ [b0, b1, b2].getD (0 + (i : Int)).toNat 0 := by omega
    have hh1 : [b0, b1, b2].getD (0 + (i : Int)).toNat 0 < 4 := by omega
    (repeat' (first | (k_unfold; (try dsimp only)) | (k_end; wrow_close) | ((with_reducible show wpAny _ _ (binaryOp .Mult (Value.int _ _) (Value.int _ _)) _ _ _); (k_here; with_reducible refine mul_int ?_ (mulk (by assumption) (by assumption)))) | walk1 | (dsimp only; walk1) | (leave1; try dsimp only) | fail "no step"))
    all_goals unfold Halt
    · refine UnrEnd.intro (Fr.put (Str.ofString "twelfths") (Fr.put (Str.ofString "spread") (Fr.put (Str.ofString "strength") (Fr.put (Str.ofString "shown") (Fr.put (Str.ofString "forms") (Fr.put (Str.ofString "count") (Fr.put (Str.ofString "own") ((by assumption)) rfl) rfl) rfl) rfl) rfl) rfl) rfl) (by assumption) _ (fun p hp => .tail _ hp) (fun p hp => Nat.ne_of_lt (hlt p hp)) (ih (i + 1) _ _ _ (by omega) ?_)
      rw [tw1_b (by assumption) (by assumption)]; exact hQ
    · refine UnrEnd.intro (Fr.put (Str.ofString "twelfths") (Fr.put (Str.ofString "spread") (Fr.put (Str.ofString "strength") (Fr.put (Str.ofString "shown") (Fr.put (Str.ofString "forms") (Fr.put (Str.ofString "count") (Fr.put (Str.ofString "own") ((by assumption)) rfl) rfl) rfl) rfl) rfl) rfl) rfl) (by assumption) _ (fun p hp => hp) (fun p hp => Nat.ne_of_lt (hlt p hp)) (ih (i + 1) _ _ _ (by omega) ?_)
      rw [tw1_c (by assumption) (by assumption)]; exact hQ
    · refine UnrEnd.intro (Fr.put (Str.ofString "twelfths") (Fr.put (Str.ofString "spread") (Fr.put (Str.ofString "strength") (Fr.put (Str.ofString "shown") (Fr.put (Str.ofString "forms") (Fr.put (Str.ofString "count") (Fr.put (Str.ofString "own") ((by assumption)) rfl) rfl) rfl) rfl) rfl) rfl) rfl) (by assumption) _ (fun p hp => hp) (fun p hp => Nat.ne_of_lt (hlt p hp)) (ih (i + 1) _ _ _ (by omega) ?_)
      rw [congrArg (twN sg fr b0 b1 b2 w0 w1 w2 k (i + 1)) (tw1_a (tv := tv) (i := i) (fr := fr) (b0 := b0) (b1 := b1) (b2 := b2) (w0 := w0) (w1 := w1) (w2 := w2) (by assumption : sg = 0))]; exact hQ
end Mine
end
section
open _root_.PySem _root_.PySem.W _root_.PySem.W.X _root_.PyProof.Rows
set_option Elab.async false
set_option maxRecDepth 100000
set_option maxHeartbeats 0
namespace Mine
theorem rs31 : True := by w_top off; trivial
theorem runs_toks {M : PySem.Model} {Γ : Ctx} {p : Pos} {t : Sem PySem.Fin} {F : List PySem.Frame} {s s' : Shared} {e : End} (h : Runs M Γ p t F s e s') : s.toks ≤ s'.toks := by
  induction h
  all_goals first
    | exact Nat.le_refl _
    | assumption
    | (rename_i ih; exact Nat.le_trans (Nat.le_succ _) ih)
    | (rename_i ih1 ih2; exact Nat.le_trans ih1 ih2)
    | skip
theorem wakes_toks {M : PySem.Model} {Γ : Ctx} {p : Pos} {g : Nat} {r : Resume} {s s' : Shared} {res : GenResult} (h : Wakes M Γ p g r s res s') : s.toks ≤ s'.toks := by
  unfold Wakes at h
  split at h
  · exact h.elim
  · split at h
    · obtain ⟨e₁, s₁, hr, _, _, rfl⟩ := h
      exact (runs_toks hr : (s.setGen g .running).toks ≤ s₁.toks)
    · obtain ⟨_, rfl⟩ := h; exact Nat.le_refl _
    · obtain ⟨_, rfl⟩ := h; exact Nat.le_refl _
  · obtain ⟨e₁, s₁, hr, _, _, rfl⟩ := h
    exact (runs_toks hr : (s.setGen g .running).toks ≤ s₁.toks)
  · obtain ⟨_, rfl⟩ := h; exact Nat.le_refl _
  · obtain ⟨_, rfl⟩ := h; exact Nat.le_refl _
open Sem (wp) in
theorem wp_toks {M : PySem.Model} {Γ : Ctx} {α : Type} {n : Nat} : ∀ (t : Sem α) (Q : α → Pos → Shared → Prop) (E : Value → Pos → Shared → Prop) (p : Pos) (s : Shared), n ≤ s.toks →
    wp M Γ t (fun a p' s' => n ≤ s'.toks → Q a p' s') (fun e p' s' => n ≤ s'.toks → E e p' s') p s → wp M Γ t Q E p s := by
  intro t
  induction t with
  | pure a => intro Q E p s hn h; rw [wp] at h ⊢; exact h hn
  | raise e => intro Q E p s hn h; rw [wp] at h ⊢; exact h hn
  | unsupported w => intro Q E p s hn h; rw [wp] at h; exact h.elim
  | finish e => intro Q E p s hn h; rw [wp] at h; exact h.elim
  | rule t k ih => intro Q E p s hn h; rw [wp] at h ⊢; exact ih _ _ _ _ _ hn h
  | «at» p' k ih => intro Q E p s hn h; rw [wp] at h ⊢; exact ih _ _ _ _ _ hn h
  | load a b k ih => intro Q E p s hn h; rw [wp] at h ⊢; obtain ⟨o, h1, h2⟩ := h; exact ⟨o, h1, ih _ _ _ _ _ hn h2⟩
  | update a b f k ih => intro Q E p s hn h; rw [wp] at h ⊢; exact ⟨h.1, ih _ _ _ _ _ hn h.2⟩
  | loadIfAlive a k ih => intro Q E p s hn h; rw [wp] at h ⊢; exact ih _ _ _ _ _ hn h
  | point l k ih => intro Q E p s hn h; rw [wp] at h ⊢; exact ih _ _ _ _ _ hn h
  | register a b => intro Q E p s hn h; rw [wp] at h; exact h.elim
  | alloc o k ih => intro Q E p s hn h; rw [wp] at h ⊢; exact ih _ _ _ _ _ hn h
  | fresh k ih => intro Q E p s hn h; rw [wp] at h ⊢; exact ih _ _ _ _ _ (Nat.le_succ_of_le hn) h
  | ask k ih => intro Q E p s hn h; rw [wp] at h ⊢; exact ih _ _ _ _ _ hn h
  | choose src m k ih => intro Q E p s hn h; rw [wp] at h ⊢; exact ⟨h.1, ih _ _ _ _ _ hn h.2⟩
  | os q l k ih => intro Q E p s hn h; rw [wp] at h ⊢; exact ih _ _ _ _ _ hn h
  | call c hh g l k ih =>
    intro Q E p s hn h
    rw [wp] at h ⊢
    obtain ⟨r, s', hr, h2⟩ := h
    exact ⟨r, s', hr, ih _ _ _ _ _ (Nat.le_trans hn (runs_toks hr)) h2⟩
  | handled o k ih => intro Q E p s hn h; rw [wp] at h ⊢; exact ih _ _ _ _ _ hn h
  | genState g k ih => intro Q E p s hn h; rw [wp] at h ⊢; obtain ⟨o, h1, h2⟩ := h; exact ⟨o, h1, ih _ _ _ _ _ hn h2⟩
  | newGen c k ih => intro Q E p s hn h; rw [wp] at h ⊢; exact ih _ _ _ _ _ hn h
  | resume g r l k ih => intro Q E p s hn h; rw [wp] at h ⊢; obtain ⟨res, s', hw, h2⟩ := h; exact ⟨res, s', hw, ih _ _ _ _ _ (Nat.le_trans hn (wakes_toks hw)) h2⟩
  | yield => intro Q E p s hn h; rw [wp] at h; exact h.elim
  | stack k ih => intro Q E p s hn h; rw [wp] at h ⊢; exact ih _ _ _ _ _ hn h
  | fork => intro Q E p s hn h; rw [wp] at h; exact h.elim
  | thread k ih => intro Q E p s hn h; rw [wp] at h ⊢; exact ih _ _ _ _ _ hn h
  | await => intro Q E p s hn h; rw [wp] at h; exact h.elim
theorem wpAny_toks {M : PySem.Model} {A : Around} {α : Type} {t : Sem α} {Q : α → Shared → Prop} {E : Value → Shared → Prop} {s : Shared} (h : wpAny M A t (fun a s' => s.toks ≤ s'.toks → Q a s') E s) : wpAny M A t Q E s := fun Γ p hΓ =>
  wp_toks (n := s.toks) t (fun a _ s' => Q a s') (fun e _ s' => E e s') p s (Nat.le_refl _) (Sem.wp_mono (post := fun a _ s' => s.toks ≤ s'.toks → Q a s') (exc := fun e _ s' => E e s') (exc' := fun e _ s' => s.toks ≤ s'.toks → E e s') M Γ t (fun _ _ _ x => x) (fun _ _ _ x _ => x) p s (h Γ p hΓ))
theorem wpC_toks {M : PySem.Model} {A : Around} {α : Type} {t : Sem α} {Q : α → Shared → Prop} {E : Value → Shared → Prop} {s : Shared} (h : wpC M A t (fun a s' => s.toks ≤ s'.toks → Q a s') E s) : wpC M A t Q E s := fun Γ p hΓ hC =>
  wp_toks (n := s.toks) t (fun a _ s' => Q a s') (fun e _ s' => E e s') p s (Nat.le_refl _) (Sem.wp_mono (post := fun a _ s' => s.toks ≤ s'.toks → Q a s') (exc := fun e _ s' => E e s') (exc' := fun e _ s' => s.toks ≤ s'.toks → E e s') M Γ t (fun _ _ _ x => x) (fun _ _ _ x _ => x) p s (h Γ p hΓ hC))
end Mine
end
section
open _root_.PySem _root_.PySem.W _root_.PySem.W.X _root_.PyProof.Rows
set_option Elab.async false
set_option maxRecDepth 100000
set_option maxHeartbeats 0
namespace Mine
local macro_rules | `(tactic| walk_at "none") => `(tactic| skip)
theorem rs32 : True := by w_top off; trivial
open _root_.PySem.Float64 in
theorem frac_not_inf {s : Bool} {n d : Nat} (hn : n < 2 ^ 53) (hd : 0 < d) : isInf (ofFrac s n d) = false := by
  have h := over_of (n := n) (d := d) (W := n * 2 ^ 1074) (D := d) hd rfl hd
  have hm : roundMag n d ≤ infMag := by rw [roundMag_min]; omega
  have hlt : roundMag n d < infMag := by
    refine Nat.lt_of_le_of_ne hm fun e => ?_
    have h2 := h.mp e
    have h3 : 1 * ((2 ^ 54 - 1) * 2 ^ 2045) ≤ d * ((2 ^ 54 - 1) * 2 ^ 2045) := Nat.mul_le_mul_right _ hd
    have h4 : 2 * (n * 2 ^ 1074) ≤ 2 * (2 ^ 53 * 2 ^ 1074) := Nat.mul_le_mul_left _ (Nat.mul_le_mul_right _ (Nat.le_of_lt hn))
    have h5 : 2 * (2 ^ 53 * 2 ^ 1074) < 1 * ((2 ^ 54 - 1) * 2 ^ 2045) := by decide +kernel
    exact absurd (Nat.le_trans h3 (Nat.le_trans h2 h4)) (Nat.not_le.mpr h5)
  unfold ofFrac
  exact isInf_pack hlt
theorem den_div' {prog : Program} {w : World} {A : Around} {E : Value → Shared → Prop} {s : Shared} {u v : Value} {a b : Int} {Q : Value → Shared → Prop} (hh : A.handled = none) (hu : Den u a) (hv : Den v b) (ha : Small a) (hb : Small b) (hb0 : b ≠ 0) (h : ∀ r t tk, Frac r a b → Q (.float r t) { s with toks := tk }) :
    wpAny (model prog w) A (binaryOp .Div u v) Q E s := den_div hh hu hv ha hb hb0 (frac_not_inf ha (by omega)) h
theorem den_divT {prog : Program} {w : World} {A : Around} {E : Value → Shared → Prop} {s : Shared} {u v : Value} {a b : Int} {Q : Value → Shared → Prop} (hh : A.handled = none) (hu : Den u a) (hv : Den v b) (ha : Small a) (hb : Small b) (hb0 : b ≠ 0)
    (h : ∀ r t tk, Frac r a b → (0 < s.toks → @Ne Nat t 0) → s.toks ≤ tk → Q (.float r t) { s with toks := tk }) :
    wpAny (model prog w) A (binaryOp .Div u v) Q E s := by
  have hi : Float64.isInf (Float64.ofFrac (decide (a < 0) != decide (b < 0)) a.natAbs b.natAbs) = false := frac_not_inf ha (by omega)
  have nz : ∀ {x : UInt64} {n : Int}, FI x n → n ≠ 0 → ¬ (Float64.isZero x = true) := fun hx h0 => by rw [isZero_fi hx, decide_eq_false h0]; exact Bool.false_ne_true
  have tp : 0 < s.toks → @Ne Nat s.toks 0 := fun q => Nat.ne_of_gt q
  have tl : s.toks ≤ s.toks + 1 := Nat.le_succ _
  rcases hu with ⟨t, rfl⟩ | ⟨x, t, rfl, hx⟩ <;> rcases hv with ⟨t', rfl⟩ | ⟨y, t', rfl, hy⟩
  · refine AutoIntOps.truediv_2 ?_ ?_ ?_
    · simpa using hb0
    · rw [hi]; exact Bool.false_ne_true
    · exact h _ _ _ ⟨_, fun _ => rfl, rfl⟩ tp tl
  · refine AutoFloatOpsIf.truediv_if ?_
    rw [if_neg (by rw [not_inf_small ha]; exact Bool.false_ne_true), if_neg (nz hy hb0)]
    obtain ⟨sg, h1, h2⟩ := div_fi (fi_ofInt ha) hy hb0
    exact h _ _ _ ⟨sg, h1, h2⟩ tp tl
  · refine AutoFloatOpsIf.truediv_fi ?_
    rw [if_neg (by rw [not_inf_small hb]; exact Bool.false_ne_true), if_neg (nz (fi_ofInt hb) hb0)]
    obtain ⟨sg, h1, h2⟩ := div_fi hx (fi_ofInt hb) hb0
    exact h _ _ _ ⟨sg, h1, h2⟩ tp tl
  · refine truediv_float_or hh (fun q => absurd q (nz hy hb0)) fun _ => ?_
    obtain ⟨sg, h1, h2⟩ := div_fi hx hy hb0
    exact h _ _ _ ⟨sg, h1, h2⟩ tp tl
abbrev mx (p q r : Int) : Int := max p (max q r)
abbrev mn (p q r : Int) : Int := min p (min q r)
def hueOf (h : UInt64) : UInt64 := (Float64.divmod (Float64.div h 4618441417868443648) 4607182418800017408).snd
def Hsv (p q r : Int) (hv sv : UInt64) : Prop :=
  (mn p q r = mx p q r ∧ hv = 0 ∧ sv = 0) ∨
  (¬ mn p q r = mx p q r ∧ Frac sv (mx p q r - mn p q r) (mx p q r) ∧ ∃ rc gc bc, Frac rc (mx p q r - p) (mx p q r - mn p q r) ∧ Frac gc (mx p q r - q) (mx p q r - mn p q r) ∧ Frac bc (mx p q r - r) (mx p q r - mn p q r) ∧
    ((p = mx p q r ∧ hv = hueOf (Float64.sub bc gc)) ∨ (¬ p = mx p q r ∧ q = mx p q r ∧ hv = hueOf (Float64.sub (Float64.add 4611686018427387904 rc) bc)) ∨ (¬ p = mx p q r ∧ ¬ q = mx p q r ∧ hv = hueOf (Float64.sub (Float64.add 4616189618054758400 gc) rc))))
section
variable {p q r : Int} {sv rc gc bc : UInt64}
theorem rgb0 (h : mn p q r = mx p q r) : Hsv p q r 0 0 := .inl ⟨h, rfl, rfl⟩
theorem rgb1 (h : ¬ mn p q r = mx p q r) (ds : Frac sv (mx p q r - mn p q r) (mx p q r)) (d1 : Frac rc (mx p q r - p) (mx p q r - mn p q r)) (d2 : Frac gc (mx p q r - q) (mx p q r - mn p q r)) (d3 : Frac bc (mx p q r - r) (mx p q r - mn p q r)) (e : p = mx p q r) : Hsv p q r (hueOf (Float64.sub bc gc)) sv :=
  .inr ⟨h, ds, rc, gc, bc, d1, d2, d3, .inl ⟨e, rfl⟩⟩
theorem rgb2 (h : ¬ mn p q r = mx p q r) (ds : Frac sv (mx p q r - mn p q r) (mx p q r)) (d1 : Frac rc (mx p q r - p) (mx p q r - mn p q r)) (d2 : Frac gc (mx p q r - q) (mx p q r - mn p q r)) (d3 : Frac bc (mx p q r - r) (mx p q r - mn p q r)) (n : ¬ p = mx p q r) (e : q = mx p q r) : Hsv p q r (hueOf (Float64.sub (Float64.add 4611686018427387904 rc) bc)) sv :=
  .inr ⟨h, ds, rc, gc, bc, d1, d2, d3, .inr (.inl ⟨n, e, rfl⟩)⟩
theorem rgb3 (h : ¬ mn p q r = mx p q r) (ds : Frac sv (mx p q r - mn p q r) (mx p q r)) (d1 : Frac rc (mx p q r - p) (mx p q r - mn p q r)) (d2 : Frac gc (mx p q r - q) (mx p q r - mn p q r)) (d3 : Frac bc (mx p q r - r) (mx p q r - mn p q r)) (n : ¬ p = mx p q r) (n2 : ¬ q = mx p q r) : Hsv p q r (hueOf (Float64.sub (Float64.add 4616189618054758400 gc) rc)) sv :=
  .inr ⟨h, ds, rc, gc, bc, d1, d2, d3, .inr (.inr ⟨n, n2, rfl⟩)⟩
end
local macro_rules | `(tactic| walk_at "compareOp Eq") => `(tactic| (k_here; (with_reducible refine' den_eq (by k_dflt (assumption)) (by k_dflt (assumption)) ?_)))
local macro_rules | `(tactic| walk_at "execs cons") => `(tactic| ((with_reducible refine wpAny_execs_cons ?_); try dsimp only))
local macro_rules | `(tactic| walk_at "execs nil") => `(tactic| ((with_reducible refine wpAny_execs_nil ?_); try dsimp only))
theorem sm_of {a : Int} (h0 : 0 ≤ a) (h1 : a < 1000000000) : a.natAbs < 2 ^ 53 := by omega
theorem rgb_facts {p q r : Int} (a0 : 0 < p) (b0 : 0 < q) (c0 : 0 < r) (a1 : p < 1000000000) (b1 : q < 1000000000) (c1 : r < 1000000000) :
    (max p (max q r)).natAbs < 2 ^ 53 ∧ (min p (min q r)).natAbs < 2 ^ 53 ∧ (max p (max q r) - min p (min q r)).natAbs < 2 ^ 53 ∧ (max p (max q r) - p).natAbs < 2 ^ 53 ∧ (max p (max q r) - q).natAbs < 2 ^ 53 ∧ (max p (max q r) - r).natAbs < 2 ^ 53 := by
  have hp : p ≤ max p (max q r) := Int.le_max_left _ _
  have hq : q ≤ max p (max q r) := Int.le_trans (Int.le_max_left _ _) (Int.le_max_right _ _)
  have hr : r ≤ max p (max q r) := Int.le_trans (Int.le_max_right _ _) (Int.le_max_right _ _)
  have hM : max p (max q r) < 1000000000 := Int.max_lt.mpr ⟨a1, Int.max_lt.mpr ⟨b1, c1⟩⟩
  have hm : 0 < min p (min q r) := Int.lt_min.mpr ⟨a0, Int.lt_min.mpr ⟨b0, c0⟩⟩
  have hk : min p (min q r) ≤ p := Int.min_le_left _ _
  generalize max p (max q r) = M at *
  generalize min p (min q r) = k at *
  have up : ∀ {x : Int}, 0 < x → x ≤ M → (M - x).natAbs < 2 ^ 53 := fun h h' => sm_of (by omega) (by omega)
  exact ⟨sm_of (by omega) hM, sm_of (by omega) (by omega), up hm (by omega), up a0 hp, up b0 hq, up c0 hr⟩
theorem c_rgb {w : World} {loose : List Str} {mean : ExcName → Option Value} {mg mb : Str → Option Value} {dp un : Nat} {gd : Option (List Code)} {cn : Str} {cs : Scope} {a : Addr} {ccd : Value} {cl : List (Str × Addr)} {outer : List Env} {A₀ : Around} {base h₀ : Heap} {L : Addr} {m : Str → Option Value} {news : List (Addr × Obj)} {s : Shared} {Q E : Value → Shared → Prop}
   (cx : Cx 1 w loose mean mg mb dp un cs outer A₀ base h₀ L m s.heap news) {x y z : Value} {p q r : Int} (hx : Den x p) (hy : Den y q) (hz : Den z r) (a0 : 0 < p) (b0 : 0 < q) (c0 : 0 < r) (a1 : p < 1000000000) (b1 : q < 1000000000) (c1 : r < 1000000000)
   (hpos : 0 < s.toks) (hret : ∀ (D : Addr) (hv sv : UInt64) (v : Value) (t1 t2 : Tok) (h' : Heap) (tk' : Nat), Hsv p q r hv sv → Den v (mx p q r) → Fr h₀ L h' m → News h₀ L h' ((D, { cls := .type "tuple", data := .seq #[.float hv t1, .float sv t2, v] }) :: news) → (∀ p : Addr × Obj, p ∈ news → p.1 < D) → @Ne Nat t1 0 → @Ne Nat t2 0 → Q (.ref D) { s with heap := h', toks := tk' }) :
  wpAny (model PP w) (ktrTop dp un gd cn cs L a ccd cl outer) (call (.ref 71) [x, y, z]) Q E s := by
  obtain ⟨g1, g2, g3, g4, g5, g6⟩ := rgb_facts a0 b0 c0 a1 b1 c1
  have g7 := sm_of (Int.le_of_lt a0) a1
  have g8 := sm_of (Int.le_of_lt b0) b1
  have g9 := sm_of (Int.le_of_lt c0) c1
  obtain ⟨cB, cF, cX, cN, cT, ck, cd, cu⟩ := cx
  refine wpAny_call ?_
  k_dflt cell_enter
  with_reducible refine letA ?_
  intro A0
  (repeat' (first | (k_unfold; (try dsimp only)) | (k_end; wrow_close) | ((with_reducible show wpAny _ _ (binaryOp .Div _ _) _ _ _); (k_here; (with_reducible refine' den_divT (by k_dflt (exact rfl)) (by k_dflt (assumption)) (by k_dflt (assumption)) (by k_dflt (first | assumption | omega)) (by k_dflt (first | assumption | omega)) (by k_dflt (first | assumption | omega)) ?_); intro _ _ _ _ n9 q9; (try dsimp only at n9 q9))) | ((with_reducible show wpAny _ _ (binaryOp .Add _ _) _ _ _); (k_here; (refine wpAny_toks ?_); (with_reducible refine' den_add (by k_dflt (exact rfl)) (by k_dflt (assumption)) (by k_dflt (assumption)) (by k_dflt (first | assumption | omega)) (by k_dflt (first | assumption | omega)) (by k_dflt (first | assumption | omega)) ?_); intro _ _ _ q9; (try dsimp only at q9))) | ((with_reducible show wpAny _ _ (binaryOp .Sub _ _) _ _ _); (k_here; (refine wpAny_toks ?_); (with_reducible refine' den_sub (by k_dflt (exact rfl)) (by k_dflt (assumption)) (by k_dflt (assumption)) (by k_dflt (first | assumption | omega)) (by k_dflt (first | assumption | omega)) (by k_dflt (first | assumption | omega)) ?_); intro _ _ _ q9; (try dsimp only at q9))) | ((with_reducible show wpAny _ _ (call (Value.builtin "min") _ _) _ _ _); (k_here; (refine wpAny_toks ?_); (with_reducible refine' den_min3 (by k_dflt (exact rfl)) (by k_dflt (assumption)) (by k_dflt (assumption)) (by k_dflt (assumption)) (by k_dflt (k_asm)) (by k_dflt (k_asm)) ?_); intro _ _ _ _ _ _ q9; (try dsimp only at q9))) | ((with_reducible show wpAny _ _ (call (Value.builtin "max") _ _) _ _ _); (k_here; (refine wpAny_toks ?_); (with_reducible refine' den_max3 (by k_dflt (exact rfl)) (by k_dflt (assumption)) (by k_dflt (assumption)) (by k_dflt (assumption)) (by k_dflt (k_asm)) (by k_dflt (k_asm)) ?_); intro _ _ _ _ _ _ q9; (try dsimp only at q9))) | walk1 | (dsimp only; walk1) | (leave1; try dsimp only) | fail "no step"))
  all_goals (first | exact hret _ _ _ _ _ _ _ _ (rgb0 (by assumption)) (by assumption) (by assumption) (by assumption) (by assumption) (by omega) (by omega) | exact hret _ _ _ _ _ _ _ _ (rgb1 (by assumption) (by assumption) (by assumption) (by assumption) (by assumption) (by assumption)) (by assumption) (by assumption) (by assumption) (by assumption) (by omega) (by omega) | exact hret _ _ _ _ _ _ _ _ (rgb2 (by assumption) (by assumption) (by assumption) (by assumption) (by assumption) (by assumption) (by assumption)) (by assumption) (by assumption) (by assumption) (by assumption) (by omega) (by omega) | exact hret _ _ _ _ _ _ _ _ (rgb3 (by assumption) (by assumption) (by assumption) (by assumption) (by assumption) (by assumption) (by assumption)) (by assumption) (by assumption) (by assumption) (by assumption) (by omega) (by omega) | trace_state)
end Mine
end
section
open _root_.PySem _root_.PySem.W _root_.PySem.W.X _root_.PyProof.Rows _root_.PySem.Spec _root_.PySem.Calls _root_.PyProof.Rows.LCg
set_option Elab.async false
set_option maxRecDepth 100000
set_option maxHeartbeats 0
namespace Mine
theorem rs33 : True := by w_top off; trivial
section
variable {prog : Program} {w : World} {A : Around} {s : Shared} {h₀ : Heap} {L : Addr} {m : Str → Option Value} {env : Env}
/-- the values of the turns so far: ints told by V, of some tokens -/
def IsInts (V : Nat → Int) (n : Nat) (ys : List Value) : Prop := ∃ T : Nat → Tok, ys = (List.range n).map fun j => .int (V j) (T j)
theorem isInts_zero {V : Nat → Int} : IsInts V 0 [] := ⟨fun _ => 0, rfl⟩
theorem isInts_succ {V : Nat → Int} {n : Nat} {ys : List Value} {t : Tok} (h : IsInts V n ys) : IsInts V (n + 1) (ys ++ [.int (V n) t]) := by
  obtain ⟨T, rfl⟩ := h
  refine ⟨fun j => if j = n then t else T j, ?_⟩
  rw [List.range_succ, List.map_append, List.map_cons, List.map_nil]
  show _ = _ ++ [Value.int (V n) (if n = n then t else T n)]
  rw [if_pos rfl]
  refine congrArg (· ++ _) (List.map_congr_left fun j hj => ?_)
  show _ = Value.int (V j) (if j = n then t else T j)
  rw [if_neg (Nat.ne_of_lt (List.mem_range.mp hj))]
theorem isInts2 {V : Nat → Int} {ys : List Value} (h : IsInts V 2 ys) : ∃ t0 t1, ys = [.int (V 0) t0, .int (V 1) t1] := by
  obtain ⟨T, rfl⟩ := h
  exact ⟨T 0, T 1, rfl⟩
theorem isInts3 {V : Nat → Int} {ys : List Value} (h : IsInts V 3 ys) : ∃ t0 t1 t2, ys = [.int (V 0) t0, .int (V 1) t1, .int (V 2) t2] := by
  obtain ⟨T, rfl⟩ := h
  exact ⟨T 0, T 1, T 2, rfl⟩
/-- turns of a comprehension whose own name is a cell: one turn of a symbolic number in the place of all -/
theorem CellRest.turns {elt : PySem.Expr} {x : Str} {scope : Scope} {cl : List (Str × Addr)} {a : Int} {Fin : List Value → List (Addr × Obj) → Prop} {news : List (Addr × Obj)} (n : Nat) (V : Nat → Int)
    (turn : ∀ i, i < n → ∀ (ys : List Value) (t : Tok) (I : Addr) (oI : Obj) (C : Addr) (oC : Obj) (D X : Addr) (oX : Obj) (h : Heap) (tk : Nat) (E' : Value → Shared → Prop), oX.data = .cell (some (.int (a + (i : Int)) t)) → Fr h₀ L h m → News h₀ L h ((I, oI) :: (C, oC) :: (D, lst ys) :: (X, oX) :: news) → Off3 I C D news → Off1 X news →
      ((@Ne Nat I C) ∧ (@Ne Nat I D) ∧ (@Ne Nat C D) ∧ (@Ne Nat I X) ∧ (@Ne Nat C X) ∧ (@Ne Nat D X)) →
      wpAny (model prog w) A (eval elt (compEnvC scope ((x, X) :: cl) C env)) (CellEnd h₀ L m { s with heap := h, toks := tk } I oI C oC D (lst ys) X oX (fun y news' => news' = news ∧ ∃ t', y = .int (V i) t')) E' { s with heap := h, toks := tk })
    (fin : ∀ ys, IsInts V n ys → Fin ys news) : CellRest prog w A h₀ L m env elt x scope cl s Fin a n 0 [] news := by
  have all : ∀ k i ys, i + k = n → IsInts V i ys → CellRest prog w A h₀ L m env elt x scope cl s Fin a k i ys news := by
    intro k
    induction k with
    | zero => intro i ys hi hy; exact fin ys (by rw [← hi]; exact hy)
    | succ k ih =>
      intro i ys hi hy t I oI C oC D X oX h tk E' hX F N o1 o2 ne
      refine wpAny_mono (turn i (by omega) ys t I oI C oC D X oX h tk E' hX F N o1 o2 ne) (fun y s' hc => ?_) (fun _ _ e => e)
      obtain ⟨h', tk', news', hs, F', N', a1, a2, rfl, t', rfl⟩ := hc
      exact ⟨h', tk', _, hs, F', N', a1, a2, ih (i + 1) _ (by omega) (isInts_succ hy)⟩
  exact all n 0 [] (Nat.zero_add n) isInts_zero
/-- the values of the turns so far: each of them told by R -/
def AreVals (R : Nat → Value → Prop) (n : Nat) (ys : List Value) : Prop := ys.length = n ∧ ∀ j v, ys[j]? = some v → R j v
theorem areVals_succ {R : Nat → Value → Prop} {n : Nat} {ys : List Value} {y : Value} (h : AreVals R n ys) (hr : R n y) : AreVals R (n + 1) (ys ++ [y]) := by
  obtain ⟨rfl, h⟩ := h
  refine ⟨by rw [List.length_append]; rfl, fun j v hv => ?_⟩
  by_cases hj : j < ys.length
  · rw [List.getElem?_append_left hj] at hv; exact h j v hv
  · have hl : j < (ys ++ [y]).length := (List.getElem?_eq_some_iff.mp hv).1
    rw [List.length_append] at hl
    have : j = ys.length := Nat.le_antisymm (Nat.le_of_lt_succ hl) (Nat.le_of_not_lt hj)
    subst this
    rw [List.getElem?_append_right (Nat.le_refl _), Nat.sub_self] at hv
    cases hv
    exact hr
theorem areVals3 {R : Nat → Value → Prop} {ys : List Value} (h : AreVals R 3 ys) : ∃ v0 v1 v2, ys = [v0, v1, v2] ∧ R 0 v0 ∧ R (0 + 1) v1 ∧ R (0 + 1 + 1) v2 := by
  obtain ⟨hl, h⟩ := h
  match ys, hl, h with
  | [a, b, c], _, h => exact ⟨a, b, c, rfl, h 0 a rfl, h 1 b rfl, h 2 c rfl⟩
theorem CompRest.turns {elt : PySem.Expr} {x : Str} {scope : Scope} {cl : List (Str × Addr)} {S : List (Addr × Obj) → Prop} {P : Nat → Value → Prop} {Fin : List Value → List (Addr × Obj) → Prop} {news : List (Addr × Obj)} (n : Nat) (R : Nat → Value → Prop)
    (turn : ∀ i, i < n → ∀ (ys : List Value) (v : Value) (I : Addr) (oI : Obj) (C : Addr) (oC : Obj) (D : Addr) (m₂ : Str → Option Value) (h : Heap) (tk : Nat) (E' : Value → Shared → Prop), P i v → NsObj oC m₂ → m₂ x = some v → Fr h₀ L h m → News h₀ L h ((I, oI) :: (C, oC) :: (D, lst ys) :: news) → Off3 I C D news →
      ((@Ne Nat I C) ∧ (@Ne Nat I D) ∧ (@Ne Nat C D)) →
      wpAny (model prog w) A (eval elt (compEnvC scope cl C env)) (CompEnd h₀ L m { s with heap := h, toks := tk } I oI C oC D (lst ys) S (fun y news' => news' = news ∧ R i y)) E' { s with heap := h, toks := tk })
    (fin : ∀ ys, AreVals R n ys → Fin ys news) : CompRest prog w A h₀ L m env elt x scope cl s S P Fin n 0 [] news := by
  have all : ∀ k i ys, i + k = n → AreVals R i ys → CompRest prog w A h₀ L m env elt x scope cl s S P Fin k i ys news := by
    intro k
    induction k with
    | zero => intro i ys hi hy; exact fin ys (by rw [← hi]; exact hy)
    | succ k ih =>
      intro i ys hi hy v I oI C oC D m₂ h tk E' hP hC hx F N o1 ne
      refine wpAny_mono (turn i (by omega) ys v I oI C oC D m₂ h tk E' hP hC hx F N o1 ne) (fun y s' hc => ?_) (fun _ _ e => e)
      obtain ⟨h', tk', news', hs, F', N', a1, a2, rfl, hr⟩ := hc
      exact ⟨h', tk', _, hs, F', N', a1, a2, ih (i + 1) _ (by omega) (areVals_succ hy hr)⟩
  exact all n 0 [] (Nat.zero_add n) ⟨rfl, fun j v hv => nomatch hv⟩
end
end Mine
end
section
open _root_.PySem _root_.PySem.W _root_.PySem.W.X _root_.PyProof.Rows
set_option Elab.async false
set_option maxRecDepth 100000
set_option maxHeartbeats 0
namespace Mine
local macro_rules | `(tactic| walk_at "none") => `(tactic| skip)
theorem rs34 : True := by w_top off; trivial
def NeN (a b : Nat) : Prop := a ≠ b
theorem nl_ne {a : Nat} (k : Nat) : NeN a (a + (k + 1)) := Nat.ne_of_lt (Nat.lt_add_of_pos_right (Nat.succ_pos k))
theorem nl_en {a : Nat} (k : Nat) : NeN (a + (k + 1)) a := Nat.ne_of_gt (Nat.lt_add_of_pos_right (Nat.succ_pos k))
theorem NeN.ne {a b : Nat} (h : NeN a b) : @Ne Nat a b := h
theorem off1_ne {D a : Addr} {o : Obj} {l : List (Addr × Obj)} (h : LCg.Off1 D l) (hm : (a, o) ∈ l) : @Ne Nat D a := Ne.symm (off1_mem h _ hm)
theorem lt_ne {D a : Addr} {o : Obj} {l : List (Addr × Obj)} (h : ∀ p : Addr × Obj, p ∈ l → p.1 < D) (hm : (a, o) ∈ l) : @Ne Nat D a := Nat.ne_of_gt (h _ hm)
theorem den_g {v : Value} {e1 e2 a l : Int} {j : Nat} (g : e1 = e2) (h : Den v (a + l * U (e1.fmod 6) j)) : Den v (a + l * U (e2.fmod 6) j) := g ▸ h
theorem sub10 {a1 a2 a3 a4 a5 a6 a7 a8 b1 b2 : Addr × Obj} {ns all : List (Addr × Obj)} (h1 : a1 ∈ all) (h2 : a2 ∈ all) (h3 : a3 ∈ all) (h4 : a4 ∈ all) (h5 : a5 ∈ all) (h6 : a6 ∈ all) (h7 : a7 ∈ all) (h8 : a8 ∈ all) (k1 : b1 ∈ all) (k2 : b2 ∈ all) (hn : ∀ p ∈ ns, p ∈ all) :
    ∀ p ∈ a1 :: a2 :: a3 :: a4 :: a5 :: a6 :: a7 :: a8 :: b1 :: b2 :: ns, p ∈ all := by
  intro p hp
  simp only [List.mem_cons] at hp
  rcases hp with rfl | rfl | rfl | rfl | rfl | rfl | rfl | rfl | rfl | rfl | h
  all_goals first | assumption | exact hn _ h
theorem U01 (e : Int) (j : Nat) : U e j = 0 ∨ U e j = 1 := by
  unfold U
  split <;> first | exact .inl rfl | exact .inr rfl
theorem abs_u {v : Int} {e : Int} {j : Nat} (h : v.natAbs ≤ 125000) : (v * U e j).natAbs ≤ 125000 := by
  rcases U01 e j with q | q <;> rw [q]
  · rw [Int.mul_zero]; exact Nat.zero_le _
  · rw [Int.mul_one]; exact h
theorem small_u {v : Int} {e : Int} {j : Nat} (h : v.natAbs ≤ 125000) : Small (v * U e j) := Nat.lt_of_le_of_lt (abs_u h) (by decide)
theorem small_pu {p v : Int} {e : Int} {j : Nat} (hp : p.natAbs ≤ 1500000) (h : v.natAbs ≤ 125000) : Small (p + v * U e j) := by
  exact Nat.lt_of_le_of_lt (Nat.le_trans (Int.natAbs_add_le _ _) (Nat.add_le_add hp (abs_u h))) (by decide)
theorem small_p {p : Int} (hp : p.natAbs ≤ 1500000) : Small p := Nat.lt_of_le_of_lt hp (by decide)
theorem item_listD {prog : Program} {w : World} {A : Around} {E : Value → Shared → Prop} {s : Shared} {value slice : PySem.Expr} {l : Addr} {vs : List Value} {k : Int} {u : Tok} {v : Value} {Q : Value → Shared → Prop} {n : Int} (hl : s.heap.IsList l vs.toArray) (h0 : 0 ≤ k) (hhi : k < 2 ^ 63) (hx : vs[k.toNat]? = some v) (_hd : Den v n) (h : Q v s)
    (hs : subscripted slice false (.ref l) (.int k u) = operate [.ref l, .int k u] (getItem (.ref l) (.int k u)) := by with_unfolding_all rfl) :
    wpAny (model prog w) A (subscriptTail value slice (.ref l) (.int k u)) Q E s := item_litK hl h0 hhi hx h hs
theorem item_tupD {prog : Program} {w : World} {A : Around} {E : Value → Shared → Prop} {s : Shared} {value slice : PySem.Expr} {t : Addr} {l : List Value} {k : Int} {u : Tok} {j : Nat} {x : Value} {Q : Value → Shared → Prop} {n : Int} (ht : IsTup s.heap t l.toArray)
    (hlo : -(2 ^ 63) ≤ k) (hhi : k < 2 ^ 63) (hj : seqIndex? k l.length = some j) (hx : l[j]? = some x) (_hd : Den x n) (h : Q x s)
    (hs : subscripted slice false (.ref t) (.int k u) = operate [.ref t, .int k u] (getItem (.ref t) (.int k u)) := by with_unfolding_all rfl) :
    wpAny (model prog w) A (subscriptTail value slice (.ref t) (.int k u)) Q E s := item_tupleT ht hlo hhi hj hx h hs
/-- one turn of the sum of two rows of three lights in the place of three -/
theorem CompRest.turnsD {prog : Program} {w : World} {A : Around} {s : Shared} {h₀ : Heap} {L : Addr} {m : Str → Option Value} {env : Env} {elt : PySem.Expr} {xn : Str} {scope : Scope} {cl : List (Str × Addr)} {S : List (Addr × Obj) → Prop} {P : Nat → Value → Prop} {Fin : List Value → List (Addr × Obj) → Prop} {news : List (Addr × Obj)} {x y z x' y' z' : Value} {p q r l e : Int}
    (dx : Den x p) (dy : Den y q) (dz : Den z r) (p8 : p.natAbs ≤ 1500000) (q8 : q.natAbs ≤ 1500000) (r8 : r.natAbs ≤ 1500000) (d0 : Den x' (l * U e 0)) (d1 : Den y' (l * U e 1)) (d2 : Den z' (l * U e 2))
    (turn : ∀ n : Nat, n < 3 → ∀ (pv qv : Value), [x, y, z][(0 + (n : Int)).toNat]? = some pv → Den pv ([p, q, r].getD n 0) → ([p, q, r].getD n 0).natAbs ≤ 1500000 → seqIndex? (0 + (n : Int)) [x', y', z'].length = some n → [x', y', z'][n]? = some qv → Den qv (l * U e n) → 0 ≤ 0 + (n : Int) → -(2 ^ 63) ≤ 0 + (n : Int) → 0 + (n : Int) < 2 ^ 63 →
      ∀ (ys : List Value) (v : Value) (I : Addr) (oI : Obj) (C : Addr) (oC : Obj) (D : Addr) (m₂ : Str → Option Value) (h : Heap) (tk : Nat) (E' : Value → Shared → Prop), P n v → LCg.NsObj oC m₂ → m₂ xn = some v → Fr h₀ L h m → News h₀ L h ((I, oI) :: (C, oC) :: (D, LCg.lst ys) :: news) → LCg.Off3 I C D news →
      ((@Ne Nat I C) ∧ (@Ne Nat I D) ∧ (@Ne Nat C D)) →
      wpAny (model prog w) A (eval elt (compEnvC scope cl C env)) (LCg.CompEnd h₀ L m { s with heap := h, toks := tk } I oI C oC D (LCg.lst ys) S (fun y news' => news' = news ∧ Den y ([p, q, r].getD n 0 + l * U e n))) E' { s with heap := h, toks := tk })
    (fin : ∀ v0 v1 v2, Den v0 (p + l * U e 0) → Den v1 (q + l * U e 1) → Den v2 (r + l * U e 2) → Fin [v0, v1, v2] news) : LCg.CompRest prog w A h₀ L m env elt xn scope cl s S P Fin 3 0 [] news := by
  refine CompRest.turns 3 (fun n v => Den v ([p, q, r].getD n 0 + l * U e n)) (fun n hn => ?_) fun ys hys => ?_
  · match n, hn with
    | 0, _ => exact turn 0 (by decide) x x' rfl dx p8 rfl rfl d0 (by decide) (by decide) (by decide)
    | 1, _ => exact turn 1 (by decide) y y' rfl dy q8 rfl rfl d1 (by decide) (by decide) (by decide)
    | 2, _ => exact turn 2 (by decide) z z' rfl dz r8 rfl rfl d2 (by decide) (by decide) (by decide)
  · obtain ⟨v0, v1, v2, rfl, e0, e1, e2⟩ := areVals3 hys
    exact fin v0 v1 v2 e0 e1 e2
theorem fdiv6 {prog : Program} {w : World} {A : Around} {E : Value → Shared → Prop} {s : Shared} {Q : Value → Shared → Prop} {b0 b1 b2 k : Int} {t u : Tok} (hB : ∀ k : Int, 0 ≤ k → k ≤ 2 → 2 ≤ [b0, b1, b2].getD k.toNat 0 ∧ [b0, b1, b2].getD k.toNat 0 ≤ 3) (k0 : 0 ≤ k) (k1 : k ≤ 2)
    (h : Q (.int (Int.fdiv 6 ([b0, b1, b2].getD k.toNat 0)) s.toks) { s with toks := s.toks + 1 }) : wpAny (model prog w) A (binaryOp .FloorDiv (.int 6 t) (.int ([b0, b1, b2].getD k.toNat 0) u)) Q E s := by
  obtain ⟨h0, h1⟩ := hB k k0 k1
  generalize [b0, b1, b2].getD k.toNat 0 = b at h0 h1 h
  have : b = 2 ∨ b = 3 := by omega
  rcases this with rfl | rfl
  · exact AutoIntOps.floordiv_1 (by decide) (by decide) h
  · exact AutoIntOps.floordiv_1 (by decide) (by decide) h
theorem mulk6 {b0 b1 b2 k x : Int} (hB : ∀ k : Int, 0 ≤ k → k ≤ 2 → 2 ≤ [b0, b1, b2].getD k.toNat 0 ∧ [b0, b1, b2].getD k.toNat 0 ≤ 3) (k0 : 0 ≤ k) (k1 : k ≤ 2) : IntMulOk (Int.fdiv 6 ([b0, b1, b2].getD k.toNat 0)) x := by
  obtain ⟨h0, h1⟩ := hB k k0 k1
  generalize [b0, b1, b2].getD k.toNat 0 = b at h0 h1
  have : b = 2 ∨ b = 3 := by omega
  rcases this with rfl | rfl
  · exact PySem.IntMulOk.of_left (PySem.intBits_le_64 (by decide) (by decide))
  · exact PySem.IntMulOk.of_left (PySem.intBits_le_64 (by decide) (by decide))
theorem form_up {fs : List Form} {ns all : List (Addr × Obj)} (h : ∀ x ∈ fs, x.In ns) (sub : ∀ p ∈ ns, p ∈ all) : ∀ x ∈ fs, x.In all := fun x hx => by obtain ⟨t, u, q⟩ := h x hx; exact ⟨t, u, sub _ q⟩
local macro_rules | `(tactic| walk_at "BRest") => `(tactic| ((with_reducible show BRest ..); with_unfolding_all first | (refine BRest.succ ?_; intro t' I' oI' C' oC' D' m' h' tk' E' hC' hx' F' N' off' ne'; clear ne'; (try dsimp only)) | refine BRest.zero ?_))
local macro_rules | `(tactic| walk_at "CompRest") => `(tactic| (with_unfolding_all first
  | (refine LCg.CompRest.succ ?_; intro v' I' oI' C' oC' D' m' h' tk' E' hv' hC' hx' F' N' off' ne'; (first | lcg_open hv' | (obtain ⟨t9', hv9'⟩ := hv'; subst hv9')); have off2' := off'; (try simp only [LCg.Off3, and_true] at off2'); (try dsimp only))
  | refine LCg.CompRest.zero ?_))
local macro_rules | `(tactic| walk_at "binaryOp Div int int") => `(tactic| (k_here; k_dflt (refine' den_div' (by exact rfl) (Den.int _ _) (Den.int _ _) (by with_reducible assumption) (by with_reducible assumption) (by with_reducible assumption) ?_); intro r9 t9 tk9 d9; have gg9 := hue_facts d9 (by with_reducible assumption) (by with_reducible assumption); (k_dflt (obtain ⟨g1, g2, g3, g4⟩ := gg9))))
local macro_rules | `(tactic| k_updF) => `(tactic| first | (refine' UpdF.head ?a; (case a => (repeat (refine all_cons (by first | exact NeN.ne (by with_reducible assumption) | exact off1_ne (by with_reducible assumption) (by (repeat (first | exact List.Mem.head _ | refine List.Mem.tail _ ?_))) | exact lt_ne (by with_reducible assumption) (by (repeat (first | exact List.Mem.head _ | refine List.Mem.tail _ ?_))) | fail) ?_)); assumption)) | (refine' UpdF.tail ?a ?b; (case a => first | exact NeN.ne (by with_reducible assumption) | exact off1_ne (by with_reducible assumption) (by (repeat (first | exact List.Mem.head _ | refine List.Mem.tail _ ?_))) | exact lt_ne (by with_reducible assumption) (by (repeat (first | exact List.Mem.head _ | refine List.Mem.tail _ ?_))) | fail); (case b => k_updF)))
local macro_rules | `(tactic| walk_at "FinE") => `(tactic| ((unfold LCg.FinE); intro D' h' tk' F' N' o1'; (try simp only [List.nil_append, List.cons_append] at N'); (try dsimp only)))
theorem s14_4t {w : World} {loose : List Str} {mean : ExcName → Option Value} {mg mb : Str → Option Value} {base : Heap} {L fa : Addr} {cd : Value} {m : Str → Option Value} {s : Shared} {Q : Flow → Shared → Prop} {E : Value → Shared → Prop}
   (cB : Below callerA base [] base) (cX : (Mine.hd.heap_39 w.params).In base) (cT : Top Mine.hd.view_39 loose mean mg mb base) (hE : PassesOwn (model PP w) (lawA L fa cd) (lawEnv L fa cd) E)
   {o1 o2 o3 o4 o5 o6 o7 : Obj} {ns : List (Addr × Obj)} (hns : ∀ p ∈ ns, (Off7 L p.1))
   {lo lf lb lp : Addr} {ct fr : Int} {wd td le : Array UInt8} {zn : Str} {dd : Bool} {tc tw tz tt ti tl tf : Tok} {i : Nat} {D : Addr} {f0 f1 f2 g0 g1 g2 b0 b1 b2 p q r : Int} {x0 x1 x2 u0 u1 u2 : Tok} {x y z : Value} {kp kf : Nat} {fs : List Form} {ks : List Int} {yf : Option Value} (hD : (Off7 L D)) (hlp : (Off7 L lp)) (hlb : (Off7 L lb)) (hB : ∀ k : Int, 0 ≤ k → k ≤ 2 → 2 ≤ [b0, b1, b2].getD k.toNat 0 ∧ [b0, b1, b2].getD k.toNat 0 ≤ 3) (hwd : KBw.bInts wd = ks) (hks : ks.length = 36) (hi : i < 12) (hc : cut ks i = [g0, g1, g2]) (hle : KBw.bInts le = [f0, f1, f2]) (hlf : (lf, formsO fs kf) ∈ ns) (hin : ∀ x ∈ fs, x.In ns) (hn3 : fs.length ≤ 3) (hbd : ∀ x ∈ fs, -4 ≤ x.b ∧ x.b ≤ 4 ∧ (x.val [g0, g1, g2] [f0, f1, f2]).natAbs ≤ 50) (w0 : 0 ≤ Int.fdiv 6 ([b0, b1, b2].getD (0 + ((0 : Nat) : Int)).toNat 0) * [f0 - 65, f1 - 65, f2 - 65].getD (0 + ((0 : Nat) : Int)).toNat 0 + (Int.fdiv 6 ([b0, b1, b2].getD (0 + ((0 + 1 : Nat) : Int)).toNat 0) * [f0 - 65, f1 - 65, f2 - 65].getD (0 + ((0 + 1 : Nat) : Int)).toNat 0 + (Int.fdiv 6 ([b0, b1, b2].getD (0 + ((0 + 1 + 1 : Nat) : Int)).toNat 0) * [f0 - 65, f1 - 65, f2 - 65].getD (0 + ((0 + 1 + 1 : Nat) : Int)).toNat 0 + 0))) (w1 : Int.fdiv 6 ([b0, b1, b2].getD (0 + ((0 : Nat) : Int)).toNat 0) * [f0 - 65, f1 - 65, f2 - 65].getD (0 + ((0 : Nat) : Int)).toNat 0 + (Int.fdiv 6 ([b0, b1, b2].getD (0 + ((0 + 1 : Nat) : Int)).toNat 0) * [f0 - 65, f1 - 65, f2 - 65].getD (0 + ((0 + 1 : Nat) : Int)).toNat 0 + (Int.fdiv 6 ([b0, b1, b2].getD (0 + ((0 + 1 + 1 : Nat) : Int)).toNat 0) * [f0 - 65, f1 - 65, f2 - 65].getD (0 + ((0 + 1 + 1 : Nat) : Int)).toNat 0 + 0)) ≤ 10) (w2 : Small (Int.fdiv 6 ([b0, b1, b2].getD (0 + ((0 : Nat) : Int)).toNat 0) * [f0 - 65, f1 - 65, f2 - 65].getD (0 + ((0 : Nat) : Int)).toNat 0 + (Int.fdiv 6 ([b0, b1, b2].getD (0 + ((0 + 1 : Nat) : Int)).toNat 0) * [f0 - 65, f1 - 65, f2 - 65].getD (0 + ((0 + 1 : Nat) : Int)).toNat 0 + (Int.fdiv 6 ([b0, b1, b2].getD (0 + ((0 + 1 + 1 : Nat) : Int)).toNat 0) * [f0 - 65, f1 - 65, f2 - 65].getD (0 + ((0 + 1 + 1 : Nat) : Int)).toNat 0 + 0)))) (w3 : Small 6) (w4 : (6 : Int) ≠ 0) (l0 : (lightOf [g0, g1, g2] [f0, f1, f2] 1 fs).natAbs ≤ 125000) (l1 : Small (lightOf [g0, g1, g2] [f0, f1, f2] 1 fs)) (p8 : p.natAbs ≤ 1500000) (q8 : q.natAbs ≤ 1500000) (r8 : r.natAbs ≤ 1500000) (dx : Den x p) (dy : Den y q) (dz : Den z r)
   (cF : Fr base L s.heap (fun y => if y = Str.ofString "held" then some (.bool true) else if y = Str.ofString "letters" then some (.bytes le tl) else if y = Str.ofString "start" then some (.int (0 + (i : Int) * 3) ti) else if y = Str.ofString "turned" then some (.bytes td tt) else if y = Str.ofString "zone" then some (.str zn tz) else if y = Str.ofString "words" then some (.bytes wd tw) else if y = Str.ofString "forms" then some (.ref lf) else if y = Str.ofString "count" then some (.int ct tc) else if y = Str.ofString "own" then some (.ref lo) else m y)) (cN : News base L s.heap ((D, LCg.lst [.int (f0 - 65) x0, .int (f1 - 65) x1, .int (f2 - 65) x2]) :: (lp, W.listOf #[x, y, z] kp) :: (lb, LCg.lst [.int b0 u0, .int b1 u1, .int b2 u2]) :: (L + 1 + 1 + 1 + 1 + 1 + 1 + 1, o7) :: (L + 1 + 1 + 1 + 1 + 1 + 1, o6) :: (L + 1 + 1 + 1 + 1 + 1, o5) :: (L + 1 + 1 + 1 + 1, o4) :: (L + 1 + 1 + 1, o3) :: (L + 1 + 1, o2) :: (L + 1, o1) :: ns))
   (d2 : o2.data = .cell (some (.ref lb))) (d3 : o3.data = .cell (some (.int fr tf))) (d5 : o5.data = .cell (some (.ref lp))) (d6 : o6.data = .cell (some (.ref D))) (d7 : o7.data = .cell (yf))
   (hret : ∀ (m' : Str → Option Value) (h' : Heap) (tk' : Nat) (q5 : Obj) (q7 : Obj) (lp' : Addr) (c7 : Option Value) (x' y' z' : Value), Den x' (p + lightOf [g0, g1, g2] [f0, f1, f2] 1 fs * U ((Int.fdiv 6 ([b0, b1, b2].getD (0 + ((0 : Nat) : Int)).toNat 0) * [f0 - 65, f1 - 65, f2 - 65].getD (0 + ((0 : Nat) : Int)).toNat 0 + (Int.fdiv 6 ([b0, b1, b2].getD (0 + ((0 + 1 : Nat) : Int)).toNat 0) * [f0 - 65, f1 - 65, f2 - 65].getD (0 + ((0 + 1 : Nat) : Int)).toNat 0 + (Int.fdiv 6 ([b0, b1, b2].getD (0 + ((0 + 1 + 1 : Nat) : Int)).toNat 0) * [f0 - 65, f1 - 65, f2 - 65].getD (0 + ((0 + 1 + 1 : Nat) : Int)).toNat 0 + 0))).fmod 6) 0) → Den y' (q + lightOf [g0, g1, g2] [f0, f1, f2] 1 fs * U ((Int.fdiv 6 ([b0, b1, b2].getD (0 + ((0 : Nat) : Int)).toNat 0) * [f0 - 65, f1 - 65, f2 - 65].getD (0 + ((0 : Nat) : Int)).toNat 0 + (Int.fdiv 6 ([b0, b1, b2].getD (0 + ((0 + 1 : Nat) : Int)).toNat 0) * [f0 - 65, f1 - 65, f2 - 65].getD (0 + ((0 + 1 : Nat) : Int)).toNat 0 + (Int.fdiv 6 ([b0, b1, b2].getD (0 + ((0 + 1 + 1 : Nat) : Int)).toNat 0) * [f0 - 65, f1 - 65, f2 - 65].getD (0 + ((0 + 1 + 1 : Nat) : Int)).toNat 0 + 0))).fmod 6) 1) → Den z' (r + lightOf [g0, g1, g2] [f0, f1, f2] 1 fs * U ((Int.fdiv 6 ([b0, b1, b2].getD (0 + ((0 : Nat) : Int)).toNat 0) * [f0 - 65, f1 - 65, f2 - 65].getD (0 + ((0 : Nat) : Int)).toNat 0 + (Int.fdiv 6 ([b0, b1, b2].getD (0 + ((0 + 1 : Nat) : Int)).toNat 0) * [f0 - 65, f1 - 65, f2 - 65].getD (0 + ((0 + 1 : Nat) : Int)).toNat 0 + (Int.fdiv 6 ([b0, b1, b2].getD (0 + ((0 + 1 + 1 : Nat) : Int)).toNat 0) * [f0 - 65, f1 - 65, f2 - 65].getD (0 + ((0 + 1 + 1 : Nat) : Int)).toNat 0 + 0))).fmod 6) 2) → (Off7 L lp') → @Ne Nat lp' D → LCg.Off1 lp' ns → q5.data = .cell (some (.ref lp')) → q7.data = .cell (c7) → Fr base L h' (fun y => if y = Str.ofString "start" then some (.int (0 + (i : Int) * 3) ti) else if y = Str.ofString "turned" then some (.bytes td tt) else if y = Str.ofString "zone" then some (.str zn tz) else if y = Str.ofString "words" then some (.bytes wd tw) else if y = Str.ofString "forms" then some (.ref lf) else if y = Str.ofString "count" then some (.int ct tc) else if y = Str.ofString "own" then some (.ref lo) else m' y) → News base L h' ((lp', W.listOf #[x', y', z'] 3) :: (D, LCg.lst [.int (f0 - 65) x0, .int (f1 - 65) x1, .int (f2 - 65) x2]) :: (lb, LCg.lst [.int b0 u0, .int b1 u1, .int b2 u2]) :: (L + 1 + 1 + 1 + 1 + 1 + 1 + 1, q7) :: (L + 1 + 1 + 1 + 1 + 1 + 1, o6) :: (L + 1 + 1 + 1 + 1 + 1, q5) :: (L + 1 + 1 + 1 + 1, o4) :: (L + 1 + 1 + 1, o3) :: (L + 1 + 1, o2) :: (L + 1, o1) :: ns) → Q .next { s with heap := h', toks := tk' }) :
   wpAny (model PP w) (lawA L fa cd) (exec (forB (st 14) 4) (lawEnv L fa cd)) Q E s := by
  conv in (forB (st 14) 4) => whnf
  unfold lawA lawEnv
  conv in (occs := *) lawScope => all_goals whnf
  have hn5 := all_off5 hns; have hn6 := all_off6 hns; have hn7 := all_off7 hns; have nD5 : NeN D (L + 1 + 1 + 1 + 1 + 1) := hD.2.2.2.2.1; have nD6 : NeN D (L + 1 + 1 + 1 + 1 + 1 + 1) := hD.2.2.2.2.2.1; have nD7 : NeN D (L + 1 + 1 + 1 + 1 + 1 + 1 + 1) := hD.2.2.2.2.2.2; have nlp5 : NeN lp (L + 1 + 1 + 1 + 1 + 1) := hlp.2.2.2.2.1; have nlp6 : NeN lp (L + 1 + 1 + 1 + 1 + 1 + 1) := hlp.2.2.2.2.2.1; have nlp7 : NeN lp (L + 1 + 1 + 1 + 1 + 1 + 1 + 1) := hlp.2.2.2.2.2.2; have nlb5 : NeN lb (L + 1 + 1 + 1 + 1 + 1) := hlb.2.2.2.2.1; have nlb6 : NeN lb (L + 1 + 1 + 1 + 1 + 1 + 1) := hlb.2.2.2.2.2.1; have nlb7 : NeN lb (L + 1 + 1 + 1 + 1 + 1 + 1 + 1) := hlb.2.2.2.2.2.2; have nl15 : NeN (L + 1) (L + 1 + 1 + 1 + 1 + 1) := nl_ne 3; have nl16 : NeN (L + 1) (L + 1 + 1 + 1 + 1 + 1 + 1) := nl_ne 4; have nl17 : NeN (L + 1) (L + 1 + 1 + 1 + 1 + 1 + 1 + 1) := nl_ne 5; have nl25 : NeN (L + 1 + 1) (L + 1 + 1 + 1 + 1 + 1) := nl_ne 2; have nl26 : NeN (L + 1 + 1) (L + 1 + 1 + 1 + 1 + 1 + 1) := nl_ne 3; have nl27 : NeN (L + 1 + 1) (L + 1 + 1 + 1 + 1 + 1 + 1 + 1) := nl_ne 4; have nl35 : NeN (L + 1 + 1 + 1) (L + 1 + 1 + 1 + 1 + 1) := nl_ne 1; have nl36 : NeN (L + 1 + 1 + 1) (L + 1 + 1 + 1 + 1 + 1 + 1) := nl_ne 2; have nl37 : NeN (L + 1 + 1 + 1) (L + 1 + 1 + 1 + 1 + 1 + 1 + 1) := nl_ne 3; have nl45 : NeN (L + 1 + 1 + 1 + 1) (L + 1 + 1 + 1 + 1 + 1) := nl_ne 0; have nl46 : NeN (L + 1 + 1 + 1 + 1) (L + 1 + 1 + 1 + 1 + 1 + 1) := nl_ne 1; have nl47 : NeN (L + 1 + 1 + 1 + 1) (L + 1 + 1 + 1 + 1 + 1 + 1 + 1) := nl_ne 2; have nl56 : NeN (L + 1 + 1 + 1 + 1 + 1) (L + 1 + 1 + 1 + 1 + 1 + 1) := nl_ne 0; have nl57 : NeN (L + 1 + 1 + 1 + 1 + 1) (L + 1 + 1 + 1 + 1 + 1 + 1 + 1) := nl_ne 1; have nl65 : NeN (L + 1 + 1 + 1 + 1 + 1 + 1) (L + 1 + 1 + 1 + 1 + 1) := nl_en 0; have nl67 : NeN (L + 1 + 1 + 1 + 1 + 1 + 1) (L + 1 + 1 + 1 + 1 + 1 + 1 + 1) := nl_ne 0; have nl75 : NeN (L + 1 + 1 + 1 + 1 + 1 + 1 + 1) (L + 1 + 1 + 1 + 1 + 1) := nl_en 1; have nl76 : NeN (L + 1 + 1 + 1 + 1 + 1 + 1 + 1) (L + 1 + 1 + 1 + 1 + 1 + 1) := nl_en 0
  clear hns hD hlp hlb
  refine wp_gen fun tk0 => ?_
  refine letF cF ?_
  intro mz0 cF0
  clear cF
  refine letA ?_
  intro A0
  (repeat' (first | (k_unfold; (try dsimp only)) | (k_end; wrow_close) | (k_end; first | ((k_dflt (refine LCg.CompEnd.intro (by assumption) (by k_asm) _ (fun p hp => hp) (by assumption) True.intro ?_))) | ((with_reducible show LCg.CompRest _ _ _ _ _ _ _ (PySem.Expr.BinOp _ .Mult _ _) _ _ _ _ _ _ _ _ _ _ _); k_dflt (refine CompRest.turns 3 (fun k v => ∃ t, v = .int (Int.fdiv 6 ([b0, b1, b2].getD (0 + (k : Int)).toNat 0) * [f0 - 65, f1 - 65, f2 - 65].getD (0 + (k : Int)).toNat 0) t) ?turn ?fin); (case' turn => (intro n9 h9 ys9 v' I' oI' C' oC' D' m' h' tk' E' hv' hC' hx' F' N' off' ne'; (first | lcg_open hv' | (obtain ⟨t9', hv9'⟩ := hv'; subst hv9')); have off2' := off'; (try simp only [LCg.Off3, and_true] at off2'); (try dsimp only); have k9 : (0 : Int) ≤ 0 + (n9 : Int) := (by rw [Int.zero_add]; exact Int.natCast_nonneg _); have k8 : 0 + (n9 : Int) ≤ 2 := (by rw [Int.zero_add]; exact Int.ofNat_le.mpr (Nat.le_of_lt_succ h9)))); (case' fin => (intro ys9 hys9; obtain ⟨v90, v91, v92, rfl, ⟨t90, rfl⟩, ⟨t91, rfl⟩, ⟨t92, rfl⟩⟩ := areVals3 hys9))) | ((with_reducible show LCg.CompRest _ _ _ _ _ _ _ (PySem.Expr.BinOp _ .Add _ _) _ _ _ _ _ _ _ _ _ _ _); k_dflt (refine CompRest.turnsD dx dy dz p8 q8 r8 (by with_reducible assumption) (by with_reducible assumption) (by with_reducible assumption) ?turnD ?finD); (case' turnD => (intro n9 h9 pv9 qv9 hp1 hp2 hp3 hq1 hq2 hq3 k9 k8 k7 ys9 v' I' oI' C' oC' D' m' h' tk' E' hv' hC' hx' F' N' off' ne'; (first | lcg_open hv' | (obtain ⟨t9', hv9'⟩ := hv'; subst hv9')); have off2' := off'; (try simp only [LCg.Off3, and_true] at off2'); (try dsimp only))); (case' finD => (intro v90 v91 v92 d90 d91 d92))) | ((with_reducible show _ = _ ∧ _); first | exact ⟨rfl, _, rfl⟩ | exact ⟨rfl, by with_reducible assumption⟩) | ((k_here; k_dflt (refine LCg.CompSrc.range (by rfl) (by k_asm) (by k_asm) (by assumption) (by first | decide | rfl) (by first | rfl | decide) (by first | size_fits | exact Nat.le_of_ble_eq_true rfl) ?_; intro _; lcg_lit))) | ((k_dflt (refine BSrc.intro (by with_reducible assumption) (by exact Nat.le_of_ble_eq_true rfl) (by rfl) (by k_asm) (by k_asm) ?_); intro _))) | ((k_here; (with_reducible show wpAny _ _ (subscriptTail _ _ (Value.ref _) (Value.int _ _)) _ _ _); k_dflt (first | (refine' item_listD (by apply News.isList (by k_asm) (by walk_at "mem")) (by first | with_reducible assumption | decide) (by first | with_reducible assumption | decide) (by first | with_reducible assumption | rfl) (by with_reducible assumption) ?_) | (refine' item_tupD (by exact News.isTup (by k_asm) (by walk_at "mem")) (by first | with_reducible assumption | decide) (by first | with_reducible assumption | decide) (by first | with_reducible assumption | rfl) (by first | with_reducible assumption | rfl) (by with_reducible assumption) ?_)))) | ((k_here; (with_reducible show wpAny _ _ (call (Value.ref 78) _) _ _ _); k_dflt (refine' c_hsv (by walk_at "cx")  (by with_reducible assumption) (by with_reducible assumption) (by with_reducible assumption) (by with_reducible assumption) ?_); intro _ _ _ _ _ _ _ _ _ _ _ _; (try dsimp only); (try k_fold))) | ((k_here; (with_reducible show wpAny _ _ (call (Value.ref 104) _) _ _ _); k_dflt (refine' c_prod (by walk_at "cx") (by with_reducible assumption) (by with_reducible assumption) (by walk_at "mem") (by exact form_up (by with_reducible assumption) (fun p hp => by repeat (first | exact hp | refine List.Mem.tail _ ?_))) (by with_reducible assumption) (by with_reducible assumption) ?_); intro _ _ _ _ _; (try dsimp only); (try k_fold))) | ((k_here; first | ((with_reducible show wpAny _ _ (eval (PySem.Expr.ListComp _ [⟨_, PySem.Expr.Name _ _, _, _⟩] _ _) _) _ _ _); k_dflt (refine ListComp_bytes (F₀ := by k_asm) (by rfl) (by decide) (by rfl) (by decide) (by rfl) ?_)) | ((with_reducible show wpAny _ _ (eval (PySem.Expr.ListComp _ [⟨_, PySem.Expr.Call _ _ _ _, _, _⟩] _ _) _) _ _ _); k_dflt (refine LCg.ListComp_U (F₀ := by k_asm) (by rfl) (by decide) (by rfl) (by decide) (by rfl) ?_)))) | ((k_here; (with_reducible show wpAny _ _ (subscriptTail _ (Expr.Slice _ _ none _) (Value.bytes _ _) (Value.ref _)) _ _ _); (with_reducible rename Fr _ _ _ _ => F'); (with_reducible rename News _ _ _ _ => N'); (refine slice3 (s := ⟨_, _, _, _, _⟩) F' N' (by with_reducible assumption) (by with_reducible assumption) (by with_reducible assumption) (by rfl) (by rfl) (by with_reducible assumption) ?_); intro _ _ _ _ _ _ _)) | ((with_reducible show wpAny _ _ (binaryOp .Mult (Value.int _ _) (Value.int _ _)) _ _ _); (try dsimp only); (k_here; with_reducible refine mul_int ?_ (mulk6 (by with_reducible assumption) (by first | with_reducible assumption | k_dflt decide) (by first | with_reducible assumption | k_dflt decide)))) | ((with_reducible show wpAny _ _ (binaryOp .FloorDiv (Value.int _ _) (Value.int _ _)) _ _ _); (try dsimp only); (k_here; k_dflt (refine fdiv6 (by with_reducible assumption) (by first | with_reducible assumption | decide) (by first | with_reducible assumption | decide) ?_))) | ((with_reducible show wpAny _ _ (binaryOp .Add _ _) _ _ _); (k_here; k_dflt (refine' den_add (by exact rfl) (by with_reducible assumption) (by with_reducible assumption) (by exact small_p (by with_reducible assumption)) (by exact small_u (by with_reducible assumption)) (by exact small_pu (by with_reducible assumption) (by with_reducible assumption)) ?_); intro _ _ _)) | walk1 | (dsimp only; walk1) | (leave1; try dsimp only) | fail "no step"))
  rename_i D1 h11 tk11 o1z h12 o5z Fz Nz d5z
  refine' hret _ _ _ o5z _ D1 _ _ _ _ ?x ?y ?z ⟨off1_ne o1z (by repeat (first | exact List.Mem.head _ | refine List.Mem.tail _ ?_)), off1_ne o1z (by repeat (first | exact List.Mem.head _ | refine List.Mem.tail _ ?_)), off1_ne o1z (by repeat (first | exact List.Mem.head _ | refine List.Mem.tail _ ?_)), off1_ne o1z (by repeat (first | exact List.Mem.head _ | refine List.Mem.tail _ ?_)), off1_ne o1z (by repeat (first | exact List.Mem.head _ | refine List.Mem.tail _ ?_)), off1_ne o1z (by repeat (first | exact List.Mem.head _ | refine List.Mem.tail _ ?_)), off1_ne o1z (by repeat (first | exact List.Mem.head _ | refine List.Mem.tail _ ?_))⟩ (off1_ne o1z (by repeat (first | exact List.Mem.head _ | refine List.Mem.tail _ ?_))) o1z.2.2.2.2.2.2.2.2.2.2.2.2 d5z ?d7 ?zF ?zN
  case zN => exact news_drop Nz (sub10 (by repeat (first | exact List.Mem.head _ | refine List.Mem.tail _ ?_)) (by repeat (first | exact List.Mem.head _ | refine List.Mem.tail _ ?_)) (by repeat (first | exact List.Mem.head _ | refine List.Mem.tail _ ?_)) (by repeat (first | exact List.Mem.head _ | refine List.Mem.tail _ ?_)) (by repeat (first | exact List.Mem.head _ | refine List.Mem.tail _ ?_)) (by repeat (first | exact List.Mem.head _ | refine List.Mem.tail _ ?_)) (by repeat (first | exact List.Mem.head _ | refine List.Mem.tail _ ?_)) (by repeat (first | exact List.Mem.head _ | refine List.Mem.tail _ ?_)) (by repeat (first | exact List.Mem.head _ | refine List.Mem.tail _ ?_)) (by repeat (first | exact List.Mem.head _ | refine List.Mem.tail _ ?_)) (fun p hp => by repeat (first | exact hp | refine List.Mem.tail _ ?_)))
  case x => exact den_g (by with_reducible assumption) (by with_reducible assumption)
  case y => exact den_g (by with_reducible assumption) (by with_reducible assumption)
  case z => exact den_g (by with_reducible assumption) (by with_reducible assumption)
  case d7 => with_reducible assumption
  case zF => exact Fr.put (Str.ofString "start") (Fr.put (Str.ofString "turned") (Fr.put (Str.ofString "zone") (Fr.put (Str.ofString "words") (Fr.put (Str.ofString "forms") (Fr.put (Str.ofString "count") (Fr.put (Str.ofString "own") ((by with_reducible assumption)) rfl) rfl) rfl) rfl) rfl) rfl) rfl
end Mine
end
section
open _root_.PySem _root_.PySem.W _root_.PySem.W.X _root_.PyProof.Rows
set_option Elab.async false
set_option maxRecDepth 100000
set_option maxHeartbeats 0
namespace Mine
theorem rs35 : True := by w_top off; trivial
local macro_rules | `(tactic| k_updF) => `(tactic| first | (refine' UpdF.head ?a; (case a => (repeat (refine all_cons (by first | k_ne | omega) ?_)); first | exact all_off1 (by assumption) | exact all_off2 (by assumption) | exact all_off3 (by assumption) | exact all_off4 (by assumption) | exact all_off5 (by assumption) | exact all_off6 (by assumption) | exact all_off7 (by assumption) | (intro p hp; cases hp))) | (refine' UpdF.tail ?a ?b; (case a => first | k_ne | omega); (case b => k_updF)))
theorem s14_4f {w : World} {loose : List Str} {mean : ExcName → Option Value} {mg mb : Str → Option Value} {base : Heap} {L fa : Addr} {cd : Value} {m : Str → Option Value} {s : Shared} {Q : Flow → Shared → Prop} {E : Value → Shared → Prop}
   (cB : Below callerA base [] base) (cX : (Mine.hd.heap_39 w.params).In base) (cT : Top Mine.hd.view_39 loose mean mg mb base) (hE : PassesOwn (model PP w) (lawA L fa cd) (lawEnv L fa cd) E)
   {o1 o2 o3 o4 o5 o6 o7 : Obj} {ns : List (Addr × Obj)} (hns : ∀ p ∈ ns, (Off7 L p.1))
   {lo lf lb lp : Addr} {ct fr : Int} {wd td le : Array UInt8} {zn : Str} {dd : Bool} {tc tw tz tt ti tl tf : Tok} {i : Nat}
   (cF : Fr base L s.heap (fun y => if y = Str.ofString "held" then some (.bool false) else if y = Str.ofString "letters" then some (.bytes le tl) else if y = Str.ofString "start" then some (.int (0 + (i : Int) * 3) ti) else if y = Str.ofString "turned" then some (.bytes td tt) else if y = Str.ofString "zone" then some (.str zn tz) else if y = Str.ofString "words" then some (.bytes wd tw) else if y = Str.ofString "forms" then some (.ref lf) else if y = Str.ofString "count" then some (.int ct tc) else if y = Str.ofString "own" then some (.ref lo) else m y)) (cN : News base L s.heap ((L + 1 + 1 + 1 + 1 + 1 + 1 + 1, o7) :: (L + 1 + 1 + 1 + 1 + 1 + 1, o6) :: (L + 1 + 1 + 1 + 1 + 1, o5) :: (L + 1 + 1 + 1 + 1, o4) :: (L + 1 + 1 + 1, o3) :: (L + 1 + 1, o2) :: (L + 1, o1) :: ns))
  
   (hret : ∀ (m' : Str → Option Value) (h' : Heap) (tk' : Nat) , Fr base L h' (fun y => if y = Str.ofString "held" then some (.bool false) else if y = Str.ofString "letters" then some (.bytes le tl) else if y = Str.ofString "start" then some (.int (0 + (i : Int) * 3) ti) else if y = Str.ofString "turned" then some (.bytes td tt) else if y = Str.ofString "zone" then some (.str zn tz) else if y = Str.ofString "words" then some (.bytes wd tw) else if y = Str.ofString "forms" then some (.ref lf) else if y = Str.ofString "count" then some (.int ct tc) else if y = Str.ofString "own" then some (.ref lo) else m' y) → News base L h' ((L + 1 + 1 + 1 + 1 + 1 + 1 + 1, o7) :: (L + 1 + 1 + 1 + 1 + 1 + 1, o6) :: (L + 1 + 1 + 1 + 1 + 1, o5) :: (L + 1 + 1 + 1 + 1, o4) :: (L + 1 + 1 + 1, o3) :: (L + 1 + 1, o2) :: (L + 1, o1) :: ns) → Q .next { s with heap := h', toks := tk' }) :
   wpAny (model PP w) (lawA L fa cd) (exec (forB (st 14) 4) (lawEnv L fa cd)) Q E s := by
  conv in (forB (st 14) 4) => whnf
  unfold lawA lawEnv
  conv in (occs := *) lawScope => all_goals whnf
  k_steps
  exact hret _ _ _ (Fr.put (Str.ofString "held") (Fr.put (Str.ofString "letters") (Fr.put (Str.ofString "start") (Fr.put (Str.ofString "turned") (Fr.put (Str.ofString "zone") (Fr.put (Str.ofString "words") (Fr.put (Str.ofString "forms") (Fr.put (Str.ofString "count") (Fr.put (Str.ofString "own") ((by assumption)) rfl) rfl) rfl) rfl) rfl) rfl) rfl) rfl) rfl) (by assumption)
end Mine
end
section
open _root_.PySem _root_.PySem.W _root_.PySem.W.X _root_.PyProof.Rows
set_option Elab.async false
set_option maxRecDepth 100000
set_option maxHeartbeats 0
namespace Mine
local macro_rules | `(tactic| walk_at "none") => `(tactic| skip)
theorem rs36 : True := by w_top off; trivial
def prt (H : Nat → Bool) (V S : Nat → Int) (j : Nat) : Nat → Nat → Int → Int
  | 0, _, p => p
  | k + 1, i, p => prt H V S j k (i + 1) (if H i then p + V i * U ((S i).fmod 6) j else p)
theorem prt_t {H : Nat → Bool} {V S : Nat → Int} {j k i : Nat} {p : Int} (h : H i = true) : prt H V S j k (i + 1) (p + V i * U ((S i).fmod 6) j) = prt H V S j (k + 1) i p := by rw [prt, if_pos h]
theorem prt_f {H : Nat → Bool} {V S : Nat → Int} {j k i : Nat} {p : Int} (h : H i = false) : prt H V S j k (i + 1) p = prt H V S j (k + 1) i p := by rw [prt, if_neg (by rw [h]; decide)]
end Mine
end
section
open _root_.PySem _root_.PySem.W _root_.PySem.W.X _root_.PyProof.Rows
set_option Elab.async false
set_option maxRecDepth 100000
set_option maxHeartbeats 0
namespace Mine
theorem rs37 : True := by w_top off; trivial
local macro_rules | `(tactic| omega) => `(tactic| omega +splitDisjunctions)
theorem sub_cons {a : Addr × Obj} {all r : List (Addr × Obj)} (h : a ∈ all) (t : ∀ p ∈ r, p ∈ all) : ∀ p ∈ a :: r, p ∈ all := by
  intro p hp
  rcases List.mem_cons.mp hp with rfl | hp
  · exact h
  · exact t p hp
theorem hall_cons {P : Addr × Obj → Prop} {a : Addr × Obj} {r : List (Addr × Obj)} (h : P a) (t : ∀ p ∈ r, P p) : ∀ p ∈ a :: r, P p := by
  intro p hp
  rcases List.mem_cons.mp hp with rfl | hp
  · exact h
  · exact t p hp
theorem off1_at {D : Addr} : ∀ {l : List (Addr × Obj)}, LCg.Off1 D l → ∀ p ∈ l, p.1 ≠ D
  | [], _, _, hp => nomatch hp
  | q :: l, h, p, hp => by
    rcases List.mem_cons.mp hp with rfl | hp
    · exact h.1
    · exact off1_at h.2 p hp
abbrev body14 : List Stmt := forBody (st 14)
theorem body14_eq : body14 = [forB (st 14) 0, forB (st 14) 1, forB (st 14) 2, forB (st 14) 3, forB (st 14) 4] := by rfl
theorem succ14 {k i : Nat} (h : k + 1 + i = 12) : k + (i + 1) = 12 := by omega
theorem bnd_t {p v e : Int} {j i : Nat} (hp : p.natAbs ≤ 125000 * i) (hv : v.natAbs ≤ 125000) : (p + v * U e j).natAbs ≤ 125000 * (i + 1) :=
  Nat.le_trans (Int.natAbs_add_le _ _) (by rw [Nat.mul_succ]; exact Nat.add_le_add hp (abs_u hv))
theorem bnd_f {p : Int} {i : Nat} (hp : p.natAbs ≤ 125000 * i) : p.natAbs ≤ 125000 * (i + 1) := by omega
theorem bnd_m {p : Int} {k i : Nat} (hki : k + 1 + i = 12) (hp : p.natAbs ≤ 125000 * i) : p.natAbs ≤ 1500000 := by omega
theorem loop14 {w : World} {loose : List Str} {mean : ExcName → Option Value} {mg mb : Str → Option Value} {base : Heap} {L fa : Addr} {cd : Value} {E : Value → Shared → Prop} {Q : Flow → Shared → Prop}
   (cB : Below callerA base [] base) (cX : (Mine.hd.heap_39 w.params).In base) (cT : Top Mine.hd.view_39 loose mean mg mb base) (hE : PassesOwn (model PP w) (lawA L fa cd) (lawEnv L fa cd) E)
   {s : Shared} {I : Addr} {ct fr b0 b1 b2 v0q v1q v2q : Int} {tc tw tz tt tf u0 u1 u2 v0 v1 v2 : Tok} {lo lb lf : Addr} {o1 o2 o3 o4 : Obj} {ns : List (Addr × Obj)} {wd td : Array UInt8} {ks ts : List Int} {zn zl : Str} {fs : List Form} {kf : Nat}
   (fr0 : 0 ≤ fr) (b0a : 2 ≤ b0) (b0b : b0 ≤ 3) (b1a : 2 ≤ b1) (b1b : b1 ≤ 3) (b2a : 2 ≤ b2) (b2b : b2 ≤ 3)
   (d2 : o2.data = .cell (some (.ref lb))) (d3 : o3.data = .cell (some (.int fr tf)))
   (hI : (Off7 L I)) (hlo : (Off7 L lo)) (hlb : (Off7 L lb)) (hns : ∀ p ∈ ns, (Off7 L p.1)) (hloI : @Ne Nat lo I) (hlbI : @Ne Nat lb I) (hnI : ∀ p ∈ ns, p.1 ≠ I)
   (hwd : KBw.bInts wd = ks) (hks : ks.length = 36) (htd : KBw.bInts td = ts) (hts : ts.length = 36) {f g : Nat → Nat → Int}
   (hcf : ∀ i, i < 12 → cut ts i = [f i 0, f i 1, f i 2]) (hcg : ∀ i, i < 12 → cut ks i = [g i 0, g i 1, g i 2]) (hfb : ∀ i, i < 12 → (65 ≤ f i 0 ∧ f i 0 ≤ 67 ∧ 65 ≤ f i 1 ∧ f i 1 ≤ 67 ∧ 65 ≤ f i 2 ∧ f i 2 ≤ 67))
   (hho : ∀ i, i < 12 → Txt.lower (hostS (f i 0) (f i 1) (f i 2)) = hostL (f i 0) (f i 1) (f i 2) ∧ Builtin.Str.tooLong (Txt.lower (hostS (f i 0) (f i 1) (f i 2))).length = false ∧ noMatch (hostL (f i 0) (f i 1) (f i 2)) = true ∧ (hostL (f i 0) (f i 1) (f i 2)).length ≤ 1000)
   (hz1 : Txt.lower zn = zl) (hz2 : Builtin.Str.tooLong (Txt.lower zn).length = false) (hz3 : noMatch zl = true) (hz4 : zl.length ≤ 1000)
   (hlf : (lf, formsO fs kf) ∈ ns) (hin : ∀ x ∈ fs, x.In ns) (hn3 : fs.length ≤ 3) (hbd : ∀ i, i < 12 → ∀ x ∈ fs, -4 ≤ x.b ∧ x.b ≤ 4 ∧ (x.val [g i 0, g i 1, g i 2] [f i 0, f i 1, f i 2]).natAbs ≤ 50)
   {H : Nat → Bool} {V S : Nat → Int} (hH : ∀ i, i < 12 → H i = decide (List.drop fr.toNat [f i 0 - 65, f i 1 - 65, f i 2 - 65] = List.drop fr.toNat [v0q, v1q, v2q]))
   (hhe : ∀ i, i < 12 → udmF (hostL (f i 0) (f i 1) (f i 2)) zl = H i) (hV : ∀ i, i < 12 → lightOf [g i 0, g i 1, g i 2] [f i 0, f i 1, f i 2] 1 fs = V i) (hS : ∀ i, i < 12 → Int.fdiv 6 ([b0, b1, b2].getD (0 + ((0 : Nat) : Int)).toNat 0) * [f i 0 - 65, f i 1 - 65, f i 2 - 65].getD (0 + ((0 : Nat) : Int)).toNat 0 + (Int.fdiv 6 ([b0, b1, b2].getD (0 + ((0 + 1 : Nat) : Int)).toNat 0) * [f i 0 - 65, f i 1 - 65, f i 2 - 65].getD (0 + ((0 + 1 : Nat) : Int)).toNat 0 + (Int.fdiv 6 ([b0, b1, b2].getD (0 + ((0 + 1 + 1 : Nat) : Int)).toNat 0) * [f i 0 - 65, f i 1 - 65, f i 2 - 65].getD (0 + ((0 + 1 + 1 : Nat) : Int)).toNat 0 + 0)) = S i)
   (hS0 : ∀ i, i < 12 → 0 ≤ S i ∧ S i ≤ 10) (hVb : ∀ i, i < 12 → (V i).natAbs ≤ 125000)
   : ∀ (k i : Nat) (m : Str → Option Value) (lp : Addr) (kp : Nat) (x y z : Value) (p q r : Int) (o5 o6 o7 : Obj) (y6 y7 : Option Value), k + i = 12 → (Off7 L lp) → @Ne Nat lp I → o5.data = .cell (some (.ref lp)) → o6.data = .cell y6 → o7.data = .cell y7 → Den x p → Den y q → Den z r → p.natAbs ≤ 125000 * i → q.natAbs ≤ 125000 * i → r.natAbs ≤ 125000 * i →
   (∀ (m' : Str → Option Value) (h' : Heap) (tk' : Nat) (lp' : Addr) (kp' : Nat) (x' y' z' : Value) (z5 z6 z7 : Obj), (Off7 L lp') → z5.data = .cell (some (.ref lp')) → Den x' (prt H V S 0 k i p) → Den y' (prt H V S 1 k i q) → Den z' (prt H V S 2 k i r) →
     Fr base L h' (fun y => if y = Str.ofString "turned" then some (.bytes td tt) else if y = Str.ofString "zone" then some (.str zn tz) else if y = Str.ofString "words" then some (.bytes wd tw) else if y = Str.ofString "forms" then some (.ref lf) else if y = Str.ofString "count" then some (.int ct tc) else if y = Str.ofString "own" then some (.ref lo) else m' y) → News base L h' ((lp', W.listOf #[x', y', z'] kp') :: (lo, LCg.lst [.int v0q v0, .int v1q v1, .int v2q v2]) :: (lb, LCg.lst [.int b0 u0, .int b1 u1, .int b2 u2]) :: (L + 1 + 1 + 1 + 1 + 1 + 1 + 1, z7) :: (L + 1 + 1 + 1 + 1 + 1 + 1, z6) :: (L + 1 + 1 + 1 + 1 + 1, z5) :: (L + 1 + 1 + 1 + 1, o4) :: (L + 1 + 1 + 1, o3) :: (L + 1 + 1, o2) :: (L + 1, o1) :: ns) → Q .next { s with heap := h', toks := tk' }) →
   KrsRest PP w (lawA L fa cd) E base (lawEnv L fa cd) (Str.ofString "start") body14 Q s I 0 3 12 k i (fun y => if y = Str.ofString "turned" then some (.bytes td tt) else if y = Str.ofString "zone" then some (.str zn tz) else if y = Str.ofString "words" then some (.bytes wd tw) else if y = Str.ofString "forms" then some (.ref lf) else if y = Str.ofString "count" then some (.int ct tc) else if y = Str.ofString "own" then some (.ref lo) else m y) ((lp, W.listOf #[x, y, z] kp) :: (lo, LCg.lst [.int v0q v0, .int v1q v1, .int v2q v2]) :: (lb, LCg.lst [.int b0 u0, .int b1 u1, .int b2 u2]) :: (L + 1 + 1 + 1 + 1 + 1 + 1 + 1, o7) :: (L + 1 + 1 + 1 + 1 + 1 + 1, o6) :: (L + 1 + 1 + 1 + 1 + 1, o5) :: (L + 1 + 1 + 1 + 1, o4) :: (L + 1 + 1 + 1, o3) :: (L + 1 + 1, o2) :: (L + 1, o1) :: ns) := by
  intro k
  induction k with
  | zero =>
    intro i m lp kp x y z p q r o5 o6 o7 y6 y7 hki hlp hlpI d5 d6 d7 dx dy dz p9 q9 r9 hQ
    exact fun h tk F N => hQ m h tk lp kp x y z o5 o6 o7 hlp d5 dx dy dz F N
  | succ k ih =>
    intro i m lp kp x y z p q r o5 o6 o7 y6 y7 hki hlp hlpI d5 d6 d7 dx dy dz p9 q9 r9 hQ
    refine KrsRest.succ rfl fun t9 h9 tk9 F9 N9 => ?_
    have hi : i < 12 := by omega
    obtain ⟨a0, a1, a2, a3, a4, a5⟩ := hfb i hi
    obtain ⟨e0, e1, e2, e3⟩ := hho i hi
    have hB : ∀ k : Int, 0 ≤ k → k ≤ 2 → 2 ≤ [b0, b1, b2].getD k.toNat 0 ∧ [b0, b1, b2].getD k.toNat 0 ≤ 3 := fun k k0 k1 => bget b0a b0b b1a b1b b2a b2b k0 k1
    have hn1 : ∀ p ∈ (I, krsIt (0 + ((i + 1 : Nat) : Int) * 3) ((12 : Int) - ((i + 1 : Nat) : Int)) 3) :: (lp, W.listOf #[x, y, z] kp) :: (lo, LCg.lst [.int v0q v0, .int v1q v1, .int v2q v2]) :: (lb, LCg.lst [.int b0 u0, .int b1 u1, .int b2 u2]) :: ns, (Off7 L p.1) := hall_cons hI (hall_cons hlp (hall_cons hlo (hall_cons hlb hns)))
    have N1 : News base L h9 ((L + 1 + 1 + 1 + 1 + 1 + 1 + 1, o7) :: (L + 1 + 1 + 1 + 1 + 1 + 1, o6) :: (L + 1 + 1 + 1 + 1 + 1, o5) :: (L + 1 + 1 + 1 + 1, o4) :: (L + 1 + 1 + 1, o3) :: (L + 1 + 1, o2) :: (L + 1, o1) :: (I, krsIt (0 + ((i + 1 : Nat) : Int) * 3) ((12 : Int) - ((i + 1 : Nat) : Int)) 3) :: (lp, W.listOf #[x, y, z] kp) :: (lo, LCg.lst [.int v0q v0, .int v1q v1, .int v2q v2]) :: (lb, LCg.lst [.int b0 u0, .int b1 u1, .int b2 u2]) :: ns) := news_drop N9 (by (repeat (refine sub_cons (by repeat (first | exact List.Mem.head _ | refine List.Mem.tail _ ?_)) ?_)); exact fun p hp => by repeat (first | exact hp | refine List.Mem.tail _ ?_))
    have eB : execs body14 (lawEnv L fa cd) = execs [forB (st 14) 0, forB (st 14) 1, forB (st 14) 2, forB (st 14) 3, forB (st 14) 4] (lawEnv L fa cd) := by rw [body14_eq]
    rw [eB]
    refine wpAny_execs_cons (s14_0 (s := { s with heap := h9, toks := tk9 }) cB cX cT hE hn1 htd hts hi (hcf i hi) F9 N1 (tl := 0) (dd := true) (le := #[]) (lb := lb) (fr := fr) (tf := tf) (lp := lp) ?_)
    intro m1 h1 tk1 b1' t1 hb1 F1 N1
    refine wpAny_execs_cons (s14_1 (s := { s with heap := h1, toks := tk1 }) cB cX cT hE hn1 hb1 a0 a1 a2 a3 a4 a5 F1 N1 d6 (dd := true) (lb := lb) (fr := fr) (tf := tf) (lp := lp) ?_)
    intro m2 h2 tk2 q6 D x0 x1 x2 hD oD e6 F2 N2
    have hn2 := hall_cons (P := fun p => (Off7 L p.1)) (a := (D, LCg.lst [.int (f i 0 - 65) x0, .int (f i 1 - 65) x1, .int (f i 2 - 65) x2])) hD hn1
    have N3 : News base L h2 ((L + 1 + 1 + 1 + 1 + 1 + 1 + 1, o7) :: (L + 1 + 1 + 1 + 1 + 1 + 1, q6) :: (L + 1 + 1 + 1 + 1 + 1, o5) :: (L + 1 + 1 + 1 + 1, o4) :: (L + 1 + 1 + 1, o3) :: (L + 1 + 1, o2) :: (L + 1, o1) :: (D, LCg.lst [.int (f i 0 - 65) x0, .int (f i 1 - 65) x1, .int (f i 2 - 65) x2]) :: (I, krsIt (0 + ((i + 1 : Nat) : Int) * 3) ((12 : Int) - ((i + 1 : Nat) : Int)) 3) :: (lp, W.listOf #[x, y, z] kp) :: (lo, LCg.lst [.int v0q v0, .int v1q v1, .int v2q v2]) :: (lb, LCg.lst [.int b0 u0, .int b1 u1, .int b2 u2]) :: ns) := news_drop N2 (by (repeat (refine sub_cons (by repeat (first | exact List.Mem.head _ | refine List.Mem.tail _ ?_)) ?_)); exact fun p hp => by repeat (first | exact hp | refine List.Mem.tail _ ?_))
    refine wpAny_execs_cons (s14_2 (s := { s with heap := h2, toks := tk2 }) cB cX cT hE hn2 hb1 a0 a1 a2 a3 a4 a5 e0 e1 e2 e3 hz1 hz2 hz3 hz4 F2 N3 (dd := true) (lb := lb) (fr := fr) (tf := tf) (lp := lp) ?_)
    intro m3 h3 tk3 dd hdd F3 N4
    have hdd : dd = H i := hdd.symm.trans (hhe i hi)
    have N5 : News base L h3 ((D, LCg.lst [.int (f i 0 - 65) x0, .int (f i 1 - 65) x1, .int (f i 2 - 65) x2]) :: (lo, LCg.lst [.int v0q v0, .int v1q v1, .int v2q v2]) :: (L + 1 + 1 + 1 + 1 + 1 + 1 + 1, o7) :: (L + 1 + 1 + 1 + 1 + 1 + 1, q6) :: (L + 1 + 1 + 1 + 1 + 1, o5) :: (L + 1 + 1 + 1 + 1, o4) :: (L + 1 + 1 + 1, o3) :: (L + 1 + 1, o2) :: (L + 1, o1) :: (I, krsIt (0 + ((i + 1 : Nat) : Int) * 3) ((12 : Int) - ((i + 1 : Nat) : Int)) 3) :: (lp, W.listOf #[x, y, z] kp) :: (lo, LCg.lst [.int v0q v0, .int v1q v1, .int v2q v2]) :: (lb, LCg.lst [.int b0 u0, .int b1 u1, .int b2 u2]) :: ns) := news_drop N4 (by (repeat (refine sub_cons (by repeat (first | exact List.Mem.head _ | refine List.Mem.tail _ ?_)) ?_)); exact fun p hp => by repeat (first | exact hp | refine List.Mem.tail _ ?_))
    refine wpAny_execs_cons (s14_3 (s := { s with heap := h3, toks := tk3 }) cB cX cT hE hn1 fr0 (hdd.trans (hH i hi)) F3 N5 d3 e6 (lb := lb) (lp := lp) ?_)
    intro m4 h4 tk4 F4 N6
    refine wpAny_execs_cons ?_
    cases hh : H i with
    | false =>
      rw [hh] at hdd
      subst hdd
      have N7 : News base L h4 ((L + 1 + 1 + 1 + 1 + 1 + 1 + 1, o7) :: (L + 1 + 1 + 1 + 1 + 1 + 1, q6) :: (L + 1 + 1 + 1 + 1 + 1, o5) :: (L + 1 + 1 + 1 + 1, o4) :: (L + 1 + 1 + 1, o3) :: (L + 1 + 1, o2) :: (L + 1, o1) :: (I, krsIt (0 + ((i + 1 : Nat) : Int) * 3) ((12 : Int) - ((i + 1 : Nat) : Int)) 3) :: (lp, W.listOf #[x, y, z] kp) :: (lo, LCg.lst [.int v0q v0, .int v1q v1, .int v2q v2]) :: (lb, LCg.lst [.int b0 u0, .int b1 u1, .int b2 u2]) :: ns) := news_drop N6 (by (repeat (refine sub_cons (by repeat (first | exact List.Mem.head _ | refine List.Mem.tail _ ?_)) ?_)); exact fun p hp => by repeat (first | exact hp | refine List.Mem.tail _ ?_))
      refine s14_4f (s := { s with heap := h4, toks := tk4 }) cB cX cT hE hn1 F4 N7 (dd := true) (lb := lb) (fr := fr) (tf := tf) (lp := lp) ?_
      intro m5 h5 tk5 F5 N8
      refine wpAny_execs_nil ?_
      refine UnrEnd.intro (news' := (lp, W.listOf #[x, y, z] kp) :: (lo, LCg.lst [.int v0q v0, .int v1q v1, .int v2q v2]) :: (lb, LCg.lst [.int b0 u0, .int b1 u1, .int b2 u2]) :: (L + 1 + 1 + 1 + 1 + 1 + 1 + 1, o7) :: (L + 1 + 1 + 1 + 1 + 1 + 1, q6) :: (L + 1 + 1 + 1 + 1 + 1, o5) :: (L + 1 + 1 + 1 + 1, o4) :: (L + 1 + 1 + 1, o3) :: (L + 1 + 1, o2) :: (L + 1, o1) :: ns) (Fr.put (Str.ofString "turned") (Fr.put (Str.ofString "zone") (Fr.put (Str.ofString "words") (Fr.put (Str.ofString "forms") (Fr.put (Str.ofString "count") (Fr.put (Str.ofString "own") (F5) rfl) rfl) rfl) rfl) rfl) rfl) N8 (by (repeat (refine sub_cons (by repeat (first | exact List.Mem.head _ | refine List.Mem.tail _ ?_)) ?_)); exact fun p hp => by repeat (first | exact hp | refine List.Mem.tail _ ?_)) ?_ ?_
      · exact hall_cons hlpI (hall_cons hloI (hall_cons hlbI (hall_cons (Ne.symm hI.2.2.2.2.2.2) (hall_cons (Ne.symm hI.2.2.2.2.2.1) (hall_cons (Ne.symm hI.2.2.2.2.1) (hall_cons (Ne.symm hI.2.2.2.1) (hall_cons (Ne.symm hI.2.2.1) (hall_cons (Ne.symm hI.2.1) (hall_cons (Ne.symm hI.1) (hnI))))))))))
      · exact ih (i + 1) _ lp kp x y z p q r o5 q6 o7 _ _ (succ14 hki) hlp hlpI d5 e6 d7 dx dy dz (bnd_f p9) (bnd_f q9) (bnd_f r9) (by rw [prt_f hh, prt_f hh, prt_f hh]; exact hQ)
    | true =>
      rw [hh] at hdd
      subst hdd
      have N7 : News base L h4 ((D, LCg.lst [.int (f i 0 - 65) x0, .int (f i 1 - 65) x1, .int (f i 2 - 65) x2]) :: (lp, W.listOf #[x, y, z] kp) :: (lb, LCg.lst [.int b0 u0, .int b1 u1, .int b2 u2]) :: (L + 1 + 1 + 1 + 1 + 1 + 1 + 1, o7) :: (L + 1 + 1 + 1 + 1 + 1 + 1, q6) :: (L + 1 + 1 + 1 + 1 + 1, o5) :: (L + 1 + 1 + 1 + 1, o4) :: (L + 1 + 1 + 1, o3) :: (L + 1 + 1, o2) :: (L + 1, o1) :: (I, krsIt (0 + ((i + 1 : Nat) : Int) * 3) ((12 : Int) - ((i + 1 : Nat) : Int)) 3) :: (lp, W.listOf #[x, y, z] kp) :: (lo, LCg.lst [.int v0q v0, .int v1q v1, .int v2q v2]) :: (lb, LCg.lst [.int b0 u0, .int b1 u1, .int b2 u2]) :: ns) := news_drop N6 (by (repeat (refine sub_cons (by repeat (first | exact List.Mem.head _ | refine List.Mem.tail _ ?_)) ?_)); exact fun p hp => by repeat (first | exact hp | refine List.Mem.tail _ ?_))
      have z0 := hS0 i hi
      have z1 := hVb i hi
      rw [← hS i hi] at z0
      rw [← hV i hi] at z1
      refine s14_4t (s := { s with heap := h4, toks := tk4 }) cB cX cT hE hn1 hD hlp hlb hB hwd hks hi (hcg i hi) hb1 (.tail _ (.tail _ (.tail _ (.tail _ hlf)))) (form_up hin fun p hp => .tail _ (.tail _ (.tail _ (.tail _ hp)))) hn3 (hbd i hi) z0.1 z0.2 (by unfold Small; omega) (by unfold Small; decide) (by decide) z1 (Nat.lt_of_le_of_lt z1 (by decide)) (bnd_m hki p9) (bnd_m hki q9) (bnd_m hki r9) dx dy dz F4 N7 d2 d3 d5 e6 d7 (dd := true) ?_
      intro m5 h5 tk5 q5 q7 lp' c7 x' y' z' dx' dy' dz' hlp' hlpD olp e5 e7 F5 N8
      rw [hV i hi, hS i hi] at dx' dy' dz'
      refine wpAny_execs_nil ?_
      refine UnrEnd.intro (news' := (lp', W.listOf #[x', y', z'] 3) :: (lo, LCg.lst [.int v0q v0, .int v1q v1, .int v2q v2]) :: (lb, LCg.lst [.int b0 u0, .int b1 u1, .int b2 u2]) :: (L + 1 + 1 + 1 + 1 + 1 + 1 + 1, q7) :: (L + 1 + 1 + 1 + 1 + 1 + 1, q6) :: (L + 1 + 1 + 1 + 1 + 1, q5) :: (L + 1 + 1 + 1 + 1, o4) :: (L + 1 + 1 + 1, o3) :: (L + 1 + 1, o2) :: (L + 1, o1) :: ns) (Fr.put (Str.ofString "turned") (Fr.put (Str.ofString "zone") (Fr.put (Str.ofString "words") (Fr.put (Str.ofString "forms") (Fr.put (Str.ofString "count") (Fr.put (Str.ofString "own") (F5) rfl) rfl) rfl) rfl) rfl) rfl) N8 (by (repeat (refine sub_cons (by repeat (first | exact List.Mem.head _ | refine List.Mem.tail _ ?_)) ?_)); exact fun p hp => by repeat (first | exact hp | refine List.Mem.tail _ ?_)) ?_ ?_
      · exact hall_cons (Ne.symm (olp.1)) (hall_cons hloI (hall_cons hlbI (hall_cons (Ne.symm hI.2.2.2.2.2.2) (hall_cons (Ne.symm hI.2.2.2.2.2.1) (hall_cons (Ne.symm hI.2.2.2.2.1) (hall_cons (Ne.symm hI.2.2.2.1) (hall_cons (Ne.symm hI.2.2.1) (hall_cons (Ne.symm hI.2.1) (hall_cons (Ne.symm hI.1) (hnI))))))))))
      · exact ih (i + 1) _ lp' 3 x' y' z' _ _ _ q5 q6 q7 _ _ (succ14 hki) hlp' (Ne.symm olp.1) e5 e6 e7 dx' dy' dz' (bnd_t p9 (hVb i hi)) (bnd_t q9 (hVb i hi)) (bnd_t r9 (hVb i hi)) (by rw [prt_t hh, prt_t hh, prt_t hh]; exact hQ)
end Mine
end
section
open _root_.PySem _root_.PySem.W _root_.PySem.W.X _root_.PyProof.Rows
set_option Elab.async false
set_option maxRecDepth 100000
set_option maxHeartbeats 0
namespace Mine
local macro_rules | `(tactic| walk_at "none") => `(tactic| skip)
theorem rs38 : True := by w_top off; trivial
open _root_.PySem.F in
theorem ba_mro : mroOf (.type "bytearray") = pure [.type "bytearray", .type "object"] := by rw [mroOf_type]; kernel_rfl
theorem ba_lookup_new : typeLookup (.type "bytearray") "__new__" = pure (some (.builtin "bytearray.__new__")) := by rw [typeLookup_type, builtinLookup_eq_fast]; kernel_rfl
theorem ba_slot_init : Slot "bytearray" "__init__" "bytearray.__init__" :=
  .of (owner := "bytearray") (n := "__init__") (by rw [typeLookup_type, builtinLookup_eq_fast]; kernel_rfl) (by decide +kernel) (by decide +kernel) (by decide +kernel)
    (by first | exact .inl (by decide +kernel) | exact .inr (by decide +kernel)) (by rw [isSubtype_type]; kernel_rfl)
theorem ba_called : TypeCalled "bytearray" "bytearray.__new__" "bytearray.__init__" :=
  ⟨by decide +kernel, by decide +kernel, ⟨_, _, ba_mro⟩, madeBy_type ba_mro ba_lookup_new (by decide +kernel), by decide +kernel, by rw [isSubtype_type]; kernel_rfl, ba_slot_init⟩
theorem ba_typeCall (a : Value) : checkTypeCall "bytearray" ⟨[a], []⟩ = pure () := by kernel_rfl
theorem ba_newCall (a : Value) : checkBuiltinCall "bytearray.__new__" ⟨[.type "bytearray", a], []⟩ = pure () := by kernel_rfl
theorem ba_entry_new : entryFor table "bytearray.__new__" = some Builtin.«list.__new__» :=
  entryFor_alias (id' := "list.__new__") (by rw [fastTable_eq_tree]; kernel_rfl) (by first | rfl | decide +kernel) (by decide +kernel) (by rw [fastTable_eq_tree]; kernel_rfl)
theorem ba_entry_init : entryFor table "bytearray.__init__" = some Builtin.«bytearray.__init__» := by first | exact entryFor_of_tree (by kernel_rfl) | exact entryFor_of_fast (by kernel_rfl)
theorem ba_plain_new : plainId "bytearray.__new__" = true := by decide +kernel
theorem ba_plain_init : plainId "bytearray.__init__" = true := by decide +kernel
theorem ba_owner : Manifest.owners.lookup (String.ofList ['y', 'a', 'r', 'r', 'a', 'e', 't', 'y', 'b'].reverse) = some Manifest.sig_bytearray := by kernel_rfl
theorem ba_args_init (a b : Value) : argsOk "bytearray.__init__" ⟨[a, b], []⟩ := by
  unfold argsOk; rw [signature?_of (id := "bytearray.__init__") (n := ['_', '_', 't', 'i', 'n', 'i', '_', '_']) (o := ['y', 'a', 'r', 'r', 'a', 'e', 't', 'y', 'b']) (by kernel_rfl) ba_owner]; kernel_rfl
theorem ba_sub : isSubtype (.type "bytearray") (.type "bytearray") = pure true := by rw [isSubtype_type]; kernel_rfl
theorem ba_bind (v : Value) : Builtin.Bytes.bindOptional "bytearray.__init__" "bytearray" ["source", "encoding", "errors"] [v] [] = pure [some v, none, none] := by kernel_rfl
theorem ba_owner_new : ("bytearray.__new__".splitOn ".__new__").headD "" = "bytearray" := by simp +decide [String.splitOn, String.splitOnAux]
section
variable {prog : Program} {w : World} {A : Around} {E : Value → Shared → Prop} {s : Shared}
theorem ba_new (a : Value) {Q₁ : Value → Shared → Prop}
    (h : Q₁ (.ref s.heap.objs.size) { s with heap := s.heap.push { cls := .type "bytearray", data := .bytearray #[] } }) :
    codeAny (model prog w) A (.call (.builtin "bytearray.__new__") ⟨[.type "bytearray", a], []⟩) (wants Q₁ E) s := by
  refine codeAny_of_tree ?_
  show wpAny _ A.in1 (do checkBuiltinCall "bytearray.__new__" ⟨[.type "bytearray", a], []⟩; again (.builtin "bytearray.__new__" ⟨[.type "bytearray", a], []⟩)) _ _ s
  refine wpAny_bind (wpAny_of_eq (ba_newCall a) (wpAny_pure ⟨plainId_quiet ba_plain_new _, codeAny_builtin_stack ba_entry_new rfl fun p st => ?_⟩))
  rw [Around.under_plainId ba_plain_new _]
  have hsub := ba_sub
  have hown := ba_owner_new
  obtain ⟨hp, g, d, tk, os⟩ := s
  simp only [hown]
  wp_walk
  exact h
end
end Mine
end
section
open _root_.PySem _root_.PySem.W _root_.PySem.W.X _root_.PyProof.Rows
set_option Elab.async false
set_option maxRecDepth 100000
set_option maxHeartbeats 0
namespace Mine
theorem rs39 : True := by w_top off; trivial
theorem ba_rel_lookup : typeLookup (.type "bytearray") "__release_buffer__" = pure (some (.builtin "bytearray.__release_buffer__")) := by rw [typeLookup_type, builtinLookup_eq_fast]; kernel_rfl
theorem ba_rel_ends : (!("bytearray.__release_buffer__".endsWith ("." ++ "__release_buffer__"))) = false := by decide +kernel
theorem ba_rel_drop : "bytearray.__release_buffer__".dropRight ("__release_buffer__".length + 1) = "bytearray" := by first | decide +kernel | rfl
section
variable {prog : Program} {w : World} {A : Around} {E : Value → Shared → Prop} {s : Shared}
theorem ba_ownRelease {S : Addr} {Q : Bool → Shared → Prop} (hT : s.TypeIs (.ref S) "bytearray") (h : Q false s) : wpAny (model prog w) A (Builtin.Bytes.ownRelease (.ref S)) Q E s := by
  unfold Builtin.Bytes.ownRelease Builtin.Bytes.slotIsOwn
  refine wpAny_bind (wpAny_bind (wpAny_specialOf hT ba_rel_lookup ?_))
  dsimp only
  refine bm_if_false ba_rel_ends ?_
  rw [ba_rel_drop]
  refine wpAny_isInstance hT ba_sub ?_
  exact wpAny_pure h
theorem wpA_neg {α : Type} {M : PySem.Model} {c : Prop} [Decidable c] {a b : Sem α} {Q : α → Shared → Prop} (hc : ¬ c) (h : wpAny M A b Q E s) : wpAny M A (if c then a else b) Q E s := by rw [if_neg hc]; exact h
theorem wpA_pos {α : Type} {M : PySem.Model} {c : Prop} [Decidable c] {a b : Sem α} {Q : α → Shared → Prop} (hc : c) (h : wpAny M A a Q E s) : wpAny M A (if c then a else b) Q E s := by rw [if_pos hc]; exact h
theorem wpC_false {α : Type} {M : PySem.Model} {c : Bool} {a b : Sem α} {Q : α → Shared → Prop} (hc : c = false) (h : wpC M A b Q E s) : wpC M A (if c = true then a else b) Q E s := by
  subst hc
  exact h
theorem wpC_true {α : Type} {M : PySem.Model} {c : Bool} {a b : Sem α} {Q : α → Shared → Prop} (hc : c = true) (h : wpC M A a Q E s) : wpC M A (if c = true then a else b) Q E s := by
  subst hc
  exact h
theorem ba_write {M : PySem.Model} {S : Addr} {b c : Array UInt8} {Q : Unit → Shared → Prop} (hS : s.heap.get? S = some { cls := .type "bytearray", data := .bytearray b }) (hz : c.size ≤ sizeLine)
    (h : ∀ h', h'.get? S = some { cls := .type "bytearray", data := .bytearray c } → Heap.SameBut S s.heap h' → Q () { s with heap := h' }) (f : Array UInt8 → Array UInt8) (hf : f b = c) :
    wpAny M A (Builtin.Bytes.write (.ref S) f) Q E s := by
  show wpAny M A (updateBytearray S f) Q E s
  unfold updateBytearray
  refine wpAny_bind (wpAny_load hS ?_)
  show wpAny _ _ (update S (Obj.mapBytearray f) >>= fun _ => lookBehind S) _ _ _
  refine wpAny_bind (wpAny_update hS ?_)
  have hS₂ : (s.heap.update S (Obj.mapBytearray f)).get? S = some { cls := .type "bytearray", data := .bytearray c } := by
    rw [← hf]
    exact Heap.get?_update_self (Obj.mapBytearray f) hS rfl
  refine wpAny_lookBehind hS₂ ?_ ?_
  · show (if c.size > sizeLine then some "bytearray:memory" else none) = none
    rw [if_neg (Nat.not_lt.mpr hz)]
  · exact h _ hS₂ (Heap.SameBut.update ..)
theorem ba_init {S : Addr} {n : Int} {t : Tok} {Q : Fin → Shared → Prop} (hn0 : 0 < n) (hn : n ≤ 1000) (hg : A.guards = some []) (hS : s.heap.get? S = some { cls := .type "bytearray", data := .bytearray #[] })
    (h : ∀ h', h'.get? S = some { cls := .type "bytearray", data := .bytearray (Array.replicate n.toNat 0) } → (∀ b o, b ≠ S → s.heap.get? b = some o → h'.get? b = some o) → Q (.done (.ret .none)) { s with heap := h' }) :
    wpC (model prog w) A (Builtin.«bytearray.__init__» ⟨[.ref S, .int n t], []⟩) Q E s := by
  have hT : s.TypeIs (.ref S) "bytearray" := ⟨_, hS, rfl⟩
  unfold Builtin.«bytearray.__init__»
  refine wpC.bindA (ba_ownRelease hT ?_)
  refine wpC_false rfl ?_
  refine wpC.bindA (wpAny_of_eq (ba_bind _) ?_)
  refine wpC.bindA (wpAny_of_eq (a := ()) rfl ?_)
  refine wpC.bindA (wpAny_of_eq (a := ()) rfl ?_)
  refine wpC.bind ?_
  refine wpC.bind (wpC.exported hg ?_)
  refine wpC.bindA ?_
  show wpAny _ _ (load S >>= _) _ _ _
  refine wpAny_bind (wpAny_load hS (wpAny_pure (wpC.pure ?_)))
  refine wpC_false rfl ?_
  refine wpC.bindA (ba_write (c := #[]) hS (Nat.zero_le _) (fun h1 hS1 k1 => ?_) _ rfl)
  refine wpC.bindA (wpAny_of_eq (a := none) rfl ?_)
  refine wpC_false rfl ?_
  refine wpC.bindA (wpAny_of_eq (a := ()) rfl ?_)
  refine wpC.of ?_
  refine wpAny_bind (wpAny_specialOf (typeIs_int _ n t) F.slot_int_index.lookup ?_)
  refine bm_if_true rfl ?_
  refine wpAny_bind (wpAny_of_eq (a := .ok n) rfl ?_)
  refine bm_if_false (by simp only [Builtin.Bytes.fitsIndex, Bool.not_eq_false', Bool.and_eq_true, decide_eq_true_eq]; omega) ?_
  have c2 : (n == 2 ^ 63 - 1) = false := beq_false_of_ne (by omega)
  have c3 : Builtin.Bytes.tooLong n.toNat = false := decide_eq_false (by rw [sizeLine_eq]; omega)
  have c4 : 0 < n := hn0
  refine wpA_neg (c := n < 0) (by omega) ?_
  refine bm_if_false c2 ?_
  refine bm_if_false c3 ?_
  refine wpAny_bind (wpAny_rule ?_)
  refine wpA_pos (c := n > 0) c4 ?_
  refine wpAny_bind (ba_write (s := { s with heap := h1 }) (c := Array.replicate n.toNat 0) hS1 (by rw [Array.size_replicate, sizeLine_eq]; omega) (fun h2 hS2 k2 => ?_) _ rfl)
  exact wpAny_pure (h h2 hS2 fun b o hb e => (k2.2 b hb).trans ((k1.2 b hb).trans e))
end
end Mine
end
section
open _root_.PySem _root_.PySem.W _root_.PySem.W.X _root_.PyProof.Rows
set_option Elab.async false
set_option maxRecDepth 100000
set_option maxHeartbeats 0
namespace Mine
local macro_rules | `(tactic| walk_at "none") => `(tactic| skip)
theorem rs40 : True := by w_top off; trivial
section
variable {prog : Program} {w : World} {A : Around} {E : Value → Shared → Prop} {R : Result → Shared → Prop} {s : Shared}
theorem codeC.callBuiltin {id : String} {args : Args} {b : Builtin} (hq : plainId id = true) (hd : Builtin.Bytes.decodersThatHold.contains id = false) (hb : entryFor table id = some b)
    (h : wpAny (model prog w) A.in1 (checkBuiltinCall id args) (fun _ s₁ => wpC (model prog w) A.in1 (b args)
      (fun fin s' => match fin with | .done f => R (.ok f) s' | .again c' => c'.quiet = true ∧ codeC (model prog w) A c' R s') (fun e s' => R (.error e) s') s₁)
      (fun e s' => R (.error e) s') s) : codeC (model prog w) A (.call (.builtin id) args) R s := by
  refine codeC.tree rfl ?_
  show wpC _ A.in1 (do checkBuiltinCall id args; again (.builtin id args)) _ _ s
  refine wpC.bindA (wpAny_mono h (fun _ s₁ h₁ => wpC.pure ⟨plainId_quiet hq args, codeC.builtin hd hb ?_⟩) fun _ _ x => x)
  rw [Around.under_plainId hq args]
  exact h₁
theorem ba_call {n : Int} {t : Tok} {Q : Value → Shared → Prop} (hn0 : 0 < n) (hn : n ≤ 1000) (hg : A.guards = some [])
    (h : ∀ (S : Addr) (h' : Heap), S = s.heap.objs.size → h'.get? S = some { cls := .type "bytearray", data := .bytearray (Array.replicate n.toNat 0) } → (∀ b o, s.heap.get? b = some o → h'.get? b = some o) → Q (.ref S) { s with heap := h' }) :
    wpC (model prog w) A (call (.type "bytearray") [.int n t]) Q E s := by
  obtain ⟨c, tl, hmro⟩ := ba_called.mro
  refine wpC.call (codeC.tree rfl ?_)
  show wpC _ _ (callAny (.type "bytearray") _) _ _ _
  refine wpC.pure ⟨Code.quiet_builtin _ (by decide +kernel), codeC.builtin (by decide +kernel) F.entry_type_call ?_⟩
  rw [Around.under_plain (weight_type_call_type "bytearray" [.int n t] []) rfl]
  unfold Builtin.«type.__call__»
  refine wpC_false ba_called.notType ?_
  refine wpC_false ba_called.canCreate ?_
  refine wpC.bindA (wpAny_of_eq (ba_typeCall _) ?_)
  refine wpC.bindA (wpAny_of_eq hmro ?_)
  refine wpC_false rfl ?_
  refine wpC.bindA (wpAny_of_eq ba_called.made ?_)
  refine wpC.bindA (wpAny_of_eq (a := .builtin "bytearray.__new__") rfl ?_)
  refine wpC.bindA (wpAny_holding (wpAny_call (codeAny_mono (ba_new (E := E) (Q₁ := fun v s' => v = .ref s.heap.objs.size ∧ s' = { s with heap := s.heap.push { cls := .type "bytearray", data := .bytearray #[] } }) _ ⟨rfl, rfl⟩) fun r s₁ hr => ?_)))
  cases r with
  | error e => exact hr
  | ok fl =>
    cases fl with
    | ret obj =>
      obtain ⟨rfl, rfl⟩ := hr
      have hS : (s.heap.push { cls := .type "bytearray", data := .bytearray #[] }).get? s.heap.objs.size = some { cls := .type "bytearray", data := .bytearray #[] } := Heap.get?_push_size _ rfl
      have hT : ({ s with heap := s.heap.push { cls := .type "bytearray", data := .bytearray #[] } } : Shared).TypeIs (.ref s.heap.objs.size) "bytearray" := ⟨_, hS, rfl⟩
      refine wpC.bindA (wpAny_isInstance hT ba_sub ?_)
      refine wpC_false rfl ?_
      refine wpC.bind (wpC.holding ?_)
      unfold callSpecial?
      refine wpC.bindA (wpAny_specialOf hT ba_called.init.lookup ?_)
      refine wpC.holding ?_
      refine wpC.bindA (wpAny_of_eq (ba_called.init.bind _) ?_)
      refine wpC.bind (wpC.call (codeC.callBuiltin ba_plain_init (by decide +kernel) ba_entry_init (ba_called.init.check _ _ _ _ _ _ _ _ hT (ba_args_init _ _) ?_)))
      refine ba_init hn0 hn hg hS fun h' hS' k => ?_
      refine wpC.pure ?_
      refine wpC_false rfl ?_
      refine wpC.pure ?_
      exact h _ _ rfl hS' fun b o e => k b o (Nat.ne_of_lt (Heap.lt_size e)) (Heap.get?_push_of_some _ e)
    | _ => exact hr.elim
end
end Mine
end
section
open _root_.PySem _root_.PySem.W _root_.PySem.W.X _root_.PyProof.Rows
set_option Elab.async false
set_option maxRecDepth 100000
set_option maxHeartbeats 0
namespace Mine
theorem rs41 : True := by w_top off; trivial
theorem ba_slot_set : Slot "bytearray" "__setitem__" "bytearray.__setitem__" :=
  .of (owner := "bytearray") (n := "__setitem__") (by rw [typeLookup_type, builtinLookup_eq_fast]; kernel_rfl) (by decide +kernel) (by decide +kernel) (by decide +kernel)
    (by first | exact .inl (by decide +kernel) | exact .inr (by decide +kernel)) (by rw [isSubtype_type]; kernel_rfl)
theorem ba_entry_set : entryFor table "bytearray.__setitem__" = some Builtin.«bytearray.__setitem__» := by first | exact entryFor_of_tree (by kernel_rfl) | exact entryFor_of_fast (by kernel_rfl)
theorem ba_args_set (a b c : Value) : argsOk "bytearray.__setitem__" ⟨[a, b, c], []⟩ := by
  unfold argsOk; rw [signature?_of (id := "bytearray.__setitem__") (n := ['_', '_', 'm', 'e', 't', 'i', 't', 'e', 's', '_', '_']) (o := ['y', 'a', 'r', 'r', 'a', 'e', 't', 'y', 'b']) (by kernel_rfl) ba_owner]; kernel_rfl
theorem ba_no_bytes : typeLookup (.type "bytearray") "__bytes__" = pure none := by rw [typeLookup_type, builtinLookup_eq_fast]; kernel_rfl
theorem ba_no_index : typeLookup (.type "bytearray") "__index__" = pure none := by rw [typeLookup_type, builtinLookup_eq_fast]; kernel_rfl
theorem ba_buf_lookup : typeLookup (.type "bytearray") "__buffer__" = pure (some (.builtin "bytearray.__buffer__")) := by rw [typeLookup_type, builtinLookup_eq_fast]; kernel_rfl
theorem ba_buf_ends : (!("bytearray.__buffer__".endsWith ("." ++ "__buffer__"))) = false := by decide +kernel
theorem ba_buf_drop : "bytearray.__buffer__".dropRight ("__buffer__".length + 1) = "bytearray" := by first | decide +kernel | rfl
section
variable {prog : Program} {w : World} {A : Around} {E : Value → Shared → Prop} {s : Shared}
theorem ba_subscript {k : Int} {t : Tok} {Q : Option Int → Shared → Prop} (h0 : 0 ≤ k) (h1 : k < 1000) (h : Q (some k) s) : wpAny (model prog w) A (Builtin.Bytes.subscript? (.int k t)) Q E s := by
  unfold Builtin.Bytes.subscript?
  refine wpAny_bind (wpAny_specialOf (typeIs_int _ k t) F.slot_int_index.lookup ?_)
  refine bm_if_false rfl ?_
  refine wpAny_bind (wpAny_of_eq (a := k) rfl ?_)
  refine bm_if_false (by simp only [Builtin.Bytes.fitsIndex, Bool.not_eq_false', Bool.and_eq_true, decide_eq_true_eq]; omega) ?_
  exact wpAny_pure h
theorem ba_byteValue {x : Int} {t : Tok} {Q : UInt8 → Shared → Prop} (h0 : 0 ≤ x) (h1 : x < 256) (h : Q x.toNat.toUInt8 s) : wpAny (model prog w) A (Builtin.Bytes.byteValue (.int x t)) Q E s := by
  unfold Builtin.Bytes.byteValue
  refine wpAny_bind (wpAny_of_eq (a := x) rfl ?_)
  refine bm_if_false (by simp only [Bool.or_eq_false_iff, decide_eq_false_iff_not]; omega) ?_
  exact wpAny_pure h
theorem ba_payload {S : Addr} {b : Array UInt8} {Q : Array UInt8 → Shared → Prop} (hS : s.heap.get? S = some { cls := .type "bytearray", data := .bytearray b }) (h : Q b s) : wpAny (model prog w) A (Builtin.Bytes.payload (.ref S)) Q E s := by
  unfold Builtin.Bytes.payload Builtin.Bytes.payload?
  refine wpAny_bind (wpAny_bind (wpAny_load hS ?_))
  exact wpAny_pure (wpAny_pure h)
theorem ba_ownBuf {S : Addr} {Q : Bool → Shared → Prop} (hT : s.TypeIs (.ref S) "bytearray") (h : Q true s) : wpAny (model prog w) A (Builtin.Bytes.slotIsOwn (.ref S) "__buffer__") Q E s := by
  unfold Builtin.Bytes.slotIsOwn
  refine wpAny_bind (wpAny_specialOf hT ba_buf_lookup ?_)
  dsimp only
  refine bm_if_false ba_buf_ends ?_
  rw [ba_buf_drop]
  exact wpAny_isInstance hT ba_sub h
theorem ba_set {S : Addr} {b : Array UInt8} {k x : Int} {t u : Tok} {Q : Unit → Shared → Prop} (hS : s.heap.get? S = some { cls := .type "bytearray", data := .bytearray b })
    (h0 : 0 ≤ k) (hn : k < b.size) (hz : b.size ≤ 1000) (x0 : 0 ≤ x) (x1 : x < 256)
    (h : ∀ h', h'.get? S = some { cls := .type "bytearray", data := .bytearray (b.setIfInBounds k.toNat x.toNat.toUInt8) } → Heap.SameBut S s.heap h' → Q () { s with heap := h' }) :
    wpAny (model prog w) A (setItem (.ref S) (.int k t) (.int x u)) Q E s := by
  have hT : s.TypeIs (.ref S) "bytearray" := ⟨_, hS, rfl⟩
  unfold setItem
  try with_reducible refine wpAny_holding ?_
  refine wpAny_bind (wpAny_sequenceKey hT (by decide) ?_)
  refine wpAny_bind (wpAny_callSpecial?_slot (name := Str.ofString "__setitem__") hT ba_slot_set
    (wpAny_call_entry ba_slot_set hT ba_entry_set ?_ (ba_args_set _ _ _)))
  unfold Builtin.«bytearray.__setitem__»
  refine bm_if_false rfl ?_
  refine wpAny_bind (ba_subscript h0 (by omega) ?_)
  refine wpAny_bind (ba_byteValue x0 x1 ?_)
  refine wpAny_bind (ba_payload hS ?_)
  have e : seqIndex? k b.size = some k.toNat := by
    have h2 : ¬ k < 0 := by omega
    simp [seqIndex?, h2, hn]
  rw [e]
  refine wpAny_bind (ba_write hS (c := b.setIfInBounds k.toNat x.toNat.toUInt8) (by rw [Array.size_setIfInBounds, sizeLine_eq]; omega) (fun h2 hS2 k2 => ?_) _ rfl)
  exact wpAny_pure ⟨_, rfl, wpAny_pure (h h2 hS2 k2)⟩
theorem ba_bytes {S : Addr} {b : Array UInt8} {Q : Value → Shared → Prop} (hS : s.heap.get? S = some { cls := .type "bytearray", data := .bytearray b }) (hz : b.size ≤ 1000)
    (h : ∀ t k, Q (.bytes b t) { s with toks := k }) : wpAny (model prog w) A (call (.type "bytes") [.ref S]) Q E s := by
  refine callType_codes (Q₁ := fun obj s₁ => s₁.TypeIs obj "bytes" ∧ Q obj s₁) F.bm_called (F.bm_typeCall _) F.entry_object_init
    ?_ fun obj s₁ h₁ => ?_
  · have hT : s.TypeIs (.ref S) "bytearray" := ⟨_, hS, rfl⟩
    refine codeAny_of_tree ?_
    show wpAny _ A.in1.in1 (do checkBuiltinCall "bytes.__new__" ⟨[.type "bytes", .ref S], []⟩; again (.builtin "bytes.__new__" ⟨[.type "bytes", .ref S], []⟩)) _ _ s
    refine wpAny_bind (wpAny_of_eq (F.bm_newCall _) (wpAny_pure ⟨plainId_quiet F.bm_plain _, codeAny_builtin F.bm_entry ?_⟩))
    rw [Around.under_plainId F.bm_plain _]
    unfold Builtin.«bytes.__new__»
    refine wpAny_bind (wpAny_of_eq (a := true) rfl ?_)
    refine bm_if_false rfl ?_
    refine wpAny_bind (wpAny_of_eq F.bm_sub ?_)
    refine bm_if_false rfl ?_
    refine wpAny_bind (wpAny_of_eq (F.bm_bind _) ?_)
    refine wpAny_bind (wpAny_of_eq (a := ()) rfl ?_)
    refine wpAny_bind (wpAny_of_eq (a := ()) rfl ?_)
    refine bm_if_false rfl ?_
    refine wpAny_bind (wpAny_specialOf hT ba_no_bytes ?_)
    refine wpAny_bind (wpAny_bind ?_)
    show wpAny _ _ (load S >>= _) _ _ _
    refine wpAny_bind (wpAny_load hS (wpAny_pure (wpAny_pure ?_)))
    refine bm_if_false rfl ?_
    refine wpAny_bind (wpAny_specialOf hT ba_no_index ?_)
    refine bm_if_true rfl ?_
    first
      | show wpAny _ _ (Builtin.Bytes.buffer? "bytes.__new__" (.ref S) true >>= _) _ _ _
      | (refine wpAny_bind ?_; show wpAny _ _ (Builtin.Bytes.buffer? "bytes.__new__" (.ref S) true >>= _) _ _ _)
    refine wpAny_bind ?_
    unfold Builtin.Bytes.buffer?
    refine wpAny_bind (wpAny_specialOf hT ba_buf_lookup ?_)
    refine wpAny_bind (ba_ownBuf hT ?_)
    refine bm_if_false rfl ?_
    refine wpAny_bind (wpAny_specialOf hT ba_buf_lookup ?_)
    first
      | show wpAny _ _ (Builtin.Bytes.ownRelease (.ref S) >>= _) _ _ _
      | simp only []
    refine wpAny_bind (ba_ownRelease hT ?_)
    refine bm_if_false rfl ?_
    refine wpAny_bind (ba_payload hS ?_)
    refine wpAny_pure ?_
    refine wpAny_bind (wpAny_rule ?_)
    refine wpAny_bind (wpAny_mkBytes ?_ (by rw [sizeLine_eq]; omega))
    show wpAny _ _ (if (Value.type "bytes" == Value.type "bytes") = true then _ else _) _ _ _
    refine bm_if_true (by decide) ?_
    first
      | exact wpAny_pure ⟨PySem.W.typeIs_bytes _ _ _, h _ _⟩
      | exact wpAny_bind (wpAny_pure (wpAny_pure ⟨PySem.W.typeIs_bytes _ _ _, h _ _⟩))
  · exact ⟨h₁.1, F.args_object_init_2 obj _, object_init_meets F.bm_called.init.lookup F.bm_called.made (by decide) prog w A.in1 _ s₁ ⟨h₁.1, rfl, h₁.2⟩⟩
end
end Mine
end
section
open _root_.PySem _root_.PySem.W _root_.PySem.W.X _root_.PyProof.Rows
set_option Elab.async false
set_option maxRecDepth 100000
set_option maxHeartbeats 0
namespace Mine
local macro_rules | `(tactic| walk_at "none") => `(tactic| skip)
theorem rs42 : True := by w_top off; trivial
section
variable {M : PySem.Model} {A : Around} {E : Value → Shared → Prop} {s : Shared} {env : Env}
theorem wpC_execsCons {st rest} {Q : Flow → Shared → Prop}
    (h : wpC M A (exec st env) (fun f s' => match f with | .next => wpC M A (execs rest env) Q E s' | f => Q f s') E s) :
    wpC M A (execs (st :: rest) env) Q E s := fun Γ p hΓ hC => by
  rw [execs_cons, Sem.wp_bind']
  refine Sem.wp_mono M Γ _ (fun f p' s' h' => ?_) (fun _ _ _ h' => h') _ _ (h Γ p hΓ hC)
  cases f <;> first | exact h' Γ p' hΓ hC | exact h'
theorem wpC_assignName {x pos' value pos} {Q : Flow → Shared → Prop}
    (h : wpC M A (eval value env) (fun v s₁ => wpAny M A (storeName env x v) (fun _ => Q .next) E s₁) E s)
    (hs : swapsWith value (some (.Name x pos')) pos.line env = pure false := by rfl) :
    wpC M A (exec (.Assign [.Name x pos'] value pos) env) Q E s := fun Γ p hΓ hC => by
  simp only [exec_Assign_Name env x pos' value pos hs, Sem.wp_bind', Sem.wp_cmd_standAt, Sem.wp_bindName, Sem.wp_pure']
  exact Sem.wp_mono M Γ _ (fun v _ s₁ h₁ => h₁ Γ _ hΓ) (fun _ _ _ h' => h') _ _ (h Γ _ hΓ hC)
theorem wpC_Call {func : Expr} {args : List Expr} {pos : Pos} {Q : Value → Shared → Prop}
    (h : wpAny M A (eval func env) (fun f s₁ => wpC M A (callWith pos f [] (backTo pos (starEach args env)) []) Q E s₁) E s)
    (he : eval (.Call func args [] pos) env = (do callWith pos (← eval func env) [] (backTo pos (starEach args env)) (backToKw pos (keywordEach [] env))) := by rfl) :
    wpC M A (eval (.Call func args [] pos) env) Q E s := by
  rw [he]; exact wpC.bindA h
theorem wpC_tail {t : Sem Value} {Q : Value → Shared → Prop} (ht : wpC M A t Q E s) : wpC M A (t >>= fun r => holding [r] point >>= fun _ => pure r) Q E s :=
  wpC.bind (wpC.mono ht (fun r s₂ hr => wpC.of (wpAny_bind (wpAny_holding (wpAny_point (wpAny_pure hr))))) fun _ _ x => x)
theorem wpC_callWithType {pos : Pos} {T : String} {e : Expr} {rest : List Expr} {Q : Value → Shared → Prop}
    (h : wpAny M A (spliced (backTo pos (starEach (e :: rest) env))) (fun vs s₁ => wpC M A (call (.type T) vs) Q E s₁) E s)
    (he : starEach (e :: rest) env = (false, eval e env) :: starEach rest env := by rfl)
    (hplain : (backTo pos (starEach rest env)).any (·.1) = false := by rfl) :
    wpC M A (callWith pos (.type T) [] (backTo pos (starEach (e :: rest) env)) []) Q E s := by
  rw [he] at h ⊢
  have hp : (backTo pos ((false, eval e env) :: starEach rest env)).any (·.1) = false := by show (false || (backTo pos (starEach rest env)).any (·.1)) = false; rw [hplain]; rfl
  have h' := Calls.evalArgs_plain (f := .type T) (Q := fun a s₁ => wpC M A (call (.type T) a.pos a.kw) Q E s₁) h
  unfold callWith
  refine wpC.bindA (wpAny_holding (wpAny_mono h' (fun a s₁ h₁ => wpC.bindA (wpAny_standAt ?_)) fun _ _ x => x))
  simp only [hp, List.any_nil, Bool.or_false]
  refine wpC.bindA (wpAny_pure ?_)
  exact wpC_tail h₁
theorem wpC_keep {vs : List Value} {m : Sem Value} {Q : Value → Shared → Prop} (h : wpC M A m Q E s) : wpC M A (m.keep vs) Q E s := fun Γ p hΓ hC => by
  rw [Sem.wp_keep]; exact h Γ p hΓ hC
def AtFn (a : Addr) (s₁ : Shared) (P : Prop) : Prop := (∃ o fd, s₁.heap.get? a = some o ∧ o.data = .func fd) ∧ P
theorem wpC_callWithFn {pos : Pos} {a : Addr} {e : Expr} {rest : List Expr} {Q : Value → Shared → Prop}
    (h : wpAny M A (spliced (backTo pos (starEach (e :: rest) env))) (fun vs s₁ => AtFn a s₁ (wpC M A (call (.ref a) vs) Q E s₁)) E s)
    (he : starEach (e :: rest) env = (false, eval e env) :: starEach rest env := by rfl)
    (hplain : (backTo pos (starEach rest env)).any (·.1) = false := by rfl) (hlen : decide ((backTo pos ((false, eval e env) :: starEach rest env)).length + 2 * ([] : List (Option Str × Sem Value)).length > 30) = false := by rfl) :
    wpC M A (callWith pos (.ref a) [] (backTo pos (starEach (e :: rest) env)) []) Q E s := by
  rw [he] at h ⊢
  have hp : (backTo pos ((false, eval e env) :: starEach rest env)).any (·.1) = false := by show (false || (backTo pos (starEach rest env)).any (·.1)) = false; rw [hplain]; rfl
  have h' := Calls.evalArgs_plain (f := .ref a) (Q := fun x s₁ => (∃ o fd, s₁.heap.get? a = some o ∧ o.data = .func fd) ∧ wpC M A (call (.ref a) x.pos x.kw) Q E s₁) h
  unfold callWith
  refine wpC.bindA (wpAny_holding (wpAny_mono h' (fun x s₁ h₁ => wpC.bindA (wpAny_standAt ?_)) fun _ _ x => x))
  simp only [hp, List.any_nil, Bool.or_false]
  refine wpC.bindA (m := keeperOf (.ref a)) ?_
  unfold keeperOf
  obtain ⟨⟨o, fd, ho, hfd⟩, h₁⟩ := h₁
  refine wpAny_bind (wpAny_load ho ?_)
  rw [hfd]
  refine wpAny_pure ?_
  simp only [of_decide_eq_false hlen, if_false]
  exact wpC_tail (by unfold callMarked; exact wpC_keep h₁)
end
end Mine
end
section
open _root_.PySem _root_.PySem.W _root_.PySem.W.X _root_.PyProof.Rows
set_option Elab.async false
set_option maxRecDepth 100000
set_option maxHeartbeats 0
namespace Mine
theorem rs43 : True := by w_top off; trivial
section
variable {prog : Program} {w : World} {A A₀ : Around} {s : Shared} {K : Frag} {L : Addr} {h₀ base : Heap} {m mg mb : Str → Option Value} {news : List (Addr × Obj)} {p : Program} {loose : List Str} {mean : ExcName → Option Value}
theorem codeC_plain {env : Env} {outer : List Env} {R : Result → Shared → Prop} {name qual : Str} {params : Arguments} {body : List Stmt} {scope : Scope} {dV kV doc pm cdv ct oc : Value} {an od : Option Addr} {osl : Array (Option Value)} {f : Addr} {args : Args} {binds : List (Str × Value)}
    (B : Below A₀ base outer h₀) (F : Fr h₀ L s.heap m) (X₀ : K.In h₀) (N : News h₀ L s.heap news) (T : Top p loose mean mg mb h₀) (hA : A.frames = some (env :: outer)) (hf : env.frame = some L) (hke : env.scope.kind = .function)
    (ho : K.lookup f = some ⟨oc, od, .func (fnOf name qual params body scope dV kV doc pm an cdv ct), osl⟩) (hcd : codeIn K cdv qual = true) (hroom : A.depth < recursionLimit)
    (hbind : BindsTo s (fnOf name qual params body scope dV kV doc pm an cdv ct) args binds) (hloc : ∀ y ∈ binds, scope.names.lookup y.1 = some .local)
    (h : ∀ g L' h₁, Fr h₀ L g m → Fr g L' h₁ (fun y => binds.reverse.lookup y) → News g L' h₁ news → Below A base (env :: outer) g → K.In g → Top p loose mean mg mb g →
      wpC (model prog w) (A.deeper (envOf qual scope L' f cdv)) (execs body (envOf qual scope L' f cdv))
        (fun fl s' => LeaveK h₀ L m g R (match fl with | .ret v => v | _ => .none) s')
        (fun e s' => wpAny (model prog w) (A.deeper (envOf qual scope L' f cdv)) (leaving (envOf qual scope L' f cdv) e) (fun _ s'' => R (.error e) s'') (fun e' s'' => R (.error e') s'') s')
        { s with heap := h₁, toks := s.toks + binds.length })
    (hco : scope.isCoroutine = false) (hgen : scope.isGenerator = false) (hk : scope.kind = .function)
    (hcell : ∀ x ∈ scope.names, x.2 ≠ .cell) : codeC (model prog w) A (.call (.ref f) args) R s := by
  obtain ⟨FG, BG, st, lv⟩ := groundX (R := R) B F N hA hf hke
  have hlim := T.nolimit.keeps F.keep
  refine codeC.callFunction (o := ⟨oc, od, .func (fnOf name qual params body scope dV kV doc pm an cdv ct), osl⟩) hroom ((X₀.keeps F.keep) _ _ ho) rfl hco hgen rfl (codeRec_of (X₀.keeps F.keep) hcd) (hbind _ _ _ _ ?_)
  refine wpAny_newFunctionEnv hcell hloc (fun h₁ hns hsb => ⟨hlim.fresh _ hsb, codeC.func ?_⟩) hk
  have hk₁ : ∀ b o, s.heap.get? b = some o → h₁.get? b = some o := fun b o e => hsb.extBut b o (Nat.ne_of_lt (Heap.lt_size e)) (Heap.get?_push_of_some _ e)
  exact wpC.mono (h _ s.heap.objs.size h₁ FG ⟨hns, fun b o e => hk₁ b o (of_hideAll _ e), Nat.le_of_eq (hideAll_size _ _)⟩
    (fun p hp => ⟨hk₁ _ _ (N p hp).1, Nat.ne_of_lt (Heap.lt_size (N p hp).1), hideAll_none _ (List.mem_map_of_mem hp)⟩) BG (X₀.keeps st) (T.keeps st)) (fun fl s' hl => lv _ _ hl) fun _ _ y => y
end
end Mine
end
section
open _root_.PySem _root_.PySem.W _root_.PySem.W.X _root_.PyProof.Rows
set_option Elab.async false
set_option maxRecDepth 100000
set_option maxHeartbeats 0
namespace Mine
local macro_rules | `(tactic| walk_at "none") => `(tactic| skip)
theorem rs44 : True := by w_top off; trivial
def baObj (b : Array UInt8) : Obj := { cls := .type "bytearray", data := .bytearray b }
section
variable {prog : Program} {w : World} {A : Around} {E : Value → Shared → Prop} {s : Shared} {h₀ : Heap} {L : Addr} {m : Str → Option Value} {news : List (Addr × Obj)}
theorem ba_callN {n : Int} {t : Tok} {Q : Value → Shared → Prop} (F : Fr h₀ L s.heap m) (N : News h₀ L s.heap news) (hn0 : 0 < n) (hn : n ≤ 1000) (hg : A.guards = some [])
    (h : ∀ (S : Addr) (h' : Heap), Fr h₀ L h' m → News h₀ L h' ((S, baObj (Array.replicate n.toNat 0)) :: news) → (∀ p ∈ news, p.1 < S) → Q (.ref S) { s with heap := h' }) :
    wpC (model prog w) A (call (.type "bytearray") [.int n t]) Q E s := by
  refine ba_call hn0 hn hg fun S h' hS hg hk => ?_
  subst hS
  refine h _ h' (F.keptAll hk) (fun p hp => ?_) fun p hp => Heap.lt_size (N p hp).1
  rcases List.mem_cons.mp hp with rfl | hp
  · exact ⟨hg, fun e => absurd F.ns.lt (e ▸ Nat.lt_irrefl _), next_is_new F⟩
  · exact N.grown hk p hp
theorem ba_ints {b : Array UInt8} {zs : List Int} {k : Nat} {x : Int} (hb : KBw.bInts b = zs) (x0 : 0 ≤ x) (x1 : x < 256) : KBw.bInts (b.setIfInBounds k x.toNat.toUInt8) = zs.set k x := by
  subst hb
  obtain ⟨n, rfl⟩ := Int.eq_ofNat_of_zero_le x0
  have e : ((n.toUInt8).toNat : Int) = (n : Int) := by
    have h1 : (n.toUInt8).toNat = n := by
      first
        | (show (UInt8.ofNat n).toNat = n; rw [UInt8.toNat_ofNat']; omega)
        | (simp; omega)
    rw [h1]
  obtain ⟨l⟩ := b
  show ((((⟨l⟩ : Array UInt8).setIfInBounds k _).toList).map fun c => ((c.toNat : Nat) : Int)) = (l.map fun c => ((c.toNat : Nat) : Int)).set k _
  rw [Array.toList_setIfInBounds, List.map_set]
  show _ = _
  rw [show ((((n : Int).toNat).toUInt8.toNat : Nat) : Int) = (n : Int) from e]
theorem ba_setN {S : Addr} {b : Array UInt8} {zs : List Int} {k x : Int} {t u : Tok} {p1 p2 : Addr × Obj} {Q : Unit → Shared → Prop} (F : Fr h₀ L s.heap m) (N : News h₀ L s.heap (p1 :: p2 :: (S, baObj b) :: news)) (hb : KBw.bInts b = zs)
    (c1 : p1.2.cls ≠ Value.type "bytearray") (c2 : p2.2.cls ≠ Value.type "bytearray") (hlt : ∀ p ∈ news, p.1 < S) (h0 : 0 ≤ k) (hn : k < zs.length) (hz : zs.length ≤ 1000) (x0 : 0 ≤ x) (x1 : x < 256)
    (h : ∀ h' b', KBw.bInts b' = zs.set k.toNat x → Fr h₀ L h' m → News h₀ L h' (p1 :: p2 :: (S, baObj b') :: news) → Q () { s with heap := h' }) :
    wpAny (model prog w) A (setItem (.ref S) (.int k t) (.int x u)) Q E s := by
  have hS := N (S, baObj b) (.tail _ (.tail _ (.head _)))
  have hsz : b.size = zs.length := by rw [← hb, KBw.ints_length]
  have ne : ∀ p ∈ p1 :: p2 :: (S, baObj b) :: news, p.2.cls ≠ Value.type "bytearray" → p.1 ≠ S := fun p hp hc e => by
    have h1 := (N p hp).1
    rw [e, hS.1] at h1
    exact hc (by rw [← Option.some.inj h1]; rfl)
  refine ba_set hS.1 h0 (by rw [hsz]; exact hn) (by rw [hsz]; exact hz) x0 x1 fun h' hS' hs => h h' _ (ba_ints hb x0 x1) ?_ ?_
  · exact ⟨F.ns.sameBut hs (Ne.symm hS.2.1), fun a ob e => (hs.2 a (fun q => by rw [q, hS.2.2] at e; cases e)).trans (F.keep a ob e), F.above⟩
  · intro p hp
    have keep : ∀ p ∈ p1 :: p2 :: (S, baObj b) :: news, p.1 ≠ S → h'.get? p.1 = some p.2 ∧ p.1 ≠ L ∧ h₀.get? p.1 = none := fun p hp hn => ⟨(hs.2 p.1 hn).trans (N p hp).1, (N p hp).2⟩
    rcases List.mem_cons.mp hp with rfl | hp
    · exact keep _ (.head _) (ne _ (.head _) c1)
    rcases List.mem_cons.mp hp with rfl | hp
    · exact keep _ (.tail _ (.head _)) (ne _ (.tail _ (.head _)) c2)
    rcases List.mem_cons.mp hp with rfl | hp
    · exact ⟨hS', hS.2⟩
    · exact keep _ (.tail _ (.tail _ (.tail _ hp))) (Nat.ne_of_lt (hlt p hp))
theorem ba_bytesN {S : Addr} {b : Array UInt8} {zs : List Int} {Q : Value → Shared → Prop} (N : News h₀ L s.heap news) (hm : (S, baObj b) ∈ news) (hb : KBw.bInts b = zs) (hz : zs.length ≤ 1000)
    (h : ∀ r t k, KBw.bInts r = zs → Q (.bytes r t) { s with toks := k }) : wpAny (model prog w) A (call (.type "bytes") [.ref S]) Q E s :=
  ba_bytes (N _ hm).1 (by rw [← KBw.ints_length, hb]; exact hz) fun t k => h b t k hb
end
end Mine
end
section
open _root_.PySem _root_.PySem.W _root_.PySem.W.X _root_.PyProof.Rows
set_option Elab.async false
set_option maxRecDepth 100000
set_option maxHeartbeats 0
namespace Mine
theorem rs45 : True := by w_top off; trivial
theorem lt_swap0 {J S : Addr} {o o' : Obj} {news : List (Addr × Obj)} (h : ∀ p ∈ (S, o) :: news, p.1 < J) : ∀ p ∈ (S, o') :: news, p.1 < J := by
  intro p hp
  rcases List.mem_cons.mp hp with rfl | hp
  · exact h (S, o) (.head _)
  · exact h p (.tail _ hp)
theorem lt_swap {J S : Addr} {a : Addr × Obj} {o o' : Obj} {news : List (Addr × Obj)} (h : ∀ p ∈ a :: (S, o) :: news, p.1 < J) : ∀ p ∈ a :: (S, o') :: news, p.1 < J := by
  intro p hp
  rcases List.mem_cons.mp hp with rfl | hp
  · exact h _ (.head _)
  rcases List.mem_cons.mp hp with rfl | hp
  · exact h (S, o) (.tail _ (.head _))
  · exact h p (.tail _ (.tail _ hp))
local macro_rules | `(tactic| walk_at "setItem ref int") => `(tactic| (k_here; (try dsimp only); (with_reducible show wpAny _ _ (PySem.setItem (Value.ref _) (Value.int _ _) (Value.int _ _)) _ _ _); k_dflt (refine' ba_setN (by k_asm) (by k_asm) (by assumption) (by intro e; exact absurd (Value.type.inj e) (by decide)) (by intro e; exact absurd (Value.type.inj e) (by decide)) (by assumption) (by omega) (by (try simp only [List.length_set]); omega) (by (try simp only [List.length_set]); omega) (by assumption) (by assumption) ?_); intro h9 b9 hb9 F9 N9))
local macro_rules | `(tactic| walk_at "KrsRest") => `(tactic| (refine Halt.go ?_))
abbrev swEnv (L : Addr) : Env := envOf (Str.ofString "_byteswap") (fnScope 13) L 92 (.ref 91)
abbrev swBody : List Stmt := forBody ((fnBody 13).getD 1 (.Pass ⟨0,0,0,0⟩))
def swStep (ks zs : List Int) (i : Nat) : List Int :=
  ((zs.set (0 + (i : Int) * 3 + 3 - 1 - (0 + ((0 : Nat) : Int))).toNat (ks.getD (0 + (i : Int) * 3 + (0 + ((0 : Nat) : Int))).toNat 0)).set (0 + (i : Int) * 3 + 3 - 1 - (0 + ((0 + 1 : Nat) : Int))).toNat (ks.getD (0 + (i : Int) * 3 + (0 + ((0 + 1 : Nat) : Int))).toNat 0)).set
    (0 + (i : Int) * 3 + 3 - 1 - (0 + ((0 + 1 + 1 : Nat) : Int))).toNat (ks.getD (0 + (i : Int) * 3 + (0 + ((0 + 1 + 1 : Nat) : Int))).toNat 0)
def swN (ks : List Int) : Nat → Nat → List Int → List Int
  | 0, _, zs => zs
  | k + 1, i, zs => swN ks k (i + 1) (swStep ks zs i)
theorem sw_loop {w : World} {loose : List Str} {mean : ExcName → Option Value} {mg mb : Str → Option Value} {dp un : Nat} {gd : Option (List Code)} {cn : Str} {cs : Scope} {aa L₀ : Addr} {ccd : Value} {cl : List (Str × Addr)} {outer : List Env} {g : Heap} {L : Addr} {E : Value → Shared → Prop}
   (cX : (Mine.hd.heap_39 w.params).In g) (cT : Top Mine.hd.view_39 loose mean mg mb g) (hE : PassesOwn (model PP w) ((ktrTop dp un gd cn cs L₀ aa ccd cl outer).deeper (swEnv L)) (swEnv L) E) (cd : dp + 1 < recursionLimit) (cu : un + 8 < cLine)
   {s : Shared} {Q : Flow → Shared → Prop} {I S : Addr} {news : List (Addr × Obj)} {b : Array UInt8} {ks : List Int} {t t2 : Tok} (hb : KBw.bInts b = ks) (hl : ks.length = 36) (hS : ∀ p ∈ news, p.1 < S) (hI : ∀ p ∈ (S, baObj b) :: news, p.1 < I)
   (hQ : ∀ (m' : Str → Option Value) (h' : Heap) (tk' : Nat) (b' : Array UInt8), KBw.bInts b' = swN ks 12 0 (List.replicate 36 0) → Fr g L h' (fun y => if y = Str.ofString "swapped_data" then some (.ref S) else if y = Str.ofString "width" then some (.int 3 t2) else if y = Str.ofString "data" then some (.bytes b t) else m' y) → News g L h' ((S, baObj b') :: news) → Q .next { s with heap := h', toks := tk' }) :
   ∀ (k i : Nat) (m : Str → Option Value) (zs : List Int) (z : Array UInt8), k + i = 12 → KBw.bInts z = zs → zs.length = 36 → swN ks k i zs = swN ks 12 0 (List.replicate 36 0) →
   KrsRest PP w ((ktrTop dp un gd cn cs L₀ aa ccd cl outer).deeper (swEnv L)) E g (swEnv L) (Str.ofString "i") swBody Q s I 0 3 12 k i (fun y => if y = Str.ofString "swapped_data" then some (.ref S) else if y = Str.ofString "width" then some (.int 3 t2) else if y = Str.ofString "data" then some (.bytes b t) else m y) ((S, baObj z) :: news) := by
  intro k
  induction k with
  | zero =>
    intro i m zs z hki hz hzl he
    exact fun h tk F N => hQ m h tk z (by rw [hz, ← he]; rfl) F N
  | succ k ih =>
    intro i m zs z hki hz hzl he
    refine KrsRest.succ rfl fun t9 h9 tk9 F9 N9 => ?_
    obtain ⟨tb, htb⟩ : ∃ x, x = swBody := ⟨_, rfl⟩
    obtain ⟨sc, hsc⟩ : ∃ x, x = fnScope 13 := ⟨_, rfl⟩
    unfold swEnv
    rw [← htb, ← hsc]
    conv at htb => rhs; whnf
    conv at hsc => rhs; whnf
    subst htb hsc
    have hi0 : (0 : Int) ≤ 0 + (i : Int) * 3 := by omega
    have hi1 : 0 + (i : Int) * 3 ≤ 33 := by omega
    (repeat' (first | (k_unfold; (try dsimp only)) | (k_end; wrow_close) | (k_end; first | (k_dflt (refine UnrEnd.go (by k_asm) (by k_asm) (by first | assumption | exact lt_swap (by assumption)) ?_))) | (((with_reducible show wpAny _ _ (pyIter (Value.ref _)) (fun it s₂ => LoopAtV _ _ _ _ _ _ _ _ _ it s₂) _ _); k_dflt (first | (refine iter_rangeUnr (n := 3) (by rfl) (by assumption) (by decide) (by decide) (by k_asm) (by k_asm) ?_)); intro _ _)) | walk1 | (dsimp only; walk1) | (leave1; try dsimp only) | fail "no step"))
    rename_i h8 b8 hb8 F8 N8 h5 k5 F5 N5
    have hs : (swStep ks zs i).length = 36 := by simp only [swStep, List.length_set]; exact hzl
    refine UnrEnd.go (Fr.put (Str.ofString "swapped_data") (Fr.put (Str.ofString "width") (Fr.put (Str.ofString "data") (F5) rfl) rfl) rfl) N5 (lt_swap0 hI) ?_
    exact ih (i + 1) _ _ _ (by omega) hb8 hs he
end Mine
end
section
open _root_.PySem _root_.PySem.W _root_.PySem.W.X _root_.PyProof.Rows
set_option Elab.async false
set_option maxRecDepth 100000
set_option maxHeartbeats 0
namespace Mine
local macro_rules | `(tactic| walk_at "none") => `(tactic| skip)
local macro_rules | `(tactic| walk_at "none") => `(tactic| skip)
local macro_rules | `(tactic| walk_at "none") => `(tactic| skip)
theorem rs46 : True := by w_top off; trivial
theorem lt_swapq0 {J S : Addr} {o o' : Obj} {news : List (Addr × Obj)} (h : ∀ p ∈ (S, o) :: news, p.1 < J) : ∀ p ∈ (S, o') :: news, p.1 < J := by
  intro p hp
  rcases List.mem_cons.mp hp with rfl | hp
  · exact h (S, o) (.head _)
  · exact h p (.tail _ hp)
theorem lt_swapq {J S : Addr} {a : Addr × Obj} {o o' : Obj} {news : List (Addr × Obj)} (h : ∀ p ∈ a :: (S, o) :: news, p.1 < J) : ∀ p ∈ a :: (S, o') :: news, p.1 < J := by
  intro p hp
  rcases List.mem_cons.mp hp with rfl | hp
  · exact h _ (.head _)
  rcases List.mem_cons.mp hp with rfl | hp
  · exact h (S, o) (.tail _ (.head _))
  · exact h p (.tail _ (.tail _ hp))
local macro_rules | `(tactic| walk_at "KrsRest") => `(tactic| (refine Halt.go ?_))
theorem swN_length (ks : List Int) : ∀ (k i : Nat) (zs : List Int), (swN ks k i zs).length = zs.length
  | 0, _, _ => rfl
  | k + 1, i, zs => by rw [swN, swN_length ks k]; simp only [swStep, List.length_set]
theorem allLt_to {d : Addr} : ∀ {l : List (Addr × Obj)}, AllLt d l → ∀ p ∈ l, p.1 < d
  | [], _, _, hp => nomatch hp
  | _ :: _, h, p, hp => by
    rcases List.mem_cons.mp hp with rfl | hp
    · exact h.1
    · exact allLt_to h.2 p hp
theorem allLt_cons {I S : Addr} {o : Obj} {news : List (Addr × Obj)} (h : @LT.lt Nat _ S I ∧ AllLt I news) : ∀ p ∈ (S, o) :: news, p.1 < I := allLt_to (l := (S, o) :: news) h
theorem krs_put {prog : Program} {w : World} {A : Around} {E : Value → Shared → Prop} {h₀ : Heap} {env : Env} {z : Str} {body : List Stmt} {Q : Flow → Shared → Prop} {s : Shared} {I : Addr} {a c : Int} {n k i : Nat} {m : Str → Option Value} {news : List (Addr × Obj)} {v : Value} (x : Str) (hx : m x = some v)
    (h : KrsRest prog w A E h₀ env z body Q s I a c n k i (fun y => if y = x then some v else m y) news) : KrsRest prog w A E h₀ env z body Q s I a c n k i m news := by
  have e : (fun y => if y = x then some v else m y) = m := by
    funext y
    by_cases q : y = x
    · rw [if_pos q, q, hx]
    · rw [if_neg q]
  rw [e] at h; exact h
theorem c_swap {w : World} {loose : List Str} {mean : ExcName → Option Value} {mg mb : Str → Option Value} {dp un : Nat} {cn : Str} {cs : Scope} {a : Addr} {ccd : Value} {cl : List (Str × Addr)} {outer : List Env} {A₀ : Around} {base h₀ : Heap} {L : Addr} {m : Str → Option Value} {news : List (Addr × Obj)} {s : Shared} {Q E : Value → Shared → Prop}
   (cx : Cx 2 w loose mean mg mb dp un cs outer A₀ base h₀ L m s.heap news) {b : Array UInt8} {t t2 : Tok} {ks : List Int} (hb : KBw.bInts b = ks) (hl : ks.length = 36)
   (hret : ∀ (r : Array UInt8) (t' : Tok) (h' : Heap) (tk' : Nat), KBw.bInts r = swN ks 12 0 (List.replicate 36 0) → Fr h₀ L h' m → News h₀ L h' news → Q (.bytes r t') { s with heap := h', toks := tk' }) :
  wpC (model PP w) (ktrTop dp un (some []) cn cs L a ccd cl outer) (call (.ref 92) [.bytes b t, .int 3 t2]) Q E s := by
  obtain ⟨cB, cF, cX, cN, cT, ck, cd, cu⟩ := cx
  refine wpC.call ?_
  k_dflt (refine' codeC_plain ?k1 ?k2 ?k3 ?k4 ?k5 ?kA ?kF ?kK ?k6 ?k7 ?k8 ?k9 ?kB ?_ ?c2 ?c3 ?c4 ?c5; (case kA => exact rfl); (case kF => exact rfl); (case kK => assumption); (case k1 => k_asm); (case k2 => k_asm); (case k3 => k_asm); (case k4 => k_asm); (case k5 => k_asm); (case k6 => k_is); (case k7 => k_is); (case k8 => ktr_room); (case k9 => exact BindsTo.of_eq rfl); (case c5 => decide); (case kB => exact locs rfl); (case c2 => exact rfl); (case c3 => exact rfl); (case c4 => exact rfl); intro g' L' h' FG' F' N' B' X' T'; (try dsimp only); (try k_lift B'); (try k_fold))
  refine wpC_execsCons (wpC_assignName (wpC_Call ?_))
  (repeat' (first | (k_unfold; (try dsimp only)) | (k_end; wrow_close) | (k_end; first | (k_dflt (refine UnrEnd.go (by k_asm) (by k_asm) (by first | assumption | exact lt_swap (by assumption)) ?_))) | ((k_here; (try dsimp only); (with_reducible show wpAny _ _ (PySem.setItem (Value.ref _) (Value.int _ _) (Value.int _ _)) _ _ _); k_dflt (refine' ba_setN (by k_asm) (by k_asm) (by assumption) (by intro e; exact absurd (Value.type.inj e) (by decide)) (by intro e; exact absurd (Value.type.inj e) (by decide)) (by assumption) (by omega) (by (try simp only [List.length_set]); omega) (by (try simp only [List.length_set]); omega) (by assumption) (by assumption) ?_); intro _ _ _ _ _)) | (((with_reducible show wpAny _ _ (pyIter (Value.ref _)) (fun it s₂ => LoopAtV _ _ _ _ _ _ _ _ _ it s₂) _ _); k_dflt (first | (refine iter_rangeUnr (n := 3) (by rfl) (by assumption) (by decide) (by decide) (by k_asm) (by k_asm) ?_)); intro _ _)) | ((k_here; (with_reducible show wpAny _ _ (call (Value.builtin "len") [Value.bytes _ _]) _ _ _); k_dflt (refine len_b 36 (by assumption) (by omega) (by omega) ?_); intro _ _)) | walk1 | (dsimp only; walk1) | (leave1; try dsimp only) | fail "no step"))
  refine wpC_callWithType ?_
  (repeat' (first | (k_unfold; (try dsimp only)) | (k_end; wrow_close) | (k_end; first | (k_dflt (refine UnrEnd.go (by k_asm) (by k_asm) (by first | assumption | exact lt_swap (by assumption)) ?_))) | ((k_here; (try dsimp only); (with_reducible show wpAny _ _ (PySem.setItem (Value.ref _) (Value.int _ _) (Value.int _ _)) _ _ _); k_dflt (refine' ba_setN (by k_asm) (by k_asm) (by assumption) (by intro e; exact absurd (Value.type.inj e) (by decide)) (by intro e; exact absurd (Value.type.inj e) (by decide)) (by assumption) (by omega) (by (try simp only [List.length_set]); omega) (by (try simp only [List.length_set]); omega) (by assumption) (by assumption) ?_); intro _ _ _ _ _)) | (((with_reducible show wpAny _ _ (pyIter (Value.ref _)) (fun it s₂ => LoopAtV _ _ _ _ _ _ _ _ _ it s₂) _ _); k_dflt (first | (refine iter_rangeUnr (n := 3) (by rfl) (by assumption) (by decide) (by decide) (by k_asm) (by k_asm) ?_)); intro _ _)) | ((k_here; (with_reducible show wpAny _ _ (call (Value.builtin "len") [Value.bytes _ _]) _ _ _); k_dflt (refine len_b 36 (by assumption) (by omega) (by omega) ?_); intro _ _)) | walk1 | (dsimp only; walk1) | (leave1; try dsimp only) | fail "no step"))
  refine ba_callN (by assumption) (by assumption) (by decide) (by decide) rfl ?_
  intro S h1 F1 N1 l1
  (repeat' (first | (k_unfold; (try dsimp only)) | (k_end; wrow_close) | (k_end; first | (k_dflt (refine UnrEnd.go (by k_asm) (by k_asm) (by first | assumption | exact lt_swap (by assumption)) ?_))) | ((k_here; (try dsimp only); (with_reducible show wpAny _ _ (PySem.setItem (Value.ref _) (Value.int _ _) (Value.int _ _)) _ _ _); k_dflt (refine' ba_setN (by k_asm) (by k_asm) (by assumption) (by intro e; exact absurd (Value.type.inj e) (by decide)) (by intro e; exact absurd (Value.type.inj e) (by decide)) (by assumption) (by omega) (by (try simp only [List.length_set]); omega) (by (try simp only [List.length_set]); omega) (by assumption) (by assumption) ?_); intro _ _ _ _ _)) | (((with_reducible show wpAny _ _ (pyIter (Value.ref _)) (fun it s₂ => LoopAtV _ _ _ _ _ _ _ _ _ it s₂) _ _); k_dflt (first | (refine iter_rangeUnr (n := 3) (by rfl) (by assumption) (by decide) (by decide) (by k_asm) (by k_asm) ?_)); intro _ _)) | ((k_here; (with_reducible show wpAny _ _ (call (Value.builtin "len") [Value.bytes _ _]) _ _ _); k_dflt (refine len_b 36 (by assumption) (by omega) (by omega) ?_); intro _ _)) | walk1 | (dsimp only; walk1) | (leave1; try dsimp only) | fail "no step"))
  refine wpC.of ?_
  (repeat' (first | (k_unfold; (try dsimp only)) | (k_end; wrow_close) | (k_end; first | (k_dflt (refine UnrEnd.go (by k_asm) (by k_asm) (by first | assumption | exact lt_swap (by assumption)) ?_))) | ((k_here; (try dsimp only); (with_reducible show wpAny _ _ (PySem.setItem (Value.ref _) (Value.int _ _) (Value.int _ _)) _ _ _); k_dflt (refine' ba_setN (by k_asm) (by k_asm) (by assumption) (by intro e; exact absurd (Value.type.inj e) (by decide)) (by intro e; exact absurd (Value.type.inj e) (by decide)) (by assumption) (by omega) (by (try simp only [List.length_set]); omega) (by (try simp only [List.length_set]); omega) (by assumption) (by assumption) ?_); intro _ _ _ _ _)) | (((with_reducible show wpAny _ _ (pyIter (Value.ref _)) (fun it s₂ => LoopAtV _ _ _ _ _ _ _ _ _ it s₂) _ _); k_dflt (first | (refine iter_rangeUnr (n := 3) (by rfl) (by assumption) (by decide) (by decide) (by k_asm) (by k_asm) ?_)); intro _ _)) | ((k_here; (with_reducible show wpAny _ _ (call (Value.builtin "len") [Value.bytes _ _]) _ _ _); k_dflt (refine len_b 36 (by assumption) (by omega) (by omega) ?_); intro _ _)) | walk1 | (dsimp only; walk1) | (leave1; try dsimp only) | fail "no step"))
  unfold Halt
  refine krs_put (Str.ofString "data") rfl (krs_put (Str.ofString "width") rfl (krs_put (Str.ofString "swapped_data") rfl (sw_loop (by assumption) (by assumption) (by first | passes_own | with_unfolding_all passes_own) (by omega) (by omega) hb hl (by assumption) (b := b) (allLt_cons (by assumption)) ?_ 12 0 _ (List.replicate 36 0) _ rfl (by decide) (by decide) rfl)))
  intro m2 h2 k2 b2 hb2 F2 N2
  (repeat' (first | (k_unfold; (try dsimp only)) | (k_end; wrow_close) | (k_end; first | (k_dflt (refine UnrEnd.go (by k_asm) (by k_asm) (by first | assumption | exact lt_swap (by assumption)) ?_))) | ((k_here; (try dsimp only); (with_reducible show wpAny _ _ (PySem.setItem (Value.ref _) (Value.int _ _) (Value.int _ _)) _ _ _); k_dflt (refine' ba_setN (by k_asm) (by k_asm) (by assumption) (by intro e; exact absurd (Value.type.inj e) (by decide)) (by intro e; exact absurd (Value.type.inj e) (by decide)) (by assumption) (by omega) (by (try simp only [List.length_set]); omega) (by (try simp only [List.length_set]); omega) (by assumption) (by assumption) ?_); intro _ _ _ _ _)) | (((with_reducible show wpAny _ _ (pyIter (Value.ref _)) (fun it s₂ => LoopAtV _ _ _ _ _ _ _ _ _ it s₂) _ _); k_dflt (first | (refine iter_rangeUnr (n := 3) (by rfl) (by assumption) (by decide) (by decide) (by k_asm) (by k_asm) ?_)); intro _ _)) | ((k_here; (with_reducible show wpAny _ _ (call (Value.builtin "len") [Value.bytes _ _]) _ _ _); k_dflt (refine len_b 36 (by assumption) (by omega) (by omega) ?_); intro _ _)) | walk1 | (dsimp only; walk1) | (leave1; try dsimp only) | fail "no step"))
  refine ba_bytesN (by assumption) (List.Mem.head _) hb2 (by rw [swN_length]; decide) ?_
  intro r tr kr hr
  (repeat' (first | (k_unfold; (try dsimp only)) | (k_end; wrow_close) | (k_end; first | (k_dflt (refine UnrEnd.go (by k_asm) (by k_asm) (by first | assumption | exact lt_swap (by assumption)) ?_))) | ((k_here; (try dsimp only); (with_reducible show wpAny _ _ (PySem.setItem (Value.ref _) (Value.int _ _) (Value.int _ _)) _ _ _); k_dflt (refine' ba_setN (by k_asm) (by k_asm) (by assumption) (by intro e; exact absurd (Value.type.inj e) (by decide)) (by intro e; exact absurd (Value.type.inj e) (by decide)) (by assumption) (by omega) (by (try simp only [List.length_set]); omega) (by (try simp only [List.length_set]); omega) (by assumption) (by assumption) ?_); intro _ _ _ _ _)) | (((with_reducible show wpAny _ _ (pyIter (Value.ref _)) (fun it s₂ => LoopAtV _ _ _ _ _ _ _ _ _ it s₂) _ _); k_dflt (first | (refine iter_rangeUnr (n := 3) (by rfl) (by assumption) (by decide) (by decide) (by k_asm) (by k_asm) ?_)); intro _ _)) | ((k_here; (with_reducible show wpAny _ _ (call (Value.builtin "len") [Value.bytes _ _]) _ _ _); k_dflt (refine len_b 36 (by assumption) (by omega) (by omega) ?_); intro _ _)) | walk1 | (dsimp only; walk1) | (leave1; try dsimp only) | fail "no step"))
  first
    | exact hret _ _ _ _ hr (by assumption) (by assumption)
    | exact hret _ _ _ _ hr (by assumption) (news_drop (by assumption) (fun p hp => List.mem_cons_of_mem _ hp))
    | trace_state
end Mine
end
section
open _root_.PySem _root_.PySem.W _root_.PySem.W.X _root_.PyProof.Rows
set_option Elab.async false
set_option maxRecDepth 100000
set_option maxHeartbeats 0
namespace Mine
theorem rs47 : True := by w_top off; trivial
open _root_.PySem.Float64 in
/-- what the quotient a/2 is (a = 0, 1, 2); of nought the sign is open -/
def halfF (s : Bool) (a : Nat) : UInt64 := if a = 0 then zero s else if a = 1 then ofFrac false 1 2 else ofFrac false 1 1
/-- the hue of three such quotients, by the channel that is greatest -/
def hueF (sa sb sc : Bool) (a b c : Nat) : UInt64 :=
  if a = 0 then hueOf (Float64.sub (halfF sc c) (halfF sb b))
  else if b = 0 then hueOf (Float64.sub (Float64.add 4611686018427387904 (halfF sa a)) (halfF sc c))
  else hueOf (Float64.sub (Float64.add 4616189618054758400 (halfF sb b)) (halfF sa a))
def hueM (a b c : Nat) : Nat :=
  if a = 0 then (12 + c - b) % 12 else if b = 0 then (4 + a + 12 - c) % 12 else (8 + b + 12 - a) % 12
def chk3 (sa sb sc sm : Bool) (a b c : Nat) : Bool :=
  !(a == 0 || b == 0 || c == 0) || (Float64.cmp (hueF sa sb sc a b c) (Float64.ofFrac (sm && hueM a b c == 0) (hueM a b c) 12) == some Ordering.eq)
theorem chk3_all : ∀ a, a < 3 → ∀ b, b < 3 → ∀ c, c < 3 → ∀ sa sb sc sm, chk3 sa sb sc sm a b c = true := by decide +kernel
theorem frac_halfF {x : UInt64} {d R : Int} {a : Nat} (h : Frac x d R) (hR : 0 < R) (ha : a < 3) (e : 2 * d = a * R) : ∃ s, x = halfF s a := by
  obtain ⟨s, hs, rfl⟩ := h
  have : a = 0 ∨ a = 1 ∨ a = 2 := by omega
  rcases this with rfl | rfl | rfl
  · have hd : d = 0 := by omega
    subst hd
    refine ⟨s, ?_⟩
    rw [show (0 : Int).natAbs = 0 from rfl, frac_zero]; rfl
  · have hd : 0 < d := by omega
    have hs' : s = false := by rw [hs (by omega)]; simp <;> omega
    refine ⟨s, ?_⟩
    rw [hs', show R.natAbs = 2 * d.natAbs by omega, frac_half (by omega)]; rfl
  · have hd : d = R := by omega
    subst hd
    have hs' : s = false := by rw [hs (by omega)]; simp
    refine ⟨s, ?_⟩
    rw [hs', frac_one (by omega)]; rfl
theorem frac_due {x : UInt64} {m : Nat} (h : Frac x (m : Int) 12) : ∃ s, x = Float64.ofFrac (s && m == 0) m 12 := by
  obtain ⟨s, hs, rfl⟩ := h
  refine ⟨s, ?_⟩
  by_cases hm : m = 0
  · subst hm; simp
  · have hs' : s = false := by rw [hs (by omega)]; simp <;> omega
    subst hs'
    simp
theorem cmp_frac {x y : UInt64} {a b : Int} (hx : Frac x a b) (hy : Frac y a b) (ha : a ≠ 0) : x = y := by
  obtain ⟨s, hs, rfl⟩ := hx
  obtain ⟨t, ht, rfl⟩ := hy
  rw [hs ha, ht ha]
theorem halfF_hue {p q r : Int} {a b c : Nat} {h' s' : UInt64} (H : Hsv p q r h' s') (ha : a < 3) (hb : b < 3) (hc : c < 3) (hR : 0 < mx p q r - mn p q r)
    (e1 : 2 * (mx p q r - p) = a * (mx p q r - mn p q r)) (e2 : 2 * (mx p q r - q) = b * (mx p q r - mn p q r)) (e3 : 2 * (mx p q r - r) = c * (mx p q r - mn p q r)) :
    (∃ sa sb sc, h' = hueF sa sb sc a b c) ∧ Frac s' (mx p q r - mn p q r) (mx p q r) ∧ (a = 0 ∨ b = 0 ∨ c = 0) := by
  have z : ∀ {d : Int} {k : Nat}, 2 * d = k * (mx p q r - mn p q r) → (d = 0 ↔ k = 0) := by
    intro d k e
    constructor
    · intro hd
      subst hd
      have : (k : Int) * (mx p q r - mn p q r) = 0 := by omega
      rcases Int.mul_eq_zero.mp this with h | h <;> omega
    · intro hk; subst hk; omega
  rcases H with ⟨h0, _, _⟩ | ⟨h0, ds, rc, gc, bc, d1, d2, d3, hh⟩
  · omega
  obtain ⟨sa, rfl⟩ := frac_halfF d1 hR ha e1
  obtain ⟨sb, rfl⟩ := frac_halfF d2 hR hb e2
  obtain ⟨sc, rfl⟩ := frac_halfF d3 hR hc e3
  have y1 := z e1
  have y2 := z e2
  have y3 := z e3
  have hm : mx p q r = p ∨ mx p q r = q ∨ mx p q r = r := by show max p (max q r) = p ∨ max p (max q r) = q ∨ max p (max q r) = r; omega
  refine ⟨⟨sa, sb, sc, ?_⟩, ds, by omega⟩
  rcases hh with ⟨g, rfl⟩ | ⟨g1, g, rfl⟩ | ⟨g1, g2, rfl⟩
  · have : a = 0 := y1.mp (by omega)
    unfold hueF; rw [if_pos this]
  · have h1 : ¬ a = 0 := fun q => g1 (by have := y1.mpr q; omega)
    have h2 : b = 0 := y2.mp (by omega)
    unfold hueF; rw [if_neg h1, if_pos h2]
  · have h1 : ¬ a = 0 := fun q => g1 (by have := y1.mpr q; omega)
    have h2 : ¬ b = 0 := fun q => g2 (by have := y2.mpr q; omega)
    unfold hueF; rw [if_neg h1, if_neg h2]
theorem cmp_same {s : Bool} {n d : Nat} : (Float64.cmp (Float64.ofFrac s n d) (Float64.ofFrac s n d) == some Ordering.eq) = true := by
  rw [PySem.Flt.cmp_self, show Float64.isNaN (Float64.ofFrac s n d) = false from by unfold Float64.ofFrac; exact isNaN_pack s (roundMag_le n d)]; rfl
theorem fin_color {p q r : Int} {a b c : Nat} {hv sv : UInt64} (ha : a < 3) (hb : b < 3) (hc : c < 3) (hR : 0 < mx p q r - mn p q r)
    (e1 : 2 * (mx p q r - p) = a * (mx p q r - mn p q r)) (e2 : 2 * (mx p q r - q) = b * (mx p q r - mn p q r)) (e3 : 2 * (mx p q r - r) = c * (mx p q r - mn p q r))
    (dh : Frac hv (hueM a b c : Int) 12) (ds : Frac sv (mx p q r - mn p q r) (mx p q r)) :
    ∀ h' s', Hsv p q r h' s' → (Float64.cmp h' hv == some Ordering.eq) = true ∧ (Float64.cmp s' sv == some Ordering.eq) = true := by
  intro h' s' H
  obtain ⟨⟨sa, sb, sc, rfl⟩, d', z⟩ := halfF_hue H ha hb hc hR e1 e2 e3
  obtain ⟨sm, rfl⟩ := frac_due dh
  constructor
  · have := chk3_all a ha b hb c hc sa sb sc sm
    unfold chk3 at this
    rcases Bool.or_eq_true _ _ |>.mp this with h | h
    · rcases z with rfl | rfl | rfl <;> simp at h
    · exact h
  · rw [cmp_frac d' ds (by omega)]
    obtain ⟨s, _, rfl⟩ := ds
    exact cmp_same
theorem grey_due : ∀ s t : Bool, (Float64.cmp 0 (Float64.ofFrac s 0 12) == some Ordering.eq) = true := by decide +kernel
theorem grey_sat {s : Bool} {n : Nat} : (Float64.cmp 0 (Float64.ofFrac s 0 n) == some Ordering.eq) = true := by
  rw [frac_zero]
  cases s <;> decide +kernel
theorem fin_grey {p q r : Int} {hv sv : UInt64} (hR : mx p q r = mn p q r) (dh : Frac hv 0 12) (ds : Frac sv 0 (mx p q r)) :
    ∀ h' s', Hsv p q r h' s' → (Float64.cmp h' hv == some Ordering.eq) = true ∧ (Float64.cmp s' sv == some Ordering.eq) = true := by
  intro h' s' H
  rcases H with ⟨_, rfl, rfl⟩ | ⟨h0, _⟩
  · obtain ⟨s, _, rfl⟩ := dh
    obtain ⟨t, _, rfl⟩ := ds
    exact ⟨grey_due s s, grey_sat⟩
  · exact absurd hR.symm h0
end Mine
end
section
open _root_.PySem _root_.PySem.W _root_.PySem.W.X _root_.PyProof.Rows
set_option Elab.async false
set_option maxRecDepth 100000
set_option maxHeartbeats 0
namespace Mine
local macro_rules | `(tactic| walk_at "none") => `(tactic| skip)
theorem rs48 : True := by w_top off; trivial
def ifBody : Stmt → List Stmt | .If _ b _ _ => b | _ => []
def asgVal : Stmt → PySem.Expr | .Assign _ v _ => v | _ => .Name (Str.ofString "") ⟨0,0,0,0⟩
def callArgs : PySem.Expr → List PySem.Expr | .Call _ a _ _ => a | _ => []
def compElt : PySem.Expr → PySem.Expr | .ListComp e _ _ _ => e | e => e
def compScope : PySem.Expr → Scope | .ListComp _ _ sc _ => sc | _ => default
def comp17 : PySem.Expr := (callArgs (asgVal ((ifBody (st 17)).getD 0 (.Pass ⟨0,0,0,0⟩)))).getD 0 (.Name (Str.ofString "") ⟨0,0,0,0⟩)
def elt17 : PySem.Expr := compElt comp17
def scope17 : Scope := compScope comp17
theorem news5 {h₀ h : Heap} {L : Addr} {a b c d e x : Addr × Obj} {ns : List (Addr × Obj)} (N : News h₀ L h (a :: b :: c :: d :: e :: ns)) (hx : x ∈ ns) : News h₀ L h (a :: b :: c :: d :: e :: x :: ns) := fun p hp => by
  simp only [List.mem_cons] at hp
  rcases hp with rfl | rfl | rfl | rfl | rfl | rfl | h
  · exact N _ (.head _)
  · exact N _ (.tail _ (.head _))
  · exact N _ (.tail _ (.tail _ (.head _)))
  · exact N _ (.tail _ (.tail _ (.tail _ (.head _))))
  · exact N _ (.tail _ (.tail _ (.tail _ (.tail _ (.head _)))))
  · exact N _ (.tail _ (.tail _ (.tail _ (.tail _ (.tail _ hx)))))
  · exact N _ (.tail _ (.tail _ (.tail _ (.tail _ (.tail _ h)))))
theorem news6 {h₀ h : Heap} {L : Addr} {t a b c d e x : Addr × Obj} {ns : List (Addr × Obj)} (N : News h₀ L h (t :: a :: b :: c :: d :: e :: x :: ns)) : News h₀ L h (t :: a :: b :: c :: d :: e :: ns) := fun p hp => by
  refine N p ?_
  simp only [List.mem_cons] at hp ⊢
  rcases hp with h | h | h | h | h | h | h
  all_goals simp only [h, true_or, or_true]
def powE (b : Int) (e : Bool) (k : Nat) : Int := b ^ (if e then 2 - k else k)
end Mine
end
section
open _root_.PySem _root_.PySem.W _root_.PySem.W.X _root_.PyProof.Rows
set_option Elab.async false
set_option maxRecDepth 100000
set_option maxHeartbeats 0
namespace Mine
theorem rs49 : True := by w_top off; trivial
def dg (b0 b1 : Nat) (i : Nat) : Nat → Int
  | 0 => ((i % b0 : Nat) : Int)
  | 1 => ((i / b0 % b1 : Nat) : Int)
  | _ => ((i / (b0 * b1) : Nat) : Int)
def fd (b0 b1 : Nat) (i j : Nat) : Int := 65 + dg b0 b1 i j
def gd (b0 b1 : Nat) (i j : Nat) : Int := 65 + dg b0 b1 i (2 - j)
def inZ (b0 b1 : Nat) (fr w0 w1 w2 : Int) (i : Nat) : Bool := decide (List.drop fr.toNat [fd b0 b1 i 0 - 65, fd b0 b1 i 1 - 65, fd b0 b1 i 2 - 65] = List.drop fr.toNat [w0, w1, w2])
def sxt (b0 b1 b2 : Nat) (i : Nat) : Int := Int.fdiv 6 b0 * (fd b0 b1 i 0 - 65) + (Int.fdiv 6 b1 * (fd b0 b1 i 1 - 65) + (Int.fdiv 6 b2 * (fd b0 b1 i 2 - 65) + 0))
theorem pl_322_1_0_0 {V : Nat → Int} (w0 : Int) (a0 a1 a2 am : Int) (hV : ∀ i, i < 12 → V i = 1 * (a0 * dg 3 2 i 0 + a1 * dg 3 2 i 1 + a2 * dg 3 2 i 2 + am)) :
    prt (inZ 3 2 1 w0 0 0) V (sxt 3 2 2) 0 12 0 0 - prt (inZ 3 2 1 w0 0 0) V (sxt 3 2 2) 1 12 0 0 = (-1) * (a0 * 1 + 0) ∧ prt (inZ 3 2 1 w0 0 0) V (sxt 3 2 2) 1 12 0 0 - prt (inZ 3 2 1 w0 0 0) V (sxt 3 2 2) 2 12 0 0 = (-1) * (a0 * 1 + 0) := by
  have h0 : V 0 = 1 * (a0 * 0 + a1 * 0 + a2 * 0 + am) := hV 0 (by decide)
  have h1 : V 1 = 1 * (a0 * 1 + a1 * 0 + a2 * 0 + am) := hV 1 (by decide)
  have h2 : V 2 = 1 * (a0 * 2 + a1 * 0 + a2 * 0 + am) := hV 2 (by decide)
  have e0 : prt (inZ 3 2 1 w0 0 0) V (sxt 3 2 2) 0 12 0 0 = (((0 + V 0 * 1) + V 1 * 0) + V 2 * 0) := rfl
  have e1 : prt (inZ 3 2 1 w0 0 0) V (sxt 3 2 2) 1 12 0 0 = (((0 + V 0 * 0) + V 1 * 1) + V 2 * 0) := rfl
  have e2 : prt (inZ 3 2 1 w0 0 0) V (sxt 3 2 2) 2 12 0 0 = (((0 + V 0 * 0) + V 1 * 0) + V 2 * 1) := rfl
  rw [e0, e1, e2, h0, h1, h2]
  clear e0 e1 e2 hV h0 h1 h2
  constructor <;> grind
theorem pl_322_1_0_1 {V : Nat → Int} (w0 : Int) (a0 a1 a2 am : Int) (hV : ∀ i, i < 12 → V i = 1 * (a0 * dg 3 2 i 0 + a1 * dg 3 2 i 1 + a2 * dg 3 2 i 2 + am)) :
    prt (inZ 3 2 1 w0 0 1) V (sxt 3 2 2) 0 12 0 0 - prt (inZ 3 2 1 w0 0 1) V (sxt 3 2 2) 1 12 0 0 = (1) * (a0 * 1 + 0) ∧ prt (inZ 3 2 1 w0 0 1) V (sxt 3 2 2) 1 12 0 0 - prt (inZ 3 2 1 w0 0 1) V (sxt 3 2 2) 2 12 0 0 = (1) * (a0 * 1 + 0) := by
  have h6 : V 6 = 1 * (a0 * 0 + a1 * 0 + a2 * 1 + am) := hV 6 (by decide)
  have h7 : V 7 = 1 * (a0 * 1 + a1 * 0 + a2 * 1 + am) := hV 7 (by decide)
  have h8 : V 8 = 1 * (a0 * 2 + a1 * 0 + a2 * 1 + am) := hV 8 (by decide)
  have e0 : prt (inZ 3 2 1 w0 0 1) V (sxt 3 2 2) 0 12 0 0 = (((0 + V 6 * 0) + V 7 * 1) + V 8 * 1) := rfl
  have e1 : prt (inZ 3 2 1 w0 0 1) V (sxt 3 2 2) 1 12 0 0 = (((0 + V 6 * 1) + V 7 * 0) + V 8 * 1) := rfl
  have e2 : prt (inZ 3 2 1 w0 0 1) V (sxt 3 2 2) 2 12 0 0 = (((0 + V 6 * 1) + V 7 * 1) + V 8 * 0) := rfl
  rw [e0, e1, e2, h6, h7, h8]
  clear e0 e1 e2 hV h6 h7 h8
  constructor <;> grind
theorem pl_322_1_1_0 {V : Nat → Int} (w0 : Int) (a0 a1 a2 am : Int) (hV : ∀ i, i < 12 → V i = 1 * (a0 * dg 3 2 i 0 + a1 * dg 3 2 i 1 + a2 * dg 3 2 i 2 + am)) :
    prt (inZ 3 2 1 w0 1 0) V (sxt 3 2 2) 0 12 0 0 - prt (inZ 3 2 1 w0 1 0) V (sxt 3 2 2) 1 12 0 0 = (1) * (a0 * 1 + 0) ∧ prt (inZ 3 2 1 w0 1 0) V (sxt 3 2 2) 1 12 0 0 - prt (inZ 3 2 1 w0 1 0) V (sxt 3 2 2) 2 12 0 0 = (1) * (a0 * 1 + 0) := by
  have h3 : V 3 = 1 * (a0 * 0 + a1 * 1 + a2 * 0 + am) := hV 3 (by decide)
  have h4 : V 4 = 1 * (a0 * 1 + a1 * 1 + a2 * 0 + am) := hV 4 (by decide)
  have h5 : V 5 = 1 * (a0 * 2 + a1 * 1 + a2 * 0 + am) := hV 5 (by decide)
  have e0 : prt (inZ 3 2 1 w0 1 0) V (sxt 3 2 2) 0 12 0 0 = (((0 + V 3 * 0) + V 4 * 1) + V 5 * 1) := rfl
  have e1 : prt (inZ 3 2 1 w0 1 0) V (sxt 3 2 2) 1 12 0 0 = (((0 + V 3 * 1) + V 4 * 0) + V 5 * 1) := rfl
  have e2 : prt (inZ 3 2 1 w0 1 0) V (sxt 3 2 2) 2 12 0 0 = (((0 + V 3 * 1) + V 4 * 1) + V 5 * 0) := rfl
  rw [e0, e1, e2, h3, h4, h5]
  clear e0 e1 e2 hV h3 h4 h5
  constructor <;> grind
theorem pl_322_1_1_1 {V : Nat → Int} (w0 : Int) (a0 a1 a2 am : Int) (hV : ∀ i, i < 12 → V i = 1 * (a0 * dg 3 2 i 0 + a1 * dg 3 2 i 1 + a2 * dg 3 2 i 2 + am)) :
    prt (inZ 3 2 1 w0 1 1) V (sxt 3 2 2) 0 12 0 0 - prt (inZ 3 2 1 w0 1 1) V (sxt 3 2 2) 1 12 0 0 = (-1) * (a0 * 1 + 0) ∧ prt (inZ 3 2 1 w0 1 1) V (sxt 3 2 2) 1 12 0 0 - prt (inZ 3 2 1 w0 1 1) V (sxt 3 2 2) 2 12 0 0 = (-1) * (a0 * 1 + 0) := by
  have h9 : V 9 = 1 * (a0 * 0 + a1 * 1 + a2 * 1 + am) := hV 9 (by decide)
  have h10 : V 10 = 1 * (a0 * 1 + a1 * 1 + a2 * 1 + am) := hV 10 (by decide)
  have h11 : V 11 = 1 * (a0 * 2 + a1 * 1 + a2 * 1 + am) := hV 11 (by decide)
  have e0 : prt (inZ 3 2 1 w0 1 1) V (sxt 3 2 2) 0 12 0 0 = (((0 + V 9 * 1) + V 10 * 0) + V 11 * 0) := rfl
  have e1 : prt (inZ 3 2 1 w0 1 1) V (sxt 3 2 2) 1 12 0 0 = (((0 + V 9 * 0) + V 10 * 1) + V 11 * 0) := rfl
  have e2 : prt (inZ 3 2 1 w0 1 1) V (sxt 3 2 2) 2 12 0 0 = (((0 + V 9 * 0) + V 10 * 0) + V 11 * 1) := rfl
  rw [e0, e1, e2, h9, h10, h11]
  clear e0 e1 e2 hV h9 h10 h11
  constructor <;> grind
theorem pl_322_2_0 {V : Nat → Int} (w0 : Int) (w1 : Int) (a0 a1 a2 am b0 b1 b2 bm : Int) (hV : ∀ i, i < 12 → V i = 1 * (a0 * dg 3 2 i 0 + a1 * dg 3 2 i 1 + a2 * dg 3 2 i 2 + am) * (b0 * dg 3 2 i 0 + b1 * dg 3 2 i 1 + b2 * dg 3 2 i 2 + bm)) :
    prt (inZ 3 2 2 w0 w1 0) V (sxt 3 2 2) 0 12 0 0 - prt (inZ 3 2 2 w0 w1 0) V (sxt 3 2 2) 1 12 0 0 = (1) * (a0 * (b1 * 1 + 0) + (a1 * (b0 * 1 + 0) + 0)) ∧ prt (inZ 3 2 2 w0 w1 0) V (sxt 3 2 2) 1 12 0 0 - prt (inZ 3 2 2 w0 w1 0) V (sxt 3 2 2) 2 12 0 0 = (1) * (a0 * (b1 * 1 + 0) + (a1 * (b0 * 1 + 0) + 0)) := by
  have h0 : V 0 = 1 * (a0 * 0 + a1 * 0 + a2 * 0 + am) * (b0 * 0 + b1 * 0 + b2 * 0 + bm) := hV 0 (by decide)
  have h1 : V 1 = 1 * (a0 * 1 + a1 * 0 + a2 * 0 + am) * (b0 * 1 + b1 * 0 + b2 * 0 + bm) := hV 1 (by decide)
  have h2 : V 2 = 1 * (a0 * 2 + a1 * 0 + a2 * 0 + am) * (b0 * 2 + b1 * 0 + b2 * 0 + bm) := hV 2 (by decide)
  have h3 : V 3 = 1 * (a0 * 0 + a1 * 1 + a2 * 0 + am) * (b0 * 0 + b1 * 1 + b2 * 0 + bm) := hV 3 (by decide)
  have h4 : V 4 = 1 * (a0 * 1 + a1 * 1 + a2 * 0 + am) * (b0 * 1 + b1 * 1 + b2 * 0 + bm) := hV 4 (by decide)
  have h5 : V 5 = 1 * (a0 * 2 + a1 * 1 + a2 * 0 + am) * (b0 * 2 + b1 * 1 + b2 * 0 + bm) := hV 5 (by decide)
  have e0 : prt (inZ 3 2 2 w0 w1 0) V (sxt 3 2 2) 0 12 0 0 = ((((((0 + V 0 * 1) + V 1 * 0) + V 2 * 0) + V 3 * 0) + V 4 * 1) + V 5 * 1) := rfl
  have e1 : prt (inZ 3 2 2 w0 w1 0) V (sxt 3 2 2) 1 12 0 0 = ((((((0 + V 0 * 0) + V 1 * 1) + V 2 * 0) + V 3 * 1) + V 4 * 0) + V 5 * 1) := rfl
  have e2 : prt (inZ 3 2 2 w0 w1 0) V (sxt 3 2 2) 2 12 0 0 = ((((((0 + V 0 * 0) + V 1 * 0) + V 2 * 1) + V 3 * 1) + V 4 * 1) + V 5 * 0) := rfl
  rw [e0, e1, e2, h0, h1, h2, h3, h4, h5]
  clear e0 e1 e2 hV h0 h1 h2 h3 h4 h5
  constructor <;> grind
theorem pl_322_2_1 {V : Nat → Int} (w0 : Int) (w1 : Int) (a0 a1 a2 am b0 b1 b2 bm : Int) (hV : ∀ i, i < 12 → V i = 1 * (a0 * dg 3 2 i 0 + a1 * dg 3 2 i 1 + a2 * dg 3 2 i 2 + am) * (b0 * dg 3 2 i 0 + b1 * dg 3 2 i 1 + b2 * dg 3 2 i 2 + bm)) :
    prt (inZ 3 2 2 w0 w1 1) V (sxt 3 2 2) 0 12 0 0 - prt (inZ 3 2 2 w0 w1 1) V (sxt 3 2 2) 1 12 0 0 = (-1) * (a0 * (b1 * 1 + 0) + (a1 * (b0 * 1 + 0) + 0)) ∧ prt (inZ 3 2 2 w0 w1 1) V (sxt 3 2 2) 1 12 0 0 - prt (inZ 3 2 2 w0 w1 1) V (sxt 3 2 2) 2 12 0 0 = (-1) * (a0 * (b1 * 1 + 0) + (a1 * (b0 * 1 + 0) + 0)) := by
  have h6 : V 6 = 1 * (a0 * 0 + a1 * 0 + a2 * 1 + am) * (b0 * 0 + b1 * 0 + b2 * 1 + bm) := hV 6 (by decide)
  have h7 : V 7 = 1 * (a0 * 1 + a1 * 0 + a2 * 1 + am) * (b0 * 1 + b1 * 0 + b2 * 1 + bm) := hV 7 (by decide)
  have h8 : V 8 = 1 * (a0 * 2 + a1 * 0 + a2 * 1 + am) * (b0 * 2 + b1 * 0 + b2 * 1 + bm) := hV 8 (by decide)
  have h9 : V 9 = 1 * (a0 * 0 + a1 * 1 + a2 * 1 + am) * (b0 * 0 + b1 * 1 + b2 * 1 + bm) := hV 9 (by decide)
  have h10 : V 10 = 1 * (a0 * 1 + a1 * 1 + a2 * 1 + am) * (b0 * 1 + b1 * 1 + b2 * 1 + bm) := hV 10 (by decide)
  have h11 : V 11 = 1 * (a0 * 2 + a1 * 1 + a2 * 1 + am) * (b0 * 2 + b1 * 1 + b2 * 1 + bm) := hV 11 (by decide)
  have e0 : prt (inZ 3 2 2 w0 w1 1) V (sxt 3 2 2) 0 12 0 0 = ((((((0 + V 6 * 0) + V 7 * 1) + V 8 * 1) + V 9 * 1) + V 10 * 0) + V 11 * 0) := rfl
  have e1 : prt (inZ 3 2 2 w0 w1 1) V (sxt 3 2 2) 1 12 0 0 = ((((((0 + V 6 * 1) + V 7 * 0) + V 8 * 1) + V 9 * 0) + V 10 * 1) + V 11 * 0) := rfl
  have e2 : prt (inZ 3 2 2 w0 w1 1) V (sxt 3 2 2) 2 12 0 0 = ((((((0 + V 6 * 1) + V 7 * 1) + V 8 * 0) + V 9 * 0) + V 10 * 0) + V 11 * 1) := rfl
  rw [e0, e1, e2, h6, h7, h8, h9, h10, h11]
  clear e0 e1 e2 hV h6 h7 h8 h9 h10 h11
  constructor <;> grind
theorem pl_322_3 {V : Nat → Int} (w0 : Int) (w1 : Int) (w2 : Int) (a0 a1 a2 am b0 b1 b2 bm c0 c1 c2 cm : Int) (hV : ∀ i, i < 12 → V i = 1 * (a0 * dg 3 2 i 0 + a1 * dg 3 2 i 1 + a2 * dg 3 2 i 2 + am) * (b0 * dg 3 2 i 0 + b1 * dg 3 2 i 1 + b2 * dg 3 2 i 2 + bm) * (c0 * dg 3 2 i 0 + c1 * dg 3 2 i 1 + c2 * dg 3 2 i 2 + cm)) :
    prt (inZ 3 2 3 w0 w1 w2) V (sxt 3 2 2) 0 12 0 0 - prt (inZ 3 2 3 w0 w1 w2) V (sxt 3 2 2) 1 12 0 0 = (-1) * (a0 * (b1 * (c2 * 1 + 0) + (b2 * (c1 * 1 + 0) + 0)) + (a1 * (b0 * (c2 * 1 + 0) + (b2 * (c0 * 1 + 0) + 0)) + (a2 * (b0 * (c1 * 1 + 0) + (b1 * (c0 * 1 + 0) + 0)) + 0))) ∧ prt (inZ 3 2 3 w0 w1 w2) V (sxt 3 2 2) 1 12 0 0 - prt (inZ 3 2 3 w0 w1 w2) V (sxt 3 2 2) 2 12 0 0 = (-1) * (a0 * (b1 * (c2 * 1 + 0) + (b2 * (c1 * 1 + 0) + 0)) + (a1 * (b0 * (c2 * 1 + 0) + (b2 * (c0 * 1 + 0) + 0)) + (a2 * (b0 * (c1 * 1 + 0) + (b1 * (c0 * 1 + 0) + 0)) + 0))) := by
  have h0 : V 0 = 1 * (a0 * 0 + a1 * 0 + a2 * 0 + am) * (b0 * 0 + b1 * 0 + b2 * 0 + bm) * (c0 * 0 + c1 * 0 + c2 * 0 + cm) := hV 0 (by decide)
  have h1 : V 1 = 1 * (a0 * 1 + a1 * 0 + a2 * 0 + am) * (b0 * 1 + b1 * 0 + b2 * 0 + bm) * (c0 * 1 + c1 * 0 + c2 * 0 + cm) := hV 1 (by decide)
  have h2 : V 2 = 1 * (a0 * 2 + a1 * 0 + a2 * 0 + am) * (b0 * 2 + b1 * 0 + b2 * 0 + bm) * (c0 * 2 + c1 * 0 + c2 * 0 + cm) := hV 2 (by decide)
  have h3 : V 3 = 1 * (a0 * 0 + a1 * 1 + a2 * 0 + am) * (b0 * 0 + b1 * 1 + b2 * 0 + bm) * (c0 * 0 + c1 * 1 + c2 * 0 + cm) := hV 3 (by decide)
  have h4 : V 4 = 1 * (a0 * 1 + a1 * 1 + a2 * 0 + am) * (b0 * 1 + b1 * 1 + b2 * 0 + bm) * (c0 * 1 + c1 * 1 + c2 * 0 + cm) := hV 4 (by decide)
  have h5 : V 5 = 1 * (a0 * 2 + a1 * 1 + a2 * 0 + am) * (b0 * 2 + b1 * 1 + b2 * 0 + bm) * (c0 * 2 + c1 * 1 + c2 * 0 + cm) := hV 5 (by decide)
  have h6 : V 6 = 1 * (a0 * 0 + a1 * 0 + a2 * 1 + am) * (b0 * 0 + b1 * 0 + b2 * 1 + bm) * (c0 * 0 + c1 * 0 + c2 * 1 + cm) := hV 6 (by decide)
  have h7 : V 7 = 1 * (a0 * 1 + a1 * 0 + a2 * 1 + am) * (b0 * 1 + b1 * 0 + b2 * 1 + bm) * (c0 * 1 + c1 * 0 + c2 * 1 + cm) := hV 7 (by decide)
  have h8 : V 8 = 1 * (a0 * 2 + a1 * 0 + a2 * 1 + am) * (b0 * 2 + b1 * 0 + b2 * 1 + bm) * (c0 * 2 + c1 * 0 + c2 * 1 + cm) := hV 8 (by decide)
  have h9 : V 9 = 1 * (a0 * 0 + a1 * 1 + a2 * 1 + am) * (b0 * 0 + b1 * 1 + b2 * 1 + bm) * (c0 * 0 + c1 * 1 + c2 * 1 + cm) := hV 9 (by decide)
  have h10 : V 10 = 1 * (a0 * 1 + a1 * 1 + a2 * 1 + am) * (b0 * 1 + b1 * 1 + b2 * 1 + bm) * (c0 * 1 + c1 * 1 + c2 * 1 + cm) := hV 10 (by decide)
  have h11 : V 11 = 1 * (a0 * 2 + a1 * 1 + a2 * 1 + am) * (b0 * 2 + b1 * 1 + b2 * 1 + bm) * (c0 * 2 + c1 * 1 + c2 * 1 + cm) := hV 11 (by decide)
  have e0 : prt (inZ 3 2 3 w0 w1 w2) V (sxt 3 2 2) 0 12 0 0 = ((((((((((((0 + V 0 * 1) + V 1 * 0) + V 2 * 0) + V 3 * 0) + V 4 * 1) + V 5 * 1) + V 6 * 0) + V 7 * 1) + V 8 * 1) + V 9 * 1) + V 10 * 0) + V 11 * 0) := rfl
  have e1 : prt (inZ 3 2 3 w0 w1 w2) V (sxt 3 2 2) 1 12 0 0 = ((((((((((((0 + V 0 * 0) + V 1 * 1) + V 2 * 0) + V 3 * 1) + V 4 * 0) + V 5 * 1) + V 6 * 1) + V 7 * 0) + V 8 * 1) + V 9 * 0) + V 10 * 1) + V 11 * 0) := rfl
  have e2 : prt (inZ 3 2 3 w0 w1 w2) V (sxt 3 2 2) 2 12 0 0 = ((((((((((((0 + V 0 * 0) + V 1 * 0) + V 2 * 1) + V 3 * 1) + V 4 * 1) + V 5 * 0) + V 6 * 1) + V 7 * 1) + V 8 * 0) + V 9 * 0) + V 10 * 0) + V 11 * 1) := rfl
  rw [e0, e1, e2, h0, h1, h2, h3, h4, h5, h6, h7, h8, h9, h10, h11]
  clear e0 e1 e2 hV h0 h1 h2 h3 h4 h5 h6 h7 h8 h9 h10 h11
  constructor <;> grind
theorem pl_232_1_0_0 {V : Nat → Int} (w0 : Int) (a0 a1 a2 am : Int) (hV : ∀ i, i < 12 → V i = 1 * (a0 * dg 2 3 i 0 + a1 * dg 2 3 i 1 + a2 * dg 2 3 i 2 + am)) :
    prt (inZ 2 3 1 w0 0 0) V (sxt 2 3 2) 0 12 0 0 - prt (inZ 2 3 1 w0 0 0) V (sxt 2 3 2) 1 12 0 0 = (-1) * (a0 * 1 + 0) ∧ prt (inZ 2 3 1 w0 0 0) V (sxt 2 3 2) 1 12 0 0 - prt (inZ 2 3 1 w0 0 0) V (sxt 2 3 2) 2 12 0 0 = (0) * (a0 * 1 + 0) := by
  have h0 : V 0 = 1 * (a0 * 0 + a1 * 0 + a2 * 0 + am) := hV 0 (by decide)
  have h1 : V 1 = 1 * (a0 * 1 + a1 * 0 + a2 * 0 + am) := hV 1 (by decide)
  have e0 : prt (inZ 2 3 1 w0 0 0) V (sxt 2 3 2) 0 12 0 0 = ((0 + V 0 * 1) + V 1 * 0) := rfl
  have e1 : prt (inZ 2 3 1 w0 0 0) V (sxt 2 3 2) 1 12 0 0 = ((0 + V 0 * 0) + V 1 * 1) := rfl
  have e2 : prt (inZ 2 3 1 w0 0 0) V (sxt 2 3 2) 2 12 0 0 = ((0 + V 0 * 0) + V 1 * 1) := rfl
  rw [e0, e1, e2, h0, h1]
  clear e0 e1 e2 hV h0 h1
  constructor <;> grind
theorem pl_232_1_0_1 {V : Nat → Int} (w0 : Int) (a0 a1 a2 am : Int) (hV : ∀ i, i < 12 → V i = 1 * (a0 * dg 2 3 i 0 + a1 * dg 2 3 i 1 + a2 * dg 2 3 i 2 + am)) :
    prt (inZ 2 3 1 w0 0 1) V (sxt 2 3 2) 0 12 0 0 - prt (inZ 2 3 1 w0 0 1) V (sxt 2 3 2) 1 12 0 0 = (1) * (a0 * 1 + 0) ∧ prt (inZ 2 3 1 w0 0 1) V (sxt 2 3 2) 1 12 0 0 - prt (inZ 2 3 1 w0 0 1) V (sxt 2 3 2) 2 12 0 0 = (0) * (a0 * 1 + 0) := by
  have h6 : V 6 = 1 * (a0 * 0 + a1 * 0 + a2 * 1 + am) := hV 6 (by decide)
  have h7 : V 7 = 1 * (a0 * 1 + a1 * 0 + a2 * 1 + am) := hV 7 (by decide)
  have e0 : prt (inZ 2 3 1 w0 0 1) V (sxt 2 3 2) 0 12 0 0 = ((0 + V 6 * 0) + V 7 * 1) := rfl
  have e1 : prt (inZ 2 3 1 w0 0 1) V (sxt 2 3 2) 1 12 0 0 = ((0 + V 6 * 1) + V 7 * 0) := rfl
  have e2 : prt (inZ 2 3 1 w0 0 1) V (sxt 2 3 2) 2 12 0 0 = ((0 + V 6 * 1) + V 7 * 0) := rfl
  rw [e0, e1, e2, h6, h7]
  clear e0 e1 e2 hV h6 h7
  constructor <;> grind
theorem pl_232_1_1_0 {V : Nat → Int} (w0 : Int) (a0 a1 a2 am : Int) (hV : ∀ i, i < 12 → V i = 1 * (a0 * dg 2 3 i 0 + a1 * dg 2 3 i 1 + a2 * dg 2 3 i 2 + am)) :
    prt (inZ 2 3 1 w0 1 0) V (sxt 2 3 2) 0 12 0 0 - prt (inZ 2 3 1 w0 1 0) V (sxt 2 3 2) 1 12 0 0 = (1) * (a0 * 1 + 0) ∧ prt (inZ 2 3 1 w0 1 0) V (sxt 2 3 2) 1 12 0 0 - prt (inZ 2 3 1 w0 1 0) V (sxt 2 3 2) 2 12 0 0 = (-1) * (a0 * 1 + 0) := by
  have h2 : V 2 = 1 * (a0 * 0 + a1 * 1 + a2 * 0 + am) := hV 2 (by decide)
  have h3 : V 3 = 1 * (a0 * 1 + a1 * 1 + a2 * 0 + am) := hV 3 (by decide)
  have e0 : prt (inZ 2 3 1 w0 1 0) V (sxt 2 3 2) 0 12 0 0 = ((0 + V 2 * 0) + V 3 * 1) := rfl
  have e1 : prt (inZ 2 3 1 w0 1 0) V (sxt 2 3 2) 1 12 0 0 = ((0 + V 2 * 1) + V 3 * 0) := rfl
  have e2 : prt (inZ 2 3 1 w0 1 0) V (sxt 2 3 2) 2 12 0 0 = ((0 + V 2 * 0) + V 3 * 1) := rfl
  rw [e0, e1, e2, h2, h3]
  clear e0 e1 e2 hV h2 h3
  constructor <;> grind
theorem pl_232_1_1_1 {V : Nat → Int} (w0 : Int) (a0 a1 a2 am : Int) (hV : ∀ i, i < 12 → V i = 1 * (a0 * dg 2 3 i 0 + a1 * dg 2 3 i 1 + a2 * dg 2 3 i 2 + am)) :
    prt (inZ 2 3 1 w0 1 1) V (sxt 2 3 2) 0 12 0 0 - prt (inZ 2 3 1 w0 1 1) V (sxt 2 3 2) 1 12 0 0 = (-1) * (a0 * 1 + 0) ∧ prt (inZ 2 3 1 w0 1 1) V (sxt 2 3 2) 1 12 0 0 - prt (inZ 2 3 1 w0 1 1) V (sxt 2 3 2) 2 12 0 0 = (1) * (a0 * 1 + 0) := by
  have h8 : V 8 = 1 * (a0 * 0 + a1 * 1 + a2 * 1 + am) := hV 8 (by decide)
  have h9 : V 9 = 1 * (a0 * 1 + a1 * 1 + a2 * 1 + am) := hV 9 (by decide)
  have e0 : prt (inZ 2 3 1 w0 1 1) V (sxt 2 3 2) 0 12 0 0 = ((0 + V 8 * 1) + V 9 * 0) := rfl
  have e1 : prt (inZ 2 3 1 w0 1 1) V (sxt 2 3 2) 1 12 0 0 = ((0 + V 8 * 0) + V 9 * 1) := rfl
  have e2 : prt (inZ 2 3 1 w0 1 1) V (sxt 2 3 2) 2 12 0 0 = ((0 + V 8 * 1) + V 9 * 0) := rfl
  rw [e0, e1, e2, h8, h9]
  clear e0 e1 e2 hV h8 h9
  constructor <;> grind
theorem pl_232_1_2_0 {V : Nat → Int} (w0 : Int) (a0 a1 a2 am : Int) (hV : ∀ i, i < 12 → V i = 1 * (a0 * dg 2 3 i 0 + a1 * dg 2 3 i 1 + a2 * dg 2 3 i 2 + am)) :
    prt (inZ 2 3 1 w0 2 0) V (sxt 2 3 2) 0 12 0 0 - prt (inZ 2 3 1 w0 2 0) V (sxt 2 3 2) 1 12 0 0 = (0) * (a0 * 1 + 0) ∧ prt (inZ 2 3 1 w0 2 0) V (sxt 2 3 2) 1 12 0 0 - prt (inZ 2 3 1 w0 2 0) V (sxt 2 3 2) 2 12 0 0 = (1) * (a0 * 1 + 0) := by
  have h4 : V 4 = 1 * (a0 * 0 + a1 * 2 + a2 * 0 + am) := hV 4 (by decide)
  have h5 : V 5 = 1 * (a0 * 1 + a1 * 2 + a2 * 0 + am) := hV 5 (by decide)
  have e0 : prt (inZ 2 3 1 w0 2 0) V (sxt 2 3 2) 0 12 0 0 = ((0 + V 4 * 0) + V 5 * 1) := rfl
  have e1 : prt (inZ 2 3 1 w0 2 0) V (sxt 2 3 2) 1 12 0 0 = ((0 + V 4 * 0) + V 5 * 1) := rfl
  have e2 : prt (inZ 2 3 1 w0 2 0) V (sxt 2 3 2) 2 12 0 0 = ((0 + V 4 * 1) + V 5 * 0) := rfl
  rw [e0, e1, e2, h4, h5]
  clear e0 e1 e2 hV h4 h5
  constructor <;> grind
theorem pl_232_1_2_1 {V : Nat → Int} (w0 : Int) (a0 a1 a2 am : Int) (hV : ∀ i, i < 12 → V i = 1 * (a0 * dg 2 3 i 0 + a1 * dg 2 3 i 1 + a2 * dg 2 3 i 2 + am)) :
    prt (inZ 2 3 1 w0 2 1) V (sxt 2 3 2) 0 12 0 0 - prt (inZ 2 3 1 w0 2 1) V (sxt 2 3 2) 1 12 0 0 = (0) * (a0 * 1 + 0) ∧ prt (inZ 2 3 1 w0 2 1) V (sxt 2 3 2) 1 12 0 0 - prt (inZ 2 3 1 w0 2 1) V (sxt 2 3 2) 2 12 0 0 = (-1) * (a0 * 1 + 0) := by
  have h10 : V 10 = 1 * (a0 * 0 + a1 * 2 + a2 * 1 + am) := hV 10 (by decide)
  have h11 : V 11 = 1 * (a0 * 1 + a1 * 2 + a2 * 1 + am) := hV 11 (by decide)
  have e0 : prt (inZ 2 3 1 w0 2 1) V (sxt 2 3 2) 0 12 0 0 = ((0 + V 10 * 1) + V 11 * 0) := rfl
  have e1 : prt (inZ 2 3 1 w0 2 1) V (sxt 2 3 2) 1 12 0 0 = ((0 + V 10 * 1) + V 11 * 0) := rfl
  have e2 : prt (inZ 2 3 1 w0 2 1) V (sxt 2 3 2) 2 12 0 0 = ((0 + V 10 * 0) + V 11 * 1) := rfl
  rw [e0, e1, e2, h10, h11]
  clear e0 e1 e2 hV h10 h11
  constructor <;> grind
theorem pl_232_2_0 {V : Nat → Int} (w0 : Int) (w1 : Int) (a0 a1 a2 am b0 b1 b2 bm : Int) (hV : ∀ i, i < 12 → V i = 1 * (a0 * dg 2 3 i 0 + a1 * dg 2 3 i 1 + a2 * dg 2 3 i 2 + am) * (b0 * dg 2 3 i 0 + b1 * dg 2 3 i 1 + b2 * dg 2 3 i 2 + bm)) :
    prt (inZ 2 3 2 w0 w1 0) V (sxt 2 3 2) 0 12 0 0 - prt (inZ 2 3 2 w0 w1 0) V (sxt 2 3 2) 1 12 0 0 = (1) * (a0 * (b1 * 1 + 0) + (a1 * (b0 * 1 + 0) + 0)) ∧ prt (inZ 2 3 2 w0 w1 0) V (sxt 2 3 2) 1 12 0 0 - prt (inZ 2 3 2 w0 w1 0) V (sxt 2 3 2) 2 12 0 0 = (1) * (a0 * (b1 * 1 + 0) + (a1 * (b0 * 1 + 0) + 0)) := by
  have h0 : V 0 = 1 * (a0 * 0 + a1 * 0 + a2 * 0 + am) * (b0 * 0 + b1 * 0 + b2 * 0 + bm) := hV 0 (by decide)
  have h1 : V 1 = 1 * (a0 * 1 + a1 * 0 + a2 * 0 + am) * (b0 * 1 + b1 * 0 + b2 * 0 + bm) := hV 1 (by decide)
  have h2 : V 2 = 1 * (a0 * 0 + a1 * 1 + a2 * 0 + am) * (b0 * 0 + b1 * 1 + b2 * 0 + bm) := hV 2 (by decide)
  have h3 : V 3 = 1 * (a0 * 1 + a1 * 1 + a2 * 0 + am) * (b0 * 1 + b1 * 1 + b2 * 0 + bm) := hV 3 (by decide)
  have h4 : V 4 = 1 * (a0 * 0 + a1 * 2 + a2 * 0 + am) * (b0 * 0 + b1 * 2 + b2 * 0 + bm) := hV 4 (by decide)
  have h5 : V 5 = 1 * (a0 * 1 + a1 * 2 + a2 * 0 + am) * (b0 * 1 + b1 * 2 + b2 * 0 + bm) := hV 5 (by decide)
  have e0 : prt (inZ 2 3 2 w0 w1 0) V (sxt 2 3 2) 0 12 0 0 = ((((((0 + V 0 * 1) + V 1 * 0) + V 2 * 0) + V 3 * 1) + V 4 * 0) + V 5 * 1) := rfl
  have e1 : prt (inZ 2 3 2 w0 w1 0) V (sxt 2 3 2) 1 12 0 0 = ((((((0 + V 0 * 0) + V 1 * 1) + V 2 * 1) + V 3 * 0) + V 4 * 0) + V 5 * 1) := rfl
  have e2 : prt (inZ 2 3 2 w0 w1 0) V (sxt 2 3 2) 2 12 0 0 = ((((((0 + V 0 * 0) + V 1 * 1) + V 2 * 0) + V 3 * 1) + V 4 * 1) + V 5 * 0) := rfl
  rw [e0, e1, e2, h0, h1, h2, h3, h4, h5]
  clear e0 e1 e2 hV h0 h1 h2 h3 h4 h5
  constructor <;> grind
theorem pl_232_2_1 {V : Nat → Int} (w0 : Int) (w1 : Int) (a0 a1 a2 am b0 b1 b2 bm : Int) (hV : ∀ i, i < 12 → V i = 1 * (a0 * dg 2 3 i 0 + a1 * dg 2 3 i 1 + a2 * dg 2 3 i 2 + am) * (b0 * dg 2 3 i 0 + b1 * dg 2 3 i 1 + b2 * dg 2 3 i 2 + bm)) :
    prt (inZ 2 3 2 w0 w1 1) V (sxt 2 3 2) 0 12 0 0 - prt (inZ 2 3 2 w0 w1 1) V (sxt 2 3 2) 1 12 0 0 = (-1) * (a0 * (b1 * 1 + 0) + (a1 * (b0 * 1 + 0) + 0)) ∧ prt (inZ 2 3 2 w0 w1 1) V (sxt 2 3 2) 1 12 0 0 - prt (inZ 2 3 2 w0 w1 1) V (sxt 2 3 2) 2 12 0 0 = (-1) * (a0 * (b1 * 1 + 0) + (a1 * (b0 * 1 + 0) + 0)) := by
  have h6 : V 6 = 1 * (a0 * 0 + a1 * 0 + a2 * 1 + am) * (b0 * 0 + b1 * 0 + b2 * 1 + bm) := hV 6 (by decide)
  have h7 : V 7 = 1 * (a0 * 1 + a1 * 0 + a2 * 1 + am) * (b0 * 1 + b1 * 0 + b2 * 1 + bm) := hV 7 (by decide)
  have h8 : V 8 = 1 * (a0 * 0 + a1 * 1 + a2 * 1 + am) * (b0 * 0 + b1 * 1 + b2 * 1 + bm) := hV 8 (by decide)
  have h9 : V 9 = 1 * (a0 * 1 + a1 * 1 + a2 * 1 + am) * (b0 * 1 + b1 * 1 + b2 * 1 + bm) := hV 9 (by decide)
  have h10 : V 10 = 1 * (a0 * 0 + a1 * 2 + a2 * 1 + am) * (b0 * 0 + b1 * 2 + b2 * 1 + bm) := hV 10 (by decide)
  have h11 : V 11 = 1 * (a0 * 1 + a1 * 2 + a2 * 1 + am) * (b0 * 1 + b1 * 2 + b2 * 1 + bm) := hV 11 (by decide)
  have e0 : prt (inZ 2 3 2 w0 w1 1) V (sxt 2 3 2) 0 12 0 0 = ((((((0 + V 6 * 0) + V 7 * 1) + V 8 * 1) + V 9 * 0) + V 10 * 1) + V 11 * 0) := rfl
  have e1 : prt (inZ 2 3 2 w0 w1 1) V (sxt 2 3 2) 1 12 0 0 = ((((((0 + V 6 * 1) + V 7 * 0) + V 8 * 0) + V 9 * 1) + V 10 * 1) + V 11 * 0) := rfl
  have e2 : prt (inZ 2 3 2 w0 w1 1) V (sxt 2 3 2) 2 12 0 0 = ((((((0 + V 6 * 1) + V 7 * 0) + V 8 * 1) + V 9 * 0) + V 10 * 0) + V 11 * 1) := rfl
  rw [e0, e1, e2, h6, h7, h8, h9, h10, h11]
  clear e0 e1 e2 hV h6 h7 h8 h9 h10 h11
  constructor <;> grind
theorem pl_232_3 {V : Nat → Int} (w0 : Int) (w1 : Int) (w2 : Int) (a0 a1 a2 am b0 b1 b2 bm c0 c1 c2 cm : Int) (hV : ∀ i, i < 12 → V i = 1 * (a0 * dg 2 3 i 0 + a1 * dg 2 3 i 1 + a2 * dg 2 3 i 2 + am) * (b0 * dg 2 3 i 0 + b1 * dg 2 3 i 1 + b2 * dg 2 3 i 2 + bm) * (c0 * dg 2 3 i 0 + c1 * dg 2 3 i 1 + c2 * dg 2 3 i 2 + cm)) :
    prt (inZ 2 3 3 w0 w1 w2) V (sxt 2 3 2) 0 12 0 0 - prt (inZ 2 3 3 w0 w1 w2) V (sxt 2 3 2) 1 12 0 0 = (-1) * (a0 * (b1 * (c2 * 1 + 0) + (b2 * (c1 * 1 + 0) + 0)) + (a1 * (b0 * (c2 * 1 + 0) + (b2 * (c0 * 1 + 0) + 0)) + (a2 * (b0 * (c1 * 1 + 0) + (b1 * (c0 * 1 + 0) + 0)) + 0))) ∧ prt (inZ 2 3 3 w0 w1 w2) V (sxt 2 3 2) 1 12 0 0 - prt (inZ 2 3 3 w0 w1 w2) V (sxt 2 3 2) 2 12 0 0 = (-1) * (a0 * (b1 * (c2 * 1 + 0) + (b2 * (c1 * 1 + 0) + 0)) + (a1 * (b0 * (c2 * 1 + 0) + (b2 * (c0 * 1 + 0) + 0)) + (a2 * (b0 * (c1 * 1 + 0) + (b1 * (c0 * 1 + 0) + 0)) + 0))) := by
  have h0 : V 0 = 1 * (a0 * 0 + a1 * 0 + a2 * 0 + am) * (b0 * 0 + b1 * 0 + b2 * 0 + bm) * (c0 * 0 + c1 * 0 + c2 * 0 + cm) := hV 0 (by decide)
  have h1 : V 1 = 1 * (a0 * 1 + a1 * 0 + a2 * 0 + am) * (b0 * 1 + b1 * 0 + b2 * 0 + bm) * (c0 * 1 + c1 * 0 + c2 * 0 + cm) := hV 1 (by decide)
  have h2 : V 2 = 1 * (a0 * 0 + a1 * 1 + a2 * 0 + am) * (b0 * 0 + b1 * 1 + b2 * 0 + bm) * (c0 * 0 + c1 * 1 + c2 * 0 + cm) := hV 2 (by decide)
  have h3 : V 3 = 1 * (a0 * 1 + a1 * 1 + a2 * 0 + am) * (b0 * 1 + b1 * 1 + b2 * 0 + bm) * (c0 * 1 + c1 * 1 + c2 * 0 + cm) := hV 3 (by decide)
  have h4 : V 4 = 1 * (a0 * 0 + a1 * 2 + a2 * 0 + am) * (b0 * 0 + b1 * 2 + b2 * 0 + bm) * (c0 * 0 + c1 * 2 + c2 * 0 + cm) := hV 4 (by decide)
  have h5 : V 5 = 1 * (a0 * 1 + a1 * 2 + a2 * 0 + am) * (b0 * 1 + b1 * 2 + b2 * 0 + bm) * (c0 * 1 + c1 * 2 + c2 * 0 + cm) := hV 5 (by decide)
  have h6 : V 6 = 1 * (a0 * 0 + a1 * 0 + a2 * 1 + am) * (b0 * 0 + b1 * 0 + b2 * 1 + bm) * (c0 * 0 + c1 * 0 + c2 * 1 + cm) := hV 6 (by decide)
  have h7 : V 7 = 1 * (a0 * 1 + a1 * 0 + a2 * 1 + am) * (b0 * 1 + b1 * 0 + b2 * 1 + bm) * (c0 * 1 + c1 * 0 + c2 * 1 + cm) := hV 7 (by decide)
  have h8 : V 8 = 1 * (a0 * 0 + a1 * 1 + a2 * 1 + am) * (b0 * 0 + b1 * 1 + b2 * 1 + bm) * (c0 * 0 + c1 * 1 + c2 * 1 + cm) := hV 8 (by decide)
  have h9 : V 9 = 1 * (a0 * 1 + a1 * 1 + a2 * 1 + am) * (b0 * 1 + b1 * 1 + b2 * 1 + bm) * (c0 * 1 + c1 * 1 + c2 * 1 + cm) := hV 9 (by decide)
  have h10 : V 10 = 1 * (a0 * 0 + a1 * 2 + a2 * 1 + am) * (b0 * 0 + b1 * 2 + b2 * 1 + bm) * (c0 * 0 + c1 * 2 + c2 * 1 + cm) := hV 10 (by decide)
  have h11 : V 11 = 1 * (a0 * 1 + a1 * 2 + a2 * 1 + am) * (b0 * 1 + b1 * 2 + b2 * 1 + bm) * (c0 * 1 + c1 * 2 + c2 * 1 + cm) := hV 11 (by decide)
  have e0 : prt (inZ 2 3 3 w0 w1 w2) V (sxt 2 3 2) 0 12 0 0 = ((((((((((((0 + V 0 * 1) + V 1 * 0) + V 2 * 0) + V 3 * 1) + V 4 * 0) + V 5 * 1) + V 6 * 0) + V 7 * 1) + V 8 * 1) + V 9 * 0) + V 10 * 1) + V 11 * 0) := rfl
  have e1 : prt (inZ 2 3 3 w0 w1 w2) V (sxt 2 3 2) 1 12 0 0 = ((((((((((((0 + V 0 * 0) + V 1 * 1) + V 2 * 1) + V 3 * 0) + V 4 * 0) + V 5 * 1) + V 6 * 1) + V 7 * 0) + V 8 * 0) + V 9 * 1) + V 10 * 1) + V 11 * 0) := rfl
  have e2 : prt (inZ 2 3 3 w0 w1 w2) V (sxt 2 3 2) 2 12 0 0 = ((((((((((((0 + V 0 * 0) + V 1 * 1) + V 2 * 0) + V 3 * 1) + V 4 * 1) + V 5 * 0) + V 6 * 1) + V 7 * 0) + V 8 * 1) + V 9 * 0) + V 10 * 0) + V 11 * 1) := rfl
  rw [e0, e1, e2, h0, h1, h2, h3, h4, h5, h6, h7, h8, h9, h10, h11]
  clear e0 e1 e2 hV h0 h1 h2 h3 h4 h5 h6 h7 h8 h9 h10 h11
  constructor <;> grind
theorem pl_223_1_0_0 {V : Nat → Int} (w0 : Int) (a0 a1 a2 am : Int) (hV : ∀ i, i < 12 → V i = 1 * (a0 * dg 2 2 i 0 + a1 * dg 2 2 i 1 + a2 * dg 2 2 i 2 + am)) :
    prt (inZ 2 2 1 w0 0 0) V (sxt 2 2 3) 0 12 0 0 - prt (inZ 2 2 1 w0 0 0) V (sxt 2 2 3) 1 12 0 0 = (-1) * (a0 * 1 + 0) ∧ prt (inZ 2 2 1 w0 0 0) V (sxt 2 2 3) 1 12 0 0 - prt (inZ 2 2 1 w0 0 0) V (sxt 2 2 3) 2 12 0 0 = (0) * (a0 * 1 + 0) := by
  have h0 : V 0 = 1 * (a0 * 0 + a1 * 0 + a2 * 0 + am) := hV 0 (by decide)
  have h1 : V 1 = 1 * (a0 * 1 + a1 * 0 + a2 * 0 + am) := hV 1 (by decide)
  have e0 : prt (inZ 2 2 1 w0 0 0) V (sxt 2 2 3) 0 12 0 0 = ((0 + V 0 * 1) + V 1 * 0) := rfl
  have e1 : prt (inZ 2 2 1 w0 0 0) V (sxt 2 2 3) 1 12 0 0 = ((0 + V 0 * 0) + V 1 * 1) := rfl
  have e2 : prt (inZ 2 2 1 w0 0 0) V (sxt 2 2 3) 2 12 0 0 = ((0 + V 0 * 0) + V 1 * 1) := rfl
  rw [e0, e1, e2, h0, h1]
  clear e0 e1 e2 hV h0 h1
  constructor <;> grind
theorem pl_223_1_0_1 {V : Nat → Int} (w0 : Int) (a0 a1 a2 am : Int) (hV : ∀ i, i < 12 → V i = 1 * (a0 * dg 2 2 i 0 + a1 * dg 2 2 i 1 + a2 * dg 2 2 i 2 + am)) :
    prt (inZ 2 2 1 w0 0 1) V (sxt 2 2 3) 0 12 0 0 - prt (inZ 2 2 1 w0 0 1) V (sxt 2 2 3) 1 12 0 0 = (1) * (a0 * 1 + 0) ∧ prt (inZ 2 2 1 w0 0 1) V (sxt 2 2 3) 1 12 0 0 - prt (inZ 2 2 1 w0 0 1) V (sxt 2 2 3) 2 12 0 0 = (-1) * (a0 * 1 + 0) := by
  have h4 : V 4 = 1 * (a0 * 0 + a1 * 0 + a2 * 1 + am) := hV 4 (by decide)
  have h5 : V 5 = 1 * (a0 * 1 + a1 * 0 + a2 * 1 + am) := hV 5 (by decide)
  have e0 : prt (inZ 2 2 1 w0 0 1) V (sxt 2 2 3) 0 12 0 0 = ((0 + V 4 * 0) + V 5 * 1) := rfl
  have e1 : prt (inZ 2 2 1 w0 0 1) V (sxt 2 2 3) 1 12 0 0 = ((0 + V 4 * 1) + V 5 * 0) := rfl
  have e2 : prt (inZ 2 2 1 w0 0 1) V (sxt 2 2 3) 2 12 0 0 = ((0 + V 4 * 0) + V 5 * 1) := rfl
  rw [e0, e1, e2, h4, h5]
  clear e0 e1 e2 hV h4 h5
  constructor <;> grind
theorem pl_223_1_0_2 {V : Nat → Int} (w0 : Int) (a0 a1 a2 am : Int) (hV : ∀ i, i < 12 → V i = 1 * (a0 * dg 2 2 i 0 + a1 * dg 2 2 i 1 + a2 * dg 2 2 i 2 + am)) :
    prt (inZ 2 2 1 w0 0 2) V (sxt 2 2 3) 0 12 0 0 - prt (inZ 2 2 1 w0 0 2) V (sxt 2 2 3) 1 12 0 0 = (0) * (a0 * 1 + 0) ∧ prt (inZ 2 2 1 w0 0 2) V (sxt 2 2 3) 1 12 0 0 - prt (inZ 2 2 1 w0 0 2) V (sxt 2 2 3) 2 12 0 0 = (1) * (a0 * 1 + 0) := by
  have h8 : V 8 = 1 * (a0 * 0 + a1 * 0 + a2 * 2 + am) := hV 8 (by decide)
  have h9 : V 9 = 1 * (a0 * 1 + a1 * 0 + a2 * 2 + am) := hV 9 (by decide)
  have e0 : prt (inZ 2 2 1 w0 0 2) V (sxt 2 2 3) 0 12 0 0 = ((0 + V 8 * 0) + V 9 * 1) := rfl
  have e1 : prt (inZ 2 2 1 w0 0 2) V (sxt 2 2 3) 1 12 0 0 = ((0 + V 8 * 0) + V 9 * 1) := rfl
  have e2 : prt (inZ 2 2 1 w0 0 2) V (sxt 2 2 3) 2 12 0 0 = ((0 + V 8 * 1) + V 9 * 0) := rfl
  rw [e0, e1, e2, h8, h9]
  clear e0 e1 e2 hV h8 h9
  constructor <;> grind
theorem pl_223_1_1_0 {V : Nat → Int} (w0 : Int) (a0 a1 a2 am : Int) (hV : ∀ i, i < 12 → V i = 1 * (a0 * dg 2 2 i 0 + a1 * dg 2 2 i 1 + a2 * dg 2 2 i 2 + am)) :
    prt (inZ 2 2 1 w0 1 0) V (sxt 2 2 3) 0 12 0 0 - prt (inZ 2 2 1 w0 1 0) V (sxt 2 2 3) 1 12 0 0 = (1) * (a0 * 1 + 0) ∧ prt (inZ 2 2 1 w0 1 0) V (sxt 2 2 3) 1 12 0 0 - prt (inZ 2 2 1 w0 1 0) V (sxt 2 2 3) 2 12 0 0 = (0) * (a0 * 1 + 0) := by
  have h2 : V 2 = 1 * (a0 * 0 + a1 * 1 + a2 * 0 + am) := hV 2 (by decide)
  have h3 : V 3 = 1 * (a0 * 1 + a1 * 1 + a2 * 0 + am) := hV 3 (by decide)
  have e0 : prt (inZ 2 2 1 w0 1 0) V (sxt 2 2 3) 0 12 0 0 = ((0 + V 2 * 0) + V 3 * 1) := rfl
  have e1 : prt (inZ 2 2 1 w0 1 0) V (sxt 2 2 3) 1 12 0 0 = ((0 + V 2 * 1) + V 3 * 0) := rfl
  have e2 : prt (inZ 2 2 1 w0 1 0) V (sxt 2 2 3) 2 12 0 0 = ((0 + V 2 * 1) + V 3 * 0) := rfl
  rw [e0, e1, e2, h2, h3]
  clear e0 e1 e2 hV h2 h3
  constructor <;> grind
theorem pl_223_1_1_1 {V : Nat → Int} (w0 : Int) (a0 a1 a2 am : Int) (hV : ∀ i, i < 12 → V i = 1 * (a0 * dg 2 2 i 0 + a1 * dg 2 2 i 1 + a2 * dg 2 2 i 2 + am)) :
    prt (inZ 2 2 1 w0 1 1) V (sxt 2 2 3) 0 12 0 0 - prt (inZ 2 2 1 w0 1 1) V (sxt 2 2 3) 1 12 0 0 = (-1) * (a0 * 1 + 0) ∧ prt (inZ 2 2 1 w0 1 1) V (sxt 2 2 3) 1 12 0 0 - prt (inZ 2 2 1 w0 1 1) V (sxt 2 2 3) 2 12 0 0 = (1) * (a0 * 1 + 0) := by
  have h6 : V 6 = 1 * (a0 * 0 + a1 * 1 + a2 * 1 + am) := hV 6 (by decide)
  have h7 : V 7 = 1 * (a0 * 1 + a1 * 1 + a2 * 1 + am) := hV 7 (by decide)
  have e0 : prt (inZ 2 2 1 w0 1 1) V (sxt 2 2 3) 0 12 0 0 = ((0 + V 6 * 1) + V 7 * 0) := rfl
  have e1 : prt (inZ 2 2 1 w0 1 1) V (sxt 2 2 3) 1 12 0 0 = ((0 + V 6 * 0) + V 7 * 1) := rfl
  have e2 : prt (inZ 2 2 1 w0 1 1) V (sxt 2 2 3) 2 12 0 0 = ((0 + V 6 * 1) + V 7 * 0) := rfl
  rw [e0, e1, e2, h6, h7]
  clear e0 e1 e2 hV h6 h7
  constructor <;> grind
theorem pl_223_1_1_2 {V : Nat → Int} (w0 : Int) (a0 a1 a2 am : Int) (hV : ∀ i, i < 12 → V i = 1 * (a0 * dg 2 2 i 0 + a1 * dg 2 2 i 1 + a2 * dg 2 2 i 2 + am)) :
    prt (inZ 2 2 1 w0 1 2) V (sxt 2 2 3) 0 12 0 0 - prt (inZ 2 2 1 w0 1 2) V (sxt 2 2 3) 1 12 0 0 = (0) * (a0 * 1 + 0) ∧ prt (inZ 2 2 1 w0 1 2) V (sxt 2 2 3) 1 12 0 0 - prt (inZ 2 2 1 w0 1 2) V (sxt 2 2 3) 2 12 0 0 = (-1) * (a0 * 1 + 0) := by
  have h10 : V 10 = 1 * (a0 * 0 + a1 * 1 + a2 * 2 + am) := hV 10 (by decide)
  have h11 : V 11 = 1 * (a0 * 1 + a1 * 1 + a2 * 2 + am) := hV 11 (by decide)
  have e0 : prt (inZ 2 2 1 w0 1 2) V (sxt 2 2 3) 0 12 0 0 = ((0 + V 10 * 1) + V 11 * 0) := rfl
  have e1 : prt (inZ 2 2 1 w0 1 2) V (sxt 2 2 3) 1 12 0 0 = ((0 + V 10 * 1) + V 11 * 0) := rfl
  have e2 : prt (inZ 2 2 1 w0 1 2) V (sxt 2 2 3) 2 12 0 0 = ((0 + V 10 * 0) + V 11 * 1) := rfl
  rw [e0, e1, e2, h10, h11]
  clear e0 e1 e2 hV h10 h11
  constructor <;> grind
theorem pl_223_2_0 {V : Nat → Int} (w0 : Int) (w1 : Int) (a0 a1 a2 am b0 b1 b2 bm : Int) (hV : ∀ i, i < 12 → V i = 1 * (a0 * dg 2 2 i 0 + a1 * dg 2 2 i 1 + a2 * dg 2 2 i 2 + am) * (b0 * dg 2 2 i 0 + b1 * dg 2 2 i 1 + b2 * dg 2 2 i 2 + bm)) :
    prt (inZ 2 2 2 w0 w1 0) V (sxt 2 2 3) 0 12 0 0 - prt (inZ 2 2 2 w0 w1 0) V (sxt 2 2 3) 1 12 0 0 = (1) * (a0 * (b1 * 1 + 0) + (a1 * (b0 * 1 + 0) + 0)) ∧ prt (inZ 2 2 2 w0 w1 0) V (sxt 2 2 3) 1 12 0 0 - prt (inZ 2 2 2 w0 w1 0) V (sxt 2 2 3) 2 12 0 0 = (0) * (a0 * (b1 * 1 + 0) + (a1 * (b0 * 1 + 0) + 0)) := by
  have h0 : V 0 = 1 * (a0 * 0 + a1 * 0 + a2 * 0 + am) * (b0 * 0 + b1 * 0 + b2 * 0 + bm) := hV 0 (by decide)
  have h1 : V 1 = 1 * (a0 * 1 + a1 * 0 + a2 * 0 + am) * (b0 * 1 + b1 * 0 + b2 * 0 + bm) := hV 1 (by decide)
  have h2 : V 2 = 1 * (a0 * 0 + a1 * 1 + a2 * 0 + am) * (b0 * 0 + b1 * 1 + b2 * 0 + bm) := hV 2 (by decide)
  have h3 : V 3 = 1 * (a0 * 1 + a1 * 1 + a2 * 0 + am) * (b0 * 1 + b1 * 1 + b2 * 0 + bm) := hV 3 (by decide)
  have e0 : prt (inZ 2 2 2 w0 w1 0) V (sxt 2 2 3) 0 12 0 0 = ((((0 + V 0 * 1) + V 1 * 0) + V 2 * 0) + V 3 * 1) := rfl
  have e1 : prt (inZ 2 2 2 w0 w1 0) V (sxt 2 2 3) 1 12 0 0 = ((((0 + V 0 * 0) + V 1 * 1) + V 2 * 1) + V 3 * 0) := rfl
  have e2 : prt (inZ 2 2 2 w0 w1 0) V (sxt 2 2 3) 2 12 0 0 = ((((0 + V 0 * 0) + V 1 * 1) + V 2 * 1) + V 3 * 0) := rfl
  rw [e0, e1, e2, h0, h1, h2, h3]
  clear e0 e1 e2 hV h0 h1 h2 h3
  constructor <;> grind
theorem pl_223_2_1 {V : Nat → Int} (w0 : Int) (w1 : Int) (a0 a1 a2 am b0 b1 b2 bm : Int) (hV : ∀ i, i < 12 → V i = 1 * (a0 * dg 2 2 i 0 + a1 * dg 2 2 i 1 + a2 * dg 2 2 i 2 + am) * (b0 * dg 2 2 i 0 + b1 * dg 2 2 i 1 + b2 * dg 2 2 i 2 + bm)) :
    prt (inZ 2 2 2 w0 w1 1) V (sxt 2 2 3) 0 12 0 0 - prt (inZ 2 2 2 w0 w1 1) V (sxt 2 2 3) 1 12 0 0 = (-1) * (a0 * (b1 * 1 + 0) + (a1 * (b0 * 1 + 0) + 0)) ∧ prt (inZ 2 2 2 w0 w1 1) V (sxt 2 2 3) 1 12 0 0 - prt (inZ 2 2 2 w0 w1 1) V (sxt 2 2 3) 2 12 0 0 = (1) * (a0 * (b1 * 1 + 0) + (a1 * (b0 * 1 + 0) + 0)) := by
  have h4 : V 4 = 1 * (a0 * 0 + a1 * 0 + a2 * 1 + am) * (b0 * 0 + b1 * 0 + b2 * 1 + bm) := hV 4 (by decide)
  have h5 : V 5 = 1 * (a0 * 1 + a1 * 0 + a2 * 1 + am) * (b0 * 1 + b1 * 0 + b2 * 1 + bm) := hV 5 (by decide)
  have h6 : V 6 = 1 * (a0 * 0 + a1 * 1 + a2 * 1 + am) * (b0 * 0 + b1 * 1 + b2 * 1 + bm) := hV 6 (by decide)
  have h7 : V 7 = 1 * (a0 * 1 + a1 * 1 + a2 * 1 + am) * (b0 * 1 + b1 * 1 + b2 * 1 + bm) := hV 7 (by decide)
  have e0 : prt (inZ 2 2 2 w0 w1 1) V (sxt 2 2 3) 0 12 0 0 = ((((0 + V 4 * 0) + V 5 * 1) + V 6 * 1) + V 7 * 0) := rfl
  have e1 : prt (inZ 2 2 2 w0 w1 1) V (sxt 2 2 3) 1 12 0 0 = ((((0 + V 4 * 1) + V 5 * 0) + V 6 * 0) + V 7 * 1) := rfl
  have e2 : prt (inZ 2 2 2 w0 w1 1) V (sxt 2 2 3) 2 12 0 0 = ((((0 + V 4 * 0) + V 5 * 1) + V 6 * 1) + V 7 * 0) := rfl
  rw [e0, e1, e2, h4, h5, h6, h7]
  clear e0 e1 e2 hV h4 h5 h6 h7
  constructor <;> grind
theorem pl_223_2_2 {V : Nat → Int} (w0 : Int) (w1 : Int) (a0 a1 a2 am b0 b1 b2 bm : Int) (hV : ∀ i, i < 12 → V i = 1 * (a0 * dg 2 2 i 0 + a1 * dg 2 2 i 1 + a2 * dg 2 2 i 2 + am) * (b0 * dg 2 2 i 0 + b1 * dg 2 2 i 1 + b2 * dg 2 2 i 2 + bm)) :
    prt (inZ 2 2 2 w0 w1 2) V (sxt 2 2 3) 0 12 0 0 - prt (inZ 2 2 2 w0 w1 2) V (sxt 2 2 3) 1 12 0 0 = (0) * (a0 * (b1 * 1 + 0) + (a1 * (b0 * 1 + 0) + 0)) ∧ prt (inZ 2 2 2 w0 w1 2) V (sxt 2 2 3) 1 12 0 0 - prt (inZ 2 2 2 w0 w1 2) V (sxt 2 2 3) 2 12 0 0 = (-1) * (a0 * (b1 * 1 + 0) + (a1 * (b0 * 1 + 0) + 0)) := by
  have h8 : V 8 = 1 * (a0 * 0 + a1 * 0 + a2 * 2 + am) * (b0 * 0 + b1 * 0 + b2 * 2 + bm) := hV 8 (by decide)
  have h9 : V 9 = 1 * (a0 * 1 + a1 * 0 + a2 * 2 + am) * (b0 * 1 + b1 * 0 + b2 * 2 + bm) := hV 9 (by decide)
  have h10 : V 10 = 1 * (a0 * 0 + a1 * 1 + a2 * 2 + am) * (b0 * 0 + b1 * 1 + b2 * 2 + bm) := hV 10 (by decide)
  have h11 : V 11 = 1 * (a0 * 1 + a1 * 1 + a2 * 2 + am) * (b0 * 1 + b1 * 1 + b2 * 2 + bm) := hV 11 (by decide)
  have e0 : prt (inZ 2 2 2 w0 w1 2) V (sxt 2 2 3) 0 12 0 0 = ((((0 + V 8 * 0) + V 9 * 1) + V 10 * 1) + V 11 * 0) := rfl
  have e1 : prt (inZ 2 2 2 w0 w1 2) V (sxt 2 2 3) 1 12 0 0 = ((((0 + V 8 * 0) + V 9 * 1) + V 10 * 1) + V 11 * 0) := rfl
  have e2 : prt (inZ 2 2 2 w0 w1 2) V (sxt 2 2 3) 2 12 0 0 = ((((0 + V 8 * 1) + V 9 * 0) + V 10 * 0) + V 11 * 1) := rfl
  rw [e0, e1, e2, h8, h9, h10, h11]
  clear e0 e1 e2 hV h8 h9 h10 h11
  constructor <;> grind
theorem pl_223_3 {V : Nat → Int} (w0 : Int) (w1 : Int) (w2 : Int) (a0 a1 a2 am b0 b1 b2 bm c0 c1 c2 cm : Int) (hV : ∀ i, i < 12 → V i = 1 * (a0 * dg 2 2 i 0 + a1 * dg 2 2 i 1 + a2 * dg 2 2 i 2 + am) * (b0 * dg 2 2 i 0 + b1 * dg 2 2 i 1 + b2 * dg 2 2 i 2 + bm) * (c0 * dg 2 2 i 0 + c1 * dg 2 2 i 1 + c2 * dg 2 2 i 2 + cm)) :
    prt (inZ 2 2 3 w0 w1 w2) V (sxt 2 2 3) 0 12 0 0 - prt (inZ 2 2 3 w0 w1 w2) V (sxt 2 2 3) 1 12 0 0 = (-1) * (a0 * (b1 * (c2 * 1 + 0) + (b2 * (c1 * 1 + 0) + 0)) + (a1 * (b0 * (c2 * 1 + 0) + (b2 * (c0 * 1 + 0) + 0)) + (a2 * (b0 * (c1 * 1 + 0) + (b1 * (c0 * 1 + 0) + 0)) + 0))) ∧ prt (inZ 2 2 3 w0 w1 w2) V (sxt 2 2 3) 1 12 0 0 - prt (inZ 2 2 3 w0 w1 w2) V (sxt 2 2 3) 2 12 0 0 = (-1) * (a0 * (b1 * (c2 * 1 + 0) + (b2 * (c1 * 1 + 0) + 0)) + (a1 * (b0 * (c2 * 1 + 0) + (b2 * (c0 * 1 + 0) + 0)) + (a2 * (b0 * (c1 * 1 + 0) + (b1 * (c0 * 1 + 0) + 0)) + 0))) := by
  have h0 : V 0 = 1 * (a0 * 0 + a1 * 0 + a2 * 0 + am) * (b0 * 0 + b1 * 0 + b2 * 0 + bm) * (c0 * 0 + c1 * 0 + c2 * 0 + cm) := hV 0 (by decide)
  have h1 : V 1 = 1 * (a0 * 1 + a1 * 0 + a2 * 0 + am) * (b0 * 1 + b1 * 0 + b2 * 0 + bm) * (c0 * 1 + c1 * 0 + c2 * 0 + cm) := hV 1 (by decide)
  have h2 : V 2 = 1 * (a0 * 0 + a1 * 1 + a2 * 0 + am) * (b0 * 0 + b1 * 1 + b2 * 0 + bm) * (c0 * 0 + c1 * 1 + c2 * 0 + cm) := hV 2 (by decide)
  have h3 : V 3 = 1 * (a0 * 1 + a1 * 1 + a2 * 0 + am) * (b0 * 1 + b1 * 1 + b2 * 0 + bm) * (c0 * 1 + c1 * 1 + c2 * 0 + cm) := hV 3 (by decide)
  have h4 : V 4 = 1 * (a0 * 0 + a1 * 0 + a2 * 1 + am) * (b0 * 0 + b1 * 0 + b2 * 1 + bm) * (c0 * 0 + c1 * 0 + c2 * 1 + cm) := hV 4 (by decide)
  have h5 : V 5 = 1 * (a0 * 1 + a1 * 0 + a2 * 1 + am) * (b0 * 1 + b1 * 0 + b2 * 1 + bm) * (c0 * 1 + c1 * 0 + c2 * 1 + cm) := hV 5 (by decide)
  have h6 : V 6 = 1 * (a0 * 0 + a1 * 1 + a2 * 1 + am) * (b0 * 0 + b1 * 1 + b2 * 1 + bm) * (c0 * 0 + c1 * 1 + c2 * 1 + cm) := hV 6 (by decide)
  have h7 : V 7 = 1 * (a0 * 1 + a1 * 1 + a2 * 1 + am) * (b0 * 1 + b1 * 1 + b2 * 1 + bm) * (c0 * 1 + c1 * 1 + c2 * 1 + cm) := hV 7 (by decide)
  have h8 : V 8 = 1 * (a0 * 0 + a1 * 0 + a2 * 2 + am) * (b0 * 0 + b1 * 0 + b2 * 2 + bm) * (c0 * 0 + c1 * 0 + c2 * 2 + cm) := hV 8 (by decide)
  have h9 : V 9 = 1 * (a0 * 1 + a1 * 0 + a2 * 2 + am) * (b0 * 1 + b1 * 0 + b2 * 2 + bm) * (c0 * 1 + c1 * 0 + c2 * 2 + cm) := hV 9 (by decide)
  have h10 : V 10 = 1 * (a0 * 0 + a1 * 1 + a2 * 2 + am) * (b0 * 0 + b1 * 1 + b2 * 2 + bm) * (c0 * 0 + c1 * 1 + c2 * 2 + cm) := hV 10 (by decide)
  have h11 : V 11 = 1 * (a0 * 1 + a1 * 1 + a2 * 2 + am) * (b0 * 1 + b1 * 1 + b2 * 2 + bm) * (c0 * 1 + c1 * 1 + c2 * 2 + cm) := hV 11 (by decide)
  have e0 : prt (inZ 2 2 3 w0 w1 w2) V (sxt 2 2 3) 0 12 0 0 = ((((((((((((0 + V 0 * 1) + V 1 * 0) + V 2 * 0) + V 3 * 1) + V 4 * 0) + V 5 * 1) + V 6 * 1) + V 7 * 0) + V 8 * 0) + V 9 * 1) + V 10 * 1) + V 11 * 0) := rfl
  have e1 : prt (inZ 2 2 3 w0 w1 w2) V (sxt 2 2 3) 1 12 0 0 = ((((((((((((0 + V 0 * 0) + V 1 * 1) + V 2 * 1) + V 3 * 0) + V 4 * 1) + V 5 * 0) + V 6 * 0) + V 7 * 1) + V 8 * 0) + V 9 * 1) + V 10 * 1) + V 11 * 0) := rfl
  have e2 : prt (inZ 2 2 3 w0 w1 w2) V (sxt 2 2 3) 2 12 0 0 = ((((((((((((0 + V 0 * 0) + V 1 * 1) + V 2 * 1) + V 3 * 0) + V 4 * 0) + V 5 * 1) + V 6 * 1) + V 7 * 0) + V 8 * 1) + V 9 * 0) + V 10 * 0) + V 11 * 1) := rfl
  rw [e0, e1, e2, h0, h1, h2, h3, h4, h5, h6, h7, h8, h9, h10, h11]
  clear e0 e1 e2 hV h0 h1 h2 h3 h4 h5 h6 h7 h8 h9 h10 h11
  constructor <;> grind
end Mine
end
section
open _root_.PySem _root_.PySem.W _root_.PySem.W.X _root_.PyProof.Rows
set_option Elab.async false
set_option maxRecDepth 100000
set_option maxHeartbeats 0
namespace Mine
local macro_rules | `(tactic| walk_at "none") => `(tactic| skip)
theorem rs50 : True := by w_top off; trivial
theorem val_lin (x : Form) (y0 y1 y2 : Int) : x.val [65 + y2, 65 + y1, 65 + y0] [65 + y0, 65 + y1, 65 + y2] = powE x.b x.e 0 * y0 + powE x.b x.e 1 * y1 + powE x.b x.e 2 * y2 + x.f := by
  obtain ⟨p, b, e, f⟩ := x
  cases e <;> simp only [Form.val, fval, powE, List.foldl_cons, List.foldl_nil, if_true, Bool.false_eq_true, if_false, Nat.reduceSub, Int.pow_zero, Int.pow_one] <;> grind
def permF : List Form → Int
  | [] => 1
  | [x0] => powE x0.b x0.e 0 * 1 + 0
  | [x0, x1] => powE x0.b x0.e 0 * (powE x1.b x1.e 1 * 1 + 0) + (powE x0.b x0.e 1 * (powE x1.b x1.e 0 * 1 + 0) + 0)
  | [x0, x1, x2] => powE x0.b x0.e 0 * (powE x1.b x1.e 1 * (powE x2.b x2.e 2 * 1 + 0) + (powE x1.b x1.e 2 * (powE x2.b x2.e 1 * 1 + 0) + 0)) + (powE x0.b x0.e 1 * (powE x1.b x1.e 0 * (powE x2.b x2.e 2 * 1 + 0) + (powE x1.b x1.e 2 * (powE x2.b x2.e 0 * 1 + 0) + 0)) + (powE x0.b x0.e 2 * (powE x1.b x1.e 0 * (powE x2.b x2.e 1 * 1 + 0) + (powE x1.b x1.e 1 * (powE x2.b x2.e 0 * 1 + 0) + 0)) + 0))
  | _ => 0
def sgF (fr : Int) (fs : List Form) : Int := if (fs.length : Int) = fr then permF fs else 0
def lt3 (b0 b1 : Nat) (fs : List Form) (i : Nat) : Int := lightOf [gd b0 b1 i 0, gd b0 b1 i 1, gd b0 b1 i 2] [fd b0 b1 i 0, fd b0 b1 i 1, fd b0 b1 i 2] 1 fs
theorem lt3_val (x : Form) (b0 b1 i : Nat) : x.val [gd b0 b1 i 0, gd b0 b1 i 1, gd b0 b1 i 2] [fd b0 b1 i 0, fd b0 b1 i 1, fd b0 b1 i 2] = powE x.b x.e 0 * dg b0 b1 i 0 + powE x.b x.e 1 * dg b0 b1 i 1 + powE x.b x.e 2 * dg b0 b1 i 2 + x.f := val_lin x _ _ _
theorem lin0 (fs : List Form) (h : fs.length ≤ 0) : (∀ d0 d1 i : Nat, lt3 d0 d1 fs i = 1) ∧ 1 = sgF 0 fs := by
  match fs, h with
  | [], _ => exact ⟨fun d0 d1 i => by unfold lt3 lightOf; simp only [List.foldl_cons, List.foldl_nil, lt3_val] <;> grind, rfl⟩
  | _ :: _, h => simp only [List.length_cons] at h; omega
theorem lin1 (fs : List Form) (h : fs.length ≤ 1) : ∃ a0 a1 a2 am : Int, (∀ d0 d1 i : Nat, lt3 d0 d1 fs i = 1 * (a0 * dg d0 d1 i 0 + a1 * dg d0 d1 i 1 + a2 * dg d0 d1 i 2 + am)) ∧ a0 * 1 + 0 = sgF 1 fs := by
  match fs, h with
  | [], _ => exact ⟨0, 0, 0, 1, fun d0 d1 i => by unfold lt3 lightOf; simp only [List.foldl_cons, List.foldl_nil, lt3_val] <;> grind, by unfold sgF; rw [if_neg (by simp only [List.length_cons, List.length_nil]; decide)]; grind⟩
  | [x0], _ => exact ⟨powE x0.b x0.e 0, powE x0.b x0.e 1, powE x0.b x0.e 2, x0.f, fun d0 d1 i => by unfold lt3 lightOf; simp only [List.foldl_cons, List.foldl_nil, lt3_val] <;> grind, rfl⟩
  | _ :: _ :: _, h => simp only [List.length_cons] at h; omega
theorem lin2 (fs : List Form) (h : fs.length ≤ 2) : ∃ a0 a1 a2 am b0 b1 b2 bm : Int, (∀ d0 d1 i : Nat, lt3 d0 d1 fs i = 1 * (a0 * dg d0 d1 i 0 + a1 * dg d0 d1 i 1 + a2 * dg d0 d1 i 2 + am) * (b0 * dg d0 d1 i 0 + b1 * dg d0 d1 i 1 + b2 * dg d0 d1 i 2 + bm)) ∧ a0 * (b1 * 1 + 0) + (a1 * (b0 * 1 + 0) + 0) = sgF 2 fs := by
  match fs, h with
  | [], _ => exact ⟨0, 0, 0, 1, 0, 0, 0, 1, fun d0 d1 i => by unfold lt3 lightOf; simp only [List.foldl_cons, List.foldl_nil, lt3_val] <;> grind, by unfold sgF; rw [if_neg (by simp only [List.length_cons, List.length_nil]; decide)]; grind⟩
  | [x0], _ => exact ⟨powE x0.b x0.e 0, powE x0.b x0.e 1, powE x0.b x0.e 2, x0.f, 0, 0, 0, 1, fun d0 d1 i => by unfold lt3 lightOf; simp only [List.foldl_cons, List.foldl_nil, lt3_val] <;> grind, by unfold sgF; rw [if_neg (by simp only [List.length_cons, List.length_nil]; decide)]; grind⟩
  | [x0, x1], _ => exact ⟨powE x0.b x0.e 0, powE x0.b x0.e 1, powE x0.b x0.e 2, x0.f, powE x1.b x1.e 0, powE x1.b x1.e 1, powE x1.b x1.e 2, x1.f, fun d0 d1 i => by unfold lt3 lightOf; simp only [List.foldl_cons, List.foldl_nil, lt3_val] <;> grind, rfl⟩
  | _ :: _ :: _ :: _, h => simp only [List.length_cons] at h; omega
theorem lin3 (fs : List Form) (h : fs.length ≤ 3) : ∃ a0 a1 a2 am b0 b1 b2 bm c0 c1 c2 cm : Int, (∀ d0 d1 i : Nat, lt3 d0 d1 fs i = 1 * (a0 * dg d0 d1 i 0 + a1 * dg d0 d1 i 1 + a2 * dg d0 d1 i 2 + am) * (b0 * dg d0 d1 i 0 + b1 * dg d0 d1 i 1 + b2 * dg d0 d1 i 2 + bm) * (c0 * dg d0 d1 i 0 + c1 * dg d0 d1 i 1 + c2 * dg d0 d1 i 2 + cm)) ∧ a0 * (b1 * (c2 * 1 + 0) + (b2 * (c1 * 1 + 0) + 0)) + (a1 * (b0 * (c2 * 1 + 0) + (b2 * (c0 * 1 + 0) + 0)) + (a2 * (b0 * (c1 * 1 + 0) + (b1 * (c0 * 1 + 0) + 0)) + 0)) = sgF 3 fs := by
  match fs, h with
  | [], _ => exact ⟨0, 0, 0, 1, 0, 0, 0, 1, 0, 0, 0, 1, fun d0 d1 i => by unfold lt3 lightOf; simp only [List.foldl_cons, List.foldl_nil, lt3_val] <;> grind, by unfold sgF; rw [if_neg (by simp only [List.length_cons, List.length_nil]; decide)]; grind⟩
  | [x0], _ => exact ⟨powE x0.b x0.e 0, powE x0.b x0.e 1, powE x0.b x0.e 2, x0.f, 0, 0, 0, 1, 0, 0, 0, 1, fun d0 d1 i => by unfold lt3 lightOf; simp only [List.foldl_cons, List.foldl_nil, lt3_val] <;> grind, by unfold sgF; rw [if_neg (by simp only [List.length_cons, List.length_nil]; decide)]; grind⟩
  | [x0, x1], _ => exact ⟨powE x0.b x0.e 0, powE x0.b x0.e 1, powE x0.b x0.e 2, x0.f, powE x1.b x1.e 0, powE x1.b x1.e 1, powE x1.b x1.e 2, x1.f, 0, 0, 0, 1, fun d0 d1 i => by unfold lt3 lightOf; simp only [List.foldl_cons, List.foldl_nil, lt3_val] <;> grind, by unfold sgF; rw [if_neg (by simp only [List.length_cons, List.length_nil]; decide)]; grind⟩
  | [x0, x1, x2], _ => exact ⟨powE x0.b x0.e 0, powE x0.b x0.e 1, powE x0.b x0.e 2, x0.f, powE x1.b x1.e 0, powE x1.b x1.e 1, powE x1.b x1.e 2, x1.f, powE x2.b x2.e 0, powE x2.b x2.e 1, powE x2.b x2.e 2, x2.f, fun d0 d1 i => by unfold lt3 lightOf; simp only [List.foldl_cons, List.foldl_nil, lt3_val] <;> grind, rfl⟩
  | _ :: _ :: _ :: _ :: _, h => simp only [List.length_cons] at h; omega
def alp (T : Nat) : Int := [1,1,0,-1,-1,-2,-1,-1,0,1,1,2].getD T 0
def bet (T : Nat) : Int := [0,1,1,2,1,1,0,-1,-1,-2,-1,-1].getD T 0
theorem le_col {M m p Y : Int} {a : Nat} (h : 2 * (M - p) = (a : Int) * Y) (hm : M - m = Y) (hY : 0 < Y) (ha : a < 3) : p ≤ M ∧ m ≤ p := by
  have : a = 0 ∨ a = 1 ∨ a = 2 := by omega
  rcases this with rfl | rfl | rfl <;> exact ⟨by omega, by omega⟩
theorem mx_col {M p q r : Int} (h : M = p ∨ M = q ∨ M = r) (h0 : p ≤ M) (h1 : q ≤ M) (h2 : r ≤ M) : mx p q r = M := by
  show max p (max q r) = M
  refine Int.le_antisymm (Int.max_le.mpr ⟨h0, Int.max_le.mpr ⟨h1, h2⟩⟩) ?_
  rcases h with rfl | rfl | rfl
  · exact Int.le_max_left _ _
  · exact Int.le_trans (Int.le_max_left _ _) (Int.le_max_right _ _)
  · exact Int.le_trans (Int.le_max_right _ _) (Int.le_max_right _ _)
theorem mn_col {M p q r : Int} (h : M = p ∨ M = q ∨ M = r) (h0 : M ≤ p) (h1 : M ≤ q) (h2 : M ≤ r) : mn p q r = M := by
  show min p (min q r) = M
  refine Int.le_antisymm ?_ (Int.le_min.mpr ⟨h0, Int.le_min.mpr ⟨h1, h2⟩⟩)
  rcases h with rfl | rfl | rfl
  · exact Int.min_le_left _ _
  · exact Int.le_trans (Int.min_le_right _ _) (Int.min_le_left _ _)
  · exact Int.le_trans (Int.min_le_right _ _) (Int.min_le_right _ _)
theorem col {p q r X : Int} (hX : 0 < X) : ∀ T, T < 12 → p - q = alp T * X → q - r = bet T * X →
    mx p q r - mn p q r = (if T % 2 = 1 then 2 else 1) * X ∧ ∃ a b c : Nat, a < 3 ∧ b < 3 ∧ c < 3 ∧ 2 * (mx p q r - p) = a * (mx p q r - mn p q r) ∧ 2 * (mx p q r - q) = b * (mx p q r - mn p q r) ∧ 2 * (mx p q r - r) = c * (mx p q r - mn p q r) ∧ hueM a b c = T := by
  intro T hT h1 h2
  have key : ∀ M m : Int, (M = p ∨ M = q ∨ M = r) → (m = p ∨ m = q ∨ m = r) → ∀ a b c d : Nat, M - m = d * X → 2 * (M - p) = a * (d * X) → 2 * (M - q) = b * (d * X) → 2 * (M - r) = c * (d * X) → a < 3 → b < 3 → c < 3 → d = (if T % 2 = 1 then 2 else 1) → hueM a b c = T →
      (mx p q r - mn p q r = (if T % 2 = 1 then 2 else 1) * X ∧ ∃ a b c : Nat, a < 3 ∧ b < 3 ∧ c < 3 ∧ 2 * (mx p q r - p) = a * (mx p q r - mn p q r) ∧ 2 * (mx p q r - q) = b * (mx p q r - mn p q r) ∧ 2 * (mx p q r - r) = c * (mx p q r - mn p q r) ∧ hueM a b c = T) := by
    intro M m o1 o2 a b c d h h3 h4 h5 ha hb hc hd hh
    have hd0 : 0 < d := by rw [hd]; split <;> decide
    obtain ⟨Y, hY⟩ : ∃ Y, Y = (d : Int) * X := ⟨_, rfl⟩
    have hY0 : 0 < Y := by rw [hY]; exact Int.mul_pos (Int.ofNat_lt.mpr hd0) hX
    rw [← hY] at h h3 h4 h5
    obtain ⟨a0, a1⟩ := le_col h3 h hY0 ha
    obtain ⟨b0, b1⟩ := le_col h4 h hY0 hb
    obtain ⟨c0, c1⟩ := le_col h5 h hY0 hc
    rw [mx_col o1 a0 b0 c0, mn_col o2 a1 b1 c1, h]
    rw [hY] at h3 h4 h5 ⊢
    refine ⟨by rw [hd]; split <;> rfl, a, b, c, ha, hb, hc, h3, h4, h5, hh⟩
  have : T = 0 ∨ T = 1 ∨ T = 2 ∨ T = 3 ∨ T = 4 ∨ T = 5 ∨ T = 6 ∨ T = 7 ∨ T = 8 ∨ T = 9 ∨ T = 10 ∨ T = 11 := by omega
  rcases this with rfl | rfl | rfl | rfl | rfl | rfl | rfl | rfl | rfl | rfl | rfl | rfl
  · rw [show alp 0 = 1 from rfl] at h1; rw [show bet 0 = 0 from rfl] at h2; exact key p q (.inl rfl) (.inr (.inl rfl)) 0 2 2 1 (by omega) (by omega) (by omega) (by omega) (by decide) (by decide) (by decide) rfl rfl
  · rw [show alp 1 = 1 from rfl] at h1; rw [show bet 1 = 1 from rfl] at h2; exact key p r (.inl rfl) (.inr (.inr rfl)) 0 1 2 2 (by omega) (by omega) (by omega) (by omega) (by decide) (by decide) (by decide) rfl rfl
  · rw [show alp 2 = 0 from rfl] at h1; rw [show bet 2 = 1 from rfl] at h2; exact key p r (.inl rfl) (.inr (.inr rfl)) 0 0 2 1 (by omega) (by omega) (by omega) (by omega) (by decide) (by decide) (by decide) rfl rfl
  · rw [show alp 3 = -1 from rfl] at h1; rw [show bet 3 = 2 from rfl] at h2; exact key q r (.inr (.inl rfl)) (.inr (.inr rfl)) 1 0 2 2 (by omega) (by omega) (by omega) (by omega) (by decide) (by decide) (by decide) rfl rfl
  · rw [show alp 4 = -1 from rfl] at h1; rw [show bet 4 = 1 from rfl] at h2; exact key q p (.inr (.inl rfl)) (.inl rfl) 2 0 2 1 (by omega) (by omega) (by omega) (by omega) (by decide) (by decide) (by decide) rfl rfl
  · rw [show alp 5 = -2 from rfl] at h1; rw [show bet 5 = 1 from rfl] at h2; exact key q p (.inr (.inl rfl)) (.inl rfl) 2 0 1 2 (by omega) (by omega) (by omega) (by omega) (by decide) (by decide) (by decide) rfl rfl
  · rw [show alp 6 = -1 from rfl] at h1; rw [show bet 6 = 0 from rfl] at h2; exact key q p (.inr (.inl rfl)) (.inl rfl) 2 0 0 1 (by omega) (by omega) (by omega) (by omega) (by decide) (by decide) (by decide) rfl rfl
  · rw [show alp 7 = -1 from rfl] at h1; rw [show bet 7 = -1 from rfl] at h2; exact key r p (.inr (.inr rfl)) (.inl rfl) 2 1 0 2 (by omega) (by omega) (by omega) (by omega) (by decide) (by decide) (by decide) rfl rfl
  · rw [show alp 8 = 0 from rfl] at h1; rw [show bet 8 = -1 from rfl] at h2; exact key r p (.inr (.inr rfl)) (.inl rfl) 2 2 0 1 (by omega) (by omega) (by omega) (by omega) (by decide) (by decide) (by decide) rfl rfl
  · rw [show alp 9 = 1 from rfl] at h1; rw [show bet 9 = -2 from rfl] at h2; exact key r q (.inr (.inr rfl)) (.inr (.inl rfl)) 1 2 0 2 (by omega) (by omega) (by omega) (by omega) (by decide) (by decide) (by decide) rfl rfl
  · rw [show alp 10 = 1 from rfl] at h1; rw [show bet 10 = -1 from rfl] at h2; exact key p q (.inl rfl) (.inr (.inl rfl)) 0 2 0 1 (by omega) (by omega) (by omega) (by omega) (by decide) (by decide) (by decide) rfl rfl
  · rw [show alp 11 = 2 from rfl] at h1; rw [show bet 11 = -1 from rfl] at h2; exact key p q (.inl rfl) (.inr (.inl rfl)) 0 2 1 2 (by omega) (by omega) (by omega) (by omega) (by decide) (by decide) (by decide) rfl rfl
theorem alp6 : ∀ T, T < 12 → alp ((T + 6) % 12) = - alp T ∧ bet ((T + 6) % 12) = - bet T ∧ ((T + 6) % 12) % 2 = T % 2 := by decide
/-- the shown parts: their colour told -/
theorem fin_all {p q r sg sp gr tv : Int} {T : Nat} (hT : T < 12) (h1 : p - q = alp T * sg) (h2 : q - r = bet T * sg) (hg : 1 ≤ gr)
    (htv : tv.fmod 12 = if sg = 0 then 0 else if sg < 0 then (((T + 6) % 12 : Nat) : Int) else (T : Int)) (hsp : sp = (if sg < 0 then -sg else sg) * (if T % 2 = 1 then 2 else 1)) :
    mx (p - min p (min q r) + gr) (q - min p (min q r) + gr) (r - min p (min q r) + gr) = gr + sp ∧ 0 ≤ sp ∧
    ∀ hv sv, Frac hv (tv.fmod 12) 12 → Frac sv sp (gr + sp) → ∀ h' s', Hsv (p - min p (min q r) + gr) (q - min p (min q r) + gr) (r - min p (min q r) + gr) h' s' →
      (Float64.cmp h' hv == some Ordering.eq) = true ∧ (Float64.cmp s' sv == some Ordering.eq) = true := by
  generalize hm : min p (min q r) = m
  have hmn : mn (p - m + gr) (q - m + gr) (r - m + gr) = gr := by show min _ (min _ _) = _; omega
  rcases Int.lt_trichotomy sg 0 with hs | hs | hs
  · rw [if_neg (by omega), if_pos hs] at htv
    rw [if_pos hs] at hsp
    obtain ⟨a1, a2, a3⟩ := alp6 T hT
    have c := col (p := p - m + gr) (q := q - m + gr) (r := r - m + gr) (X := -sg) (by omega) ((T + 6) % 12) (Nat.mod_lt _ (by decide)) (by rw [a1, Int.neg_mul_neg]; omega) (by rw [a2, Int.neg_mul_neg]; omega)
    obtain ⟨cR, a, b, c, ha, hb, hc, e1, e2, e3, hh⟩ := c
    rw [a3, Int.mul_comm, ← hsp, hmn] at cR
    have hV : mx (p - m + gr) (q - m + gr) (r - m + gr) = gr + sp := by omega
    have hpos : 0 < sp := by rw [hsp]; split <;> omega
    refine ⟨hV, by omega, fun hv sv dh ds => fin_color (a := a) (b := b) (c := c) ha hb hc (by rw [hmn, cR]; exact hpos) e1 e2 e3 (by rw [hh, ← htv]; exact dh) (by rw [hmn, cR, hV]; exact ds)⟩
  · subst hs
    rw [if_pos rfl] at htv
    rw [if_neg (by decide), Int.zero_mul] at hsp
    rw [Int.mul_zero] at h1 h2
    have hV : mx (p - m + gr) (q - m + gr) (r - m + gr) = gr := by show max _ (max _ _) = _; omega
    subst hsp
    rw [Int.add_zero]
    refine ⟨hV, by omega, fun hv sv dh ds => fin_grey (by rw [hmn, hV]) (by rw [← htv]; exact dh) (by rw [hV]; exact ds)⟩
  · rw [if_neg (by omega), if_neg (by omega)] at htv
    rw [if_neg (by omega)] at hsp
    have c := col (p := p - m + gr) (q := q - m + gr) (r := r - m + gr) hs T hT (by omega) (by omega)
    obtain ⟨cR, a, b, c, ha, hb, hc, e1, e2, e3, hh⟩ := c
    rw [Int.mul_comm, ← hsp, hmn] at cR
    have hV : mx (p - m + gr) (q - m + gr) (r - m + gr) = gr + sp := by omega
    have hpos : 0 < sp := by rw [hsp]; split <;> omega
    refine ⟨hV, by omega, fun hv sv dh ds => fin_color (a := a) (b := b) (c := c) ha hb hc (by rw [hmn, cR]; exact hpos) e1 e2 e3 (by rw [hh, ← htv]; exact dh) (by rw [hmn, cR, hV]; exact ds)⟩
theorem tw_all {sg : Int} {x y z : Int} {T : Nat} (hx : 0 ≤ x + y + z) (hT : T = (x + y + z).toNat % 12) : ((((if sg < 0 then 6 else 0) + (if sg = 0 then 0 else x)) + (if sg = 0 then 0 else y)) + (if sg = 0 then 0 else z) : Int).fmod 12 = if sg = 0 then 0 else if sg < 0 then (((T + 6) % 12 : Nat) : Int) else (T : Int) := by
  rw [Int.fmod_eq_emod_of_nonneg _ (by decide)]
  subst hT
  by_cases h0 : sg = 0
  · subst h0; rfl
  · rw [if_neg h0, if_neg h0, if_neg h0, if_neg h0]
    split <;> omega
def BT (b0 b1 b2 : Int) : Prop := (b0 = 3 ∧ b1 = 2 ∧ b2 = 2) ∨ (b0 = 2 ∧ b1 = 3 ∧ b2 = 2) ∨ (b0 = 2 ∧ b1 = 2 ∧ b2 = 3)
def PlainC (b0 b1 b2 fr w0 w1 w2 : Int) (fs : List Form) : Prop :=
    ∃ T : Nat, T < 12 ∧
      prt (inZ b0.toNat b1.toNat fr w0 w1 w2) (lt3 b0.toNat b1.toNat fs) (sxt b0.toNat b1.toNat b2.toNat) 0 12 0 0 - prt (inZ b0.toNat b1.toNat fr w0 w1 w2) (lt3 b0.toNat b1.toNat fs) (sxt b0.toNat b1.toNat b2.toNat) 1 12 0 0 = alp T * sgF fr fs ∧
      prt (inZ b0.toNat b1.toNat fr w0 w1 w2) (lt3 b0.toNat b1.toNat fs) (sxt b0.toNat b1.toNat b2.toNat) 1 12 0 0 - prt (inZ b0.toNat b1.toNat fr w0 w1 w2) (lt3 b0.toNat b1.toNat fs) (sxt b0.toNat b1.toNat b2.toNat) 2 12 0 0 = bet T * sgF fr fs ∧
      (∀ sg : Int, (twN sg fr b0 b1 b2 w0 w1 w2 3 0 (if sg < 0 then 6 else 0)).fmod 12 = if sg = 0 then 0 else if sg < 0 then (((T + 6) % 12 : Nat) : Int) else (T : Int)) ∧
      ((if (List.take fr.toNat [b0, b1, b2]).any (fun x => x == 3) then 2 else 1 : Int) = (if T % 2 = 1 then 2 else 1))
theorem plainC_of {b0 b1 b2 fr w0 w1 w2 A B X : Int} {fs : List Form} (T : Nat) (x y z : Int)
    (k : prt (inZ b0.toNat b1.toNat fr w0 w1 w2) (lt3 b0.toNat b1.toNat fs) (sxt b0.toNat b1.toNat b2.toNat) 0 12 0 0 - prt (inZ b0.toNat b1.toNat fr w0 w1 w2) (lt3 b0.toNat b1.toNat fs) (sxt b0.toNat b1.toNat b2.toNat) 1 12 0 0 = A * X ∧ prt (inZ b0.toNat b1.toNat fr w0 w1 w2) (lt3 b0.toNat b1.toNat fs) (sxt b0.toNat b1.toNat b2.toNat) 1 12 0 0 - prt (inZ b0.toNat b1.toNat fr w0 w1 w2) (lt3 b0.toNat b1.toNat fs) (sxt b0.toNat b1.toNat b2.toNat) 2 12 0 0 = B * X)
    (hp : X = sgF fr fs) (ht : T < 12 ∧ alp T = A ∧ bet T = B ∧ 0 ≤ x + y + z ∧ T = (x + y + z).toNat % 12)
    (he : (if (List.take fr.toNat [b0, b1, b2]).any (fun x => x == 3) then 2 else 1 : Int) = (if T % 2 = 1 then 2 else 1))
    (tw : ∀ sg : Int, twN sg fr b0 b1 b2 w0 w1 w2 3 0 (if sg < 0 then 6 else 0) = ((((if sg < 0 then 6 else 0) + (if sg = 0 then 0 else x)) + (if sg = 0 then 0 else y)) + (if sg = 0 then 0 else z) : Int)) : PlainC b0 b1 b2 fr w0 w1 w2 fs := by
  subst hp
  obtain ⟨h1, h2, h3, h4, h5⟩ := ht
  exact ⟨T, h1, h2 ▸ k.1, h3 ▸ k.2, fun sg => (congrArg (fun z : Int => z.fmod 12) (tw sg)).trans (tw_all h4 h5), he⟩
theorem sub2 {a b c d e : Int} (h1 : a = c) (h2 : b = d) (h : c - d = e) : a - b = e := by rw [h1, h2]; exact h
theorem prt_congr {H : Nat → Bool} {V W S : Nat → Int} {j : Nat} : ∀ (k i : Nat) (p : Int), (∀ n, V n = W n) → prt H V S j k i p = prt H W S j k i p
  | 0, _, _, _ => rfl
  | k + 1, i, p, h => by rw [prt, prt, h i]; exact prt_congr k (i + 1) _ h
theorem z_322 : ∀ n0 : Nat, n0 < 3 → ∀ n1 : Nat, n1 < 2 → ∀ n2 : Nat, n2 < 2 → (prt (inZ 3 2 0 (n0 : Int) (n1 : Int) (n2 : Int)) (fun _ => 1) (sxt 3 2 2) 0 12 0 0 - prt (inZ 3 2 0 (n0 : Int) (n1 : Int) (n2 : Int)) (fun _ => 1) (sxt 3 2 2) 1 12 0 0 = alp ((Int.fdiv 12 3 * (n0 : Int) + Int.fdiv 12 2 * (n1 : Int) + Int.fdiv 12 2 * (n2 : Int) : Int).toNat % 12) * 1 ∧ prt (inZ 3 2 0 (n0 : Int) (n1 : Int) (n2 : Int)) (fun _ => 1) (sxt 3 2 2) 1 12 0 0 - prt (inZ 3 2 0 (n0 : Int) (n1 : Int) (n2 : Int)) (fun _ => 1) (sxt 3 2 2) 2 12 0 0 = bet ((Int.fdiv 12 3 * (n0 : Int) + Int.fdiv 12 2 * (n1 : Int) + Int.fdiv 12 2 * (n2 : Int) : Int).toNat % 12) * 1) ∧ ¬ ((Int.fdiv 12 3 * (n0 : Int) + Int.fdiv 12 2 * (n1 : Int) + Int.fdiv 12 2 * (n2 : Int) : Int).toNat % 12) % 2 = 1 := by decide +kernel
theorem plain0_322 {w0 w1 w2 : Int} {fs : List Form} (hl : ∀ d0 d1 i : Nat, lt3 d0 d1 fs i = 1) (hp : 1 = sgF 0 fs) (a0 : 0 ≤ w0) (a1 : w0 < 3) (c0 : 0 ≤ w1) (c1 : w1 < 2) (d0 : 0 ≤ w2) (d1 : w2 < 2) : PlainC 3 2 2 0 w0 w1 w2 fs := by
  obtain ⟨n0, rfl⟩ := Int.eq_ofNat_of_zero_le a0
  obtain ⟨n1, rfl⟩ := Int.eq_ofNat_of_zero_le c0
  obtain ⟨n2, rfl⟩ := Int.eq_ofNat_of_zero_le d0
  obtain ⟨k, e⟩ := z_322 n0 (Int.ofNat_lt.mp a1) n1 (Int.ofNat_lt.mp c1) n2 (Int.ofNat_lt.mp d1)
  have c := fun j => prt_congr (H := inZ 3 2 0 n0 n1 n2) (S := sxt 3 2 2) (j := j) 12 0 0 (hl 3 2)
  refine plainC_of ((Int.fdiv 12 3 * (n0 : Int) + Int.fdiv 12 2 * (n1 : Int) + Int.fdiv 12 2 * (n2 : Int) : Int).toNat % 12) (Int.fdiv 12 3 * (n0 : Int)) (Int.fdiv 12 2 * (n1 : Int)) (Int.fdiv 12 2 * (n2 : Int)) (A := alp ((Int.fdiv 12 3 * (n0 : Int) + Int.fdiv 12 2 * (n1 : Int) + Int.fdiv 12 2 * (n2 : Int) : Int).toNat % 12)) (B := bet ((Int.fdiv 12 3 * (n0 : Int) + Int.fdiv 12 2 * (n1 : Int) + Int.fdiv 12 2 * (n2 : Int) : Int).toNat % 12)) (X := 1) ⟨?_, ?_⟩ hp ⟨Nat.mod_lt _ (by decide), rfl, rfl, ?_, rfl⟩ ?_ (fun _ => rfl)
  · exact sub2 (c 0) (c 1) k.1
  · exact sub2 (c 1) (c 2) k.2
  · exact Int.add_nonneg (Int.add_nonneg (Int.mul_nonneg (by decide) a0) (Int.mul_nonneg (by decide) c0)) (Int.mul_nonneg (by decide) d0)
  · rw [if_neg e]; rfl
theorem z_232 : ∀ n0 : Nat, n0 < 2 → ∀ n1 : Nat, n1 < 3 → ∀ n2 : Nat, n2 < 2 → (prt (inZ 2 3 0 (n0 : Int) (n1 : Int) (n2 : Int)) (fun _ => 1) (sxt 2 3 2) 0 12 0 0 - prt (inZ 2 3 0 (n0 : Int) (n1 : Int) (n2 : Int)) (fun _ => 1) (sxt 2 3 2) 1 12 0 0 = alp ((Int.fdiv 12 2 * (n0 : Int) + Int.fdiv 12 3 * (n1 : Int) + Int.fdiv 12 2 * (n2 : Int) : Int).toNat % 12) * 1 ∧ prt (inZ 2 3 0 (n0 : Int) (n1 : Int) (n2 : Int)) (fun _ => 1) (sxt 2 3 2) 1 12 0 0 - prt (inZ 2 3 0 (n0 : Int) (n1 : Int) (n2 : Int)) (fun _ => 1) (sxt 2 3 2) 2 12 0 0 = bet ((Int.fdiv 12 2 * (n0 : Int) + Int.fdiv 12 3 * (n1 : Int) + Int.fdiv 12 2 * (n2 : Int) : Int).toNat % 12) * 1) ∧ ¬ ((Int.fdiv 12 2 * (n0 : Int) + Int.fdiv 12 3 * (n1 : Int) + Int.fdiv 12 2 * (n2 : Int) : Int).toNat % 12) % 2 = 1 := by decide +kernel
theorem plain0_232 {w0 w1 w2 : Int} {fs : List Form} (hl : ∀ d0 d1 i : Nat, lt3 d0 d1 fs i = 1) (hp : 1 = sgF 0 fs) (a0 : 0 ≤ w0) (a1 : w0 < 2) (c0 : 0 ≤ w1) (c1 : w1 < 3) (d0 : 0 ≤ w2) (d1 : w2 < 2) : PlainC 2 3 2 0 w0 w1 w2 fs := by
  obtain ⟨n0, rfl⟩ := Int.eq_ofNat_of_zero_le a0
  obtain ⟨n1, rfl⟩ := Int.eq_ofNat_of_zero_le c0
  obtain ⟨n2, rfl⟩ := Int.eq_ofNat_of_zero_le d0
  obtain ⟨k, e⟩ := z_232 n0 (Int.ofNat_lt.mp a1) n1 (Int.ofNat_lt.mp c1) n2 (Int.ofNat_lt.mp d1)
  have c := fun j => prt_congr (H := inZ 2 3 0 n0 n1 n2) (S := sxt 2 3 2) (j := j) 12 0 0 (hl 2 3)
  refine plainC_of ((Int.fdiv 12 2 * (n0 : Int) + Int.fdiv 12 3 * (n1 : Int) + Int.fdiv 12 2 * (n2 : Int) : Int).toNat % 12) (Int.fdiv 12 2 * (n0 : Int)) (Int.fdiv 12 3 * (n1 : Int)) (Int.fdiv 12 2 * (n2 : Int)) (A := alp ((Int.fdiv 12 2 * (n0 : Int) + Int.fdiv 12 3 * (n1 : Int) + Int.fdiv 12 2 * (n2 : Int) : Int).toNat % 12)) (B := bet ((Int.fdiv 12 2 * (n0 : Int) + Int.fdiv 12 3 * (n1 : Int) + Int.fdiv 12 2 * (n2 : Int) : Int).toNat % 12)) (X := 1) ⟨?_, ?_⟩ hp ⟨Nat.mod_lt _ (by decide), rfl, rfl, ?_, rfl⟩ ?_ (fun _ => rfl)
  · exact sub2 (c 0) (c 1) k.1
  · exact sub2 (c 1) (c 2) k.2
  · exact Int.add_nonneg (Int.add_nonneg (Int.mul_nonneg (by decide) a0) (Int.mul_nonneg (by decide) c0)) (Int.mul_nonneg (by decide) d0)
  · rw [if_neg e]; rfl
theorem z_223 : ∀ n0 : Nat, n0 < 2 → ∀ n1 : Nat, n1 < 2 → ∀ n2 : Nat, n2 < 3 → (prt (inZ 2 2 0 (n0 : Int) (n1 : Int) (n2 : Int)) (fun _ => 1) (sxt 2 2 3) 0 12 0 0 - prt (inZ 2 2 0 (n0 : Int) (n1 : Int) (n2 : Int)) (fun _ => 1) (sxt 2 2 3) 1 12 0 0 = alp ((Int.fdiv 12 2 * (n0 : Int) + Int.fdiv 12 2 * (n1 : Int) + Int.fdiv 12 3 * (n2 : Int) : Int).toNat % 12) * 1 ∧ prt (inZ 2 2 0 (n0 : Int) (n1 : Int) (n2 : Int)) (fun _ => 1) (sxt 2 2 3) 1 12 0 0 - prt (inZ 2 2 0 (n0 : Int) (n1 : Int) (n2 : Int)) (fun _ => 1) (sxt 2 2 3) 2 12 0 0 = bet ((Int.fdiv 12 2 * (n0 : Int) + Int.fdiv 12 2 * (n1 : Int) + Int.fdiv 12 3 * (n2 : Int) : Int).toNat % 12) * 1) ∧ ¬ ((Int.fdiv 12 2 * (n0 : Int) + Int.fdiv 12 2 * (n1 : Int) + Int.fdiv 12 3 * (n2 : Int) : Int).toNat % 12) % 2 = 1 := by decide +kernel
theorem plain0_223 {w0 w1 w2 : Int} {fs : List Form} (hl : ∀ d0 d1 i : Nat, lt3 d0 d1 fs i = 1) (hp : 1 = sgF 0 fs) (a0 : 0 ≤ w0) (a1 : w0 < 2) (c0 : 0 ≤ w1) (c1 : w1 < 2) (d0 : 0 ≤ w2) (d1 : w2 < 3) : PlainC 2 2 3 0 w0 w1 w2 fs := by
  obtain ⟨n0, rfl⟩ := Int.eq_ofNat_of_zero_le a0
  obtain ⟨n1, rfl⟩ := Int.eq_ofNat_of_zero_le c0
  obtain ⟨n2, rfl⟩ := Int.eq_ofNat_of_zero_le d0
  obtain ⟨k, e⟩ := z_223 n0 (Int.ofNat_lt.mp a1) n1 (Int.ofNat_lt.mp c1) n2 (Int.ofNat_lt.mp d1)
  have c := fun j => prt_congr (H := inZ 2 2 0 n0 n1 n2) (S := sxt 2 2 3) (j := j) 12 0 0 (hl 2 2)
  refine plainC_of ((Int.fdiv 12 2 * (n0 : Int) + Int.fdiv 12 2 * (n1 : Int) + Int.fdiv 12 3 * (n2 : Int) : Int).toNat % 12) (Int.fdiv 12 2 * (n0 : Int)) (Int.fdiv 12 2 * (n1 : Int)) (Int.fdiv 12 3 * (n2 : Int)) (A := alp ((Int.fdiv 12 2 * (n0 : Int) + Int.fdiv 12 2 * (n1 : Int) + Int.fdiv 12 3 * (n2 : Int) : Int).toNat % 12)) (B := bet ((Int.fdiv 12 2 * (n0 : Int) + Int.fdiv 12 2 * (n1 : Int) + Int.fdiv 12 3 * (n2 : Int) : Int).toNat % 12)) (X := 1) ⟨?_, ?_⟩ hp ⟨Nat.mod_lt _ (by decide), rfl, rfl, ?_, rfl⟩ ?_ (fun _ => rfl)
  · exact sub2 (c 0) (c 1) k.1
  · exact sub2 (c 1) (c 2) k.2
  · exact Int.add_nonneg (Int.add_nonneg (Int.mul_nonneg (by decide) a0) (Int.mul_nonneg (by decide) c0)) (Int.mul_nonneg (by decide) d0)
  · rw [if_neg e]; rfl
theorem plain {b0 b1 b2 fr w0 w1 w2 : Int} {fs : List Form} (hB : BT b0 b1 b2) (f0 : 0 ≤ fr) (f1 : fr ≤ 3) (a0 : 0 ≤ w0) (a1 : w0 < b0) (c0 : 0 ≤ w1) (c1 : w1 < b1) (d0 : 0 ≤ w2) (d1 : w2 < b2) (hn : (fs.length : Int) ≤ fr) :
    PlainC b0 b1 b2 fr w0 w1 w2 fs := by
  have hfr : fr = 0 ∨ fr = 1 ∨ fr = 2 ∨ fr = 3 := by omega
  rcases hB with ⟨rfl, rfl, rfl⟩ | ⟨rfl, rfl, rfl⟩ | ⟨rfl, rfl, rfl⟩
  · rcases hfr with rfl | rfl | rfl | rfl
    · obtain ⟨hl, hp⟩ := lin0 fs (by omega)
      exact plain0_322 hl hp a0 a1 c0 c1 d0 d1
    · obtain ⟨x0, x1, x2, xm, hl, hp⟩ := lin1 fs (by omega)
      have q1 : w1 = 0 ∨ w1 = 1 := by omega
      have q2 : w2 = 0 ∨ w2 = 1 := by omega
      clear a0 a1 c0 c1 d0 d1 f0 f1 hn
      rcases q1 with rfl | rfl
      · rcases q2 with rfl | rfl
        · have k := pl_322_1_0_0 (V := lt3 3 2 fs) w0 x0 x1 x2 xm (fun i _ => hl 3 2 i)
          exact plainC_of 7 7 0 0 k hp (by decide) (by decide) (fun _ => rfl)
        · have k := pl_322_1_0_1 (V := lt3 3 2 fs) w0 x0 x1 x2 xm (fun i _ => hl 3 2 i)
          exact plainC_of 1 7 0 6 k hp (by decide) (by decide) (fun _ => rfl)
      · rcases q2 with rfl | rfl
        · have k := pl_322_1_1_0 (V := lt3 3 2 fs) w0 x0 x1 x2 xm (fun i _ => hl 3 2 i)
          exact plainC_of 1 7 6 0 k hp (by decide) (by decide) (fun _ => rfl)
        · have k := pl_322_1_1_1 (V := lt3 3 2 fs) w0 x0 x1 x2 xm (fun i _ => hl 3 2 i)
          exact plainC_of 7 7 6 6 k hp (by decide) (by decide) (fun _ => rfl)
    · obtain ⟨x0, x1, x2, xm, y0, y1, y2, ym, hl, hp⟩ := lin2 fs (by omega)
      have q2 : w2 = 0 ∨ w2 = 1 := by omega
      clear a0 a1 c0 c1 d0 d1 f0 f1 hn
      rcases q2 with rfl | rfl
      · have k := pl_322_2_0 (V := lt3 3 2 fs) w0 w1 x0 x1 x2 xm y0 y1 y2 ym (fun i _ => hl 3 2 i)
        exact plainC_of 1 7 6 0 k hp (by decide) (by decide) (fun _ => rfl)
      · have k := pl_322_2_1 (V := lt3 3 2 fs) w0 w1 x0 x1 x2 xm y0 y1 y2 ym (fun i _ => hl 3 2 i)
        exact plainC_of 7 7 6 6 k hp (by decide) (by decide) (fun _ => rfl)
    · obtain ⟨x0, x1, x2, xm, y0, y1, y2, ym, z0, z1, z2, zm, hl, hp⟩ := lin3 fs (by omega)
      have k := pl_322_3 (V := lt3 3 2 fs) w0 w1 w2 x0 x1 x2 xm y0 y1 y2 ym z0 z1 z2 zm (fun i _ => hl 3 2 i)
      exact plainC_of 7 7 6 6 k hp (by decide) (by decide) (fun _ => rfl)
  · rcases hfr with rfl | rfl | rfl | rfl
    · obtain ⟨hl, hp⟩ := lin0 fs (by omega)
      exact plain0_232 hl hp a0 a1 c0 c1 d0 d1
    · obtain ⟨x0, x1, x2, xm, hl, hp⟩ := lin1 fs (by omega)
      have q1 : w1 = 0 ∨ w1 = 1 ∨ w1 = 2 := by omega
      have q2 : w2 = 0 ∨ w2 = 1 := by omega
      clear a0 a1 c0 c1 d0 d1 f0 f1 hn
      rcases q1 with rfl | rfl | rfl
      · rcases q2 with rfl | rfl
        · have k := pl_232_1_0_0 (V := lt3 2 3 fs) w0 x0 x1 x2 xm (fun i _ => hl 2 3 i)
          exact plainC_of 6 6 0 0 k hp (by decide) (by decide) (fun _ => rfl)
        · have k := pl_232_1_0_1 (V := lt3 2 3 fs) w0 x0 x1 x2 xm (fun i _ => hl 2 3 i)
          exact plainC_of 0 6 0 6 k hp (by decide) (by decide) (fun _ => rfl)
      · rcases q2 with rfl | rfl
        · have k := pl_232_1_1_0 (V := lt3 2 3 fs) w0 x0 x1 x2 xm (fun i _ => hl 2 3 i)
          exact plainC_of 10 6 4 0 k hp (by decide) (by decide) (fun _ => rfl)
        · have k := pl_232_1_1_1 (V := lt3 2 3 fs) w0 x0 x1 x2 xm (fun i _ => hl 2 3 i)
          exact plainC_of 4 6 4 6 k hp (by decide) (by decide) (fun _ => rfl)
      · rcases q2 with rfl | rfl
        · have k := pl_232_1_2_0 (V := lt3 2 3 fs) w0 x0 x1 x2 xm (fun i _ => hl 2 3 i)
          exact plainC_of 2 6 8 0 k hp (by decide) (by decide) (fun _ => rfl)
        · have k := pl_232_1_2_1 (V := lt3 2 3 fs) w0 x0 x1 x2 xm (fun i _ => hl 2 3 i)
          exact plainC_of 8 6 8 6 k hp (by decide) (by decide) (fun _ => rfl)
    · obtain ⟨x0, x1, x2, xm, y0, y1, y2, ym, hl, hp⟩ := lin2 fs (by omega)
      have q2 : w2 = 0 ∨ w2 = 1 := by omega
      clear a0 a1 c0 c1 d0 d1 f0 f1 hn
      rcases q2 with rfl | rfl
      · have k := pl_232_2_0 (V := lt3 2 3 fs) w0 w1 x0 x1 x2 xm y0 y1 y2 ym (fun i _ => hl 2 3 i)
        exact plainC_of 1 6 7 0 k hp (by decide) (by decide) (fun _ => rfl)
      · have k := pl_232_2_1 (V := lt3 2 3 fs) w0 w1 x0 x1 x2 xm y0 y1 y2 ym (fun i _ => hl 2 3 i)
        exact plainC_of 7 6 7 6 k hp (by decide) (by decide) (fun _ => rfl)
    · obtain ⟨x0, x1, x2, xm, y0, y1, y2, ym, z0, z1, z2, zm, hl, hp⟩ := lin3 fs (by omega)
      have k := pl_232_3 (V := lt3 2 3 fs) w0 w1 w2 x0 x1 x2 xm y0 y1 y2 ym z0 z1 z2 zm (fun i _ => hl 2 3 i)
      exact plainC_of 7 6 7 6 k hp (by decide) (by decide) (fun _ => rfl)
  · rcases hfr with rfl | rfl | rfl | rfl
    · obtain ⟨hl, hp⟩ := lin0 fs (by omega)
      exact plain0_223 hl hp a0 a1 c0 c1 d0 d1
    · obtain ⟨x0, x1, x2, xm, hl, hp⟩ := lin1 fs (by omega)
      have q1 : w1 = 0 ∨ w1 = 1 := by omega
      have q2 : w2 = 0 ∨ w2 = 1 ∨ w2 = 2 := by omega
      clear a0 a1 c0 c1 d0 d1 f0 f1 hn
      rcases q1 with rfl | rfl
      · rcases q2 with rfl | rfl | rfl
        · have k := pl_223_1_0_0 (V := lt3 2 2 fs) w0 x0 x1 x2 xm (fun i _ => hl 2 2 i)
          exact plainC_of 6 6 0 0 k hp (by decide) (by decide) (fun _ => rfl)
        · have k := pl_223_1_0_1 (V := lt3 2 2 fs) w0 x0 x1 x2 xm (fun i _ => hl 2 2 i)
          exact plainC_of 10 6 0 4 k hp (by decide) (by decide) (fun _ => rfl)
        · have k := pl_223_1_0_2 (V := lt3 2 2 fs) w0 x0 x1 x2 xm (fun i _ => hl 2 2 i)
          exact plainC_of 2 6 0 8 k hp (by decide) (by decide) (fun _ => rfl)
      · rcases q2 with rfl | rfl | rfl
        · have k := pl_223_1_1_0 (V := lt3 2 2 fs) w0 x0 x1 x2 xm (fun i _ => hl 2 2 i)
          exact plainC_of 0 6 6 0 k hp (by decide) (by decide) (fun _ => rfl)
        · have k := pl_223_1_1_1 (V := lt3 2 2 fs) w0 x0 x1 x2 xm (fun i _ => hl 2 2 i)
          exact plainC_of 4 6 6 4 k hp (by decide) (by decide) (fun _ => rfl)
        · have k := pl_223_1_1_2 (V := lt3 2 2 fs) w0 x0 x1 x2 xm (fun i _ => hl 2 2 i)
          exact plainC_of 8 6 6 8 k hp (by decide) (by decide) (fun _ => rfl)
    · obtain ⟨x0, x1, x2, xm, y0, y1, y2, ym, hl, hp⟩ := lin2 fs (by omega)
      have q2 : w2 = 0 ∨ w2 = 1 ∨ w2 = 2 := by omega
      clear a0 a1 c0 c1 d0 d1 f0 f1 hn
      rcases q2 with rfl | rfl | rfl
      · have k := pl_223_2_0 (V := lt3 2 2 fs) w0 w1 x0 x1 x2 xm y0 y1 y2 ym (fun i _ => hl 2 2 i)
        exact plainC_of 0 6 6 0 k hp (by decide) (by decide) (fun _ => rfl)
      · have k := pl_223_2_1 (V := lt3 2 2 fs) w0 w1 x0 x1 x2 xm y0 y1 y2 ym (fun i _ => hl 2 2 i)
        exact plainC_of 4 6 6 4 k hp (by decide) (by decide) (fun _ => rfl)
      · have k := pl_223_2_2 (V := lt3 2 2 fs) w0 w1 x0 x1 x2 xm y0 y1 y2 ym (fun i _ => hl 2 2 i)
        exact plainC_of 8 6 6 8 k hp (by decide) (by decide) (fun _ => rfl)
    · obtain ⟨x0, x1, x2, xm, y0, y1, y2, ym, z0, z1, z2, zm, hl, hp⟩ := lin3 fs (by omega)
      have k := pl_223_3 (V := lt3 2 2 fs) w0 w1 w2 x0 x1 x2 xm y0 y1 y2 ym z0 z1 z2 zm (fun i _ => hl 2 2 i)
      exact plainC_of 7 6 6 7 k hp (by decide) (by decide) (fun _ => rfl)
end Mine
end
section
open _root_.PySem _root_.PySem.W _root_.PySem.W.X _root_.PyProof.Rows
set_option Elab.async false
set_option maxRecDepth 100000
set_option maxHeartbeats 0
namespace Mine
local macro_rules | `(tactic| walk_at "none") => `(tactic| skip)
theorem rs51 : True := by w_top off; trivial
local macro_rules | `(tactic| walk_at "call builtin:re.Pattern.search") => `(tactic| (k_here; (refine call_search (by k_in) (by assumption) (by assumption) ?_)))
theorem c_is {w : World} {loose : List Str} {mean : ExcName → Option Value} {mg mb : Str → Option Value} {dp un : Nat} {gd : Option (List Code)} {cn : Str} {cs : Scope} {a : Addr} {ccd : Value} {cl : List (Str × Addr)} {outer : List Env} {A₀ : Around} {base h₀ : Heap} {L : Addr} {m : Str → Option Value} {news : List (Addr × Obj)} {s : Shared} {Q E : Value → Shared → Prop}
   (cx : Cx 1 w loose mean mg mb dp un cs outer A₀ base h₀ L m s.heap news) {x : Str} {t : Tok} (hx : noMatch x = true) (hz : x.length ≤ 1000) (hz0 : 1 ≤ x.length) (e1 : (x == Str.ofString "") = false) (e2 : (Txt.item x 0 == Str.ofString ".") = false) (e3 : (Txt.item x (-1) == Str.ofString ".") = false)
   (hret : ∀ (h' : Heap) (tk' : Nat), Fr h₀ L h' m → News h₀ L h' news → Q (.bool true) { s with heap := h', toks := tk' }) :
  wpAny (model PP w) (ktrTop dp un gd cn cs L a ccd cl outer) (call (.ref 43) [.str x t]) Q E s := by
  obtain ⟨cB, cF, cX, cN, cT, ck, cd, cu⟩ := cx
  refine wpAny_call ?_
  k_dflt cell_enter
  with_reducible refine wp_gen fun tk0 => ?_
  dsimp only
  with_reducible refine letA ?_
  intro A0
  (repeat' (first | (k_unfold; (try dsimp only)) | (k_end; wrow_close) | ((k_here; (with_reducible show wpAny _ _ (getMethod (Value.ref 36) _ _) _ _ _); (refine getMethod_search (by k_in) ?_))) | walk1 | (dsimp only; walk1) | (leave1; try dsimp only) | fail "no step"))
  all_goals (first | (exact hret _ _ (by assumption) (by assumption)) | (exfalso; simp_all; done))
end Mine
end
section
open _root_.PySem _root_.PySem.W _root_.PySem.W.X _root_.PyProof.Rows
set_option Elab.async false
set_option maxRecDepth 100000
set_option maxHeartbeats 0
namespace Mine
theorem rs52 : True := by w_top off; trivial
theorem re_abs1 {i j : Int} (h : ¬ 0 ≤ j) (e : j = i) (hi : 0 ≤ i) : False := h (e ▸ hi)
theorem re_ret {x b : Str} {i : Int} (hf : Txt.find x (Str.ofString ".") = i) (hs : Txt.slice x (some (i + 1)) none = b) : Str.ofString "." ++ Txt.slice x (some (Txt.find x (Str.ofString ".") + 1)) none = Str.ofString "." ++ b := by rw [hf, hs]
theorem re_abs2 {x b : Str} {i : Int} (hf : Txt.find x (Str.ofString ".") = i) (hs : Txt.slice x (some (i + 1)) none = b) (hb : 0 ≤ Txt.find b (Str.ofString ".") ∨ (b == Str.ofString "local") = true)
    (h1 : ¬ 0 ≤ Txt.find (Txt.slice x (some (Txt.find x (Str.ofString ".") + 1)) none) (Str.ofString ".")) (h2 : (Txt.slice x (some (Txt.find x (Str.ofString ".") + 1)) none == Str.ofString "local") = false) : False := by
  rw [hf, hs] at h1 h2
  rcases hb with h | h
  · exact h1 h
  · rw [h2] at h; cases h
theorem c_reach {w : World} {loose : List Str} {mean : ExcName → Option Value} {mg mb : Str → Option Value} {dp un : Nat} {gd : Option (List Code)} {cn : Str} {cs : Scope} {a : Addr} {ccd : Value} {cl : List (Str × Addr)} {outer : List Env} {A₀ : Around} {base h₀ : Heap} {L : Addr} {m : Str → Option Value} {news : List (Addr × Obj)} {s : Shared} {Q E : Value → Shared → Prop}
   (cx : Cx 2 w loose mean mg mb dp un cs outer A₀ base h₀ L m s.heap news) {x b : Str} {t : Tok} {i : Int} (lx : x.length ≤ 1000) (hx : noMatch x = true) (hz0 : 1 ≤ x.length) (e1 : (x == Str.ofString "") = false) (e2 : (Txt.item x 0 == Str.ofString ".") = false) (e3 : (Txt.item x (-1) == Str.ofString ".") = false) (hf : Txt.find x (Str.ofString ".") = i) (hi : 0 ≤ i) (hs : Txt.slice x (some (i + 1)) none = b) (hb : 0 ≤ Txt.find b (Str.ofString ".") ∨ (b == Str.ofString "local") = true)
   (hret : ∀ (r : Str) (t' : Tok) (h' : Heap) (tk' : Nat), r = Str.ofString "." ++ b → Fr h₀ L h' m → News h₀ L h' news → Q (.str r t') { s with heap := h', toks := tk' }) :
  wpAny (model PP w) (ktrTop dp un gd cn cs L a ccd cl outer) (call (.ref 64) [.str x t]) Q E s := by
  obtain ⟨cB, cF, cX, cN, cT, ck, cd, cu⟩ := cx
  refine wpAny_call ?_
  k_dflt cell_enter
  with_reducible refine wp_gen fun tk0 => ?_
  dsimp only
  with_reducible refine letA ?_
  intro A0
  (repeat' (first | (k_unfold; (try dsimp only)) | (k_end; wrow_close) | ((k_here; (with_reducible show wpAny _ _ (call (Value.ref 43) _) _ _ _); k_dflt (refine' c_is (by walk_at "cx") (by assumption) (by assumption) (by assumption) (by assumption) (by assumption) (by assumption) ?_); intro _ _ _ _; (try dsimp only); (try k_fold))) | walk1 | (dsimp only; walk1) | (leave1; try dsimp only) | fail "no step"))
  all_goals (first | exact hret _ _ _ _ (re_ret (by assumption) (by assumption)) (by assumption) (by assumption) | exact (re_abs1 (by assumption) (by assumption) (by assumption)).elim | exact (re_abs2 (by assumption) (by assumption) (by assumption) (by assumption) (by assumption)).elim | trace_state)
end Mine
end
section
open _root_.PySem _root_.PySem.W _root_.PySem.W.X _root_.PyProof.Rows
set_option Elab.async false
set_option maxRecDepth 100000
set_option maxHeartbeats 0
namespace Mine
local macro_rules | `(tactic| walk_at "none") => `(tactic| skip)
theorem rs53 : True := by w_top off; trivial
/-- the words of the twelve hosts, and the turned words -/
def ksT (b0 b1 b2 : Int) : List Int := (List.range 12).flatMap fun i => [gd b0.toNat b1.toNat i 0, gd b0.toNat b1.toNat i 1, gd b0.toNat b1.toNat i 2]
def tsT (b0 b1 b2 : Int) : List Int := swN (ksT b0 b1 b2) 12 0 (List.replicate 36 0)
theorem bt_facts {b0 b1 b2 : Int} (hB : BT b0 b1 b2) : (ksT b0 b1 b2).length = 36 ∧ (tsT b0 b1 b2).length = 36 ∧ (∀ i, i < 12 → cut (tsT b0 b1 b2) i = [fd b0.toNat b1.toNat i 0, fd b0.toNat b1.toNat i 1, fd b0.toNat b1.toNat i 2]) ∧
    (∀ i, i < 12 → cut (ksT b0 b1 b2) i = [gd b0.toNat b1.toNat i 0, gd b0.toNat b1.toNat i 1, gd b0.toNat b1.toNat i 2]) ∧
    (∀ i, i < 12 → (0 ≤ dg b0.toNat b1.toNat i 0 ∧ dg b0.toNat b1.toNat i 0 ≤ 2 ∧ 0 ≤ dg b0.toNat b1.toNat i 1 ∧ dg b0.toNat b1.toNat i 1 ≤ 2 ∧ 0 ≤ dg b0.toNat b1.toNat i 2 ∧ dg b0.toNat b1.toNat i 2 ≤ 2)) ∧
    (∀ i, i < 12 → 0 ≤ sxt b0.toNat b1.toNat b2.toNat i ∧ sxt b0.toNat b1.toNat b2.toNat i ≤ 10) ∧ (2 ≤ b0 ∧ b0 ≤ 3 ∧ 2 ≤ b1 ∧ b1 ≤ 3 ∧ 2 ≤ b2 ∧ b2 ≤ 3) := by
  rcases hB with ⟨rfl, rfl, rfl⟩ | ⟨rfl, rfl, rfl⟩ | ⟨rfl, rfl, rfl⟩
  all_goals refine ⟨by decide +kernel, by decide +kernel, by decide +kernel, by decide +kernel, by decide +kernel, by decide +kernel, by decide⟩
theorem three {P : Int → Int → Int → Prop} (h : ∀ a : Nat, a < 3 → ∀ b : Nat, b < 3 → ∀ c : Nat, c < 3 → P a b c) {x y z : Int} (x0 : 0 ≤ x) (x1 : x ≤ 2) (y0 : 0 ≤ y) (y1 : y ≤ 2) (z0 : 0 ≤ z) (z1 : z ≤ 2) : P x y z := by
  obtain ⟨a, rfl⟩ := Int.eq_ofNat_of_zero_le x0
  obtain ⟨b, rfl⟩ := Int.eq_ofNat_of_zero_le y0
  obtain ⟨c, rfl⟩ := Int.eq_ofNat_of_zero_le z0
  exact h a (by omega) b (by omega) c (by omega)
theorem host_facts {x y z : Int} (x0 : 0 ≤ x) (x1 : x ≤ 2) (y0 : 0 ≤ y) (y1 : y ≤ 2) (z0 : 0 ≤ z) (z1 : z ≤ 2) :
    Txt.lower (hostS (65 + x) (65 + y) (65 + z)) = hostL (65 + x) (65 + y) (65 + z) ∧ Builtin.Str.tooLong (Txt.lower (hostS (65 + x) (65 + y) (65 + z))).length = false ∧ noMatch (hostL (65 + x) (65 + y) (65 + z)) = true ∧ (hostL (65 + x) (65 + y) (65 + z)).length ≤ 1000 :=
  three (P := fun x y z => Txt.lower (hostS (65 + x) (65 + y) (65 + z)) = hostL (65 + x) (65 + y) (65 + z) ∧ Builtin.Str.tooLong (Txt.lower (hostS (65 + x) (65 + y) (65 + z))).length = false ∧ noMatch (hostL (65 + x) (65 + y) (65 + z)) = true ∧ (hostL (65 + x) (65 + y) (65 + z)).length ≤ 1000) (by decide +kernel) x0 x1 y0 y1 z0 z1
/-- what is left of a host behind each reach -/
def tl1 (y z : Int) : Str := ⟨#[(65 + y).toNat, 46, (65 + z).toNat, 46, 108, 111, 99, 97, 108]⟩
def tl2 (z : Int) : Str := ⟨#[(65 + z).toNat, 46, 108, 111, 99, 97, 108]⟩
def tl3 : Str := Str.ofString "local"
def znT (fr x y z : Int) : Str := if fr = 0 then hostS (65 + x) (65 + y) (65 + z) else if fr = 1 then Str.ofString "." ++ tl1 y z else if fr = 2 then Str.ofString "." ++ tl2 z else Str.ofString "." ++ tl3
def zl1 (y z : Int) : Str := ⟨#[46, (97 + y).toNat, 46, (97 + z).toNat, 46, 108, 111, 99, 97, 108]⟩
def zl2 (z : Int) : Str := ⟨#[46, (97 + z).toNat, 46, 108, 111, 99, 97, 108]⟩
def zl3 : Str := ⟨#[46, 108, 111, 99, 97, 108]⟩
def zlT (fr x y z : Int) : Str := if fr = 0 then hostL (65 + x) (65 + y) (65 + z) else if fr = 1 then zl1 y z else if fr = 2 then zl2 z else zl3
theorem zn0 (x y z : Int) : znT 0 x y z = hostS (65 + x) (65 + y) (65 + z) ∧ zlT 0 x y z = hostL (65 + x) (65 + y) (65 + z) := ⟨if_pos rfl, if_pos rfl⟩
theorem zn1 (x y z : Int) : znT 1 x y z = Str.ofString "." ++ tl1 y z ∧ zlT 1 x y z = zl1 y z := ⟨(if_neg (by decide)).trans (if_pos rfl), (if_neg (by decide)).trans (if_pos rfl)⟩
theorem zn2 (x y z : Int) : znT 2 x y z = Str.ofString "." ++ tl2 z ∧ zlT 2 x y z = zl2 z := ⟨(if_neg (by decide)).trans ((if_neg (by decide)).trans (if_pos rfl)), (if_neg (by decide)).trans ((if_neg (by decide)).trans (if_pos rfl))⟩
theorem zn3 (x y z : Int) : znT 3 x y z = Str.ofString "." ++ tl3 ∧ zlT 3 x y z = zl3 := ⟨(if_neg (by decide)).trans ((if_neg (by decide)).trans (if_neg (by decide))), (if_neg (by decide)).trans ((if_neg (by decide)).trans (if_neg (by decide)))⟩
theorem zOk1 : ∀ b : Nat, b < 3 → ∀ c : Nat, c < 3 → Txt.lower (Str.ofString "." ++ tl1 b c) = zl1 b c ∧ Builtin.Str.tooLong (Txt.lower (Str.ofString "." ++ tl1 b c)).length = false ∧ noMatch (zl1 b c) = true ∧ (zl1 b c).length ≤ 1000 := by decide +kernel
theorem zOk2 : ∀ c : Nat, c < 3 → Txt.lower (Str.ofString "." ++ tl2 c) = zl2 c ∧ Builtin.Str.tooLong (Txt.lower (Str.ofString "." ++ tl2 c)).length = false ∧ noMatch (zl2 c) = true ∧ (zl2 c).length ≤ 1000 := by decide +kernel
theorem zOk3 : Txt.lower (Str.ofString "." ++ tl3) = zl3 ∧ Builtin.Str.tooLong (Txt.lower (Str.ofString "." ++ tl3)).length = false ∧ noMatch zl3 = true ∧ zl3.length ≤ 1000 := by decide +kernel
theorem zone_facts {fr x y z : Int} (f0 : 0 ≤ fr) (f1 : fr ≤ 3) (x0 : 0 ≤ x) (x1 : x ≤ 2) (y0 : 0 ≤ y) (y1 : y ≤ 2) (z0 : 0 ≤ z) (z1 : z ≤ 2) :
    Txt.lower (znT fr x y z) = zlT fr x y z ∧ Builtin.Str.tooLong (Txt.lower (znT fr x y z)).length = false ∧ noMatch (zlT fr x y z) = true ∧ (zlT fr x y z).length ≤ 1000 := by
  have hf : fr = 0 ∨ fr = 1 ∨ fr = 2 ∨ fr = 3 := by omega
  rcases hf with rfl | rfl | rfl | rfl
  · rw [(zn0 x y z).1, (zn0 x y z).2]; exact host_facts x0 x1 y0 y1 z0 z1
  · rw [(zn1 x y z).1, (zn1 x y z).2]
    obtain ⟨b, rfl⟩ := Int.eq_ofNat_of_zero_le y0
    obtain ⟨c, rfl⟩ := Int.eq_ofNat_of_zero_le z0
    exact zOk1 b (by omega) c (by omega)
  · rw [(zn2 x y z).1, (zn2 x y z).2]
    obtain ⟨c, rfl⟩ := Int.eq_ofNat_of_zero_le z0
    exact zOk2 c (by omega)
  · rw [(zn3 x y z).1, (zn3 x y z).2]; exact zOk3
def udmA (n : Nat) (P : Nat → Nat → Nat → Bool) : Bool := (List.range n).all fun a => (List.range n).all fun b => (List.range n).all fun c => P a b c
theorem udmA_at {n : Nat} {P : Nat → Nat → Nat → Bool} (h : udmA n P = true) : ∀ a, a < n → ∀ b, b < n → ∀ c, c < n → P a b c = true := by
  intro a ha b hb c hc
  have h1 := List.all_eq_true.mp h a (List.mem_range.mpr ha)
  have h2 := List.all_eq_true.mp h1 b (List.mem_range.mpr hb)
  exact List.all_eq_true.mp h2 c (List.mem_range.mpr hc)
def hL (a b c : Nat) : Str := hostL (65 + (a : Int)) (65 + (b : Int)) (65 + (c : Int))
theorem host_inj {a b c x y z : Nat} : (hL a b c == hL x y z) = decide ([65 + (a : Int) - 65, 65 + (b : Int) - 65, 65 + (c : Int) - 65] = [(x : Int), (y : Int), (z : Int)]) := by
  rw [Bool.eq_iff_iff, beq_iff_eq, decide_eq_true_iff]
  unfold hL hostL
  simp only [Str.mk.injEq, Array.mk.injEq, List.cons.injEq, and_true, true_and]
  omega
theorem hL_dot : udmA 3 (fun a b c => Txt.startswith (hL a b c) (Str.ofString ".") == false) = true := by decide +kernel
theorem udm0 {w0 w1 w2 a b c : Nat} (h0 : w0 < 3) (h1 : w1 < 3) (h2 : w2 < 3) : udmF (hL a b c) (hL w0 w1 w2) = decide ([65 + (a : Int) - 65, 65 + (b : Int) - 65, 65 + (c : Int) - 65] = [(w0 : Int), (w1 : Int), (w2 : Int)]) :=
  udm2 (beq_iff_eq.mp (udmA_at hL_dot w0 h0 w1 h1 w2 h2)) host_inj
theorem udm1b : ∀ w1 : Nat, w1 < 3 → ∀ w2 : Nat, w2 < 3 → udmA 3 (fun a b c => udmF (hL a b c) (zl1 w1 w2) == decide ([65 + (b : Int) - 65, 65 + (c : Int) - 65] = [(w1 : Int), (w2 : Int)])) = true := by decide +kernel
theorem udm2b : ∀ w2 : Nat, w2 < 3 → udmA 3 (fun a b c => udmF (hL a b c) (zl2 w2) == decide ([65 + (c : Int) - 65] = [(w2 : Int)])) = true := by decide +kernel
theorem udm3b : udmA 3 (fun a b c => udmF (hL a b c) zl3 == true) = true := by decide +kernel
theorem udm_in {fr w0 w1 w2 : Int} {b0 b1 i : Nat} (f0 : 0 ≤ fr) (f1 : fr ≤ 3) (x0 : 0 ≤ w0) (x1 : w0 ≤ 2) (y0 : 0 ≤ w1) (y1 : w1 ≤ 2) (z0 : 0 ≤ w2) (z1 : w2 ≤ 2)
    (hd : 0 ≤ dg b0 b1 i 0 ∧ dg b0 b1 i 0 ≤ 2 ∧ 0 ≤ dg b0 b1 i 1 ∧ dg b0 b1 i 1 ≤ 2 ∧ 0 ≤ dg b0 b1 i 2 ∧ dg b0 b1 i 2 ≤ 2) :
    udmF (hostL (fd b0 b1 i 0) (fd b0 b1 i 1) (fd b0 b1 i 2)) (zlT fr w0 w1 w2) = inZ b0 b1 fr w0 w1 w2 i := by
  obtain ⟨h0, h1, h2, h3, h4, h5⟩ := hd
  unfold inZ fd
  obtain ⟨v0, rfl⟩ := Int.eq_ofNat_of_zero_le x0
  obtain ⟨v1, rfl⟩ := Int.eq_ofNat_of_zero_le y0
  obtain ⟨v2, rfl⟩ := Int.eq_ofNat_of_zero_le z0
  obtain ⟨a, ha⟩ := Int.eq_ofNat_of_zero_le h0
  obtain ⟨b, hb⟩ := Int.eq_ofNat_of_zero_le h2
  obtain ⟨c, hc⟩ := Int.eq_ofNat_of_zero_le h4
  rw [ha, hb, hc]
  have qa : a < 3 := by omega
  have qb : b < 3 := by omega
  have qc : c < 3 := by omega
  have hf : fr = 0 ∨ fr = 1 ∨ fr = 2 ∨ fr = 3 := by omega
  rcases hf with rfl | rfl | rfl | rfl
  · rw [(zn0 v0 v1 v2).2]; exact udm0 (by omega) (by omega) (by omega)
  · rw [(zn1 v0 v1 v2).2]; exact beq_iff_eq.mp (udmA_at (udm1b v1 (by omega) v2 (by omega)) a qa b qb c qc)
  · rw [(zn2 v0 v1 v2).2]; exact beq_iff_eq.mp (udmA_at (udm2b v2 (by omega)) a qa b qb c qc)
  · rw [(zn3 v0 v1 v2).2]; exact beq_iff_eq.mp (udmA_at udm3b a qa b qb c qc)
set_option synthInstance.maxSize 100000 in
set_option synthInstance.maxHeartbeats 0 in
theorem s9_a {x y z : Int} (x0 : 0 ≤ x) (x1 : x ≤ 2) (y0 : 0 ≤ y) (y1 : y ≤ 2) (z0 : 0 ≤ z) (z1 : z ≤ 2) : (hostS (65 + x) (65 + y) (65 + z)).length ≤ 1000 ∧ noMatch (hostS (65 + x) (65 + y) (65 + z)) = true ∧ 1 ≤ (hostS (65 + x) (65 + y) (65 + z)).length ∧ (hostS (65 + x) (65 + y) (65 + z) == Str.ofString "") = false ∧ (Txt.item (hostS (65 + x) (65 + y) (65 + z)) 0 == Str.ofString ".") = false ∧ (Txt.item (hostS (65 + x) (65 + y) (65 + z)) (-1) == Str.ofString ".") = false ∧ Txt.find (hostS (65 + x) (65 + y) (65 + z)) (Str.ofString ".") = 1 ∧ Txt.slice (hostS (65 + x) (65 + y) (65 + z)) (some (1 + 1)) none = tl1 y z ∧ (0 ≤ Txt.find (tl1 y z) (Str.ofString ".") ∨ (tl1 y z == Str.ofString "local") = true) :=
  three (P := fun x y z => (hostS (65 + x) (65 + y) (65 + z)).length ≤ 1000 ∧ noMatch (hostS (65 + x) (65 + y) (65 + z)) = true ∧ 1 ≤ (hostS (65 + x) (65 + y) (65 + z)).length ∧ (hostS (65 + x) (65 + y) (65 + z) == Str.ofString "") = false ∧ (Txt.item (hostS (65 + x) (65 + y) (65 + z)) 0 == Str.ofString ".") = false ∧ (Txt.item (hostS (65 + x) (65 + y) (65 + z)) (-1) == Str.ofString ".") = false ∧ Txt.find (hostS (65 + x) (65 + y) (65 + z)) (Str.ofString ".") = 1 ∧ Txt.slice (hostS (65 + x) (65 + y) (65 + z)) (some (1 + 1)) none = tl1 y z ∧ (0 ≤ Txt.find (tl1 y z) (Str.ofString ".") ∨ (tl1 y z == Str.ofString "local") = true)) (by decide +kernel) x0 x1 y0 y1 z0 z1
set_option synthInstance.maxSize 100000 in
set_option synthInstance.maxHeartbeats 0 in
theorem s9_bb : ∀ y : Nat, y < 3 → ∀ z : Nat, z < 3 → (tl1 (y : Int) (z : Int)).length ≤ 1000 ∧ noMatch (tl1 (y : Int) (z : Int)) = true ∧ 1 ≤ (tl1 (y : Int) (z : Int)).length ∧ (tl1 (y : Int) (z : Int) == Str.ofString "") = false ∧ (Txt.item (tl1 (y : Int) (z : Int)) 0 == Str.ofString ".") = false ∧ (Txt.item (tl1 (y : Int) (z : Int)) (-1) == Str.ofString ".") = false ∧ Txt.find (tl1 (y : Int) (z : Int)) (Str.ofString ".") = 1 ∧ Txt.slice (tl1 (y : Int) (z : Int)) (some (1 + 1)) none = tl2 (z : Int) ∧ (0 ≤ Txt.find (tl2 (z : Int)) (Str.ofString ".") ∨ (tl2 (z : Int) == Str.ofString "local") = true) := by decide +kernel
theorem s9_b {y z : Int} (y0 : 0 ≤ y) (y1 : y ≤ 2) (z0 : 0 ≤ z) (z1 : z ≤ 2) : (tl1 y z).length ≤ 1000 ∧ noMatch (tl1 y z) = true ∧ 1 ≤ (tl1 y z).length ∧ (tl1 y z == Str.ofString "") = false ∧ (Txt.item (tl1 y z) 0 == Str.ofString ".") = false ∧ (Txt.item (tl1 y z) (-1) == Str.ofString ".") = false ∧ Txt.find (tl1 y z) (Str.ofString ".") = 1 ∧ Txt.slice (tl1 y z) (some (1 + 1)) none = tl2 z ∧ (0 ≤ Txt.find (tl2 z) (Str.ofString ".") ∨ (tl2 z == Str.ofString "local") = true) := by
  obtain ⟨b, rfl⟩ := Int.eq_ofNat_of_zero_le y0
  obtain ⟨c, rfl⟩ := Int.eq_ofNat_of_zero_le z0
  exact s9_bb b (by omega) c (by omega)
set_option synthInstance.maxSize 100000 in
set_option synthInstance.maxHeartbeats 0 in
theorem s9_cc : ∀ z : Nat, z < 3 → (tl2 (z : Int)).length ≤ 1000 ∧ noMatch (tl2 (z : Int)) = true ∧ 1 ≤ (tl2 (z : Int)).length ∧ (tl2 (z : Int) == Str.ofString "") = false ∧ (Txt.item (tl2 (z : Int)) 0 == Str.ofString ".") = false ∧ (Txt.item (tl2 (z : Int)) (-1) == Str.ofString ".") = false ∧ Txt.find (tl2 (z : Int)) (Str.ofString ".") = 1 ∧ Txt.slice (tl2 (z : Int)) (some (1 + 1)) none = tl3 ∧ (0 ≤ Txt.find (tl3) (Str.ofString ".") ∨ (tl3 == Str.ofString "local") = true) := by decide +kernel
theorem s9_c {z : Int} (z0 : 0 ≤ z) (z1 : z ≤ 2) : (tl2 z).length ≤ 1000 ∧ noMatch (tl2 z) = true ∧ 1 ≤ (tl2 z).length ∧ (tl2 z == Str.ofString "") = false ∧ (Txt.item (tl2 z) 0 == Str.ofString ".") = false ∧ (Txt.item (tl2 z) (-1) == Str.ofString ".") = false ∧ Txt.find (tl2 z) (Str.ofString ".") = 1 ∧ Txt.slice (tl2 z) (some (1 + 1)) none = tl3 ∧ (0 ≤ Txt.find (tl3) (Str.ofString ".") ∨ (tl3 == Str.ofString "local") = true) := by
  obtain ⟨c, rfl⟩ := Int.eq_ofNat_of_zero_le z0
  exact s9_cc c (by omega)
set_option synthInstance.maxSize 100000 in
set_option synthInstance.maxHeartbeats 0 in
theorem s9_dd : ∀ y : Nat, y < 3 → ∀ z : Nat, z < 3 → Txt.slice (Str.ofString "." ++ tl1 (y : Int) (z : Int)) (some 1) none = tl1 (y : Int) (z : Int) ∧ Txt.slice (Str.ofString "." ++ tl2 (z : Int)) (some 1) none = tl2 (z : Int) ∧ (Str.ofString "." ++ tl1 (y : Int) (z : Int)).length ≤ 1000 ∧ (Str.ofString "." ++ tl2 (z : Int)).length ≤ 1000 := by decide +kernel
theorem s9_d {y z : Int} (y0 : 0 ≤ y) (y1 : y ≤ 2) (z0 : 0 ≤ z) (z1 : z ≤ 2) : Txt.slice (Str.ofString "." ++ tl1 y z) (some 1) none = tl1 y z ∧ Txt.slice (Str.ofString "." ++ tl2 z) (some 1) none = tl2 z ∧ (Str.ofString "." ++ tl1 y z).length ≤ 1000 ∧ (Str.ofString "." ++ tl2 z).length ≤ 1000 := by
  obtain ⟨b, rfl⟩ := Int.eq_ofNat_of_zero_le y0
  obtain ⟨c, rfl⟩ := Int.eq_ofNat_of_zero_le z0
  exact s9_dd b (by omega) c (by omega)
theorem abs4 {a b c d : Int} : (a + b + c + d).natAbs ≤ a.natAbs + b.natAbs + c.natAbs + d.natAbs :=
  Nat.le_trans (Int.natAbs_add_le _ _) (Nat.add_le_add_right (Nat.le_trans (Int.natAbs_add_le _ _) (Nat.add_le_add_right (Int.natAbs_add_le _ _) _)) _)
theorem absm {a b : Int} {m n : Nat} (h : a.natAbs ≤ m) (k : b.natAbs ≤ n) : (a * b).natAbs ≤ m * n := Int.natAbs_mul a b ▸ Nat.mul_le_mul h k
theorem absl {b : Int} {m : Nat} (h0 : -(m : Int) ≤ b) (h1 : b ≤ m) : b.natAbs ≤ m := by omega
theorem abs50 {a b c d : Int} {x y z w : Nat} (h0 : a.natAbs ≤ x) (h1 : b.natAbs ≤ y) (h2 : c.natAbs ≤ z) (h3 : d.natAbs ≤ w) (h : x + y + z + w ≤ 50) : (a + b + c + d).natAbs ≤ 50 :=
  Nat.le_trans abs4 (Nat.le_trans (Nat.add_le_add (Nat.add_le_add (Nat.add_le_add h0 h1) h2) h3) h)
theorem val50 {x : Form} {b0 b1 i : Nat} (h0 : -4 ≤ x.b) (h1 : x.b ≤ 4) (h2 : -7 ≤ x.f) (h3 : x.f ≤ 7) (hd : 0 ≤ dg b0 b1 i 0 ∧ dg b0 b1 i 0 ≤ 2 ∧ 0 ≤ dg b0 b1 i 1 ∧ dg b0 b1 i 1 ≤ 2 ∧ 0 ≤ dg b0 b1 i 2 ∧ dg b0 b1 i 2 ≤ 2) :
    (x.val [gd b0 b1 i 0, gd b0 b1 i 1, gd b0 b1 i 2] [fd b0 b1 i 0, fd b0 b1 i 1, fd b0 b1 i 2]).natAbs ≤ 50 := by
  rw [lt3_val]
  obtain ⟨y0, y1, y2, y3, y4, y5⟩ := hd
  have hb : x.b.natAbs ≤ 4 := absl h0 h1
  have hp : (dg b0 b1 i 0).natAbs ≤ 2 := absl (by omega) y1
  have hq : (dg b0 b1 i 1).natAbs ≤ 2 := absl (by omega) y3
  have hr : (dg b0 b1 i 2).natAbs ≤ 2 := absl (by omega) y5
  have hf : x.f.natAbs ≤ 7 := absl h2 h3
  have p2 : (x.b ^ 2).natAbs ≤ 16 := by rw [Int.pow_succ, Int.pow_succ, Int.pow_zero, Int.one_mul]; exact absm hb hb
  have p1 : (x.b ^ 1).natAbs ≤ 4 := by rw [Int.pow_succ, Int.pow_zero, Int.one_mul]; exact hb
  have p0 : (x.b ^ 0).natAbs ≤ 1 := by rw [Int.pow_zero]; exact Nat.le_refl 1
  unfold powE
  cases x.e
  · exact abs50 (absm p0 hp) (absm p1 hq) (absm p2 hr) hf (by decide)
  · exact abs50 (absm p2 hp) (absm p1 hq) (absm p0 hr) hf (by decide)
theorem light_abs {ws ms : List Int} : ∀ (fs : List Form) (l : Int), (∀ x ∈ fs, (x.val ws ms).natAbs ≤ 50) → (lightOf ws ms l fs).natAbs ≤ l.natAbs * 50 ^ fs.length
  | [], l, _ => by show l.natAbs ≤ l.natAbs * 50 ^ 0; omega
  | x :: fs, l, h => by
    have h1 := light_abs fs (l * x.val ws ms) fun y hy => h y (.tail _ hy)
    refine Nat.le_trans h1 ?_
    rw [Int.natAbs_mul, List.length_cons, Nat.pow_succ, Nat.mul_comm (50 ^ fs.length) 50, ← Nat.mul_assoc]
    exact Nat.mul_le_mul_right _ (Nat.mul_le_mul_left _ (h x (.head _)))
theorem lt3_abs {fs : List Form} {b0 b1 i : Nat} (hn : fs.length ≤ 3) (h : ∀ x ∈ fs, (x.val [gd b0 b1 i 0, gd b0 b1 i 1, gd b0 b1 i 2] [fd b0 b1 i 0, fd b0 b1 i 1, fd b0 b1 i 2]).natAbs ≤ 50) : (lt3 b0 b1 fs i).natAbs ≤ 125000 :=
  Nat.le_trans (light_abs fs 1 h) (by rw [show (1 : Int).natAbs = 1 from rfl, Nat.one_mul]; exact Nat.le_trans (Nat.pow_le_pow_right (by decide) hn) (by decide))
theorem step_abs {p x : Int} {k : Nat} (h : x.natAbs ≤ 125000) : (p + x).natAbs + 125000 * k ≤ p.natAbs + 125000 * (k + 1) := by
  rw [Nat.mul_succ, Nat.add_comm (125000 * k), ← Nat.add_assoc]
  exact Nat.add_le_add_right (Nat.le_trans (Int.natAbs_add_le p x) (Nat.add_le_add_left h _)) _
theorem prt_abs {H : Nat → Bool} {V S : Nat → Int} {j : Nat} (hV : ∀ i, i < 12 → (V i).natAbs ≤ 125000) : ∀ (k i : Nat) (p : Int), k + i = 12 → (prt H V S j k i p).natAbs ≤ p.natAbs + 125000 * k
  | 0, _, p, _ => Nat.le_add_right _ _
  | k + 1, i, p, hk => by
    rw [prt]
    refine Nat.le_trans (prt_abs hV k (i + 1) _ (by omega)) ?_
    have hv := hV i (by omega)
    split
    · exact step_abs (abs_u hv)
    · exact Nat.add_le_add_left (Nat.mul_le_mul_left _ (Nat.le_succ k)) _
end Mine
end
section
open _root_.PySem _root_.PySem.W _root_.PySem.W.X _root_.PyProof.Rows
set_option Elab.async false
set_option maxRecDepth 100000
set_option maxHeartbeats 0
namespace Mine
theorem rs54 : True := by w_top off; trivial
theorem formEnd_row {h₀ : Heap} {L : Addr} {m : Str → Option Value} {s₁ : Shared} {I C D X Y T : Addr} {oI oC oD oX oY oT : Obj} {lf : Addr} {fs : List Form} {k : Nat} {R : Value → List (Addr × Obj) → Prop} {h' : Heap} {tk : Nat} {news : List (Addr × Obj)} (F : Fr h₀ L h' m) (N : News h₀ L h' ((T, oT) :: (I, oI) :: (C, oC) :: (D, oD) :: (X, oX) :: (Y, oY) :: news))
    (off : LCg.Off3 I C D news) (ox : LCg.Off1 X news) (oy : LCg.Off1 Y news) (ne : @Ne Nat T I ∧ @Ne Nat T C ∧ @Ne Nat T D ∧ @Ne Nat T X ∧ @Ne Nat T Y) (hS : FormS lf fs k news) (r : R (.ref T) ((T, oT) :: news)) : FormEnd h₀ L m s₁ I oI C oC D oD X oX Y oY (FormS lf fs k) R (.ref T) { s₁ with heap := h', toks := tk } :=
  FormEnd.intro (news' := (T, oT) :: news) F N (fun p hp => by
    simp only [List.mem_cons] at hp ⊢
    rcases hp with h | h | h | h | h | h | h
    all_goals simp only [h, true_or, or_true]) ⟨⟨ne.1, ne.2.1, ne.2.2.1⟩, off⟩ ⟨ne.2.2.2.1, ox⟩ ⟨ne.2.2.2.2, oy⟩ ⟨.tail _ hS.1, fun x hx => by obtain ⟨t, u, q⟩ := hS.2 x hx; exact ⟨t, u, .tail _ q⟩⟩ r
theorem formS_cons {lf : Addr} {fs : List Form} {k : Nat} {a : Addr × Obj} {news : List (Addr × Obj)} (hS : FormS lf fs k news) : FormS lf fs k (a :: news) := ⟨.tail _ hS.1, fun x hx => by obtain ⟨t, u, q⟩ := hS.2 x hx; exact ⟨t, u, .tail _ q⟩⟩
theorem natAbs_pow' (b : Int) : ∀ k : Nat, (b ^ k).natAbs = b.natAbs ^ k
  | 0 => by rw [Int.pow_zero, Nat.pow_zero]; rfl
  | k + 1 => by rw [Int.pow_succ, Nat.pow_succ, Int.natAbs_mul, natAbs_pow' b k]
theorem powE_abs {b : Int} {e : Bool} {k : Nat} (h0 : -4 ≤ b) (h1 : b ≤ 4) (hk : k ≤ 2) : (powE b e k).natAbs ≤ 16 := by
  unfold powE
  rw [natAbs_pow']
  have hb : b.natAbs ≤ 4 := by omega
  have he : (if e then 2 - k else k) ≤ 2 := by split <;> omega
  exact Nat.le_trans (Nat.pow_le_pow_left hb _) (Nat.le_trans (Nat.pow_le_pow_right (by decide) he) (by decide))
theorem powE_ok {b : Int} {e : Bool} {k : Nat} (h0 : -4 ≤ b) (h1 : b ≤ 4) (hk : k ≤ 2) : ∀ i, IntMulOk (powE b e k) i := by
  intro i
  have h2 := powE_abs (e := e) h0 h1 hk
  exact PySem.IntMulOk.of_left (PySem.intBits_le_64 (by omega) (by omega))
end Mine
end
section
open _root_.PySem _root_.PySem.W _root_.PySem.W.X _root_.PyProof.Rows
set_option Elab.async false
set_option maxRecDepth 100000
set_option maxHeartbeats 0
namespace Mine
local macro_rules | `(tactic| walk_at "none") => `(tactic| skip)
theorem rs55 : True := by w_top off; trivial
theorem c_perm0 {w : World} {loose : List Str} {mean : ExcName → Option Value} {mg mb : Str → Option Value} {dp un : Nat} {gd : Option (List Code)} {cn : Str} {cs : Scope} {a : Addr} {ccd : Value} {cl : List (Str × Addr)} {outer : List Env} {A₀ : Around} {base h₀ : Heap} {L : Addr} {m : Str → Option Value} {news : List (Addr × Obj)} {s : Shared} {Q E : Value → Shared → Prop}
   (cx : Cx 1 w loose mean mg mb dp un cs outer A₀ base h₀ L m s.heap news) {lr : Addr} {kr : Nat} (hlr : (lr, W.listOf #[] kr) ∈ news)
   (hret : ∀ (t' : Tok) (h' : Heap) (tk' : Nat), Fr h₀ L h' m → News h₀ L h' news → Q (.int 1 t') { s with heap := h', toks := tk' }) :
  wpAny (model PP w) (ktrTop dp un gd cn cs L a ccd cl outer) (call (.ref 109) [.ref lr]) Q E s := by
  obtain ⟨cB, cF, cX, cN, cT, ck, cd, cu⟩ := cx
  refine wpAny_call ?_
  k_dflt (refine' code_defC ?k1 ?k2 ?k3 ?k4 ?k5 ?kA ?kF ?kK ?k6 ?k7 ?k8 ?k9 ?kB ?kD ?_ ?c2 ?c3 ?c4; (case kA => exact rfl); (case kF => exact rfl); (case kK => assumption); (case k1 => k_asm); (case k2 => k_asm); (case k3 => k_asm); (case k4 => k_asm); (case k5 => k_asm); (case k6 => k_is); (case k7 => k_is); (case k8 => ktr_room); (case k9 => exact BindsTo.of_eq rfl); (case kB => exact rfl); (case kD => decide +kernel); (case c2 => exact rfl); (case c3 => exact rfl); (case c4 => exact rfl); k_whole; intro g' L' h' tk' cells' FG' F' N' Y' B' X' T' l1; (try k_lt l1); k_cells Y'; (try simp only [List.cons_append, List.nil_append] at N'); (try dsimp only); (try k_lift B'); (try k_fold))
  (repeat' (first | (k_unfold; (try dsimp only)) | (k_end; wrow_close) | ((k_here; (with_reducible show wpAny _ _ (compareOp CmpOp.Eq (Value.ref _) (Value.ref _)) _ _ _); k_dflt (first | (refine' PySem.SeqAt.eq_list_lengthsAt (News.isList (by k_asm) (by walk_at "mem")) (News.isList (by k_asm) (by walk_at "mem")) (by decide) (by ktr_units) ?_) | (refine' PySem.SeqAt.eq_listAt (e := fun _ => true) (News.isList (by k_asm) (by walk_at "mem")) (News.isList (by k_asm) (by walk_at "mem")) (by decide) (by ktr_units) (fun j h1 _ => absurd h1 (Nat.not_lt_zero _)) ?_)))) | walk1 | (dsimp only; walk1) | (leave1; try dsimp only) | fail "no step"))
  all_goals (first | exact hret _ _ _ (by assumption) (by assumption) | (refine hret _ _ _ (by assumption) (news_drop (by assumption) (fun p hp => ?_)); repeat (first | assumption | refine List.Mem.tail _ ?_)) | trace_state)
end Mine
end
section
open _root_.PySem _root_.PySem.W _root_.PySem.W.X _root_.PyProof.Rows
set_option Elab.async false
set_option maxRecDepth 100000
set_option maxHeartbeats 0
namespace Mine
theorem rs56 : True := by w_top off; trivial
local macro_rules | `(tactic| k_updF) => `(tactic| first | (refine' UpdF.head ?a; (case a => (repeat (refine all_cons (by first | k_ne | omega) ?_)); first | exact all_off1 (by assumption) | exact all_off2 (by assumption) | exact all_off3 (by assumption) | exact all_off4 (by assumption) | exact all_off5 (by assumption) | exact all_off6 (by assumption) | exact all_off7 (by assumption) | (intro p hp; cases hp))) | (refine' UpdF.tail ?a ?b; (case a => first | k_ne | omega); (case b => k_updF)))
theorem s17_0 {w : World} {loose : List Str} {mean : ExcName → Option Value} {mg mb : Str → Option Value} {base : Heap} {L fa : Addr} {cd : Value} {m : Str → Option Value} {s : Shared} {Q : Flow → Shared → Prop} {E : Value → Shared → Prop}
   (cB : Below callerA base [] base) (cX : (Mine.hd.heap_39 w.params).In base) (cT : Top Mine.hd.view_39 loose mean mg mb base) (hE : PassesOwn (model PP w) (lawA L fa cd) (lawEnv L fa cd) E)
   {o1 o2 o3 o4 o5 o6 o7 : Obj} {ns : List (Addr × Obj)} (hns : ∀ p ∈ ns, (Off7 L p.1))
   {l lb lo lf ls lp : Addr} {gr : Int} {tf tg tc ts : Tok}   (hlf : (lf, formsO [] 0) ∈ ns) (hin : ∀ x ∈ ([] : List Form), x.In ns)
   (cF : Fr base L s.heap (fun y => if y = Str.ofString "strength" then some (.int 0 ts) else if y = Str.ofString "shown" then some (.ref ls) else if y = Str.ofString "forms" then some (.ref lf) else if y = Str.ofString "count" then some (.int 0 tc) else if y = Str.ofString "own" then some (.ref lo) else m y)) (cN : News base L s.heap ((L + 1 + 1 + 1 + 1 + 1 + 1 + 1, o7) :: (L + 1 + 1 + 1 + 1 + 1 + 1, o6) :: (L + 1 + 1 + 1 + 1 + 1, o5) :: (L + 1 + 1 + 1 + 1, o4) :: (L + 1 + 1 + 1, o3) :: (L + 1 + 1, o2) :: (L + 1, o1) :: ns))
   (d1 : o1.data = .cell (some (.ref l))) (d2 : o2.data = .cell (some (.ref lb))) (d3 : o3.data = .cell (some (.int 0 tf))) (d4 : o4.data = .cell (some (.int gr tg))) (d5 : o5.data = .cell (some (.ref lp)))
   (hret : ∀ (m' : Str → Option Value) (h' : Heap) (tk' : Nat) (t : Tok), Fr base L h' (fun y => if y = Str.ofString "strength" then some (.int (1) t) else if y = Str.ofString "shown" then some (.ref ls) else if y = Str.ofString "forms" then some (.ref lf) else if y = Str.ofString "count" then some (.int 0 tc) else if y = Str.ofString "own" then some (.ref lo) else m' y) → News base L h' ((L + 1 + 1 + 1 + 1 + 1 + 1 + 1, o7) :: (L + 1 + 1 + 1 + 1 + 1 + 1, o6) :: (L + 1 + 1 + 1 + 1 + 1, o5) :: (L + 1 + 1 + 1 + 1, o4) :: (L + 1 + 1 + 1, o3) :: (L + 1 + 1, o2) :: (L + 1, o1) :: ns) → Q .next { s with heap := h', toks := tk' }) :
   wpAny (model PP w) (lawA L fa cd) (exec (st 17) (lawEnv L fa cd)) Q E s := by
  conv in (st 17) => whnf
  unfold lawA lawEnv
  conv in (occs := *) lawScope => all_goals whnf
  have hSf : FormS lf [] 0 ((L + 1 + 1 + 1 + 1 + 1 + 1 + 1, o7) :: (L + 1 + 1 + 1 + 1 + 1 + 1, o6) :: (L + 1 + 1 + 1 + 1 + 1, o5) :: (L + 1 + 1 + 1 + 1, o4) :: (L + 1 + 1 + 1, o3) :: (L + 1 + 1, o2) :: (L + 1, o1) :: ns) := formS_cons (formS_cons (formS_cons (formS_cons (formS_cons (formS_cons (formS_cons (⟨hlf, hin⟩)))))))
  with_reducible refine wp_gen fun tk0 => ?_
  with_reducible refine letN cN ?_
  intro nz0 cN0
  clear cN
  with_reducible refine letF cF ?_
  intro mz0 cF0
  clear cF
  with_reducible refine letA ?_
  intro A0
  (repeat' (first | (k_unfold; (try dsimp only)) | (k_end; wrow_close) | (k_end; first | ((k_dflt (refine formEnd_row (by assumption) (by assumption) (by assumption) (by assumption) (by assumption) (by assumption) (by first | assumption | exact formS_cons (by assumption) | exact formS_cons (formS_cons (by assumption))) ?_))) | (((with_reducible show FormRest ..); with_unfolding_all first | (refine FormRest.cons ?_; intro _ _ _ _ _ _ _ _ _ _ _ _ _ _ _ _ _ off' ox' oy' ne'; have off2' := off'; have ox2' := ox'; have oy2' := oy'; (try simp only [LCg.Off3, and_true] at off2'); (try simp only [LCg.Off1, and_true] at ox2' oy2'); (try unfold Five at ne')) | refine FormRest.nil ?_)) | ((k_here; k_dflt (refine FormSrc.intro (by rfl) (by k_asm) (by k_asm) (by assumption) (by first | size_fits | exact Nat.le_of_ble_eq_true rfl) ?_); intro _))) | ((k_here; (with_reducible show wpAny _ _ (call (Value.ref 109) _) _ _ _); k_dflt (refine' c_perm0 (by walk_at "cx") (by walk_at "mem")  ?_); intro _ _ _ _ _; (try dsimp only); (try k_fold))) | ((k_here; first | ((with_reducible show wpAny _ _ (eval (PySem.Expr.ListComp _ [⟨PySem.Expr.Tuple _ _ _, _, _, _⟩] _ _) _) _ _ _); k_dflt (refine ListComp_form (_F₀ := by k_asm) (by rfl) (by intro _; rfl) (by intro _; rfl) (by rfl) (by decide) (by rfl) (by rfl) (by rfl) (by rfl) ?_)) )) | walk1 | (dsimp only; walk1) | (leave1; try dsimp only) | fail "no step"))
  all_goals first
    | exact hret _ _ _ _ (Fr.put (Str.ofString "strength") (Fr.put (Str.ofString "shown") (Fr.put (Str.ofString "forms") (Fr.put (Str.ofString "count") (Fr.put (Str.ofString "own") ((by assumption)) rfl) rfl) rfl) rfl) rfl) (news_drop (by assumption) (fun p hp => by repeat (first | exact hp | refine List.Mem.tail _ ?_)))
    | trace_state
end Mine
end
section
open _root_.PySem _root_.PySem.W _root_.PySem.W.X _root_.PyProof.Rows
set_option Elab.async false
set_option maxRecDepth 100000
set_option maxHeartbeats 0
namespace Mine
local macro_rules | `(tactic| walk_at "none") => `(tactic| skip)
theorem rs57 : True := by w_top off; trivial
local macro_rules | `(tactic| k_mem) => `(tactic| assumption)
theorem mul_all {a b : Int} (h : ∀ i, IntMulOk a i) : IntMulOk a b := h b
theorem news_dup {h₀ h : Heap} {L : Addr} {all : List (Addr × Obj)} (N : News h₀ L h all) {p : Addr × Obj} (hp : p ∈ all) : News h₀ L h (p :: all) := fun q hq => by
  rcases List.mem_cons.mp hq with rfl | hq
  · exact N _ hp
  · exact N q hq
theorem compEnd_row {h₀ : Heap} {L : Addr} {m : Str → Option Value} {s₁ : Shared} {I C D T : Addr} {oI oC oD oT : Obj} {S : List (Addr × Obj) → Prop} {R : Value → List (Addr × Obj) → Prop} {h' : Heap} {tk : Nat} {news rest : List (Addr × Obj)} (F : Fr h₀ L h' m) (N : News h₀ L h' ((T, oT) :: rest))
    (sub : ∀ p ∈ (I, oI) :: (C, oC) :: (D, oD) :: news, p ∈ (T, oT) :: rest) (off : LCg.Off3 I C D news) (n1 : @Ne Nat T I) (n2 : @Ne Nat T C) (n3 : @Ne Nat T D) (hS : S ((T, oT) :: news)) (r : R (.ref T) ((T, oT) :: news)) : LCg.CompEnd h₀ L m s₁ I oI C oC D oD S R (.ref T) { s₁ with heap := h', toks := tk } :=
  LCg.CompEnd.intro F N ((T, oT) :: news) (fun p hp => by
    rcases List.mem_cons.mp hp with rfl | hp
    · exact sub _ (.head _)
    rcases List.mem_cons.mp hp with rfl | hp
    · exact sub _ (.tail _ (.head _))
    rcases List.mem_cons.mp hp with rfl | hp
    · exact sub _ (.tail _ (.tail _ (.head _)))
    rcases List.mem_cons.mp hp with rfl | hp
    · exact .head _
    · exact sub _ (.tail _ (.tail _ (.tail _ hp)))) ⟨⟨n1, n2, n3⟩, off⟩ hS r
theorem news_dup1 {h₀ h : Heap} {L : Addr} {a : Addr × Obj} {all : List (Addr × Obj)} (N : News h₀ L h (a :: all)) {p : Addr × Obj} (hp : p ∈ all) : News h₀ L h (a :: p :: all) := fun q hq => by
  rcases List.mem_cons.mp hq with rfl | hq
  · exact N _ (.head _)
  rcases List.mem_cons.mp hq with rfl | hq
  · exact N _ (.tail _ hp)
  · exact N q (.tail _ hq)
theorem c_perm1 {w : World} {loose : List Str} {mean : ExcName → Option Value} {mg mb : Str → Option Value} {dp un : Nat} {gd : Option (List Code)} {cn : Str} {cs : Scope} {a : Addr} {ccd : Value} {cl : List (Str × Addr)} {outer : List Env} {A₀ : Around} {base h₀ : Heap} {L : Addr} {m : Str → Option Value} {news : List (Addr × Obj)} {s : Shared} {Q E : Value → Shared → Prop}
   (cx : Cx 2 w loose mean mg mb dp un cs outer A₀ base h₀ L m s.heap news) {lr : Addr} {kr : Nat} {r0 : Addr} {k0 : Nat} {a0 : Int} {ta0 : Tok} (hlr : (lr, W.listOf #[.ref r0] kr) ∈ news) (hr0 : (r0, W.listOf #[.int a0 ta0] k0) ∈ news) (ha0 : ∀ i, IntMulOk a0 i) {rr : Int} (hrr : a0 * 1 + 0 = rr)
   (hret : ∀ (t' : Tok) (h' : Heap) (tk' : Nat), Fr h₀ L h' m → News h₀ L h' news → Q (.int rr t') { s with heap := h', toks := tk' }) :
  wpAny (model PP w) (ktrTop dp un gd cn cs L a ccd cl outer) (call (.ref 109) [.ref lr]) Q E s := by
  obtain ⟨cB, cF, cX, cN, cT, ck, cd, cu⟩ := cx
  refine wpAny_call ?_
  k_dflt (refine' code_defC ?k1 ?k2 ?k3 ?k4 ?k5 ?kA ?kF ?kK ?k6 ?k7 ?k8 ?k9 ?kB ?kD ?_ ?c2 ?c3 ?c4; (case kA => exact rfl); (case kF => exact rfl); (case kK => assumption); (case k1 => k_asm); (case k2 => k_asm); (case k3 => k_asm); (case k4 => k_asm); (case k5 => k_asm); (case k6 => k_is); (case k7 => k_is); (case k8 => ktr_room); (case k9 => exact BindsTo.of_eq rfl); (case kB => exact rfl); (case kD => decide +kernel); (case c2 => exact rfl); (case c3 => exact rfl); (case c4 => exact rfl); k_whole; intro g' L' h' tk' cells' FG' F' N' Y' B' X' T' l1; (try k_lt l1); k_cells Y'; (try simp only [List.cons_append, List.nil_append] at N'); (try dsimp only); (try k_lift B'); (try k_fold))
  rename Fr _ _ _ _ => Fz
  with_reducible refine letF Fz ?_
  intro mz Fy
  clear Fz
  rename News _ _ _ _ => Nz
  with_reducible refine letN Nz ?_
  intro nz0 Ny
  replace hlr : _ ∈ nz0 := .tail _ hlr
  replace hr0 : _ ∈ nz0 := .tail _ hr0
  clear Nz
  with_reducible refine wp_gen fun tk0 => ?_
  dsimp only
  (repeat' (first | (k_unfold; (try dsimp only)) | (k_end; wrow_close) | (k_end; first | ((k_dflt (first | refine compEnd_row (by assumption) (by assumption) (fun p hp => by first | exact hp | (repeat (first | exact hp | refine List.Mem.tail _ ?_))) (by assumption) (by omega) (by omega) (by omega) (Or.inr ⟨_, (by walk_at "mem"), rfl, _, rfl⟩) ?_ | refine LCg.CompEnd.intro (by assumption) (news_drop (by assumption) (fun p hp => by first | exact hp | (repeat (first | exact hp | refine List.Mem.tail _ ?_)))) _ (fun p hp => hp) (by assumption) (Or.inr ⟨_, (by walk_at "mem"), rfl, _, rfl⟩) ?_))) | (((with_reducible show LCg.CompRest ..); with_unfolding_all first | (refine LCg.CompRest.succ ?_; intro _ _ _ _ _ _ _ _ _ _ hv' _ _ _ _ off' _; (first | lcg_open hv' | (obtain ⟨t9', hv9'⟩ := hv'; subst hv9')); have off2' := off'; (try simp only [LCg.Off3, and_true] at off2')) | refine LCg.CompRest.zero ?_)) | ((k_here; k_dflt (refine LCg.CompSrc.ledger (by rfl) (by k_asm) (by k_asm) (by walk_at "mem") (by first | size_fits | exact Nat.le_of_ble_eq_true rfl) ?_; intro _; lcg_lit))) | ((k_dflt (refine CellEnd.intro (by assumption) (news_drop (by assumption) (fun p hp => by first | exact hp | (repeat (first | exact hp | refine List.Mem.tail _ ?_)))) (by assumption) (by assumption) ?_))) | (((with_reducible show CellRest ..); with_unfolding_all first | (refine CellRest.succ ?_; intro _ _ _ _ _ _ _ _ _ _ _ _ _ _ off' offx' _; have off2' := off'; have offx2' := offx'; (try simp only [LCg.Off3, and_true] at off2'); (try simp only [LCg.Off1, and_true] at offx2')) | refine CellRest.zero ?_)) | ((k_here; k_dflt (refine CellSrc.intro (n := 1) (by rfl) (by k_asm) (by k_asm) (by assumption) (by first | decide | rfl) (by first | rfl | decide) (by first | size_fits | exact Nat.le_of_ble_eq_true rfl) ?_); intro _))) | ((k_here; (with_reducible show wpAny _ _ (subscriptTail _ (PySem.Expr.Slice _ _ none _) (Value.ref _) (Value.ref _)) _ _ _); k_dflt (refine' kms_slice_lit (by k_asm) (by k_asm) (by exact News.isList (by k_asm) (by walk_at "mem")) (by kmk_part) (by kmk_part) (by kl_lit) ?_ (by with_unfolding_all rfl) (by kmk_pure) (by exact Nat.le_of_ble_eq_true rfl)); intro _ _ _ _ l1; (try k_lt l1); (try k_sweep))) | ((k_here; (with_reducible show wpAny _ _ (subscriptTail _ _ (Value.ref _) (Value.int _ _)) _ _ _); k_dflt (refine' item_litK (by exact News.isList (by k_asm) (by walk_at "mem")) (by decide) (by decide) (by rfl) ?_))) | ((k_here; (with_reducible show wpAny _ _ (compareOp CmpOp.Eq (Value.ref _) (Value.ref _)) _ _ _); k_dflt (first | (refine' PySem.SeqAt.eq_list_lengthsAt (News.isList (by k_asm) (by walk_at "mem")) (News.isList (by k_asm) (by walk_at "mem")) (by exact rfl) (by ktr_units) ?_) | (refine' PySem.SeqAt.eq_listAt (e := fun _ => true) (News.isList (by k_asm) (by walk_at "mem")) (News.isList (by k_asm) (by walk_at "mem")) (by exact rfl) (by ktr_units) (fun j h1 _ => absurd h1 (Nat.not_lt_zero _)) ?_)))) | ((k_here; (with_reducible show wpAny _ _ (call (Value.ref 109) _) _ _ _); k_dflt (refine' c_perm0 (by walk_at "cx") (by walk_at "mem")  ?_); intro _ _ _ _ _; (try dsimp only); (try k_fold))) | ((with_reducible show wpAny _ _ (binaryOp .Mult (Value.int _ _) (Value.int _ _)) _ _ _); (k_here; with_reducible refine mul_int ?_ (mul_all (by assumption)))) | ((with_reducible show wpAny _ _ (eval (PySem.Expr.ListComp _ _ _ _) _) _ _ _); (k_here; k_dflt (first | refine ListComp_cell (F₀ := by k_asm) (by rfl) (by intro _; rfl) (by intro _; rfl) (by rfl) (by decide) (by rfl) ?_ | refine LCg.ListComp_U (F₀ := by k_asm) (by rfl) (by decide) (by rfl) (by decide) (by rfl) ?_))) | walk1 | (dsimp only; walk1) | (leave1; try dsimp only) | fail "no step"))
  all_goals first
    | (subst hrr; exact hret _ _ _ (by assumption) (news_drop (by assumption) (fun p hp => by repeat (first | exact hp | refine List.Mem.tail _ ?_))))
    | trace_state
end Mine
end
section
open _root_.PySem _root_.PySem.W _root_.PySem.W.X _root_.PyProof.Rows
set_option Elab.async false
set_option maxRecDepth 100000
set_option maxHeartbeats 0
namespace Mine
theorem rs58 : True := by w_top off; trivial
theorem row17_1 {w : World} {loose : List Str} {mean : ExcName → Option Value} {mg mb : Str → Option Value} {base : Heap} {L fa : Addr} {cd : Value} {m : Str → Option Value} {s : Shared} {Q : Value → Shared → Prop} {E : Value → Shared → Prop}
   (cB : Below callerA base [] base) (cX : (Mine.hd.heap_39 w.params).In base) (cT : Top Mine.hd.view_39 loose mean mg mb base)
   {o3 : Obj} {ns : List (Addr × Obj)} {I C D X Y : Addr} {oI oC oD oX oY : Obj} {b : Int} {e : Bool} {t tf : Tok} (hX : oX.data = .cell (some (.int b t))) (hY : oY.data = .cell (some (.bool e))) (hb0 : -4 ≤ b) (hb1 : b ≤ 4)
   (cF : Fr base L s.heap m) (cN : News base L s.heap ((I, oI) :: (C, oC) :: (D, oD) :: (X, oX) :: (Y, oY) :: ns)) (d3 : o3.data = .cell (some (.int 1 tf))) (hfree : (L + 1 + 1 + 1, o3) ∈ ns)
   (hret : ∀ (T : Addr) (u0 : Tok) (h' : Heap) (tk' : Nat), Fr base L h' m → News base L h' ((T, LCg.lst [.int (powE b e 0) u0]) :: (I, oI) :: (C, oC) :: (D, oD) :: (X, oX) :: (Y, oY) :: ns) → (@Ne Nat T I ∧ @Ne Nat T C ∧ @Ne Nat T D ∧ @Ne Nat T X ∧ @Ne Nat T Y) → Q (.ref T) { s with heap := h', toks := tk' }) :
   wpAny (model PP w) (lawA L fa cd) (eval elt17 (compEnvC scope17 [(Str.ofString "from_end", Y), (Str.ofString "base", X), (Str.ofString "free", L + 1 + 1 + 1)] C (lawEnv L fa cd))) Q E s := by
  conv in elt17 => whnf
  conv in (occs := *) scope17 => all_goals whnf
  unfold lawA lawEnv
  conv in (occs := *) lawScope => all_goals whnf
  have cN' : News base L s.heap ((I, oI) :: (C, oC) :: (D, oD) :: (X, oX) :: (Y, oY) :: (L + 1 + 1 + 1, o3) :: ns) := news5 cN hfree
  clear cN
  cases e
  all_goals (repeat' (first | (k_unfold; (try dsimp only)) | (k_end; wrow_close) | (k_end; first | (((with_reducible show LCg.CompRest ..); with_unfolding_all first | (refine LCg.CompRest.succ ?_; intro _ _ _ _ _ _ _ _ _ _ hv' _ _ _ _ off' _; (first | lcg_open hv' | (obtain ⟨t9', hv9'⟩ := hv'; subst hv9')); have off2' := off'; (try simp only [LCg.Off3, and_true] at off2')) | refine LCg.CompRest.zero ?_)) | ((k_here; k_dflt (refine LCg.CompSrc.range (by rfl) (by k_asm) (by k_asm) (by assumption) (by first | decide | rfl) (by first | rfl | decide) (by first | size_fits | exact Nat.le_of_ble_eq_true rfl) ?_; intro _; lcg_lit))) | ((k_dflt (first | (refine compEnd_tup (by k_asm) (by k_asm) (by assumption) (by assumption) (Or.inr ⟨_, by walk_at "mem", rfl, _, rfl⟩) ?_) | refine LCg.CompEnd.intro (by assumption) (by k_asm) _ (fun p hp => hp) (by assumption) True.intro ?_ | refine LCg.CompEnd.intro (by assumption) (by k_asm) _ (fun p hp => hp) (by assumption) (Or.inr ⟨_, by assumption, rfl, _, rfl⟩) ?_ | refine LCg.CompEnd.intro (by assumption) (by k_asm) _ (fun p hp => hp) (by assumption) (Or.inr ⟨_, by walk_at "mem", rfl, _, rfl⟩) ?_)))) | ((with_reducible show wpAny _ _ (eval (PySem.Expr.ListComp _ _ _ _) _) _ _ _); (k_here; k_dflt (refine LCg.ListComp_U (F₀ := by k_asm) (by first | rfl | with_unfolding_all rfl) (by decide) (by rfl) (by decide) (by rfl) ?_))) | walk1 | (dsimp only; walk1) | (leave1; try dsimp only) | fail "no step"))
  all_goals exact hret _ _ _ _ (by assumption) (news6 (by assumption)) (by omega)
end Mine
end
section
open _root_.PySem _root_.PySem.W _root_.PySem.W.X _root_.PyProof.Rows
set_option Elab.async false
set_option maxRecDepth 100000
set_option maxHeartbeats 0
namespace Mine
local macro_rules | `(tactic| walk_at "none") => `(tactic| skip)
theorem rs59 : True := by w_top off; trivial
local macro_rules | `(tactic| k_updF) => `(tactic| first | (refine' UpdF.head ?a; (case a => (repeat (refine all_cons (by first | k_ne | omega) ?_)); first | exact all_off1 (by assumption) | exact all_off2 (by assumption) | exact all_off3 (by assumption) | exact all_off4 (by assumption) | exact all_off5 (by assumption) | exact all_off6 (by assumption) | exact all_off7 (by assumption) | (intro p hp; cases hp))) | (refine' UpdF.tail ?a ?b; (case a => first | k_ne | omega); (case b => k_updF)))
theorem s17_1 {w : World} {loose : List Str} {mean : ExcName → Option Value} {mg mb : Str → Option Value} {base : Heap} {L fa : Addr} {cd : Value} {m : Str → Option Value} {s : Shared} {Q : Flow → Shared → Prop} {E : Value → Shared → Prop}
   (cB : Below callerA base [] base) (cX : (Mine.hd.heap_39 w.params).In base) (cT : Top Mine.hd.view_39 loose mean mg mb base) (hE : PassesOwn (model PP w) (lawA L fa cd) (lawEnv L fa cd) E)
   {o1 o2 o3 o4 o5 o6 o7 : Obj} {ns : List (Addr × Obj)} (hns : ∀ p ∈ ns, (Off7 L p.1))
   {l lb lo lf ls lp : Addr} {gr : Int} {tf tg tc ts : Tok} {x0 : Form} (p0 : -4 ≤ x0.b) (q0 : x0.b ≤ 4) (hlf : (lf, formsO [x0] 1) ∈ ns) (hin : ∀ x ∈ ([x0] : List Form), x.In ns)
   (cF : Fr base L s.heap (fun y => if y = Str.ofString "strength" then some (.int 0 ts) else if y = Str.ofString "shown" then some (.ref ls) else if y = Str.ofString "forms" then some (.ref lf) else if y = Str.ofString "count" then some (.int 1 tc) else if y = Str.ofString "own" then some (.ref lo) else m y)) (cN : News base L s.heap ((L + 1 + 1 + 1 + 1 + 1 + 1 + 1, o7) :: (L + 1 + 1 + 1 + 1 + 1 + 1, o6) :: (L + 1 + 1 + 1 + 1 + 1, o5) :: (L + 1 + 1 + 1 + 1, o4) :: (L + 1 + 1 + 1, o3) :: (L + 1 + 1, o2) :: (L + 1, o1) :: ns))
   (d1 : o1.data = .cell (some (.ref l))) (d2 : o2.data = .cell (some (.ref lb))) (d3 : o3.data = .cell (some (.int 1 tf))) (d4 : o4.data = .cell (some (.int gr tg))) (d5 : o5.data = .cell (some (.ref lp)))
   (hret : ∀ (m' : Str → Option Value) (h' : Heap) (tk' : Nat) (t : Tok), Fr base L h' (fun y => if y = Str.ofString "strength" then some (.int (powE x0.b x0.e 0 * 1 + 0) t) else if y = Str.ofString "shown" then some (.ref ls) else if y = Str.ofString "forms" then some (.ref lf) else if y = Str.ofString "count" then some (.int 1 tc) else if y = Str.ofString "own" then some (.ref lo) else m' y) → News base L h' ((L + 1 + 1 + 1 + 1 + 1 + 1 + 1, o7) :: (L + 1 + 1 + 1 + 1 + 1 + 1, o6) :: (L + 1 + 1 + 1 + 1 + 1, o5) :: (L + 1 + 1 + 1 + 1, o4) :: (L + 1 + 1 + 1, o3) :: (L + 1 + 1, o2) :: (L + 1, o1) :: ns) → Q .next { s with heap := h', toks := tk' }) :
   wpAny (model PP w) (lawA L fa cd) (exec (st 17) (lawEnv L fa cd)) Q E s := by
  conv in (st 17) => whnf
  unfold lawA lawEnv
  conv in (occs := *) lawScope => all_goals whnf
  have hSf : FormS lf [x0] 1 ((L + 1 + 1 + 1 + 1 + 1 + 1 + 1, o7) :: (L + 1 + 1 + 1 + 1 + 1 + 1, o6) :: (L + 1 + 1 + 1 + 1 + 1, o5) :: (L + 1 + 1 + 1 + 1, o4) :: (L + 1 + 1 + 1, o3) :: (L + 1 + 1, o2) :: (L + 1, o1) :: ns) := formS_cons (formS_cons (formS_cons (formS_cons (formS_cons (formS_cons (formS_cons (⟨hlf, hin⟩)))))))
  have i00 := powE_ok (e := x0.e) (k := 0) p0 q0 (by decide)
  with_reducible refine wp_gen fun tk0 => ?_
  with_reducible refine letN cN ?_
  intro nz0 cN0
  clear cN
  with_reducible refine letF cF ?_
  intro mz0 cF0
  clear cF
  with_reducible refine letA ?_
  intro A0
  (repeat' (first | (k_unfold; (try dsimp only)) | (k_end; wrow_close) | (k_end; first | ((k_dflt (refine formEnd_row (by assumption) (by assumption) (by assumption) (by assumption) (by assumption) (by assumption) (by first | assumption | exact formS_cons (by assumption) | exact formS_cons (formS_cons (by assumption))) ?_))) | (((with_reducible show FormRest ..); with_unfolding_all first | (refine FormRest.cons ?_; intro _ _ _ _ _ _ _ _ _ _ _ _ _ _ _ _ _ off' ox' oy' ne'; have off2' := off'; have ox2' := ox'; have oy2' := oy'; (try simp only [LCg.Off3, and_true] at off2'); (try simp only [LCg.Off1, and_true] at ox2' oy2'); (try unfold Five at ne')) | refine FormRest.nil ?_)) | ((k_here; k_dflt (refine FormSrc.intro (by rfl) (by k_asm) (by k_asm) (by assumption) (by first | size_fits | exact Nat.le_of_ble_eq_true rfl) ?_); intro _))) | ((k_here; (with_reducible show wpAny _ _ (call (Value.ref 109) _) _ _ _); k_dflt (refine' c_perm1 (by walk_at "cx") (by walk_at "mem") (by walk_at "mem") (by assumption) rfl ?_); intro _ _ _ _ _; (try dsimp only); (try k_fold))) | ((k_here; first | ((with_reducible show wpAny _ _ (eval (PySem.Expr.ListComp _ [⟨PySem.Expr.Tuple _ _ _, _, _, _⟩] _ _) _) _ _ _); k_dflt (refine ListComp_form (_F₀ := by k_asm) (by rfl) (by intro _; rfl) (by intro _; rfl) (by rfl) (by decide) (by rfl) (by rfl) (by rfl) (by rfl) ?_)) | ((with_reducible show wpAny _ _ (eval (PySem.Expr.ListComp _ [⟨PySem.Expr.Name _ _, _, _, _⟩] _ _) _) _ _ _); k_dflt (refine' row17_1 (by assumption) (by assumption) (by assumption) ?hX ?hY ?b0 ?b1 (by assumption) (by assumption) ?d3 ?hf ?_; (case hX => assumption); (case hY => assumption); (case b0 => assumption); (case b1 => assumption); (case hf => walk_at "mem"); (case d3 => assumption)); intro _ _ _ _ _ _ _))) | walk1 | (dsimp only; walk1) | (leave1; try dsimp only) | fail "no step"))
  all_goals first
    | exact hret _ _ _ _ (Fr.put (Str.ofString "strength") (Fr.put (Str.ofString "shown") (Fr.put (Str.ofString "forms") (Fr.put (Str.ofString "count") (Fr.put (Str.ofString "own") ((by assumption)) rfl) rfl) rfl) rfl) rfl) (news_drop (by assumption) (fun p hp => by repeat (first | exact hp | refine List.Mem.tail _ ?_)))
    | trace_state
end Mine
end
section
open _root_.PySem _root_.PySem.W _root_.PySem.W.X _root_.PyProof.Rows
set_option Elab.async false
set_option maxRecDepth 100000
set_option maxHeartbeats 0
namespace Mine
theorem rs60 : True := by w_top off; trivial
local macro_rules | `(tactic| k_mem) => `(tactic| assumption)
inductive T2 (xs ys : List Value) (i : Nat) (v : Int) : Prop
  | mk (x p : Int) (tx s1 : Tok) (u1 v1 : List Value) (h1 : xs[(0 + (i : Int)).toNat]? = some (.int x tx))
    (h2 : kms_pick ys none (some (0 + (i : Int))) = u1) (h3 : kms_pick ys (some (0 + (i : Int) + 1)) none = v1) (h4 : u1 ++ v1 = [.int p s1])
    (m0 : ∀ j, IntMulOk x j) (m1 : ∀ j, IntMulOk p j) (z1 : u1.length + v1.length ≤ sizeLine) (k0 : 0 ≤ 0 + (i : Int)) (k1 : 0 + (i : Int) < 2 ^ 63) (hv : x * (p * 1 + 0) = v) : T2 xs ys i v
theorem t2 {a0 a1 b0 b1 : Int} {ta0 ta1 tb0 tb1 : Tok} (ha0 : ∀ i, IntMulOk a0 i) (ha1 : ∀ i, IntMulOk a1 i) (hb0 : ∀ i, IntMulOk b0 i) (hb1 : ∀ i, IntMulOk b1 i) :
    ∀ i, i < 2 → T2 [.int a0 ta0, .int a1 ta1] [.int b0 tb0, .int b1 tb1] i ([a0 * (b1 * 1 + 0), a1 * (b0 * 1 + 0)].getD i 0)
  | 0, _ => ⟨_, _, _, _, _, _, rfl, rfl, rfl, rfl, ha0, hb1, Nat.le_of_ble_eq_true rfl, by decide, by decide, rfl⟩
  | 1, _ => ⟨_, _, _, _, _, _, rfl, rfl, rfl, rfl, ha1, hb0, Nat.le_of_ble_eq_true rfl, by decide, by decide, rfl⟩
  | n + 2, h => absurd h (by omega)
theorem c_perm2 {w : World} {loose : List Str} {mean : ExcName → Option Value} {mg mb : Str → Option Value} {dp un : Nat} {gd : Option (List Code)} {cn : Str} {cs : Scope} {a : Addr} {ccd : Value} {cl : List (Str × Addr)} {outer : List Env} {A₀ : Around} {base h₀ : Heap} {L : Addr} {m : Str → Option Value} {news : List (Addr × Obj)} {s : Shared} {Q E : Value → Shared → Prop}
   (cx : Cx 3 w loose mean mg mb dp un cs outer A₀ base h₀ L m s.heap news) {lr : Addr} {kr : Nat} {r0 : Addr} {k0 : Nat} {a0 : Int} {ta0 : Tok} {a1 : Int} {ta1 : Tok} {r1 : Addr} {k1 : Nat} {b0 : Int} {tb0 : Tok} {b1 : Int} {tb1 : Tok} (hlr : (lr, W.listOf #[.ref r0, .ref r1] kr) ∈ news) (hr0 : (r0, W.listOf #[.int a0 ta0, .int a1 ta1] k0) ∈ news) (hr1 : (r1, W.listOf #[.int b0 tb0, .int b1 tb1] k1) ∈ news) (ha0 : ∀ i, IntMulOk a0 i) (ha1 : ∀ i, IntMulOk a1 i) (hb0 : ∀ i, IntMulOk b0 i) (hb1 : ∀ i, IntMulOk b1 i) {rr : Int} (hrr : a0 * (b1 * 1 + 0) + (a1 * (b0 * 1 + 0) + 0) = rr)
   (hret : ∀ (t' : Tok) (h' : Heap) (tk' : Nat), Fr h₀ L h' m → News h₀ L h' news → Q (.int rr t') { s with heap := h', toks := tk' }) :
  wpAny (model PP w) (ktrTop dp un gd cn cs L a ccd cl outer) (call (.ref 109) [.ref lr]) Q E s := by
  obtain ⟨cB, cF, cX, cN, cT, ck, cd, cu⟩ := cx
  refine wpAny_call ?_
  k_dflt (refine' code_defC ?k1 ?k2 ?k3 ?k4 ?k5 ?kA ?kF ?kK ?k6 ?k7 ?k8 ?k9 ?kB ?kD ?_ ?c2 ?c3 ?c4; (case kA => exact rfl); (case kF => exact rfl); (case kK => assumption); (case k1 => k_asm); (case k2 => k_asm); (case k3 => k_asm); (case k4 => k_asm); (case k5 => k_asm); (case k6 => k_is); (case k7 => k_is); (case k8 => ktr_room); (case k9 => exact BindsTo.of_eq rfl); (case kB => exact rfl); (case kD => decide +kernel); (case c2 => exact rfl); (case c3 => exact rfl); (case c4 => exact rfl); k_whole; intro g' L' h' tk' cells' FG' F' N' Y' B' X' T' l1; (try k_lt l1); k_cells Y'; (try simp only [List.cons_append, List.nil_append] at N'); (try dsimp only); (try k_lift B'); (try k_fold))
  rename Fr _ _ _ _ => Fz
  with_reducible refine letF Fz ?_
  intro mz Fy
  clear Fz
  rename News _ _ _ _ => Nz
  with_reducible refine letN Nz ?_
  intro nz0 Ny
  replace hlr : _ ∈ nz0 := .tail _ hlr
  replace hr0 : _ ∈ nz0 := .tail _ hr0
  replace hr1 : _ ∈ nz0 := .tail _ hr1
  clear Nz
  with_reducible refine wp_gen fun tk0 => ?_
  dsimp only
  (repeat' (first | (k_unfold; (try dsimp only)) | (k_end; wrow_close) | (k_end; first | ((k_dflt (first | refine compEnd_row (by assumption) (by assumption) (fun p hp => by first | exact hp | (repeat (first | exact hp | refine List.Mem.tail _ ?_))) (by assumption) (by omega) (by omega) (by omega) (Or.inr ⟨_, (by walk_at "mem"), rfl, _, rfl⟩) ?_ | refine LCg.CompEnd.intro (by assumption) (news_drop (by assumption) (fun p hp => by first | exact hp | (repeat (first | exact hp | refine List.Mem.tail _ ?_)))) _ (fun p hp => hp) (by assumption) (Or.inr ⟨_, (by walk_at "mem"), rfl, _, rfl⟩) ?_))) | (((with_reducible show LCg.CompRest ..); with_unfolding_all first | (refine LCg.CompRest.succ ?_; intro _ _ _ _ _ _ _ _ _ _ hv' _ _ _ _ off' _; (first | lcg_open hv' | (obtain ⟨t9', hv9'⟩ := hv'; subst hv9')); have off2' := off'; (try simp only [LCg.Off3, and_true] at off2')) | refine LCg.CompRest.zero ?_)) | ((k_here; k_dflt (refine LCg.CompSrc.ledger (by rfl) (by k_asm) (by k_asm) (by walk_at "mem") (by first | size_fits | exact Nat.le_of_ble_eq_true rfl) ?_; intro _; lcg_lit))) | ((k_dflt (refine CellEnd.intro (by assumption) (news_drop (by assumption) (fun p hp => by first | exact hp | (repeat (first | exact hp | refine List.Mem.tail _ ?_)))) (by assumption) (by assumption) ⟨rfl, _, congrArg (fun z => Value.int z _) hv⟩))) | (((with_reducible show CellRest ..); refine CellRest.turns 2 (fun i => [a0 * (b1 * 1 + 0), a1 * (b0 * 1 + 0)].getD i 0) ?turn ?fin; (case' turn => (intro i hi ys _ _ _ _ _ _ _ _ _ _ _ _ _ _ off' offx' _; have off2' := off'; have offx2' := offx'; (try simp only [LCg.Off3, and_true] at off2'); (try simp only [LCg.Off1, and_true] at offx2'); obtain ⟨x, p, tx, s1, u1, v1, h1, h2, h3, h4, m0, m1, z1, k0, k1, hv⟩ := t2 (ta0 := ta0) (ta1 := ta1) (tb0 := tb0) (tb1 := tb1) ha0 ha1 hb0 hb1 i hi)); (case' fin => (intro ys hys; obtain ⟨t0, t1, rfl⟩ := isInts2 hys)))) | ((k_here; k_dflt (refine CellSrc.intro (n := 2) (by rfl) (by k_asm) (by k_asm) (by assumption) (by first | decide | rfl) (by first | rfl | decide) (by first | size_fits | exact Nat.le_of_ble_eq_true rfl) ?_); intro _))) | ((k_here; (with_reducible show wpAny _ _ (subscriptTail _ (PySem.Expr.Slice _ _ none _) (Value.ref _) (Value.ref _)) _ _ _); k_dflt (refine' kms_slice_lit (by k_asm) (by k_asm) (by exact News.isList (by k_asm) (by walk_at "mem")) (by kmk_part) (by kmk_part) (by first | with_reducible assumption | kl_lit) ?_ (by with_unfolding_all rfl) (by kmk_pure) (by exact Nat.le_of_ble_eq_true rfl)); intro _ _ _ _ l1; (try k_lt l1); (try k_sweep))) | ((k_here; (with_reducible show wpAny _ _ (subscriptTail _ _ (Value.ref _) (Value.int _ _)) _ _ _); k_dflt (refine' item_litK (by exact News.isList (by k_asm) (by walk_at "mem")) (by first | with_reducible assumption | decide) (by first | with_reducible assumption | decide) (by first | with_reducible assumption | rfl) ?_))) | ((k_here; (with_reducible show wpAny _ _ (binaryOp .Add (Value.ref _) (Value.ref _)) _ _ _); k_dflt (refine' kmk_add_lit (by k_asm) (by k_asm) (by exact News.isList (by k_asm) (by walk_at "mem")) (by exact News.isList (by k_asm) (by walk_at "mem")) (by assumption) ?_ (by assumption)); intro _ _ _ _ l1; (try k_lt l1); (try k_sweep))) | ((k_here; (with_reducible show wpAny _ _ (compareOp CmpOp.Eq (Value.ref _) (Value.ref _)) _ _ _); k_dflt (first | (refine' PySem.SeqAt.eq_list_lengthsAt (News.isList (by k_asm) (by walk_at "mem")) (News.isList (by k_asm) (by walk_at "mem")) (by exact rfl) (by ktr_units) ?_) | (refine' PySem.SeqAt.eq_listAt (e := fun _ => true) (News.isList (by k_asm) (by walk_at "mem")) (News.isList (by k_asm) (by walk_at "mem")) (by exact rfl) (by ktr_units) (fun j h1 _ => absurd h1 (Nat.not_lt_zero _)) ?_)))) | ((k_here; (with_reducible show wpAny _ _ (call (Value.ref 109) _) _ _ _); k_dflt (refine' c_perm1 (by walk_at "cx") (by walk_at "mem") (by walk_at "mem") (by assumption) rfl ?_); intro _ _ _ _ _; (try dsimp only); (try k_fold))) | ((with_reducible show wpAny _ _ (binaryOp .Mult (Value.int _ _) (Value.int _ _)) _ _ _); (k_here; with_reducible refine mul_int ?_ (mul_all (by assumption)))) | ((with_reducible show wpAny _ _ (eval (PySem.Expr.ListComp _ _ _ _) _) _ _ _); (k_here; k_dflt (first | refine ListComp_cell (F₀ := by k_asm) (by rfl) (by intro _; rfl) (by intro _; rfl) (by rfl) (by decide) (by rfl) ?_ | refine LCg.ListComp_U (F₀ := by k_asm) (by rfl) (by decide) (by rfl) (by decide) (by rfl) ?_))) | walk1 | (dsimp only; walk1) | (leave1; try dsimp only) | fail "no step"))
  all_goals first
    | (subst hrr; exact hret _ _ _ (by assumption) (news_drop (by assumption) (fun p hp => by repeat (first | exact hp | refine List.Mem.tail _ ?_))))
    | trace_state
end Mine
end
section
open _root_.PySem _root_.PySem.W _root_.PySem.W.X _root_.PyProof.Rows
set_option Elab.async false
set_option maxRecDepth 100000
set_option maxHeartbeats 0
namespace Mine
local macro_rules | `(tactic| walk_at "none") => `(tactic| skip)
theorem rs61 : True := by w_top off; trivial
theorem row17_2 {w : World} {loose : List Str} {mean : ExcName → Option Value} {mg mb : Str → Option Value} {base : Heap} {L fa : Addr} {cd : Value} {m : Str → Option Value} {s : Shared} {Q : Value → Shared → Prop} {E : Value → Shared → Prop}
   (cB : Below callerA base [] base) (cX : (Mine.hd.heap_39 w.params).In base) (cT : Top Mine.hd.view_39 loose mean mg mb base)
   {o3 : Obj} {ns : List (Addr × Obj)} {I C D X Y : Addr} {oI oC oD oX oY : Obj} {b : Int} {e : Bool} {t tf : Tok} (hX : oX.data = .cell (some (.int b t))) (hY : oY.data = .cell (some (.bool e))) (hb0 : -4 ≤ b) (hb1 : b ≤ 4)
   (cF : Fr base L s.heap m) (cN : News base L s.heap ((I, oI) :: (C, oC) :: (D, oD) :: (X, oX) :: (Y, oY) :: ns)) (d3 : o3.data = .cell (some (.int 2 tf))) (hfree : (L + 1 + 1 + 1, o3) ∈ ns)
   (hret : ∀ (T : Addr) (u0 u1 : Tok) (h' : Heap) (tk' : Nat), Fr base L h' m → News base L h' ((T, LCg.lst [.int (powE b e 0) u0, .int (powE b e 1) u1]) :: (I, oI) :: (C, oC) :: (D, oD) :: (X, oX) :: (Y, oY) :: ns) → (@Ne Nat T I ∧ @Ne Nat T C ∧ @Ne Nat T D ∧ @Ne Nat T X ∧ @Ne Nat T Y) → Q (.ref T) { s with heap := h', toks := tk' }) :
   wpAny (model PP w) (lawA L fa cd) (eval elt17 (compEnvC scope17 [(Str.ofString "from_end", Y), (Str.ofString "base", X), (Str.ofString "free", L + 1 + 1 + 1)] C (lawEnv L fa cd))) Q E s := by
  conv in elt17 => whnf
  conv in (occs := *) scope17 => all_goals whnf
  unfold lawA lawEnv
  conv in (occs := *) lawScope => all_goals whnf
  have cN' : News base L s.heap ((I, oI) :: (C, oC) :: (D, oD) :: (X, oX) :: (Y, oY) :: (L + 1 + 1 + 1, o3) :: ns) := news5 cN hfree
  clear cN
  cases e
  all_goals (repeat' (first | (k_unfold; (try dsimp only)) | (k_end; wrow_close) | (k_end; first | (((with_reducible show LCg.CompRest ..); with_unfolding_all first | (refine LCg.CompRest.succ ?_; intro _ _ _ _ _ _ _ _ _ _ hv' _ _ _ _ off' _; (first | lcg_open hv' | (obtain ⟨t9', hv9'⟩ := hv'; subst hv9')); have off2' := off'; (try simp only [LCg.Off3, and_true] at off2')) | refine LCg.CompRest.zero ?_)) | ((k_here; k_dflt (refine LCg.CompSrc.range (by rfl) (by k_asm) (by k_asm) (by assumption) (by first | decide | rfl) (by first | rfl | decide) (by first | size_fits | exact Nat.le_of_ble_eq_true rfl) ?_; intro _; lcg_lit))) | ((k_dflt (first | (refine compEnd_tup (by k_asm) (by k_asm) (by assumption) (by assumption) (Or.inr ⟨_, by walk_at "mem", rfl, _, rfl⟩) ?_) | refine LCg.CompEnd.intro (by assumption) (by k_asm) _ (fun p hp => hp) (by assumption) True.intro ?_ | refine LCg.CompEnd.intro (by assumption) (by k_asm) _ (fun p hp => hp) (by assumption) (Or.inr ⟨_, by assumption, rfl, _, rfl⟩) ?_ | refine LCg.CompEnd.intro (by assumption) (by k_asm) _ (fun p hp => hp) (by assumption) (Or.inr ⟨_, by walk_at "mem", rfl, _, rfl⟩) ?_)))) | ((with_reducible show wpAny _ _ (eval (PySem.Expr.ListComp _ _ _ _) _) _ _ _); (k_here; k_dflt (refine LCg.ListComp_U (F₀ := by k_asm) (by first | rfl | with_unfolding_all rfl) (by decide) (by rfl) (by decide) (by rfl) ?_))) | walk1 | (dsimp only; walk1) | (leave1; try dsimp only) | fail "no step"))
  all_goals exact hret _ _ _ _ _ (by assumption) (news6 (by assumption)) (by omega)
end Mine
end
section
open _root_.PySem _root_.PySem.W _root_.PySem.W.X _root_.PyProof.Rows
set_option Elab.async false
set_option maxRecDepth 100000
set_option maxHeartbeats 0
namespace Mine
theorem rs62 : True := by w_top off; trivial
local macro_rules | `(tactic| k_updF) => `(tactic| first | (refine' UpdF.head ?a; (case a => (repeat (refine all_cons (by first | k_ne | omega) ?_)); first | exact all_off1 (by assumption) | exact all_off2 (by assumption) | exact all_off3 (by assumption) | exact all_off4 (by assumption) | exact all_off5 (by assumption) | exact all_off6 (by assumption) | exact all_off7 (by assumption) | (intro p hp; cases hp))) | (refine' UpdF.tail ?a ?b; (case a => first | k_ne | omega); (case b => k_updF)))
theorem s17_2 {w : World} {loose : List Str} {mean : ExcName → Option Value} {mg mb : Str → Option Value} {base : Heap} {L fa : Addr} {cd : Value} {m : Str → Option Value} {s : Shared} {Q : Flow → Shared → Prop} {E : Value → Shared → Prop}
   (cB : Below callerA base [] base) (cX : (Mine.hd.heap_39 w.params).In base) (cT : Top Mine.hd.view_39 loose mean mg mb base) (hE : PassesOwn (model PP w) (lawA L fa cd) (lawEnv L fa cd) E)
   {o1 o2 o3 o4 o5 o6 o7 : Obj} {ns : List (Addr × Obj)} (hns : ∀ p ∈ ns, (Off7 L p.1))
   {l lb lo lf ls lp : Addr} {gr : Int} {tf tg tc ts : Tok} {x0 x1 : Form} (p0 : -4 ≤ x0.b) (q0 : x0.b ≤ 4) (p1 : -4 ≤ x1.b) (q1 : x1.b ≤ 4) (hlf : (lf, formsO [x0, x1] 2) ∈ ns) (hin : ∀ x ∈ ([x0, x1] : List Form), x.In ns)
   (cF : Fr base L s.heap (fun y => if y = Str.ofString "strength" then some (.int 0 ts) else if y = Str.ofString "shown" then some (.ref ls) else if y = Str.ofString "forms" then some (.ref lf) else if y = Str.ofString "count" then some (.int 2 tc) else if y = Str.ofString "own" then some (.ref lo) else m y)) (cN : News base L s.heap ((L + 1 + 1 + 1 + 1 + 1 + 1 + 1, o7) :: (L + 1 + 1 + 1 + 1 + 1 + 1, o6) :: (L + 1 + 1 + 1 + 1 + 1, o5) :: (L + 1 + 1 + 1 + 1, o4) :: (L + 1 + 1 + 1, o3) :: (L + 1 + 1, o2) :: (L + 1, o1) :: ns))
   (d1 : o1.data = .cell (some (.ref l))) (d2 : o2.data = .cell (some (.ref lb))) (d3 : o3.data = .cell (some (.int 2 tf))) (d4 : o4.data = .cell (some (.int gr tg))) (d5 : o5.data = .cell (some (.ref lp)))
   (hret : ∀ (m' : Str → Option Value) (h' : Heap) (tk' : Nat) (t : Tok), Fr base L h' (fun y => if y = Str.ofString "strength" then some (.int (powE x0.b x0.e 0 * (powE x1.b x1.e 1 * 1 + 0) + (powE x0.b x0.e 1 * (powE x1.b x1.e 0 * 1 + 0) + 0)) t) else if y = Str.ofString "shown" then some (.ref ls) else if y = Str.ofString "forms" then some (.ref lf) else if y = Str.ofString "count" then some (.int 2 tc) else if y = Str.ofString "own" then some (.ref lo) else m' y) → News base L h' ((L + 1 + 1 + 1 + 1 + 1 + 1 + 1, o7) :: (L + 1 + 1 + 1 + 1 + 1 + 1, o6) :: (L + 1 + 1 + 1 + 1 + 1, o5) :: (L + 1 + 1 + 1 + 1, o4) :: (L + 1 + 1 + 1, o3) :: (L + 1 + 1, o2) :: (L + 1, o1) :: ns) → Q .next { s with heap := h', toks := tk' }) :
   wpAny (model PP w) (lawA L fa cd) (exec (st 17) (lawEnv L fa cd)) Q E s := by
  conv in (st 17) => whnf
  unfold lawA lawEnv
  conv in (occs := *) lawScope => all_goals whnf
  have hSf : FormS lf [x0, x1] 2 ((L + 1 + 1 + 1 + 1 + 1 + 1 + 1, o7) :: (L + 1 + 1 + 1 + 1 + 1 + 1, o6) :: (L + 1 + 1 + 1 + 1 + 1, o5) :: (L + 1 + 1 + 1 + 1, o4) :: (L + 1 + 1 + 1, o3) :: (L + 1 + 1, o2) :: (L + 1, o1) :: ns) := formS_cons (formS_cons (formS_cons (formS_cons (formS_cons (formS_cons (formS_cons (⟨hlf, hin⟩)))))))
  have i00 := powE_ok (e := x0.e) (k := 0) p0 q0 (by decide)
  have i01 := powE_ok (e := x0.e) (k := 1) p0 q0 (by decide)
  have i10 := powE_ok (e := x1.e) (k := 0) p1 q1 (by decide)
  have i11 := powE_ok (e := x1.e) (k := 1) p1 q1 (by decide)
  with_reducible refine wp_gen fun tk0 => ?_
  with_reducible refine letN cN ?_
  intro nz0 cN0
  clear cN
  with_reducible refine letF cF ?_
  intro mz0 cF0
  clear cF
  with_reducible refine letA ?_
  intro A0
  (repeat' (first | (k_unfold; (try dsimp only)) | (k_end; wrow_close) | (k_end; first | ((k_dflt (refine formEnd_row (by assumption) (by assumption) (by assumption) (by assumption) (by assumption) (by assumption) (by first | assumption | exact formS_cons (by assumption) | exact formS_cons (formS_cons (by assumption))) ?_))) | (((with_reducible show FormRest ..); with_unfolding_all first | (refine FormRest.cons ?_; intro _ _ _ _ _ _ _ _ _ _ _ _ _ _ _ _ _ off' ox' oy' ne'; have off2' := off'; have ox2' := ox'; have oy2' := oy'; (try simp only [LCg.Off3, and_true] at off2'); (try simp only [LCg.Off1, and_true] at ox2' oy2'); (try unfold Five at ne')) | refine FormRest.nil ?_)) | ((k_here; k_dflt (refine FormSrc.intro (by rfl) (by k_asm) (by k_asm) (by assumption) (by first | size_fits | exact Nat.le_of_ble_eq_true rfl) ?_); intro _))) | ((k_here; (with_reducible show wpAny _ _ (call (Value.ref 109) _) _ _ _); k_dflt (refine' c_perm2 (by walk_at "cx") (by walk_at "mem") (by walk_at "mem") (by walk_at "mem") (by assumption) (by assumption) (by assumption) (by assumption) rfl ?_); intro _ _ _ _ _; (try dsimp only); (try k_fold))) | ((k_here; first | ((with_reducible show wpAny _ _ (eval (PySem.Expr.ListComp _ [⟨PySem.Expr.Tuple _ _ _, _, _, _⟩] _ _) _) _ _ _); k_dflt (refine ListComp_form (_F₀ := by k_asm) (by rfl) (by intro _; rfl) (by intro _; rfl) (by rfl) (by decide) (by rfl) (by rfl) (by rfl) (by rfl) ?_)) | ((with_reducible show wpAny _ _ (eval (PySem.Expr.ListComp _ [⟨PySem.Expr.Name _ _, _, _, _⟩] _ _) _) _ _ _); k_dflt (refine' row17_2 (by assumption) (by assumption) (by assumption) ?hX ?hY ?b0 ?b1 (by assumption) (by assumption) ?d3 ?hf ?_; (case hX => assumption); (case hY => assumption); (case b0 => assumption); (case b1 => assumption); (case hf => walk_at "mem"); (case d3 => assumption)); intro _ _ _ _ _ _ _ _))) | walk1 | (dsimp only; walk1) | (leave1; try dsimp only) | fail "no step"))
  all_goals first
    | exact hret _ _ _ _ (Fr.put (Str.ofString "strength") (Fr.put (Str.ofString "shown") (Fr.put (Str.ofString "forms") (Fr.put (Str.ofString "count") (Fr.put (Str.ofString "own") ((by assumption)) rfl) rfl) rfl) rfl) rfl) (news_drop (by assumption) (fun p hp => by repeat (first | exact hp | refine List.Mem.tail _ ?_)))
    | trace_state
end Mine
end
section
open _root_.PySem _root_.PySem.W _root_.PySem.W.X _root_.PyProof.Rows
set_option Elab.async false
set_option maxRecDepth 100000
set_option maxHeartbeats 0
namespace Mine
local macro_rules | `(tactic| walk_at "none") => `(tactic| skip)
theorem rs63 : True := by w_top off; trivial
local macro_rules | `(tactic| k_mem) => `(tactic| assumption)
/-- what a turn of the first row's sum reads: an entry x, the parts of the two other rows beside its column, and their permanent -/
inductive T3 (xs ys zs : List Value) (i : Nat) (v : Int) : Prop
  | mk (x p1 q1 p2 q2 : Int) (tx s1 r1 s2 r2 : Tok) (u1 v1 u2 v2 : List Value) (h1 : xs[(0 + (i : Int)).toNat]? = some (.int x tx))
    (h2 : kms_pick ys none (some (0 + (i : Int))) = u1) (h3 : kms_pick ys (some (0 + (i : Int) + 1)) none = v1) (h4 : u1 ++ v1 = [.int p1 s1, .int q1 r1])
    (h5 : kms_pick zs none (some (0 + (i : Int))) = u2) (h6 : kms_pick zs (some (0 + (i : Int) + 1)) none = v2) (h7 : u2 ++ v2 = [.int p2 s2, .int q2 r2])
    (m0 : ∀ j, IntMulOk x j) (m1 : ∀ j, IntMulOk p1 j) (m2 : ∀ j, IntMulOk q1 j) (m3 : ∀ j, IntMulOk p2 j) (m4 : ∀ j, IntMulOk q2 j)
    (z1 : u1.length + v1.length ≤ sizeLine) (z2 : u2.length + v2.length ≤ sizeLine) (k0 : 0 ≤ 0 + (i : Int)) (k1 : 0 + (i : Int) < 2 ^ 63) (hv : x * (p1 * (q2 * 1 + 0) + (q1 * (p2 * 1 + 0) + 0)) = v) : T3 xs ys zs i v
theorem t3 {a0 a1 a2 b0 b1 b2 c0 c1 c2 : Int} {ta0 ta1 ta2 tb0 tb1 tb2 tc0 tc1 tc2 : Tok} (ha0 : ∀ i, IntMulOk a0 i) (ha1 : ∀ i, IntMulOk a1 i) (ha2 : ∀ i, IntMulOk a2 i) (hb0 : ∀ i, IntMulOk b0 i) (hb1 : ∀ i, IntMulOk b1 i) (hb2 : ∀ i, IntMulOk b2 i) (hc0 : ∀ i, IntMulOk c0 i) (hc1 : ∀ i, IntMulOk c1 i) (hc2 : ∀ i, IntMulOk c2 i) :
    ∀ i, i < 3 → T3 [.int a0 ta0, .int a1 ta1, .int a2 ta2] [.int b0 tb0, .int b1 tb1, .int b2 tb2] [.int c0 tc0, .int c1 tc1, .int c2 tc2] i ([a0 * (b1 * (c2 * 1 + 0) + (b2 * (c1 * 1 + 0) + 0)), a1 * (b0 * (c2 * 1 + 0) + (b2 * (c0 * 1 + 0) + 0)), a2 * (b0 * (c1 * 1 + 0) + (b1 * (c0 * 1 + 0) + 0))].getD i 0)
  | 0, _ => ⟨_, _, _, _, _, _, _, _, _, _, _, _, _, _, rfl, rfl, rfl, rfl, rfl, rfl, rfl, ha0, hb1, hb2, hc1, hc2, Nat.le_of_ble_eq_true rfl, Nat.le_of_ble_eq_true rfl, by decide, by decide, rfl⟩
  | 1, _ => ⟨_, _, _, _, _, _, _, _, _, _, _, _, _, _, rfl, rfl, rfl, rfl, rfl, rfl, rfl, ha1, hb0, hb2, hc0, hc2, Nat.le_of_ble_eq_true rfl, Nat.le_of_ble_eq_true rfl, by decide, by decide, rfl⟩
  | 2, _ => ⟨_, _, _, _, _, _, _, _, _, _, _, _, _, _, rfl, rfl, rfl, rfl, rfl, rfl, rfl, ha2, hb0, hb1, hc0, hc1, Nat.le_of_ble_eq_true rfl, Nat.le_of_ble_eq_true rfl, by decide, by decide, rfl⟩
  | n + 3, h => absurd h (by omega)
theorem c_perm3 {w : World} {loose : List Str} {mean : ExcName → Option Value} {mg mb : Str → Option Value} {dp un : Nat} {gd : Option (List Code)} {cn : Str} {cs : Scope} {a : Addr} {ccd : Value} {cl : List (Str × Addr)} {outer : List Env} {A₀ : Around} {base h₀ : Heap} {L : Addr} {m : Str → Option Value} {news : List (Addr × Obj)} {s : Shared} {Q E : Value → Shared → Prop}
   (cx : Cx 4 w loose mean mg mb dp un cs outer A₀ base h₀ L m s.heap news) {lr : Addr} {kr : Nat} {r0 : Addr} {k0 : Nat} {a0 : Int} {ta0 : Tok} {a1 : Int} {ta1 : Tok} {a2 : Int} {ta2 : Tok} {r1 : Addr} {k1 : Nat} {b0 : Int} {tb0 : Tok} {b1 : Int} {tb1 : Tok} {b2 : Int} {tb2 : Tok} {r2 : Addr} {k2 : Nat} {c0 : Int} {tc0 : Tok} {c1 : Int} {tc1 : Tok} {c2 : Int} {tc2 : Tok} (hlr : (lr, W.listOf #[.ref r0, .ref r1, .ref r2] kr) ∈ news) (hr0 : (r0, W.listOf #[.int a0 ta0, .int a1 ta1, .int a2 ta2] k0) ∈ news) (hr1 : (r1, W.listOf #[.int b0 tb0, .int b1 tb1, .int b2 tb2] k1) ∈ news) (hr2 : (r2, W.listOf #[.int c0 tc0, .int c1 tc1, .int c2 tc2] k2) ∈ news) (ha0 : ∀ i, IntMulOk a0 i) (ha1 : ∀ i, IntMulOk a1 i) (ha2 : ∀ i, IntMulOk a2 i) (hb0 : ∀ i, IntMulOk b0 i) (hb1 : ∀ i, IntMulOk b1 i) (hb2 : ∀ i, IntMulOk b2 i) (hc0 : ∀ i, IntMulOk c0 i) (hc1 : ∀ i, IntMulOk c1 i) (hc2 : ∀ i, IntMulOk c2 i) {rr : Int} (hrr : a0 * (b1 * (c2 * 1 + 0) + (b2 * (c1 * 1 + 0) + 0)) + (a1 * (b0 * (c2 * 1 + 0) + (b2 * (c0 * 1 + 0) + 0)) + (a2 * (b0 * (c1 * 1 + 0) + (b1 * (c0 * 1 + 0) + 0)) + 0)) = rr)
   (hret : ∀ (t' : Tok) (h' : Heap) (tk' : Nat), Fr h₀ L h' m → News h₀ L h' news → Q (.int rr t') { s with heap := h', toks := tk' }) :
  wpAny (model PP w) (ktrTop dp un gd cn cs L a ccd cl outer) (call (.ref 109) [.ref lr]) Q E s := by
  obtain ⟨cB, cF, cX, cN, cT, ck, cd, cu⟩ := cx
  refine wpAny_call ?_
  k_dflt (refine' code_defC ?k1 ?k2 ?k3 ?k4 ?k5 ?kA ?kF ?kK ?k6 ?k7 ?k8 ?k9 ?kB ?kD ?_ ?c2 ?c3 ?c4; (case kA => exact rfl); (case kF => exact rfl); (case kK => assumption); (case k1 => k_asm); (case k2 => k_asm); (case k3 => k_asm); (case k4 => k_asm); (case k5 => k_asm); (case k6 => k_is); (case k7 => k_is); (case k8 => ktr_room); (case k9 => exact BindsTo.of_eq rfl); (case kB => exact rfl); (case kD => decide +kernel); (case c2 => exact rfl); (case c3 => exact rfl); (case c4 => exact rfl); k_whole; intro g' L' h' tk' cells' FG' F' N' Y' B' X' T' l1; (try k_lt l1); k_cells Y'; (try simp only [List.cons_append, List.nil_append] at N'); (try dsimp only); (try k_lift B'); (try k_fold))
  rename Fr _ _ _ _ => Fz
  with_reducible refine letF Fz ?_
  intro mz Fy
  clear Fz
  rename News _ _ _ _ => Nz
  with_reducible refine letN Nz ?_
  intro nz0 Ny
  replace hlr : _ ∈ nz0 := .tail _ hlr
  replace hr0 : _ ∈ nz0 := .tail _ hr0
  replace hr1 : _ ∈ nz0 := .tail _ hr1
  replace hr2 : _ ∈ nz0 := .tail _ hr2
  clear Nz
  with_reducible refine wp_gen fun tk0 => ?_
  dsimp only
  (repeat' (first | (k_unfold; (try dsimp only)) | (k_end; wrow_close) | (k_end; first | ((k_dflt (first | refine compEnd_row (by assumption) (by assumption) (fun p hp => by first | exact hp | (repeat (first | exact hp | refine List.Mem.tail _ ?_))) (by assumption) (by omega) (by omega) (by omega) (Or.inr ⟨_, (by walk_at "mem"), rfl, _, rfl⟩) ?_ | refine LCg.CompEnd.intro (by assumption) (news_drop (by assumption) (fun p hp => by first | exact hp | (repeat (first | exact hp | refine List.Mem.tail _ ?_)))) _ (fun p hp => hp) (by assumption) (Or.inr ⟨_, (by walk_at "mem"), rfl, _, rfl⟩) ?_))) | (((with_reducible show LCg.CompRest ..); with_unfolding_all first | (refine LCg.CompRest.succ ?_; intro _ _ _ _ _ _ _ _ _ _ hv' _ _ _ _ off' _; (first | lcg_open hv' | (obtain ⟨t9', hv9'⟩ := hv'; subst hv9')); have off2' := off'; (try simp only [LCg.Off3, and_true] at off2')) | refine LCg.CompRest.zero ?_)) | ((k_here; k_dflt (refine LCg.CompSrc.ledger (by rfl) (by k_asm) (by k_asm) (by walk_at "mem") (by first | size_fits | exact Nat.le_of_ble_eq_true rfl) ?_; intro _; lcg_lit))) | ((k_dflt (refine CellEnd.intro (by assumption) (news_drop (by assumption) (fun p hp => by first | exact hp | (repeat (first | exact hp | refine List.Mem.tail _ ?_)))) (by assumption) (by assumption) ⟨rfl, _, congrArg (fun z => Value.int z _) hv⟩))) | (((with_reducible show CellRest ..); refine CellRest.turns 3 (fun i => [a0 * (b1 * (c2 * 1 + 0) + (b2 * (c1 * 1 + 0) + 0)), a1 * (b0 * (c2 * 1 + 0) + (b2 * (c0 * 1 + 0) + 0)), a2 * (b0 * (c1 * 1 + 0) + (b1 * (c0 * 1 + 0) + 0))].getD i 0) ?turn ?fin; (case' turn => (intro i hi ys _ _ _ _ _ _ _ _ _ _ _ _ _ _ off' offx' _; have off2' := off'; have offx2' := offx'; (try simp only [LCg.Off3, and_true] at off2'); (try simp only [LCg.Off1, and_true] at offx2'); obtain ⟨x, p1, q1, p2, q2, tx, s1, r1, s2, r2, u1, v1, u2, v2, h1, h2, h3, h4, h5, h6, h7, m0, m1, m2, m3, m4, z1, z2, k0, k1, hv⟩ := t3 (ta0 := ta0) (ta1 := ta1) (ta2 := ta2) (tb0 := tb0) (tb1 := tb1) (tb2 := tb2) (tc0 := tc0) (tc1 := tc1) (tc2 := tc2) ha0 ha1 ha2 hb0 hb1 hb2 hc0 hc1 hc2 i hi)); (case' fin => (intro ys hys; obtain ⟨t0, t1, t2, rfl⟩ := isInts3 hys)))) | ((k_here; k_dflt (refine CellSrc.intro (n := 3) (by rfl) (by k_asm) (by k_asm) (by assumption) (by first | decide | rfl) (by first | rfl | decide) (by first | size_fits | exact Nat.le_of_ble_eq_true rfl) ?_); intro _))) | ((k_here; (with_reducible show wpAny _ _ (subscriptTail _ (PySem.Expr.Slice _ _ none _) (Value.ref _) (Value.ref _)) _ _ _); k_dflt (refine' kms_slice_lit (by k_asm) (by k_asm) (by exact News.isList (by k_asm) (by walk_at "mem")) (by kmk_part) (by kmk_part) (by first | with_reducible assumption | kl_lit) ?_ (by with_unfolding_all rfl) (by kmk_pure) (by exact Nat.le_of_ble_eq_true rfl)); intro _ _ _ _ l1; (try k_lt l1); (try k_sweep))) | ((k_here; (with_reducible show wpAny _ _ (subscriptTail _ _ (Value.ref _) (Value.int _ _)) _ _ _); k_dflt (refine' item_litK (by exact News.isList (by k_asm) (by walk_at "mem")) (by first | with_reducible assumption | decide) (by first | with_reducible assumption | decide) (by first | with_reducible assumption | rfl) ?_))) | ((k_here; (with_reducible show wpAny _ _ (binaryOp .Add (Value.ref _) (Value.ref _)) _ _ _); k_dflt (refine' kmk_add_lit (by k_asm) (by k_asm) (by exact News.isList (by k_asm) (by walk_at "mem")) (by exact News.isList (by k_asm) (by walk_at "mem")) (by assumption) ?_ (by assumption)); intro _ _ _ _ l1; (try k_lt l1); (try k_sweep))) | ((k_here; (with_reducible show wpAny _ _ (compareOp CmpOp.Eq (Value.ref _) (Value.ref _)) _ _ _); k_dflt (first | (refine' PySem.SeqAt.eq_list_lengthsAt (News.isList (by k_asm) (by walk_at "mem")) (News.isList (by k_asm) (by walk_at "mem")) (by exact rfl) (by ktr_units) ?_) | (refine' PySem.SeqAt.eq_listAt (e := fun _ => true) (News.isList (by k_asm) (by walk_at "mem")) (News.isList (by k_asm) (by walk_at "mem")) (by exact rfl) (by ktr_units) (fun j h1 _ => absurd h1 (Nat.not_lt_zero _)) ?_)))) | ((k_here; (with_reducible show wpAny _ _ (call (Value.ref 109) _) _ _ _); k_dflt (refine' c_perm2 (by walk_at "cx") (by walk_at "mem") (by walk_at "mem") (by walk_at "mem") (by assumption) (by assumption) (by assumption) (by assumption) rfl ?_); intro _ _ _ _ _; (try dsimp only); (try k_fold))) | ((with_reducible show wpAny _ _ (binaryOp .Mult (Value.int _ _) (Value.int _ _)) _ _ _); (k_here; with_reducible refine mul_int ?_ (mul_all (by assumption)))) | ((with_reducible show wpAny _ _ (eval (PySem.Expr.ListComp _ _ _ _) _) _ _ _); (k_here; k_dflt (first | refine ListComp_cell (F₀ := by k_asm) (by rfl) (by intro _; rfl) (by intro _; rfl) (by rfl) (by decide) (by rfl) ?_ | refine LCg.ListComp_U (F₀ := by k_asm) (by rfl) (by decide) (by rfl) (by decide) (by rfl) ?_))) | walk1 | (dsimp only; walk1) | (leave1; try dsimp only) | fail "no step"))
  all_goals first
    | (subst hrr; exact hret _ _ _ (by assumption) (news_drop (by assumption) (fun p hp => by repeat (first | exact hp | refine List.Mem.tail _ ?_))))
    | trace_state
end Mine
end
section
open _root_.PySem _root_.PySem.W _root_.PySem.W.X _root_.PyProof.Rows
set_option Elab.async false
set_option maxRecDepth 100000
set_option maxHeartbeats 0
namespace Mine
theorem rs64 : True := by w_top off; trivial
theorem row17_3 {w : World} {loose : List Str} {mean : ExcName → Option Value} {mg mb : Str → Option Value} {base : Heap} {L fa : Addr} {cd : Value} {m : Str → Option Value} {s : Shared} {Q : Value → Shared → Prop} {E : Value → Shared → Prop}
   (cB : Below callerA base [] base) (cX : (Mine.hd.heap_39 w.params).In base) (cT : Top Mine.hd.view_39 loose mean mg mb base)
   {o3 : Obj} {ns : List (Addr × Obj)} {I C D X Y : Addr} {oI oC oD oX oY : Obj} {b : Int} {e : Bool} {t tf : Tok} (hX : oX.data = .cell (some (.int b t))) (hY : oY.data = .cell (some (.bool e))) (hb0 : -4 ≤ b) (hb1 : b ≤ 4)
   (cF : Fr base L s.heap m) (cN : News base L s.heap ((I, oI) :: (C, oC) :: (D, oD) :: (X, oX) :: (Y, oY) :: ns)) (d3 : o3.data = .cell (some (.int 3 tf))) (hfree : (L + 1 + 1 + 1, o3) ∈ ns)
   (hret : ∀ (T : Addr) (u0 u1 u2 : Tok) (h' : Heap) (tk' : Nat), Fr base L h' m → News base L h' ((T, LCg.lst [.int (powE b e 0) u0, .int (powE b e 1) u1, .int (powE b e 2) u2]) :: (I, oI) :: (C, oC) :: (D, oD) :: (X, oX) :: (Y, oY) :: ns) → (@Ne Nat T I ∧ @Ne Nat T C ∧ @Ne Nat T D ∧ @Ne Nat T X ∧ @Ne Nat T Y) → Q (.ref T) { s with heap := h', toks := tk' }) :
   wpAny (model PP w) (lawA L fa cd) (eval elt17 (compEnvC scope17 [(Str.ofString "from_end", Y), (Str.ofString "base", X), (Str.ofString "free", L + 1 + 1 + 1)] C (lawEnv L fa cd))) Q E s := by
  conv in elt17 => whnf
  conv in (occs := *) scope17 => all_goals whnf
  unfold lawA lawEnv
  conv in (occs := *) lawScope => all_goals whnf
  have cN' : News base L s.heap ((I, oI) :: (C, oC) :: (D, oD) :: (X, oX) :: (Y, oY) :: (L + 1 + 1 + 1, o3) :: ns) := news5 cN hfree
  clear cN
  cases e
  all_goals (repeat' (first | (k_unfold; (try dsimp only)) | (k_end; wrow_close) | (k_end; first | (((with_reducible show LCg.CompRest ..); with_unfolding_all first | (refine LCg.CompRest.succ ?_; intro _ _ _ _ _ _ _ _ _ _ hv' _ _ _ _ off' _; (first | lcg_open hv' | (obtain ⟨t9', hv9'⟩ := hv'; subst hv9')); have off2' := off'; (try simp only [LCg.Off3, and_true] at off2')) | refine LCg.CompRest.zero ?_)) | ((k_here; k_dflt (refine LCg.CompSrc.range (by rfl) (by k_asm) (by k_asm) (by assumption) (by first | decide | rfl) (by first | rfl | decide) (by first | size_fits | exact Nat.le_of_ble_eq_true rfl) ?_; intro _; lcg_lit))) | ((k_dflt (first | (refine compEnd_tup (by k_asm) (by k_asm) (by assumption) (by assumption) (Or.inr ⟨_, by walk_at "mem", rfl, _, rfl⟩) ?_) | refine LCg.CompEnd.intro (by assumption) (by k_asm) _ (fun p hp => hp) (by assumption) True.intro ?_ | refine LCg.CompEnd.intro (by assumption) (by k_asm) _ (fun p hp => hp) (by assumption) (Or.inr ⟨_, by assumption, rfl, _, rfl⟩) ?_ | refine LCg.CompEnd.intro (by assumption) (by k_asm) _ (fun p hp => hp) (by assumption) (Or.inr ⟨_, by walk_at "mem", rfl, _, rfl⟩) ?_)))) | ((with_reducible show wpAny _ _ (eval (PySem.Expr.ListComp _ _ _ _) _) _ _ _); (k_here; k_dflt (refine LCg.ListComp_U (F₀ := by k_asm) (by first | rfl | with_unfolding_all rfl) (by decide) (by rfl) (by decide) (by rfl) ?_))) | walk1 | (dsimp only; walk1) | (leave1; try dsimp only) | fail "no step"))
  all_goals exact hret _ _ _ _ _ _ (by assumption) (news6 (by assumption)) (by omega)
end Mine
end
section
open _root_.PySem _root_.PySem.W _root_.PySem.W.X _root_.PyProof.Rows
set_option Elab.async false
set_option maxRecDepth 100000
set_option maxHeartbeats 0
namespace Mine
local macro_rules | `(tactic| walk_at "none") => `(tactic| skip)
theorem rs65 : True := by w_top off; trivial
local macro_rules | `(tactic| k_updF) => `(tactic| first | (refine' UpdF.head ?a; (case a => (repeat (refine all_cons (by first | k_ne | omega) ?_)); first | exact all_off1 (by assumption) | exact all_off2 (by assumption) | exact all_off3 (by assumption) | exact all_off4 (by assumption) | exact all_off5 (by assumption) | exact all_off6 (by assumption) | exact all_off7 (by assumption) | (intro p hp; cases hp))) | (refine' UpdF.tail ?a ?b; (case a => first | k_ne | omega); (case b => k_updF)))
theorem s17_3 {w : World} {loose : List Str} {mean : ExcName → Option Value} {mg mb : Str → Option Value} {base : Heap} {L fa : Addr} {cd : Value} {m : Str → Option Value} {s : Shared} {Q : Flow → Shared → Prop} {E : Value → Shared → Prop}
   (cB : Below callerA base [] base) (cX : (Mine.hd.heap_39 w.params).In base) (cT : Top Mine.hd.view_39 loose mean mg mb base) (hE : PassesOwn (model PP w) (lawA L fa cd) (lawEnv L fa cd) E)
   {o1 o2 o3 o4 o5 o6 o7 : Obj} {ns : List (Addr × Obj)} (hns : ∀ p ∈ ns, (Off7 L p.1))
   {l lb lo lf ls lp : Addr} {gr : Int} {tf tg tc ts : Tok} {x0 x1 x2 : Form} (p0 : -4 ≤ x0.b) (q0 : x0.b ≤ 4) (p1 : -4 ≤ x1.b) (q1 : x1.b ≤ 4) (p2 : -4 ≤ x2.b) (q2 : x2.b ≤ 4) (hlf : (lf, formsO [x0, x1, x2] 3) ∈ ns) (hin : ∀ x ∈ ([x0, x1, x2] : List Form), x.In ns)
   (cF : Fr base L s.heap (fun y => if y = Str.ofString "strength" then some (.int 0 ts) else if y = Str.ofString "shown" then some (.ref ls) else if y = Str.ofString "forms" then some (.ref lf) else if y = Str.ofString "count" then some (.int 3 tc) else if y = Str.ofString "own" then some (.ref lo) else m y)) (cN : News base L s.heap ((L + 1 + 1 + 1 + 1 + 1 + 1 + 1, o7) :: (L + 1 + 1 + 1 + 1 + 1 + 1, o6) :: (L + 1 + 1 + 1 + 1 + 1, o5) :: (L + 1 + 1 + 1 + 1, o4) :: (L + 1 + 1 + 1, o3) :: (L + 1 + 1, o2) :: (L + 1, o1) :: ns))
   (d1 : o1.data = .cell (some (.ref l))) (d2 : o2.data = .cell (some (.ref lb))) (d3 : o3.data = .cell (some (.int 3 tf))) (d4 : o4.data = .cell (some (.int gr tg))) (d5 : o5.data = .cell (some (.ref lp)))
   (hret : ∀ (m' : Str → Option Value) (h' : Heap) (tk' : Nat) (t : Tok), Fr base L h' (fun y => if y = Str.ofString "strength" then some (.int (powE x0.b x0.e 0 * (powE x1.b x1.e 1 * (powE x2.b x2.e 2 * 1 + 0) + (powE x1.b x1.e 2 * (powE x2.b x2.e 1 * 1 + 0) + 0)) + (powE x0.b x0.e 1 * (powE x1.b x1.e 0 * (powE x2.b x2.e 2 * 1 + 0) + (powE x1.b x1.e 2 * (powE x2.b x2.e 0 * 1 + 0) + 0)) + (powE x0.b x0.e 2 * (powE x1.b x1.e 0 * (powE x2.b x2.e 1 * 1 + 0) + (powE x1.b x1.e 1 * (powE x2.b x2.e 0 * 1 + 0) + 0)) + 0))) t) else if y = Str.ofString "shown" then some (.ref ls) else if y = Str.ofString "forms" then some (.ref lf) else if y = Str.ofString "count" then some (.int 3 tc) else if y = Str.ofString "own" then some (.ref lo) else m' y) → News base L h' ((L + 1 + 1 + 1 + 1 + 1 + 1 + 1, o7) :: (L + 1 + 1 + 1 + 1 + 1 + 1, o6) :: (L + 1 + 1 + 1 + 1 + 1, o5) :: (L + 1 + 1 + 1 + 1, o4) :: (L + 1 + 1 + 1, o3) :: (L + 1 + 1, o2) :: (L + 1, o1) :: ns) → Q .next { s with heap := h', toks := tk' }) :
   wpAny (model PP w) (lawA L fa cd) (exec (st 17) (lawEnv L fa cd)) Q E s := by
  conv in (st 17) => whnf
  unfold lawA lawEnv
  conv in (occs := *) lawScope => all_goals whnf
  have hSf : FormS lf [x0, x1, x2] 3 ((L + 1 + 1 + 1 + 1 + 1 + 1 + 1, o7) :: (L + 1 + 1 + 1 + 1 + 1 + 1, o6) :: (L + 1 + 1 + 1 + 1 + 1, o5) :: (L + 1 + 1 + 1 + 1, o4) :: (L + 1 + 1 + 1, o3) :: (L + 1 + 1, o2) :: (L + 1, o1) :: ns) := formS_cons (formS_cons (formS_cons (formS_cons (formS_cons (formS_cons (formS_cons (⟨hlf, hin⟩)))))))
  have i00 := powE_ok (e := x0.e) (k := 0) p0 q0 (by decide)
  have i01 := powE_ok (e := x0.e) (k := 1) p0 q0 (by decide)
  have i02 := powE_ok (e := x0.e) (k := 2) p0 q0 (by decide)
  have i10 := powE_ok (e := x1.e) (k := 0) p1 q1 (by decide)
  have i11 := powE_ok (e := x1.e) (k := 1) p1 q1 (by decide)
  have i12 := powE_ok (e := x1.e) (k := 2) p1 q1 (by decide)
  have i20 := powE_ok (e := x2.e) (k := 0) p2 q2 (by decide)
  have i21 := powE_ok (e := x2.e) (k := 1) p2 q2 (by decide)
  have i22 := powE_ok (e := x2.e) (k := 2) p2 q2 (by decide)
  with_reducible refine wp_gen fun tk0 => ?_
  with_reducible refine letN cN ?_
  intro nz0 cN0
  clear cN
  with_reducible refine letF cF ?_
  intro mz0 cF0
  clear cF
  with_reducible refine letA ?_
  intro A0
  (repeat' (first | (k_unfold; (try dsimp only)) | (k_end; wrow_close) | (k_end; first | ((k_dflt (refine formEnd_row (by assumption) (by assumption) (by assumption) (by assumption) (by assumption) (by assumption) (by first | assumption | exact formS_cons (by assumption) | exact formS_cons (formS_cons (by assumption))) ?_))) | (((with_reducible show FormRest ..); with_unfolding_all first | (refine FormRest.cons ?_; intro _ _ _ _ _ _ _ _ _ _ _ _ _ _ _ _ _ off' ox' oy' ne'; have off2' := off'; have ox2' := ox'; have oy2' := oy'; (try simp only [LCg.Off3, and_true] at off2'); (try simp only [LCg.Off1, and_true] at ox2' oy2'); (try unfold Five at ne')) | refine FormRest.nil ?_)) | ((k_here; k_dflt (refine FormSrc.intro (by rfl) (by k_asm) (by k_asm) (by assumption) (by first | size_fits | exact Nat.le_of_ble_eq_true rfl) ?_); intro _))) | ((k_here; (with_reducible show wpAny _ _ (call (Value.ref 109) _) _ _ _); k_dflt (refine' c_perm3 (by walk_at "cx") (by walk_at "mem") (by walk_at "mem") (by walk_at "mem") (by walk_at "mem") (by assumption) (by assumption) (by assumption) (by assumption) (by assumption) (by assumption) (by assumption) (by assumption) (by assumption) rfl ?_); intro _ _ _ _ _; (try dsimp only); (try k_fold))) | ((k_here; first | ((with_reducible show wpAny _ _ (eval (PySem.Expr.ListComp _ [⟨PySem.Expr.Tuple _ _ _, _, _, _⟩] _ _) _) _ _ _); k_dflt (refine ListComp_form (_F₀ := by k_asm) (by rfl) (by intro _; rfl) (by intro _; rfl) (by rfl) (by decide) (by rfl) (by rfl) (by rfl) (by rfl) ?_)) | ((with_reducible show wpAny _ _ (eval (PySem.Expr.ListComp _ [⟨PySem.Expr.Name _ _, _, _, _⟩] _ _) _) _ _ _); k_dflt (refine' row17_3 (by assumption) (by assumption) (by assumption) ?hX ?hY ?b0 ?b1 (by assumption) (by assumption) ?d3 ?hf ?_; (case hX => assumption); (case hY => assumption); (case b0 => assumption); (case b1 => assumption); (case hf => walk_at "mem"); (case d3 => assumption)); intro _ _ _ _ _ _ _ _ _))) | walk1 | (dsimp only; walk1) | (leave1; try dsimp only) | fail "no step"))
  all_goals first
    | exact hret _ _ _ _ (Fr.put (Str.ofString "strength") (Fr.put (Str.ofString "shown") (Fr.put (Str.ofString "forms") (Fr.put (Str.ofString "count") (Fr.put (Str.ofString "own") ((by assumption)) rfl) rfl) rfl) rfl) rfl) (news_drop (by assumption) (fun p hp => by repeat (first | exact hp | refine List.Mem.tail _ ?_)))
    | trace_state
end Mine
end
section
open _root_.PySem _root_.PySem.W _root_.PySem.W.X _root_.PyProof.Rows
set_option Elab.async false
set_option maxRecDepth 100000
set_option maxHeartbeats 0
namespace Mine
theorem rs66 : True := by w_top off; trivial
local macro_rules | `(tactic| k_updF) => `(tactic| first | (refine' UpdF.head ?a; (case a => (repeat (refine all_cons (by first | k_ne | omega) ?_)); first | exact all_off1 (by assumption) | exact all_off2 (by assumption) | exact all_off3 (by assumption) | exact all_off4 (by assumption) | exact all_off5 (by assumption) | exact all_off6 (by assumption) | exact all_off7 (by assumption) | (intro p hp; cases hp))) | (refine' UpdF.tail ?a ?b; (case a => first | k_ne | omega); (case b => k_updF)))
theorem s17_x01 {w : World} {loose : List Str} {mean : ExcName → Option Value} {mg mb : Str → Option Value} {base : Heap} {L fa : Addr} {cd : Value} {m : Str → Option Value} {s : Shared} {Q : Flow → Shared → Prop} {E : Value → Shared → Prop}
   (cB : Below callerA base [] base) (cX : (Mine.hd.heap_39 w.params).In base) (cT : Top Mine.hd.view_39 loose mean mg mb base) (hE : PassesOwn (model PP w) (lawA L fa cd) (lawEnv L fa cd) E)
   {o1 o2 o3 o4 o5 o6 o7 : Obj} {ns : List (Addr × Obj)} (hns : ∀ p ∈ ns, (Off7 L p.1))
   {l lb lo lf ls lp : Addr} {gr : Int} {tf tg tc ts : Tok}
   (cF : Fr base L s.heap (fun y => if y = Str.ofString "strength" then some (.int 0 ts) else if y = Str.ofString "shown" then some (.ref ls) else if y = Str.ofString "forms" then some (.ref lf) else if y = Str.ofString "count" then some (.int 0 tc) else if y = Str.ofString "own" then some (.ref lo) else m y)) (cN : News base L s.heap ((L + 1 + 1 + 1 + 1 + 1 + 1 + 1, o7) :: (L + 1 + 1 + 1 + 1 + 1 + 1, o6) :: (L + 1 + 1 + 1 + 1 + 1, o5) :: (L + 1 + 1 + 1 + 1, o4) :: (L + 1 + 1 + 1, o3) :: (L + 1 + 1, o2) :: (L + 1, o1) :: ns))
   (d1 : o1.data = .cell (some (.ref l))) (d2 : o2.data = .cell (some (.ref lb))) (d3 : o3.data = .cell (some (.int 1 tf))) (d4 : o4.data = .cell (some (.int gr tg))) (d5 : o5.data = .cell (some (.ref lp)))
   (hret : ∀ (m' : Str → Option Value) (h' : Heap) (tk' : Nat) (t : Tok), Fr base L h' (fun y => if y = Str.ofString "strength" then some (.int 0 t) else if y = Str.ofString "shown" then some (.ref ls) else if y = Str.ofString "forms" then some (.ref lf) else if y = Str.ofString "count" then some (.int 0 tc) else if y = Str.ofString "own" then some (.ref lo) else m' y) → News base L h' ((L + 1 + 1 + 1 + 1 + 1 + 1 + 1, o7) :: (L + 1 + 1 + 1 + 1 + 1 + 1, o6) :: (L + 1 + 1 + 1 + 1 + 1, o5) :: (L + 1 + 1 + 1 + 1, o4) :: (L + 1 + 1 + 1, o3) :: (L + 1 + 1, o2) :: (L + 1, o1) :: ns) → Q .next { s with heap := h', toks := tk' }) :
   wpAny (model PP w) (lawA L fa cd) (exec (st 17) (lawEnv L fa cd)) Q E s := by
  conv in (st 17) => whnf
  unfold lawA lawEnv
  conv in (occs := *) lawScope => all_goals whnf
  k_steps
  all_goals first
    | exact hret _ _ _ _ (Fr.put (Str.ofString "strength") (Fr.put (Str.ofString "shown") (Fr.put (Str.ofString "forms") (Fr.put (Str.ofString "count") (Fr.put (Str.ofString "own") ((by assumption)) rfl) rfl) rfl) rfl) rfl) (by assumption)
    | trace_state
end Mine
end
section
open _root_.PySem _root_.PySem.W _root_.PySem.W.X _root_.PyProof.Rows
set_option Elab.async false
set_option maxRecDepth 100000
set_option maxHeartbeats 0
namespace Mine
local macro_rules | `(tactic| walk_at "none") => `(tactic| skip)
theorem rs67 : True := by w_top off; trivial
local macro_rules | `(tactic| k_updF) => `(tactic| first | (refine' UpdF.head ?a; (case a => (repeat (refine all_cons (by first | k_ne | omega) ?_)); first | exact all_off1 (by assumption) | exact all_off2 (by assumption) | exact all_off3 (by assumption) | exact all_off4 (by assumption) | exact all_off5 (by assumption) | exact all_off6 (by assumption) | exact all_off7 (by assumption) | (intro p hp; cases hp))) | (refine' UpdF.tail ?a ?b; (case a => first | k_ne | omega); (case b => k_updF)))
theorem s17_x02 {w : World} {loose : List Str} {mean : ExcName → Option Value} {mg mb : Str → Option Value} {base : Heap} {L fa : Addr} {cd : Value} {m : Str → Option Value} {s : Shared} {Q : Flow → Shared → Prop} {E : Value → Shared → Prop}
   (cB : Below callerA base [] base) (cX : (Mine.hd.heap_39 w.params).In base) (cT : Top Mine.hd.view_39 loose mean mg mb base) (hE : PassesOwn (model PP w) (lawA L fa cd) (lawEnv L fa cd) E)
   {o1 o2 o3 o4 o5 o6 o7 : Obj} {ns : List (Addr × Obj)} (hns : ∀ p ∈ ns, (Off7 L p.1))
   {l lb lo lf ls lp : Addr} {gr : Int} {tf tg tc ts : Tok}
   (cF : Fr base L s.heap (fun y => if y = Str.ofString "strength" then some (.int 0 ts) else if y = Str.ofString "shown" then some (.ref ls) else if y = Str.ofString "forms" then some (.ref lf) else if y = Str.ofString "count" then some (.int 0 tc) else if y = Str.ofString "own" then some (.ref lo) else m y)) (cN : News base L s.heap ((L + 1 + 1 + 1 + 1 + 1 + 1 + 1, o7) :: (L + 1 + 1 + 1 + 1 + 1 + 1, o6) :: (L + 1 + 1 + 1 + 1 + 1, o5) :: (L + 1 + 1 + 1 + 1, o4) :: (L + 1 + 1 + 1, o3) :: (L + 1 + 1, o2) :: (L + 1, o1) :: ns))
   (d1 : o1.data = .cell (some (.ref l))) (d2 : o2.data = .cell (some (.ref lb))) (d3 : o3.data = .cell (some (.int 2 tf))) (d4 : o4.data = .cell (some (.int gr tg))) (d5 : o5.data = .cell (some (.ref lp)))
   (hret : ∀ (m' : Str → Option Value) (h' : Heap) (tk' : Nat) (t : Tok), Fr base L h' (fun y => if y = Str.ofString "strength" then some (.int 0 t) else if y = Str.ofString "shown" then some (.ref ls) else if y = Str.ofString "forms" then some (.ref lf) else if y = Str.ofString "count" then some (.int 0 tc) else if y = Str.ofString "own" then some (.ref lo) else m' y) → News base L h' ((L + 1 + 1 + 1 + 1 + 1 + 1 + 1, o7) :: (L + 1 + 1 + 1 + 1 + 1 + 1, o6) :: (L + 1 + 1 + 1 + 1 + 1, o5) :: (L + 1 + 1 + 1 + 1, o4) :: (L + 1 + 1 + 1, o3) :: (L + 1 + 1, o2) :: (L + 1, o1) :: ns) → Q .next { s with heap := h', toks := tk' }) :
   wpAny (model PP w) (lawA L fa cd) (exec (st 17) (lawEnv L fa cd)) Q E s := by
  conv in (st 17) => whnf
  unfold lawA lawEnv
  conv in (occs := *) lawScope => all_goals whnf
  k_steps
  all_goals first
    | exact hret _ _ _ _ (Fr.put (Str.ofString "strength") (Fr.put (Str.ofString "shown") (Fr.put (Str.ofString "forms") (Fr.put (Str.ofString "count") (Fr.put (Str.ofString "own") ((by assumption)) rfl) rfl) rfl) rfl) rfl) (by assumption)
    | trace_state
end Mine
end
section
open _root_.PySem _root_.PySem.W _root_.PySem.W.X _root_.PyProof.Rows
set_option Elab.async false
set_option maxRecDepth 100000
set_option maxHeartbeats 0
namespace Mine
theorem rs68 : True := by w_top off; trivial
local macro_rules | `(tactic| k_updF) => `(tactic| first | (refine' UpdF.head ?a; (case a => (repeat (refine all_cons (by first | k_ne | omega) ?_)); first | exact all_off1 (by assumption) | exact all_off2 (by assumption) | exact all_off3 (by assumption) | exact all_off4 (by assumption) | exact all_off5 (by assumption) | exact all_off6 (by assumption) | exact all_off7 (by assumption) | (intro p hp; cases hp))) | (refine' UpdF.tail ?a ?b; (case a => first | k_ne | omega); (case b => k_updF)))
theorem s17_x12 {w : World} {loose : List Str} {mean : ExcName → Option Value} {mg mb : Str → Option Value} {base : Heap} {L fa : Addr} {cd : Value} {m : Str → Option Value} {s : Shared} {Q : Flow → Shared → Prop} {E : Value → Shared → Prop}
   (cB : Below callerA base [] base) (cX : (Mine.hd.heap_39 w.params).In base) (cT : Top Mine.hd.view_39 loose mean mg mb base) (hE : PassesOwn (model PP w) (lawA L fa cd) (lawEnv L fa cd) E)
   {o1 o2 o3 o4 o5 o6 o7 : Obj} {ns : List (Addr × Obj)} (hns : ∀ p ∈ ns, (Off7 L p.1))
   {l lb lo lf ls lp : Addr} {gr : Int} {tf tg tc ts : Tok}
   (cF : Fr base L s.heap (fun y => if y = Str.ofString "strength" then some (.int 0 ts) else if y = Str.ofString "shown" then some (.ref ls) else if y = Str.ofString "forms" then some (.ref lf) else if y = Str.ofString "count" then some (.int 1 tc) else if y = Str.ofString "own" then some (.ref lo) else m y)) (cN : News base L s.heap ((L + 1 + 1 + 1 + 1 + 1 + 1 + 1, o7) :: (L + 1 + 1 + 1 + 1 + 1 + 1, o6) :: (L + 1 + 1 + 1 + 1 + 1, o5) :: (L + 1 + 1 + 1 + 1, o4) :: (L + 1 + 1 + 1, o3) :: (L + 1 + 1, o2) :: (L + 1, o1) :: ns))
   (d1 : o1.data = .cell (some (.ref l))) (d2 : o2.data = .cell (some (.ref lb))) (d3 : o3.data = .cell (some (.int 2 tf))) (d4 : o4.data = .cell (some (.int gr tg))) (d5 : o5.data = .cell (some (.ref lp)))
   (hret : ∀ (m' : Str → Option Value) (h' : Heap) (tk' : Nat) (t : Tok), Fr base L h' (fun y => if y = Str.ofString "strength" then some (.int 0 t) else if y = Str.ofString "shown" then some (.ref ls) else if y = Str.ofString "forms" then some (.ref lf) else if y = Str.ofString "count" then some (.int 1 tc) else if y = Str.ofString "own" then some (.ref lo) else m' y) → News base L h' ((L + 1 + 1 + 1 + 1 + 1 + 1 + 1, o7) :: (L + 1 + 1 + 1 + 1 + 1 + 1, o6) :: (L + 1 + 1 + 1 + 1 + 1, o5) :: (L + 1 + 1 + 1 + 1, o4) :: (L + 1 + 1 + 1, o3) :: (L + 1 + 1, o2) :: (L + 1, o1) :: ns) → Q .next { s with heap := h', toks := tk' }) :
   wpAny (model PP w) (lawA L fa cd) (exec (st 17) (lawEnv L fa cd)) Q E s := by
  conv in (st 17) => whnf
  unfold lawA lawEnv
  conv in (occs := *) lawScope => all_goals whnf
  k_steps
  all_goals first
    | exact hret _ _ _ _ (Fr.put (Str.ofString "strength") (Fr.put (Str.ofString "shown") (Fr.put (Str.ofString "forms") (Fr.put (Str.ofString "count") (Fr.put (Str.ofString "own") ((by assumption)) rfl) rfl) rfl) rfl) rfl) (by assumption)
    | trace_state
end Mine
end
section
open _root_.PySem _root_.PySem.W _root_.PySem.W.X _root_.PyProof.Rows
set_option Elab.async false
set_option maxRecDepth 100000
set_option maxHeartbeats 0
namespace Mine
local macro_rules | `(tactic| walk_at "none") => `(tactic| skip)
theorem rs69 : True := by w_top off; trivial
local macro_rules | `(tactic| k_updF) => `(tactic| first | (refine' UpdF.head ?a; (case a => (repeat (refine all_cons (by first | k_ne | omega) ?_)); first | exact all_off1 (by assumption) | exact all_off2 (by assumption) | exact all_off3 (by assumption) | exact all_off4 (by assumption) | exact all_off5 (by assumption) | exact all_off6 (by assumption) | exact all_off7 (by assumption) | (intro p hp; cases hp))) | (refine' UpdF.tail ?a ?b; (case a => first | k_ne | omega); (case b => k_updF)))
theorem s17_x13 {w : World} {loose : List Str} {mean : ExcName → Option Value} {mg mb : Str → Option Value} {base : Heap} {L fa : Addr} {cd : Value} {m : Str → Option Value} {s : Shared} {Q : Flow → Shared → Prop} {E : Value → Shared → Prop}
   (cB : Below callerA base [] base) (cX : (Mine.hd.heap_39 w.params).In base) (cT : Top Mine.hd.view_39 loose mean mg mb base) (hE : PassesOwn (model PP w) (lawA L fa cd) (lawEnv L fa cd) E)
   {o1 o2 o3 o4 o5 o6 o7 : Obj} {ns : List (Addr × Obj)} (hns : ∀ p ∈ ns, (Off7 L p.1))
   {l lb lo lf ls lp : Addr} {gr : Int} {tf tg tc ts : Tok}
   (cF : Fr base L s.heap (fun y => if y = Str.ofString "strength" then some (.int 0 ts) else if y = Str.ofString "shown" then some (.ref ls) else if y = Str.ofString "forms" then some (.ref lf) else if y = Str.ofString "count" then some (.int 1 tc) else if y = Str.ofString "own" then some (.ref lo) else m y)) (cN : News base L s.heap ((L + 1 + 1 + 1 + 1 + 1 + 1 + 1, o7) :: (L + 1 + 1 + 1 + 1 + 1 + 1, o6) :: (L + 1 + 1 + 1 + 1 + 1, o5) :: (L + 1 + 1 + 1 + 1, o4) :: (L + 1 + 1 + 1, o3) :: (L + 1 + 1, o2) :: (L + 1, o1) :: ns))
   (d1 : o1.data = .cell (some (.ref l))) (d2 : o2.data = .cell (some (.ref lb))) (d3 : o3.data = .cell (some (.int 3 tf))) (d4 : o4.data = .cell (some (.int gr tg))) (d5 : o5.data = .cell (some (.ref lp)))
   (hret : ∀ (m' : Str → Option Value) (h' : Heap) (tk' : Nat) (t : Tok), Fr base L h' (fun y => if y = Str.ofString "strength" then some (.int 0 t) else if y = Str.ofString "shown" then some (.ref ls) else if y = Str.ofString "forms" then some (.ref lf) else if y = Str.ofString "count" then some (.int 1 tc) else if y = Str.ofString "own" then some (.ref lo) else m' y) → News base L h' ((L + 1 + 1 + 1 + 1 + 1 + 1 + 1, o7) :: (L + 1 + 1 + 1 + 1 + 1 + 1, o6) :: (L + 1 + 1 + 1 + 1 + 1, o5) :: (L + 1 + 1 + 1 + 1, o4) :: (L + 1 + 1 + 1, o3) :: (L + 1 + 1, o2) :: (L + 1, o1) :: ns) → Q .next { s with heap := h', toks := tk' }) :
   wpAny (model PP w) (lawA L fa cd) (exec (st 17) (lawEnv L fa cd)) Q E s := by
  conv in (st 17) => whnf
  unfold lawA lawEnv
  conv in (occs := *) lawScope => all_goals whnf
  k_steps
  all_goals first
    | exact hret _ _ _ _ (Fr.put (Str.ofString "strength") (Fr.put (Str.ofString "shown") (Fr.put (Str.ofString "forms") (Fr.put (Str.ofString "count") (Fr.put (Str.ofString "own") ((by assumption)) rfl) rfl) rfl) rfl) rfl) (by assumption)
    | trace_state
end Mine
end
section
open _root_.PySem _root_.PySem.W _root_.PySem.W.X _root_.PyProof.Rows
set_option Elab.async false
set_option maxRecDepth 100000
set_option maxHeartbeats 0
namespace Mine
theorem rs70 : True := by w_top off; trivial
local macro_rules | `(tactic| k_updF) => `(tactic| first | (refine' UpdF.head ?a; (case a => (repeat (refine all_cons (by first | k_ne | omega) ?_)); first | exact all_off1 (by assumption) | exact all_off2 (by assumption) | exact all_off3 (by assumption) | exact all_off4 (by assumption) | exact all_off5 (by assumption) | exact all_off6 (by assumption) | exact all_off7 (by assumption) | (intro p hp; cases hp))) | (refine' UpdF.tail ?a ?b; (case a => first | k_ne | omega); (case b => k_updF)))
theorem s17_x23 {w : World} {loose : List Str} {mean : ExcName → Option Value} {mg mb : Str → Option Value} {base : Heap} {L fa : Addr} {cd : Value} {m : Str → Option Value} {s : Shared} {Q : Flow → Shared → Prop} {E : Value → Shared → Prop}
   (cB : Below callerA base [] base) (cX : (Mine.hd.heap_39 w.params).In base) (cT : Top Mine.hd.view_39 loose mean mg mb base) (hE : PassesOwn (model PP w) (lawA L fa cd) (lawEnv L fa cd) E)
   {o1 o2 o3 o4 o5 o6 o7 : Obj} {ns : List (Addr × Obj)} (hns : ∀ p ∈ ns, (Off7 L p.1))
   {l lb lo lf ls lp : Addr} {gr : Int} {tf tg tc ts : Tok}
   (cF : Fr base L s.heap (fun y => if y = Str.ofString "strength" then some (.int 0 ts) else if y = Str.ofString "shown" then some (.ref ls) else if y = Str.ofString "forms" then some (.ref lf) else if y = Str.ofString "count" then some (.int 2 tc) else if y = Str.ofString "own" then some (.ref lo) else m y)) (cN : News base L s.heap ((L + 1 + 1 + 1 + 1 + 1 + 1 + 1, o7) :: (L + 1 + 1 + 1 + 1 + 1 + 1, o6) :: (L + 1 + 1 + 1 + 1 + 1, o5) :: (L + 1 + 1 + 1 + 1, o4) :: (L + 1 + 1 + 1, o3) :: (L + 1 + 1, o2) :: (L + 1, o1) :: ns))
   (d1 : o1.data = .cell (some (.ref l))) (d2 : o2.data = .cell (some (.ref lb))) (d3 : o3.data = .cell (some (.int 3 tf))) (d4 : o4.data = .cell (some (.int gr tg))) (d5 : o5.data = .cell (some (.ref lp)))
   (hret : ∀ (m' : Str → Option Value) (h' : Heap) (tk' : Nat) (t : Tok), Fr base L h' (fun y => if y = Str.ofString "strength" then some (.int 0 t) else if y = Str.ofString "shown" then some (.ref ls) else if y = Str.ofString "forms" then some (.ref lf) else if y = Str.ofString "count" then some (.int 2 tc) else if y = Str.ofString "own" then some (.ref lo) else m' y) → News base L h' ((L + 1 + 1 + 1 + 1 + 1 + 1 + 1, o7) :: (L + 1 + 1 + 1 + 1 + 1 + 1, o6) :: (L + 1 + 1 + 1 + 1 + 1, o5) :: (L + 1 + 1 + 1 + 1, o4) :: (L + 1 + 1 + 1, o3) :: (L + 1 + 1, o2) :: (L + 1, o1) :: ns) → Q .next { s with heap := h', toks := tk' }) :
   wpAny (model PP w) (lawA L fa cd) (exec (st 17) (lawEnv L fa cd)) Q E s := by
  conv in (st 17) => whnf
  unfold lawA lawEnv
  conv in (occs := *) lawScope => all_goals whnf
  k_steps
  all_goals first
    | exact hret _ _ _ _ (Fr.put (Str.ofString "strength") (Fr.put (Str.ofString "shown") (Fr.put (Str.ofString "forms") (Fr.put (Str.ofString "count") (Fr.put (Str.ofString "own") ((by assumption)) rfl) rfl) rfl) rfl) rfl) (by assumption)
    | trace_state
end Mine
end
section
open _root_.PySem _root_.PySem.W _root_.PySem.W.X _root_.PyProof.Rows
set_option Elab.async false
set_option maxRecDepth 100000
set_option maxHeartbeats 0
namespace Mine
local macro_rules | `(tactic| walk_at "none") => `(tactic| skip)
theorem rs71 : True := by w_top off; trivial
local macro_rules | `(tactic| k_updF) => `(tactic| first | (refine' UpdF.head ?a; (case a => (repeat (refine all_cons (by first | k_ne | omega) ?_)); first | exact all_off1 (by assumption) | exact all_off2 (by assumption) | exact all_off3 (by assumption) | exact all_off4 (by assumption) | exact all_off5 (by assumption) | exact all_off6 (by assumption) | exact all_off7 (by assumption) | (intro p hp; cases hp))) | (refine' UpdF.tail ?a ?b; (case a => first | k_ne | omega); (case b => k_updF)))
theorem s18_0 {w : World} {loose : List Str} {mean : ExcName → Option Value} {mg mb : Str → Option Value} {base : Heap} {L fa : Addr} {cd : Value} {m : Str → Option Value} {s : Shared} {Q : Flow → Shared → Prop} {E : Value → Shared → Prop}
   (cB : Below callerA base [] base) (cX : (Mine.hd.heap_39 w.params).In base) (cT : Top Mine.hd.view_39 loose mean mg mb base) (hE : PassesOwn (model PP w) (lawA L fa cd) (lawEnv L fa cd) E)
   {o1 o2 o3 o4 o5 o6 o7 : Obj} {ns : List (Addr × Obj)} (hns : ∀ p ∈ ns, (Off7 L p.1))
   {l lb lo lf ls lp : Addr} {gr ct sg b0 b1 b2 : Int} {tf tg tc ts u0 u1 u2 : Tok}
   (cF : Fr base L s.heap (fun y => if y = Str.ofString "strength" then some (.int sg ts) else if y = Str.ofString "shown" then some (.ref ls) else if y = Str.ofString "forms" then some (.ref lf) else if y = Str.ofString "count" then some (.int ct tc) else if y = Str.ofString "own" then some (.ref lo) else m y)) (cN : News base L s.heap ((lb, LCg.lst [.int b0 u0, .int b1 u1, .int b2 u2]) :: (L + 1 + 1 + 1 + 1 + 1 + 1 + 1, o7) :: (L + 1 + 1 + 1 + 1 + 1 + 1, o6) :: (L + 1 + 1 + 1 + 1 + 1, o5) :: (L + 1 + 1 + 1 + 1, o4) :: (L + 1 + 1 + 1, o3) :: (L + 1 + 1, o2) :: (L + 1, o1) :: ns))
   (d1 : o1.data = .cell (some (.ref l))) (d2 : o2.data = .cell (some (.ref lb))) (d3 : o3.data = .cell (some (.int 0 tf))) (d4 : o4.data = .cell (some (.int gr tg))) (d5 : o5.data = .cell (some (.ref lp)))
   (hret : ∀ (m' : Str → Option Value) (h' : Heap) (tk' : Nat) (sp : Int) (t : Tok), sp = (if sg < 0 then -sg else sg) * (if ([] : List Int).any (fun x => x == 3) then 2 else 1) → Fr base L h' (fun y => if y = Str.ofString "spread" then some (.int sp t) else if y = Str.ofString "strength" then some (.int sg ts) else if y = Str.ofString "shown" then some (.ref ls) else if y = Str.ofString "forms" then some (.ref lf) else if y = Str.ofString "count" then some (.int ct tc) else if y = Str.ofString "own" then some (.ref lo) else m' y) → News base L h' ((lb, LCg.lst [.int b0 u0, .int b1 u1, .int b2 u2]) :: (L + 1 + 1 + 1 + 1 + 1 + 1 + 1, o7) :: (L + 1 + 1 + 1 + 1 + 1 + 1, o6) :: (L + 1 + 1 + 1 + 1 + 1, o5) :: (L + 1 + 1 + 1 + 1, o4) :: (L + 1 + 1 + 1, o3) :: (L + 1 + 1, o2) :: (L + 1, o1) :: ns) → Q .next { s with heap := h', toks := tk' }) :
   wpAny (model PP w) (lawA L fa cd) (exec (st 18) (lawEnv L fa cd)) Q E s := by
  conv in (st 18) => whnf
  unfold lawA lawEnv
  conv in (occs := *) lawScope => all_goals whnf
  with_reducible refine wp_gen fun tk0 => ?_
  with_reducible refine letN cN ?_
  intro nz0 cN0
  clear cN
  with_reducible refine letF cF ?_
  intro mz0 cF0
  clear cF
  with_reducible refine letA ?_
  intro A0
  k_steps
  all_goals first
    | exact hret _ _ _ _ _ (sp_t (by assumption)) (Fr.put (Str.ofString "spread") (Fr.put (Str.ofString "strength") (Fr.put (Str.ofString "shown") (Fr.put (Str.ofString "forms") (Fr.put (Str.ofString "count") (Fr.put (Str.ofString "own") ((by assumption)) rfl) rfl) rfl) rfl) rfl) rfl) (news_drop (by assumption) (fun p hp => by repeat (first | exact hp | refine List.Mem.tail _ ?_)))
    | exact hret _ _ _ _ _ (sp_f (by assumption)) (Fr.put (Str.ofString "spread") (Fr.put (Str.ofString "strength") (Fr.put (Str.ofString "shown") (Fr.put (Str.ofString "forms") (Fr.put (Str.ofString "count") (Fr.put (Str.ofString "own") ((by assumption)) rfl) rfl) rfl) rfl) rfl) rfl) (news_drop (by assumption) (fun p hp => by repeat (first | exact hp | refine List.Mem.tail _ ?_)))
    | exact hret _ _ _ _ _ rfl (Fr.put (Str.ofString "spread") (Fr.put (Str.ofString "strength") (Fr.put (Str.ofString "shown") (Fr.put (Str.ofString "forms") (Fr.put (Str.ofString "count") (Fr.put (Str.ofString "own") ((by assumption)) rfl) rfl) rfl) rfl) rfl) rfl) (news_drop (by assumption) (fun p hp => by repeat (first | exact hp | refine List.Mem.tail _ ?_)))
    | trace_state
end Mine
end
section
open _root_.PySem _root_.PySem.W _root_.PySem.W.X _root_.PyProof.Rows
set_option Elab.async false
set_option maxRecDepth 100000
set_option maxHeartbeats 0
namespace Mine
theorem rs72 : True := by w_top off; trivial
local macro_rules | `(tactic| k_updF) => `(tactic| first | (refine' UpdF.head ?a; (case a => (repeat (refine all_cons (by first | k_ne | omega) ?_)); first | exact all_off1 (by assumption) | exact all_off2 (by assumption) | exact all_off3 (by assumption) | exact all_off4 (by assumption) | exact all_off5 (by assumption) | exact all_off6 (by assumption) | exact all_off7 (by assumption) | (intro p hp; cases hp))) | (refine' UpdF.tail ?a ?b; (case a => first | k_ne | omega); (case b => k_updF)))
theorem s18_1 {w : World} {loose : List Str} {mean : ExcName → Option Value} {mg mb : Str → Option Value} {base : Heap} {L fa : Addr} {cd : Value} {m : Str → Option Value} {s : Shared} {Q : Flow → Shared → Prop} {E : Value → Shared → Prop}
   (cB : Below callerA base [] base) (cX : (Mine.hd.heap_39 w.params).In base) (cT : Top Mine.hd.view_39 loose mean mg mb base) (hE : PassesOwn (model PP w) (lawA L fa cd) (lawEnv L fa cd) E)
   {o1 o2 o3 o4 o5 o6 o7 : Obj} {ns : List (Addr × Obj)} (hns : ∀ p ∈ ns, (Off7 L p.1))
   {l lb lo lf ls lp : Addr} {gr ct sg b0 b1 b2 : Int} {tf tg tc ts u0 u1 u2 : Tok}
   (cF : Fr base L s.heap (fun y => if y = Str.ofString "strength" then some (.int sg ts) else if y = Str.ofString "shown" then some (.ref ls) else if y = Str.ofString "forms" then some (.ref lf) else if y = Str.ofString "count" then some (.int ct tc) else if y = Str.ofString "own" then some (.ref lo) else m y)) (cN : News base L s.heap ((lb, LCg.lst [.int b0 u0, .int b1 u1, .int b2 u2]) :: (L + 1 + 1 + 1 + 1 + 1 + 1 + 1, o7) :: (L + 1 + 1 + 1 + 1 + 1 + 1, o6) :: (L + 1 + 1 + 1 + 1 + 1, o5) :: (L + 1 + 1 + 1 + 1, o4) :: (L + 1 + 1 + 1, o3) :: (L + 1 + 1, o2) :: (L + 1, o1) :: ns))
   (d1 : o1.data = .cell (some (.ref l))) (d2 : o2.data = .cell (some (.ref lb))) (d3 : o3.data = .cell (some (.int 1 tf))) (d4 : o4.data = .cell (some (.int gr tg))) (d5 : o5.data = .cell (some (.ref lp)))
   (hret : ∀ (m' : Str → Option Value) (h' : Heap) (tk' : Nat) (sp : Int) (t : Tok), sp = (if sg < 0 then -sg else sg) * (if ([b0] : List Int).any (fun x => x == 3) then 2 else 1) → Fr base L h' (fun y => if y = Str.ofString "spread" then some (.int sp t) else if y = Str.ofString "strength" then some (.int sg ts) else if y = Str.ofString "shown" then some (.ref ls) else if y = Str.ofString "forms" then some (.ref lf) else if y = Str.ofString "count" then some (.int ct tc) else if y = Str.ofString "own" then some (.ref lo) else m' y) → News base L h' ((lb, LCg.lst [.int b0 u0, .int b1 u1, .int b2 u2]) :: (L + 1 + 1 + 1 + 1 + 1 + 1 + 1, o7) :: (L + 1 + 1 + 1 + 1 + 1 + 1, o6) :: (L + 1 + 1 + 1 + 1 + 1, o5) :: (L + 1 + 1 + 1 + 1, o4) :: (L + 1 + 1 + 1, o3) :: (L + 1 + 1, o2) :: (L + 1, o1) :: ns) → Q .next { s with heap := h', toks := tk' }) :
   wpAny (model PP w) (lawA L fa cd) (exec (st 18) (lawEnv L fa cd)) Q E s := by
  conv in (st 18) => whnf
  unfold lawA lawEnv
  conv in (occs := *) lawScope => all_goals whnf
  with_reducible refine wp_gen fun tk0 => ?_
  with_reducible refine letN cN ?_
  intro nz0 cN0
  clear cN
  with_reducible refine letF cF ?_
  intro mz0 cF0
  clear cF
  with_reducible refine letA ?_
  intro A0
  k_steps
  all_goals first
    | exact hret _ _ _ _ _ (sp_t (by assumption)) (Fr.put (Str.ofString "spread") (Fr.put (Str.ofString "strength") (Fr.put (Str.ofString "shown") (Fr.put (Str.ofString "forms") (Fr.put (Str.ofString "count") (Fr.put (Str.ofString "own") ((by assumption)) rfl) rfl) rfl) rfl) rfl) rfl) (news_drop (by assumption) (fun p hp => by repeat (first | exact hp | refine List.Mem.tail _ ?_)))
    | exact hret _ _ _ _ _ (sp_f (by assumption)) (Fr.put (Str.ofString "spread") (Fr.put (Str.ofString "strength") (Fr.put (Str.ofString "shown") (Fr.put (Str.ofString "forms") (Fr.put (Str.ofString "count") (Fr.put (Str.ofString "own") ((by assumption)) rfl) rfl) rfl) rfl) rfl) rfl) (news_drop (by assumption) (fun p hp => by repeat (first | exact hp | refine List.Mem.tail _ ?_)))
    | exact hret _ _ _ _ _ rfl (Fr.put (Str.ofString "spread") (Fr.put (Str.ofString "strength") (Fr.put (Str.ofString "shown") (Fr.put (Str.ofString "forms") (Fr.put (Str.ofString "count") (Fr.put (Str.ofString "own") ((by assumption)) rfl) rfl) rfl) rfl) rfl) rfl) (news_drop (by assumption) (fun p hp => by repeat (first | exact hp | refine List.Mem.tail _ ?_)))
    | trace_state
end Mine
end
section
open _root_.PySem _root_.PySem.W _root_.PySem.W.X _root_.PyProof.Rows
set_option Elab.async false
set_option maxRecDepth 100000
set_option maxHeartbeats 0
namespace Mine
local macro_rules | `(tactic| walk_at "none") => `(tactic| skip)
theorem rs73 : True := by w_top off; trivial
local macro_rules | `(tactic| k_updF) => `(tactic| first | (refine' UpdF.head ?a; (case a => (repeat (refine all_cons (by first | k_ne | omega) ?_)); first | exact all_off1 (by assumption) | exact all_off2 (by assumption) | exact all_off3 (by assumption) | exact all_off4 (by assumption) | exact all_off5 (by assumption) | exact all_off6 (by assumption) | exact all_off7 (by assumption) | (intro p hp; cases hp))) | (refine' UpdF.tail ?a ?b; (case a => first | k_ne | omega); (case b => k_updF)))
theorem s18_2 {w : World} {loose : List Str} {mean : ExcName → Option Value} {mg mb : Str → Option Value} {base : Heap} {L fa : Addr} {cd : Value} {m : Str → Option Value} {s : Shared} {Q : Flow → Shared → Prop} {E : Value → Shared → Prop}
   (cB : Below callerA base [] base) (cX : (Mine.hd.heap_39 w.params).In base) (cT : Top Mine.hd.view_39 loose mean mg mb base) (hE : PassesOwn (model PP w) (lawA L fa cd) (lawEnv L fa cd) E)
   {o1 o2 o3 o4 o5 o6 o7 : Obj} {ns : List (Addr × Obj)} (hns : ∀ p ∈ ns, (Off7 L p.1))
   {l lb lo lf ls lp : Addr} {gr ct sg b0 b1 b2 : Int} {tf tg tc ts u0 u1 u2 : Tok}
   (cF : Fr base L s.heap (fun y => if y = Str.ofString "strength" then some (.int sg ts) else if y = Str.ofString "shown" then some (.ref ls) else if y = Str.ofString "forms" then some (.ref lf) else if y = Str.ofString "count" then some (.int ct tc) else if y = Str.ofString "own" then some (.ref lo) else m y)) (cN : News base L s.heap ((lb, LCg.lst [.int b0 u0, .int b1 u1, .int b2 u2]) :: (L + 1 + 1 + 1 + 1 + 1 + 1 + 1, o7) :: (L + 1 + 1 + 1 + 1 + 1 + 1, o6) :: (L + 1 + 1 + 1 + 1 + 1, o5) :: (L + 1 + 1 + 1 + 1, o4) :: (L + 1 + 1 + 1, o3) :: (L + 1 + 1, o2) :: (L + 1, o1) :: ns))
   (d1 : o1.data = .cell (some (.ref l))) (d2 : o2.data = .cell (some (.ref lb))) (d3 : o3.data = .cell (some (.int 2 tf))) (d4 : o4.data = .cell (some (.int gr tg))) (d5 : o5.data = .cell (some (.ref lp)))
   (hret : ∀ (m' : Str → Option Value) (h' : Heap) (tk' : Nat) (sp : Int) (t : Tok), sp = (if sg < 0 then -sg else sg) * (if ([b0, b1] : List Int).any (fun x => x == 3) then 2 else 1) → Fr base L h' (fun y => if y = Str.ofString "spread" then some (.int sp t) else if y = Str.ofString "strength" then some (.int sg ts) else if y = Str.ofString "shown" then some (.ref ls) else if y = Str.ofString "forms" then some (.ref lf) else if y = Str.ofString "count" then some (.int ct tc) else if y = Str.ofString "own" then some (.ref lo) else m' y) → News base L h' ((lb, LCg.lst [.int b0 u0, .int b1 u1, .int b2 u2]) :: (L + 1 + 1 + 1 + 1 + 1 + 1 + 1, o7) :: (L + 1 + 1 + 1 + 1 + 1 + 1, o6) :: (L + 1 + 1 + 1 + 1 + 1, o5) :: (L + 1 + 1 + 1 + 1, o4) :: (L + 1 + 1 + 1, o3) :: (L + 1 + 1, o2) :: (L + 1, o1) :: ns) → Q .next { s with heap := h', toks := tk' }) :
   wpAny (model PP w) (lawA L fa cd) (exec (st 18) (lawEnv L fa cd)) Q E s := by
  conv in (st 18) => whnf
  unfold lawA lawEnv
  conv in (occs := *) lawScope => all_goals whnf
  with_reducible refine wp_gen fun tk0 => ?_
  with_reducible refine letN cN ?_
  intro nz0 cN0
  clear cN
  with_reducible refine letF cF ?_
  intro mz0 cF0
  clear cF
  with_reducible refine letA ?_
  intro A0
  k_steps
  all_goals first
    | exact hret _ _ _ _ _ (sp_t (by assumption)) (Fr.put (Str.ofString "spread") (Fr.put (Str.ofString "strength") (Fr.put (Str.ofString "shown") (Fr.put (Str.ofString "forms") (Fr.put (Str.ofString "count") (Fr.put (Str.ofString "own") ((by assumption)) rfl) rfl) rfl) rfl) rfl) rfl) (news_drop (by assumption) (fun p hp => by repeat (first | exact hp | refine List.Mem.tail _ ?_)))
    | exact hret _ _ _ _ _ (sp_f (by assumption)) (Fr.put (Str.ofString "spread") (Fr.put (Str.ofString "strength") (Fr.put (Str.ofString "shown") (Fr.put (Str.ofString "forms") (Fr.put (Str.ofString "count") (Fr.put (Str.ofString "own") ((by assumption)) rfl) rfl) rfl) rfl) rfl) rfl) (news_drop (by assumption) (fun p hp => by repeat (first | exact hp | refine List.Mem.tail _ ?_)))
    | exact hret _ _ _ _ _ rfl (Fr.put (Str.ofString "spread") (Fr.put (Str.ofString "strength") (Fr.put (Str.ofString "shown") (Fr.put (Str.ofString "forms") (Fr.put (Str.ofString "count") (Fr.put (Str.ofString "own") ((by assumption)) rfl) rfl) rfl) rfl) rfl) rfl) (news_drop (by assumption) (fun p hp => by repeat (first | exact hp | refine List.Mem.tail _ ?_)))
    | trace_state
end Mine
end
section
open _root_.PySem _root_.PySem.W _root_.PySem.W.X _root_.PyProof.Rows
set_option Elab.async false
set_option maxRecDepth 100000
set_option maxHeartbeats 0
namespace Mine
theorem rs74 : True := by w_top off; trivial
local macro_rules | `(tactic| k_updF) => `(tactic| first | (refine' UpdF.head ?a; (case a => (repeat (refine all_cons (by first | k_ne | omega) ?_)); first | exact all_off1 (by assumption) | exact all_off2 (by assumption) | exact all_off3 (by assumption) | exact all_off4 (by assumption) | exact all_off5 (by assumption) | exact all_off6 (by assumption) | exact all_off7 (by assumption) | (intro p hp; cases hp))) | (refine' UpdF.tail ?a ?b; (case a => first | k_ne | omega); (case b => k_updF)))
theorem s18_3 {w : World} {loose : List Str} {mean : ExcName → Option Value} {mg mb : Str → Option Value} {base : Heap} {L fa : Addr} {cd : Value} {m : Str → Option Value} {s : Shared} {Q : Flow → Shared → Prop} {E : Value → Shared → Prop}
   (cB : Below callerA base [] base) (cX : (Mine.hd.heap_39 w.params).In base) (cT : Top Mine.hd.view_39 loose mean mg mb base) (hE : PassesOwn (model PP w) (lawA L fa cd) (lawEnv L fa cd) E)
   {o1 o2 o3 o4 o5 o6 o7 : Obj} {ns : List (Addr × Obj)} (hns : ∀ p ∈ ns, (Off7 L p.1))
   {l lb lo lf ls lp : Addr} {gr ct sg b0 b1 b2 : Int} {tf tg tc ts u0 u1 u2 : Tok}
   (cF : Fr base L s.heap (fun y => if y = Str.ofString "strength" then some (.int sg ts) else if y = Str.ofString "shown" then some (.ref ls) else if y = Str.ofString "forms" then some (.ref lf) else if y = Str.ofString "count" then some (.int ct tc) else if y = Str.ofString "own" then some (.ref lo) else m y)) (cN : News base L s.heap ((lb, LCg.lst [.int b0 u0, .int b1 u1, .int b2 u2]) :: (L + 1 + 1 + 1 + 1 + 1 + 1 + 1, o7) :: (L + 1 + 1 + 1 + 1 + 1 + 1, o6) :: (L + 1 + 1 + 1 + 1 + 1, o5) :: (L + 1 + 1 + 1 + 1, o4) :: (L + 1 + 1 + 1, o3) :: (L + 1 + 1, o2) :: (L + 1, o1) :: ns))
   (d1 : o1.data = .cell (some (.ref l))) (d2 : o2.data = .cell (some (.ref lb))) (d3 : o3.data = .cell (some (.int 3 tf))) (d4 : o4.data = .cell (some (.int gr tg))) (d5 : o5.data = .cell (some (.ref lp)))
   (hret : ∀ (m' : Str → Option Value) (h' : Heap) (tk' : Nat) (sp : Int) (t : Tok), sp = (if sg < 0 then -sg else sg) * (if ([b0, b1, b2] : List Int).any (fun x => x == 3) then 2 else 1) → Fr base L h' (fun y => if y = Str.ofString "spread" then some (.int sp t) else if y = Str.ofString "strength" then some (.int sg ts) else if y = Str.ofString "shown" then some (.ref ls) else if y = Str.ofString "forms" then some (.ref lf) else if y = Str.ofString "count" then some (.int ct tc) else if y = Str.ofString "own" then some (.ref lo) else m' y) → News base L h' ((lb, LCg.lst [.int b0 u0, .int b1 u1, .int b2 u2]) :: (L + 1 + 1 + 1 + 1 + 1 + 1 + 1, o7) :: (L + 1 + 1 + 1 + 1 + 1 + 1, o6) :: (L + 1 + 1 + 1 + 1 + 1, o5) :: (L + 1 + 1 + 1 + 1, o4) :: (L + 1 + 1 + 1, o3) :: (L + 1 + 1, o2) :: (L + 1, o1) :: ns) → Q .next { s with heap := h', toks := tk' }) :
   wpAny (model PP w) (lawA L fa cd) (exec (st 18) (lawEnv L fa cd)) Q E s := by
  conv in (st 18) => whnf
  unfold lawA lawEnv
  conv in (occs := *) lawScope => all_goals whnf
  with_reducible refine wp_gen fun tk0 => ?_
  with_reducible refine letN cN ?_
  intro nz0 cN0
  clear cN
  with_reducible refine letF cF ?_
  intro mz0 cF0
  clear cF
  with_reducible refine letA ?_
  intro A0
  k_steps
  all_goals first
    | exact hret _ _ _ _ _ (sp_t (by assumption)) (Fr.put (Str.ofString "spread") (Fr.put (Str.ofString "strength") (Fr.put (Str.ofString "shown") (Fr.put (Str.ofString "forms") (Fr.put (Str.ofString "count") (Fr.put (Str.ofString "own") ((by assumption)) rfl) rfl) rfl) rfl) rfl) rfl) (news_drop (by assumption) (fun p hp => by repeat (first | exact hp | refine List.Mem.tail _ ?_)))
    | exact hret _ _ _ _ _ (sp_f (by assumption)) (Fr.put (Str.ofString "spread") (Fr.put (Str.ofString "strength") (Fr.put (Str.ofString "shown") (Fr.put (Str.ofString "forms") (Fr.put (Str.ofString "count") (Fr.put (Str.ofString "own") ((by assumption)) rfl) rfl) rfl) rfl) rfl) rfl) (news_drop (by assumption) (fun p hp => by repeat (first | exact hp | refine List.Mem.tail _ ?_)))
    | exact hret _ _ _ _ _ rfl (Fr.put (Str.ofString "spread") (Fr.put (Str.ofString "strength") (Fr.put (Str.ofString "shown") (Fr.put (Str.ofString "forms") (Fr.put (Str.ofString "count") (Fr.put (Str.ofString "own") ((by assumption)) rfl) rfl) rfl) rfl) rfl) rfl) (news_drop (by assumption) (fun p hp => by repeat (first | exact hp | refine List.Mem.tail _ ?_)))
    | trace_state
end Mine
end
section
open _root_.PySem _root_.PySem.W _root_.PySem.W.X _root_.PyProof.Rows
set_option Elab.async false
set_option maxRecDepth 100000
set_option maxHeartbeats 0
namespace Mine
local macro_rules | `(tactic| walk_at "none") => `(tactic| skip)
theorem rs75 : True := by w_top off; trivial
theorem j17 {w : World} {loose : List Str} {mean : ExcName → Option Value} {mg mb : Str → Option Value} {base : Heap} {L fa : Addr} {cd : Value} {m : Str → Option Value} {s : Shared} {Q : Flow → Shared → Prop} {E : Value → Shared → Prop}
   (cB : Below callerA base [] base) (cX : (Mine.hd.heap_39 w.params).In base) (cT : Top Mine.hd.view_39 loose mean mg mb base) (hE : PassesOwn (model PP w) (lawA L fa cd) (lawEnv L fa cd) E)
   {o1 o2 o3 o4 o5 o6 o7 : Obj} {ns : List (Addr × Obj)} (hns : ∀ p ∈ ns, (Off7 L p.1))
   {l lb lo lf ls lp : Addr} {fr gr ct : Int} {tf tg tc ts : Tok} {fs : List Form} (f0 : 0 ≤ fr) (f1 : fr ≤ 3) (hct : ct = (fs.length : Int)) (hn : ct ≤ fr) (hm : fr ≤ ct + 2) (hbd : ∀ x ∈ fs, (-4 ≤ x.b ∧ x.b ≤ 4) ∧ (-7 ≤ x.f ∧ x.f ≤ 7)) (hlf : (lf, formsO fs fs.length) ∈ ns) (hin : ∀ x ∈ fs, x.In ns)
   (cF : Fr base L s.heap (fun y => if y = Str.ofString "strength" then some (.int 0 ts) else if y = Str.ofString "shown" then some (.ref ls) else if y = Str.ofString "forms" then some (.ref lf) else if y = Str.ofString "count" then some (.int ct tc) else if y = Str.ofString "own" then some (.ref lo) else m y)) (cN : News base L s.heap ((L + 1 + 1 + 1 + 1 + 1 + 1 + 1, o7) :: (L + 1 + 1 + 1 + 1 + 1 + 1, o6) :: (L + 1 + 1 + 1 + 1 + 1, o5) :: (L + 1 + 1 + 1 + 1, o4) :: (L + 1 + 1 + 1, o3) :: (L + 1 + 1, o2) :: (L + 1, o1) :: ns))
   (d1 : o1.data = .cell (some (.ref l))) (d2 : o2.data = .cell (some (.ref lb))) (d3 : o3.data = .cell (some (.int fr tf))) (d4 : o4.data = .cell (some (.int gr tg))) (d5 : o5.data = .cell (some (.ref lp)))
   (hret : ∀ (m' : Str → Option Value) (h' : Heap) (tk' : Nat) (t : Tok), Fr base L h' (fun y => if y = Str.ofString "strength" then some (.int (sgF fr fs) t) else if y = Str.ofString "shown" then some (.ref ls) else if y = Str.ofString "forms" then some (.ref lf) else if y = Str.ofString "count" then some (.int ct tc) else if y = Str.ofString "own" then some (.ref lo) else m' y) → News base L h' ((L + 1 + 1 + 1 + 1 + 1 + 1 + 1, o7) :: (L + 1 + 1 + 1 + 1 + 1 + 1, o6) :: (L + 1 + 1 + 1 + 1 + 1, o5) :: (L + 1 + 1 + 1 + 1, o4) :: (L + 1 + 1 + 1, o3) :: (L + 1 + 1, o2) :: (L + 1, o1) :: ns) → Q .next { s with heap := h', toks := tk' }) :
   wpAny (model PP w) (lawA L fa cd) (exec (st 17) (lawEnv L fa cd)) Q E s := by
  by_cases he : ct = fr
  · have hsg : sgF fr fs = permF fs := by unfold sgF; rw [if_pos (hct ▸ he)]
    rw [hsg] at hret
    subst he
    match fs, hct, hbd, hlf, hin with
    | [], hct, hbd, hlf, hin =>
      have hct : ct = 0 := hct
      subst hct
      exact s17_0 cB cX cT hE hns  hlf hin cF cN d1 d2 d3 d4 d5 hret
    | [x0], hct, hbd, hlf, hin =>
      have hct : ct = 1 := hct
      subst hct
      exact s17_1 cB cX cT hE hns (hbd x0 (.head _)).1.1 (hbd x0 (.head _)).1.2 hlf hin cF cN d1 d2 d3 d4 d5 hret
    | [x0, x1], hct, hbd, hlf, hin =>
      have hct : ct = 2 := hct
      subst hct
      exact s17_2 cB cX cT hE hns (hbd x0 (.head _)).1.1 (hbd x0 (.head _)).1.2 (hbd x1 (.tail _ (.head _))).1.1 (hbd x1 (.tail _ (.head _))).1.2 hlf hin cF cN d1 d2 d3 d4 d5 hret
    | [x0, x1, x2], hct, hbd, hlf, hin =>
      have hct : ct = 3 := hct
      subst hct
      exact s17_3 cB cX cT hE hns (hbd x0 (.head _)).1.1 (hbd x0 (.head _)).1.2 (hbd x1 (.tail _ (.head _))).1.1 (hbd x1 (.tail _ (.head _))).1.2 (hbd x2 (.tail _ (.tail _ (.head _)))).1.1 (hbd x2 (.tail _ (.tail _ (.head _)))).1.2 hlf hin cF cN d1 d2 d3 d4 d5 hret
    | _ :: _ :: _ :: _ :: _, hct, _, _, _ => simp only [List.length_cons] at hct; omega
  · have hsg : sgF fr fs = 0 := by unfold sgF; rw [if_neg (hct ▸ he)]
    rw [hsg] at hret
    have hc0 : 0 ≤ ct := by omega
    have hc : (ct = 0 ∧ fr = 1) ∨ (ct = 0 ∧ fr = 2) ∨ (ct = 1 ∧ fr = 2) ∨ (ct = 1 ∧ fr = 3) ∨ (ct = 2 ∧ fr = 3) := by omega
    clear hct hn hm he hc0 f0 f1 hlf hin hbd
    rcases hc with ⟨rfl, rfl⟩ | ⟨rfl, rfl⟩ | ⟨rfl, rfl⟩ | ⟨rfl, rfl⟩ | ⟨rfl, rfl⟩
    · exact s17_x01 cB cX cT hE hns cF cN d1 d2 d3 d4 d5 hret
    · exact s17_x02 cB cX cT hE hns cF cN d1 d2 d3 d4 d5 hret
    · exact s17_x12 cB cX cT hE hns cF cN d1 d2 d3 d4 d5 hret
    · exact s17_x13 cB cX cT hE hns cF cN d1 d2 d3 d4 d5 hret
    · exact s17_x23 cB cX cT hE hns cF cN d1 d2 d3 d4 d5 hret
theorem j18 {w : World} {loose : List Str} {mean : ExcName → Option Value} {mg mb : Str → Option Value} {base : Heap} {L fa : Addr} {cd : Value} {m : Str → Option Value} {s : Shared} {Q : Flow → Shared → Prop} {E : Value → Shared → Prop}
   (cB : Below callerA base [] base) (cX : (Mine.hd.heap_39 w.params).In base) (cT : Top Mine.hd.view_39 loose mean mg mb base) (hE : PassesOwn (model PP w) (lawA L fa cd) (lawEnv L fa cd) E)
   {o1 o2 o3 o4 o5 o6 o7 : Obj} {ns : List (Addr × Obj)} (hns : ∀ p ∈ ns, (Off7 L p.1))
   {l lb lo lf ls lp : Addr} {fr gr ct sg b0 b1 b2 : Int} {tf tg tc ts u0 u1 u2 : Tok} (f0 : 0 ≤ fr) (f1 : fr ≤ 3)
   (cF : Fr base L s.heap (fun y => if y = Str.ofString "strength" then some (.int sg ts) else if y = Str.ofString "shown" then some (.ref ls) else if y = Str.ofString "forms" then some (.ref lf) else if y = Str.ofString "count" then some (.int ct tc) else if y = Str.ofString "own" then some (.ref lo) else m y)) (cN : News base L s.heap ((lb, LCg.lst [.int b0 u0, .int b1 u1, .int b2 u2]) :: (L + 1 + 1 + 1 + 1 + 1 + 1 + 1, o7) :: (L + 1 + 1 + 1 + 1 + 1 + 1, o6) :: (L + 1 + 1 + 1 + 1 + 1, o5) :: (L + 1 + 1 + 1 + 1, o4) :: (L + 1 + 1 + 1, o3) :: (L + 1 + 1, o2) :: (L + 1, o1) :: ns))
   (d1 : o1.data = .cell (some (.ref l))) (d2 : o2.data = .cell (some (.ref lb))) (d3 : o3.data = .cell (some (.int fr tf))) (d4 : o4.data = .cell (some (.int gr tg))) (d5 : o5.data = .cell (some (.ref lp)))
   (hret : ∀ (m' : Str → Option Value) (h' : Heap) (tk' : Nat) (sp : Int) (t : Tok), sp = (if sg < 0 then -sg else sg) * (if (List.take fr.toNat [b0, b1, b2]).any (fun x => x == 3) then 2 else 1) → Fr base L h' (fun y => if y = Str.ofString "spread" then some (.int sp t) else if y = Str.ofString "strength" then some (.int sg ts) else if y = Str.ofString "shown" then some (.ref ls) else if y = Str.ofString "forms" then some (.ref lf) else if y = Str.ofString "count" then some (.int ct tc) else if y = Str.ofString "own" then some (.ref lo) else m' y) → News base L h' ((lb, LCg.lst [.int b0 u0, .int b1 u1, .int b2 u2]) :: (L + 1 + 1 + 1 + 1 + 1 + 1 + 1, o7) :: (L + 1 + 1 + 1 + 1 + 1 + 1, o6) :: (L + 1 + 1 + 1 + 1 + 1, o5) :: (L + 1 + 1 + 1 + 1, o4) :: (L + 1 + 1 + 1, o3) :: (L + 1 + 1, o2) :: (L + 1, o1) :: ns) → Q .next { s with heap := h', toks := tk' }) :
   wpAny (model PP w) (lawA L fa cd) (exec (st 18) (lawEnv L fa cd)) Q E s := by
  have hf : fr = 0 ∨ fr = 1 ∨ fr = 2 ∨ fr = 3 := by omega
  clear f0 f1
  rcases hf with rfl | rfl | rfl | rfl
  · exact s18_0 cB cX cT hE hns cF cN d1 d2 d3 d4 d5 hret
  · exact s18_1 cB cX cT hE hns cF cN d1 d2 d3 d4 d5 hret
  · exact s18_2 cB cX cT hE hns cF cN d1 d2 d3 d4 d5 hret
  · exact s18_3 cB cX cT hE hns cF cN d1 d2 d3 d4 d5 hret
end Mine
end
section
open _root_.PySem _root_.PySem.W _root_.PySem.W.X _root_.PyProof.Rows
set_option Elab.async false
set_option maxRecDepth 100000
set_option maxHeartbeats 0
namespace Mine
local macro_rules | `(tactic| walk_at "none") => `(tactic| skip)
local macro_rules | `(tactic| walk_at "none") => `(tactic| skip)
theorem rs76 : True := by w_top off; trivial
theorem UnrEndW.go2 {h₀ : Heap} {L I : Addr} {o o' : Obj} {rest : (Str → Option Value) → List (Addr × Obj) → Prop} {s₁ : Shared} {h' : Heap} {tk : Nat} {m' : Str → Option Value} {news' : List (Addr × Obj)} (F : Fr h₀ L h' m') (N : News h₀ L h' ((I + 1, o') :: (I, o) :: news'))
    (hlt : ∀ p ∈ news', p.1 < I) (r : rest m' news') : UnrEndW h₀ L s₁ [(I + 1, o'), (I, o)] rest { s₁ with heap := h', toks := tk } :=
  ⟨h', tk, m', news', rfl, F, N, fun p hp q hq => by
    have h := hlt p hp
    rcases List.mem_cons.mp hq with rfl | hq
    · exact Nat.ne_of_lt (Nat.lt_succ_of_lt h)
    · rw [List.mem_singleton.mp hq]; exact Nat.ne_of_lt h, r⟩
theorem upd_in {d : Addr} {o o' : Obj} {a b c : Addr × Obj} {r : List (Addr × Obj)} (ha : a.1 ≠ d) (hb : b.1 ≠ d) (hc : c.1 ≠ d) (hr : ∀ p ∈ r, p.1 ≠ d) : Upd d o o' (a :: b :: c :: (d, o) :: r) (a :: b :: c :: (d, o') :: r) := .tail ha (.tail hb (.tail hc (.head hr)))
theorem fmod_nn {x c : Int} (hc : 0 < c) : 0 ≤ x.fmod c ∧ x.fmod c < c := by
  rw [Int.fmod_eq_emod_of_nonneg _ (Int.le_of_lt hc)]
  exact ⟨Int.emod_nonneg _ (Int.ne_of_gt hc), Int.emod_lt_of_pos _ hc⟩
theorem getD_nn {ks : List Int} (h : ∀ k ∈ ks, 0 ≤ k) (j : Nat) : 0 ≤ ks.getD j 0 := by
  rw [List.getD_eq_getElem?_getD]
  cases e : ks[j]? with
  | none => exact Int.le_refl _
  | some v => exact h v (List.mem_of_getElem? e)
theorem set_nn {ks : List Int} {v : Int} (h : ∀ k ∈ ks, 0 ≤ k) (hv : 0 ≤ v) (j : Nat) : ∀ k ∈ ks.set j v, 0 ≤ k := by
  intro k hk
  rcases List.mem_or_eq_of_mem_set hk with hk | rfl
  · exact h k hk
  · exact hv
theorem lt_ls {I ls : Addr} {so o o' : Obj} {l : Addr} {r : List (Addr × Obj)} (h : ∀ p ∈ (ls, so) :: (l, o) :: r, p.1 < I) : ∀ p ∈ (ls, so) :: (l, o') :: r, p.1 < I := by
  intro p hp
  rcases List.mem_cons.mp hp with rfl | hp
  · exact h _ (.head _)
  rcases List.mem_cons.mp hp with rfl | hp
  · exact h (l, o) (.tail _ (.head _))
  · exact h p (.tail _ (.tail _ hp))
local macro_rules | `(tactic| walk_at "UnrEndW") => `(tactic| (refine Halt.go ?_))
theorem loop1 {w : World} {loose : List Str} {mean : ExcName → Option Value} {mg mb : Str → Option Value} {base : Heap} {L fa : Addr} {cd : Value} {E : Value → Shared → Prop} {Q : Flow → Shared → Prop}
   (cB : Below callerA base [] base) (cX : (Mine.hd.heap_39 w.params).In base) (cT : Top Mine.hd.view_39 loose mean mg mb base) (hE : PassesOwn (model PP w) (lawA L fa cd) (lawEnv L fa cd) E)
   {s : Shared} {I l ls : Addr} {so : Obj} {n : Nat} {o1 o2 o3 o4 o5 o6 o7 : Obj} {ns : List (Addr × Obj)}
   (hl : (Off7 L l)) (hls : @Ne Nat ls l) (hnl : ∀ p ∈ ns, p.1 ≠ l) (hIl : @Ne Nat I l) (hI1l : @Ne Nat (I + 1) l) (d1 : o1.data = .cell (some (.ref l)))
   : ∀ (ws : List Value) (xs : List Int) (j : Nat) (m : Str → Option Value) (vs : List Value) (ks : List Int), IntsAre ws xs → IntsAre vs ks → ks.length = 6 → (∀ k ∈ ks, 0 ≤ k) → (∀ p ∈ (ls, so) :: (l, listOf vs.toArray n) :: (L + 1 + 1 + 1 + 1 + 1 + 1 + 1, o7) :: (L + 1 + 1 + 1 + 1 + 1 + 1, o6) :: (L + 1 + 1 + 1 + 1 + 1, o5) :: (L + 1 + 1 + 1 + 1, o4) :: (L + 1 + 1 + 1, o3) :: (L + 1 + 1, o2) :: (L + 1, o1) :: ns, p.1 < I) →
   (∀ (m' : Str → Option Value) (h' : Heap) (tk' : Nat) (vs : List Value) (ks' : List Int), IntsAre vs ks' → ks'.length = 6 → (∀ k ∈ ks', 0 ≤ k) → Fr base L h' m' → News base L h' ((l, listOf vs.toArray n) :: (L + 1 + 1 + 1 + 1 + 1 + 1 + 1, o7) :: (L + 1 + 1 + 1 + 1 + 1 + 1, o6) :: (L + 1 + 1 + 1 + 1 + 1, o5) :: (L + 1 + 1 + 1 + 1, o4) :: (L + 1 + 1 + 1, o3) :: (L + 1 + 1, o2) :: (L + 1, o1) :: ns) → Q .next { s with heap := h', toks := tk' }) →
   ItemsRest PP w (lawA L fa cd) E base (lawEnv L fa cd) (forTarget (st 1)) (forBody (st 1)) Q s [(I + 1, "enumerate"), (I, "list_iterator")] [(ls, so)] (enumItems j ws) m ((ls, so) :: (l, listOf vs.toArray n) :: (L + 1 + 1 + 1 + 1 + 1 + 1 + 1, o7) :: (L + 1 + 1 + 1 + 1 + 1 + 1, o6) :: (L + 1 + 1 + 1 + 1 + 1, o5) :: (L + 1 + 1 + 1 + 1, o4) :: (L + 1 + 1 + 1, o3) :: (L + 1 + 1, o2) :: (L + 1, o1) :: ns) := by
  intro ws
  induction ws with
  | nil =>
    intro xs j m vs ks hws hvs hk6 hk0 hlt hQ
    exact fun h tk F N => hQ m h tk vs ks hvs hk6 hk0 F (news_drop N fun p hp => .tail _ hp)
  | cons v ws ih =>
    intro xs j m vs ks hws hvs hk6 hk0 hlt hQ
    cases hws with
    | cons x tx hws =>
    rename_i xs
    refine ItemsRest.pair fun T t h9 k9 hT F9 => AllObj.cons fun oe hce => AllObj.cons fun oi hci => AllObj.nil fun N9 => ?_
    simp only [List.cons_append, List.nil_append] at N9
    obtain ⟨ta, hta⟩ : ∃ x, x = forTarget (st 1) := ⟨_, rfl⟩
    obtain ⟨tb, htb⟩ : ∃ x, x = forBody (st 1) := ⟨_, rfl⟩
    obtain ⟨sc, hsc⟩ : ∃ x, x = lawScope := ⟨_, rfl⟩
    unfold lawA lawEnv
    rw [← hta, ← htb, ← hsc]
    conv at hta => rhs; whnf
    conv at htb => rhs; whnf
    conv at hsc => rhs; whnf
    subst hta htb hsc
    obtain ⟨q0, q1⟩ := fmod_nn (x := (j : Int)) (c := 6) (by decide)
    have q2 : (j : Int).fmod 6 < (ks.length : Int) := by rw [hk6]; exact q1
    have q3 : (j : Int).fmod 6 < 2 ^ 63 := by omega
    have q4 := (fmod_nn (x := x) (c := 1000007) (by decide)).1
    have hIl' : ((I + 1, oe) : Addr × Obj).1 ≠ l := hI1l
    have hIl2 : ((I, oi) : Addr × Obj).1 ≠ l := hIl
    have hls' : ((ls, so) : Addr × Obj).1 ≠ l := hls
    have hcr : ∀ p ∈ (L + 1 + 1 + 1 + 1 + 1 + 1 + 1, o7) :: (L + 1 + 1 + 1 + 1 + 1 + 1, o6) :: (L + 1 + 1 + 1 + 1 + 1, o5) :: (L + 1 + 1 + 1 + 1, o4) :: (L + 1 + 1 + 1, o3) :: (L + 1 + 1, o2) :: (L + 1, o1) :: ns, p.1 ≠ l := all_cons (Ne.symm hl.2.2.2.2.2.2) (all_cons (Ne.symm hl.2.2.2.2.2.1) (all_cons (Ne.symm hl.2.2.2.2.1) (all_cons (Ne.symm hl.2.2.2.1) (all_cons (Ne.symm hl.2.2.1) (all_cons (Ne.symm hl.2.1) (all_cons (Ne.symm hl.1) (hnl)))))))
    (repeat' (first | (k_unfold; (try dsimp only)) | (k_end; wrow_close) | ((k_here; (with_reducible show wpAny _ _ (getItem (Value.ref _) (Value.int _ _)) _ _ _); k_dflt (refine' ksa_get (by k_asm) (by walk_at "mem") (by with_reducible assumption) (by with_reducible assumption) (by with_reducible assumption) (by with_reducible assumption) ?_); intro _)) | ((k_here; (with_reducible show wpAny _ _ (setItem (Value.ref _) (Value.int _ _) (Value.int _ _)) _ _ _); k_dflt (refine' ksa_set (by k_asm) (by k_asm) (by exact upd_in (by with_reducible assumption) (by with_reducible assumption) (by with_reducible assumption) (by with_reducible assumption)) (by with_reducible assumption) (by with_reducible assumption) (by with_reducible assumption) (by with_reducible assumption) ?_); intro _ _ _ _ _ _)) | ((k_here; (with_reducible show wpAny _ _ (assign (Expr.Tuple _ _ _) _ (Value.ref _)) _ _ _); k_dflt (refine' unpackN_ (by k_asm) (by k_asm) (by with_reducible assumption) (by exact rfl) (by exact rfl) (by exact rfl) ?_); intro _ _ _)) | walk1 | (dsimp only; walk1) | (leave1; try dsimp only) | fail "no step"))
    unfold Halt
    rename_i F5 N5 hi5 hl5 hs5
    exact UnrEndW.go2 F5 N5 (lt_ls hlt) ⟨⟨.head _, trivial⟩, ih xs (j + 1) _ _ _ hws hi5 (by rw [hl5, hk6]) (set_nn hk0 (Int.add_nonneg (getD_nn hk0 _) q4) _) (lt_ls hlt) hQ⟩
end Mine
end
section
open _root_.PySem _root_.PySem.W _root_.PySem.W.X _root_.PyProof.Rows
set_option Elab.async false
set_option maxRecDepth 100000
set_option maxHeartbeats 0
namespace Mine
theorem rs77 : True := by w_top off; trivial
local macro_rules | `(tactic| k_updF) => `(tactic| first | (refine' UpdF.head ?a; (case a => (repeat (refine all_cons (by first | k_ne | omega) ?_)); first | exact all_off1 (by assumption) | exact all_off2 (by assumption) | exact all_off3 (by assumption) | exact all_off4 (by assumption) | exact all_off5 (by assumption) | exact all_off6 (by assumption) | exact all_off7 (by assumption) | (intro p hp; cases hp))) | (refine' UpdF.tail ?a ?b; (case a => first | k_ne | omega); (case b => k_updF)))
theorem s13 {w : World} {loose : List Str} {mean : ExcName → Option Value} {mg mb : Str → Option Value} {base : Heap} {L fa : Addr} {cd : Value} {m : Str → Option Value} {s : Shared} {Q : Flow → Shared → Prop} {E : Value → Shared → Prop}
   (cB : Below callerA base [] base) (cX : (Mine.hd.heap_39 w.params).In base) (cT : Top Mine.hd.view_39 loose mean mg mb base) (hE : PassesOwn (model PP w) (lawA L fa cd) (lawEnv L fa cd) E)
   {o1 o2 o3 o4 o5 o6 o7 : Obj} {ns : List (Addr × Obj)} (hns : ∀ p ∈ ns, (Off7 L p.1))
   {l lb lo lf : Addr} {fr gr ct : Int} {zn : Str} {tf tg tc tz tw tt : Tok} {wd td : Array UInt8}
   (cF : Fr base L s.heap (fun y => if y = Str.ofString "turned" then some (.bytes td tt) else if y = Str.ofString "zone" then some (.str zn tz) else if y = Str.ofString "words" then some (.bytes wd tw) else if y = Str.ofString "forms" then some (.ref lf) else if y = Str.ofString "count" then some (.int ct tc) else if y = Str.ofString "own" then some (.ref lo) else m y)) (cN : News base L s.heap ((L + 1 + 1 + 1 + 1 + 1 + 1 + 1, o7) :: (L + 1 + 1 + 1 + 1 + 1 + 1, o6) :: (L + 1 + 1 + 1 + 1 + 1, o5) :: (L + 1 + 1 + 1 + 1, o4) :: (L + 1 + 1 + 1, o3) :: (L + 1 + 1, o2) :: (L + 1, o1) :: ns))
   (d1 : o1.data = .cell (some (.ref l))) (d2 : o2.data = .cell (some (.ref lb))) (d3 : o3.data = .cell (some (.int fr tf))) (d4 : o4.data = .cell (some (.int gr tg))) (d5 : o5.data = .cell (none)) (d6 : o6.data = .cell (none)) (d7 : o7.data = .cell (none))
   (hret : ∀ (m' : Str → Option Value) (h' : Heap) (tk' : Nat) (q5 : Obj) (lp : Addr) (k : Nat) (u0 u1 u2 : Tok), (∀ p ∈ ns, p.1 < lp) → (Off7 L lp) → q5.data = .cell (some (.ref lp)) → Fr base L h' (fun y => if y = Str.ofString "turned" then some (.bytes td tt) else if y = Str.ofString "zone" then some (.str zn tz) else if y = Str.ofString "words" then some (.bytes wd tw) else if y = Str.ofString "forms" then some (.ref lf) else if y = Str.ofString "count" then some (.int ct tc) else if y = Str.ofString "own" then some (.ref lo) else m' y) → News base L h' ((lp, W.listOf #[.int 0 u0, .int 0 u1, .int 0 u2] k) :: (L + 1 + 1 + 1 + 1 + 1 + 1 + 1, o7) :: (L + 1 + 1 + 1 + 1 + 1 + 1, o6) :: (L + 1 + 1 + 1 + 1 + 1, q5) :: (L + 1 + 1 + 1 + 1, o4) :: (L + 1 + 1 + 1, o3) :: (L + 1 + 1, o2) :: (L + 1, o1) :: ns) → Q .next { s with heap := h', toks := tk' }) :
   wpAny (model PP w) (lawA L fa cd) (exec (st 13) (lawEnv L fa cd)) Q E s := by
  conv in (st 13) => whnf
  unfold lawA lawEnv
  conv in (occs := *) lawScope => all_goals whnf
  with_reducible refine wp_gen fun tk0 => ?_
  with_reducible refine letF cF ?_
  intro mz0 cF0
  clear cF
  with_reducible refine letA ?_
  intro A0
  k_steps
  exact hret _ _ _ _ _ _ _ _ _ (allLt_to2 (by assumption : _ ∧ _ ∧ _ ∧ _ ∧ _ ∧ _ ∧ _ ∧ AllLt _ ns).2.2.2.2.2.2.2) (by first | exact lt7 (by assumption) | exact ne7 (by assumption) | exact lt7 (And.right (by assumption)) | exact ne7 (And.right (by assumption)) | exact lt7 (And.right (And.right (by assumption))) | exact ne7 (And.right (And.right (by assumption))) | exact lt7 (And.right (And.right (And.right (by assumption)))) | exact ne7 (And.right (And.right (And.right (by assumption)))) | exact lt7 (And.right (And.right (And.right (And.right (by assumption))))) | exact ne7 (And.right (And.right (And.right (And.right (by assumption))))) | exact lt7 (And.right (And.right (And.right (And.right (And.right (by assumption)))))) | exact ne7 (And.right (And.right (And.right (And.right (And.right (by assumption)))))) | exact lt7 (And.right (And.right (And.right (And.right (And.right (And.right (by assumption))))))) | exact ne7 (And.right (And.right (And.right (And.right (And.right (And.right (by assumption))))))) | exact lt7 (And.right (And.right (And.right (And.right (And.right (And.right (And.right (by assumption)))))))) | exact ne7 (And.right (And.right (And.right (And.right (And.right (And.right (And.right (by assumption)))))))) | exact lt7 (And.right (And.right (And.right (And.right (And.right (And.right (And.right (And.right (by assumption))))))))) | exact ne7 (And.right (And.right (And.right (And.right (And.right (And.right (And.right (And.right (by assumption)))))))))) (by assumption) (Fr.put (Str.ofString "turned") (Fr.put (Str.ofString "zone") (Fr.put (Str.ofString "words") (Fr.put (Str.ofString "forms") (Fr.put (Str.ofString "count") (Fr.put (Str.ofString "own") ((by assumption)) rfl) rfl) rfl) rfl) rfl) rfl) (by assumption)
end Mine
end
section
open _root_.PySem _root_.PySem.W _root_.PySem.W.X _root_.PyProof.Rows
set_option Elab.async false
set_option maxRecDepth 100000
set_option maxHeartbeats 0
namespace Mine
local macro_rules | `(tactic| walk_at "none") => `(tactic| skip)
theorem rs78 : True := by w_top off; trivial
theorem ne_lt7 {I L : Addr} {o1 o2 o3 o4 o5 o6 o7 : Obj} {ns : List (Addr × Obj)} {a b c : Addr × Obj} (h : ∀ p ∈ a :: b :: c :: (L + 1 + 1 + 1 + 1 + 1 + 1 + 1, o7) :: (L + 1 + 1 + 1 + 1 + 1 + 1, o6) :: (L + 1 + 1 + 1 + 1 + 1, o5) :: (L + 1 + 1 + 1 + 1, o4) :: (L + 1 + 1 + 1, o3) :: (L + 1 + 1, o2) :: (L + 1, o1) :: ns, p.1 < I) : (Off7 L I) := ⟨Nat.ne_of_gt (h _ (.tail _ (.tail _ (.tail _ (.tail _ (.tail _ (.tail _ (.tail _ (.tail _ (.tail _ (.head _))))))))))), Nat.ne_of_gt (h _ (.tail _ (.tail _ (.tail _ (.tail _ (.tail _ (.tail _ (.tail _ (.tail _ (.head _)))))))))), Nat.ne_of_gt (h _ (.tail _ (.tail _ (.tail _ (.tail _ (.tail _ (.tail _ (.tail _ (.head _))))))))), Nat.ne_of_gt (h _ (.tail _ (.tail _ (.tail _ (.tail _ (.tail _ (.tail _ (.head _)))))))), Nat.ne_of_gt (h _ (.tail _ (.tail _ (.tail _ (.tail _ (.tail _ (.head _))))))), Nat.ne_of_gt (h _ (.tail _ (.tail _ (.tail _ (.tail _ (.head _)))))), Nat.ne_of_gt (h _ (.tail _ (.tail _ (.tail _ (.head _)))))⟩
local macro_rules | `(tactic| walk_at "KrsRest") => `(tactic| (refine Halt.go ?_))
theorem s14 {w : World} {loose : List Str} {mean : ExcName → Option Value} {mg mb : Str → Option Value} {base : Heap} {L fa : Addr} {cd : Value} {m : Str → Option Value} {s : Shared} {Q : Flow → Shared → Prop} {E : Value → Shared → Prop}
   (cB : Below callerA base [] base) (cX : (Mine.hd.heap_39 w.params).In base) (cT : Top Mine.hd.view_39 loose mean mg mb base) (hE : PassesOwn (model PP w) (lawA L fa cd) (lawEnv L fa cd) E)
   {o1 o2 o3 o4 o5 o6 o7 : Obj} {ns : List (Addr × Obj)} (hns : ∀ p ∈ ns, (Off7 L p.1))
   {l lo lb lf lp : Addr} {gr ct fr b0 b1 b2 v0q v1q v2q : Int} {tg tc tw tz tt tf u0 u1 u2 v0 v1 v2 s0 s1 s2 : Tok} {kp : Nat} {wd td : Array UInt8} {ks ts : List Int} {zn zl : Str} {fs : List Form} {kf : Nat}
   (hlp : (Off7 L lp))
   (fr0 : 0 ≤ fr) (b0a : 2 ≤ b0) (b0b : b0 ≤ 3) (b1a : 2 ≤ b1) (b1b : b1 ≤ 3) (b2a : 2 ≤ b2) (b2b : b2 ≤ 3)
   
   (hlo : (Off7 L lo)) (hlb : (Off7 L lb)) 
   (hwd : KBw.bInts wd = ks) (hks : ks.length = 36) (htd : KBw.bInts td = ts) (hts : ts.length = 36) {f g : Nat → Nat → Int}
   (hcf : ∀ i, i < 12 → cut ts i = [f i 0, f i 1, f i 2]) (hcg : ∀ i, i < 12 → cut ks i = [g i 0, g i 1, g i 2]) (hfb : ∀ i, i < 12 → (65 ≤ f i 0 ∧ f i 0 ≤ 67 ∧ 65 ≤ f i 1 ∧ f i 1 ≤ 67 ∧ 65 ≤ f i 2 ∧ f i 2 ≤ 67))
   (hho : ∀ i, i < 12 → Txt.lower (hostS (f i 0) (f i 1) (f i 2)) = hostL (f i 0) (f i 1) (f i 2) ∧ Builtin.Str.tooLong (Txt.lower (hostS (f i 0) (f i 1) (f i 2))).length = false ∧ noMatch (hostL (f i 0) (f i 1) (f i 2)) = true ∧ (hostL (f i 0) (f i 1) (f i 2)).length ≤ 1000)
   (hz1 : Txt.lower zn = zl) (hz2 : Builtin.Str.tooLong (Txt.lower zn).length = false) (hz3 : noMatch zl = true) (hz4 : zl.length ≤ 1000)
   (hlf : (lf, formsO fs kf) ∈ ns) (hin : ∀ x ∈ fs, x.In ns) (hn3 : fs.length ≤ 3) (hbd : ∀ i, i < 12 → ∀ x ∈ fs, -4 ≤ x.b ∧ x.b ≤ 4 ∧ (x.val [g i 0, g i 1, g i 2] [f i 0, f i 1, f i 2]).natAbs ≤ 50)
   {H : Nat → Bool} {V S : Nat → Int} (hH : ∀ i, i < 12 → H i = decide (List.drop fr.toNat [f i 0 - 65, f i 1 - 65, f i 2 - 65] = List.drop fr.toNat [v0q, v1q, v2q]))
   (hhe : ∀ i, i < 12 → udmF (hostL (f i 0) (f i 1) (f i 2)) zl = H i) (hV : ∀ i, i < 12 → lightOf [g i 0, g i 1, g i 2] [f i 0, f i 1, f i 2] 1 fs = V i) (hS : ∀ i, i < 12 → Int.fdiv 6 ([b0, b1, b2].getD (0 + ((0 : Nat) : Int)).toNat 0) * [f i 0 - 65, f i 1 - 65, f i 2 - 65].getD (0 + ((0 : Nat) : Int)).toNat 0 + (Int.fdiv 6 ([b0, b1, b2].getD (0 + ((0 + 1 : Nat) : Int)).toNat 0) * [f i 0 - 65, f i 1 - 65, f i 2 - 65].getD (0 + ((0 + 1 : Nat) : Int)).toNat 0 + (Int.fdiv 6 ([b0, b1, b2].getD (0 + ((0 + 1 + 1 : Nat) : Int)).toNat 0) * [f i 0 - 65, f i 1 - 65, f i 2 - 65].getD (0 + ((0 + 1 + 1 : Nat) : Int)).toNat 0 + 0)) = S i)
   (hS0 : ∀ i, i < 12 → 0 ≤ S i ∧ S i ≤ 10) (hVb : ∀ i, i < 12 → (V i).natAbs ≤ 125000)
   (cF : Fr base L s.heap (fun y => if y = Str.ofString "turned" then some (.bytes td tt) else if y = Str.ofString "zone" then some (.str zn tz) else if y = Str.ofString "words" then some (.bytes wd tw) else if y = Str.ofString "forms" then some (.ref lf) else if y = Str.ofString "count" then some (.int ct tc) else if y = Str.ofString "own" then some (.ref lo) else m y)) (cN : News base L s.heap ((lp, W.listOf #[.int 0 s0, .int 0 s1, .int 0 s2] kp) :: (lo, LCg.lst [.int v0q v0, .int v1q v1, .int v2q v2]) :: (lb, LCg.lst [.int b0 u0, .int b1 u1, .int b2 u2]) :: (L + 1 + 1 + 1 + 1 + 1 + 1 + 1, o7) :: (L + 1 + 1 + 1 + 1 + 1 + 1, o6) :: (L + 1 + 1 + 1 + 1 + 1, o5) :: (L + 1 + 1 + 1 + 1, o4) :: (L + 1 + 1 + 1, o3) :: (L + 1 + 1, o2) :: (L + 1, o1) :: ns))
   (d1 : o1.data = .cell (some (.ref l))) (d2 : o2.data = .cell (some (.ref lb))) (d3 : o3.data = .cell (some (.int fr tf))) (d4 : o4.data = .cell (some (.int gr tg))) (d5 : o5.data = .cell (some (.ref lp))) (d6 : o6.data = .cell (none)) (d7 : o7.data = .cell (none))
   (hret : ∀ (m' : Str → Option Value) (h' : Heap) (tk' : Nat) (q5 : Obj) (q6 : Obj) (q7 : Obj) (lp' : Addr) (kp' : Nat) (x' y' z' : Value), (Off7 L lp') → Den x' (prt H V S 0 12 0 0) → Den y' (prt H V S 1 12 0 0) → Den z' (prt H V S 2 12 0 0) → q5.data = .cell (some (.ref lp')) → Fr base L h' (fun y => if y = Str.ofString "turned" then some (.bytes td tt) else if y = Str.ofString "zone" then some (.str zn tz) else if y = Str.ofString "words" then some (.bytes wd tw) else if y = Str.ofString "forms" then some (.ref lf) else if y = Str.ofString "count" then some (.int ct tc) else if y = Str.ofString "own" then some (.ref lo) else m' y) → News base L h' ((lp', W.listOf #[x', y', z'] kp') :: (lo, LCg.lst [.int v0q v0, .int v1q v1, .int v2q v2]) :: (lb, LCg.lst [.int b0 u0, .int b1 u1, .int b2 u2]) :: (L + 1 + 1 + 1 + 1 + 1 + 1 + 1, q7) :: (L + 1 + 1 + 1 + 1 + 1 + 1, q6) :: (L + 1 + 1 + 1 + 1 + 1, q5) :: (L + 1 + 1 + 1 + 1, o4) :: (L + 1 + 1 + 1, o3) :: (L + 1 + 1, o2) :: (L + 1, o1) :: ns) → Q .next { s with heap := h', toks := tk' }) :
   wpAny (model PP w) (lawA L fa cd) (exec (st 14) (lawEnv L fa cd)) Q E s := by
  conv in (st 14) => whnf
  unfold lawA lawEnv
  conv in (occs := *) lawScope => all_goals whnf
  (repeat' (first | (k_unfold; (try dsimp only)) | (k_end; wrow_close) | (((with_reducible show wpAny _ _ (pyIter (Value.ref _)) (fun it s₂ => LoopAtV _ _ _ _ _ _ _ _ _ it s₂) _ _); k_here; (rename Fr _ _ _ _ => lF'); (rename News _ _ _ _ => lN'); (with_unfolding_all refine krs_iter (n := 12) (by rfl) (by assumption) (by first | decide | rfl) (by first | decide | rfl) lF' lN' ?_); clear lF' lN'; intro _ _)) | ((k_here; (with_reducible show wpAny _ _ (call (Value.builtin "len") [Value.bytes _ _]) _ _ _); k_dflt (refine len_b 36 (by assumption) (by omega) (by omega) ?_); intro _ _)) | walk1 | (dsimp only; walk1) | (leave1; try dsimp only) | fail "no step"))
  unfold Halt
  rename_i l9
  refine krs_put (Str.ofString "own") rfl (krs_put (Str.ofString "count") rfl (krs_put (Str.ofString "forms") rfl (krs_put (Str.ofString "words") rfl (krs_put (Str.ofString "zone") rfl (krs_put (Str.ofString "turned") rfl (loop14 (by assumption) (by assumption) (by assumption) (by assumption) fr0 b0a b0b b1a b1b b2a b2b d2 d3 (ne_lt7 l9) hlo hlb hns (Nat.ne_of_lt (l9 _ (.tail _ (.head _)))) (Nat.ne_of_lt (l9 _ (.tail _ (.tail _ (.head _))))) (fun p hp => Nat.ne_of_lt (l9 p (.tail _ (.tail _ (.tail _ (.tail _ (.tail _ (.tail _ (.tail _ (.tail _ (.tail _ (.tail _ (hp))))))))))))) hwd hks htd hts hcf hcg hfb hho hz1 hz2 hz3 hz4 hlf hin hn3 hbd hH hhe hV hS hS0 hVb 12 0 _ lp kp (.int 0 s0) (.int 0 s1) (.int 0 s2) 0 0 0 o5 o6 o7 _ _ rfl hlp (Nat.ne_of_lt (l9 _ (.head _))) d5 d6 d7 (Den.int 0 _) (Den.int 0 _) (Den.int 0 _) (by decide) (by decide) (by decide) ?_))))))
  intro m9 h9 k9 lp9 kp9 x9 y9 z9 z5 z6 z7 hlp9 e5 dx9 dy9 dz9 F9 N9
  (repeat' (first | (k_unfold; (try dsimp only)) | (k_end; wrow_close) | (((with_reducible show wpAny _ _ (pyIter (Value.ref _)) (fun it s₂ => LoopAtV _ _ _ _ _ _ _ _ _ it s₂) _ _); k_here; (rename Fr _ _ _ _ => lF'); (rename News _ _ _ _ => lN'); (with_unfolding_all refine krs_iter (n := 12) (by rfl) (by assumption) (by first | decide | rfl) (by first | decide | rfl) lF' lN' ?_); clear lF' lN'; intro _ _)) | ((k_here; (with_reducible show wpAny _ _ (call (Value.builtin "len") [Value.bytes _ _]) _ _ _); k_dflt (refine len_b 36 (by assumption) (by omega) (by omega) ?_); intro _ _)) | walk1 | (dsimp only; walk1) | (leave1; try dsimp only) | fail "no step"))
  exact hret _ _ _ z5 z6 z7 lp9 kp9 x9 y9 z9 hlp9 dx9 dy9 dz9 e5 (Fr.put (Str.ofString "turned") (Fr.put (Str.ofString "zone") (Fr.put (Str.ofString "words") (Fr.put (Str.ofString "forms") (Fr.put (Str.ofString "count") (Fr.put (Str.ofString "own") ((by assumption)) rfl) rfl) rfl) rfl) rfl) rfl) (by assumption)
end Mine
end
section
open _root_.PySem _root_.PySem.W _root_.PySem.W.X _root_.PyProof.Rows
set_option Elab.async false
set_option maxRecDepth 100000
set_option maxHeartbeats 0
namespace Mine
local macro_rules | `(tactic| walk_at "none") => `(tactic| skip)
local macro_rules | `(tactic| walk_at "none") => `(tactic| skip)
local macro_rules | `(tactic| walk_at "none") => `(tactic| skip)
theorem rs79 : True := by w_top off; trivial
local macro_rules | `(tactic| k_updF) => `(tactic| first | (refine' UpdF.head ?a; (case a => (repeat (refine all_cons (by first | k_ne | omega) ?_)); first | exact all_off1 (by assumption) | exact all_off2 (by assumption) | exact all_off3 (by assumption) | exact all_off4 (by assumption) | exact all_off5 (by assumption) | exact all_off6 (by assumption) | exact all_off7 (by assumption) | (intro p hp; cases hp))) | (refine' UpdF.tail ?a ?b; (case a => first | k_ne | omega); (case b => k_updF)))
theorem nat3 {p q r M : Int} (p0 : -M ≤ p) (q0 : -M ≤ q) (r0 : -M ≤ r) : -M ≤ min p (min q r) := Int.le_min.mpr ⟨p0, Int.le_min.mpr ⟨q0, r0⟩⟩
theorem abs_b {p : Int} {M : Nat} (h : p.natAbs ≤ M) : -(M : Int) ≤ p ∧ p ≤ M := by omega
theorem abs_i {p : Int} {M : Nat} (h0 : -(M : Int) ≤ p) (h1 : p ≤ M) : p.natAbs ≤ M := by omega
theorem small_b {p : Int} (h0 : -1000000000 ≤ p) (h1 : p ≤ 1000000000) : Small p := Nat.lt_of_le_of_lt (abs_i (M := 1000000000) h0 h1) (by decide)
theorem small15 {p q r mm gr : Int} (p0 : p.natAbs ≤ 100000000) (q0 : q.natAbs ≤ 100000000) (r0 : r.natAbs ≤ 100000000) (g0 : 1 ≤ gr) (g1 : gr ≤ 50) (hmm : mm = min p (min q r)) :
    Small p ∧ Small q ∧ Small r ∧ Small mm ∧ Small gr ∧ Small (p - mm) ∧ Small (q - mm) ∧ Small (r - mm) ∧ Small (p - mm + gr) ∧ Small (q - mm + gr) ∧ Small (r - mm + gr) := by
  obtain ⟨p1, p2⟩ := abs_b p0
  obtain ⟨q1, q2⟩ := abs_b q0
  obtain ⟨r1, r2⟩ := abs_b r0
  have m1 : -100000000 ≤ mm := hmm ▸ nat3 p1 q1 r1
  have m2 : mm ≤ 100000000 := Int.le_trans (hmm ▸ Int.min_le_left _ _) p2
  clear hmm p0 q0 r0
  have up : ∀ {x : Int}, -100000000 ≤ x → x ≤ 100000000 → Small x ∧ Small (x - mm) ∧ Small (x - mm + gr) := fun h0 h1 => ⟨small_b (by omega) (by omega), small_b (by omega) (by omega), small_b (by omega) (by omega)⟩
  exact ⟨(up p1 p2).1, (up q1 q2).1, (up r1 r2).1, (up m1 m2).1, small_b (by omega) (by omega), (up p1 p2).2.1, (up q1 q2).2.1, (up r1 r2).2.1, (up p1 p2).2.2, (up q1 q2).2.2, (up r1 r2).2.2⟩
local macro_rules | `(tactic| walk_at "call builtin:min") => `(tactic| (k_here; k_dflt (refine' den_minL (n := 0) (by exact rfl) ?u ?v ?z (by k_asm) (by k_asm) (by exact News.isList (by k_asm) (by walk_at "mem")) ?_; (case u => assumption); (case v => assumption); (case z => assumption)); intro r9 h9 tk9 d9 F9 N9; rw [← (by assumption : _ = min _ (min _ _))] at d9))
theorem s15 {w : World} {loose : List Str} {mean : ExcName → Option Value} {mg mb : Str → Option Value} {base : Heap} {L fa : Addr} {cd : Value} {m : Str → Option Value} {s : Shared} {Q : Flow → Shared → Prop} {E : Value → Shared → Prop}
   (cB : Below callerA base [] base) (cX : (Mine.hd.heap_39 w.params).In base) (cT : Top Mine.hd.view_39 loose mean mg mb base) (hE : PassesOwn (model PP w) (lawA L fa cd) (lawEnv L fa cd) E)
   {o1 o2 o3 o4 o5 o6 o7 : Obj} {ns : List (Addr × Obj)} (hns : ∀ p ∈ ns, (Off7 L p.1))
   {l lb lo lf lp : Addr} {fr gr ct p q r : Int} {tf tg tc : Tok} {x y z : Value} {kp : Nat} (hlp : (Off7 L lp)) (hx : Den x p) (hy : Den y q) (hz : Den z r) (p0 : p.natAbs ≤ 100000000) (q0 : q.natAbs ≤ 100000000) (r0 : r.natAbs ≤ 100000000) (g0 : 1 ≤ gr) (g1 : gr ≤ 50)
   (cF : Fr base L s.heap (fun y => if y = Str.ofString "forms" then some (.ref lf) else if y = Str.ofString "count" then some (.int ct tc) else if y = Str.ofString "own" then some (.ref lo) else m y)) (cN : News base L s.heap ((lp, W.listOf #[x, y, z] kp) :: (L + 1 + 1 + 1 + 1 + 1 + 1 + 1, o7) :: (L + 1 + 1 + 1 + 1 + 1 + 1, o6) :: (L + 1 + 1 + 1 + 1 + 1, o5) :: (L + 1 + 1 + 1 + 1, o4) :: (L + 1 + 1 + 1, o3) :: (L + 1 + 1, o2) :: (L + 1, o1) :: ns))
   (d1 : o1.data = .cell (some (.ref l))) (d2 : o2.data = .cell (some (.ref lb))) (d3 : o3.data = .cell (some (.int fr tf))) (d4 : o4.data = .cell (some (.int gr tg))) (d5 : o5.data = .cell (some (.ref lp)))
   (hret : ∀ (m' : Str → Option Value) (h' : Heap) (tk' : Nat) (ls : Addr) (x' y' z' : Value), Den x' (p - min p (min q r) + gr) → Den y' (q - min p (min q r) + gr) → Den z' (r - min p (min q r) + gr) → (Off7 L ls) → Fr base L h' (fun y => if y = Str.ofString "shown" then some (.ref ls) else if y = Str.ofString "forms" then some (.ref lf) else if y = Str.ofString "count" then some (.int ct tc) else if y = Str.ofString "own" then some (.ref lo) else m' y) → News base L h' ((ls, LCg.lst [x', y', z']) :: (lp, W.listOf #[x, y, z] kp) :: (L + 1 + 1 + 1 + 1 + 1 + 1 + 1, o7) :: (L + 1 + 1 + 1 + 1 + 1 + 1, o6) :: (L + 1 + 1 + 1 + 1 + 1, o5) :: (L + 1 + 1 + 1 + 1, o4) :: (L + 1 + 1 + 1, o3) :: (L + 1 + 1, o2) :: (L + 1, o1) :: ns) → Q .next { s with heap := h', toks := tk' }) :
   wpAny (model PP w) (lawA L fa cd) (exec (st 15) (lawEnv L fa cd)) Q E s := by
  conv in (st 15) => whnf
  unfold lawA lawEnv
  conv in (occs := *) lawScope => all_goals whnf
  obtain ⟨mm, hmm⟩ : ∃ mm, mm = min p (min q r) := ⟨_, rfl⟩
  rw [← hmm] at hret
  obtain ⟨e1, e2, e3, e4, e5, e6, e7, e8, e9, f1, f2⟩ := small15 p0 q0 r0 g0 g1 hmm
  with_reducible refine wp_gen fun tk0 => ?_
  with_reducible refine letN cN ?_
  intro nz0 cN0
  clear cN
  with_reducible refine letF cF ?_
  intro mz0 cF0
  clear cF
  with_reducible refine letA ?_
  intro A0
  (repeat' (first | (k_unfold; (try dsimp only)) | (k_end; wrow_close) | (k_end; first | ((k_dflt (first | (refine compEnd_tup (by k_asm) (by k_asm) (by assumption) (by assumption) (Or.inr ⟨_, by walk_at "mem", rfl, _, rfl⟩) ?_) | refine LCg.CompEnd.intro (by assumption) (by k_asm) _ (fun p hp => hp) (by assumption) True.intro ?_ | refine LCg.CompEnd.intro (by assumption) (by k_asm) _ (fun p hp => hp) (by assumption) (Or.inr ⟨_, by assumption, rfl, _, rfl⟩) ?_ | refine LCg.CompEnd.intro (by assumption) (by k_asm) _ (fun p hp => hp) (by assumption) (Or.inr ⟨_, by walk_at "mem", rfl, _, rfl⟩) ?_)))) | ((with_reducible show wpAny _ _ (binaryOp .Add _ _) _ _ _); (k_here; k_dflt (refine' den_add (by exact rfl) (by assumption) (Den.int _ _) (by assumption) (by assumption) (by assumption) ?_); intro _ _ _)) | ((with_reducible show wpAny _ _ (binaryOp .Sub _ _) _ _ _); (k_here; k_dflt (refine' den_sub (by exact rfl) (by assumption) (by assumption) (by assumption) (by assumption) (by assumption) ?_); intro _ _ _)) | walk1 | (dsimp only; walk1) | (leave1; try dsimp only) | fail "no step"))
  rename_i o1x
  refine' hret _ _ _ _ _ _ _ ?a ?b ?c (ne7 o1x.2) ?F ?N
  case N => assumption
  case F => exact Fr.put (Str.ofString "shown") (Fr.put (Str.ofString "forms") (Fr.put (Str.ofString "count") (Fr.put (Str.ofString "own") ((by assumption)) rfl) rfl) rfl) rfl
  case a => assumption
  case b => assumption
  case c => assumption
end Mine
end
section
open _root_.PySem _root_.PySem.W _root_.PySem.W.X _root_.PyProof.Rows
set_option Elab.async false
set_option maxRecDepth 100000
set_option maxHeartbeats 0
namespace Mine
theorem rs80 : True := by w_top off; trivial
local macro_rules | `(tactic| k_updF) => `(tactic| first | (refine' UpdF.head ?a; (case a => (repeat (refine all_cons (by first | k_ne | omega) ?_)); first | exact all_off1 (by assumption) | exact all_off2 (by assumption) | exact all_off3 (by assumption) | exact all_off4 (by assumption) | exact all_off5 (by assumption) | exact all_off6 (by assumption) | exact all_off7 (by assumption) | (intro p hp; cases hp))) | (refine' UpdF.tail ?a ?b; (case a => first | k_ne | omega); (case b => k_updF)))
theorem s16 {w : World} {loose : List Str} {mean : ExcName → Option Value} {mg mb : Str → Option Value} {base : Heap} {L fa : Addr} {cd : Value} {m : Str → Option Value} {s : Shared} {Q : Flow → Shared → Prop} {E : Value → Shared → Prop}
   (cB : Below callerA base [] base) (cX : (Mine.hd.heap_39 w.params).In base) (cT : Top Mine.hd.view_39 loose mean mg mb base) (hE : PassesOwn (model PP w) (lawA L fa cd) (lawEnv L fa cd) E)
   {o1 o2 o3 o4 o5 o6 o7 : Obj} {ns : List (Addr × Obj)} (hns : ∀ p ∈ ns, (Off7 L p.1))
   {l lb lo lf ls lp : Addr} {fr gr ct : Int} {tf tg tc : Tok}
   (cF : Fr base L s.heap (fun y => if y = Str.ofString "shown" then some (.ref ls) else if y = Str.ofString "forms" then some (.ref lf) else if y = Str.ofString "count" then some (.int ct tc) else if y = Str.ofString "own" then some (.ref lo) else m y)) (cN : News base L s.heap ((L + 1 + 1 + 1 + 1 + 1 + 1 + 1, o7) :: (L + 1 + 1 + 1 + 1 + 1 + 1, o6) :: (L + 1 + 1 + 1 + 1 + 1, o5) :: (L + 1 + 1 + 1 + 1, o4) :: (L + 1 + 1 + 1, o3) :: (L + 1 + 1, o2) :: (L + 1, o1) :: ns))
   (d1 : o1.data = .cell (some (.ref l))) (d2 : o2.data = .cell (some (.ref lb))) (d3 : o3.data = .cell (some (.int fr tf))) (d4 : o4.data = .cell (some (.int gr tg))) (d5 : o5.data = .cell (some (.ref lp)))
   (hret : ∀ (m' : Str → Option Value) (h' : Heap) (tk' : Nat) (t : Tok), Fr base L h' (fun y => if y = Str.ofString "strength" then some (.int 0 t) else if y = Str.ofString "shown" then some (.ref ls) else if y = Str.ofString "forms" then some (.ref lf) else if y = Str.ofString "count" then some (.int ct tc) else if y = Str.ofString "own" then some (.ref lo) else m' y) → News base L h' ((L + 1 + 1 + 1 + 1 + 1 + 1 + 1, o7) :: (L + 1 + 1 + 1 + 1 + 1 + 1, o6) :: (L + 1 + 1 + 1 + 1 + 1, o5) :: (L + 1 + 1 + 1 + 1, o4) :: (L + 1 + 1 + 1, o3) :: (L + 1 + 1, o2) :: (L + 1, o1) :: ns) → Q .next { s with heap := h', toks := tk' }) :
   wpAny (model PP w) (lawA L fa cd) (exec (st 16) (lawEnv L fa cd)) Q E s := by
  conv in (st 16) => whnf
  unfold lawA lawEnv
  conv in (occs := *) lawScope => all_goals whnf
  k_steps
  exact hret _ _ _ _ (Fr.put (Str.ofString "strength") (Fr.put (Str.ofString "shown") (Fr.put (Str.ofString "forms") (Fr.put (Str.ofString "count") (Fr.put (Str.ofString "own") ((by assumption)) rfl) rfl) rfl) rfl) rfl) (by assumption)
end Mine
end
section
open _root_.PySem _root_.PySem.W _root_.PySem.W.X _root_.PyProof.Rows
set_option Elab.async false
set_option maxRecDepth 100000
set_option maxHeartbeats 0
namespace Mine
local macro_rules | `(tactic| walk_at "none") => `(tactic| skip)
theorem rs81 : True := by w_top off; trivial
local macro_rules | `(tactic| k_updF) => `(tactic| first | (refine' UpdF.head ?a; (case a => (repeat (refine all_cons (by first | k_ne | omega) ?_)); first | exact all_off1 (by assumption) | exact all_off2 (by assumption) | exact all_off3 (by assumption) | exact all_off4 (by assumption) | exact all_off5 (by assumption) | exact all_off6 (by assumption) | exact all_off7 (by assumption) | (intro p hp; cases hp))) | (refine' UpdF.tail ?a ?b; (case a => first | k_ne | omega); (case b => k_updF)))
theorem tw_t {sg : Int} (h : sg < 0) : (6 : Int) = if sg < 0 then 6 else 0 := by rw [if_pos h]
theorem tw_f {sg : Int} (h : ¬ sg < 0) : (0 : Int) = if sg < 0 then 6 else 0 := by rw [if_neg h]
theorem s19 {w : World} {loose : List Str} {mean : ExcName → Option Value} {mg mb : Str → Option Value} {base : Heap} {L fa : Addr} {cd : Value} {m : Str → Option Value} {s : Shared} {Q : Flow → Shared → Prop} {E : Value → Shared → Prop}
   (cB : Below callerA base [] base) (cX : (Mine.hd.heap_39 w.params).In base) (cT : Top Mine.hd.view_39 loose mean mg mb base) (hE : PassesOwn (model PP w) (lawA L fa cd) (lawEnv L fa cd) E)
   {o1 o2 o3 o4 o5 o6 o7 : Obj} {ns : List (Addr × Obj)} (hns : ∀ p ∈ ns, (Off7 L p.1))
   {l lb lo lf ls lp : Addr} {fr gr ct sg sp : Int} {tf tg tc ts tp : Tok}
   (cF : Fr base L s.heap (fun y => if y = Str.ofString "spread" then some (.int sp tp) else if y = Str.ofString "strength" then some (.int sg ts) else if y = Str.ofString "shown" then some (.ref ls) else if y = Str.ofString "forms" then some (.ref lf) else if y = Str.ofString "count" then some (.int ct tc) else if y = Str.ofString "own" then some (.ref lo) else m y)) (cN : News base L s.heap ((L + 1 + 1 + 1 + 1 + 1 + 1 + 1, o7) :: (L + 1 + 1 + 1 + 1 + 1 + 1, o6) :: (L + 1 + 1 + 1 + 1 + 1, o5) :: (L + 1 + 1 + 1 + 1, o4) :: (L + 1 + 1 + 1, o3) :: (L + 1 + 1, o2) :: (L + 1, o1) :: ns))
   (d1 : o1.data = .cell (some (.ref l))) (d2 : o2.data = .cell (some (.ref lb))) (d3 : o3.data = .cell (some (.int fr tf))) (d4 : o4.data = .cell (some (.int gr tg))) (d5 : o5.data = .cell (some (.ref lp)))
   (hret : ∀ (m' : Str → Option Value) (h' : Heap) (tk' : Nat) (tv : Int) (t : Tok), tv = (if sg < 0 then 6 else 0) → Fr base L h' (fun y => if y = Str.ofString "twelfths" then some (.int tv t) else if y = Str.ofString "spread" then some (.int sp tp) else if y = Str.ofString "strength" then some (.int sg ts) else if y = Str.ofString "shown" then some (.ref ls) else if y = Str.ofString "forms" then some (.ref lf) else if y = Str.ofString "count" then some (.int ct tc) else if y = Str.ofString "own" then some (.ref lo) else m' y) → News base L h' ((L + 1 + 1 + 1 + 1 + 1 + 1 + 1, o7) :: (L + 1 + 1 + 1 + 1 + 1 + 1, o6) :: (L + 1 + 1 + 1 + 1 + 1, o5) :: (L + 1 + 1 + 1 + 1, o4) :: (L + 1 + 1 + 1, o3) :: (L + 1 + 1, o2) :: (L + 1, o1) :: ns) → Q .next { s with heap := h', toks := tk' }) :
   wpAny (model PP w) (lawA L fa cd) (exec (st 19) (lawEnv L fa cd)) Q E s := by
  conv in (st 19) => whnf
  unfold lawA lawEnv
  conv in (occs := *) lawScope => all_goals whnf
  k_steps
  all_goals first
    | exact hret _ _ _ _ _ (tw_t (by first | assumption | omega)) (Fr.put (Str.ofString "twelfths") (Fr.put (Str.ofString "spread") (Fr.put (Str.ofString "strength") (Fr.put (Str.ofString "shown") (Fr.put (Str.ofString "forms") (Fr.put (Str.ofString "count") (Fr.put (Str.ofString "own") ((by assumption)) rfl) rfl) rfl) rfl) rfl) rfl) rfl) (by assumption)
    | exact hret _ _ _ _ _ (tw_f (by first | assumption | omega)) (Fr.put (Str.ofString "twelfths") (Fr.put (Str.ofString "spread") (Fr.put (Str.ofString "strength") (Fr.put (Str.ofString "shown") (Fr.put (Str.ofString "forms") (Fr.put (Str.ofString "count") (Fr.put (Str.ofString "own") ((by assumption)) rfl) rfl) rfl) rfl) rfl) rfl) rfl) (by assumption)
    | trace_state
end Mine
end
section
open _root_.PySem _root_.PySem.W _root_.PySem.W.X _root_.PyProof.Rows
set_option Elab.async false
set_option maxRecDepth 100000
set_option maxHeartbeats 0
namespace Mine
local macro_rules | `(tactic| walk_at "none") => `(tactic| skip)
theorem rs82 : True := by w_top off; trivial
local macro_rules | `(tactic| walk_at "RangeRest") => `(tactic| (refine Halt.go ?_))
theorem s20 {w : World} {loose : List Str} {mean : ExcName → Option Value} {mg mb : Str → Option Value} {base : Heap} {L fa : Addr} {cd : Value} {m : Str → Option Value} {s : Shared} {Q : Flow → Shared → Prop} {E : Value → Shared → Prop}
   (cB : Below callerA base [] base) (cX : (Mine.hd.heap_39 w.params).In base) (cT : Top Mine.hd.view_39 loose mean mg mb base) (hE : PassesOwn (model PP w) (lawA L fa cd) (lawEnv L fa cd) E)
   {o1 o2 o3 o4 o5 o6 o7 : Obj} {ns : List (Addr × Obj)} (hns : ∀ p ∈ ns, (Off7 L p.1))
   {l lb lo lf ls lp : Addr} {fr gr ct sg sp tv b0 b1 b2 w0 w1 w2 : Int} {tf tg tc ts tp tt u0 u1 u2 v0 v1 v2 : Tok} (b0a : 2 ≤ b0) (b0b : b0 ≤ 3) (b1a : 2 ≤ b1) (b1b : b1 ≤ 3) (b2a : 2 ≤ b2) (b2b : b2 ≤ 3)
   (cF : Fr base L s.heap (fun y => if y = Str.ofString "twelfths" then some (.int tv tt) else if y = Str.ofString "spread" then some (.int sp tp) else if y = Str.ofString "strength" then some (.int sg ts) else if y = Str.ofString "shown" then some (.ref ls) else if y = Str.ofString "forms" then some (.ref lf) else if y = Str.ofString "count" then some (.int ct tc) else if y = Str.ofString "own" then some (.ref lo) else m y)) (cN : News base L s.heap ((lo, LCg.lst [.int w0 v0, .int w1 v1, .int w2 v2]) :: (lb, LCg.lst [.int b0 u0, .int b1 u1, .int b2 u2]) :: (L + 1 + 1 + 1 + 1 + 1 + 1 + 1, o7) :: (L + 1 + 1 + 1 + 1 + 1 + 1, o6) :: (L + 1 + 1 + 1 + 1 + 1, o5) :: (L + 1 + 1 + 1 + 1, o4) :: (L + 1 + 1 + 1, o3) :: (L + 1 + 1, o2) :: (L + 1, o1) :: ns))
   (d1 : o1.data = .cell (some (.ref l))) (d2 : o2.data = .cell (some (.ref lb))) (d3 : o3.data = .cell (some (.int fr tf))) (d4 : o4.data = .cell (some (.int gr tg))) (d5 : o5.data = .cell (some (.ref lp)))
   (hret : ∀ (m' : Str → Option Value) (h' : Heap) (tk' : Nat) (t : Tok), Fr base L h' (fun y => if y = Str.ofString "twelfths" then some (.int (twN sg fr b0 b1 b2 w0 w1 w2 3 0 tv) t) else if y = Str.ofString "spread" then some (.int sp tp) else if y = Str.ofString "strength" then some (.int sg ts) else if y = Str.ofString "shown" then some (.ref ls) else if y = Str.ofString "forms" then some (.ref lf) else if y = Str.ofString "count" then some (.int ct tc) else if y = Str.ofString "own" then some (.ref lo) else m' y) → News base L h' ((lo, LCg.lst [.int w0 v0, .int w1 v1, .int w2 v2]) :: (lb, LCg.lst [.int b0 u0, .int b1 u1, .int b2 u2]) :: (L + 1 + 1 + 1 + 1 + 1 + 1 + 1, o7) :: (L + 1 + 1 + 1 + 1 + 1 + 1, o6) :: (L + 1 + 1 + 1 + 1 + 1, o5) :: (L + 1 + 1 + 1 + 1, o4) :: (L + 1 + 1 + 1, o3) :: (L + 1 + 1, o2) :: (L + 1, o1) :: ns) → Q .next { s with heap := h', toks := tk' }) :
   wpAny (model PP w) (lawA L fa cd) (exec (st 20) (lawEnv L fa cd)) Q E s := by
  conv in (st 20) => whnf
  unfold lawA lawEnv
  conv in (occs := *) lawScope => all_goals whnf
  with_reducible refine wp_gen fun tk0 => ?_
  with_reducible refine letN cN ?_
  intro nz0 cN0
  clear cN
  with_reducible refine letF cF ?_
  intro mz0 cF0
  clear cF
  with_reducible refine letA ?_
  intro A0
  (repeat' (first | (k_unfold; (try dsimp only)) | (k_end; wrow_close) | (k_end; first | (k_dflt (refine UnrEnd.go (by k_asm) (by k_asm) (by assumption) ?_))) | (((with_reducible show wpAny _ _ (pyIter (Value.ref _)) (fun it s₂ => LoopAtV _ _ _ _ _ _ _ _ _ it s₂) _ _); k_dflt (first | (refine iter_rangeUnr (n := 3) (by rfl) (by assumption) (by decide) (by decide) (by k_asm) (by k_asm) ?_)); intro _ _)) | walk1 | (dsimp only; walk1) | (leave1; try dsimp only) | fail "no step"))
  unfold Halt
  refine rr_put (Str.ofString "own") rfl (rr_put (Str.ofString "count") rfl (rr_put (Str.ofString "forms") rfl (rr_put (Str.ofString "shown") rfl (rr_put (Str.ofString "strength") rfl (rr_put (Str.ofString "spread") rfl (rr_put (Str.ofString "twelfths") rfl (loop20 (by assumption) (by assumption) (by assumption) (by assumption) b0a b0b b1a b1b b2a b2b (by assumption) (by assumption) (by assumption) 3 0 _ _ _ rfl ?_)))))))
  intro m9 h9 k9 t9 F9 N9
  (repeat' (first | (k_unfold; (try dsimp only)) | (k_end; wrow_close) | (k_end; first | (k_dflt (refine UnrEnd.go (by k_asm) (by k_asm) (by assumption) ?_))) | (((with_reducible show wpAny _ _ (pyIter (Value.ref _)) (fun it s₂ => LoopAtV _ _ _ _ _ _ _ _ _ it s₂) _ _); k_dflt (first | (refine iter_rangeUnr (n := 3) (by rfl) (by assumption) (by decide) (by decide) (by k_asm) (by k_asm) ?_)); intro _ _)) | walk1 | (dsimp only; walk1) | (leave1; try dsimp only) | fail "no step"))
  exact hret _ _ _ _ (Fr.put (Str.ofString "twelfths") (Fr.put (Str.ofString "spread") (Fr.put (Str.ofString "strength") (Fr.put (Str.ofString "shown") (Fr.put (Str.ofString "forms") (Fr.put (Str.ofString "count") (Fr.put (Str.ofString "own") ((by assumption)) rfl) rfl) rfl) rfl) rfl) rfl) rfl) (by assumption)
end Mine
end
section
open _root_.PySem _root_.PySem.W _root_.PySem.W.X _root_.PyProof.Rows
set_option Elab.async false
set_option maxRecDepth 100000
set_option maxHeartbeats 0
namespace Mine
theorem rs83 : True := by w_top off; trivial
local macro_rules | `(tactic| k_updF) => `(tactic| first | (refine' UpdF.head ?a; (case a => (repeat (refine all_cons (by first | k_ne | omega) ?_)); first | exact all_off1 (by assumption) | exact all_off2 (by assumption) | exact all_off3 (by assumption) | exact all_off4 (by assumption) | exact all_off5 (by assumption) | exact all_off6 (by assumption) | exact all_off7 (by assumption) | (intro p hp; cases hp))) | (refine' UpdF.tail ?a ?b; (case a => first | k_ne | omega); (case b => k_updF)))
local macro_rules | `(tactic| walk_at "binaryOp Div int int") => `(tactic| (k_here; k_dflt (refine' den_divT (by exact rfl) (Den.int _ _) (Den.int _ _) (by assumption) (by assumption) (by assumption) ?_); intro r9 t9 tk9 d9 n9 q9; (try dsimp only at n9 q9)))
theorem s21 {w : World} {loose : List Str} {mean : ExcName → Option Value} {mg mb : Str → Option Value} {base : Heap} {L fa : Addr} {cd : Value} {m : Str → Option Value} {s : Shared} {Q : Flow → Shared → Prop} {E : Value → Shared → Prop}
   (cB : Below callerA base [] base) (cX : (Mine.hd.heap_39 w.params).In base) (cT : Top Mine.hd.view_39 loose mean mg mb base) (hE : PassesOwn (model PP w) (lawA L fa cd) (lawEnv L fa cd) E)
   {o1 o2 o3 o4 o5 o6 o7 : Obj} {ns : List (Addr × Obj)} (hns : ∀ p ∈ ns, (Off7 L p.1))
   {l lb lo lf ls lp : Addr} {fr gr ct sg sp tv : Int} {tf tg tc ts tp tt : Tok} (e1 : Small (tv.fmod 12)) (e2 : Small 12) (e3 : ¬ (12 : Int) = 0) (e4 : Small sp) (e5 : Small (gr + sp)) (e6 : ¬ gr + sp = 0) (hpos : 0 < s.toks)
   (cF : Fr base L s.heap (fun y => if y = Str.ofString "twelfths" then some (.int tv tt) else if y = Str.ofString "spread" then some (.int sp tp) else if y = Str.ofString "strength" then some (.int sg ts) else if y = Str.ofString "shown" then some (.ref ls) else if y = Str.ofString "forms" then some (.ref lf) else if y = Str.ofString "count" then some (.int ct tc) else if y = Str.ofString "own" then some (.ref lo) else m y)) (cN : News base L s.heap ((L + 1 + 1 + 1 + 1 + 1 + 1 + 1, o7) :: (L + 1 + 1 + 1 + 1 + 1 + 1, o6) :: (L + 1 + 1 + 1 + 1 + 1, o5) :: (L + 1 + 1 + 1 + 1, o4) :: (L + 1 + 1 + 1, o3) :: (L + 1 + 1, o2) :: (L + 1, o1) :: ns))
   (d1 : o1.data = .cell (some (.ref l))) (d2 : o2.data = .cell (some (.ref lb))) (d3 : o3.data = .cell (some (.int fr tf))) (d4 : o4.data = .cell (some (.int gr tg))) (d5 : o5.data = .cell (some (.ref lp)))
   (hret : ∀ (m' : Str → Option Value) (h' : Heap) (tk' : Nat) (ld : Addr) (hv sv : UInt64) (t1 t2 t3 : Tok), Frac hv (tv.fmod 12) 12 → Frac sv sp (gr + sp) → @Ne Nat t1 0 → @Ne Nat t2 0 → Fr base L h' (fun y => if y = Str.ofString "due" then some (.ref ld) else if y = Str.ofString "twelfths" then some (.int tv tt) else if y = Str.ofString "spread" then some (.int sp tp) else if y = Str.ofString "strength" then some (.int sg ts) else if y = Str.ofString "shown" then some (.ref ls) else if y = Str.ofString "forms" then some (.ref lf) else if y = Str.ofString "count" then some (.int ct tc) else if y = Str.ofString "own" then some (.ref lo) else m' y) → News base L h' ((ld, { cls := .type "tuple", data := .seq #[.float hv t1, .float sv t2, .int (gr + sp) t3] }) :: (L + 1 + 1 + 1 + 1 + 1 + 1 + 1, o7) :: (L + 1 + 1 + 1 + 1 + 1 + 1, o6) :: (L + 1 + 1 + 1 + 1 + 1, o5) :: (L + 1 + 1 + 1 + 1, o4) :: (L + 1 + 1 + 1, o3) :: (L + 1 + 1, o2) :: (L + 1, o1) :: ns) → Q .next { s with heap := h', toks := tk' }) :
   wpAny (model PP w) (lawA L fa cd) (exec (st 21) (lawEnv L fa cd)) Q E s := by
  conv in (st 21) => whnf
  unfold lawA lawEnv
  conv in (occs := *) lawScope => all_goals whnf
  with_reducible refine wp_gen fun tk0 => ?_
  with_reducible refine letN cN ?_
  intro nz0 cN0
  clear cN
  with_reducible refine letF cF ?_
  intro mz0 cF0
  clear cF
  with_reducible refine letA ?_
  intro A0
  k_steps
  rename_i fx nx
  refine' hret _ _ _ _ _ _ _ _ _ ?a ?b ?c ?d (Fr.put (Str.ofString "due") (Fr.put (Str.ofString "twelfths") (Fr.put (Str.ofString "spread") (Fr.put (Str.ofString "strength") (Fr.put (Str.ofString "shown") (Fr.put (Str.ofString "forms") (Fr.put (Str.ofString "count") (Fr.put (Str.ofString "own") (fx) rfl) rfl) rfl) rfl) rfl) rfl) rfl) rfl) nx
  case a => assumption
  case b => assumption
  case c => omega
  case d => omega
end Mine
end
section
open _root_.PySem _root_.PySem.W _root_.PySem.W.X _root_.PyProof.Rows _root_.PySem.SeqAt
set_option Elab.async false
set_option maxRecDepth 100000
set_option maxHeartbeats 0
namespace Mine
theorem rs84 : True := by w_top off; trivial
theorem told_none (P : Params) : nsIn (Mine.hd.heap_39 P) cStatics sharingNotToldKey = some none := by rfl
section
variable {prog : Program} {w : World} {A : Around} {E : Value → Shared → Prop} {s : Shared} {Q : Bool → Shared → Prop} {P : Params}
theorem not_told {t : Tok} (c : (Mine.hd.heap_39 P).In s.heap) (h : Q false s) : wpAny (model prog w) A (sharingNotTold t) Q E s := by
  unfold sharingNotTold
  exact wpAny_bind ((looks_nsIn c (told_none P)).here (wpAny_pure h))
theorem same_float {x y : UInt64} {t u : Tok} (c : (Mine.hd.heap_39 P).In s.heap) (ht : t ≠ 0) (hu : u ≠ 0) (hq : ∀ b, Q b s) : wpAny (model prog w) A (isSame (.float x t) (.float y u)) Q E s := by
  show wpAny _ A (isSame.created (x == y && !Float64.isNaN x) t u) Q E s
  unfold isSame.created
  refine wpAny_ite ?_
  split
  · rename_i h
    rcases Bool.or_eq_true _ _ |>.mp h with h | h
    · exact absurd (beq_iff_eq.mp h) ht
    · exact absurd (beq_iff_eq.mp h) hu
  refine wpAny_ite ?_
  split
  · exact wpAny_pure (hq _)
  refine wpAny_ite ?_
  split
  · exact wpAny_pure (hq _)
  refine wpAny_bind (not_told c ?_)
  simp only [Bool.false_eq_true, if_false]
  refine wpAny_bind (not_told c ?_)
  simp only [Bool.false_eq_true, if_false]
  exact wpAny_bind (wpAny_rule (wpAny_bind (wpAny_askSetting (wpAny_pure (hq _)))))
theorem eqAt_float {x y : UInt64} {t u : Tok} (c : (Mine.hd.heap_39 P).In s.heap) (ht : t ≠ 0) (hu : u ≠ 0) (h : (Float64.cmp x y == some Ordering.eq) = true) : EqAt A s (.float x t) (.float y u) true := fun prog w E Q hq => by
  unfold eqBool
  refine wpAny_holding ?_
  refine wpAny_ite_split (fun _ => ?_) (fun hab => ?_)
  · exact wpAny_bind (wpAny_rule (wpAny_pure hq))
  · refine wpAny_bind (same_float c ht hu fun b => ?_)
    cases b with
    | true => exact wpAny_pure hq
    | false =>
      have hc : wpAny (model prog w) A (compareOp .Eq (.float x t) (.float y u)) (fun v s' => wpAny (model prog w) A (truthOfDropped v) Q E s') E s := AutoFloatOps.eq_0 (by rw [h]; exact wpAny_truthy_bool hq)
      exact wpAny_bind hc
theorem eqAt_den {v : Value} {n : Int} {u : Tok} (hv : Den v n) : EqAt A s v (.int n u) true := by
  rcases hv with ⟨t, rfl⟩ | ⟨b, t, rfl, hb⟩
  · have := (MeetsSeq.EqGives.int n n t u).at A s
    rw [beq_self_eq_true] at this
    exact this
  · intro prog w E Q hq
    unfold eqBool
    refine wpAny_holding ?_
    refine wpAny_ite_split (fun _ => ?_) (fun hab => ?_)
    · exact wpAny_bind (wpAny_rule (wpAny_pure hq))
    · have hc : wpAny (model prog w) A (compareOp .Eq (.float b t) (.int n u)) (fun v s' => wpAny (model prog w) A (truthOfDropped v) Q E s') E s := eq_fi (by rw [cmpInt_fi hb, cmp_eq_dec, decide_eq_true rfl]; exact wpAny_truthy_bool hq)
      exact wpAny_bind hc
end
end Mine
end
section
open _root_.PySem _root_.PySem.W _root_.PySem.W.X _root_.PyProof.Rows
set_option Elab.async false
set_option maxRecDepth 100000
set_option maxHeartbeats 0
namespace Mine
local macro_rules | `(tactic| walk_at "none") => `(tactic| skip)
theorem rs85 : True := by w_top off; trivial
local macro_rules | `(tactic| k_updF) => `(tactic| first | (refine' UpdF.head ?a; (case a => (repeat (refine all_cons (by first | k_ne | omega) ?_)); first | exact all_off1 (by assumption) | exact all_off2 (by assumption) | exact all_off3 (by assumption) | exact all_off4 (by assumption) | exact all_off5 (by assumption) | exact all_off6 (by assumption) | exact all_off7 (by assumption) | (intro p hp; cases hp))) | (refine' UpdF.tail ?a ?b; (case a => first | k_ne | omega); (case b => k_updF)))
theorem due_at {w : World} {A : Around} {s : Shared} {h1 s1 h2 s2 : UInt64} {v : Value} {V : Int} {t1 t2 u1 u2 u3 : Tok} (c : (Mine.hd.heap_39 w.params).In s.heap) (n1 : @Ne Nat t1 0) (n2 : @Ne Nat t2 0) (m1 : @Ne Nat u1 0) (m2 : @Ne Nat u2 0)
    (e : (Float64.cmp h1 h2 == some Ordering.eq) = true ∧ (Float64.cmp s1 s2 == some Ordering.eq) = true) (d : Den v V) :
    ∀ j (q1 : j < (#[Value.float h1 t1, Value.float s1 t2, v] : Array Value).size) (q2 : j < (#[Value.float h2 u1, Value.float s2 u2, Value.int V u3] : Array Value).size),
      PySem.SeqAt.EqAt A s (#[Value.float h1 t1, Value.float s1 t2, v] : Array Value)[j] (#[Value.float h2 u1, Value.float s2 u2, Value.int V u3] : Array Value)[j] ((fun _ => true) j) := by
  intro j q1 q2
  match j, q1, q2 with
  | 0, _, _ => exact eqAt_float c n1 m1 e.1
  | 1, _, _ => exact eqAt_float c n2 m2 e.2
  | 2, _, _ => exact eqAt_den d
  | n + 3, q1, _ => exact absurd q1 (by simp)
theorem news_tup {h₀ h : Heap} {L : Addr} {news : List (Addr × Obj)} {a : Addr} {its : Array Value} (N : News h₀ L h news) (hm : (a, ({ cls := .type "tuple", data := .seq its } : Obj)) ∈ news) : h.IsTuple a its := ⟨_, (N _ hm).1, rfl, 0, rfl⟩
local macro_rules | `(tactic| walk_at "compareOp Eq ref ref") => `(tactic| (refine Halt.go ?_))
theorem s22 {w : World} {loose : List Str} {mean : ExcName → Option Value} {mg mb : Str → Option Value} {base : Heap} {L fa : Addr} {cd : Value} {m : Str → Option Value} {s : Shared} {Q : Flow → Shared → Prop} {E : Value → Shared → Prop}
   (cB : Below callerA base [] base) (cX : (Mine.hd.heap_39 w.params).In base) (cT : Top Mine.hd.view_39 loose mean mg mb base) (hE : PassesOwn (model PP w) (lawA L fa cd) (lawEnv L fa cd) E)
   {o1 o2 o3 o4 o5 o6 o7 : Obj} {ns : List (Addr × Obj)} (hns : ∀ p ∈ ns, (Off7 L p.1))
   {l lb lo lf ls lp ld : Addr} {fr gr ct p q r V : Int} {tf tg tc t1 t2 t3 : Tok} {x y z : Value} {hv sv : UInt64} (hx : Den x p) (hy : Den y q) (hz : Den z r) (a0 : 0 < p) (b0 : 0 < q) (c0 : 0 < r) (a1 : p < 1000000000) (b1 : q < 1000000000) (c1 : r < 1000000000) (hpos : 0 < s.toks) (m1 : @Ne Nat t1 0) (m2 : @Ne Nat t2 0) (hfin : ∀ h' s', Hsv p q r h' s' → (Float64.cmp h' hv == some Ordering.eq) = true ∧ (Float64.cmp s' sv == some Ordering.eq) = true) (hV : mx p q r = V)
   (cF : Fr base L s.heap (fun y => if y = Str.ofString "due" then some (.ref ld) else if y = Str.ofString "shown" then some (.ref ls) else if y = Str.ofString "forms" then some (.ref lf) else if y = Str.ofString "count" then some (.int ct tc) else if y = Str.ofString "own" then some (.ref lo) else m y)) (cN : News base L s.heap ((ld, { cls := .type "tuple", data := .seq #[.float hv t1, .float sv t2, .int V t3] }) :: (ls, LCg.lst [x, y, z]) :: (L + 1 + 1 + 1 + 1 + 1 + 1 + 1, o7) :: (L + 1 + 1 + 1 + 1 + 1 + 1, o6) :: (L + 1 + 1 + 1 + 1 + 1, o5) :: (L + 1 + 1 + 1 + 1, o4) :: (L + 1 + 1 + 1, o3) :: (L + 1 + 1, o2) :: (L + 1, o1) :: ns))
   (d1 : o1.data = .cell (some (.ref l))) (d2 : o2.data = .cell (some (.ref lb))) (d3 : o3.data = .cell (some (.int fr tf))) (d4 : o4.data = .cell (some (.int gr tg))) (d5 : o5.data = .cell (some (.ref lp)))
   (hret : ∀ (m' : Str → Option Value) (h' : Heap) (tk' : Nat) (nw : List (Addr × Obj)), Fr base L h' m' → News base L h' nw → Q (.ret (.bool true)) { s with heap := h', toks := tk' }) :
   wpAny (model PP w) (lawA L fa cd) (exec (st 22) (lawEnv L fa cd)) Q E s := by
  conv in (st 22) => whnf
  unfold lawA lawEnv
  conv in (occs := *) lawScope => all_goals whnf
  (repeat' (first | (k_unfold; (try dsimp only)) | (k_end; wrow_close) | ((k_here; (with_reducible show wpAny _ _ (call (Value.ref 71) _) _ _ _); k_dflt (refine' c_rgb (by walk_at "cx") (by assumption) (by assumption) (by assumption) (by assumption) (by assumption) (by assumption) (by assumption) (by assumption) (by assumption) (by (try dsimp only); first | assumption | omega) ?_); intro _ _ _ _ _ _ _ _ _ _ _ _ _ _ _; (try dsimp only); (try k_fold))) | walk1 | (dsimp only; walk1) | (leave1; try dsimp only) | fail "no step"))
  unfold Halt
  refine' PySem.SeqAt.eq_tupleAt (e := fun _ => true) ?hl ?hb ?hu ?he ?_
  case hl => exact news_tup (by assumption) (by (repeat (first | exact List.Mem.head _ | assumption | refine List.Mem.tail _ ?_)))
  case hb => exact news_tup (by assumption) (by (repeat (first | exact List.Mem.head _ | assumption | refine List.Mem.tail _ ?_)))
  case hu => ktr_units
  case he => exact due_at (cX.keeps (by assumption : Fr base L _ _).keep) (by assumption) (by assumption) m1 m2 (hfin _ _ (by assumption)) (hV ▸ (by assumption))
  exact hret _ _ _ _ (by assumption) (by assumption)
end Mine
end
section
open _root_.PySem _root_.PySem.W _root_.PySem.W.X _root_.PyProof.Rows
set_option Elab.async false
set_option maxRecDepth 100000
set_option maxHeartbeats 0
namespace Mine
theorem rs86 : True := by w_top off; trivial
theorem le2 {w b : Int} (h : w < b) (hb : b ≤ 3) : w ≤ 2 := by omega
theorem len3 {n : Nat} {ct fr : Int} (h : ct = (n : Int)) (hn : ct ≤ fr) (f1 : fr ≤ 3) : n ≤ 3 := by omega
theorem dg65 {a b c : Int} (h : 0 ≤ a ∧ a ≤ 2 ∧ 0 ≤ b ∧ b ≤ 2 ∧ 0 ≤ c ∧ c ≤ 2) : 65 ≤ 65 + a ∧ 65 + a ≤ 67 ∧ 65 ≤ 65 + b ∧ 65 + b ≤ 67 ∧ 65 ≤ 65 + c ∧ 65 + c ≤ 67 :=
  ⟨Int.le_add_of_nonneg_right h.1, Int.add_le_add_left h.2.1 65, Int.le_add_of_nonneg_right h.2.2.1, Int.add_le_add_left h.2.2.2.1 65, Int.le_add_of_nonneg_right h.2.2.2.2.1, Int.add_le_add_left h.2.2.2.2.2 65⟩
theorem pbig {p : Int} (h : p.natAbs ≤ 0 + 125000 * 12) : p.natAbs ≤ 100000000 := by omega
theorem small_fm {x : Int} : Small (x.fmod 12) := by
  have h := fmod_nn (x := x) (c := 12) (by decide)
  unfold Small; omega
theorem max3_le {a b c M : Int} (h0 : a ≤ M) (h1 : b ≤ M) (h2 : c ≤ M) : mx a b c ≤ M := Int.max_le.mpr ⟨h0, Int.max_le.mpr ⟨h1, h2⟩⟩
theorem big13 {p q r mm gr sp : Int} (P0 : p.natAbs ≤ 0 + 125000 * 12) (P1 : q.natAbs ≤ 0 + 125000 * 12) (P2 : r.natAbs ≤ 0 + 125000 * 12) (g0 : 1 ≤ gr) (g1 : gr ≤ 50) (hmm : min p (min q r) = mm) (hV : mx (p - mm + gr) (q - mm + gr) (r - mm + gr) = gr + sp) (h0 : 0 ≤ sp) :
    Small sp ∧ Small (gr + sp) ∧ ¬ gr + sp = 0 ∧ 0 < p - mm + gr ∧ 0 < q - mm + gr ∧ 0 < r - mm + gr ∧ p - mm + gr < 1000000000 ∧ q - mm + gr < 1000000000 ∧ r - mm + gr < 1000000000 := by
  obtain ⟨p1, p2⟩ := abs_b P0
  obtain ⟨q1, q2⟩ := abs_b P1
  obtain ⟨r1, r2⟩ := abs_b P2
  have m1 : -1500000 ≤ mm := hmm ▸ nat3 p1 q1 r1
  have m2 : mm ≤ p := hmm ▸ Int.min_le_left _ _
  have m3 : mm ≤ q := hmm ▸ Int.le_trans (Int.min_le_right _ _) (Int.min_le_left _ _)
  have m4 : mm ≤ r := hmm ▸ Int.le_trans (Int.min_le_right _ _) (Int.min_le_right _ _)
  have up : ∀ {x : Int}, x ≤ 1500000 → mm ≤ x → 0 < x - mm + gr ∧ x - mm + gr ≤ 4000000 := fun h h' => ⟨by omega, by omega⟩
  have hb : gr + sp ≤ 4000000 := hV ▸ max3_le (up p2 m2).2 (up q2 m3).2 (up r2 m4).2
  have lt : ∀ {x : Int}, x ≤ 4000000 → x < 1000000000 := fun h => Int.lt_of_le_of_lt h (by decide)
  exact ⟨small_b (by omega) (by omega), small_b (by omega) (by omega), by omega, (up p2 m2).1, (up q2 m3).1, (up r2 m4).1, lt (up p2 m2).2, lt (up q2 m3).2, lt (up r2 m4).2⟩
theorem j13 {w : World} {loose : List Str} {mean : ExcName → Option Value} {mg mb : Str → Option Value} {base : Heap} {L fa : Addr} {cd : Value} {m : Str → Option Value} {s : Shared} {Q : Flow → Shared → Prop} {E : Value → Shared → Prop}
   (cB : Below callerA base [] base) (cX : (Mine.hd.heap_39 w.params).In base) (cT : Top Mine.hd.view_39 loose mean mg mb base) (hE : PassesOwn (model PP w) (lawA L fa cd) (lawEnv L fa cd) E)
   {o1 o2 o3 o4 o5 o6 o7 : Obj} {ns : List (Addr × Obj)} (hns : ∀ p ∈ ns, (Off7 L p.1))
   {l lb lo lf : Addr} {fr gr ct b0 b1 b2 w0 w1 w2 : Int} {tf tg tc u0 u1 u2 v0 v1 v2 : Tok} {fs : List Form} {wd td : Array UInt8} {zn : Str} {tw tt tz : Tok} (hlo : (Off7 L lo)) (hlb : (Off7 L lb)) (f0 : 0 ≤ fr) (f1 : fr ≤ 3) (g0 : 1 ≤ gr) (g1 : gr ≤ 50) (hB : BT b0 b1 b2) (a0 : 0 ≤ w0) (a1 : w0 < b0) (c0 : 0 ≤ w1) (c1 : w1 < b1) (e0 : 0 ≤ w2) (e1 : w2 < b2)
   (hct : ct = (fs.length : Int)) (hn : ct ≤ fr) (hm : fr ≤ ct + 2) (hbd : ∀ x ∈ fs, (-4 ≤ x.b ∧ x.b ≤ 4) ∧ (-7 ≤ x.f ∧ x.f ≤ 7)) (hlf : (lf, formsO fs fs.length) ∈ ns) (hin : ∀ x ∈ fs, x.In ns) (hwd : KBw.bInts wd = ksT b0 b1 b2) (htd : KBw.bInts td = tsT b0 b1 b2) (hzn : zn = znT fr w0 w1 w2) (hpos : 0 < s.toks)
   (cF : Fr base L s.heap (fun y => if y = Str.ofString "turned" then some (.bytes td tt) else if y = Str.ofString "zone" then some (.str zn tz) else if y = Str.ofString "words" then some (.bytes wd tw) else if y = Str.ofString "forms" then some (.ref lf) else if y = Str.ofString "count" then some (.int ct tc) else if y = Str.ofString "own" then some (.ref lo) else m y)) (cN : News base L s.heap ((lo, LCg.lst [.int w0 v0, .int w1 v1, .int w2 v2]) :: (lb, LCg.lst [.int b0 u0, .int b1 u1, .int b2 u2]) :: (L + 1 + 1 + 1 + 1 + 1 + 1 + 1, o7) :: (L + 1 + 1 + 1 + 1 + 1 + 1, o6) :: (L + 1 + 1 + 1 + 1 + 1, o5) :: (L + 1 + 1 + 1 + 1, o4) :: (L + 1 + 1 + 1, o3) :: (L + 1 + 1, o2) :: (L + 1, o1) :: ns))
   (d1 : o1.data = .cell (some (.ref l))) (d2 : o2.data = .cell (some (.ref lb))) (d3 : o3.data = .cell (some (.int fr tf))) (d4 : o4.data = .cell (some (.int gr tg))) (d5 : o5.data = .cell (none)) (d6 : o6.data = .cell (none)) (d7 : o7.data = .cell (none))
   (hret : ∀ (m' : Str → Option Value) (h' : Heap) (tk' : Nat) (nw : List (Addr × Obj)), Fr base L h' m' → News base L h' nw → Q (.ret (.bool true)) { s with heap := h', toks := tk' }) :
   wpAny (model PP w) (lawA L fa cd) (execs [st 13, st 14, st 15, st 16, st 17, st 18, st 19, st 20, st 21, st 22] (lawEnv L fa cd)) Q E s := by
  obtain ⟨k1, k2, k3, k4, k5, k6, b0a, b0b, b1a, b1b, b2a, b2b⟩ := bt_facts hB
  obtain ⟨y0, y1, y2, y3⟩ := zone_facts (fr := fr) (x := w0) (y := w1) (z := w2) f0 f1 a0 (le2 a1 b0b) c0 (le2 c1 b1b) e0 (le2 e1 b2b)
  rw [← hzn] at y0 y1
  have hn3 : fs.length ≤ 3 := len3 hct hn f1
  have hbd2 : ∀ i, i < 12 → ∀ x ∈ fs, -4 ≤ x.b ∧ x.b ≤ 4 ∧ (x.val [gd b0.toNat b1.toNat i 0, gd b0.toNat b1.toNat i 1, gd b0.toNat b1.toNat i 2] [fd b0.toNat b1.toNat i 0, fd b0.toNat b1.toNat i 1, fd b0.toNat b1.toNat i 2]).natAbs ≤ 50 := fun i hi x hx => by
    obtain ⟨⟨p1, p2⟩, p3, p4⟩ := hbd x hx
    exact ⟨p1, p2, val50 p1 p2 p3 p4 (k5 i hi)⟩
  have hVb : ∀ i, i < 12 → (lt3 b0.toNat b1.toNat fs i).natAbs ≤ 125000 := fun i hi => lt3_abs hn3 fun x hx => (hbd2 i hi x hx).2.2
  have hP := fun j => prt_abs (H := inZ b0.toNat b1.toNat fr w0 w1 w2) (V := lt3 b0.toNat b1.toNat fs) (S := sxt b0.toNat b1.toNat b2.toNat) (j := j) hVb 12 0 0 rfl
  have P0 := hP 0
  have P1 := hP 1
  have P2 := hP 2
  clear hP
  rw [show (0 : Int).natAbs = 0 from rfl] at P0 P1 P2
  have hns1 := hall_cons (P := fun p => (Off7 L p.1)) (a := (lo, LCg.lst [.int w0 v0, .int w1 v1, .int w2 v2])) hlo (hall_cons (P := fun p => (Off7 L p.1)) (a := (lb, LCg.lst [.int b0 u0, .int b1 u1, .int b2 u2])) hlb hns)
  refine wpAny_execs_cons (wpAny_toks (s13 cB cX cT hE hns1 cF (news_drop cN (by (repeat (refine sub_cons (by repeat (first | exact List.Mem.head _ | refine List.Mem.tail _ ?_)) ?_)); exact fun p hp => by repeat (first | exact hp | refine List.Mem.tail _ ?_))) d1 d2 d3 d4 d5 d6 d7 ?_))
  intro m1 h1 t1 q5 lp kp s0 s1 s2 hlt hlp e5 F1 N1 hle
  have hpos1 := Nat.lt_of_lt_of_le hpos hle
  clear hle
  refine wpAny_execs_cons (wpAny_toks (s14 (s := { s with heap := h1, toks := t1 }) cB cX cT hE hns hlp f0 b0a b0b b1a b1b b2a b2b hlo hlb hwd k1 htd k2 (f := fd b0.toNat b1.toNat) (g := gd b0.toNat b1.toNat) k3 k4
    (fun i hi => dg65 (k5 i hi))
    (fun i hi => by obtain ⟨z0, z1, z2, z3, z4, z5⟩ := k5 i hi; exact host_facts z0 z1 z2 z3 z4 z5)
    y0 y1 y2 y3 hlf hin hn3 hbd2 (H := inZ b0.toNat b1.toNat fr w0 w1 w2) (V := lt3 b0.toNat b1.toNat fs) (S := sxt b0.toNat b1.toNat b2.toNat) (fun i _ => rfl)
    (fun i hi => by exact udm_in f0 f1 a0 (le2 a1 b0b) c0 (le2 c1 b1b) e0 (le2 e1 b2b) (k5 i hi)) (fun i _ => rfl) (fun i _ => ?_) k6 hVb F1 (news_drop N1 (by (repeat (refine sub_cons (by repeat (first | exact List.Mem.head _ | refine List.Mem.tail _ ?_)) ?_)); exact fun p hp => by repeat (first | exact hp | refine List.Mem.tail _ ?_))) d1 d2 d3 d4 e5 d6 d7 ?_))
  · rcases hB with ⟨rfl, rfl, rfl⟩ | ⟨rfl, rfl, rfl⟩ | ⟨rfl, rfl, rfl⟩ <;> rfl
  intro m2 h2 t2 q5' q6 q7 lp' kp' x' y' z' hlp' dx dy dz e5' F2 N2 hle
  have hpos2 := Nat.lt_of_lt_of_le hpos1 hle
  clear hle N1 F1
  generalize hp : prt (inZ b0.toNat b1.toNat fr w0 w1 w2) (lt3 b0.toNat b1.toNat fs) (sxt b0.toNat b1.toNat b2.toNat) 0 12 0 0 = p at *
  generalize hq : prt (inZ b0.toNat b1.toNat fr w0 w1 w2) (lt3 b0.toNat b1.toNat fs) (sxt b0.toNat b1.toNat b2.toNat) 1 12 0 0 = q at *
  generalize hr : prt (inZ b0.toNat b1.toNat fr w0 w1 w2) (lt3 b0.toNat b1.toNat fs) (sxt b0.toNat b1.toNat b2.toNat) 2 12 0 0 = r at *
  obtain ⟨T, hT, u1', u2', htw, hpar⟩ := plain (fs := fs) hB f0 f1 a0 a1 c0 c1 e0 e1 (hct ▸ hn)
  rw [hp, hq] at u1'
  rw [hq, hr] at u2'
  refine wpAny_execs_cons (wpAny_toks (s15 (s := { s with heap := h2, toks := t2 }) cB cX cT hE hns1 hlp' dx dy dz (pbig P0) (pbig P1) (pbig P2) g0 g1 (Fr.put (Str.ofString "forms") (Fr.put (Str.ofString "count") (Fr.put (Str.ofString "own") (F2) rfl) rfl) rfl) (news_drop N2 (by (repeat (refine sub_cons (by repeat (first | exact List.Mem.head _ | refine List.Mem.tail _ ?_)) ?_)); exact fun p hp => by repeat (first | exact hp | refine List.Mem.tail _ ?_))) d1 d2 d3 d4 e5' ?_))
  intro m3 h3 t3 ls x1 y1 z1 dx1 dy1 dz1 hls F3 N3 hle
  have hpos3 := Nat.lt_of_lt_of_le hpos2 hle
  clear hle N2 F2
  have hns2 := hall_cons (P := fun p => (Off7 L p.1)) (a := (ls, LCg.lst [x1, y1, z1])) hls hns1
  have hlf2 : (lf, formsO fs fs.length) ∈ (ls, LCg.lst [x1, y1, z1]) :: (lo, LCg.lst [.int w0 v0, .int w1 v1, .int w2 v2]) :: (lb, LCg.lst [.int b0 u0, .int b1 u1, .int b2 u2]) :: ns := .tail _ (.tail _ (.tail _ hlf))
  have hin2 : ∀ x ∈ fs, x.In ((ls, LCg.lst [x1, y1, z1]) :: (lo, LCg.lst [.int w0 v0, .int w1 v1, .int w2 v2]) :: (lb, LCg.lst [.int b0 u0, .int b1 u1, .int b2 u2]) :: ns) := form_up hin fun p hp => .tail _ (.tail _ (.tail _ hp))
  have N3 : News base L h3 ((L + 1 + 1 + 1 + 1 + 1 + 1 + 1, q7) :: (L + 1 + 1 + 1 + 1 + 1 + 1, q6) :: (L + 1 + 1 + 1 + 1 + 1, q5') :: (L + 1 + 1 + 1 + 1, o4) :: (L + 1 + 1 + 1, o3) :: (L + 1 + 1, o2) :: (L + 1, o1) :: (ls, LCg.lst [x1, y1, z1]) :: (lo, LCg.lst [.int w0 v0, .int w1 v1, .int w2 v2]) :: (lb, LCg.lst [.int b0 u0, .int b1 u1, .int b2 u2]) :: ns) := news_drop N3 (by (repeat (refine sub_cons (by repeat (first | exact List.Mem.head _ | refine List.Mem.tail _ ?_)) ?_)); exact fun p hp => by repeat (first | exact hp | refine List.Mem.tail _ ?_))
  refine wpAny_execs_cons (wpAny_toks (s16 (s := { s with heap := h3, toks := t3 }) cB cX cT hE hns2 F3 N3 d1 d2 d3 d4 e5' ?_))
  intro m4 h4 t4 tk4 F4 N4 hle
  have hpos4 := Nat.lt_of_lt_of_le hpos3 hle
  clear hle F3 N3
  refine wpAny_execs_cons (wpAny_toks (j17 (s := { s with heap := h4, toks := t4 }) cB cX cT hE hns2 f0 f1 hct hn hm hbd hlf2 hin2 F4 N4 d1 d2 d3 d4 e5' ?_))
  intro m5 h5 t5 tk5 F5 N5 hle
  have hpos5 := Nat.lt_of_lt_of_le hpos4 hle
  clear hle F4 N4
  refine wpAny_execs_cons (wpAny_toks (j18 (s := { s with heap := h5, toks := t5 }) cB cX cT hE hns2 f0 f1 F5 (news_drop N5 (by (repeat (refine sub_cons (by repeat (first | exact List.Mem.head _ | refine List.Mem.tail _ ?_)) ?_)); exact fun p hp => by repeat (first | exact hp | refine List.Mem.tail _ ?_)) : News base L h5 ((lb, LCg.lst [.int b0 u0, .int b1 u1, .int b2 u2]) :: (L + 1 + 1 + 1 + 1 + 1 + 1 + 1, q7) :: (L + 1 + 1 + 1 + 1 + 1 + 1, q6) :: (L + 1 + 1 + 1 + 1 + 1, q5') :: (L + 1 + 1 + 1 + 1, o4) :: (L + 1 + 1 + 1, o3) :: (L + 1 + 1, o2) :: (L + 1, o1) :: (ls, LCg.lst [x1, y1, z1]) :: (lo, LCg.lst [.int w0 v0, .int w1 v1, .int w2 v2]) :: (lb, LCg.lst [.int b0 u0, .int b1 u1, .int b2 u2]) :: ns)) d1 d2 d3 d4 e5' ?_))
  intro m6 h6 t6 sp tk6 hsp F6 N6 hle
  have hpos6 := Nat.lt_of_lt_of_le hpos5 hle
  clear hle F5 N5
  rw [hpar] at hsp
  refine wpAny_execs_cons (wpAny_toks (s19 (s := { s with heap := h6, toks := t6 }) cB cX cT hE hns2 F6 (news_drop N6 (by (repeat (refine sub_cons (by repeat (first | exact List.Mem.head _ | refine List.Mem.tail _ ?_)) ?_)); exact fun p hp => by repeat (first | exact hp | refine List.Mem.tail _ ?_)) : News base L h6 ((L + 1 + 1 + 1 + 1 + 1 + 1 + 1, q7) :: (L + 1 + 1 + 1 + 1 + 1 + 1, q6) :: (L + 1 + 1 + 1 + 1 + 1, q5') :: (L + 1 + 1 + 1 + 1, o4) :: (L + 1 + 1 + 1, o3) :: (L + 1 + 1, o2) :: (L + 1, o1) :: (ls, LCg.lst [x1, y1, z1]) :: (lo, LCg.lst [.int w0 v0, .int w1 v1, .int w2 v2]) :: (lb, LCg.lst [.int b0 u0, .int b1 u1, .int b2 u2]) :: ns)) d1 d2 d3 d4 e5' ?_))
  intro m7 h7 t7 tv tk7 htv F7 N7 hle
  have hpos7 := Nat.lt_of_lt_of_le hpos6 hle
  clear hle F6 N6
  refine wpAny_execs_cons (wpAny_toks (s20 (s := { s with heap := h7, toks := t7 }) cB cX cT hE hns2 b0a b0b b1a b1b b2a b2b F7 (news_drop N7 (by (repeat (refine sub_cons (by repeat (first | exact List.Mem.head _ | refine List.Mem.tail _ ?_)) ?_)); exact fun p hp => by repeat (first | exact hp | refine List.Mem.tail _ ?_)) : News base L h7 ((lo, LCg.lst [.int w0 v0, .int w1 v1, .int w2 v2]) :: (lb, LCg.lst [.int b0 u0, .int b1 u1, .int b2 u2]) :: (L + 1 + 1 + 1 + 1 + 1 + 1 + 1, q7) :: (L + 1 + 1 + 1 + 1 + 1 + 1, q6) :: (L + 1 + 1 + 1 + 1 + 1, q5') :: (L + 1 + 1 + 1 + 1, o4) :: (L + 1 + 1 + 1, o3) :: (L + 1 + 1, o2) :: (L + 1, o1) :: (ls, LCg.lst [x1, y1, z1]) :: (lo, LCg.lst [.int w0 v0, .int w1 v1, .int w2 v2]) :: (lb, LCg.lst [.int b0 u0, .int b1 u1, .int b2 u2]) :: ns)) d1 d2 d3 d4 e5' ?_))
  intro m8 h8 t8 tk8 F8 N8 hle
  have hpos8 := Nat.lt_of_lt_of_le hpos7 hle
  clear hle F7 N7
  subst htv
  obtain ⟨hV, hsp0, hfin⟩ := fin_all hT u1' u2' g0 (htw (sgF fr fs)) hsp
  generalize hmm : min p (min q r) = mm at *
  obtain ⟨y4, y5, y6, y7, y8, y9, ya, yb, yc⟩ := big13 P0 P1 P2 g0 g1 hmm hV hsp0
  refine wpAny_execs_cons (wpAny_toks (s21 (s := { s with heap := h8, toks := t8 }) cB cX cT hE hns2 small_fm (by unfold Small; decide) (by decide) y4 y5 y6 hpos8 F8 (news_drop N8 (by (repeat (refine sub_cons (by repeat (first | exact List.Mem.head _ | refine List.Mem.tail _ ?_)) ?_)); exact fun p hp => by repeat (first | exact hp | refine List.Mem.tail _ ?_)) : News base L h8 ((L + 1 + 1 + 1 + 1 + 1 + 1 + 1, q7) :: (L + 1 + 1 + 1 + 1 + 1 + 1, q6) :: (L + 1 + 1 + 1 + 1 + 1, q5') :: (L + 1 + 1 + 1 + 1, o4) :: (L + 1 + 1 + 1, o3) :: (L + 1 + 1, o2) :: (L + 1, o1) :: (ls, LCg.lst [x1, y1, z1]) :: (lo, LCg.lst [.int w0 v0, .int w1 v1, .int w2 v2]) :: (lb, LCg.lst [.int b0 u0, .int b1 u1, .int b2 u2]) :: ns)) d1 d2 d3 d4 e5' ?_))
  intro m9 h9 t9 ld hv sv i1 i2 i3 dh ds n1 n2 F9 N9 hle
  have hpos9 := Nat.lt_of_lt_of_le hpos8 hle
  clear hle F8 N8
  refine wpAny_execs_cons (s22 (s := { s with heap := h9, toks := t9 }) cB cX cT hE hns2 dx1 dy1 dz1 y7 y8 y9 ya yb yc hpos9 n1 n2 (hfin hv sv dh ds) hV (Fr.put (Str.ofString "due") (Fr.put (Str.ofString "shown") (Fr.put (Str.ofString "forms") (Fr.put (Str.ofString "count") (Fr.put (Str.ofString "own") (F9) rfl) rfl) rfl) rfl) rfl) (news_drop N9 (by (repeat (refine sub_cons (by repeat (first | exact List.Mem.head _ | refine List.Mem.tail _ ?_)) ?_)); exact fun p hp => by repeat (first | exact hp | refine List.Mem.tail _ ?_))) d1 d2 d3 d4 e5' ?_)
  exact hret
end Mine
end
section
open _root_.PySem _root_.PySem.W _root_.PySem.W.X _root_.PyProof.Rows
set_option Elab.async false
set_option maxRecDepth 100000
set_option maxHeartbeats 0
namespace Mine
theorem rs87 : True := by w_top off; trivial
local macro_rules | `(tactic| walk_at "UnrEnd") => `(tactic| (refine Halt.go ?_))
local macro_rules | `(tactic| walk_at "RangeRest") => `(tactic| (refine Halt.go ?_))
theorem mid_loop {w : World} {loose : List Str} {mean : ExcName → Option Value} {mg mb : Str → Option Value} {base : Heap} {L fa : Addr} {cd : Value} {E : Value → Shared → Prop} {Q : Flow → Shared → Prop}
   (cB : Below callerA base [] base) (cX : (Mine.hd.heap_39 w.params).In base) (cT : Top Mine.hd.view_39 loose mean mg mb base) (hE : PassesOwn (model PP w) (lawA L fa cd) (lawEnv L fa cd) E)
   {lb : Addr} {b0 b1 b2 : Int} {u0 u1 u2 : Tok} {o1 o2 o3 o4 o5 o6 o7 : Obj} {ns : List (Addr × Obj)} (hb0 : b0 = 2 ∨ b0 = 3) (hb1 : b1 = 2 ∨ b1 = 3) (hb2 : b2 = 2 ∨ b2 = 3) (d2 : o2.data = .cell (some (.ref lb))) {z : Addr × Obj} {h : Int} (h0 : 0 ≤ h) (h1 : h ≤ 2) {s : Shared} {I : Addr} {n : Nat} (hn : n ≤ 3) {v1 v2 v3 v4 : Value} (hlt : ∀ p ∈ z :: (lb, LCg.lst [.int b0 u0, .int b1 u1, .int b2 u2]) :: (L + 1 + 1 + 1 + 1 + 1 + 1 + 1, o7) :: (L + 1 + 1 + 1 + 1 + 1 + 1, o6) :: (L + 1 + 1 + 1 + 1 + 1, o5) :: (L + 1 + 1 + 1 + 1, o4) :: (L + 1 + 1 + 1, o3) :: (L + 1 + 1, o2) :: (L + 1, o1) :: ns, p.1 < I)
   : ∀ (k i : Nat) (m : Str → Option Value) (wd : Array UInt8) (ks : List Int) (th tw : Tok), k + i = n → KBw.bInts wd = ks → ks.length + 9 * k ≤ 100 →
   (∀ (m' : Str → Option Value) (h' : Heap) (tk' : Nat) (wd' : Array UInt8) (th tw : Tok), KBw.bInts wd' = ks ++ (List.range' i k).flatMap (fun (q : Nat) => (List.range' 0 b0.toNat).flatMap (fun (l : Nat) => [65 + h, 65 + (q : Int), 65 + (l : Int)])) → Fr base L h' (fun y => if y = Str.ofString "words" then some (.bytes wd' tw) else if y = Str.ofString "high" then some (.int h th) else if y = Str.ofString "zone" then some (v4) else if y = Str.ofString "forms" then some (v3) else if y = Str.ofString "count" then some (v2) else if y = Str.ofString "own" then some (v1) else m' y) → News base L h' (z :: (lb, LCg.lst [.int b0 u0, .int b1 u1, .int b2 u2]) :: (L + 1 + 1 + 1 + 1 + 1 + 1 + 1, o7) :: (L + 1 + 1 + 1 + 1 + 1 + 1, o6) :: (L + 1 + 1 + 1 + 1 + 1, o5) :: (L + 1 + 1 + 1 + 1, o4) :: (L + 1 + 1 + 1, o3) :: (L + 1 + 1, o2) :: (L + 1, o1) :: ns) → Q .next { s with heap := h', toks := tk' }) →
   RangeRest PP w (lawA L fa cd) E base (lawEnv L fa cd) (Str.ofString "middle") (forBody (forB (st 11) 0)) Q s I 0 n k i (fun y => if y = Str.ofString "words" then some (.bytes wd tw) else if y = Str.ofString "high" then some (.int h th) else if y = Str.ofString "zone" then some (v4) else if y = Str.ofString "forms" then some (v3) else if y = Str.ofString "count" then some (v2) else if y = Str.ofString "own" then some (v1) else m y) (z :: (lb, LCg.lst [.int b0 u0, .int b1 u1, .int b2 u2]) :: (L + 1 + 1 + 1 + 1 + 1 + 1 + 1, o7) :: (L + 1 + 1 + 1 + 1 + 1 + 1, o6) :: (L + 1 + 1 + 1 + 1 + 1, o5) :: (L + 1 + 1 + 1 + 1, o4) :: (L + 1 + 1 + 1, o3) :: (L + 1 + 1, o2) :: (L + 1, o1) :: ns) := by
  intro k
  induction k with
  | zero =>
    intro i m wd ks th tw hki hwd hsz hQ
    exact fun h tk F N => hQ m h tk wd _ _ (by rw [hwd]; simp) F N
  | succ k ih =>
    intro i m wd ks th tw hki hwd hsz hQ
    refine RangeRest.succ fun t9 h9 tk9 F9 N9 => ?_
    have hi0 : (0 : Int) ≤ 0 + (i : Int) := by omega
    have hi1 : 0 + (i : Int) ≤ 2 := by omega
    rcases hb0 with rfl | rfl
    · obtain ⟨tb, htb⟩ : ∃ x, x = forBody (forB (st 11) 0) := ⟨_, rfl⟩
      obtain ⟨sc, hsc⟩ : ∃ x, x = lawScope := ⟨_, rfl⟩
      unfold lawA lawEnv
      rw [← htb, ← hsc]
      conv at htb => rhs; whnf
      conv at hsc => rhs; whnf
      subst htb hsc
      (repeat' (first | (k_unfold; (try dsimp only)) | (k_end; wrow_close) | ((k_here; (with_reducible show wpAny _ _ (subscriptTail _ _ (Value.ref _) (Value.int _ _)) _ _ _); k_dflt (refine' item_litK (by exact News.isList (by k_asm) (by walk_at "mem")) (by decide) (by decide) (by rfl) ?_))) | (((with_reducible show wpAny _ _ (pyIter (Value.ref _)) (fun it s₂ => LoopAtV _ _ _ _ _ _ _ _ _ it s₂) _ _); k_dflt (first | (refine iter_rangeUnr (n := 2) (by rfl) (by assumption) (by decide) (by decide) (by k_asm) (by k_asm) ?_) | (refine iter_rangeUnr (n := 3) (by rfl) (by assumption) (by decide) (by decide) (by k_asm) (by k_asm) ?_)); intro _ _)) | walk1 | (dsimp only; walk1) | (leave1; try dsimp only) | fail "no step"))
      unfold Halt
      with_reducible refine rr_put (Str.ofString "own") (by k_dflt rfl) (rr_put (Str.ofString "count") (by k_dflt rfl) (rr_put (Str.ofString "forms") (by k_dflt rfl) (rr_put (Str.ofString "zone") (by k_dflt rfl) (rr_put (Str.ofString "high") (by k_dflt rfl) (rr_put (Str.ofString "middle") (by k_dflt rfl) (rr_put (Str.ofString "words") (by k_dflt rfl) (low_loop (by k_dflt (assumption)) (by k_dflt (assumption)) (by k_dflt (assumption)) (by k_dflt (assumption)) h0 h1 hi0 hi1 (by k_dflt (decide)) 2 0 _ _ _ _ _ _ _ (by k_dflt rfl) (by k_dflt (assumption)) (by k_dflt (omega)) (by k_dflt (assumption)) ?_)))))))
      intro m9 h9 tk9 wd9 th9 tm9 tw9 hb9 F9 N9
      (repeat' (first | (k_unfold; (try dsimp only)) | (k_end; wrow_close) | ((k_here; (with_reducible show wpAny _ _ (subscriptTail _ _ (Value.ref _) (Value.int _ _)) _ _ _); k_dflt (refine' item_litK (by exact News.isList (by k_asm) (by walk_at "mem")) (by decide) (by decide) (by rfl) ?_))) | (((with_reducible show wpAny _ _ (pyIter (Value.ref _)) (fun it s₂ => LoopAtV _ _ _ _ _ _ _ _ _ it s₂) _ _); k_dflt (first | (refine iter_rangeUnr (n := 2) (by rfl) (by assumption) (by decide) (by decide) (by k_asm) (by k_asm) ?_) | (refine iter_rangeUnr (n := 3) (by rfl) (by assumption) (by decide) (by decide) (by k_asm) (by k_asm) ?_)); intro _ _)) | walk1 | (dsimp only; walk1) | (leave1; try dsimp only) | fail "no step"))
      unfold Halt
      refine UnrEnd.go (Fr.put (Str.ofString "words") (Fr.put (Str.ofString "high") (Fr.put (Str.ofString "zone") (Fr.put (Str.ofString "forms") (Fr.put (Str.ofString "count") (Fr.put (Str.ofString "own") ((by assumption)) rfl) rfl) rfl) rfl) rfl) rfl) (by assumption) hlt (ih (i + 1) _ _ _ _ _ (by omega) hb9 (by simp only [show (2 : Int).toNat = 2 from rfl, show (3 : Int).toNat = 3 from rfl, List.range'_succ, List.range'_zero, List.flatMap_cons, List.flatMap_nil, List.length_append, List.length_cons, List.length_nil]; omega) ?_)
      intro m' h' tk' wd' th tw e F N
      refine hQ m' h' tk' wd' th tw ?_ F N
      rw [e, List.range'_succ, List.flatMap_cons, List.append_assoc, Int.zero_add]
      rfl
    · obtain ⟨tb, htb⟩ : ∃ x, x = forBody (forB (st 11) 0) := ⟨_, rfl⟩
      obtain ⟨sc, hsc⟩ : ∃ x, x = lawScope := ⟨_, rfl⟩
      unfold lawA lawEnv
      rw [← htb, ← hsc]
      conv at htb => rhs; whnf
      conv at hsc => rhs; whnf
      subst htb hsc
      (repeat' (first | (k_unfold; (try dsimp only)) | (k_end; wrow_close) | ((k_here; (with_reducible show wpAny _ _ (subscriptTail _ _ (Value.ref _) (Value.int _ _)) _ _ _); k_dflt (refine' item_litK (by exact News.isList (by k_asm) (by walk_at "mem")) (by decide) (by decide) (by rfl) ?_))) | (((with_reducible show wpAny _ _ (pyIter (Value.ref _)) (fun it s₂ => LoopAtV _ _ _ _ _ _ _ _ _ it s₂) _ _); k_dflt (first | (refine iter_rangeUnr (n := 2) (by rfl) (by assumption) (by decide) (by decide) (by k_asm) (by k_asm) ?_) | (refine iter_rangeUnr (n := 3) (by rfl) (by assumption) (by decide) (by decide) (by k_asm) (by k_asm) ?_)); intro _ _)) | walk1 | (dsimp only; walk1) | (leave1; try dsimp only) | fail "no step"))
      unfold Halt
      with_reducible refine rr_put (Str.ofString "own") (by k_dflt rfl) (rr_put (Str.ofString "count") (by k_dflt rfl) (rr_put (Str.ofString "forms") (by k_dflt rfl) (rr_put (Str.ofString "zone") (by k_dflt rfl) (rr_put (Str.ofString "high") (by k_dflt rfl) (rr_put (Str.ofString "middle") (by k_dflt rfl) (rr_put (Str.ofString "words") (by k_dflt rfl) (low_loop (by k_dflt (assumption)) (by k_dflt (assumption)) (by k_dflt (assumption)) (by k_dflt (assumption)) h0 h1 hi0 hi1 (by k_dflt (decide)) 3 0 _ _ _ _ _ _ _ (by k_dflt rfl) (by k_dflt (assumption)) (by k_dflt (omega)) (by k_dflt (assumption)) ?_)))))))
      intro m9 h9 tk9 wd9 th9 tm9 tw9 hb9 F9 N9
      (repeat' (first | (k_unfold; (try dsimp only)) | (k_end; wrow_close) | ((k_here; (with_reducible show wpAny _ _ (subscriptTail _ _ (Value.ref _) (Value.int _ _)) _ _ _); k_dflt (refine' item_litK (by exact News.isList (by k_asm) (by walk_at "mem")) (by decide) (by decide) (by rfl) ?_))) | (((with_reducible show wpAny _ _ (pyIter (Value.ref _)) (fun it s₂ => LoopAtV _ _ _ _ _ _ _ _ _ it s₂) _ _); k_dflt (first | (refine iter_rangeUnr (n := 2) (by rfl) (by assumption) (by decide) (by decide) (by k_asm) (by k_asm) ?_) | (refine iter_rangeUnr (n := 3) (by rfl) (by assumption) (by decide) (by decide) (by k_asm) (by k_asm) ?_)); intro _ _)) | walk1 | (dsimp only; walk1) | (leave1; try dsimp only) | fail "no step"))
      unfold Halt
      refine UnrEnd.go (Fr.put (Str.ofString "words") (Fr.put (Str.ofString "high") (Fr.put (Str.ofString "zone") (Fr.put (Str.ofString "forms") (Fr.put (Str.ofString "count") (Fr.put (Str.ofString "own") ((by assumption)) rfl) rfl) rfl) rfl) rfl) rfl) (by assumption) hlt (ih (i + 1) _ _ _ _ _ (by omega) hb9 (by simp only [show (2 : Int).toNat = 2 from rfl, show (3 : Int).toNat = 3 from rfl, List.range'_succ, List.range'_zero, List.flatMap_cons, List.flatMap_nil, List.length_append, List.length_cons, List.length_nil]; omega) ?_)
      intro m' h' tk' wd' th tw e F N
      refine hQ m' h' tk' wd' th tw ?_ F N
      rw [e, List.range'_succ, List.flatMap_cons, List.append_assoc, Int.zero_add]
      rfl
theorem high_loop {w : World} {loose : List Str} {mean : ExcName → Option Value} {mg mb : Str → Option Value} {base : Heap} {L fa : Addr} {cd : Value} {E : Value → Shared → Prop} {Q : Flow → Shared → Prop}
   (cB : Below callerA base [] base) (cX : (Mine.hd.heap_39 w.params).In base) (cT : Top Mine.hd.view_39 loose mean mg mb base) (hE : PassesOwn (model PP w) (lawA L fa cd) (lawEnv L fa cd) E)
   {lb : Addr} {b0 b1 b2 : Int} {u0 u1 u2 : Tok} {o1 o2 o3 o4 o5 o6 o7 : Obj} {ns : List (Addr × Obj)} (hb0 : b0 = 2 ∨ b0 = 3) (hb1 : b1 = 2 ∨ b1 = 3) (hb2 : b2 = 2 ∨ b2 = 3) (d2 : o2.data = .cell (some (.ref lb))) {s : Shared} {I : Addr} {n : Nat} (hn : n ≤ 3) {v1 v2 v3 v4 : Value} (hlt : ∀ p ∈ (lb, LCg.lst [.int b0 u0, .int b1 u1, .int b2 u2]) :: (L + 1 + 1 + 1 + 1 + 1 + 1 + 1, o7) :: (L + 1 + 1 + 1 + 1 + 1 + 1, o6) :: (L + 1 + 1 + 1 + 1 + 1, o5) :: (L + 1 + 1 + 1 + 1, o4) :: (L + 1 + 1 + 1, o3) :: (L + 1 + 1, o2) :: (L + 1, o1) :: ns, p.1 < I)
   : ∀ (k i : Nat) (m : Str → Option Value) (wd : Array UInt8) (ks : List Int) (tw : Tok), k + i = n → KBw.bInts wd = ks → ks.length + 27 * k ≤ 100 →
   (∀ (m' : Str → Option Value) (h' : Heap) (tk' : Nat) (wd' : Array UInt8) (tw : Tok), KBw.bInts wd' = ks ++ (List.range' i k).flatMap (fun (q : Nat) => (List.range' 0 b1.toNat).flatMap (fun (j : Nat) => (List.range' 0 b0.toNat).flatMap (fun (l : Nat) => [65 + (q : Int), 65 + (j : Int), 65 + (l : Int)]))) → Fr base L h' (fun y => if y = Str.ofString "words" then some (.bytes wd' tw) else if y = Str.ofString "zone" then some (v4) else if y = Str.ofString "forms" then some (v3) else if y = Str.ofString "count" then some (v2) else if y = Str.ofString "own" then some (v1) else m' y) → News base L h' ((lb, LCg.lst [.int b0 u0, .int b1 u1, .int b2 u2]) :: (L + 1 + 1 + 1 + 1 + 1 + 1 + 1, o7) :: (L + 1 + 1 + 1 + 1 + 1 + 1, o6) :: (L + 1 + 1 + 1 + 1 + 1, o5) :: (L + 1 + 1 + 1 + 1, o4) :: (L + 1 + 1 + 1, o3) :: (L + 1 + 1, o2) :: (L + 1, o1) :: ns) → Q .next { s with heap := h', toks := tk' }) →
   RangeRest PP w (lawA L fa cd) E base (lawEnv L fa cd) (Str.ofString "high") (forBody (st 11)) Q s I 0 n k i (fun y => if y = Str.ofString "words" then some (.bytes wd tw) else if y = Str.ofString "zone" then some (v4) else if y = Str.ofString "forms" then some (v3) else if y = Str.ofString "count" then some (v2) else if y = Str.ofString "own" then some (v1) else m y) ((lb, LCg.lst [.int b0 u0, .int b1 u1, .int b2 u2]) :: (L + 1 + 1 + 1 + 1 + 1 + 1 + 1, o7) :: (L + 1 + 1 + 1 + 1 + 1 + 1, o6) :: (L + 1 + 1 + 1 + 1 + 1, o5) :: (L + 1 + 1 + 1 + 1, o4) :: (L + 1 + 1 + 1, o3) :: (L + 1 + 1, o2) :: (L + 1, o1) :: ns) := by
  intro k
  induction k with
  | zero =>
    intro i m wd ks tw hki hwd hsz hQ
    exact fun h tk F N => hQ m h tk wd _ (by rw [hwd]; simp) F N
  | succ k ih =>
    intro i m wd ks tw hki hwd hsz hQ
    refine RangeRest.succ fun t9 h9 tk9 F9 N9 => ?_
    have hi0 : (0 : Int) ≤ 0 + (i : Int) := by omega
    have hi1 : 0 + (i : Int) ≤ 2 := by omega
    rcases hb1 with rfl | rfl
    · obtain ⟨tb, htb⟩ : ∃ x, x = forBody (st 11) := ⟨_, rfl⟩
      obtain ⟨sc, hsc⟩ : ∃ x, x = lawScope := ⟨_, rfl⟩
      unfold lawA lawEnv
      rw [← htb, ← hsc]
      conv at htb => rhs; whnf
      conv at hsc => rhs; whnf
      subst htb hsc
      (repeat' (first | (k_unfold; (try dsimp only)) | (k_end; wrow_close) | ((k_here; (with_reducible show wpAny _ _ (subscriptTail _ _ (Value.ref _) (Value.int _ _)) _ _ _); k_dflt (refine' item_litK (by exact News.isList (by k_asm) (by walk_at "mem")) (by decide) (by decide) (by rfl) ?_))) | (((with_reducible show wpAny _ _ (pyIter (Value.ref _)) (fun it s₂ => LoopAtV _ _ _ _ _ _ _ _ _ it s₂) _ _); k_dflt (first | (refine iter_rangeUnr (n := 2) (by rfl) (by assumption) (by decide) (by decide) (by k_asm) (by k_asm) ?_) | (refine iter_rangeUnr (n := 3) (by rfl) (by assumption) (by decide) (by decide) (by k_asm) (by k_asm) ?_)); intro _ _)) | walk1 | (dsimp only; walk1) | (leave1; try dsimp only) | fail "no step"))
      unfold Halt
      with_reducible refine rr_put (Str.ofString "own") (by k_dflt rfl) (rr_put (Str.ofString "count") (by k_dflt rfl) (rr_put (Str.ofString "forms") (by k_dflt rfl) (rr_put (Str.ofString "zone") (by k_dflt rfl) (rr_put (Str.ofString "high") (by k_dflt rfl) (rr_put (Str.ofString "words") (by k_dflt rfl) (mid_loop (by k_dflt (assumption)) (by k_dflt (assumption)) (by k_dflt (assumption)) (by k_dflt (assumption)) hb0 (Or.inl rfl) hb2 d2 hi0 hi1 (by k_dflt (decide)) (by k_dflt (assumption)) 2 0 _ _ _ _ _ (by k_dflt rfl) (by k_dflt (assumption)) (by k_dflt (omega)) ?_))))))
      intro m9 h9 tk9 wd9 th9 tw9 hb9 F9 N9
      (repeat' (first | (k_unfold; (try dsimp only)) | (k_end; wrow_close) | ((k_here; (with_reducible show wpAny _ _ (subscriptTail _ _ (Value.ref _) (Value.int _ _)) _ _ _); k_dflt (refine' item_litK (by exact News.isList (by k_asm) (by walk_at "mem")) (by decide) (by decide) (by rfl) ?_))) | (((with_reducible show wpAny _ _ (pyIter (Value.ref _)) (fun it s₂ => LoopAtV _ _ _ _ _ _ _ _ _ it s₂) _ _); k_dflt (first | (refine iter_rangeUnr (n := 2) (by rfl) (by assumption) (by decide) (by decide) (by k_asm) (by k_asm) ?_) | (refine iter_rangeUnr (n := 3) (by rfl) (by assumption) (by decide) (by decide) (by k_asm) (by k_asm) ?_)); intro _ _)) | walk1 | (dsimp only; walk1) | (leave1; try dsimp only) | fail "no step"))
      unfold Halt
      refine UnrEnd.go (Fr.put (Str.ofString "words") (Fr.put (Str.ofString "zone") (Fr.put (Str.ofString "forms") (Fr.put (Str.ofString "count") (Fr.put (Str.ofString "own") ((by assumption)) rfl) rfl) rfl) rfl) rfl) (by assumption) hlt (ih (i + 1) _ _ _ _ (by omega) hb9 (by rcases hb0 with rfl | rfl <;> (simp only [show (2 : Int).toNat = 2 from rfl, show (3 : Int).toNat = 3 from rfl, List.range'_succ, List.range'_zero, List.flatMap_cons, List.flatMap_nil, List.length_append, List.length_cons, List.length_nil]; omega)) ?_)
      intro m' h' tk' wd' tw e F N
      refine hQ m' h' tk' wd' tw ?_ F N
      rw [e, List.range'_succ, List.flatMap_cons, List.append_assoc, Int.zero_add]
      rfl
    · obtain ⟨tb, htb⟩ : ∃ x, x = forBody (st 11) := ⟨_, rfl⟩
      obtain ⟨sc, hsc⟩ : ∃ x, x = lawScope := ⟨_, rfl⟩
      unfold lawA lawEnv
      rw [← htb, ← hsc]
      conv at htb => rhs; whnf
      conv at hsc => rhs; whnf
      subst htb hsc
      (repeat' (first | (k_unfold; (try dsimp only)) | (k_end; wrow_close) | ((k_here; (with_reducible show wpAny _ _ (subscriptTail _ _ (Value.ref _) (Value.int _ _)) _ _ _); k_dflt (refine' item_litK (by exact News.isList (by k_asm) (by walk_at "mem")) (by decide) (by decide) (by rfl) ?_))) | (((with_reducible show wpAny _ _ (pyIter (Value.ref _)) (fun it s₂ => LoopAtV _ _ _ _ _ _ _ _ _ it s₂) _ _); k_dflt (first | (refine iter_rangeUnr (n := 2) (by rfl) (by assumption) (by decide) (by decide) (by k_asm) (by k_asm) ?_) | (refine iter_rangeUnr (n := 3) (by rfl) (by assumption) (by decide) (by decide) (by k_asm) (by k_asm) ?_)); intro _ _)) | walk1 | (dsimp only; walk1) | (leave1; try dsimp only) | fail "no step"))
      unfold Halt
      with_reducible refine rr_put (Str.ofString "own") (by k_dflt rfl) (rr_put (Str.ofString "count") (by k_dflt rfl) (rr_put (Str.ofString "forms") (by k_dflt rfl) (rr_put (Str.ofString "zone") (by k_dflt rfl) (rr_put (Str.ofString "high") (by k_dflt rfl) (rr_put (Str.ofString "words") (by k_dflt rfl) (mid_loop (by k_dflt (assumption)) (by k_dflt (assumption)) (by k_dflt (assumption)) (by k_dflt (assumption)) hb0 (Or.inr rfl) hb2 d2 hi0 hi1 (by k_dflt (decide)) (by k_dflt (assumption)) 3 0 _ _ _ _ _ (by k_dflt rfl) (by k_dflt (assumption)) (by k_dflt (omega)) ?_))))))
      intro m9 h9 tk9 wd9 th9 tw9 hb9 F9 N9
      (repeat' (first | (k_unfold; (try dsimp only)) | (k_end; wrow_close) | ((k_here; (with_reducible show wpAny _ _ (subscriptTail _ _ (Value.ref _) (Value.int _ _)) _ _ _); k_dflt (refine' item_litK (by exact News.isList (by k_asm) (by walk_at "mem")) (by decide) (by decide) (by rfl) ?_))) | (((with_reducible show wpAny _ _ (pyIter (Value.ref _)) (fun it s₂ => LoopAtV _ _ _ _ _ _ _ _ _ it s₂) _ _); k_dflt (first | (refine iter_rangeUnr (n := 2) (by rfl) (by assumption) (by decide) (by decide) (by k_asm) (by k_asm) ?_) | (refine iter_rangeUnr (n := 3) (by rfl) (by assumption) (by decide) (by decide) (by k_asm) (by k_asm) ?_)); intro _ _)) | walk1 | (dsimp only; walk1) | (leave1; try dsimp only) | fail "no step"))
      unfold Halt
      refine UnrEnd.go (Fr.put (Str.ofString "words") (Fr.put (Str.ofString "zone") (Fr.put (Str.ofString "forms") (Fr.put (Str.ofString "count") (Fr.put (Str.ofString "own") ((by assumption)) rfl) rfl) rfl) rfl) rfl) (by assumption) hlt (ih (i + 1) _ _ _ _ (by omega) hb9 (by rcases hb0 with rfl | rfl <;> (simp only [show (2 : Int).toNat = 2 from rfl, show (3 : Int).toNat = 3 from rfl, List.range'_succ, List.range'_zero, List.flatMap_cons, List.flatMap_nil, List.length_append, List.length_cons, List.length_nil]; omega)) ?_)
      intro m' h' tk' wd' tw e F N
      refine hQ m' h' tk' wd' tw ?_ F N
      rw [e, List.range'_succ, List.flatMap_cons, List.append_assoc, Int.zero_add]
      rfl
local macro_rules | `(tactic| walk_at "none") => `(tactic| skip)
theorem s11 {w : World} {loose : List Str} {mean : ExcName → Option Value} {mg mb : Str → Option Value} {base : Heap} {L fa : Addr} {cd : Value} {m : Str → Option Value} {s : Shared} {Q : Flow → Shared → Prop} {E : Value → Shared → Prop}
   (cB : Below callerA base [] base) (cX : (Mine.hd.heap_39 w.params).In base) (cT : Top Mine.hd.view_39 loose mean mg mb base) (hE : PassesOwn (model PP w) (lawA L fa cd) (lawEnv L fa cd) E)
   {o1 o2 o3 o4 o5 o6 o7 : Obj} {ns : List (Addr × Obj)}
   {l lb lo lf : Addr} {fr gr ct b0 b1 b2 : Int} {tf tg u0 u1 u2 tc tz tw : Tok} {zn : Str} {wd : Array UInt8} (hb0 : b0 = 2 ∨ b0 = 3) (hb1 : b1 = 2 ∨ b1 = 3) (hb2 : b2 = 2 ∨ b2 = 3) (hwd : KBw.bInts wd = [])
   (cF : Fr base L s.heap (fun y => if y = Str.ofString "words" then some (.bytes wd tw) else if y = Str.ofString "zone" then some (.str zn tz) else if y = Str.ofString "forms" then some (.ref lf) else if y = Str.ofString "count" then some (.int ct tc) else if y = Str.ofString "own" then some (.ref lo) else m y)) (cN : News base L s.heap ((lb, LCg.lst [.int b0 u0, .int b1 u1, .int b2 u2]) :: (L + 1 + 1 + 1 + 1 + 1 + 1 + 1, o7) :: (L + 1 + 1 + 1 + 1 + 1 + 1, o6) :: (L + 1 + 1 + 1 + 1 + 1, o5) :: (L + 1 + 1 + 1 + 1, o4) :: (L + 1 + 1 + 1, o3) :: (L + 1 + 1, o2) :: (L + 1, o1) :: ns))
   (d1 : o1.data = .cell (some (.ref l))) (d2 : o2.data = .cell (some (.ref lb))) (d3 : o3.data = .cell (some (.int fr tf))) (d4 : o4.data = .cell (some (.int gr tg))) (d5 : o5.data = .cell (none)) (d6 : o6.data = .cell (none)) (d7 : o7.data = .cell (none))
   (hret : ∀ (m' : Str → Option Value) (h' : Heap) (tk' : Nat) (wd' : Array UInt8) (tw' : Tok), KBw.bInts wd' = (List.range' 0 b2.toNat).flatMap (fun (q : Nat) => (List.range' 0 b1.toNat).flatMap (fun (j : Nat) => (List.range' 0 b0.toNat).flatMap (fun (l : Nat) => [65 + (q : Int), 65 + (j : Int), 65 + (l : Int)]))) → Fr base L h' (fun y => if y = Str.ofString "words" then some (.bytes wd' tw') else if y = Str.ofString "zone" then some (.str zn tz) else if y = Str.ofString "forms" then some (.ref lf) else if y = Str.ofString "count" then some (.int ct tc) else if y = Str.ofString "own" then some (.ref lo) else m' y) → News base L h' ((lb, LCg.lst [.int b0 u0, .int b1 u1, .int b2 u2]) :: (L + 1 + 1 + 1 + 1 + 1 + 1 + 1, o7) :: (L + 1 + 1 + 1 + 1 + 1 + 1, o6) :: (L + 1 + 1 + 1 + 1 + 1, o5) :: (L + 1 + 1 + 1 + 1, o4) :: (L + 1 + 1 + 1, o3) :: (L + 1 + 1, o2) :: (L + 1, o1) :: ns) → Q .next { s with heap := h', toks := tk' }) :
   wpAny (model PP w) (lawA L fa cd) (exec (st 11) (lawEnv L fa cd)) Q E s := by
  conv in (st 11) => whnf
  unfold lawA lawEnv
  conv in (occs := *) lawScope => all_goals whnf
  rcases hb2 with rfl | rfl
  · (repeat' (first | (k_unfold; (try dsimp only)) | (k_end; wrow_close) | ((k_here; (with_reducible show wpAny _ _ (subscriptTail _ _ (Value.ref _) (Value.int _ _)) _ _ _); k_dflt (refine' item_litK (by exact News.isList (by k_asm) (by walk_at "mem")) (by decide) (by decide) (by rfl) ?_))) | (((with_reducible show wpAny _ _ (pyIter (Value.ref _)) (fun it s₂ => LoopAtV _ _ _ _ _ _ _ _ _ it s₂) _ _); k_dflt (first | (refine iter_rangeUnr (n := 2) (by rfl) (by assumption) (by decide) (by decide) (by k_asm) (by k_asm) ?_) | (refine iter_rangeUnr (n := 3) (by rfl) (by assumption) (by decide) (by decide) (by k_asm) (by k_asm) ?_)); intro _ _)) | walk1 | (dsimp only; walk1) | (leave1; try dsimp only) | fail "no step"))
    unfold Halt
    with_reducible refine rr_put (Str.ofString "own") (by k_dflt rfl) (rr_put (Str.ofString "count") (by k_dflt rfl) (rr_put (Str.ofString "forms") (by k_dflt rfl) (rr_put (Str.ofString "zone") (by k_dflt rfl) (rr_put (Str.ofString "words") (by k_dflt rfl) (high_loop (by k_dflt (assumption)) (by k_dflt (assumption)) (by k_dflt (assumption)) (by k_dflt (assumption)) hb0 hb1 (Or.inl rfl) d2 (by k_dflt (decide)) (by k_dflt (assumption)) 2 0 _ _ [] _ (by k_dflt rfl) hwd (by k_dflt (decide)) ?_)))))
    intro m9 h9 tk9 wd9 tw9 hb9 F9 N9
    (repeat' (first | (k_unfold; (try dsimp only)) | (k_end; wrow_close) | ((k_here; (with_reducible show wpAny _ _ (subscriptTail _ _ (Value.ref _) (Value.int _ _)) _ _ _); k_dflt (refine' item_litK (by exact News.isList (by k_asm) (by walk_at "mem")) (by decide) (by decide) (by rfl) ?_))) | (((with_reducible show wpAny _ _ (pyIter (Value.ref _)) (fun it s₂ => LoopAtV _ _ _ _ _ _ _ _ _ it s₂) _ _); k_dflt (first | (refine iter_rangeUnr (n := 2) (by rfl) (by assumption) (by decide) (by decide) (by k_asm) (by k_asm) ?_) | (refine iter_rangeUnr (n := 3) (by rfl) (by assumption) (by decide) (by decide) (by k_asm) (by k_asm) ?_)); intro _ _)) | walk1 | (dsimp only; walk1) | (leave1; try dsimp only) | fail "no step"))
    exact hret _ _ _ wd9 _ hb9 (Fr.put (Str.ofString "words") (Fr.put (Str.ofString "zone") (Fr.put (Str.ofString "forms") (Fr.put (Str.ofString "count") (Fr.put (Str.ofString "own") ((by assumption)) rfl) rfl) rfl) rfl) rfl) (by assumption)
  · (repeat' (first | (k_unfold; (try dsimp only)) | (k_end; wrow_close) | ((k_here; (with_reducible show wpAny _ _ (subscriptTail _ _ (Value.ref _) (Value.int _ _)) _ _ _); k_dflt (refine' item_litK (by exact News.isList (by k_asm) (by walk_at "mem")) (by decide) (by decide) (by rfl) ?_))) | (((with_reducible show wpAny _ _ (pyIter (Value.ref _)) (fun it s₂ => LoopAtV _ _ _ _ _ _ _ _ _ it s₂) _ _); k_dflt (first | (refine iter_rangeUnr (n := 2) (by rfl) (by assumption) (by decide) (by decide) (by k_asm) (by k_asm) ?_) | (refine iter_rangeUnr (n := 3) (by rfl) (by assumption) (by decide) (by decide) (by k_asm) (by k_asm) ?_)); intro _ _)) | walk1 | (dsimp only; walk1) | (leave1; try dsimp only) | fail "no step"))
    unfold Halt
    with_reducible refine rr_put (Str.ofString "own") (by k_dflt rfl) (rr_put (Str.ofString "count") (by k_dflt rfl) (rr_put (Str.ofString "forms") (by k_dflt rfl) (rr_put (Str.ofString "zone") (by k_dflt rfl) (rr_put (Str.ofString "words") (by k_dflt rfl) (high_loop (by k_dflt (assumption)) (by k_dflt (assumption)) (by k_dflt (assumption)) (by k_dflt (assumption)) hb0 hb1 (Or.inr rfl) d2 (by k_dflt (decide)) (by k_dflt (assumption)) 3 0 _ _ [] _ (by k_dflt rfl) hwd (by k_dflt (decide)) ?_)))))
    intro m9 h9 tk9 wd9 tw9 hb9 F9 N9
    (repeat' (first | (k_unfold; (try dsimp only)) | (k_end; wrow_close) | ((k_here; (with_reducible show wpAny _ _ (subscriptTail _ _ (Value.ref _) (Value.int _ _)) _ _ _); k_dflt (refine' item_litK (by exact News.isList (by k_asm) (by walk_at "mem")) (by decide) (by decide) (by rfl) ?_))) | (((with_reducible show wpAny _ _ (pyIter (Value.ref _)) (fun it s₂ => LoopAtV _ _ _ _ _ _ _ _ _ it s₂) _ _); k_dflt (first | (refine iter_rangeUnr (n := 2) (by rfl) (by assumption) (by decide) (by decide) (by k_asm) (by k_asm) ?_) | (refine iter_rangeUnr (n := 3) (by rfl) (by assumption) (by decide) (by decide) (by k_asm) (by k_asm) ?_)); intro _ _)) | walk1 | (dsimp only; walk1) | (leave1; try dsimp only) | fail "no step"))
    exact hret _ _ _ wd9 _ hb9 (Fr.put (Str.ofString "words") (Fr.put (Str.ofString "zone") (Fr.put (Str.ofString "forms") (Fr.put (Str.ofString "count") (Fr.put (Str.ofString "own") ((by assumption)) rfl) rfl) rfl) rfl) rfl) (by assumption)
  
end Mine
end
section
open _root_.PySem _root_.PySem.W _root_.PySem.W.X _root_.PyProof.Rows
set_option Elab.async false
set_option maxRecDepth 100000
set_option maxHeartbeats 0
namespace Mine
theorem rs88 : True := by w_top off; trivial
theorem s12 {w : World} {loose : List Str} {mean : ExcName → Option Value} {mg mb : Str → Option Value} {base : Heap} {L fa : Addr} {cd : Value} {m : Str → Option Value} {s : Shared} {Q : Flow → Shared → Prop} {E : Value → Shared → Prop}
   (cB : Below callerA base [] base) (cX : (Mine.hd.heap_39 w.params).In base) (cT : Top Mine.hd.view_39 loose mean mg mb base) (hE : PassesOwn (model PP w) (lawA L fa cd) (lawEnv L fa cd) E)
   {o1 o2 o3 o4 o5 o6 o7 : Obj} {ns : List (Addr × Obj)}
   {l lb lo lf : Addr} {fr gr : Int} {tf tg tc tz tw : Tok} {ct : Int} {zn : Str} {wd : Array UInt8} {ks : List Int} (hwd : KBw.bInts wd = ks) (hks : ks.length = 36)
   (cF : Fr base L s.heap (fun y => if y = Str.ofString "zone" then some (.str zn tz) else if y = Str.ofString "words" then some (.bytes wd tw) else if y = Str.ofString "forms" then some (.ref lf) else if y = Str.ofString "count" then some (.int ct tc) else if y = Str.ofString "own" then some (.ref lo) else m y)) (cN : News base L s.heap ((L + 1 + 1 + 1 + 1 + 1 + 1 + 1, o7) :: (L + 1 + 1 + 1 + 1 + 1 + 1, o6) :: (L + 1 + 1 + 1 + 1 + 1, o5) :: (L + 1 + 1 + 1 + 1, o4) :: (L + 1 + 1 + 1, o3) :: (L + 1 + 1, o2) :: (L + 1, o1) :: ns))
   (d1 : o1.data = .cell (some (.ref l))) (d2 : o2.data = .cell (some (.ref lb))) (d3 : o3.data = .cell (some (.int fr tf))) (d4 : o4.data = .cell (some (.int gr tg))) (d5 : o5.data = .cell (none)) (d6 : o6.data = .cell (none)) (d7 : o7.data = .cell (none))
   (hret : ∀ (m' : Str → Option Value) (h' : Heap) (tk' : Nat) (td : Array UInt8) (tt : Tok), KBw.bInts td = swN ks 12 0 (List.replicate 36 0) → Fr base L h' (fun y => if y = Str.ofString "turned" then some (.bytes td tt) else if y = Str.ofString "zone" then some (.str zn tz) else if y = Str.ofString "words" then some (.bytes wd tw) else if y = Str.ofString "forms" then some (.ref lf) else if y = Str.ofString "count" then some (.int ct tc) else if y = Str.ofString "own" then some (.ref lo) else m' y) → News base L h' ((L + 1 + 1 + 1 + 1 + 1 + 1 + 1, o7) :: (L + 1 + 1 + 1 + 1 + 1 + 1, o6) :: (L + 1 + 1 + 1 + 1 + 1, o5) :: (L + 1 + 1 + 1 + 1, o4) :: (L + 1 + 1 + 1, o3) :: (L + 1 + 1, o2) :: (L + 1, o1) :: ns) → Q .next { s with heap := h', toks := tk' }) :
   wpC (model PP w) (lawA L fa cd) (exec (st 12) (lawEnv L fa cd)) Q E s := by
  conv in (st 12) => whnf
  unfold lawA lawEnv
  conv in (occs := *) lawScope => all_goals whnf
  refine wpC_assignName (wpC_Call ?_)
  k_steps
  refine wpC_callWithFn ?_
  k_steps
  refine ⟨⟨_, _, (cX.keeps (by assumption : Fr base L _ _).keep) _ _ rfl, rfl⟩, ?_⟩
  refine c_swap ⟨by assumption, by assumption, by assumption, by assumption, by assumption, rfl, ?_, ?_⟩ hwd hks ?_
  · decide
  · decide
  intro r9 t9 h9 k9 hr9 F9 N9
  k_steps
  exact hret _ _ _ _ _ hr9 (Fr.put (Str.ofString "turned") (Fr.put (Str.ofString "zone") (Fr.put (Str.ofString "words") (Fr.put (Str.ofString "forms") (Fr.put (Str.ofString "count") (Fr.put (Str.ofString "own") ((by assumption)) rfl) rfl) rfl) rfl) rfl) rfl) (by assumption)
  
end Mine
end
section
open _root_.PySem _root_.PySem.W _root_.PySem.W.X _root_.PyProof.Rows
set_option Elab.async false
set_option maxRecDepth 100000
set_option maxHeartbeats 0
namespace Mine
local macro_rules | `(tactic| walk_at "none") => `(tactic| skip)
theorem rs89 : True := by w_top off; trivial
local macro_rules | `(tactic| k_updF) => `(tactic| first | (refine' UpdF.head ?a; (case a => (repeat (refine all_cons (by first | k_ne | omega) ?_)); first | exact all_off1 (by assumption) | exact all_off2 (by assumption) | exact all_off3 (by assumption) | exact all_off4 (by assumption) | exact all_off5 (by assumption) | exact all_off6 (by assumption) | exact all_off7 (by assumption) | (intro p hp; cases hp))) | (refine' UpdF.tail ?a ?b; (case a => first | k_ne | omega); (case b => k_updF)))
theorem s10 {w : World} {loose : List Str} {mean : ExcName → Option Value} {mg mb : Str → Option Value} {base : Heap} {L fa : Addr} {cd : Value} {m : Str → Option Value} {s : Shared} {Q : Flow → Shared → Prop} {E : Value → Shared → Prop}
   (cB : Below callerA base [] base) (cX : (Mine.hd.heap_39 w.params).In base) (cT : Top Mine.hd.view_39 loose mean mg mb base) (hE : PassesOwn (model PP w) (lawA L fa cd) (lawEnv L fa cd) E)
   {o1 o2 o3 o4 o5 o6 o7 : Obj} {ns : List (Addr × Obj)} (hns : ∀ p ∈ ns, (Off7 L p.1))
   {l lb lo lf : Addr} {fr gr ct : Int} {zn : Str} {tf tg tc tz : Tok}
   (cF : Fr base L s.heap (fun y => if y = Str.ofString "zone" then some (.str zn tz) else if y = Str.ofString "forms" then some (.ref lf) else if y = Str.ofString "count" then some (.int ct tc) else if y = Str.ofString "own" then some (.ref lo) else m y)) (cN : News base L s.heap ((L + 1 + 1 + 1 + 1 + 1 + 1 + 1, o7) :: (L + 1 + 1 + 1 + 1 + 1 + 1, o6) :: (L + 1 + 1 + 1 + 1 + 1, o5) :: (L + 1 + 1 + 1 + 1, o4) :: (L + 1 + 1 + 1, o3) :: (L + 1 + 1, o2) :: (L + 1, o1) :: ns))
   (d1 : o1.data = .cell (some (.ref l))) (d2 : o2.data = .cell (some (.ref lb))) (d3 : o3.data = .cell (some (.int fr tf))) (d4 : o4.data = .cell (some (.int gr tg))) (d5 : o5.data = .cell (none)) (d6 : o6.data = .cell (none)) (d7 : o7.data = .cell (none))
   (hret : ∀ (m' : Str → Option Value) (h' : Heap) (tk' : Nat) (wd : Array UInt8) (t : Tok), KBw.bInts wd = [] → Fr base L h' (fun y => if y = Str.ofString "words" then some (.bytes wd t) else if y = Str.ofString "zone" then some (.str zn tz) else if y = Str.ofString "forms" then some (.ref lf) else if y = Str.ofString "count" then some (.int ct tc) else if y = Str.ofString "own" then some (.ref lo) else m' y) → News base L h' ((L + 1 + 1 + 1 + 1 + 1 + 1 + 1, o7) :: (L + 1 + 1 + 1 + 1 + 1 + 1, o6) :: (L + 1 + 1 + 1 + 1 + 1, o5) :: (L + 1 + 1 + 1 + 1, o4) :: (L + 1 + 1 + 1, o3) :: (L + 1 + 1, o2) :: (L + 1, o1) :: ns) → Q .next { s with heap := h', toks := tk' }) :
   wpAny (model PP w) (lawA L fa cd) (exec (st 10) (lawEnv L fa cd)) Q E s := by
  conv in (st 10) => whnf
  unfold lawA lawEnv
  conv in (occs := *) lawScope => all_goals whnf
  k_steps
  exact hret _ _ _ _ _ rfl (Fr.put (Str.ofString "words") (Fr.put (Str.ofString "zone") (Fr.put (Str.ofString "forms") (Fr.put (Str.ofString "count") (Fr.put (Str.ofString "own") ((by assumption)) rfl) rfl) rfl) rfl) rfl) (by assumption)
end Mine
end
section
open _root_.PySem _root_.PySem.W _root_.PySem.W.X _root_.PyProof.Rows
set_option Elab.async false
set_option maxRecDepth 100000
set_option maxHeartbeats 0
namespace Mine
theorem rs90 : True := by w_top off; trivial
local macro_rules | `(tactic| k_updF) => `(tactic| first | (refine' UpdF.head ?a; (case a => (repeat (refine all_cons (by first | k_ne | omega) ?_)); first | exact all_off1 (by assumption) | exact all_off2 (by assumption) | exact all_off3 (by assumption) | exact all_off4 (by assumption) | exact all_off5 (by assumption) | exact all_off6 (by assumption) | exact all_off7 (by assumption) | (intro p hp; cases hp))) | (refine' UpdF.tail ?a ?b; (case a => first | k_ne | omega); (case b => k_updF)))
theorem s9_0 {w : World} {loose : List Str} {mean : ExcName → Option Value} {mg mb : Str → Option Value} {base : Heap} {L fa : Addr} {cd : Value} {m : Str → Option Value} {s : Shared} {Q : Flow → Shared → Prop} {E : Value → Shared → Prop}
   (cB : Below callerA base [] base) (cX : (Mine.hd.heap_39 w.params).In base) (cT : Top Mine.hd.view_39 loose mean mg mb base) (hE : PassesOwn (model PP w) (lawA L fa cd) (lawEnv L fa cd) E)
   {o1 o2 o3 o4 o5 o6 o7 : Obj} {ns : List (Addr × Obj)} (hns : ∀ p ∈ ns, (Off7 L p.1))
   {l lb lo lf : Addr} {gr ct : Int} {tf tg tc tz : Tok} {x0 x1 x2 x3 : Str} (lx0 : x0.length ≤ 1000) (nx0 : noMatch x0 = true) (zx0 : 1 ≤ x0.length) (ex0 : (x0 == Str.ofString "") = false) (fx0 : (Txt.item x0 0 == Str.ofString ".") = false) (gx0 : (Txt.item x0 (-1) == Str.ofString ".") = false) {i0 : Int} (hx0 : Txt.find x0 (Str.ofString ".") = i0) (ix0 : 0 ≤ i0) (jx0 : Txt.slice x0 (some (i0 + 1)) none = x1) (kx0 : 0 ≤ Txt.find x1 (Str.ofString ".") ∨ (x1 == Str.ofString "local") = true)(lx1 : x1.length ≤ 1000) (nx1 : noMatch x1 = true) (zx1 : 1 ≤ x1.length) (ex1 : (x1 == Str.ofString "") = false) (fx1 : (Txt.item x1 0 == Str.ofString ".") = false) (gx1 : (Txt.item x1 (-1) == Str.ofString ".") = false) {i1 : Int} (hx1 : Txt.find x1 (Str.ofString ".") = i1) (ix1 : 0 ≤ i1) (jx1 : Txt.slice x1 (some (i1 + 1)) none = x2) (kx1 : 0 ≤ Txt.find x2 (Str.ofString ".") ∨ (x2 == Str.ofString "local") = true)(lx2 : x2.length ≤ 1000) (nx2 : noMatch x2 = true) (zx2 : 1 ≤ x2.length) (ex2 : (x2 == Str.ofString "") = false) (fx2 : (Txt.item x2 0 == Str.ofString ".") = false) (gx2 : (Txt.item x2 (-1) == Str.ofString ".") = false) {i2 : Int} (hx2 : Txt.find x2 (Str.ofString ".") = i2) (ix2 : 0 ≤ i2) (jx2 : Txt.slice x2 (some (i2 + 1)) none = x3) (kx2 : 0 ≤ Txt.find x3 (Str.ofString ".") ∨ (x3 == Str.ofString "local") = true) (s1 : Txt.slice (Str.ofString "." ++ x1) (some 1) none = x1) (s2 : Txt.slice (Str.ofString "." ++ x2) (some 1) none = x2) (y1 : (Str.ofString "." ++ x1).length ≤ 1000) (y2 : (Str.ofString "." ++ x2).length ≤ 1000)
   (cF : Fr base L s.heap (fun y => if y = Str.ofString "zone" then some (.str x0 tz) else if y = Str.ofString "forms" then some (.ref lf) else if y = Str.ofString "count" then some (.int ct tc) else if y = Str.ofString "own" then some (.ref lo) else m y)) (cN : News base L s.heap ((L + 1 + 1 + 1 + 1 + 1 + 1 + 1, o7) :: (L + 1 + 1 + 1 + 1 + 1 + 1, o6) :: (L + 1 + 1 + 1 + 1 + 1, o5) :: (L + 1 + 1 + 1 + 1, o4) :: (L + 1 + 1 + 1, o3) :: (L + 1 + 1, o2) :: (L + 1, o1) :: ns))
   (d1 : o1.data = .cell (some (.ref l))) (d2 : o2.data = .cell (some (.ref lb))) (d3 : o3.data = .cell (some (.int 0 tf))) (d4 : o4.data = .cell (some (.int gr tg))) (d5 : o5.data = .cell (none)) (d6 : o6.data = .cell (none)) (d7 : o7.data = .cell (none))
   (hret : ∀ (m' : Str → Option Value) (h' : Heap) (tk' : Nat) (t : Tok), Fr base L h' (fun y => if y = Str.ofString "zone" then some (.str (x0) t) else if y = Str.ofString "forms" then some (.ref lf) else if y = Str.ofString "count" then some (.int ct tc) else if y = Str.ofString "own" then some (.ref lo) else m' y) → News base L h' ((L + 1 + 1 + 1 + 1 + 1 + 1 + 1, o7) :: (L + 1 + 1 + 1 + 1 + 1 + 1, o6) :: (L + 1 + 1 + 1 + 1 + 1, o5) :: (L + 1 + 1 + 1 + 1, o4) :: (L + 1 + 1 + 1, o3) :: (L + 1 + 1, o2) :: (L + 1, o1) :: ns) → Q .next { s with heap := h', toks := tk' }) :
   wpAny (model PP w) (lawA L fa cd) (exec (st 9) (lawEnv L fa cd)) Q E s := by
  conv in (st 9) => whnf
  unfold lawA lawEnv
  conv in (occs := *) lawScope => all_goals whnf
  with_reducible refine wp_gen fun tk0 => ?_
  with_reducible refine letN cN ?_
  intro nz0 cN0
  clear cN
  with_reducible refine letF cF ?_
  intro mz0 cF0
  clear cF
  with_reducible refine letA ?_
  intro A0
  (repeat' (first | (k_unfold; (try dsimp only)) | (k_end; wrow_close) | (k_end; first | (k_dflt (refine UnrEnd.go (by k_asm) (by k_asm) (by assumption) ?_))) | ((k_here; (with_reducible show wpAny _ _ (call (Value.ref 64) _) _ _ _); k_dflt (refine' c_reach (by walk_at "cx") (by with_reducible assumption) (by with_reducible assumption) (by with_reducible assumption) (by with_reducible assumption) (by with_reducible assumption) (by with_reducible assumption) (by with_reducible assumption) (by with_reducible assumption) (by with_reducible assumption) (by with_reducible assumption) ?_); intro _ _ _ _ e9 _ _; subst e9; (try dsimp only); (try k_fold))) | (((with_reducible show wpAny _ _ (pyIter (Value.ref _)) (fun it s₂ => LoopAtV _ _ _ _ _ _ _ _ _ it s₂) _ _); k_dflt (first | (refine iter_rangeUnr (n := 1) (by rfl) (by assumption) (by decide) (by decide) (by k_asm) (by k_asm) ?_) | (refine iter_rangeUnr (n := 2) (by rfl) (by assumption) (by decide) (by decide) (by k_asm) (by k_asm) ?_) | (refine iter_rangeUnr (n := 3) (by rfl) (by assumption) (by decide) (by decide) (by k_asm) (by k_asm) ?_)); intro _ _)) | ((k_here; (with_reducible show wpAny _ _ (subscriptTail _ (Expr.Slice (some _) none none _) (Value.str _ _) (Value.ref _)) _ _ _); (with_reducible rename Fr _ _ _ _ => F'); (with_reducible rename News _ _ _ _ => N'); (refine slice_to (s := ⟨_, _, _, _, _⟩) F' N' (by with_reducible assumption) (by with_reducible assumption) ?_); intro _ _ _ _ _)) | walk1 | (dsimp only; walk1) | (leave1; try dsimp only) | fail "no step"))
  exact hret _ _ _ _ (Fr.put (Str.ofString "zone") (Fr.put (Str.ofString "forms") (Fr.put (Str.ofString "count") (Fr.put (Str.ofString "own") ((by assumption)) rfl) rfl) rfl) rfl) (by assumption)
end Mine
end
section
open _root_.PySem _root_.PySem.W _root_.PySem.W.X _root_.PyProof.Rows
set_option Elab.async false
set_option maxRecDepth 100000
set_option maxHeartbeats 0
namespace Mine
local macro_rules | `(tactic| walk_at "none") => `(tactic| skip)
theorem rs91 : True := by w_top off; trivial
local macro_rules | `(tactic| k_updF) => `(tactic| first | (refine' UpdF.head ?a; (case a => (repeat (refine all_cons (by first | k_ne | omega) ?_)); first | exact all_off1 (by assumption) | exact all_off2 (by assumption) | exact all_off3 (by assumption) | exact all_off4 (by assumption) | exact all_off5 (by assumption) | exact all_off6 (by assumption) | exact all_off7 (by assumption) | (intro p hp; cases hp))) | (refine' UpdF.tail ?a ?b; (case a => first | k_ne | omega); (case b => k_updF)))
theorem s9_1 {w : World} {loose : List Str} {mean : ExcName → Option Value} {mg mb : Str → Option Value} {base : Heap} {L fa : Addr} {cd : Value} {m : Str → Option Value} {s : Shared} {Q : Flow → Shared → Prop} {E : Value → Shared → Prop}
   (cB : Below callerA base [] base) (cX : (Mine.hd.heap_39 w.params).In base) (cT : Top Mine.hd.view_39 loose mean mg mb base) (hE : PassesOwn (model PP w) (lawA L fa cd) (lawEnv L fa cd) E)
   {o1 o2 o3 o4 o5 o6 o7 : Obj} {ns : List (Addr × Obj)} (hns : ∀ p ∈ ns, (Off7 L p.1))
   {l lb lo lf : Addr} {gr ct : Int} {tf tg tc tz : Tok} {x0 x1 x2 x3 : Str} (lx0 : x0.length ≤ 1000) (nx0 : noMatch x0 = true) (zx0 : 1 ≤ x0.length) (ex0 : (x0 == Str.ofString "") = false) (fx0 : (Txt.item x0 0 == Str.ofString ".") = false) (gx0 : (Txt.item x0 (-1) == Str.ofString ".") = false) {i0 : Int} (hx0 : Txt.find x0 (Str.ofString ".") = i0) (ix0 : 0 ≤ i0) (jx0 : Txt.slice x0 (some (i0 + 1)) none = x1) (kx0 : 0 ≤ Txt.find x1 (Str.ofString ".") ∨ (x1 == Str.ofString "local") = true)(lx1 : x1.length ≤ 1000) (nx1 : noMatch x1 = true) (zx1 : 1 ≤ x1.length) (ex1 : (x1 == Str.ofString "") = false) (fx1 : (Txt.item x1 0 == Str.ofString ".") = false) (gx1 : (Txt.item x1 (-1) == Str.ofString ".") = false) {i1 : Int} (hx1 : Txt.find x1 (Str.ofString ".") = i1) (ix1 : 0 ≤ i1) (jx1 : Txt.slice x1 (some (i1 + 1)) none = x2) (kx1 : 0 ≤ Txt.find x2 (Str.ofString ".") ∨ (x2 == Str.ofString "local") = true)(lx2 : x2.length ≤ 1000) (nx2 : noMatch x2 = true) (zx2 : 1 ≤ x2.length) (ex2 : (x2 == Str.ofString "") = false) (fx2 : (Txt.item x2 0 == Str.ofString ".") = false) (gx2 : (Txt.item x2 (-1) == Str.ofString ".") = false) {i2 : Int} (hx2 : Txt.find x2 (Str.ofString ".") = i2) (ix2 : 0 ≤ i2) (jx2 : Txt.slice x2 (some (i2 + 1)) none = x3) (kx2 : 0 ≤ Txt.find x3 (Str.ofString ".") ∨ (x3 == Str.ofString "local") = true) (s1 : Txt.slice (Str.ofString "." ++ x1) (some 1) none = x1) (s2 : Txt.slice (Str.ofString "." ++ x2) (some 1) none = x2) (y1 : (Str.ofString "." ++ x1).length ≤ 1000) (y2 : (Str.ofString "." ++ x2).length ≤ 1000)
   (cF : Fr base L s.heap (fun y => if y = Str.ofString "zone" then some (.str x0 tz) else if y = Str.ofString "forms" then some (.ref lf) else if y = Str.ofString "count" then some (.int ct tc) else if y = Str.ofString "own" then some (.ref lo) else m y)) (cN : News base L s.heap ((L + 1 + 1 + 1 + 1 + 1 + 1 + 1, o7) :: (L + 1 + 1 + 1 + 1 + 1 + 1, o6) :: (L + 1 + 1 + 1 + 1 + 1, o5) :: (L + 1 + 1 + 1 + 1, o4) :: (L + 1 + 1 + 1, o3) :: (L + 1 + 1, o2) :: (L + 1, o1) :: ns))
   (d1 : o1.data = .cell (some (.ref l))) (d2 : o2.data = .cell (some (.ref lb))) (d3 : o3.data = .cell (some (.int 1 tf))) (d4 : o4.data = .cell (some (.int gr tg))) (d5 : o5.data = .cell (none)) (d6 : o6.data = .cell (none)) (d7 : o7.data = .cell (none))
   (hret : ∀ (m' : Str → Option Value) (h' : Heap) (tk' : Nat) (t : Tok), Fr base L h' (fun y => if y = Str.ofString "zone" then some (.str (Str.ofString "." ++ x1) t) else if y = Str.ofString "forms" then some (.ref lf) else if y = Str.ofString "count" then some (.int ct tc) else if y = Str.ofString "own" then some (.ref lo) else m' y) → News base L h' ((L + 1 + 1 + 1 + 1 + 1 + 1 + 1, o7) :: (L + 1 + 1 + 1 + 1 + 1 + 1, o6) :: (L + 1 + 1 + 1 + 1 + 1, o5) :: (L + 1 + 1 + 1 + 1, o4) :: (L + 1 + 1 + 1, o3) :: (L + 1 + 1, o2) :: (L + 1, o1) :: ns) → Q .next { s with heap := h', toks := tk' }) :
   wpAny (model PP w) (lawA L fa cd) (exec (st 9) (lawEnv L fa cd)) Q E s := by
  conv in (st 9) => whnf
  unfold lawA lawEnv
  conv in (occs := *) lawScope => all_goals whnf
  with_reducible refine wp_gen fun tk0 => ?_
  with_reducible refine letN cN ?_
  intro nz0 cN0
  clear cN
  with_reducible refine letF cF ?_
  intro mz0 cF0
  clear cF
  with_reducible refine letA ?_
  intro A0
  (repeat' (first | (k_unfold; (try dsimp only)) | (k_end; wrow_close) | (k_end; first | (k_dflt (refine UnrEnd.go (by k_asm) (by k_asm) (by assumption) ?_))) | ((k_here; (with_reducible show wpAny _ _ (call (Value.ref 64) _) _ _ _); k_dflt (refine' c_reach (by walk_at "cx") (by with_reducible assumption) (by with_reducible assumption) (by with_reducible assumption) (by with_reducible assumption) (by with_reducible assumption) (by with_reducible assumption) (by with_reducible assumption) (by with_reducible assumption) (by with_reducible assumption) (by with_reducible assumption) ?_); intro _ _ _ _ e9 _ _; subst e9; (try dsimp only); (try k_fold))) | (((with_reducible show wpAny _ _ (pyIter (Value.ref _)) (fun it s₂ => LoopAtV _ _ _ _ _ _ _ _ _ it s₂) _ _); k_dflt (first | (refine iter_rangeUnr (n := 1) (by rfl) (by assumption) (by decide) (by decide) (by k_asm) (by k_asm) ?_) | (refine iter_rangeUnr (n := 2) (by rfl) (by assumption) (by decide) (by decide) (by k_asm) (by k_asm) ?_) | (refine iter_rangeUnr (n := 3) (by rfl) (by assumption) (by decide) (by decide) (by k_asm) (by k_asm) ?_)); intro _ _)) | ((k_here; (with_reducible show wpAny _ _ (subscriptTail _ (Expr.Slice (some _) none none _) (Value.str _ _) (Value.ref _)) _ _ _); (with_reducible rename Fr _ _ _ _ => F'); (with_reducible rename News _ _ _ _ => N'); (refine slice_to (s := ⟨_, _, _, _, _⟩) F' N' (by with_reducible assumption) (by with_reducible assumption) ?_); intro _ _ _ _ _)) | walk1 | (dsimp only; walk1) | (leave1; try dsimp only) | fail "no step"))
  exact hret _ _ _ _ (Fr.put (Str.ofString "zone") (Fr.put (Str.ofString "forms") (Fr.put (Str.ofString "count") (Fr.put (Str.ofString "own") ((by assumption)) rfl) rfl) rfl) rfl) (by assumption)
end Mine
end
section
open _root_.PySem _root_.PySem.W _root_.PySem.W.X _root_.PyProof.Rows
set_option Elab.async false
set_option maxRecDepth 100000
set_option maxHeartbeats 0
namespace Mine
theorem rs92 : True := by w_top off; trivial
local macro_rules | `(tactic| k_updF) => `(tactic| first | (refine' UpdF.head ?a; (case a => (repeat (refine all_cons (by first | k_ne | omega) ?_)); first | exact all_off1 (by assumption) | exact all_off2 (by assumption) | exact all_off3 (by assumption) | exact all_off4 (by assumption) | exact all_off5 (by assumption) | exact all_off6 (by assumption) | exact all_off7 (by assumption) | (intro p hp; cases hp))) | (refine' UpdF.tail ?a ?b; (case a => first | k_ne | omega); (case b => k_updF)))
theorem s9_2 {w : World} {loose : List Str} {mean : ExcName → Option Value} {mg mb : Str → Option Value} {base : Heap} {L fa : Addr} {cd : Value} {m : Str → Option Value} {s : Shared} {Q : Flow → Shared → Prop} {E : Value → Shared → Prop}
   (cB : Below callerA base [] base) (cX : (Mine.hd.heap_39 w.params).In base) (cT : Top Mine.hd.view_39 loose mean mg mb base) (hE : PassesOwn (model PP w) (lawA L fa cd) (lawEnv L fa cd) E)
   {o1 o2 o3 o4 o5 o6 o7 : Obj} {ns : List (Addr × Obj)} (hns : ∀ p ∈ ns, (Off7 L p.1))
   {l lb lo lf : Addr} {gr ct : Int} {tf tg tc tz : Tok} {x0 x1 x2 x3 : Str} (lx0 : x0.length ≤ 1000) (nx0 : noMatch x0 = true) (zx0 : 1 ≤ x0.length) (ex0 : (x0 == Str.ofString "") = false) (fx0 : (Txt.item x0 0 == Str.ofString ".") = false) (gx0 : (Txt.item x0 (-1) == Str.ofString ".") = false) {i0 : Int} (hx0 : Txt.find x0 (Str.ofString ".") = i0) (ix0 : 0 ≤ i0) (jx0 : Txt.slice x0 (some (i0 + 1)) none = x1) (kx0 : 0 ≤ Txt.find x1 (Str.ofString ".") ∨ (x1 == Str.ofString "local") = true)(lx1 : x1.length ≤ 1000) (nx1 : noMatch x1 = true) (zx1 : 1 ≤ x1.length) (ex1 : (x1 == Str.ofString "") = false) (fx1 : (Txt.item x1 0 == Str.ofString ".") = false) (gx1 : (Txt.item x1 (-1) == Str.ofString ".") = false) {i1 : Int} (hx1 : Txt.find x1 (Str.ofString ".") = i1) (ix1 : 0 ≤ i1) (jx1 : Txt.slice x1 (some (i1 + 1)) none = x2) (kx1 : 0 ≤ Txt.find x2 (Str.ofString ".") ∨ (x2 == Str.ofString "local") = true)(lx2 : x2.length ≤ 1000) (nx2 : noMatch x2 = true) (zx2 : 1 ≤ x2.length) (ex2 : (x2 == Str.ofString "") = false) (fx2 : (Txt.item x2 0 == Str.ofString ".") = false) (gx2 : (Txt.item x2 (-1) == Str.ofString ".") = false) {i2 : Int} (hx2 : Txt.find x2 (Str.ofString ".") = i2) (ix2 : 0 ≤ i2) (jx2 : Txt.slice x2 (some (i2 + 1)) none = x3) (kx2 : 0 ≤ Txt.find x3 (Str.ofString ".") ∨ (x3 == Str.ofString "local") = true) (s1 : Txt.slice (Str.ofString "." ++ x1) (some 1) none = x1) (s2 : Txt.slice (Str.ofString "." ++ x2) (some 1) none = x2) (y1 : (Str.ofString "." ++ x1).length ≤ 1000) (y2 : (Str.ofString "." ++ x2).length ≤ 1000)
   (cF : Fr base L s.heap (fun y => if y = Str.ofString "zone" then some (.str x0 tz) else if y = Str.ofString "forms" then some (.ref lf) else if y = Str.ofString "count" then some (.int ct tc) else if y = Str.ofString "own" then some (.ref lo) else m y)) (cN : News base L s.heap ((L + 1 + 1 + 1 + 1 + 1 + 1 + 1, o7) :: (L + 1 + 1 + 1 + 1 + 1 + 1, o6) :: (L + 1 + 1 + 1 + 1 + 1, o5) :: (L + 1 + 1 + 1 + 1, o4) :: (L + 1 + 1 + 1, o3) :: (L + 1 + 1, o2) :: (L + 1, o1) :: ns))
   (d1 : o1.data = .cell (some (.ref l))) (d2 : o2.data = .cell (some (.ref lb))) (d3 : o3.data = .cell (some (.int 2 tf))) (d4 : o4.data = .cell (some (.int gr tg))) (d5 : o5.data = .cell (none)) (d6 : o6.data = .cell (none)) (d7 : o7.data = .cell (none))
   (hret : ∀ (m' : Str → Option Value) (h' : Heap) (tk' : Nat) (t : Tok), Fr base L h' (fun y => if y = Str.ofString "zone" then some (.str (Str.ofString "." ++ x2) t) else if y = Str.ofString "forms" then some (.ref lf) else if y = Str.ofString "count" then some (.int ct tc) else if y = Str.ofString "own" then some (.ref lo) else m' y) → News base L h' ((L + 1 + 1 + 1 + 1 + 1 + 1 + 1, o7) :: (L + 1 + 1 + 1 + 1 + 1 + 1, o6) :: (L + 1 + 1 + 1 + 1 + 1, o5) :: (L + 1 + 1 + 1 + 1, o4) :: (L + 1 + 1 + 1, o3) :: (L + 1 + 1, o2) :: (L + 1, o1) :: ns) → Q .next { s with heap := h', toks := tk' }) :
   wpAny (model PP w) (lawA L fa cd) (exec (st 9) (lawEnv L fa cd)) Q E s := by
  conv in (st 9) => whnf
  unfold lawA lawEnv
  conv in (occs := *) lawScope => all_goals whnf
  with_reducible refine wp_gen fun tk0 => ?_
  with_reducible refine letN cN ?_
  intro nz0 cN0
  clear cN
  with_reducible refine letF cF ?_
  intro mz0 cF0
  clear cF
  with_reducible refine letA ?_
  intro A0
  (repeat' (first | (k_unfold; (try dsimp only)) | (k_end; wrow_close) | (k_end; first | (k_dflt (refine UnrEnd.go (by k_asm) (by k_asm) (by assumption) ?_))) | ((k_here; (with_reducible show wpAny _ _ (subscriptTail _ (Expr.Slice (some _) none none _) (Value.str _ _) (Value.ref _)) _ _ _); (with_reducible rename Fr _ _ _ _ => F'); (with_reducible rename News _ _ _ _ => N'); (refine slice_to (s := ⟨_, _, _, _, _⟩) F' N' (by with_reducible assumption) (by with_reducible assumption) ?_); intro _ _ _ _ _)) | ((k_here; (with_reducible show wpAny _ _ (call (Value.ref 64) _) _ _ _); k_dflt (refine' c_reach (by walk_at "cx") (by with_reducible assumption) (by with_reducible assumption) (by with_reducible assumption) (by with_reducible assumption) (by with_reducible assumption) (by with_reducible assumption) (by with_reducible assumption) (by with_reducible assumption) (by with_reducible assumption) (by with_reducible assumption) ?_); intro _ _ _ _ e9 _ _; subst e9; (try dsimp only); (try k_fold))) | (((with_reducible show wpAny _ _ (pyIter (Value.ref _)) (fun it s₂ => LoopAtV _ _ _ _ _ _ _ _ _ it s₂) _ _); k_dflt (first | (refine iter_rangeUnr (n := 1) (by rfl) (by assumption) (by decide) (by decide) (by k_asm) (by k_asm) ?_) | (refine iter_rangeUnr (n := 2) (by rfl) (by assumption) (by decide) (by decide) (by k_asm) (by k_asm) ?_) | (refine iter_rangeUnr (n := 3) (by rfl) (by assumption) (by decide) (by decide) (by k_asm) (by k_asm) ?_)); intro _ _)) | walk1 | (dsimp only; walk1) | (leave1; try dsimp only) | fail "no step"))
  exact hret _ _ _ _ (Fr.put (Str.ofString "zone") (Fr.put (Str.ofString "forms") (Fr.put (Str.ofString "count") (Fr.put (Str.ofString "own") ((by assumption)) rfl) rfl) rfl) rfl) (by assumption)
end Mine
end
section
open _root_.PySem _root_.PySem.W _root_.PySem.W.X _root_.PyProof.Rows
set_option Elab.async false
set_option maxRecDepth 100000
set_option maxHeartbeats 0
namespace Mine
local macro_rules | `(tactic| walk_at "none") => `(tactic| skip)
theorem rs93 : True := by w_top off; trivial
local macro_rules | `(tactic| k_updF) => `(tactic| first | (refine' UpdF.head ?a; (case a => (repeat (refine all_cons (by first | k_ne | omega) ?_)); first | exact all_off1 (by assumption) | exact all_off2 (by assumption) | exact all_off3 (by assumption) | exact all_off4 (by assumption) | exact all_off5 (by assumption) | exact all_off6 (by assumption) | exact all_off7 (by assumption) | (intro p hp; cases hp))) | (refine' UpdF.tail ?a ?b; (case a => first | k_ne | omega); (case b => k_updF)))
theorem s9_3 {w : World} {loose : List Str} {mean : ExcName → Option Value} {mg mb : Str → Option Value} {base : Heap} {L fa : Addr} {cd : Value} {m : Str → Option Value} {s : Shared} {Q : Flow → Shared → Prop} {E : Value → Shared → Prop}
   (cB : Below callerA base [] base) (cX : (Mine.hd.heap_39 w.params).In base) (cT : Top Mine.hd.view_39 loose mean mg mb base) (hE : PassesOwn (model PP w) (lawA L fa cd) (lawEnv L fa cd) E)
   {o1 o2 o3 o4 o5 o6 o7 : Obj} {ns : List (Addr × Obj)} (hns : ∀ p ∈ ns, (Off7 L p.1))
   {l lb lo lf : Addr} {gr ct : Int} {tf tg tc tz : Tok} {x0 x1 x2 x3 : Str} (lx0 : x0.length ≤ 1000) (nx0 : noMatch x0 = true) (zx0 : 1 ≤ x0.length) (ex0 : (x0 == Str.ofString "") = false) (fx0 : (Txt.item x0 0 == Str.ofString ".") = false) (gx0 : (Txt.item x0 (-1) == Str.ofString ".") = false) {i0 : Int} (hx0 : Txt.find x0 (Str.ofString ".") = i0) (ix0 : 0 ≤ i0) (jx0 : Txt.slice x0 (some (i0 + 1)) none = x1) (kx0 : 0 ≤ Txt.find x1 (Str.ofString ".") ∨ (x1 == Str.ofString "local") = true)(lx1 : x1.length ≤ 1000) (nx1 : noMatch x1 = true) (zx1 : 1 ≤ x1.length) (ex1 : (x1 == Str.ofString "") = false) (fx1 : (Txt.item x1 0 == Str.ofString ".") = false) (gx1 : (Txt.item x1 (-1) == Str.ofString ".") = false) {i1 : Int} (hx1 : Txt.find x1 (Str.ofString ".") = i1) (ix1 : 0 ≤ i1) (jx1 : Txt.slice x1 (some (i1 + 1)) none = x2) (kx1 : 0 ≤ Txt.find x2 (Str.ofString ".") ∨ (x2 == Str.ofString "local") = true)(lx2 : x2.length ≤ 1000) (nx2 : noMatch x2 = true) (zx2 : 1 ≤ x2.length) (ex2 : (x2 == Str.ofString "") = false) (fx2 : (Txt.item x2 0 == Str.ofString ".") = false) (gx2 : (Txt.item x2 (-1) == Str.ofString ".") = false) {i2 : Int} (hx2 : Txt.find x2 (Str.ofString ".") = i2) (ix2 : 0 ≤ i2) (jx2 : Txt.slice x2 (some (i2 + 1)) none = x3) (kx2 : 0 ≤ Txt.find x3 (Str.ofString ".") ∨ (x3 == Str.ofString "local") = true) (s1 : Txt.slice (Str.ofString "." ++ x1) (some 1) none = x1) (s2 : Txt.slice (Str.ofString "." ++ x2) (some 1) none = x2) (y1 : (Str.ofString "." ++ x1).length ≤ 1000) (y2 : (Str.ofString "." ++ x2).length ≤ 1000)
   (cF : Fr base L s.heap (fun y => if y = Str.ofString "zone" then some (.str x0 tz) else if y = Str.ofString "forms" then some (.ref lf) else if y = Str.ofString "count" then some (.int ct tc) else if y = Str.ofString "own" then some (.ref lo) else m y)) (cN : News base L s.heap ((L + 1 + 1 + 1 + 1 + 1 + 1 + 1, o7) :: (L + 1 + 1 + 1 + 1 + 1 + 1, o6) :: (L + 1 + 1 + 1 + 1 + 1, o5) :: (L + 1 + 1 + 1 + 1, o4) :: (L + 1 + 1 + 1, o3) :: (L + 1 + 1, o2) :: (L + 1, o1) :: ns))
   (d1 : o1.data = .cell (some (.ref l))) (d2 : o2.data = .cell (some (.ref lb))) (d3 : o3.data = .cell (some (.int 3 tf))) (d4 : o4.data = .cell (some (.int gr tg))) (d5 : o5.data = .cell (none)) (d6 : o6.data = .cell (none)) (d7 : o7.data = .cell (none))
   (hret : ∀ (m' : Str → Option Value) (h' : Heap) (tk' : Nat) (t : Tok), Fr base L h' (fun y => if y = Str.ofString "zone" then some (.str (Str.ofString "." ++ x3) t) else if y = Str.ofString "forms" then some (.ref lf) else if y = Str.ofString "count" then some (.int ct tc) else if y = Str.ofString "own" then some (.ref lo) else m' y) → News base L h' ((L + 1 + 1 + 1 + 1 + 1 + 1 + 1, o7) :: (L + 1 + 1 + 1 + 1 + 1 + 1, o6) :: (L + 1 + 1 + 1 + 1 + 1, o5) :: (L + 1 + 1 + 1 + 1, o4) :: (L + 1 + 1 + 1, o3) :: (L + 1 + 1, o2) :: (L + 1, o1) :: ns) → Q .next { s with heap := h', toks := tk' }) :
   wpAny (model PP w) (lawA L fa cd) (exec (st 9) (lawEnv L fa cd)) Q E s := by
  conv in (st 9) => whnf
  unfold lawA lawEnv
  conv in (occs := *) lawScope => all_goals whnf
  with_reducible refine wp_gen fun tk0 => ?_
  with_reducible refine letN cN ?_
  intro nz0 cN0
  clear cN
  with_reducible refine letF cF ?_
  intro mz0 cF0
  clear cF
  with_reducible refine letA ?_
  intro A0
  (repeat' (first | (k_unfold; (try dsimp only)) | (k_end; wrow_close) | (k_end; first | (k_dflt (refine UnrEnd.go (by k_asm) (by k_asm) (by assumption) ?_))) | ((k_here; (with_reducible show wpAny _ _ (subscriptTail _ (Expr.Slice (some _) none none _) (Value.str _ _) (Value.ref _)) _ _ _); (with_reducible rename Fr _ _ _ _ => F'); (with_reducible rename News _ _ _ _ => N'); (refine slice_to (s := ⟨_, _, _, _, _⟩) F' N' (by with_reducible assumption) (by with_reducible assumption) ?_); intro _ _ _ _ _)) | ((k_here; (with_reducible show wpAny _ _ (call (Value.ref 64) _) _ _ _); k_dflt (refine' c_reach (by walk_at "cx") (by with_reducible assumption) (by with_reducible assumption) (by with_reducible assumption) (by with_reducible assumption) (by with_reducible assumption) (by with_reducible assumption) (by with_reducible assumption) (by with_reducible assumption) (by with_reducible assumption) (by with_reducible assumption) ?_); intro _ _ _ _ e9 _ _; subst e9; (try dsimp only); (try k_fold))) | (((with_reducible show wpAny _ _ (pyIter (Value.ref _)) (fun it s₂ => LoopAtV _ _ _ _ _ _ _ _ _ it s₂) _ _); k_dflt (first | (refine iter_rangeUnr (n := 1) (by rfl) (by assumption) (by decide) (by decide) (by k_asm) (by k_asm) ?_) | (refine iter_rangeUnr (n := 2) (by rfl) (by assumption) (by decide) (by decide) (by k_asm) (by k_asm) ?_) | (refine iter_rangeUnr (n := 3) (by rfl) (by assumption) (by decide) (by decide) (by k_asm) (by k_asm) ?_)); intro _ _)) | walk1 | (dsimp only; walk1) | (leave1; try dsimp only) | fail "no step"))
  exact hret _ _ _ _ (Fr.put (Str.ofString "zone") (Fr.put (Str.ofString "forms") (Fr.put (Str.ofString "count") (Fr.put (Str.ofString "own") ((by assumption)) rfl) rfl) rfl) rfl) (by assumption)
end Mine
end
section
open _root_.PySem _root_.PySem.W _root_.PySem.W.X _root_.PyProof.Rows
set_option Elab.async false
set_option maxRecDepth 100000
set_option maxHeartbeats 0
namespace Mine
theorem rs94 : True := by w_top off; trivial
theorem c_hostl {w : World} {loose : List Str} {mean : ExcName → Option Value} {mg mb : Str → Option Value} {dp un : Nat} {gd : Option (List Code)} {cn : Str} {cs : Scope} {a : Addr} {ccd : Value} {cl : List (Str × Addr)} {outer : List Env} {A₀ : Around} {base h₀ : Heap} {L : Addr} {m : Str → Option Value} {news : List (Addr × Obj)} {s : Shared} {Q E : Value → Shared → Prop}
   (cx : Cx 1 w loose mean mg mb dp un cs outer A₀ base h₀ L m s.heap news) {l : Addr} {k : Nat} {f0 f1 f2 : Int} {t0 t1 t2 : Tok} (hl : (l, W.listOf #[.int f0 t0, .int f1 t1, .int f2 t2] k) ∈ news) (a0 : 65 ≤ f0) (a1 : f0 ≤ 67) (b0 : 65 ≤ f1) (b1 : f1 ≤ 67) (c0 : 65 ≤ f2) (c1 : f2 ≤ 67)
   (hret : ∀ (t' : Tok) (h' : Heap) (tk' : Nat), Fr h₀ L h' m → News h₀ L h' news → Q (.str (hostS f0 f1 f2) t') { s with heap := h', toks := tk' }) :
  wpAny (model PP w) (ktrTop dp un gd cn cs L a ccd cl outer) (call (.ref 97) [.ref l]) Q E s := by
  obtain ⟨cB, cF, cX, cN, cT, ck, cd, cu⟩ := cx
  refine wpAny_call ?_
  k_dflt cell_enter
  with_reducible refine wp_gen fun tk0 => ?_
  dsimp only
  with_reducible refine letA ?_
  intro A0
  (repeat' (first | (k_unfold; (try dsimp only)) | (k_end; wrow_close) | (k_end; first | ((k_dflt (refine LCg.CompEnd.intro (by assumption) (by k_asm) _ (fun p hp => hp) (by assumption) (Or.inr ⟨_, by assumption, rfl, _, rfl⟩) ?_)))) | ((with_reducible show wpAny _ _ (call (Value.builtin "str.join") _ _) _ _ _); (k_here; k_dflt (refine' join4 (by k_asm) (by k_mem) ?_); intro _ _)) | walk1 | (dsimp only; walk1) | (leave1; try dsimp only) | fail "no step"))
  all_goals (first | (exact hret _ _ _ (by assumption) (cb_drop (by assumption) (by intro p hp; simp only [List.mem_cons]; simp only [hp, or_true]))) | trace_state)
end Mine
end
section
open _root_.PySem _root_.PySem.W _root_.PySem.W.X _root_.PyProof.Rows
set_option Elab.async false
set_option maxRecDepth 100000
set_option maxHeartbeats 0
namespace Mine
local macro_rules | `(tactic| walk_at "none") => `(tactic| skip)
theorem rs95 : True := by w_top off; trivial
local macro_rules | `(tactic| k_updF) => `(tactic| first | (refine' UpdF.head ?a; (case a => (repeat (refine all_cons (by first | k_ne | omega) ?_)); first | exact all_off1 (by assumption) | exact all_off2 (by assumption) | exact all_off3 (by assumption) | exact all_off4 (by assumption) | exact all_off5 (by assumption) | exact all_off6 (by assumption) | exact all_off7 (by assumption) | (intro p hp; cases hp))) | (refine' UpdF.tail ?a ?b; (case a => first | k_ne | omega); (case b => k_updF)))
theorem s8 {w : World} {loose : List Str} {mean : ExcName → Option Value} {mg mb : Str → Option Value} {base : Heap} {L fa : Addr} {cd : Value} {m : Str → Option Value} {s : Shared} {Q : Flow → Shared → Prop} {E : Value → Shared → Prop}
   (cB : Below callerA base [] base) (cX : (Mine.hd.heap_39 w.params).In base) (cT : Top Mine.hd.view_39 loose mean mg mb base) (hE : PassesOwn (model PP w) (lawA L fa cd) (lawEnv L fa cd) E)
   {o1 o2 o3 o4 o5 o6 o7 : Obj} {ns : List (Addr × Obj)} (hns : ∀ p ∈ ns, (Off7 L p.1))
   {l lb lo lf : Addr} {fr gr ct : Int} {tf tg tc v0 v1 v2 : Tok} {w0 w1 w2 : Int} (hlo : (Off7 L lo)) (a0 : 0 ≤ w0) (a1 : w0 ≤ 2) (b0 : 0 ≤ w1) (b1 : w1 ≤ 2) (d0 : 0 ≤ w2) (e1 : w2 ≤ 2)
   (cF : Fr base L s.heap (fun y => if y = Str.ofString "forms" then some (.ref lf) else if y = Str.ofString "count" then some (.int ct tc) else if y = Str.ofString "own" then some (.ref lo) else m y)) (cN : News base L s.heap ((lo, LCg.lst [.int w0 v0, .int w1 v1, .int w2 v2]) :: (L + 1 + 1 + 1 + 1 + 1 + 1 + 1, o7) :: (L + 1 + 1 + 1 + 1 + 1 + 1, o6) :: (L + 1 + 1 + 1 + 1 + 1, o5) :: (L + 1 + 1 + 1 + 1, o4) :: (L + 1 + 1 + 1, o3) :: (L + 1 + 1, o2) :: (L + 1, o1) :: ns))
   (d1 : o1.data = .cell (some (.ref l))) (d2 : o2.data = .cell (some (.ref lb))) (d3 : o3.data = .cell (some (.int fr tf))) (d4 : o4.data = .cell (some (.int gr tg))) (d5 : o5.data = .cell (none)) (d6 : o6.data = .cell (none)) (d7 : o7.data = .cell (none))
   (hret : ∀ (m' : Str → Option Value) (h' : Heap) (tk' : Nat) (t : Tok), Fr base L h' (fun y => if y = Str.ofString "zone" then some (.str (hostS (65 + w0) (65 + w1) (65 + w2)) t) else if y = Str.ofString "forms" then some (.ref lf) else if y = Str.ofString "count" then some (.int ct tc) else if y = Str.ofString "own" then some (.ref lo) else m' y) → News base L h' ((lo, LCg.lst [.int w0 v0, .int w1 v1, .int w2 v2]) :: (L + 1 + 1 + 1 + 1 + 1 + 1 + 1, o7) :: (L + 1 + 1 + 1 + 1 + 1 + 1, o6) :: (L + 1 + 1 + 1 + 1 + 1, o5) :: (L + 1 + 1 + 1 + 1, o4) :: (L + 1 + 1 + 1, o3) :: (L + 1 + 1, o2) :: (L + 1, o1) :: ns) → Q .next { s with heap := h', toks := tk' }) :
   wpAny (model PP w) (lawA L fa cd) (exec (st 8) (lawEnv L fa cd)) Q E s := by
  conv in (st 8) => whnf
  unfold lawA lawEnv
  conv in (occs := *) lawScope => all_goals whnf
  with_reducible refine wp_gen fun tk0 => ?_
  with_reducible refine letN cN ?_
  intro nz0 cN0
  clear cN
  with_reducible refine letF cF ?_
  intro mz0 cF0
  clear cF
  with_reducible refine letA ?_
  intro A0
  (repeat' (first | (k_unfold; (try dsimp only)) | (k_end; wrow_close) | (k_end; first | ((k_dflt (first | (refine compEnd_tup (by k_asm) (by k_asm) (by assumption) (by assumption) (Or.inr ⟨_, by walk_at "mem", rfl, _, rfl⟩) ?_) | refine LCg.CompEnd.intro (by assumption) (by k_asm) _ (fun p hp => hp) (by assumption) True.intro ?_ | refine LCg.CompEnd.intro (by assumption) (by k_asm) _ (fun p hp => hp) (by assumption) (Or.inr ⟨_, by assumption, rfl, _, rfl⟩) ?_ | refine LCg.CompEnd.intro (by assumption) (by k_asm) _ (fun p hp => hp) (by assumption) (Or.inr ⟨_, by walk_at "mem", rfl, _, rfl⟩) ?_)))) | ((k_here; (with_reducible show wpAny _ _ (call (Value.ref 97) _) _ _ _); k_dflt (refine' c_hostl (by walk_at "cx") (by walk_at "mem") (by omega) (by omega) (by omega) (by omega) (by omega) (by omega) ?_); intro _ _ _ _ _; (try dsimp only); (try k_fold))) | ((with_reducible show wpAny _ _ (call (Value.builtin "str.join") _ _) _ _ _); (k_here; k_dflt (refine' join4 (by k_asm) (by k_mem) ?_); intro _ _)) | walk1 | (dsimp only; walk1) | (leave1; try dsimp only) | fail "no step"))
  exact hret _ _ _ _ (Fr.put (Str.ofString "zone") (Fr.put (Str.ofString "forms") (Fr.put (Str.ofString "count") (Fr.put (Str.ofString "own") ((by assumption)) rfl) rfl) rfl) rfl) (news_drop (by assumption) (fun p hp => by repeat (first | exact hp | refine List.Mem.tail _ ?_)))
end Mine
end
section
open _root_.PySem _root_.PySem.W _root_.PySem.W.X _root_.PyProof.Rows
set_option Elab.async false
set_option maxRecDepth 100000
set_option maxHeartbeats 0
namespace Mine
theorem rs96 : True := by w_top off; trivial
theorem bt_two {b0 b1 b2 : Int} (hB : BT b0 b1 b2) : 2 ≤ b0 ∧ b0 ≤ 3 ∧ 2 ≤ b1 ∧ b1 ≤ 3 ∧ 2 ≤ b2 ∧ b2 ≤ 3 := by
  rcases hB with ⟨rfl, rfl, rfl⟩ | ⟨rfl, rfl, rfl⟩ | ⟨rfl, rfl, rfl⟩ <;> decide
theorem bt_11 {b0 b1 b2 : Int} (hB : BT b0 b1 b2) : (b0 = 2 ∨ b0 = 3) ∧ (b1 = 2 ∨ b1 = 3) ∧ (b2 = 2 ∨ b2 = 3) ∧ (List.range' 0 b2.toNat).flatMap (fun (q : Nat) => (List.range' 0 b1.toNat).flatMap (fun (j : Nat) => (List.range' 0 b0.toNat).flatMap (fun (l : Nat) => [65 + (q : Int), 65 + (j : Int), 65 + (l : Int)]))) = ksT b0 b1 b2 := by
  rcases hB with ⟨rfl, rfl, rfl⟩ | ⟨rfl, rfl, rfl⟩ | ⟨rfl, rfl, rfl⟩ <;> exact ⟨by decide, by decide, by decide, by decide +kernel⟩
theorem fr4 {fr : Int} (f0 : 0 ≤ fr) (f1 : fr ≤ 3) : fr = 0 ∨ fr = 1 ∨ fr = 2 ∨ fr = 3 := by omega
theorem ct4 {ct fr : Int} (h0 : 0 ≤ ct) (hn : ct ≤ fr) (f1 : fr ≤ 3) : ct = 0 ∨ ct = 1 ∨ ct = 2 ∨ ct = 3 := by omega
theorem fr_bd (x : Int) : 0 ≤ 3 - x.fmod 4 ∧ 3 - x.fmod 4 ≤ 3 := by
  have h := fmod_nn (x := x) (c := 4) (by decide)
  omega
theorem gr_bd (x : Int) : 1 ≤ 1 + x.fmod 50 ∧ 1 + x.fmod 50 ≤ 50 := by
  have h := fmod_nn (x := x) (c := 50) (by decide)
  omega
theorem pos_of2 {b : Int} (h : 2 ≤ b) : 0 < b := by omega
theorem j11 {w : World} {loose : List Str} {mean : ExcName → Option Value} {mg mb : Str → Option Value} {base : Heap} {L fa : Addr} {cd : Value} {m : Str → Option Value} {s : Shared} {Q : Flow → Shared → Prop} {E : Value → Shared → Prop}
   (cB : Below callerA base [] base) (cX : (Mine.hd.heap_39 w.params).In base) (cT : Top Mine.hd.view_39 loose mean mg mb base) (hE : PassesOwn (model PP w) (lawA L fa cd) (lawEnv L fa cd) E)
   {o1 o2 o3 o4 o5 o6 o7 : Obj} {ns : List (Addr × Obj)} (hns : ∀ p ∈ ns, (Off7 L p.1))
   {l lb lo lf : Addr} {fr gr ct b0 b1 b2 w0 w1 w2 : Int} {tf tg tc u0 u1 u2 v0 v1 v2 : Tok} {fs : List Form} {wd : Array UInt8} {zn : Str} {tw tz : Tok} (hlo : (Off7 L lo)) (hlb : (Off7 L lb)) (f0 : 0 ≤ fr) (f1 : fr ≤ 3) (g0 : 1 ≤ gr) (g1 : gr ≤ 50) (hB : BT b0 b1 b2) (a0 : 0 ≤ w0) (a1 : w0 < b0) (c0 : 0 ≤ w1) (c1 : w1 < b1) (e0 : 0 ≤ w2) (e1 : w2 < b2)
   (hct : ct = (fs.length : Int)) (hn : ct ≤ fr) (hm : fr ≤ ct + 2) (hbd : ∀ x ∈ fs, (-4 ≤ x.b ∧ x.b ≤ 4) ∧ (-7 ≤ x.f ∧ x.f ≤ 7)) (hlf : (lf, formsO fs fs.length) ∈ ns) (hin : ∀ x ∈ fs, x.In ns) (hwd : KBw.bInts wd = []) (hzn : zn = znT fr w0 w1 w2) (hpos : 0 < s.toks)
   (cF : Fr base L s.heap (fun y => if y = Str.ofString "words" then some (.bytes wd tw) else if y = Str.ofString "zone" then some (.str zn tz) else if y = Str.ofString "forms" then some (.ref lf) else if y = Str.ofString "count" then some (.int ct tc) else if y = Str.ofString "own" then some (.ref lo) else m y)) (cN : News base L s.heap ((lo, LCg.lst [.int w0 v0, .int w1 v1, .int w2 v2]) :: (lb, LCg.lst [.int b0 u0, .int b1 u1, .int b2 u2]) :: (L + 1 + 1 + 1 + 1 + 1 + 1 + 1, o7) :: (L + 1 + 1 + 1 + 1 + 1 + 1, o6) :: (L + 1 + 1 + 1 + 1 + 1, o5) :: (L + 1 + 1 + 1 + 1, o4) :: (L + 1 + 1 + 1, o3) :: (L + 1 + 1, o2) :: (L + 1, o1) :: ns))
   (d1 : o1.data = .cell (some (.ref l))) (d2 : o2.data = .cell (some (.ref lb))) (d3 : o3.data = .cell (some (.int fr tf))) (d4 : o4.data = .cell (some (.int gr tg))) (d5 : o5.data = .cell (none)) (d6 : o6.data = .cell (none)) (d7 : o7.data = .cell (none))
   (hret : ∀ (m' : Str → Option Value) (h' : Heap) (tk' : Nat) (nw : List (Addr × Obj)), Fr base L h' m' → News base L h' nw → Q (.ret (.bool true)) { s with heap := h', toks := tk' }) :
   wpC (model PP w) (lawA L fa cd) (execs [st 11, st 12, st 13, st 14, st 15, st 16, st 17, st 18, st 19, st 20, st 21, st 22] (lawEnv L fa cd)) Q E s := by
  have tail : ∀ (m1 : Str → Option Value) (h1 : Heap) (t1 : Nat) (wd1 : Array UInt8) (tw1 : Tok), KBw.bInts wd1 = ksT b0 b1 b2 → Fr base L h1 (fun y => if y = Str.ofString "words" then some (.bytes wd1 tw1) else if y = Str.ofString "zone" then some (.str zn tz) else if y = Str.ofString "forms" then some (.ref lf) else if y = Str.ofString "count" then some (.int ct tc) else if y = Str.ofString "own" then some (.ref lo) else m1 y) → News base L h1 ((lb, LCg.lst [.int b0 u0, .int b1 u1, .int b2 u2]) :: (L + 1 + 1 + 1 + 1 + 1 + 1 + 1, o7) :: (L + 1 + 1 + 1 + 1 + 1 + 1, o6) :: (L + 1 + 1 + 1 + 1 + 1, o5) :: (L + 1 + 1 + 1 + 1, o4) :: (L + 1 + 1 + 1, o3) :: (L + 1 + 1, o2) :: (L + 1, o1) :: (lo, LCg.lst [.int w0 v0, .int w1 v1, .int w2 v2]) :: ns) → s.toks ≤ t1 →
      wpC (model PP w) (lawA L fa cd) (execs [st 12, st 13, st 14, st 15, st 16, st 17, st 18, st 19, st 20, st 21, st 22] (lawEnv L fa cd)) Q E { s with heap := h1, toks := t1 } := by
    intro m1 h1 t1 wd1 tw1 hw F1 N1 hle
    have hpos1 := Nat.lt_of_lt_of_le hpos hle
    clear hle
    refine wpC_execsCons (wpC_toks (s12 (s := { s with heap := h1, toks := t1 }) cB cX cT hE hw (bt_facts hB).1 (Fr.put (Str.ofString "zone") (Fr.put (Str.ofString "words") (Fr.put (Str.ofString "forms") (Fr.put (Str.ofString "count") (Fr.put (Str.ofString "own") (F1) rfl) rfl) rfl) rfl) rfl) (news_drop N1 (by (repeat (refine sub_cons (by repeat (first | exact List.Mem.head _ | refine List.Mem.tail _ ?_)) ?_)); exact fun p hp => by repeat (first | exact hp | refine List.Mem.tail _ ?_)) : News base L h1 ((L + 1 + 1 + 1 + 1 + 1 + 1 + 1, o7) :: (L + 1 + 1 + 1 + 1 + 1 + 1, o6) :: (L + 1 + 1 + 1 + 1 + 1, o5) :: (L + 1 + 1 + 1 + 1, o4) :: (L + 1 + 1 + 1, o3) :: (L + 1 + 1, o2) :: (L + 1, o1) :: (lo, LCg.lst [.int w0 v0, .int w1 v1, .int w2 v2]) :: (lb, LCg.lst [.int b0 u0, .int b1 u1, .int b2 u2]) :: ns)) d1 d2 d3 d4 d5 d6 d7 ?_))
    intro m2 h2 t2 td tt htd F2 N2 hle
    have hpos2 := Nat.lt_of_lt_of_le hpos1 hle
    exact wpC.of (j13 (s := { s with heap := h2, toks := t2 }) cB cX cT hE hns hlo hlb f0 f1 g0 g1 hB a0 a1 c0 c1 e0 e1 hct hn hm hbd hlf hin hw htd hzn hpos2 (Fr.put (Str.ofString "turned") (Fr.put (Str.ofString "zone") (Fr.put (Str.ofString "words") (Fr.put (Str.ofString "forms") (Fr.put (Str.ofString "count") (Fr.put (Str.ofString "own") (F2) rfl) rfl) rfl) rfl) rfl) rfl) (news_drop N2 (by (repeat (refine sub_cons (by repeat (first | exact List.Mem.head _ | refine List.Mem.tail _ ?_)) ?_)); exact fun p hp => by repeat (first | exact hp | refine List.Mem.tail _ ?_))) d1 d2 d3 d4 d5 d6 d7 hret)
  obtain ⟨z0, z1, z2, z3⟩ := bt_11 hB
  refine wpC_execsCons (wpC.of (wpAny_toks (s11 cB cX cT hE z0 z1 z2 hwd cF (news_drop cN (by (repeat (refine sub_cons (by repeat (first | exact List.Mem.head _ | refine List.Mem.tail _ ?_)) ?_)); exact fun p hp => by repeat (first | exact hp | refine List.Mem.tail _ ?_)) : News base L s.heap ((lb, LCg.lst [.int b0 u0, .int b1 u1, .int b2 u2]) :: (L + 1 + 1 + 1 + 1 + 1 + 1 + 1, o7) :: (L + 1 + 1 + 1 + 1 + 1 + 1, o6) :: (L + 1 + 1 + 1 + 1 + 1, o5) :: (L + 1 + 1 + 1 + 1, o4) :: (L + 1 + 1 + 1, o3) :: (L + 1 + 1, o2) :: (L + 1, o1) :: (lo, LCg.lst [.int w0 v0, .int w1 v1, .int w2 v2]) :: ns)) d1 d2 d3 d4 d5 d6 d7 ?_)))
  intro m1 h1 t1 wd1 tw1 e1 F1 N1 hle
  exact tail m1 h1 t1 wd1 tw1 (e1.trans z3) F1 N1 hle
theorem j9 {w : World} {loose : List Str} {mean : ExcName → Option Value} {mg mb : Str → Option Value} {base : Heap} {L fa : Addr} {cd : Value} {m : Str → Option Value} {s : Shared} {Q : Flow → Shared → Prop} {E : Value → Shared → Prop}
   (cB : Below callerA base [] base) (cX : (Mine.hd.heap_39 w.params).In base) (cT : Top Mine.hd.view_39 loose mean mg mb base) (hE : PassesOwn (model PP w) (lawA L fa cd) (lawEnv L fa cd) E)
   {o1 o2 o3 o4 o5 o6 o7 : Obj} {ns : List (Addr × Obj)} (hns : ∀ p ∈ ns, (Off7 L p.1))
   {l lb lo lf : Addr} {fr gr ct b0 b1 b2 w0 w1 w2 : Int} {tf tg tc u0 u1 u2 v0 v1 v2 : Tok} {fs : List Form} {z0 : Str} {tz : Tok} (hlo : (Off7 L lo)) (hlb : (Off7 L lb)) (f0 : 0 ≤ fr) (f1 : fr ≤ 3) (g0 : 1 ≤ gr) (g1 : gr ≤ 50) (hB : BT b0 b1 b2) (a0 : 0 ≤ w0) (a1 : w0 < b0) (c0 : 0 ≤ w1) (c1 : w1 < b1) (e0 : 0 ≤ w2) (e1 : w2 < b2)
   (hct : ct = (fs.length : Int)) (hn : ct ≤ fr) (hm : fr ≤ ct + 2) (hbd : ∀ x ∈ fs, (-4 ≤ x.b ∧ x.b ≤ 4) ∧ (-7 ≤ x.f ∧ x.f ≤ 7)) (hlf : (lf, formsO fs fs.length) ∈ ns) (hin : ∀ x ∈ fs, x.In ns) (hz : z0 = hostS (65 + w0) (65 + w1) (65 + w2)) (hpos : 0 < s.toks)
   (cF : Fr base L s.heap (fun y => if y = Str.ofString "zone" then some (.str z0 tz) else if y = Str.ofString "forms" then some (.ref lf) else if y = Str.ofString "count" then some (.int ct tc) else if y = Str.ofString "own" then some (.ref lo) else m y)) (cN : News base L s.heap ((lo, LCg.lst [.int w0 v0, .int w1 v1, .int w2 v2]) :: (lb, LCg.lst [.int b0 u0, .int b1 u1, .int b2 u2]) :: (L + 1 + 1 + 1 + 1 + 1 + 1 + 1, o7) :: (L + 1 + 1 + 1 + 1 + 1 + 1, o6) :: (L + 1 + 1 + 1 + 1 + 1, o5) :: (L + 1 + 1 + 1 + 1, o4) :: (L + 1 + 1 + 1, o3) :: (L + 1 + 1, o2) :: (L + 1, o1) :: ns))
   (d1 : o1.data = .cell (some (.ref l))) (d2 : o2.data = .cell (some (.ref lb))) (d3 : o3.data = .cell (some (.int fr tf))) (d4 : o4.data = .cell (some (.int gr tg))) (d5 : o5.data = .cell (none)) (d6 : o6.data = .cell (none)) (d7 : o7.data = .cell (none))
   (hret : ∀ (m' : Str → Option Value) (h' : Heap) (tk' : Nat) (nw : List (Addr × Obj)), Fr base L h' m' → News base L h' nw → Q (.ret (.bool true)) { s with heap := h', toks := tk' }) :
   wpC (model PP w) (lawA L fa cd) (execs [st 9, st 10, st 11, st 12, st 13, st 14, st 15, st 16, st 17, st 18, st 19, st 20, st 21, st 22] (lawEnv L fa cd)) Q E s := by
  subst hz
  obtain ⟨b0a, b0b, b1a, b1b, b2a, b2b⟩ := bt_two hB
  have w0b := le2 a1 b0b
  have w1b := le2 c1 b1b
  have w2b := le2 e1 b2b
  obtain ⟨q0, q1, q2, q3, q4, q5, q6, q7, q8⟩ := s9_a a0 w0b c0 w1b e0 w2b
  obtain ⟨q9, q10, q11, q12, q13, q14, q15, q16, q17⟩ := s9_b c0 w1b e0 w2b
  obtain ⟨q18, q19, q20, q21, q22, q23, q24, q25, q26⟩ := s9_c e0 w2b
  obtain ⟨q27, q28, q29, q30⟩ := s9_d c0 w1b e0 w2b
  have tail : ∀ (m1 : Str → Option Value) (h1 : Heap) (t1 : Nat) (z1 : Str) (tz1 : Tok), z1 = znT fr w0 w1 w2 → Fr base L h1 (fun y => if y = Str.ofString "zone" then some (.str z1 tz1) else if y = Str.ofString "forms" then some (.ref lf) else if y = Str.ofString "count" then some (.int ct tc) else if y = Str.ofString "own" then some (.ref lo) else m1 y) → News base L h1 ((L + 1 + 1 + 1 + 1 + 1 + 1 + 1, o7) :: (L + 1 + 1 + 1 + 1 + 1 + 1, o6) :: (L + 1 + 1 + 1 + 1 + 1, o5) :: (L + 1 + 1 + 1 + 1, o4) :: (L + 1 + 1 + 1, o3) :: (L + 1 + 1, o2) :: (L + 1, o1) :: (lo, LCg.lst [.int w0 v0, .int w1 v1, .int w2 v2]) :: (lb, LCg.lst [.int b0 u0, .int b1 u1, .int b2 u2]) :: ns) → s.toks ≤ t1 →
      wpC (model PP w) (lawA L fa cd) (execs [st 10, st 11, st 12, st 13, st 14, st 15, st 16, st 17, st 18, st 19, st 20, st 21, st 22] (lawEnv L fa cd)) Q E { s with heap := h1, toks := t1 } := by
    intro m1 h1 t1 z1 tz1 hz1 F1 N1 hle
    have hpos1 := Nat.lt_of_lt_of_le hpos hle
    clear hle
    have hns1 := hall_cons (P := fun p => (Off7 L p.1)) (a := (lo, LCg.lst [.int w0 v0, .int w1 v1, .int w2 v2])) hlo (hall_cons (P := fun p => (Off7 L p.1)) (a := (lb, LCg.lst [.int b0 u0, .int b1 u1, .int b2 u2])) hlb hns)
    refine wpC_execsCons (wpC.of (wpAny_toks (s10 (s := { s with heap := h1, toks := t1 }) cB cX cT hE hns1 F1 N1 d1 d2 d3 d4 d5 d6 d7 ?_)))
    intro m2 h2 t2 wd tw hwd F2 N2 hle
    have hpos2 := Nat.lt_of_lt_of_le hpos1 hle
    exact j11 (s := { s with heap := h2, toks := t2 }) cB cX cT hE hns hlo hlb f0 f1 g0 g1 hB a0 a1 c0 c1 e0 e1 hct hn hm hbd hlf hin hwd hz1 hpos2 F2 (news_drop N2 (by (repeat (refine sub_cons (by repeat (first | exact List.Mem.head _ | refine List.Mem.tail _ ?_)) ?_)); exact fun p hp => by repeat (first | exact hp | refine List.Mem.tail _ ?_))) d1 d2 d3 d4 d5 d6 d7 hret
  have hns1 := hall_cons (P := fun p => (Off7 L p.1)) (a := (lo, LCg.lst [.int w0 v0, .int w1 v1, .int w2 v2])) hlo (hall_cons (P := fun p => (Off7 L p.1)) (a := (lb, LCg.lst [.int b0 u0, .int b1 u1, .int b2 u2])) hlb hns)
  have N0 : News base L s.heap ((L + 1 + 1 + 1 + 1 + 1 + 1 + 1, o7) :: (L + 1 + 1 + 1 + 1 + 1 + 1, o6) :: (L + 1 + 1 + 1 + 1 + 1, o5) :: (L + 1 + 1 + 1 + 1, o4) :: (L + 1 + 1 + 1, o3) :: (L + 1 + 1, o2) :: (L + 1, o1) :: (lo, LCg.lst [.int w0 v0, .int w1 v1, .int w2 v2]) :: (lb, LCg.lst [.int b0 u0, .int b1 u1, .int b2 u2]) :: ns) := news_drop cN (by (repeat (refine sub_cons (by repeat (first | exact List.Mem.head _ | refine List.Mem.tail _ ?_)) ?_)); exact fun p hp => by repeat (first | exact hp | refine List.Mem.tail _ ?_))
  have hf := fr4 f0 f1
  rcases hf with rfl | rfl | rfl | rfl
  · refine wpC_execsCons (wpC.of (wpAny_toks (s9_0 cB cX cT hE hns1 q0 q1 q2 q3 q4 q5 q6 (by decide) q7 q8 q9 q10 q11 q12 q13 q14 q15 (by decide) q16 q17 q18 q19 q20 q21 q22 q23 q24 (by decide) q25 q26 q27 q28 q29 q30 cF N0 d1 d2 d3 d4 d5 d6 d7 ?_)))
    intro m1 h1 t1 tz1 F1 N1 hle
    exact tail m1 h1 t1 _ tz1 rfl F1 N1 hle
  · refine wpC_execsCons (wpC.of (wpAny_toks (s9_1 cB cX cT hE hns1 q0 q1 q2 q3 q4 q5 q6 (by decide) q7 q8 q9 q10 q11 q12 q13 q14 q15 (by decide) q16 q17 q18 q19 q20 q21 q22 q23 q24 (by decide) q25 q26 q27 q28 q29 q30 cF N0 d1 d2 d3 d4 d5 d6 d7 ?_)))
    intro m1 h1 t1 tz1 F1 N1 hle
    exact tail m1 h1 t1 _ tz1 rfl F1 N1 hle
  · refine wpC_execsCons (wpC.of (wpAny_toks (s9_2 cB cX cT hE hns1 q0 q1 q2 q3 q4 q5 q6 (by decide) q7 q8 q9 q10 q11 q12 q13 q14 q15 (by decide) q16 q17 q18 q19 q20 q21 q22 q23 q24 (by decide) q25 q26 q27 q28 q29 q30 cF N0 d1 d2 d3 d4 d5 d6 d7 ?_)))
    intro m1 h1 t1 tz1 F1 N1 hle
    exact tail m1 h1 t1 _ tz1 rfl F1 N1 hle
  · refine wpC_execsCons (wpC.of (wpAny_toks (s9_3 cB cX cT hE hns1 q0 q1 q2 q3 q4 q5 q6 (by decide) q7 q8 q9 q10 q11 q12 q13 q14 q15 (by decide) q16 q17 q18 q19 q20 q21 q22 q23 q24 (by decide) q25 q26 q27 q28 q29 q30 cF N0 d1 d2 d3 d4 d5 d6 d7 ?_)))
    intro m1 h1 t1 tz1 F1 N1 hle
    exact tail m1 h1 t1 _ tz1 rfl F1 N1 hle
end Mine
end
section
open _root_.PySem _root_.PySem.W _root_.PySem.W.X _root_.PyProof.Rows
set_option Elab.async false
set_option maxRecDepth 100000
set_option maxHeartbeats 0
namespace Mine
local macro_rules | `(tactic| walk_at "none") => `(tactic| skip)
theorem rs97 : True := by w_top off; trivial
local macro_rules | `(tactic| k_updF) => `(tactic| first | (refine' UpdF.head ?a; (case a => (repeat (refine all_cons (by first | k_ne | omega) ?_)); first | exact all_off1 (by assumption) | exact all_off2 (by assumption) | exact all_off3 (by assumption) | exact all_off4 (by assumption) | exact all_off5 (by assumption) | exact all_off6 (by assumption) | exact all_off7 (by assumption) | (intro p hp; cases hp))) | (refine' UpdF.tail ?a ?b; (case a => first | k_ne | omega); (case b => k_updF)))
theorem fclose0 {base h : Heap} {L D Ds : Addr} {oS : Obj}  {z1 z2 z3 z4 z5 z6 z7 z8 : Addr × Obj} {ns : List (Addr × Obj)} (N : News base L h ((D, LCg.lst []) :: (Ds, oS) :: z1 :: z2 :: z3 :: z4 :: z5 :: z6 :: z7 :: z8 :: ns)) (hns : ∀ p ∈ ns, (Off7 L p.1)) (hD : (Off7 L D)) (hDs : (Off7 L Ds)) :
    ∃ (fs : List Form) (ns' : List (Addr × Obj)), (∀ p ∈ ns', (Off7 L p.1)) ∧ (D, ({ cls := .type "list", data := .seq (fs.map fun x => Value.ref x.p).toArray 0 } : Obj)) ∈ ns' ∧ (∀ x ∈ fs, x.In ns') ∧ fs.map (fun x => (x.b, x.e, x.f)) = [] ∧ (∀ p ∈ ns, p ∈ ns') ∧ News base L h (z1 :: z2 :: z3 :: z4 :: z5 :: z6 :: z7 :: z8 :: ns') := by
  refine ⟨[], (D, LCg.lst []) :: (Ds, oS) :: ns, ?_, .head _, ?_, rfl, fun p hp => .tail _ (.tail _ (hp)), ?_⟩
  · (repeat (refine fa_cons (by assumption) ?_)); exact hns
  · intro x hx
    cases hx
  · exact news_drop N (by (repeat (refine fa_cons (by repeat (first | exact List.Mem.head _ | refine List.Mem.tail _ ?_)) ?_)); exact fun p hp => by repeat (first | exact hp | refine List.Mem.tail _ ?_))
theorem s7_0 {w : World} {loose : List Str} {mean : ExcName → Option Value} {mg mb : Str → Option Value} {base : Heap} {L fa : Addr} {cd : Value} {m : Str → Option Value} {s : Shared} {Q : Flow → Shared → Prop} {E : Value → Shared → Prop}
   (cB : Below callerA base [] base) (cX : (Mine.hd.heap_39 w.params).In base) (cT : Top Mine.hd.view_39 loose mean mg mb base) (hE : PassesOwn (model PP w) (lawA L fa cd) (lawEnv L fa cd) E)
   {o1 o2 o3 o4 o5 o6 o7 : Obj} {ns : List (Addr × Obj)} (hns : ∀ p ∈ ns, (Off7 L p.1))
   {l : Addr} {n : Nat} {c0 c1 c2 c3 c4 c5 : Int} {t0 t1 t2 t3 t4 t5 : Tok} (hl : (Off7 L l)) {lb lo : Addr} {fr gr : Int} {tf tg tc : Tok} (g2 : 0 ≤ c2) (g3 : 0 ≤ c3) (g4 : 0 ≤ c4)
   (cF : Fr base L s.heap (fun y => if y = Str.ofString "count" then some (.int 0 tc) else if y = Str.ofString "own" then some (.ref lo) else m y)) (cN : News base L s.heap ((l, listOf #[.int c0 t0, .int c1 t1, .int c2 t2, .int c3 t3, .int c4 t4, .int c5 t5] n) :: (L + 1 + 1 + 1 + 1 + 1 + 1 + 1, o7) :: (L + 1 + 1 + 1 + 1 + 1 + 1, o6) :: (L + 1 + 1 + 1 + 1 + 1, o5) :: (L + 1 + 1 + 1 + 1, o4) :: (L + 1 + 1 + 1, o3) :: (L + 1 + 1, o2) :: (L + 1, o1) :: ns))
   (d1 : o1.data = .cell (some (.ref l))) (d2 : o2.data = .cell (some (.ref lb))) (d3 : o3.data = .cell (some (.int fr tf))) (d4 : o4.data = .cell (some (.int gr tg))) (d5 : o5.data = .cell (none)) (d6 : o6.data = .cell (none)) (d7 : o7.data = .cell (none))
   (hret : ∀ (m' : Str → Option Value) (h' : Heap) (tk' : Nat) (lf : Addr) (fs : List Form) (ns' : List (Addr × Obj)), (∀ p ∈ ns', (Off7 L p.1)) → (lf, ({ cls := .type "list", data := .seq (fs.map fun x => Value.ref x.p).toArray 0 } : Obj)) ∈ ns' → (∀ x ∈ fs, x.In ns') → fs.map (fun x => (x.b, x.e, x.f)) = [] → (∀ p ∈ ns, p ∈ ns') → Fr base L h' (fun y => if y = Str.ofString "forms" then some (.ref lf) else if y = Str.ofString "count" then some (.int 0 tc) else if y = Str.ofString "own" then some (.ref lo) else m' y) → News base L h' ((l, listOf #[.int c0 t0, .int c1 t1, .int c2 t2, .int c3 t3, .int c4 t4, .int c5 t5] n) :: (L + 1 + 1 + 1 + 1 + 1 + 1 + 1, o7) :: (L + 1 + 1 + 1 + 1 + 1 + 1, o6) :: (L + 1 + 1 + 1 + 1 + 1, o5) :: (L + 1 + 1 + 1 + 1, o4) :: (L + 1 + 1 + 1, o3) :: (L + 1 + 1, o2) :: (L + 1, o1) :: ns') → Q .next { s with heap := h', toks := tk' }) :
   wpAny (model PP w) (lawA L fa cd) (exec (st 7) (lawEnv L fa cd)) Q E s := by
  conv in (st 7) => whnf
  unfold lawA lawEnv
  conv in (occs := *) lawScope => all_goals whnf
  with_reducible refine wp_gen fun tk0 => ?_
  with_reducible refine letF cF ?_
  intro mz0 cF0
  clear cF
  with_reducible refine letA ?_
  intro A0
  (repeat' (first | (k_unfold; (try dsimp only)) | (k_end; wrow_close) | (k_end; first | ((k_dflt (first | (refine compEnd_tup (by k_asm) (by k_asm) (by assumption) (by assumption) (Or.inr ⟨_, by walk_at "mem", rfl, _, rfl⟩) ?_) | refine LCg.CompEnd.intro (by assumption) (by k_asm) _ (fun p hp => hp) (by assumption) True.intro ?_ | refine LCg.CompEnd.intro (by assumption) (by k_asm) _ (fun p hp => hp) (by assumption) (Or.inr ⟨_, by assumption, rfl, _, rfl⟩) ?_)))) | walk1 | (dsimp only; walk1) | (leave1; try dsimp only) | fail "no step"))
  obtain ⟨fs, ns', q1, q2, q3, q4, q5, q6⟩ := fclose0 (by assumption) hns (by first | exact lt7 (by assumption) | exact ne7 (by assumption) | exact lt7 (And.right (by assumption)) | exact ne7 (And.right (by assumption)) | exact lt7 (And.right (And.right (by assumption))) | exact ne7 (And.right (And.right (by assumption))) | exact lt7 (And.right (And.right (And.right (by assumption)))) | exact ne7 (And.right (And.right (And.right (by assumption)))) | exact lt7 (And.right (And.right (And.right (And.right (by assumption))))) | exact ne7 (And.right (And.right (And.right (And.right (by assumption))))) | exact lt7 (And.right (And.right (And.right (And.right (And.right (by assumption)))))) | exact ne7 (And.right (And.right (And.right (And.right (And.right (by assumption)))))) | exact lt7 (And.right (And.right (And.right (And.right (And.right (And.right (by assumption))))))) | exact ne7 (And.right (And.right (And.right (And.right (And.right (And.right (by assumption))))))) | exact lt7 (And.right (And.right (And.right (And.right (And.right (And.right (And.right (by assumption)))))))) | exact ne7 (And.right (And.right (And.right (And.right (And.right (And.right (And.right (by assumption)))))))) | exact lt7 (And.right (And.right (And.right (And.right (And.right (And.right (And.right (And.right (by assumption))))))))) | exact ne7 (And.right (And.right (And.right (And.right (And.right (And.right (And.right (And.right (by assumption)))))))))) (by first | exact lt7 (by assumption) | exact ne7 (by assumption) | exact lt7 (And.right (by assumption)) | exact ne7 (And.right (by assumption)) | exact lt7 (And.right (And.right (by assumption))) | exact ne7 (And.right (And.right (by assumption))) | exact lt7 (And.right (And.right (And.right (by assumption)))) | exact ne7 (And.right (And.right (And.right (by assumption)))) | exact lt7 (And.right (And.right (And.right (And.right (by assumption))))) | exact ne7 (And.right (And.right (And.right (And.right (by assumption))))) | exact lt7 (And.right (And.right (And.right (And.right (And.right (by assumption)))))) | exact ne7 (And.right (And.right (And.right (And.right (And.right (by assumption)))))) | exact lt7 (And.right (And.right (And.right (And.right (And.right (And.right (by assumption))))))) | exact ne7 (And.right (And.right (And.right (And.right (And.right (And.right (by assumption))))))) | exact lt7 (And.right (And.right (And.right (And.right (And.right (And.right (And.right (by assumption)))))))) | exact ne7 (And.right (And.right (And.right (And.right (And.right (And.right (And.right (by assumption)))))))) | exact lt7 (And.right (And.right (And.right (And.right (And.right (And.right (And.right (And.right (by assumption))))))))) | exact ne7 (And.right (And.right (And.right (And.right (And.right (And.right (And.right (And.right (by assumption)))))))))) 
  exact hret _ _ _ _ fs ns' q1 q2 q3 q4 q5 (Fr.put (Str.ofString "forms") (Fr.put (Str.ofString "count") (Fr.put (Str.ofString "own") ((by assumption)) rfl) rfl) rfl) q6
end Mine
end
section
open _root_.PySem _root_.PySem.W _root_.PySem.W.X _root_.PyProof.Rows
set_option Elab.async false
set_option maxRecDepth 100000
set_option maxHeartbeats 0
namespace Mine
theorem rs98 : True := by w_top off; trivial
local macro_rules | `(tactic| k_updF) => `(tactic| first | (refine' UpdF.head ?a; (case a => (repeat (refine all_cons (by first | k_ne | omega) ?_)); first | exact all_off1 (by assumption) | exact all_off2 (by assumption) | exact all_off3 (by assumption) | exact all_off4 (by assumption) | exact all_off5 (by assumption) | exact all_off6 (by assumption) | exact all_off7 (by assumption) | (intro p hp; cases hp))) | (refine' UpdF.tail ?a ?b; (case a => first | k_ne | omega); (case b => k_updF)))
theorem fclose1 {base h : Heap} {L D Ds : Addr} {oS : Obj} {T0 : Addr} {b0 f0 : Int} {e0 : Bool} {x0 y0 : Tok} {z1 z2 z3 z4 z5 z6 z7 z8 : Addr × Obj} {ns : List (Addr × Obj)} (N : News base L h ((D, LCg.lst [.ref T0]) :: (T0, { cls := .type "tuple", data := .seq #[.int b0 x0, .bool e0, .int f0 y0] }) :: (Ds, oS) :: z1 :: z2 :: z3 :: z4 :: z5 :: z6 :: z7 :: z8 :: ns)) (hns : ∀ p ∈ ns, (Off7 L p.1)) (hD : (Off7 L D)) (hDs : (Off7 L Ds)) (hT0 : (Off7 L T0)) :
    ∃ (fs : List Form) (ns' : List (Addr × Obj)), (∀ p ∈ ns', (Off7 L p.1)) ∧ (D, ({ cls := .type "list", data := .seq (fs.map fun x => Value.ref x.p).toArray 1 } : Obj)) ∈ ns' ∧ (∀ x ∈ fs, x.In ns') ∧ fs.map (fun x => (x.b, x.e, x.f)) = [(b0, e0, f0)] ∧ (∀ p ∈ ns, p ∈ ns') ∧ News base L h (z1 :: z2 :: z3 :: z4 :: z5 :: z6 :: z7 :: z8 :: ns') := by
  refine ⟨[⟨T0, b0, e0, f0⟩], (D, LCg.lst [.ref T0]) :: (T0, { cls := .type "tuple", data := .seq #[.int b0 x0, .bool e0, .int f0 y0] }) :: (Ds, oS) :: ns, ?_, .head _, ?_, rfl, fun p hp => .tail _ (.tail _ (.tail _ (hp))), ?_⟩
  · (repeat (refine fa_cons (by assumption) ?_)); exact hns
  · intro x hx
    rcases List.mem_cons.mp hx with rfl | hx
    · exact ⟨x0, y0, .tail _ (.head _)⟩
    cases hx
  · exact news_drop N (by (repeat (refine fa_cons (by repeat (first | exact List.Mem.head _ | refine List.Mem.tail _ ?_)) ?_)); exact fun p hp => by repeat (first | exact hp | refine List.Mem.tail _ ?_))
theorem s7_1 {w : World} {loose : List Str} {mean : ExcName → Option Value} {mg mb : Str → Option Value} {base : Heap} {L fa : Addr} {cd : Value} {m : Str → Option Value} {s : Shared} {Q : Flow → Shared → Prop} {E : Value → Shared → Prop}
   (cB : Below callerA base [] base) (cX : (Mine.hd.heap_39 w.params).In base) (cT : Top Mine.hd.view_39 loose mean mg mb base) (hE : PassesOwn (model PP w) (lawA L fa cd) (lawEnv L fa cd) E)
   {o1 o2 o3 o4 o5 o6 o7 : Obj} {ns : List (Addr × Obj)} (hns : ∀ p ∈ ns, (Off7 L p.1))
   {l : Addr} {n : Nat} {c0 c1 c2 c3 c4 c5 : Int} {t0 t1 t2 t3 t4 t5 : Tok} (hl : (Off7 L l)) {lb lo : Addr} {fr gr : Int} {tf tg tc : Tok} (g2 : 0 ≤ c2) (g3 : 0 ≤ c3) (g4 : 0 ≤ c4)
   (cF : Fr base L s.heap (fun y => if y = Str.ofString "count" then some (.int 1 tc) else if y = Str.ofString "own" then some (.ref lo) else m y)) (cN : News base L s.heap ((l, listOf #[.int c0 t0, .int c1 t1, .int c2 t2, .int c3 t3, .int c4 t4, .int c5 t5] n) :: (L + 1 + 1 + 1 + 1 + 1 + 1 + 1, o7) :: (L + 1 + 1 + 1 + 1 + 1 + 1, o6) :: (L + 1 + 1 + 1 + 1 + 1, o5) :: (L + 1 + 1 + 1 + 1, o4) :: (L + 1 + 1 + 1, o3) :: (L + 1 + 1, o2) :: (L + 1, o1) :: ns))
   (d1 : o1.data = .cell (some (.ref l))) (d2 : o2.data = .cell (some (.ref lb))) (d3 : o3.data = .cell (some (.int fr tf))) (d4 : o4.data = .cell (some (.int gr tg))) (d5 : o5.data = .cell (none)) (d6 : o6.data = .cell (none)) (d7 : o7.data = .cell (none))
   (hret : ∀ (m' : Str → Option Value) (h' : Heap) (tk' : Nat) (lf : Addr) (fs : List Form) (ns' : List (Addr × Obj)), (∀ p ∈ ns', (Off7 L p.1)) → (lf, ({ cls := .type "list", data := .seq (fs.map fun x => Value.ref x.p).toArray 1 } : Obj)) ∈ ns' → (∀ x ∈ fs, x.In ns') → fs.map (fun x => (x.b, x.e, x.f)) = [(c2.fmod 9 - 4, (c2.fdiv 9).fmod 2 == 1, (c2.fdiv 18).fmod 15 - 7)] → (∀ p ∈ ns, p ∈ ns') → Fr base L h' (fun y => if y = Str.ofString "forms" then some (.ref lf) else if y = Str.ofString "count" then some (.int 1 tc) else if y = Str.ofString "own" then some (.ref lo) else m' y) → News base L h' ((l, listOf #[.int c0 t0, .int c1 t1, .int c2 t2, .int c3 t3, .int c4 t4, .int c5 t5] n) :: (L + 1 + 1 + 1 + 1 + 1 + 1 + 1, o7) :: (L + 1 + 1 + 1 + 1 + 1 + 1, o6) :: (L + 1 + 1 + 1 + 1 + 1, o5) :: (L + 1 + 1 + 1 + 1, o4) :: (L + 1 + 1 + 1, o3) :: (L + 1 + 1, o2) :: (L + 1, o1) :: ns') → Q .next { s with heap := h', toks := tk' }) :
   wpAny (model PP w) (lawA L fa cd) (exec (st 7) (lawEnv L fa cd)) Q E s := by
  conv in (st 7) => whnf
  unfold lawA lawEnv
  conv in (occs := *) lawScope => all_goals whnf
  with_reducible refine wp_gen fun tk0 => ?_
  with_reducible refine letF cF ?_
  intro mz0 cF0
  clear cF
  with_reducible refine letA ?_
  intro A0
  (repeat' (first | (k_unfold; (try dsimp only)) | (k_end; wrow_close) | (k_end; first | ((k_dflt (first | (refine compEnd_tup (by k_asm) (by k_asm) (by assumption) (by assumption) (Or.inr ⟨_, by walk_at "mem", rfl, _, rfl⟩) ?_) | refine LCg.CompEnd.intro (by assumption) (by k_asm) _ (fun p hp => hp) (by assumption) True.intro ?_ | refine LCg.CompEnd.intro (by assumption) (by k_asm) _ (fun p hp => hp) (by assumption) (Or.inr ⟨_, by assumption, rfl, _, rfl⟩) ?_)))) | walk1 | (dsimp only; walk1) | (leave1; try dsimp only) | fail "no step"))
  obtain ⟨fs, ns', q1, q2, q3, q4, q5, q6⟩ := fclose1 (by assumption) hns (by first | exact lt7 (by assumption) | exact ne7 (by assumption) | exact lt7 (And.right (by assumption)) | exact ne7 (And.right (by assumption)) | exact lt7 (And.right (And.right (by assumption))) | exact ne7 (And.right (And.right (by assumption))) | exact lt7 (And.right (And.right (And.right (by assumption)))) | exact ne7 (And.right (And.right (And.right (by assumption)))) | exact lt7 (And.right (And.right (And.right (And.right (by assumption))))) | exact ne7 (And.right (And.right (And.right (And.right (by assumption))))) | exact lt7 (And.right (And.right (And.right (And.right (And.right (by assumption)))))) | exact ne7 (And.right (And.right (And.right (And.right (And.right (by assumption)))))) | exact lt7 (And.right (And.right (And.right (And.right (And.right (And.right (by assumption))))))) | exact ne7 (And.right (And.right (And.right (And.right (And.right (And.right (by assumption))))))) | exact lt7 (And.right (And.right (And.right (And.right (And.right (And.right (And.right (by assumption)))))))) | exact ne7 (And.right (And.right (And.right (And.right (And.right (And.right (And.right (by assumption)))))))) | exact lt7 (And.right (And.right (And.right (And.right (And.right (And.right (And.right (And.right (by assumption))))))))) | exact ne7 (And.right (And.right (And.right (And.right (And.right (And.right (And.right (And.right (by assumption)))))))))) (by first | exact lt7 (by assumption) | exact ne7 (by assumption) | exact lt7 (And.right (by assumption)) | exact ne7 (And.right (by assumption)) | exact lt7 (And.right (And.right (by assumption))) | exact ne7 (And.right (And.right (by assumption))) | exact lt7 (And.right (And.right (And.right (by assumption)))) | exact ne7 (And.right (And.right (And.right (by assumption)))) | exact lt7 (And.right (And.right (And.right (And.right (by assumption))))) | exact ne7 (And.right (And.right (And.right (And.right (by assumption))))) | exact lt7 (And.right (And.right (And.right (And.right (And.right (by assumption)))))) | exact ne7 (And.right (And.right (And.right (And.right (And.right (by assumption)))))) | exact lt7 (And.right (And.right (And.right (And.right (And.right (And.right (by assumption))))))) | exact ne7 (And.right (And.right (And.right (And.right (And.right (And.right (by assumption))))))) | exact lt7 (And.right (And.right (And.right (And.right (And.right (And.right (And.right (by assumption)))))))) | exact ne7 (And.right (And.right (And.right (And.right (And.right (And.right (And.right (by assumption)))))))) | exact lt7 (And.right (And.right (And.right (And.right (And.right (And.right (And.right (And.right (by assumption))))))))) | exact ne7 (And.right (And.right (And.right (And.right (And.right (And.right (And.right (And.right (by assumption)))))))))) (by first | exact lt7 (by assumption) | exact ne7 (by assumption) | exact lt7 (And.right (by assumption)) | exact ne7 (And.right (by assumption)) | exact lt7 (And.right (And.right (by assumption))) | exact ne7 (And.right (And.right (by assumption))) | exact lt7 (And.right (And.right (And.right (by assumption)))) | exact ne7 (And.right (And.right (And.right (by assumption)))) | exact lt7 (And.right (And.right (And.right (And.right (by assumption))))) | exact ne7 (And.right (And.right (And.right (And.right (by assumption))))) | exact lt7 (And.right (And.right (And.right (And.right (And.right (by assumption)))))) | exact ne7 (And.right (And.right (And.right (And.right (And.right (by assumption)))))) | exact lt7 (And.right (And.right (And.right (And.right (And.right (And.right (by assumption))))))) | exact ne7 (And.right (And.right (And.right (And.right (And.right (And.right (by assumption))))))) | exact lt7 (And.right (And.right (And.right (And.right (And.right (And.right (And.right (by assumption)))))))) | exact ne7 (And.right (And.right (And.right (And.right (And.right (And.right (And.right (by assumption)))))))) | exact lt7 (And.right (And.right (And.right (And.right (And.right (And.right (And.right (And.right (by assumption))))))))) | exact ne7 (And.right (And.right (And.right (And.right (And.right (And.right (And.right (And.right (by assumption))))))))))
  exact hret _ _ _ _ fs ns' q1 q2 q3 q4 q5 (Fr.put (Str.ofString "forms") (Fr.put (Str.ofString "count") (Fr.put (Str.ofString "own") ((by assumption)) rfl) rfl) rfl) q6
end Mine
end
section
open _root_.PySem _root_.PySem.W _root_.PySem.W.X _root_.PyProof.Rows
set_option Elab.async false
set_option maxRecDepth 100000
set_option maxHeartbeats 0
namespace Mine
local macro_rules | `(tactic| walk_at "none") => `(tactic| skip)
theorem rs99 : True := by w_top off; trivial
local macro_rules | `(tactic| k_updF) => `(tactic| first | (refine' UpdF.head ?a; (case a => (repeat (refine all_cons (by first | k_ne | omega) ?_)); first | exact all_off1 (by assumption) | exact all_off2 (by assumption) | exact all_off3 (by assumption) | exact all_off4 (by assumption) | exact all_off5 (by assumption) | exact all_off6 (by assumption) | exact all_off7 (by assumption) | (intro p hp; cases hp))) | (refine' UpdF.tail ?a ?b; (case a => first | k_ne | omega); (case b => k_updF)))
theorem fclose2 {base h : Heap} {L D Ds : Addr} {oS : Obj} {T0 : Addr} {b0 f0 : Int} {e0 : Bool} {x0 y0 : Tok} {T1 : Addr} {b1 f1 : Int} {e1 : Bool} {x1 y1 : Tok} {z1 z2 z3 z4 z5 z6 z7 z8 : Addr × Obj} {ns : List (Addr × Obj)} (N : News base L h ((D, LCg.lst [.ref T0, .ref T1]) :: (T1, { cls := .type "tuple", data := .seq #[.int b1 x1, .bool e1, .int f1 y1] }) :: (T0, { cls := .type "tuple", data := .seq #[.int b0 x0, .bool e0, .int f0 y0] }) :: (Ds, oS) :: z1 :: z2 :: z3 :: z4 :: z5 :: z6 :: z7 :: z8 :: ns)) (hns : ∀ p ∈ ns, (Off7 L p.1)) (hD : (Off7 L D)) (hDs : (Off7 L Ds)) (hT0 : (Off7 L T0)) (hT1 : (Off7 L T1)) :
    ∃ (fs : List Form) (ns' : List (Addr × Obj)), (∀ p ∈ ns', (Off7 L p.1)) ∧ (D, ({ cls := .type "list", data := .seq (fs.map fun x => Value.ref x.p).toArray 2 } : Obj)) ∈ ns' ∧ (∀ x ∈ fs, x.In ns') ∧ fs.map (fun x => (x.b, x.e, x.f)) = [(b0, e0, f0), (b1, e1, f1)] ∧ (∀ p ∈ ns, p ∈ ns') ∧ News base L h (z1 :: z2 :: z3 :: z4 :: z5 :: z6 :: z7 :: z8 :: ns') := by
  refine ⟨[⟨T0, b0, e0, f0⟩, ⟨T1, b1, e1, f1⟩], (D, LCg.lst [.ref T0, .ref T1]) :: (T1, { cls := .type "tuple", data := .seq #[.int b1 x1, .bool e1, .int f1 y1] }) :: (T0, { cls := .type "tuple", data := .seq #[.int b0 x0, .bool e0, .int f0 y0] }) :: (Ds, oS) :: ns, ?_, .head _, ?_, rfl, fun p hp => .tail _ (.tail _ (.tail _ (.tail _ (hp)))), ?_⟩
  · (repeat (refine fa_cons (by assumption) ?_)); exact hns
  · intro x hx
    rcases List.mem_cons.mp hx with rfl | hx
    · exact ⟨x0, y0, .tail _ (.tail _ (.head _))⟩
    rcases List.mem_cons.mp hx with rfl | hx
    · exact ⟨x1, y1, .tail _ (.head _)⟩
    cases hx
  · exact news_drop N (by (repeat (refine fa_cons (by repeat (first | exact List.Mem.head _ | refine List.Mem.tail _ ?_)) ?_)); exact fun p hp => by repeat (first | exact hp | refine List.Mem.tail _ ?_))
theorem s7_2 {w : World} {loose : List Str} {mean : ExcName → Option Value} {mg mb : Str → Option Value} {base : Heap} {L fa : Addr} {cd : Value} {m : Str → Option Value} {s : Shared} {Q : Flow → Shared → Prop} {E : Value → Shared → Prop}
   (cB : Below callerA base [] base) (cX : (Mine.hd.heap_39 w.params).In base) (cT : Top Mine.hd.view_39 loose mean mg mb base) (hE : PassesOwn (model PP w) (lawA L fa cd) (lawEnv L fa cd) E)
   {o1 o2 o3 o4 o5 o6 o7 : Obj} {ns : List (Addr × Obj)} (hns : ∀ p ∈ ns, (Off7 L p.1))
   {l : Addr} {n : Nat} {c0 c1 c2 c3 c4 c5 : Int} {t0 t1 t2 t3 t4 t5 : Tok} (hl : (Off7 L l)) {lb lo : Addr} {fr gr : Int} {tf tg tc : Tok} (g2 : 0 ≤ c2) (g3 : 0 ≤ c3) (g4 : 0 ≤ c4)
   (cF : Fr base L s.heap (fun y => if y = Str.ofString "count" then some (.int 2 tc) else if y = Str.ofString "own" then some (.ref lo) else m y)) (cN : News base L s.heap ((l, listOf #[.int c0 t0, .int c1 t1, .int c2 t2, .int c3 t3, .int c4 t4, .int c5 t5] n) :: (L + 1 + 1 + 1 + 1 + 1 + 1 + 1, o7) :: (L + 1 + 1 + 1 + 1 + 1 + 1, o6) :: (L + 1 + 1 + 1 + 1 + 1, o5) :: (L + 1 + 1 + 1 + 1, o4) :: (L + 1 + 1 + 1, o3) :: (L + 1 + 1, o2) :: (L + 1, o1) :: ns))
   (d1 : o1.data = .cell (some (.ref l))) (d2 : o2.data = .cell (some (.ref lb))) (d3 : o3.data = .cell (some (.int fr tf))) (d4 : o4.data = .cell (some (.int gr tg))) (d5 : o5.data = .cell (none)) (d6 : o6.data = .cell (none)) (d7 : o7.data = .cell (none))
   (hret : ∀ (m' : Str → Option Value) (h' : Heap) (tk' : Nat) (lf : Addr) (fs : List Form) (ns' : List (Addr × Obj)), (∀ p ∈ ns', (Off7 L p.1)) → (lf, ({ cls := .type "list", data := .seq (fs.map fun x => Value.ref x.p).toArray 2 } : Obj)) ∈ ns' → (∀ x ∈ fs, x.In ns') → fs.map (fun x => (x.b, x.e, x.f)) = [(c2.fmod 9 - 4, (c2.fdiv 9).fmod 2 == 1, (c2.fdiv 18).fmod 15 - 7), (c3.fmod 9 - 4, (c3.fdiv 9).fmod 2 == 1, (c3.fdiv 18).fmod 15 - 7)] → (∀ p ∈ ns, p ∈ ns') → Fr base L h' (fun y => if y = Str.ofString "forms" then some (.ref lf) else if y = Str.ofString "count" then some (.int 2 tc) else if y = Str.ofString "own" then some (.ref lo) else m' y) → News base L h' ((l, listOf #[.int c0 t0, .int c1 t1, .int c2 t2, .int c3 t3, .int c4 t4, .int c5 t5] n) :: (L + 1 + 1 + 1 + 1 + 1 + 1 + 1, o7) :: (L + 1 + 1 + 1 + 1 + 1 + 1, o6) :: (L + 1 + 1 + 1 + 1 + 1, o5) :: (L + 1 + 1 + 1 + 1, o4) :: (L + 1 + 1 + 1, o3) :: (L + 1 + 1, o2) :: (L + 1, o1) :: ns') → Q .next { s with heap := h', toks := tk' }) :
   wpAny (model PP w) (lawA L fa cd) (exec (st 7) (lawEnv L fa cd)) Q E s := by
  conv in (st 7) => whnf
  unfold lawA lawEnv
  conv in (occs := *) lawScope => all_goals whnf
  with_reducible refine wp_gen fun tk0 => ?_
  with_reducible refine letF cF ?_
  intro mz0 cF0
  clear cF
  with_reducible refine letA ?_
  intro A0
  (repeat' (first | (k_unfold; (try dsimp only)) | (k_end; wrow_close) | (k_end; first | ((k_dflt (first | (refine compEnd_tup (by k_asm) (by k_asm) (by assumption) (by assumption) (Or.inr ⟨_, by walk_at "mem", rfl, _, rfl⟩) ?_) | refine LCg.CompEnd.intro (by assumption) (by k_asm) _ (fun p hp => hp) (by assumption) True.intro ?_ | refine LCg.CompEnd.intro (by assumption) (by k_asm) _ (fun p hp => hp) (by assumption) (Or.inr ⟨_, by assumption, rfl, _, rfl⟩) ?_)))) | walk1 | (dsimp only; walk1) | (leave1; try dsimp only) | fail "no step"))
  obtain ⟨fs, ns', q1, q2, q3, q4, q5, q6⟩ := fclose2 (by assumption) hns (by first | exact lt7 (by assumption) | exact ne7 (by assumption) | exact lt7 (And.right (by assumption)) | exact ne7 (And.right (by assumption)) | exact lt7 (And.right (And.right (by assumption))) | exact ne7 (And.right (And.right (by assumption))) | exact lt7 (And.right (And.right (And.right (by assumption)))) | exact ne7 (And.right (And.right (And.right (by assumption)))) | exact lt7 (And.right (And.right (And.right (And.right (by assumption))))) | exact ne7 (And.right (And.right (And.right (And.right (by assumption))))) | exact lt7 (And.right (And.right (And.right (And.right (And.right (by assumption)))))) | exact ne7 (And.right (And.right (And.right (And.right (And.right (by assumption)))))) | exact lt7 (And.right (And.right (And.right (And.right (And.right (And.right (by assumption))))))) | exact ne7 (And.right (And.right (And.right (And.right (And.right (And.right (by assumption))))))) | exact lt7 (And.right (And.right (And.right (And.right (And.right (And.right (And.right (by assumption)))))))) | exact ne7 (And.right (And.right (And.right (And.right (And.right (And.right (And.right (by assumption)))))))) | exact lt7 (And.right (And.right (And.right (And.right (And.right (And.right (And.right (And.right (by assumption))))))))) | exact ne7 (And.right (And.right (And.right (And.right (And.right (And.right (And.right (And.right (by assumption)))))))))) (by first | exact lt7 (by assumption) | exact ne7 (by assumption) | exact lt7 (And.right (by assumption)) | exact ne7 (And.right (by assumption)) | exact lt7 (And.right (And.right (by assumption))) | exact ne7 (And.right (And.right (by assumption))) | exact lt7 (And.right (And.right (And.right (by assumption)))) | exact ne7 (And.right (And.right (And.right (by assumption)))) | exact lt7 (And.right (And.right (And.right (And.right (by assumption))))) | exact ne7 (And.right (And.right (And.right (And.right (by assumption))))) | exact lt7 (And.right (And.right (And.right (And.right (And.right (by assumption)))))) | exact ne7 (And.right (And.right (And.right (And.right (And.right (by assumption)))))) | exact lt7 (And.right (And.right (And.right (And.right (And.right (And.right (by assumption))))))) | exact ne7 (And.right (And.right (And.right (And.right (And.right (And.right (by assumption))))))) | exact lt7 (And.right (And.right (And.right (And.right (And.right (And.right (And.right (by assumption)))))))) | exact ne7 (And.right (And.right (And.right (And.right (And.right (And.right (And.right (by assumption)))))))) | exact lt7 (And.right (And.right (And.right (And.right (And.right (And.right (And.right (And.right (by assumption))))))))) | exact ne7 (And.right (And.right (And.right (And.right (And.right (And.right (And.right (And.right (by assumption)))))))))) (by first | exact lt7 (by assumption) | exact ne7 (by assumption) | exact lt7 (And.right (by assumption)) | exact ne7 (And.right (by assumption)) | exact lt7 (And.right (And.right (by assumption))) | exact ne7 (And.right (And.right (by assumption))) | exact lt7 (And.right (And.right (And.right (by assumption)))) | exact ne7 (And.right (And.right (And.right (by assumption)))) | exact lt7 (And.right (And.right (And.right (And.right (by assumption))))) | exact ne7 (And.right (And.right (And.right (And.right (by assumption))))) | exact lt7 (And.right (And.right (And.right (And.right (And.right (by assumption)))))) | exact ne7 (And.right (And.right (And.right (And.right (And.right (by assumption)))))) | exact lt7 (And.right (And.right (And.right (And.right (And.right (And.right (by assumption))))))) | exact ne7 (And.right (And.right (And.right (And.right (And.right (And.right (by assumption))))))) | exact lt7 (And.right (And.right (And.right (And.right (And.right (And.right (And.right (by assumption)))))))) | exact ne7 (And.right (And.right (And.right (And.right (And.right (And.right (And.right (by assumption)))))))) | exact lt7 (And.right (And.right (And.right (And.right (And.right (And.right (And.right (And.right (by assumption))))))))) | exact ne7 (And.right (And.right (And.right (And.right (And.right (And.right (And.right (And.right (by assumption)))))))))) (by first | exact lt7 (by assumption) | exact ne7 (by assumption) | exact lt7 (And.right (by assumption)) | exact ne7 (And.right (by assumption)) | exact lt7 (And.right (And.right (by assumption))) | exact ne7 (And.right (And.right (by assumption))) | exact lt7 (And.right (And.right (And.right (by assumption)))) | exact ne7 (And.right (And.right (And.right (by assumption)))) | exact lt7 (And.right (And.right (And.right (And.right (by assumption))))) | exact ne7 (And.right (And.right (And.right (And.right (by assumption))))) | exact lt7 (And.right (And.right (And.right (And.right (And.right (by assumption)))))) | exact ne7 (And.right (And.right (And.right (And.right (And.right (by assumption)))))) | exact lt7 (And.right (And.right (And.right (And.right (And.right (And.right (by assumption))))))) | exact ne7 (And.right (And.right (And.right (And.right (And.right (And.right (by assumption))))))) | exact lt7 (And.right (And.right (And.right (And.right (And.right (And.right (And.right (by assumption)))))))) | exact ne7 (And.right (And.right (And.right (And.right (And.right (And.right (And.right (by assumption)))))))) | exact lt7 (And.right (And.right (And.right (And.right (And.right (And.right (And.right (And.right (by assumption))))))))) | exact ne7 (And.right (And.right (And.right (And.right (And.right (And.right (And.right (And.right (by assumption))))))))))
  exact hret _ _ _ _ fs ns' q1 q2 q3 q4 q5 (Fr.put (Str.ofString "forms") (Fr.put (Str.ofString "count") (Fr.put (Str.ofString "own") ((by assumption)) rfl) rfl) rfl) q6
end Mine
end
section
open _root_.PySem _root_.PySem.W _root_.PySem.W.X _root_.PyProof.Rows
set_option Elab.async false
set_option maxRecDepth 100000
set_option maxHeartbeats 0
namespace Mine
theorem rs100 : True := by w_top off; trivial
local macro_rules | `(tactic| k_updF) => `(tactic| first | (refine' UpdF.head ?a; (case a => (repeat (refine all_cons (by first | k_ne | omega) ?_)); first | exact all_off1 (by assumption) | exact all_off2 (by assumption) | exact all_off3 (by assumption) | exact all_off4 (by assumption) | exact all_off5 (by assumption) | exact all_off6 (by assumption) | exact all_off7 (by assumption) | (intro p hp; cases hp))) | (refine' UpdF.tail ?a ?b; (case a => first | k_ne | omega); (case b => k_updF)))
theorem fclose3 {base h : Heap} {L D Ds : Addr} {oS : Obj} {T0 : Addr} {b0 f0 : Int} {e0 : Bool} {x0 y0 : Tok} {T1 : Addr} {b1 f1 : Int} {e1 : Bool} {x1 y1 : Tok} {T2 : Addr} {b2 f2 : Int} {e2 : Bool} {x2 y2 : Tok} {z1 z2 z3 z4 z5 z6 z7 z8 : Addr × Obj} {ns : List (Addr × Obj)} (N : News base L h ((D, LCg.lst [.ref T0, .ref T1, .ref T2]) :: (T2, { cls := .type "tuple", data := .seq #[.int b2 x2, .bool e2, .int f2 y2] }) :: (T1, { cls := .type "tuple", data := .seq #[.int b1 x1, .bool e1, .int f1 y1] }) :: (T0, { cls := .type "tuple", data := .seq #[.int b0 x0, .bool e0, .int f0 y0] }) :: (Ds, oS) :: z1 :: z2 :: z3 :: z4 :: z5 :: z6 :: z7 :: z8 :: ns)) (hns : ∀ p ∈ ns, (Off7 L p.1)) (hD : (Off7 L D)) (hDs : (Off7 L Ds)) (hT0 : (Off7 L T0)) (hT1 : (Off7 L T1)) (hT2 : (Off7 L T2)) :
    ∃ (fs : List Form) (ns' : List (Addr × Obj)), (∀ p ∈ ns', (Off7 L p.1)) ∧ (D, ({ cls := .type "list", data := .seq (fs.map fun x => Value.ref x.p).toArray 3 } : Obj)) ∈ ns' ∧ (∀ x ∈ fs, x.In ns') ∧ fs.map (fun x => (x.b, x.e, x.f)) = [(b0, e0, f0), (b1, e1, f1), (b2, e2, f2)] ∧ (∀ p ∈ ns, p ∈ ns') ∧ News base L h (z1 :: z2 :: z3 :: z4 :: z5 :: z6 :: z7 :: z8 :: ns') := by
  refine ⟨[⟨T0, b0, e0, f0⟩, ⟨T1, b1, e1, f1⟩, ⟨T2, b2, e2, f2⟩], (D, LCg.lst [.ref T0, .ref T1, .ref T2]) :: (T2, { cls := .type "tuple", data := .seq #[.int b2 x2, .bool e2, .int f2 y2] }) :: (T1, { cls := .type "tuple", data := .seq #[.int b1 x1, .bool e1, .int f1 y1] }) :: (T0, { cls := .type "tuple", data := .seq #[.int b0 x0, .bool e0, .int f0 y0] }) :: (Ds, oS) :: ns, ?_, .head _, ?_, rfl, fun p hp => .tail _ (.tail _ (.tail _ (.tail _ (.tail _ (hp))))), ?_⟩
  · (repeat (refine fa_cons (by assumption) ?_)); exact hns
  · intro x hx
    rcases List.mem_cons.mp hx with rfl | hx
    · exact ⟨x0, y0, .tail _ (.tail _ (.tail _ (.head _)))⟩
    rcases List.mem_cons.mp hx with rfl | hx
    · exact ⟨x1, y1, .tail _ (.tail _ (.head _))⟩
    rcases List.mem_cons.mp hx with rfl | hx
    · exact ⟨x2, y2, .tail _ (.head _)⟩
    cases hx
  · exact news_drop N (by (repeat (refine fa_cons (by repeat (first | exact List.Mem.head _ | refine List.Mem.tail _ ?_)) ?_)); exact fun p hp => by repeat (first | exact hp | refine List.Mem.tail _ ?_))
theorem s7_3 {w : World} {loose : List Str} {mean : ExcName → Option Value} {mg mb : Str → Option Value} {base : Heap} {L fa : Addr} {cd : Value} {m : Str → Option Value} {s : Shared} {Q : Flow → Shared → Prop} {E : Value → Shared → Prop}
   (cB : Below callerA base [] base) (cX : (Mine.hd.heap_39 w.params).In base) (cT : Top Mine.hd.view_39 loose mean mg mb base) (hE : PassesOwn (model PP w) (lawA L fa cd) (lawEnv L fa cd) E)
   {o1 o2 o3 o4 o5 o6 o7 : Obj} {ns : List (Addr × Obj)} (hns : ∀ p ∈ ns, (Off7 L p.1))
   {l : Addr} {n : Nat} {c0 c1 c2 c3 c4 c5 : Int} {t0 t1 t2 t3 t4 t5 : Tok} (hl : (Off7 L l)) {lb lo : Addr} {fr gr : Int} {tf tg tc : Tok} (g2 : 0 ≤ c2) (g3 : 0 ≤ c3) (g4 : 0 ≤ c4)
   (cF : Fr base L s.heap (fun y => if y = Str.ofString "count" then some (.int 3 tc) else if y = Str.ofString "own" then some (.ref lo) else m y)) (cN : News base L s.heap ((l, listOf #[.int c0 t0, .int c1 t1, .int c2 t2, .int c3 t3, .int c4 t4, .int c5 t5] n) :: (L + 1 + 1 + 1 + 1 + 1 + 1 + 1, o7) :: (L + 1 + 1 + 1 + 1 + 1 + 1, o6) :: (L + 1 + 1 + 1 + 1 + 1, o5) :: (L + 1 + 1 + 1 + 1, o4) :: (L + 1 + 1 + 1, o3) :: (L + 1 + 1, o2) :: (L + 1, o1) :: ns))
   (d1 : o1.data = .cell (some (.ref l))) (d2 : o2.data = .cell (some (.ref lb))) (d3 : o3.data = .cell (some (.int fr tf))) (d4 : o4.data = .cell (some (.int gr tg))) (d5 : o5.data = .cell (none)) (d6 : o6.data = .cell (none)) (d7 : o7.data = .cell (none))
   (hret : ∀ (m' : Str → Option Value) (h' : Heap) (tk' : Nat) (lf : Addr) (fs : List Form) (ns' : List (Addr × Obj)), (∀ p ∈ ns', (Off7 L p.1)) → (lf, ({ cls := .type "list", data := .seq (fs.map fun x => Value.ref x.p).toArray 3 } : Obj)) ∈ ns' → (∀ x ∈ fs, x.In ns') → fs.map (fun x => (x.b, x.e, x.f)) = [(c2.fmod 9 - 4, (c2.fdiv 9).fmod 2 == 1, (c2.fdiv 18).fmod 15 - 7), (c3.fmod 9 - 4, (c3.fdiv 9).fmod 2 == 1, (c3.fdiv 18).fmod 15 - 7), (c4.fmod 9 - 4, (c4.fdiv 9).fmod 2 == 1, (c4.fdiv 18).fmod 15 - 7)] → (∀ p ∈ ns, p ∈ ns') → Fr base L h' (fun y => if y = Str.ofString "forms" then some (.ref lf) else if y = Str.ofString "count" then some (.int 3 tc) else if y = Str.ofString "own" then some (.ref lo) else m' y) → News base L h' ((l, listOf #[.int c0 t0, .int c1 t1, .int c2 t2, .int c3 t3, .int c4 t4, .int c5 t5] n) :: (L + 1 + 1 + 1 + 1 + 1 + 1 + 1, o7) :: (L + 1 + 1 + 1 + 1 + 1 + 1, o6) :: (L + 1 + 1 + 1 + 1 + 1, o5) :: (L + 1 + 1 + 1 + 1, o4) :: (L + 1 + 1 + 1, o3) :: (L + 1 + 1, o2) :: (L + 1, o1) :: ns') → Q .next { s with heap := h', toks := tk' }) :
   wpAny (model PP w) (lawA L fa cd) (exec (st 7) (lawEnv L fa cd)) Q E s := by
  conv in (st 7) => whnf
  unfold lawA lawEnv
  conv in (occs := *) lawScope => all_goals whnf
  with_reducible refine wp_gen fun tk0 => ?_
  with_reducible refine letF cF ?_
  intro mz0 cF0
  clear cF
  with_reducible refine letA ?_
  intro A0
  (repeat' (first | (k_unfold; (try dsimp only)) | (k_end; wrow_close) | (k_end; first | ((k_dflt (first | (refine compEnd_tup (by k_asm) (by k_asm) (by assumption) (by assumption) (Or.inr ⟨_, by walk_at "mem", rfl, _, rfl⟩) ?_) | refine LCg.CompEnd.intro (by assumption) (by k_asm) _ (fun p hp => hp) (by assumption) True.intro ?_ | refine LCg.CompEnd.intro (by assumption) (by k_asm) _ (fun p hp => hp) (by assumption) (Or.inr ⟨_, by assumption, rfl, _, rfl⟩) ?_)))) | walk1 | (dsimp only; walk1) | (leave1; try dsimp only) | fail "no step"))
  obtain ⟨fs, ns', q1, q2, q3, q4, q5, q6⟩ := fclose3 (by assumption) hns (by first | exact lt7 (by assumption) | exact ne7 (by assumption) | exact lt7 (And.right (by assumption)) | exact ne7 (And.right (by assumption)) | exact lt7 (And.right (And.right (by assumption))) | exact ne7 (And.right (And.right (by assumption))) | exact lt7 (And.right (And.right (And.right (by assumption)))) | exact ne7 (And.right (And.right (And.right (by assumption)))) | exact lt7 (And.right (And.right (And.right (And.right (by assumption))))) | exact ne7 (And.right (And.right (And.right (And.right (by assumption))))) | exact lt7 (And.right (And.right (And.right (And.right (And.right (by assumption)))))) | exact ne7 (And.right (And.right (And.right (And.right (And.right (by assumption)))))) | exact lt7 (And.right (And.right (And.right (And.right (And.right (And.right (by assumption))))))) | exact ne7 (And.right (And.right (And.right (And.right (And.right (And.right (by assumption))))))) | exact lt7 (And.right (And.right (And.right (And.right (And.right (And.right (And.right (by assumption)))))))) | exact ne7 (And.right (And.right (And.right (And.right (And.right (And.right (And.right (by assumption)))))))) | exact lt7 (And.right (And.right (And.right (And.right (And.right (And.right (And.right (And.right (by assumption))))))))) | exact ne7 (And.right (And.right (And.right (And.right (And.right (And.right (And.right (And.right (by assumption)))))))))) (by first | exact lt7 (by assumption) | exact ne7 (by assumption) | exact lt7 (And.right (by assumption)) | exact ne7 (And.right (by assumption)) | exact lt7 (And.right (And.right (by assumption))) | exact ne7 (And.right (And.right (by assumption))) | exact lt7 (And.right (And.right (And.right (by assumption)))) | exact ne7 (And.right (And.right (And.right (by assumption)))) | exact lt7 (And.right (And.right (And.right (And.right (by assumption))))) | exact ne7 (And.right (And.right (And.right (And.right (by assumption))))) | exact lt7 (And.right (And.right (And.right (And.right (And.right (by assumption)))))) | exact ne7 (And.right (And.right (And.right (And.right (And.right (by assumption)))))) | exact lt7 (And.right (And.right (And.right (And.right (And.right (And.right (by assumption))))))) | exact ne7 (And.right (And.right (And.right (And.right (And.right (And.right (by assumption))))))) | exact lt7 (And.right (And.right (And.right (And.right (And.right (And.right (And.right (by assumption)))))))) | exact ne7 (And.right (And.right (And.right (And.right (And.right (And.right (And.right (by assumption)))))))) | exact lt7 (And.right (And.right (And.right (And.right (And.right (And.right (And.right (And.right (by assumption))))))))) | exact ne7 (And.right (And.right (And.right (And.right (And.right (And.right (And.right (And.right (by assumption)))))))))) (by first | exact lt7 (by assumption) | exact ne7 (by assumption) | exact lt7 (And.right (by assumption)) | exact ne7 (And.right (by assumption)) | exact lt7 (And.right (And.right (by assumption))) | exact ne7 (And.right (And.right (by assumption))) | exact lt7 (And.right (And.right (And.right (by assumption)))) | exact ne7 (And.right (And.right (And.right (by assumption)))) | exact lt7 (And.right (And.right (And.right (And.right (by assumption))))) | exact ne7 (And.right (And.right (And.right (And.right (by assumption))))) | exact lt7 (And.right (And.right (And.right (And.right (And.right (by assumption)))))) | exact ne7 (And.right (And.right (And.right (And.right (And.right (by assumption)))))) | exact lt7 (And.right (And.right (And.right (And.right (And.right (And.right (by assumption))))))) | exact ne7 (And.right (And.right (And.right (And.right (And.right (And.right (by assumption))))))) | exact lt7 (And.right (And.right (And.right (And.right (And.right (And.right (And.right (by assumption)))))))) | exact ne7 (And.right (And.right (And.right (And.right (And.right (And.right (And.right (by assumption)))))))) | exact lt7 (And.right (And.right (And.right (And.right (And.right (And.right (And.right (And.right (by assumption))))))))) | exact ne7 (And.right (And.right (And.right (And.right (And.right (And.right (And.right (And.right (by assumption)))))))))) (by first | exact lt7 (by assumption) | exact ne7 (by assumption) | exact lt7 (And.right (by assumption)) | exact ne7 (And.right (by assumption)) | exact lt7 (And.right (And.right (by assumption))) | exact ne7 (And.right (And.right (by assumption))) | exact lt7 (And.right (And.right (And.right (by assumption)))) | exact ne7 (And.right (And.right (And.right (by assumption)))) | exact lt7 (And.right (And.right (And.right (And.right (by assumption))))) | exact ne7 (And.right (And.right (And.right (And.right (by assumption))))) | exact lt7 (And.right (And.right (And.right (And.right (And.right (by assumption)))))) | exact ne7 (And.right (And.right (And.right (And.right (And.right (by assumption)))))) | exact lt7 (And.right (And.right (And.right (And.right (And.right (And.right (by assumption))))))) | exact ne7 (And.right (And.right (And.right (And.right (And.right (And.right (by assumption))))))) | exact lt7 (And.right (And.right (And.right (And.right (And.right (And.right (And.right (by assumption)))))))) | exact ne7 (And.right (And.right (And.right (And.right (And.right (And.right (And.right (by assumption)))))))) | exact lt7 (And.right (And.right (And.right (And.right (And.right (And.right (And.right (And.right (by assumption))))))))) | exact ne7 (And.right (And.right (And.right (And.right (And.right (And.right (And.right (And.right (by assumption)))))))))) (by first | exact lt7 (by assumption) | exact ne7 (by assumption) | exact lt7 (And.right (by assumption)) | exact ne7 (And.right (by assumption)) | exact lt7 (And.right (And.right (by assumption))) | exact ne7 (And.right (And.right (by assumption))) | exact lt7 (And.right (And.right (And.right (by assumption)))) | exact ne7 (And.right (And.right (And.right (by assumption)))) | exact lt7 (And.right (And.right (And.right (And.right (by assumption))))) | exact ne7 (And.right (And.right (And.right (And.right (by assumption))))) | exact lt7 (And.right (And.right (And.right (And.right (And.right (by assumption)))))) | exact ne7 (And.right (And.right (And.right (And.right (And.right (by assumption)))))) | exact lt7 (And.right (And.right (And.right (And.right (And.right (And.right (by assumption))))))) | exact ne7 (And.right (And.right (And.right (And.right (And.right (And.right (by assumption))))))) | exact lt7 (And.right (And.right (And.right (And.right (And.right (And.right (And.right (by assumption)))))))) | exact ne7 (And.right (And.right (And.right (And.right (And.right (And.right (And.right (by assumption)))))))) | exact lt7 (And.right (And.right (And.right (And.right (And.right (And.right (And.right (And.right (by assumption))))))))) | exact ne7 (And.right (And.right (And.right (And.right (And.right (And.right (And.right (And.right (by assumption))))))))))
  exact hret _ _ _ _ fs ns' q1 q2 q3 q4 q5 (Fr.put (Str.ofString "forms") (Fr.put (Str.ofString "count") (Fr.put (Str.ofString "own") ((by assumption)) rfl) rfl) rfl) q6
end Mine
end
section
open _root_.PySem _root_.PySem.W _root_.PySem.W.X _root_.PyProof.Rows
set_option Elab.async false
set_option maxRecDepth 100000
set_option maxHeartbeats 0
namespace Mine
local macro_rules | `(tactic| walk_at "none") => `(tactic| skip)
theorem rs101 : True := by w_top off; trivial
local macro_rules | `(tactic| k_updF) => `(tactic| first | (refine' UpdF.head ?a; (case a => (repeat (refine all_cons (by first | k_ne | omega) ?_)); first | exact all_off1 (by assumption) | exact all_off2 (by assumption) | exact all_off3 (by assumption) | exact all_off4 (by assumption) | exact all_off5 (by assumption) | exact all_off6 (by assumption) | exact all_off7 (by assumption) | (intro p hp; cases hp))) | (refine' UpdF.tail ?a ?b; (case a => first | k_ne | omega); (case b => k_updF)))
theorem s0 {w : World} {loose : List Str} {mean : ExcName → Option Value} {mg mb : Str → Option Value} {base : Heap} {L fa : Addr} {cd : Value} {m : Str → Option Value} {s : Shared} {Q : Flow → Shared → Prop} {E : Value → Shared → Prop}
   (cB : Below callerA base [] base) (cX : (Mine.hd.heap_39 w.params).In base) (cT : Top Mine.hd.view_39 loose mean mg mb base) (hE : PassesOwn (model PP w) (lawA L fa cd) (lawEnv L fa cd) E)
   {o1 o2 o3 o4 o5 o6 o7 : Obj} {ns : List (Addr × Obj)} (hns : ∀ p ∈ ns, (Off7 L p.1))
   {la : Addr}
   (cF : Fr base L s.heap (fun y => if y = Str.ofString "script" then some (.ref la) else m y)) (cN : News base L s.heap ((L + 1 + 1 + 1 + 1 + 1 + 1 + 1, o7) :: (L + 1 + 1 + 1 + 1 + 1 + 1, o6) :: (L + 1 + 1 + 1 + 1 + 1, o5) :: (L + 1 + 1 + 1 + 1, o4) :: (L + 1 + 1 + 1, o3) :: (L + 1 + 1, o2) :: (L + 1, o1) :: ns))
   (d1 : o1.data = .cell (none)) (d2 : o2.data = .cell (none)) (d3 : o3.data = .cell (none)) (d4 : o4.data = .cell (none)) (d5 : o5.data = .cell (none)) (d6 : o6.data = .cell (none)) (d7 : o7.data = .cell (none))
   (hret : ∀ (m' : Str → Option Value) (h' : Heap) (tk' : Nat) (q1 : Obj) (l : Addr) (n : Nat) (t0 t1 t2 t3 t4 t5 : Tok), (Off7 L l) → (∀ p ∈ ns, p.1 ≠ l) → 0 < tk' → q1.data = .cell (some (.ref l)) → Fr base L h' (fun y => if y = Str.ofString "script" then some (.ref la) else m' y) → News base L h' ((l, listOf #[.int 49 t0, .int 100 t1, .int 6 t2, .int 16 t3, .int 183 t4, .int 0 t5] n) :: (L + 1 + 1 + 1 + 1 + 1 + 1 + 1, o7) :: (L + 1 + 1 + 1 + 1 + 1 + 1, o6) :: (L + 1 + 1 + 1 + 1 + 1, o5) :: (L + 1 + 1 + 1 + 1, o4) :: (L + 1 + 1 + 1, o3) :: (L + 1 + 1, o2) :: (L + 1, q1) :: ns) → Q .next { s with heap := h', toks := tk' }) :
   wpAny (model PP w) (lawA L fa cd) (exec (st 0) (lawEnv L fa cd)) Q E s := by
  conv in (st 0) => whnf
  unfold lawA lawEnv
  conv in (occs := *) lawScope => all_goals whnf
  with_reducible refine wp_gen fun tk0 => ?_
  with_reducible refine letF cF ?_
  intro mz0 cF0
  clear cF
  with_reducible refine letA ?_
  intro A0
  k_steps
  rename_i l9 h8 l8 h9 o9 F9 N9 d9
  exact hret _ _ _ o9 l9 _ _ _ _ _ _ _ (by first | exact lt7 (by assumption) | exact ne7 (by assumption) | exact lt7 (And.right (by assumption)) | exact ne7 (And.right (by assumption)) | exact lt7 (And.right (And.right (by assumption))) | exact ne7 (And.right (And.right (by assumption))) | exact lt7 (And.right (And.right (And.right (by assumption)))) | exact ne7 (And.right (And.right (And.right (by assumption)))) | exact lt7 (And.right (And.right (And.right (And.right (by assumption))))) | exact ne7 (And.right (And.right (And.right (And.right (by assumption))))) | exact lt7 (And.right (And.right (And.right (And.right (And.right (by assumption)))))) | exact ne7 (And.right (And.right (And.right (And.right (And.right (by assumption)))))) | exact lt7 (And.right (And.right (And.right (And.right (And.right (And.right (by assumption))))))) | exact ne7 (And.right (And.right (And.right (And.right (And.right (And.right (by assumption))))))) | exact lt7 (And.right (And.right (And.right (And.right (And.right (And.right (And.right (by assumption)))))))) | exact ne7 (And.right (And.right (And.right (And.right (And.right (And.right (And.right (by assumption)))))))) | exact lt7 (And.right (And.right (And.right (And.right (And.right (And.right (And.right (And.right (by assumption))))))))) | exact ne7 (And.right (And.right (And.right (And.right (And.right (And.right (And.right (And.right (by assumption)))))))))) (fun p hp => Nat.ne_of_lt (allLt_to2 l8.2.2.2.2.2.2.2 p hp)) (Nat.succ_pos _) d9 (Fr.put (Str.ofString "script") ((by assumption)) rfl) N9
end Mine
end
section
open _root_.PySem _root_.PySem.W _root_.PySem.W.X _root_.PyProof.Rows
set_option Elab.async false
set_option maxRecDepth 100000
set_option maxHeartbeats 0
namespace Mine
theorem rs102 : True := by w_top off; trivial
theorem len_succ {α : Type} {ks : List α} {n : Nat} (h : ks.length = n + 1) : ∃ k r, ks = k :: r ∧ r.length = n := by
  cases ks with
  | nil => exact absurd h (Nat.succ_ne_zero n).symm
  | cons k r => exact ⟨k, r, rfl, Nat.succ.inj h⟩
theorem ints_un {vs : List Value} {ks : List Int} {n : Nat} (h : IntsAre vs ks) (hn : ks.length = n + 1) : ∃ k t vs' ks', vs = .int k t :: vs' ∧ ks = k :: ks' ∧ IntsAre vs' ks' ∧ ks'.length = n := by
  cases h with
  | nil => exact absurd hn (Nat.succ_ne_zero n).symm
  | cons k t h => exact ⟨k, t, _, _, rfl, rfl, h, Nat.succ.inj hn⟩
inductive Six : List Value → List Int → Prop
  | mk (c0 c1 c2 c3 c4 c5 : Int) (t0 t1 t2 t3 t4 t5 : Tok) : Six [.int c0 t0, .int c1 t1, .int c2 t2, .int c3 t3, .int c4 t4, .int c5 t5] [c0, c1, c2, c3, c4, c5]
theorem six_of {vs : List Value} {ks : List Int} (h : IntsAre vs ks) (h6 : ks.length = 6) : Six vs ks := by
  obtain ⟨c0, t0, v1, k1, rfl, rfl, h, h6⟩ := ints_un h h6
  obtain ⟨c1, t1, v2, k2, rfl, rfl, h, h6⟩ := ints_un h h6
  obtain ⟨c2, t2, v3, k3, rfl, rfl, h, h6⟩ := ints_un h h6
  obtain ⟨c3, t3, v4, k4, rfl, rfl, h, h6⟩ := ints_un h h6
  obtain ⟨c4, t4, v5, k5, rfl, rfl, h, h6⟩ := ints_un h h6
  obtain ⟨c5, t5, v6, k6, rfl, rfl, h, h6⟩ := ints_un h h6
  cases h with
  | nil => exact .mk c0 c1 c2 c3 c4 c5 t0 t1 t2 t3 t4 t5
  | cons k t h => exact absurd h6 (Nat.succ_ne_zero _)
theorem ints6 {c0 c1 c2 c3 c4 c5 : Int} {t0 t1 t2 t3 t4 t5 : Tok} : IntsAre [.int c0 t0, .int c1 t1, .int c2 t2, .int c3 t3, .int c4 t4, .int c5 t5] [c0, c1, c2, c3, c4, c5] := .cons _ _ (.cons _ _ (.cons _ _ (.cons _ _ (.cons _ _ (.cons _ _ .nil)))))
local macro_rules | `(tactic| walk_at "exec For Tuple Call cons nil") => `(tactic| (k_here; (rename Fr _ _ _ _ => lF'); (with_unfolding_all refine' For_turns lF' ?_; k_whole)))
local macro_rules | `(tactic| walk_at "ItemsRest") => `(tactic| (refine Halt.go ?_))
theorem s1 {w : World} {loose : List Str} {mean : ExcName → Option Value} {mg mb : Str → Option Value} {base : Heap} {L fa : Addr} {cd : Value} {m : Str → Option Value} {s : Shared} {Q : Flow → Shared → Prop} {E : Value → Shared → Prop}
   (cB : Below callerA base [] base) (cX : (Mine.hd.heap_39 w.params).In base) (cT : Top Mine.hd.view_39 loose mean mg mb base) (hE : PassesOwn (model PP w) (lawA L fa cd) (lawEnv L fa cd) E)
   {o1 o2 o3 o4 o5 o6 o7 : Obj} {ns : List (Addr × Obj)} (hns : ∀ p ∈ ns, (Off7 L p.1))
   {la l : Addr} {n : Nat} {t0 t1 t2 t3 t4 t5 : Tok} {its : List Value} {xs : List Int} (hl : (Off7 L l)) (hnl : ∀ p ∈ ns, p.1 ≠ l) (hL : base.IsList la its.toArray) (hI : IntsAre its xs) (hlen : xs.length ≤ 63)
   (cF : Fr base L s.heap (fun y => if y = Str.ofString "script" then some (.ref la) else m y)) (cN : News base L s.heap ((l, listOf #[.int 49 t0, .int 100 t1, .int 6 t2, .int 16 t3, .int 183 t4, .int 0 t5] n) :: (L + 1 + 1 + 1 + 1 + 1 + 1 + 1, o7) :: (L + 1 + 1 + 1 + 1 + 1 + 1, o6) :: (L + 1 + 1 + 1 + 1 + 1, o5) :: (L + 1 + 1 + 1 + 1, o4) :: (L + 1 + 1 + 1, o3) :: (L + 1 + 1, o2) :: (L + 1, o1) :: ns))
   (d1 : o1.data = .cell (some (.ref l))) (d2 : o2.data = .cell (none)) (d3 : o3.data = .cell (none)) (d4 : o4.data = .cell (none)) (d5 : o5.data = .cell (none)) (d6 : o6.data = .cell (none)) (d7 : o7.data = .cell (none))
   (hret : ∀ (m' : Str → Option Value) (h' : Heap) (tk' : Nat) (c0 c1 c2 c3 c4 c5 : Int) (t0 t1 t2 t3 t4 t5 : Tok), 0 ≤ c0 → 0 ≤ c1 → 0 ≤ c2 → 0 ≤ c3 → 0 ≤ c4 → 0 ≤ c5 → Fr base L h' (fun y => m' y) → News base L h' ((l, listOf #[.int c0 t0, .int c1 t1, .int c2 t2, .int c3 t3, .int c4 t4, .int c5 t5] n) :: (L + 1 + 1 + 1 + 1 + 1 + 1 + 1, o7) :: (L + 1 + 1 + 1 + 1 + 1 + 1, o6) :: (L + 1 + 1 + 1 + 1 + 1, o5) :: (L + 1 + 1 + 1 + 1, o4) :: (L + 1 + 1 + 1, o3) :: (L + 1 + 1, o2) :: (L + 1, o1) :: ns) → Q .next { s with heap := h', toks := tk' }) :
   wpAny (model PP w) (lawA L fa cd) (exec (st 1) (lawEnv L fa cd)) Q E s := by
  conv in (st 1) => whnf
  unfold lawA lawEnv
  conv in (occs := *) lawScope => all_goals whnf
  with_reducible refine wp_gen fun tk0 => ?_
  with_reducible refine letF cF ?_
  intro mz0 cF0
  clear cF
  with_reducible refine letA ?_
  intro A0
  (repeat' (first | (k_unfold; (try dsimp only)) | (k_end; wrow_close) | ((k_here; (with_reducible show wpAny _ _ (call (Value.type _) [Value.ref _]) (fun xv s₁ => wpAny _ _ (pyIter xv) (fun it s₂ => TurnsAt _ _ _ _ _ _ _ _ _ it s₂) _ s₁) _ _); (rename Fr _ _ _ _ => lF'); (rename News _ _ _ _ => lN'); (with_unfolding_all refine ktu_enum (xs := enumItems 0 _) (by rfl) lF' lN' (.head _) (by rfl) (by rfl) (by rfl) ?_); clear lF' lN'; intro _ _)) | walk1 | (dsimp only; walk1) | (leave1; try dsimp only) | fail "no step"))
  unfold Halt
  rename_i D8 ws8 h8 hi8 hc8 hl8 l8 i9 l9
  refine loop1 (by assumption) (by assumption) (by assumption) (by assumption) hl (Nat.ne_of_gt l8.1) hnl (Nat.ne_of_gt (l9 _ (.tail _ (.head _)))) (Nat.ne_of_gt (Nat.lt_succ_of_lt (l9 _ (.tail _ (.head _))))) d1 _ _ 0 _ [.int 49 t0, .int 100 t1, .int 6 t2, .int 16 t3, .int 183 t4, .int 0 t5] [49, 100, 6, 16, 183, 0] (by assumption) ints6 rfl (by decide) l9 ?_
  intro m9 h9 k9 vs ks hvs hk6 hk0 F9 N9
  (repeat' (first | (k_unfold; (try dsimp only)) | (k_end; wrow_close) | ((k_here; (with_reducible show wpAny _ _ (call (Value.type _) [Value.ref _]) (fun xv s₁ => wpAny _ _ (pyIter xv) (fun it s₂ => TurnsAt _ _ _ _ _ _ _ _ _ it s₂) _ s₁) _ _); (rename Fr _ _ _ _ => lF'); (rename News _ _ _ _ => lN'); (with_unfolding_all refine ktu_enum (xs := enumItems 0 _) (by rfl) lF' lN' (.head _) (by rfl) (by rfl) (by rfl) ?_); clear lF' lN'; intro _ _)) | walk1 | (dsimp only; walk1) | (leave1; try dsimp only) | fail "no step"))
  obtain ⟨c0, c1, c2, c3, c4, c5, z0, z1, z2, z3, z4, z5⟩ := six_of hvs hk6
  exact hret _ _ _ c0 c1 c2 c3 c4 c5 _ _ _ _ _ _ (hk0 _ (.head _)) (hk0 _ (.tail _ (.head _))) (hk0 _ (.tail _ (.tail _ (.head _)))) (hk0 _ (.tail _ (.tail _ (.tail _ (.head _))))) (hk0 _ (.tail _ (.tail _ (.tail _ (.tail _ (.head _)))))) (hk0 _ (.tail _ (.tail _ (.tail _ (.tail _ (.tail _ (.head _))))))) (by assumption) (by assumption)
end Mine
end
section
open _root_.PySem _root_.PySem.W _root_.PySem.W.X _root_.PyProof.Rows
set_option Elab.async false
set_option maxRecDepth 100000
set_option maxHeartbeats 0
namespace Mine
local macro_rules | `(tactic| walk_at "none") => `(tactic| skip)
theorem rs103 : True := by w_top off; trivial
local macro_rules | `(tactic| k_updF) => `(tactic| first | (refine' UpdF.head ?a; (case a => (repeat (refine all_cons (by first | k_ne | omega) ?_)); first | exact all_off1 (by assumption) | exact all_off2 (by assumption) | exact all_off3 (by assumption) | exact all_off4 (by assumption) | exact all_off5 (by assumption) | exact all_off6 (by assumption) | exact all_off7 (by assumption) | (intro p hp; cases hp))) | (refine' UpdF.tail ?a ?b; (case a => first | k_ne | omega); (case b => k_updF)))
theorem s2 {w : World} {loose : List Str} {mean : ExcName → Option Value} {mg mb : Str → Option Value} {base : Heap} {L fa : Addr} {cd : Value} {m : Str → Option Value} {s : Shared} {Q : Flow → Shared → Prop} {E : Value → Shared → Prop}
   (cB : Below callerA base [] base) (cX : (Mine.hd.heap_39 w.params).In base) (cT : Top Mine.hd.view_39 loose mean mg mb base) (hE : PassesOwn (model PP w) (lawA L fa cd) (lawEnv L fa cd) E)
   {o1 o2 o3 o4 o5 o6 o7 : Obj} {ns : List (Addr × Obj)} (hns : ∀ p ∈ ns, (Off7 L p.1))
   {l : Addr} {n : Nat} {c0 c1 c2 c3 c4 c5 : Int} {t0 t1 t2 t3 t4 t5 : Tok} (hl : (Off7 L l))
   (cF : Fr base L s.heap (fun y => m y)) (cN : News base L s.heap ((l, listOf #[.int c0 t0, .int c1 t1, .int c2 t2, .int c3 t3, .int c4 t4, .int c5 t5] n) :: (L + 1 + 1 + 1 + 1 + 1 + 1 + 1, o7) :: (L + 1 + 1 + 1 + 1 + 1 + 1, o6) :: (L + 1 + 1 + 1 + 1 + 1, o5) :: (L + 1 + 1 + 1 + 1, o4) :: (L + 1 + 1 + 1, o3) :: (L + 1 + 1, o2) :: (L + 1, o1) :: ns))
   (d1 : o1.data = .cell (some (.ref l))) (d2 : o2.data = .cell (none)) (d3 : o3.data = .cell (none)) (d4 : o4.data = .cell (none)) (d5 : o5.data = .cell (none)) (d6 : o6.data = .cell (none)) (d7 : o7.data = .cell (none))
   (hret : ∀ (m' : Str → Option Value) (h' : Heap) (tk' : Nat) (q2 : Obj) (lb : Addr) (u0 u1 u2 : Tok), (Off7 L lb) → q2.data = .cell (some (.ref lb)) → Fr base L h' (fun y => m' y) → News base L h' ((lb, LCg.lst [.int (if (0 : Int) = c0.fmod 3 then 3 else 2) u0, .int (if (1 : Int) = c0.fmod 3 then 3 else 2) u1, .int (if (2 : Int) = c0.fmod 3 then 3 else 2) u2]) :: (l, listOf #[.int c0 t0, .int c1 t1, .int c2 t2, .int c3 t3, .int c4 t4, .int c5 t5] n) :: (L + 1 + 1 + 1 + 1 + 1 + 1 + 1, o7) :: (L + 1 + 1 + 1 + 1 + 1 + 1, o6) :: (L + 1 + 1 + 1 + 1 + 1, o5) :: (L + 1 + 1 + 1 + 1, o4) :: (L + 1 + 1 + 1, o3) :: (L + 1 + 1, q2) :: (L + 1, o1) :: ns) → Q .next { s with heap := h', toks := tk' }) :
   wpAny (model PP w) (lawA L fa cd) (exec (st 2) (lawEnv L fa cd)) Q E s := by
  conv in (st 2) => whnf
  unfold lawA lawEnv
  conv in (occs := *) lawScope => all_goals whnf
  with_reducible refine wp_gen fun tk0 => ?_
  with_reducible refine letF cF ?_
  intro mz0 cF0
  clear cF
  with_reducible refine letA ?_
  intro A0
  (repeat' (first | (k_unfold; (try dsimp only)) | (k_end; wrow_close) | (k_end; first | ((k_dflt (first | (refine compEnd_tup (by k_asm) (by k_asm) (by assumption) (by assumption) (Or.inr ⟨_, by walk_at "mem", rfl, _, rfl⟩) ?_) | refine LCg.CompEnd.intro (by assumption) (by k_asm) _ (fun p hp => hp) (by assumption) True.intro ?_ | refine LCg.CompEnd.intro (by assumption) (by k_asm) _ (fun p hp => hp) (by assumption) (Or.inr ⟨_, by assumption, rfl, _, rfl⟩) ?_ | refine LCg.CompEnd.intro (by assumption) (by k_asm) _ (fun p hp => hp) (by assumption) (Or.inr ⟨_, by walk_at "mem", rfl, _, rfl⟩) ?_)))) | walk1 | (dsimp only; walk1) | (leave1; try dsimp only) | fail "no step"))
  rename_i D1 hh tk1 q1 h1 o1x F1 N1 d1x
  have hI := (by assumption : IntsAre _ _)
  have hJ : IntsAre ys [if (0 : Int) = c0.fmod 3 then 3 else 2, if (1 : Int) = c0.fmod 3 then 3 else 2, if (2 : Int) = c0.fmod 3 then 3 else 2] := hI
  obtain ⟨v0, v1, v2, rfl⟩ := ints3 hJ
  exact hret _ _ _ _ D1 v0 v1 v2 (by first | exact lt7 (by assumption) | exact ne7 (by assumption) | exact lt7 (And.right (by assumption)) | exact ne7 (And.right (by assumption)) | exact lt7 (And.right (And.right (by assumption))) | exact ne7 (And.right (And.right (by assumption))) | exact lt7 (And.right (And.right (And.right (by assumption)))) | exact ne7 (And.right (And.right (And.right (by assumption)))) | exact lt7 (And.right (And.right (And.right (And.right (by assumption))))) | exact ne7 (And.right (And.right (And.right (And.right (by assumption))))) | exact lt7 (And.right (And.right (And.right (And.right (And.right (by assumption)))))) | exact ne7 (And.right (And.right (And.right (And.right (And.right (by assumption)))))) | exact lt7 (And.right (And.right (And.right (And.right (And.right (And.right (by assumption))))))) | exact ne7 (And.right (And.right (And.right (And.right (And.right (And.right (by assumption))))))) | exact lt7 (And.right (And.right (And.right (And.right (And.right (And.right (And.right (by assumption)))))))) | exact ne7 (And.right (And.right (And.right (And.right (And.right (And.right (And.right (by assumption)))))))) | exact lt7 (And.right (And.right (And.right (And.right (And.right (And.right (And.right (And.right (by assumption))))))))) | exact ne7 (And.right (And.right (And.right (And.right (And.right (And.right (And.right (And.right (by assumption)))))))))) d1x F1 N1
end Mine
end
section
open _root_.PySem _root_.PySem.W _root_.PySem.W.X _root_.PyProof.Rows
set_option Elab.async false
set_option maxRecDepth 100000
set_option maxHeartbeats 0
namespace Mine
theorem rs104 : True := by w_top off; trivial
local macro_rules | `(tactic| k_updF) => `(tactic| first | (refine' UpdF.head ?a; (case a => (repeat (refine all_cons (by first | k_ne | omega) ?_)); first | exact all_off1 (by assumption) | exact all_off2 (by assumption) | exact all_off3 (by assumption) | exact all_off4 (by assumption) | exact all_off5 (by assumption) | exact all_off6 (by assumption) | exact all_off7 (by assumption) | (intro p hp; cases hp))) | (refine' UpdF.tail ?a ?b; (case a => first | k_ne | omega); (case b => k_updF)))
theorem s3 {w : World} {loose : List Str} {mean : ExcName → Option Value} {mg mb : Str → Option Value} {base : Heap} {L fa : Addr} {cd : Value} {m : Str → Option Value} {s : Shared} {Q : Flow → Shared → Prop} {E : Value → Shared → Prop}
   (cB : Below callerA base [] base) (cX : (Mine.hd.heap_39 w.params).In base) (cT : Top Mine.hd.view_39 loose mean mg mb base) (hE : PassesOwn (model PP w) (lawA L fa cd) (lawEnv L fa cd) E)
   {o1 o2 o3 o4 o5 o6 o7 : Obj} {ns : List (Addr × Obj)} (hns : ∀ p ∈ ns, (Off7 L p.1))
   {l : Addr} {n : Nat} {c0 c1 c2 c3 c4 c5 : Int} {t0 t1 t2 t3 t4 t5 : Tok} (hl : (Off7 L l)) {lb : Addr}
   (cF : Fr base L s.heap (fun y => m y)) (cN : News base L s.heap ((l, listOf #[.int c0 t0, .int c1 t1, .int c2 t2, .int c3 t3, .int c4 t4, .int c5 t5] n) :: (L + 1 + 1 + 1 + 1 + 1 + 1 + 1, o7) :: (L + 1 + 1 + 1 + 1 + 1 + 1, o6) :: (L + 1 + 1 + 1 + 1 + 1, o5) :: (L + 1 + 1 + 1 + 1, o4) :: (L + 1 + 1 + 1, o3) :: (L + 1 + 1, o2) :: (L + 1, o1) :: ns))
   (d1 : o1.data = .cell (some (.ref l))) (d2 : o2.data = .cell (some (.ref lb))) (d3 : o3.data = .cell (none)) (d4 : o4.data = .cell (none)) (d5 : o5.data = .cell (none)) (d6 : o6.data = .cell (none)) (d7 : o7.data = .cell (none))
   (hret : ∀ (m' : Str → Option Value) (h' : Heap) (tk' : Nat) (q3 : Obj) (t : Tok), q3.data = .cell (some (.int (3 - (c0.fdiv 3).fmod 4) t)) → Fr base L h' (fun y => m' y) → News base L h' ((l, listOf #[.int c0 t0, .int c1 t1, .int c2 t2, .int c3 t3, .int c4 t4, .int c5 t5] n) :: (L + 1 + 1 + 1 + 1 + 1 + 1 + 1, o7) :: (L + 1 + 1 + 1 + 1 + 1 + 1, o6) :: (L + 1 + 1 + 1 + 1 + 1, o5) :: (L + 1 + 1 + 1 + 1, o4) :: (L + 1 + 1 + 1, q3) :: (L + 1 + 1, o2) :: (L + 1, o1) :: ns) → Q .next { s with heap := h', toks := tk' }) :
   wpAny (model PP w) (lawA L fa cd) (exec (st 3) (lawEnv L fa cd)) Q E s := by
  conv in (st 3) => whnf
  unfold lawA lawEnv
  conv in (occs := *) lawScope => all_goals whnf
  k_steps
  exact hret _ _ _ _ _ (by assumption) (by assumption) (by assumption)
end Mine
end
section
open _root_.PySem _root_.PySem.W _root_.PySem.W.X _root_.PyProof.Rows
set_option Elab.async false
set_option maxRecDepth 100000
set_option maxHeartbeats 0
namespace Mine
local macro_rules | `(tactic| walk_at "none") => `(tactic| skip)
theorem rs105 : True := by w_top off; trivial
local macro_rules | `(tactic| k_updF) => `(tactic| first | (refine' UpdF.head ?a; (case a => (repeat (refine all_cons (by first | k_ne | omega) ?_)); first | exact all_off1 (by assumption) | exact all_off2 (by assumption) | exact all_off3 (by assumption) | exact all_off4 (by assumption) | exact all_off5 (by assumption) | exact all_off6 (by assumption) | exact all_off7 (by assumption) | (intro p hp; cases hp))) | (refine' UpdF.tail ?a ?b; (case a => first | k_ne | omega); (case b => k_updF)))
theorem s4 {w : World} {loose : List Str} {mean : ExcName → Option Value} {mg mb : Str → Option Value} {base : Heap} {L fa : Addr} {cd : Value} {m : Str → Option Value} {s : Shared} {Q : Flow → Shared → Prop} {E : Value → Shared → Prop}
   (cB : Below callerA base [] base) (cX : (Mine.hd.heap_39 w.params).In base) (cT : Top Mine.hd.view_39 loose mean mg mb base) (hE : PassesOwn (model PP w) (lawA L fa cd) (lawEnv L fa cd) E)
   {o1 o2 o3 o4 o5 o6 o7 : Obj} {ns : List (Addr × Obj)} (hns : ∀ p ∈ ns, (Off7 L p.1))
   {l : Addr} {n : Nat} {c0 c1 c2 c3 c4 c5 : Int} {t0 t1 t2 t3 t4 t5 : Tok} (hl : (Off7 L l)) {lb : Addr} {fr : Int} {tf : Tok}
   (cF : Fr base L s.heap (fun y => m y)) (cN : News base L s.heap ((l, listOf #[.int c0 t0, .int c1 t1, .int c2 t2, .int c3 t3, .int c4 t4, .int c5 t5] n) :: (L + 1 + 1 + 1 + 1 + 1 + 1 + 1, o7) :: (L + 1 + 1 + 1 + 1 + 1 + 1, o6) :: (L + 1 + 1 + 1 + 1 + 1, o5) :: (L + 1 + 1 + 1 + 1, o4) :: (L + 1 + 1 + 1, o3) :: (L + 1 + 1, o2) :: (L + 1, o1) :: ns))
   (d1 : o1.data = .cell (some (.ref l))) (d2 : o2.data = .cell (some (.ref lb))) (d3 : o3.data = .cell (some (.int fr tf))) (d4 : o4.data = .cell (none)) (d5 : o5.data = .cell (none)) (d6 : o6.data = .cell (none)) (d7 : o7.data = .cell (none))
   (hret : ∀ (m' : Str → Option Value) (h' : Heap) (tk' : Nat) (q4 : Obj) (t : Tok), q4.data = .cell (some (.int (1 + (c0.fdiv 12).fmod 50) t)) → Fr base L h' (fun y => m' y) → News base L h' ((l, listOf #[.int c0 t0, .int c1 t1, .int c2 t2, .int c3 t3, .int c4 t4, .int c5 t5] n) :: (L + 1 + 1 + 1 + 1 + 1 + 1 + 1, o7) :: (L + 1 + 1 + 1 + 1 + 1 + 1, o6) :: (L + 1 + 1 + 1 + 1 + 1, o5) :: (L + 1 + 1 + 1 + 1, q4) :: (L + 1 + 1 + 1, o3) :: (L + 1 + 1, o2) :: (L + 1, o1) :: ns) → Q .next { s with heap := h', toks := tk' }) :
   wpAny (model PP w) (lawA L fa cd) (exec (st 4) (lawEnv L fa cd)) Q E s := by
  conv in (st 4) => whnf
  unfold lawA lawEnv
  conv in (occs := *) lawScope => all_goals whnf
  k_steps
  exact hret _ _ _ _ _ (by assumption) (by assumption) (by assumption)
end Mine
end
section
open _root_.PySem _root_.PySem.W _root_.PySem.W.X _root_.PyProof.Rows
set_option Elab.async false
set_option maxRecDepth 100000
set_option maxHeartbeats 0
namespace Mine
theorem rs106 : True := by w_top off; trivial
local macro_rules | `(tactic| k_updF) => `(tactic| first | (refine' UpdF.head ?a; (case a => (repeat (refine all_cons (by first | k_ne | omega) ?_)); first | exact all_off1 (by assumption) | exact all_off2 (by assumption) | exact all_off3 (by assumption) | exact all_off4 (by assumption) | exact all_off5 (by assumption) | exact all_off6 (by assumption) | exact all_off7 (by assumption) | (intro p hp; cases hp))) | (refine' UpdF.tail ?a ?b; (case a => first | k_ne | omega); (case b => k_updF)))
theorem lt3_of {k : Int} (h : k < 0 + (((3 : Int) - 0).toNat : Int)) : k < 3 := h
theorem pow6 (n : Nat) : ((6 : Int) ^ n) ≠ 0 := by have : 0 < (6 : Int) ^ n := Int.pow_pos (by decide); omega
theorem own_list {c b0 b1 b2 : Int} (h0 : 2 ≤ b0) (h1 : 2 ≤ b1) (h2 : 2 ≤ b2) :
    List.map (fun k' : Int => if ¬(6 : Int) ^ k'.toNat = 0 ∧ ¬[b0, b1, b2].getD k'.toNat 0 = 0 then (c.fdiv (6 ^ k'.toNat)).fmod ([b0, b1, b2].getD k'.toNat 0) else k') (rangeKs 0 3) = [c.fmod b0, (c.fdiv 6).fmod b1, (c.fdiv 36).fmod b2] := by
  have e : rangeKs 0 3 = [0, 1, 2] := by decide
  have g0 : ¬ [b0, b1, b2].getD (Int.toNat 0) 0 = 0 := by show ¬ b0 = 0; omega
  have g1 : ¬ [b0, b1, b2].getD (Int.toNat 1) 0 = 0 := by show ¬ b1 = 0; omega
  have g2 : ¬ [b0, b1, b2].getD (Int.toNat 2) 0 = 0 := by show ¬ b2 = 0; omega
  rw [e]
  simp only [List.map_cons, List.map_nil]
  rw [if_pos ⟨pow6 _, g0⟩, if_pos ⟨pow6 _, g1⟩, if_pos ⟨pow6 _, g2⟩]
  show [(c.fdiv 1).fmod b0, (c.fdiv 6).fmod b1, (c.fdiv 36).fmod b2] = _
  rw [Int.fdiv_one]
theorem base_ne {k b0 b1 b2 : Int} (h0 : 2 ≤ b0) (h1 : 2 ≤ b1) (h2 : 2 ≤ b2) (k0 : 0 ≤ k) (k1 : k < 3) : [b0, b1, b2].getD k.toNat 0 ≠ 0 := by
  have : k = 0 ∨ k = 1 ∨ k = 2 := by omega
  rcases this with rfl | rfl | rfl
  · show b0 ≠ 0; omega
  · show b1 ≠ 0; omega
  · show b2 ≠ 0; omega
theorem lt63_of {k : Int} (h : k < 0 + (((3 : Int) - 0).toNat : Int)) : k < 2 ^ 63 := Int.lt_of_lt_of_le (lt3_of h) (by decide)
theorem ints3j {a b c : Int} {t u v : Tok} : IntsAre [.int a t, .int b u, .int c v] [a, b, c] := .cons _ _ (.cons _ _ (.cons _ _ .nil))
theorem s5 {w : World} {loose : List Str} {mean : ExcName → Option Value} {mg mb : Str → Option Value} {base : Heap} {L fa : Addr} {cd : Value} {m : Str → Option Value} {s : Shared} {Q : Flow → Shared → Prop} {E : Value → Shared → Prop}
   (cB : Below callerA base [] base) (cX : (Mine.hd.heap_39 w.params).In base) (cT : Top Mine.hd.view_39 loose mean mg mb base) (hE : PassesOwn (model PP w) (lawA L fa cd) (lawEnv L fa cd) E)
   {o1 o2 o3 o4 o5 o6 o7 : Obj} {ns : List (Addr × Obj)} (hns : ∀ p ∈ ns, (Off7 L p.1))
   {l : Addr} {n : Nat} {c0 c1 c2 c3 c4 c5 : Int} {t0 t1 t2 t3 t4 t5 : Tok} (hl : (Off7 L l)) {lb : Addr} {fr gr b0 b1 b2 : Int} {tf tg u0 u1 u2 : Tok} (hlb : (Off7 L lb)) (hb0 : 2 ≤ b0) (hb0q : b0 ≤ 3) (hb1 : 2 ≤ b1) (hb1q : b1 ≤ 3) (hb2 : 2 ≤ b2) (hb2q : b2 ≤ 3)
   (cF : Fr base L s.heap (fun y => m y)) (cN : News base L s.heap ((lb, LCg.lst [.int b0 u0, .int b1 u1, .int b2 u2]) :: (l, listOf #[.int c0 t0, .int c1 t1, .int c2 t2, .int c3 t3, .int c4 t4, .int c5 t5] n) :: (L + 1 + 1 + 1 + 1 + 1 + 1 + 1, o7) :: (L + 1 + 1 + 1 + 1 + 1 + 1, o6) :: (L + 1 + 1 + 1 + 1 + 1, o5) :: (L + 1 + 1 + 1 + 1, o4) :: (L + 1 + 1 + 1, o3) :: (L + 1 + 1, o2) :: (L + 1, o1) :: ns))
   (d1 : o1.data = .cell (some (.ref l))) (d2 : o2.data = .cell (some (.ref lb))) (d3 : o3.data = .cell (some (.int fr tf))) (d4 : o4.data = .cell (some (.int gr tg))) (d5 : o5.data = .cell (none)) (d6 : o6.data = .cell (none)) (d7 : o7.data = .cell (none))
   (hret : ∀ (m' : Str → Option Value) (h' : Heap) (tk' : Nat) (lo : Addr) (v0 v1 v2 : Tok), (Off7 L lo) → Fr base L h' (fun y => if y = Str.ofString "own" then some (.ref lo) else m' y) → News base L h' ((lo, LCg.lst [.int (c1.fmod b0) v0, .int ((c1.fdiv 6).fmod b1) v1, .int ((c1.fdiv 36).fmod b2) v2]) :: (lb, LCg.lst [.int b0 u0, .int b1 u1, .int b2 u2]) :: (l, listOf #[.int c0 t0, .int c1 t1, .int c2 t2, .int c3 t3, .int c4 t4, .int c5 t5] n) :: (L + 1 + 1 + 1 + 1 + 1 + 1 + 1, o7) :: (L + 1 + 1 + 1 + 1 + 1 + 1, o6) :: (L + 1 + 1 + 1 + 1 + 1, o5) :: (L + 1 + 1 + 1 + 1, o4) :: (L + 1 + 1 + 1, o3) :: (L + 1 + 1, o2) :: (L + 1, o1) :: ns) → Q .next { s with heap := h', toks := tk' }) :
   wpAny (model PP w) (lawA L fa cd) (exec (st 5) (lawEnv L fa cd)) Q E s := by
  conv in (st 5) => whnf
  unfold lawA lawEnv
  conv in (occs := *) lawScope => all_goals whnf
  with_reducible refine wp_gen fun tk0 => ?_
  with_reducible refine letF cF ?_
  intro mz0 cF0
  clear cF
  with_reducible refine letA ?_
  intro A0
  (repeat' (first | (k_unfold; (try dsimp only)) | (k_end; wrow_close) | (k_end; first | ((k_dflt (first | (refine compEnd_tup (by k_asm) (by k_asm) (by assumption) (by assumption) (Or.inr ⟨_, by walk_at "mem", rfl, _, rfl⟩) ?_) | refine LCg.CompEnd.intro (by assumption) (by k_asm) _ (fun p hp => hp) (by assumption) True.intro ?_ | refine LCg.CompEnd.intro (by assumption) (by k_asm) _ (fun p hp => hp) (by assumption) (Or.inr ⟨_, by assumption, rfl, _, rfl⟩) ?_ | refine LCg.CompEnd.intro (by assumption) (by k_asm) _ (fun p hp => hp) (by assumption) (Or.inr ⟨_, by walk_at "mem", rfl, _, rfl⟩) ?_)))) | ((k_here; (with_reducible show wpAny _ _ (subscriptTail _ _ (Value.ref _) (Value.int _ _)) _ _ _); k_dflt (refine' ksa_sub (n := 3) (by k_asm) (by walk_at "mem") (by exact ints3j) (by with_reducible assumption) (by exact lt3_of (by with_reducible assumption)) (by exact lt63_of (by with_reducible assumption)) ?_ (by with_unfolding_all rfl)); intro _)) | walk1 | (dsimp only; walk1) | (leave1; try dsimp only) | fail "no step"))
  · exact absurd (by assumption : (6 : Int) ^ _ = 0) (pow6 _)
  · exact absurd (by assumption : [b0, b1, b2].getD _ 0 = 0) (base_ne hb0 hb1 hb2 (by with_reducible assumption) (lt3_of (by with_reducible assumption)))
  · rename_i D1 h1 tk1 F1 N1 q1
    have hI := (by assumption : IntsAre _ _)
    have hJ : IntsAre _ [c1.fmod b0, (c1.fdiv 6).fmod b1, (c1.fdiv 36).fmod b2] := (own_list (c := c1) hb0 hb1 hb2) ▸ hI
    obtain ⟨v0, v1, v2, rfl⟩ := ints3 hJ
    exact hret _ _ _ D1 v0 v1 v2 (ne7 q1.2.2) F1 N1
end Mine
end
section
open _root_.PySem _root_.PySem.W _root_.PySem.W.X _root_.PyProof.Rows
set_option Elab.async false
set_option maxRecDepth 100000
set_option maxHeartbeats 0
namespace Mine
local macro_rules | `(tactic| walk_at "none") => `(tactic| skip)
theorem rs107 : True := by w_top off; trivial
local macro_rules | `(tactic| k_updF) => `(tactic| first | (refine' UpdF.head ?a; (case a => (repeat (refine all_cons (by first | k_ne | omega) ?_)); first | exact all_off1 (by assumption) | exact all_off2 (by assumption) | exact all_off3 (by assumption) | exact all_off4 (by assumption) | exact all_off5 (by assumption) | exact all_off6 (by assumption) | exact all_off7 (by assumption) | (intro p hp; cases hp))) | (refine' UpdF.tail ?a ?b; (case a => first | k_ne | omega); (case b => k_updF)))
theorem s6 {w : World} {loose : List Str} {mean : ExcName → Option Value} {mg mb : Str → Option Value} {base : Heap} {L fa : Addr} {cd : Value} {m : Str → Option Value} {s : Shared} {Q : Flow → Shared → Prop} {E : Value → Shared → Prop}
   (cB : Below callerA base [] base) (cX : (Mine.hd.heap_39 w.params).In base) (cT : Top Mine.hd.view_39 loose mean mg mb base) (hE : PassesOwn (model PP w) (lawA L fa cd) (lawEnv L fa cd) E)
   {o1 o2 o3 o4 o5 o6 o7 : Obj} {ns : List (Addr × Obj)} (hns : ∀ p ∈ ns, (Off7 L p.1))
   {l : Addr} {n : Nat} {c0 c1 c2 c3 c4 c5 : Int} {t0 t1 t2 t3 t4 t5 : Tok} (hl : (Off7 L l)) {lb lo : Addr} {fr gr : Int} {tf tg : Tok} (g5 : 0 ≤ c5)
   (cF : Fr base L s.heap (fun y => if y = Str.ofString "own" then some (.ref lo) else m y)) (cN : News base L s.heap ((l, listOf #[.int c0 t0, .int c1 t1, .int c2 t2, .int c3 t3, .int c4 t4, .int c5 t5] n) :: (L + 1 + 1 + 1 + 1 + 1 + 1 + 1, o7) :: (L + 1 + 1 + 1 + 1 + 1 + 1, o6) :: (L + 1 + 1 + 1 + 1 + 1, o5) :: (L + 1 + 1 + 1 + 1, o4) :: (L + 1 + 1 + 1, o3) :: (L + 1 + 1, o2) :: (L + 1, o1) :: ns))
   (d1 : o1.data = .cell (some (.ref l))) (d2 : o2.data = .cell (some (.ref lb))) (d3 : o3.data = .cell (some (.int fr tf))) (d4 : o4.data = .cell (some (.int gr tg))) (d5 : o5.data = .cell (none)) (d6 : o6.data = .cell (none)) (d7 : o7.data = .cell (none))
   (hret : ∀ (m' : Str → Option Value) (h' : Heap) (tk' : Nat) (t : Tok), Fr base L h' (fun y => if y = Str.ofString "count" then some (.int (if fr - [0, 0, 1, 2].getD (c5.fmod 4).toNat 0 > 0 then fr - [0, 0, 1, 2].getD (c5.fmod 4).toNat 0 else 0) t) else if y = Str.ofString "own" then some (.ref lo) else m' y) → News base L h' ((l, listOf #[.int c0 t0, .int c1 t1, .int c2 t2, .int c3 t3, .int c4 t4, .int c5 t5] n) :: (L + 1 + 1 + 1 + 1 + 1 + 1 + 1, o7) :: (L + 1 + 1 + 1 + 1 + 1 + 1, o6) :: (L + 1 + 1 + 1 + 1 + 1, o5) :: (L + 1 + 1 + 1 + 1, o4) :: (L + 1 + 1 + 1, o3) :: (L + 1 + 1, o2) :: (L + 1, o1) :: ns) → Q .next { s with heap := h', toks := tk' }) :
   wpAny (model PP w) (lawA L fa cd) (exec (st 6) (lawEnv L fa cd)) Q E s := by
  conv in (st 6) => whnf
  unfold lawA lawEnv
  conv in (occs := *) lawScope => all_goals whnf
  with_reducible refine wp_gen fun tk0 => ?_
  with_reducible refine letN cN ?_
  intro nz0 cN0
  clear cN
  with_reducible refine letF cF ?_
  intro mz0 cF0
  clear cF
  with_reducible refine letA ?_
  intro A0
  k_steps
  exact hret _ _ _ _ (Fr.put (Str.ofString "count") (Fr.put (Str.ofString "own") ((by assumption)) rfl) rfl) (news_drop (by assumption) (fun p hp => List.mem_cons_of_mem _ hp))
end Mine
end
section
open _root_.PySem _root_.PySem.W _root_.PySem.W.X _root_.PyProof.Rows
set_option Elab.async false
set_option maxRecDepth 100000
set_option maxHeartbeats 0
namespace Mine
theorem rs108 : True := by w_top off; trivial
theorem form_bd {fs : List Form} {M : List (Int × Bool × Int)} (h : fs.map (fun x => (x.b, x.e, x.f)) = M) (hM : ∀ t ∈ M, (-4 ≤ t.1 ∧ t.1 ≤ 4) ∧ (-7 ≤ t.2.2 ∧ t.2.2 ≤ 7)) : ∀ x ∈ fs, (-4 ≤ x.b ∧ x.b ≤ 4) ∧ (-7 ≤ x.f ∧ x.f ≤ 7) :=
  fun x hx => hM (x.b, x.e, x.f) (h ▸ List.mem_map_of_mem (f := fun x : Form => (x.b, x.e, x.f)) hx)
theorem tri_bd (c : Int) : (-4 ≤ (c.fmod 9 - 4, (c.fdiv 9).fmod 2 == 1, (c.fdiv 18).fmod 15 - 7).1 ∧ (c.fmod 9 - 4, (c.fdiv 9).fmod 2 == 1, (c.fdiv 18).fmod 15 - 7).1 ≤ 4) ∧ (-7 ≤ (c.fmod 9 - 4, (c.fdiv 9).fmod 2 == 1, (c.fdiv 18).fmod 15 - 7).2.2 ∧ (c.fmod 9 - 4, (c.fdiv 9).fmod 2 == 1, (c.fdiv 18).fmod 15 - 7).2.2 ≤ 7) := by
  have h1 := fmod_nn (x := c) (c := 9) (by decide)
  have h2 := fmod_nn (x := c.fdiv 18) (c := 15) (by decide)
  dsimp only
  omega
theorem forall_nil {α : Type} {P : α → Prop} : ∀ t ∈ ([] : List α), P t := fun _ h => nomatch h
theorem forall_cons {α : Type} {P : α → Prop} {a : α} {r : List α} (h : P a) (t : ∀ x ∈ r, P x) : ∀ x ∈ a :: r, P x := by
  intro x hx
  rcases List.mem_cons.mp hx with rfl | hx
  · exact h
  · exact t x hx
theorem j7 {w : World} {loose : List Str} {mean : ExcName → Option Value} {mg mb : Str → Option Value} {base : Heap} {L fa : Addr} {cd : Value} {m : Str → Option Value} {s : Shared} {Q : Flow → Shared → Prop} {E : Value → Shared → Prop}
   (cB : Below callerA base [] base) (cX : (Mine.hd.heap_39 w.params).In base) (cT : Top Mine.hd.view_39 loose mean mg mb base) (hE : PassesOwn (model PP w) (lawA L fa cd) (lawEnv L fa cd) E)
   {o1 o2 o3 o4 o5 o6 o7 : Obj} {ns : List (Addr × Obj)} (hns : ∀ p ∈ ns, (Off7 L p.1))
   {l lb lo : Addr} {fr gr ct b0 b1 b2 w0 w1 w2 : Int} {tf tg tc u0 u1 u2 v0 v1 v2 : Tok} {x0 x1 x2 x3 x4 x5 : Int} {z0 z1 z2 z3 z4 z5 : Tok} {n : Nat} (hl : (Off7 L l)) (hlo : (Off7 L lo)) (hlb : (Off7 L lb)) (f0 : 0 ≤ fr) (f1 : fr ≤ 3) (g0 : 1 ≤ gr) (g1 : gr ≤ 50) (hB : BT b0 b1 b2) (a0 : 0 ≤ w0) (a1 : w0 < b0) (c0 : 0 ≤ w1) (c1 : w1 < b1) (e0 : 0 ≤ w2) (e1 : w2 < b2) (g2 : 0 ≤ x2) (g3 : 0 ≤ x3) (g4 : 0 ≤ x4) (hc0 : 0 ≤ ct) (hn : ct ≤ fr) (hm : fr ≤ ct + 2) (hpos : 0 < s.toks)
   (cF : Fr base L s.heap (fun y => if y = Str.ofString "count" then some (.int ct tc) else if y = Str.ofString "own" then some (.ref lo) else m y)) (cN : News base L s.heap ((lo, LCg.lst [.int w0 v0, .int w1 v1, .int w2 v2]) :: (lb, LCg.lst [.int b0 u0, .int b1 u1, .int b2 u2]) :: (l, listOf #[.int x0 z0, .int x1 z1, .int x2 z2, .int x3 z3, .int x4 z4, .int x5 z5] n) :: (L + 1 + 1 + 1 + 1 + 1 + 1 + 1, o7) :: (L + 1 + 1 + 1 + 1 + 1 + 1, o6) :: (L + 1 + 1 + 1 + 1 + 1, o5) :: (L + 1 + 1 + 1 + 1, o4) :: (L + 1 + 1 + 1, o3) :: (L + 1 + 1, o2) :: (L + 1, o1) :: ns))
   (d1 : o1.data = .cell (some (.ref l))) (d2 : o2.data = .cell (some (.ref lb))) (d3 : o3.data = .cell (some (.int fr tf))) (d4 : o4.data = .cell (some (.int gr tg))) (d5 : o5.data = .cell (none)) (d6 : o6.data = .cell (none)) (d7 : o7.data = .cell (none))
   (hret : ∀ (m' : Str → Option Value) (h' : Heap) (tk' : Nat) (nw : List (Addr × Obj)), Fr base L h' m' → News base L h' nw → Q (.ret (.bool true)) { s with heap := h', toks := tk' }) :
   wpC (model PP w) (lawA L fa cd) (execs [st 7, st 8, st 9, st 10, st 11, st 12, st 13, st 14, st 15, st 16, st 17, st 18, st 19, st 20, st 21, st 22] (lawEnv L fa cd)) Q E s := by
  have hns1 := hall_cons (P := fun p => (Off7 L p.1)) (a := (lo, LCg.lst [.int w0 v0, .int w1 v1, .int w2 v2])) hlo (hall_cons (P := fun p => (Off7 L p.1)) (a := (lb, LCg.lst [.int b0 u0, .int b1 u1, .int b2 u2])) hlb hns)
  obtain ⟨b0a, b0b, b1a, b1b, b2a, b2b⟩ := bt_two hB
  have w0b := le2 a1 b0b
  have w1b := le2 c1 b1b
  have w2b := le2 e1 b2b
  have N0 : News base L s.heap ((l, listOf #[.int x0 z0, .int x1 z1, .int x2 z2, .int x3 z3, .int x4 z4, .int x5 z5] n) :: (L + 1 + 1 + 1 + 1 + 1 + 1 + 1, o7) :: (L + 1 + 1 + 1 + 1 + 1 + 1, o6) :: (L + 1 + 1 + 1 + 1 + 1, o5) :: (L + 1 + 1 + 1 + 1, o4) :: (L + 1 + 1 + 1, o3) :: (L + 1 + 1, o2) :: (L + 1, o1) :: (lo, LCg.lst [.int w0 v0, .int w1 v1, .int w2 v2]) :: (lb, LCg.lst [.int b0 u0, .int b1 u1, .int b2 u2]) :: ns) := news_drop cN (by (repeat (refine sub_cons (by repeat (first | exact List.Mem.head _ | refine List.Mem.tail _ ?_)) ?_)); exact fun p hp => by repeat (first | exact hp | refine List.Mem.tail _ ?_))
  have tail : ∀ (m1 : Str → Option Value) (h1 : Heap) (t1 : Nat) (lf : Addr) (fs : List Form) (ns' : List (Addr × Obj)), (∀ p ∈ ns', (Off7 L p.1)) → (lf, formsO fs fs.length) ∈ ns' → (∀ x ∈ fs, x.In ns') → ct = (fs.length : Int) → (∀ x ∈ fs, (-4 ≤ x.b ∧ x.b ≤ 4) ∧ (-7 ≤ x.f ∧ x.f ≤ 7)) →
      (∀ p ∈ (lo, LCg.lst [.int w0 v0, .int w1 v1, .int w2 v2]) :: (lb, LCg.lst [.int b0 u0, .int b1 u1, .int b2 u2]) :: ns, p ∈ ns') → Fr base L h1 (fun y => if y = Str.ofString "forms" then some (.ref lf) else if y = Str.ofString "count" then some (.int ct tc) else if y = Str.ofString "own" then some (.ref lo) else m1 y) → News base L h1 ((l, listOf #[.int x0 z0, .int x1 z1, .int x2 z2, .int x3 z3, .int x4 z4, .int x5 z5] n) :: (L + 1 + 1 + 1 + 1 + 1 + 1 + 1, o7) :: (L + 1 + 1 + 1 + 1 + 1 + 1, o6) :: (L + 1 + 1 + 1 + 1 + 1, o5) :: (L + 1 + 1 + 1 + 1, o4) :: (L + 1 + 1 + 1, o3) :: (L + 1 + 1, o2) :: (L + 1, o1) :: ns') → s.toks ≤ t1 →
      wpC (model PP w) (lawA L fa cd) (execs [st 8, st 9, st 10, st 11, st 12, st 13, st 14, st 15, st 16, st 17, st 18, st 19, st 20, st 21, st 22] (lawEnv L fa cd)) Q E { s with heap := h1, toks := t1 } := by
    intro m1 h1 t1 lf fs ns' hns' hlf hin hct hbd hsub F1 N1 hle
    have hpos1 := Nat.lt_of_lt_of_le hpos hle
    clear hle
    have N2 : News base L h1 ((lo, LCg.lst [.int w0 v0, .int w1 v1, .int w2 v2]) :: (lb, LCg.lst [.int b0 u0, .int b1 u1, .int b2 u2]) :: (L + 1 + 1 + 1 + 1 + 1 + 1 + 1, o7) :: (L + 1 + 1 + 1 + 1 + 1 + 1, o6) :: (L + 1 + 1 + 1 + 1 + 1, o5) :: (L + 1 + 1 + 1 + 1, o4) :: (L + 1 + 1 + 1, o3) :: (L + 1 + 1, o2) :: (L + 1, o1) :: ns') := news_drop N1 (sub_cons (.tail _ (.tail _ (.tail _ (.tail _ (.tail _ (.tail _ (.tail _ (.tail _ (hsub _ (.head _)))))))))) (sub_cons (.tail _ (.tail _ (.tail _ (.tail _ (.tail _ (.tail _ (.tail _ (.tail _ (hsub _ (.tail _ (.head _))))))))))) (by (repeat (refine sub_cons (by repeat (first | exact List.Mem.head _ | refine List.Mem.tail _ ?_)) ?_)); exact fun p hp => by repeat (first | exact hp | refine List.Mem.tail _ ?_))))
    have hns2 := hall_cons (P := fun p => (Off7 L p.1)) (a := (lb, LCg.lst [.int b0 u0, .int b1 u1, .int b2 u2])) hlb hns'
    with_reducible refine wpC_execsCons (wpC.of (wpAny_toks (s8 (s := { s with heap := h1, toks := t1 }) cB cX cT hE hns2 hlo a0 w0b c0 w1b e0 w2b F1 (news_drop N2 (by k_dflt ((repeat (refine sub_cons (by repeat (first | exact List.Mem.head _ | refine List.Mem.tail _ ?_)) ?_)); exact fun p hp => by repeat (first | exact hp | refine List.Mem.tail _ ?_))) : News base L h1 ((lo, LCg.lst [.int w0 v0, .int w1 v1, .int w2 v2]) :: (L + 1 + 1 + 1 + 1 + 1 + 1 + 1, o7) :: (L + 1 + 1 + 1 + 1 + 1 + 1, o6) :: (L + 1 + 1 + 1 + 1 + 1, o5) :: (L + 1 + 1 + 1 + 1, o4) :: (L + 1 + 1 + 1, o3) :: (L + 1 + 1, o2) :: (L + 1, o1) :: (lb, LCg.lst [.int b0 u0, .int b1 u1, .int b2 u2]) :: ns')) d1 d2 d3 d4 d5 d6 d7 ?_)))
    intro m2 h2 t2 tz F2 N3 hle
    have hpos2 := Nat.lt_of_lt_of_le hpos1 hle
    exact j9 (s := { s with heap := h2, toks := t2 }) cB cX cT hE hns' hlo hlb f0 f1 g0 g1 hB a0 a1 c0 c1 e0 e1 hct hn hm hbd hlf hin rfl hpos2 F2 (news_drop N3 (by (repeat (refine sub_cons (by repeat (first | exact List.Mem.head _ | refine List.Mem.tail _ ?_)) ?_)); exact fun p hp => by repeat (first | exact hp | refine List.Mem.tail _ ?_))) d1 d2 d3 d4 d5 d6 d7 hret
  have hc := ct4 hc0 hn f1
  rcases hc with rfl | rfl | rfl | rfl
  · with_reducible refine wpC_execsCons (wpC.of (wpAny_toks (s7_0 cB cX cT hE hns1 hl g2 g3 g4 cF N0 d1 d2 d3 d4 d5 d6 d7 ?_)))
    intro m1 h1 t1 lf fs ns' hns' hlf hin hmap hsub F1 N1 hle
    have hlen : fs.length = 0 := by have := congrArg List.length hmap; rw [List.length_map] at this; exact this
    refine tail m1 h1 t1 lf fs ns' hns' (by rw [hlen]; exact hlf) hin (by rw [hlen]; rfl) (form_bd hmap forall_nil) hsub F1 N1 hle
  · with_reducible refine wpC_execsCons (wpC.of (wpAny_toks (s7_1 cB cX cT hE hns1 hl g2 g3 g4 cF N0 d1 d2 d3 d4 d5 d6 d7 ?_)))
    intro m1 h1 t1 lf fs ns' hns' hlf hin hmap hsub F1 N1 hle
    have hlen : fs.length = 1 := by have := congrArg List.length hmap; rw [List.length_map] at this; exact this
    refine tail m1 h1 t1 lf fs ns' hns' (by rw [hlen]; exact hlf) hin (by rw [hlen]; rfl) (form_bd hmap (forall_cons (tri_bd x2) forall_nil)) hsub F1 N1 hle
  · with_reducible refine wpC_execsCons (wpC.of (wpAny_toks (s7_2 cB cX cT hE hns1 hl g2 g3 g4 cF N0 d1 d2 d3 d4 d5 d6 d7 ?_)))
    intro m1 h1 t1 lf fs ns' hns' hlf hin hmap hsub F1 N1 hle
    have hlen : fs.length = 2 := by have := congrArg List.length hmap; rw [List.length_map] at this; exact this
    refine tail m1 h1 t1 lf fs ns' hns' (by rw [hlen]; exact hlf) hin (by rw [hlen]; rfl) (form_bd hmap (forall_cons (tri_bd x2) (forall_cons (tri_bd x3) forall_nil))) hsub F1 N1 hle
  · with_reducible refine wpC_execsCons (wpC.of (wpAny_toks (s7_3 cB cX cT hE hns1 hl g2 g3 g4 cF N0 d1 d2 d3 d4 d5 d6 d7 ?_)))
    intro m1 h1 t1 lf fs ns' hns' hlf hin hmap hsub F1 N1 hle
    have hlen : fs.length = 3 := by have := congrArg List.length hmap; rw [List.length_map] at this; exact this
    refine tail m1 h1 t1 lf fs ns' hns' (by rw [hlen]; exact hlf) hin (by rw [hlen]; rfl) (form_bd hmap (forall_cons (tri_bd x2) (forall_cons (tri_bd x3) (forall_cons (tri_bd x4) forall_nil)))) hsub F1 N1 hle
theorem bt_of (x : Int) : BT (if (0 : Int) = x.fmod 3 then 3 else 2) (if (1 : Int) = x.fmod 3 then 3 else 2) (if (2 : Int) = x.fmod 3 then 3 else 2) := by
  obtain ⟨h0, h1⟩ := fmod_nn (x := x) (c := 3) (by decide)
  have : x.fmod 3 = 0 ∨ x.fmod 3 = 1 ∨ x.fmod 3 = 2 := by omega
  unfold BT
  rcases this with h | h | h <;> rw [h] <;> decide
theorem ct_facts {fr x : Int} (f0 : 0 ≤ fr) (f1 : fr ≤ 3) : 0 ≤ (if fr - [0, 0, 1, 2].getD (x.fmod 4).toNat 0 > 0 then fr - [0, 0, 1, 2].getD (x.fmod 4).toNat 0 else 0) ∧ (if fr - [0, 0, 1, 2].getD (x.fmod 4).toNat 0 > 0 then fr - [0, 0, 1, 2].getD (x.fmod 4).toNat 0 else 0) ≤ fr ∧ fr ≤ (if fr - [0, 0, 1, 2].getD (x.fmod 4).toNat 0 > 0 then fr - [0, 0, 1, 2].getD (x.fmod 4).toNat 0 else 0) + 2 := by
  obtain ⟨h0, h1⟩ := fmod_nn (x := x) (c := 4) (by decide)
  have : x.fmod 4 = 0 ∨ x.fmod 4 = 1 ∨ x.fmod 4 = 2 ∨ x.fmod 4 = 3 := by omega
  have k : ([0, 0, 1, 2] : List Int).getD (x.fmod 4).toNat 0 = 0 ∨ ([0, 0, 1, 2] : List Int).getD (x.fmod 4).toNat 0 = 1 ∨ ([0, 0, 1, 2] : List Int).getD (x.fmod 4).toNat 0 = 2 := by
    rcases this with h | h | h | h <;> rw [h] <;> decide
  generalize ([0, 0, 1, 2] : List Int).getD (x.fmod 4).toNat 0 = c at k ⊢
  split <;> omega
theorem law_body {w : World} {loose : List Str} {mean : ExcName → Option Value} {mg mb : Str → Option Value} {base : Heap} {L fa : Addr} {cd : Value} {m : Str → Option Value} {s : Shared} {Q : Flow → Shared → Prop} {E : Value → Shared → Prop}
   (cB : Below callerA base [] base) (cX : (Mine.hd.heap_39 w.params).In base) (cT : Top Mine.hd.view_39 loose mean mg mb base) (hE : PassesOwn (model PP w) (lawA L fa cd) (lawEnv L fa cd) E)
   {o1 o2 o3 o4 o5 o6 o7 : Obj} {la : Addr} {its : List Value} {xs : List Int} (hL : base.IsList la its.toArray) (hI : IntsAre its xs) (hlen : xs.length ≤ 63)
   (cF : Fr base L s.heap (fun y => if y = Str.ofString "script" then some (.ref la) else m y)) (cN : News base L s.heap ((L + 1 + 1 + 1 + 1 + 1 + 1 + 1, o7) :: (L + 1 + 1 + 1 + 1 + 1 + 1, o6) :: (L + 1 + 1 + 1 + 1 + 1, o5) :: (L + 1 + 1 + 1 + 1, o4) :: (L + 1 + 1 + 1, o3) :: (L + 1 + 1, o2) :: (L + 1, o1) :: []))
   (d1 : o1.data = .cell none) (d2 : o2.data = .cell none) (d3 : o3.data = .cell none) (d4 : o4.data = .cell none) (d5 : o5.data = .cell none) (d6 : o6.data = .cell none) (d7 : o7.data = .cell none)
   (hret : ∀ (m' : Str → Option Value) (h' : Heap) (tk' : Nat) (nw : List (Addr × Obj)), Fr base L h' m' → News base L h' nw → Q (.ret (.bool true)) { s with heap := h', toks := tk' }) :
   wpC (model PP w) (lawA L fa cd) (execs [st 0, st 1, st 2, st 3, st 4, st 5, st 6, st 7, st 8, st 9, st 10, st 11, st 12, st 13, st 14, st 15, st 16, st 17, st 18, st 19, st 20, st 21, st 22] (lawEnv L fa cd)) Q E s := by
  have hnil : ∀ p ∈ ([] : List (Addr × Obj)), (Off7 L p.1) := fun _ h => nomatch h
  with_reducible refine wpC_execsCons (wpC.of (s0 cB cX cT hE hnil cF cN d1 d2 d3 d4 d5 d6 d7 ?_))
  intro m1 h1 k1 o1 l n t0 t1 t2 t3 t4 t5 hl hnl hpos d1 F1 N1
  with_reducible refine wpC_execsCons (wpC.of (wpAny_toks (s1 (s := { s with heap := h1, toks := k1 }) cB cX cT hE hnil hl hnl hL hI hlen F1 N1 d1 d2 d3 d4 d5 d6 d7 ?_)))
  intro m2 h2 k2 x0 x1 x2 x3 x4 x5 z0 z1 z2 z3 z4 z5 p0 p1 p2 p3 p4 p5 F2 N2 hle
  have hpos := Nat.lt_of_lt_of_le hpos hle
  clear hle F1 N1
  with_reducible refine wpC_execsCons (wpC.of (wpAny_toks (s2 (s := { s with heap := h2, toks := k2 }) cB cX cT hE hnil hl F2 N2 d1 d2 d3 d4 d5 d6 d7 ?_)))
  intro m3 h3 k3 o2 lb u0 u1 u2 hlb d2 F3 N3 hle
  have hpos := Nat.lt_of_lt_of_le hpos hle
  clear hle F2 N2
  have hB := bt_of x0
  generalize (if (0 : Int) = x0.fmod 3 then (3 : Int) else 2) = b0 at hB N3
  generalize (if (1 : Int) = x0.fmod 3 then (3 : Int) else 2) = b1 at hB N3
  generalize (if (2 : Int) = x0.fmod 3 then (3 : Int) else 2) = b2 at hB N3
  obtain ⟨b0a, b0b, b1a, b1b, b2a, b2b⟩ := bt_two hB
  have hns1 := hall_cons (P := fun p => (Off7 L p.1)) (a := (lb, LCg.lst [.int b0 u0, .int b1 u1, .int b2 u2])) hlb hnil
  with_reducible refine wpC_execsCons (wpC.of (wpAny_toks (s3 (s := { s with heap := h3, toks := k3 }) cB cX cT hE hns1 hl F3 (news_drop N3 (by k_dflt ((repeat (refine sub_cons (by repeat (first | exact List.Mem.head _ | refine List.Mem.tail _ ?_)) ?_)); exact fun p hp => by repeat (first | exact hp | refine List.Mem.tail _ ?_))) : News base L h3 ((l, listOf #[.int x0 z0, .int x1 z1, .int x2 z2, .int x3 z3, .int x4 z4, .int x5 z5] n) :: (L + 1 + 1 + 1 + 1 + 1 + 1 + 1, o7) :: (L + 1 + 1 + 1 + 1 + 1 + 1, o6) :: (L + 1 + 1 + 1 + 1 + 1, o5) :: (L + 1 + 1 + 1 + 1, o4) :: (L + 1 + 1 + 1, o3) :: (L + 1 + 1, o2) :: (L + 1, o1) :: (lb, LCg.lst [.int b0 u0, .int b1 u1, .int b2 u2]) :: [])) d1 d2 d3 d4 d5 d6 d7 ?_)))
  intro m4 h4 k4 o3 tf d3 F4 N4 hle
  have hpos := Nat.lt_of_lt_of_le hpos hle
  clear hle F3 N3
  obtain ⟨f0, f1⟩ := fr_bd (x0.fdiv 3)
  generalize 3 - (x0.fdiv 3).fmod 4 = fr at d3 f0 f1
  with_reducible refine wpC_execsCons (wpC.of (wpAny_toks (s4 (s := { s with heap := h4, toks := k4 }) cB cX cT hE hns1 hl F4 N4 d1 d2 d3 d4 d5 d6 d7 ?_)))
  intro m5 h5 k5 o4 tg d4 F5 N5 hle
  have hpos := Nat.lt_of_lt_of_le hpos hle
  clear hle F4 N4
  obtain ⟨g0, g1⟩ := gr_bd (x0.fdiv 12)
  generalize 1 + (x0.fdiv 12).fmod 50 = gr at d4 g0 g1
  with_reducible refine wpC_execsCons (wpC.of (wpAny_toks (s5 (s := { s with heap := h5, toks := k5 }) cB cX cT hE hnil hl hlb b0a b0b b1a b1b b2a b2b F5 (news_drop N5 (by k_dflt ((repeat (refine sub_cons (by repeat (first | exact List.Mem.head _ | refine List.Mem.tail _ ?_)) ?_)); exact fun p hp => by repeat (first | exact hp | refine List.Mem.tail _ ?_))) : News base L h5 ((lb, LCg.lst [.int b0 u0, .int b1 u1, .int b2 u2]) :: (l, listOf #[.int x0 z0, .int x1 z1, .int x2 z2, .int x3 z3, .int x4 z4, .int x5 z5] n) :: (L + 1 + 1 + 1 + 1 + 1 + 1 + 1, o7) :: (L + 1 + 1 + 1 + 1 + 1 + 1, o6) :: (L + 1 + 1 + 1 + 1 + 1, o5) :: (L + 1 + 1 + 1 + 1, o4) :: (L + 1 + 1 + 1, o3) :: (L + 1 + 1, o2) :: (L + 1, o1) :: [])) d1 d2 d3 d4 d5 d6 d7 ?_)))
  intro m6 h6 k6 lo v0 v1 v2 hlo F6 N6 hle
  have hpos := Nat.lt_of_lt_of_le hpos hle
  clear hle F5 N5
  obtain ⟨q0, q1⟩ := fmod_nn (x := x1) (c := b0) (pos_of2 b0a)
  obtain ⟨q2, q3⟩ := fmod_nn (x := x1.fdiv 6) (c := b1) (pos_of2 b1a)
  obtain ⟨q4, q5⟩ := fmod_nn (x := x1.fdiv 36) (c := b2) (pos_of2 b2a)
  generalize x1.fmod b0 = w0 at q0 q1 N6
  generalize (x1.fdiv 6).fmod b1 = w1 at q2 q3 N6
  generalize (x1.fdiv 36).fmod b2 = w2 at q4 q5 N6
  have hns2 := hall_cons (P := fun p => (Off7 L p.1)) (a := (lo, LCg.lst [.int w0 v0, .int w1 v1, .int w2 v2])) hlo hns1
  with_reducible refine wpC_execsCons (wpC.of (wpAny_toks (s6 (s := { s with heap := h6, toks := k6 }) cB cX cT hE hns2 hl p5 F6 (news_drop N6 (by k_dflt ((repeat (refine sub_cons (by repeat (first | exact List.Mem.head _ | refine List.Mem.tail _ ?_)) ?_)); exact fun p hp => by repeat (first | exact hp | refine List.Mem.tail _ ?_))) : News base L h6 ((l, listOf #[.int x0 z0, .int x1 z1, .int x2 z2, .int x3 z3, .int x4 z4, .int x5 z5] n) :: (L + 1 + 1 + 1 + 1 + 1 + 1 + 1, o7) :: (L + 1 + 1 + 1 + 1 + 1 + 1, o6) :: (L + 1 + 1 + 1 + 1 + 1, o5) :: (L + 1 + 1 + 1 + 1, o4) :: (L + 1 + 1 + 1, o3) :: (L + 1 + 1, o2) :: (L + 1, o1) :: (lo, LCg.lst [.int w0 v0, .int w1 v1, .int w2 v2]) :: (lb, LCg.lst [.int b0 u0, .int b1 u1, .int b2 u2]) :: [])) d1 d2 d3 d4 d5 d6 d7 ?_)))
  intro m7 h7 k7 tc F7 N7 hle
  have hpos := Nat.lt_of_lt_of_le hpos hle
  clear hle F6 N6
  obtain ⟨hc0, hn, hm⟩ := ct_facts (x := x5) f0 f1
  exact j7 (s := { s with heap := h7, toks := k7 }) cB cX cT hE hnil hl hlo hlb f0 f1 g0 g1 hB q0 q1 q2 q3 q4 q5 p2 p3 p4 hc0 hn hm hpos F7 (news_drop N7 (by (repeat (refine sub_cons (by repeat (first | exact List.Mem.head _ | refine List.Mem.tail _ ?_)) ?_)); exact fun p hp => by repeat (first | exact hp | refine List.Mem.tail _ ?_))) d1 d2 d3 d4 d5 d6 d7 hret
end Mine
end
section
open _root_.PySem _root_.PySem.W _root_.PySem.W.X _root_.PySem.Calls _root_.PyProof.Rows
set_option Elab.async false
set_option maxRecDepth 100000
set_option maxHeartbeats 0
namespace Mine
local macro_rules | `(tactic| walk_at "none") => `(tactic| skip)
theorem rs109 : True := by w_top off; trivial
theorem codeC_cellsN {prog : Program} {w : World} {A : Around} {R : Result → Shared → Prop} {s : Shared} {name : Str} {params : Arguments} {body : List Stmt} {scope : Scope}
    {pm cd doc : Value} {a : Addr} {o : Obj} {args : List Value} {binds : List (Str × Value)}
    (hroom : A.depth < recursionLimit) (ho : s.heap.get? a = some o) (hdata : o.data = .func (Calls.docDef name params body scope pm cd doc)) (hlim : s.heap.NoLimit) (hcd : s.heap.CodeRec cd name)
    (hbind : bindArgs (Calls.docDef name params body scope pm cd doc) ⟨args, []⟩ = pure binds)
    (hkind : ∀ x ∈ binds, scope.names.lookup x.1 = some .local ∨ (scope.names.lookup x.1 = some .cell ∧ ((cellsFrom (s.heap.objs.size + 1) scope.names []).lookup x.1).isSome = true))
    (hnd : ((cellsFrom 0 scope.names []).map (·.1)).Nodup)
    (h : ∀ h₁ tk cells, Fr s.heap s.heap.objs.size h₁ (bindL (envOfC name scope s.heap.objs.size a cd).kindOf binds fun _ => none) → News s.heap s.heap.objs.size h₁ cells →
      CellsAre (bindC (envOfC name scope s.heap.objs.size a cd).kindOf binds fun _ => none) (cellsFrom (s.heap.objs.size + 1) scope.names []) cells →
      wpC (model prog w) (A.deeper (envOfC name scope s.heap.objs.size a cd)) (execs body (envOfC name scope s.heap.objs.size a cd))
        (fun f s' => R (.ok (.ret (match f with | .ret v => v | _ => .none))) s')
        (fun e s' => wpAny (model prog w) (A.deeper (envOfC name scope s.heap.objs.size a cd)) (leaving (envOfC name scope s.heap.objs.size a cd) e)
          (fun _ s'' => R (.error e) s'') (fun e' s'' => R (.error e') s'') s')
        { s with heap := h₁, toks := tk })
    (hco : scope.isCoroutine = false := by rfl) (hgen : scope.isGenerator = false := by rfl) (hk : scope.kind = .function := by rfl) :
    codeC (model prog w) A (.call (.ref a) ⟨args, []⟩) R s := by
  refine codeC.callFunction (fd := Calls.docDef name params body scope pm cd doc) hroom ho hdata hco hgen rfl hcd ?_
  rw [hbind]
  refine wpAny_pure (wpAny_newFunctionEnv_cells hk hkind fun env he s' X => ?_)
  subst he
  obtain ⟨h₁, tk, rfl, _⟩ := X.done
  refine ⟨hlim.keeps X.toInCall.keep, codeC.func ?_⟩
  obtain ⟨cells, N, Y⟩ := Cl.news (h₀ := s.heap) (Nat.le_refl _) fun n c hm => ⟨X.cell n c (lookup_of_mem_nodup (cellsFrom_names scope.names 0 (s.heap.objs.size + 1) [] [] rfl ▸ hnd) hm), X.above n c hm⟩
  exact h h₁ tk cells ⟨X.toInCall.ns, X.toInCall.keep, X.toInCall.fresh⟩ N Y
theorem lawBody_eq : lawBody = [st 0, st 1, st 2, st 3, st 4, st 5, st 6, st 7, st 8, st 9, st 10, st 11, st 12, st 13, st 14, st 15, st 16, st 17, st 18, st 19, st 20, st 21, st 22] := by rfl
theorem enter_callC {M : Model} {A : Around} {s : Shared} {f : Value} {pos : List Value} {c : ClaimW} {cl : Str → Option Addr} {mean : ExcName → Option Value} {args : List WData} {s₁ : Shared}
    (h : codeC M A (.call f ⟨pos, []⟩) (GoodWG c cl mean args s₁) s) : wpC M A (PySem.call f pos) (fun v s' => GoodWG c cl mean args s₁ (.ok (.ret v)) s') (fun e s' => GoodWG c cl mean args s₁ (.error e) s') s :=
  wpC.call (codeC.mono h fun res s' g => by rcases g.1 with ⟨v, _, _, rfl, _⟩ | ⟨e, _, _, rfl, _⟩ <;> exact g)
theorem law_holds : PySem.Challenge.rw_zo0015_01.Holds := Mine.hd (by
  k_fill
  intro w s₀ s₁ mg mb G Y fa o pm cd doc dV kV ho hd hcd hD hmg hg args vals as hpre hlay hrd hwl hlo
  have KX := kIn_of Y
  have X := (Ground.X G).1
  have V := (Ground.X G).2
  refine Ground.open G ?_
  intro T B D TE TW
  clear hmg
  wrow_args hpre hlay hrd hwl hlo
  refine enter_callC ?_
  have he := Dflts.none hD rfl; subst he; have he := Dflts.noKw hD; subst he
  refine codeC_cellsN (by decide) ho (fd_plain hd) (Top.nolimit T) hcd rfl (kinds_of (by kinds_ok)) (by decide) fun h₁ tk₁ cells F N0 X0 => ?_
  cells_open X0
  have hbt : lawBody = [st 0, st 1, st 2, st 3, st 4, st 5, st 6, st 7, st 8, st 9, st 10, st 11, st 12, st 13, st 14, st 15, st 16, st 17, st 18, st 19, st 20, st 21, st 22] := lawBody_eq
  rename_i xs _ _ _ _ _ _ _ la its _ hL _ _ _ hI _ hc _ c7 c6 c5 c4 c3 c2 c1 d7 d6 d5 d4 d3 d2 d1
  have hlen : xs.length ≤ 63 := by omega
  have F1 : Fr s₁.heap s₁.heap.objs.size h₁ (fun y => if y = Str.ofString "script" then some (.ref la) else _) := Fr.put (Str.ofString "script") F rfl
  have fin := law_body (w := w) (base := s₁.heap) (L := s₁.heap.objs.size) (fa := fa) (cd := cd) (s := { s₁ with heap := h₁, toks := tk₁ })
    (Q := fun f s' => GoodWG Challenge.rw_zo0015_01.row.claim (classAt s₀.heap) (ExcName.means s₀.heap) [ofPy (PyData.list (List.map PyData.int xs))] s₁ (.ok (.ret (match f with | .ret v => v | _ => .none))) s')
    (E := fun e s' => wpAny (model PP w) (lawA s₁.heap.objs.size fa cd) (leaving (lawEnv s₁.heap.objs.size fa cd) e) (fun _ s'' => GoodWG Challenge.rw_zo0015_01.row.claim (classAt s₀.heap) (ExcName.means s₀.heap) [ofPy (PyData.list (List.map PyData.int xs))] s₁ (.error e) s'') (fun e' s'' => GoodWG Challenge.rw_zo0015_01.row.claim (classAt s₀.heap) (ExcName.means s₀.heap) [ofPy (PyData.list (List.map PyData.int xs))] s₁ (.error e') s'') s')
    (below_caller (Top.heap T)) KX T (by passes_own) hL hI hlen F1 N0 d1 d2 d3 d4 d5 d6 d7
    (fun m' h' tk' nw F' N' => GoodW.toG (goodW_bool F' hg (fun _ => rfl) (postW_of (by wrow_shape) (by wtm_val) (by first | rfl | decide | trace_state))))
  rw [← hbt] at fin
  exact fin)
end Mine
end
end Mine
open PySem PySem.W PyProof.Rows
theorem PySem.Challenge.cw_zo0015_01_holds : PySem.Challenge.rw_zo0015_01.Holds :=
  Mine.Mine.law_holds
