import PyProof.Rows.All
import Wide.All
import OpenK.AllK
import Wide.FinOn
import Flt.RightMore
import Flt.Canon
import Lean
import PySem.Challenge.RW_aq6042_01
set_option Elab.async false

section
open PySem PySem.W PyProof.Rows PySem.Spec PySem.Calls
open PySem.Sem (wp)
namespace Mine
/-! ### a logic with the context in hand: what lies on the stack is known -/
def badIds : List String := ["bytearray.__contains__", "bytearray.__mod__", "bytearray.__rmod__", "_struct.pack_into.held", "bytearray.find.held"] ++ Builtin.Bytes.decodersThatHold
def badCode : Code → Bool
  | .builtin id _ => badIds.contains id
  | _ => false
def Clean (l : List (Code × Pos)) : Prop := ∀ x ∈ l, badCode x.1 = false

section
variable {α β : Type} {M : Model} {Γ : PySem.Ctx} {A : Around} {E : Value → Shared → Prop} {s : Shared}
def wpG (M : Model) (Γ : PySem.Ctx) (t : Sem α) (Q : α → Shared → Prop) (E : Value → Shared → Prop) (s : Shared) : Prop :=
  ∀ p, wp M Γ t (fun a _ s' => Q a s') (fun e _ s' => E e s') p s
def codeG (M : Model) (Γ : PySem.Ctx) (R : Result → Shared → Prop) (s : Shared) : Prop := ∀ p, wpCode M Γ R p s
structure GIn (Γ : PySem.Ctx) (A : Around) : Prop where
  inn : Γ.In A
  clean : Clean ((Γ.code, default) :: Γ.below)
structure GBelow (Γ : PySem.Ctx) (A : Around) : Prop where
  below : Γ.Below A
  clean : Clean Γ.below

theorem G_of_any {t : Sem α} {Q : α → Shared → Prop} (h : Γ.In A) (w : wpAny M A t Q E s) : wpG M Γ t Q E s := fun p => w Γ p h
theorem G_mono {t : Sem α} {Q Q' : α → Shared → Prop} {E' : Value → Shared → Prop} (h : wpG M Γ t Q E s) (hQ : ∀ a s, Q a s → Q' a s) (hE : ∀ e s, E e s → E' e s) : wpG M Γ t Q' E' s :=
  fun p => Sem.wp_mono M Γ t (fun a _ s => hQ a s) (fun e _ s => hE e s) p s (h p)
theorem G_bind {m : Sem α} {f : α → Sem β} {Q : β → Shared → Prop} (h : wpG M Γ m (fun a s' => wpG M Γ (f a) Q E s') E s) : wpG M Γ (m >>= f) Q E s := fun p => by
  rw [Sem.wp_bind']
  exact Sem.wp_mono M Γ m (fun a p' s' h' => h' p') (fun _ _ _ h' => h') p s (h p)
theorem G_pure {a : α} {Q : α → Shared → Prop} (h : Q a s) : wpG M Γ (pure a) Q E s := fun _ => h
theorem G_holding {vs : List Value} {m : Sem α} {Q : α → Shared → Prop} (h : wpG M Γ m Q E s) : wpG M Γ (holding vs m) Q E s := fun p => by rw [Sem.wp_holding]; exact h p
theorem G_keep {vs : List Value} {m : Sem α} {Q : α → Shared → Prop} (h : wpG M Γ m Q E s) : wpG M Γ (m.keep vs) Q E s := fun p => by rw [Sem.wp_keep]; exact h p
theorem G_onRaise {m : Sem α} {k : Value → Sem Unit} {Q : α → Shared → Prop} (h : wpG M Γ m Q (fun e s' => wpG M Γ (k e) (fun _ s'' => E e s'') E s') s) : wpG M Γ (m.onRaise k) Q E s := fun p => by
  rw [Sem.wp_onRaise]
  exact Sem.wp_mono M Γ m (fun _ _ _ h' => h') (fun e p' s' h' => h' p') p s (h p)
/-- the same, where nothing is raised -/
theorem G_noRaise {m : Sem α} {k : Value → Sem Unit} {Q : α → Shared → Prop} (h : wpG M Γ m Q (fun _ _ => False) s) : wpG M Γ (m.onRaise k) Q E s :=
  G_onRaise (G_mono h (fun _ _ x => x) fun _ _ x => x.elim)
theorem G_standAt {pos : Pos} {Q : Unit → Shared → Prop} (h : Q () s) : wpG M Γ (standAt pos) Q E s := fun _ => h
theorem G_point {Q : Unit → Shared → Prop} (h : Q () s) : wpG M Γ point Q E s := fun _ => h
theorem G_rule {tag : String} {Q : Unit → Shared → Prop} (h : Q () s) : wpG M Γ (rule tag) Q E s := fun _ => h

theorem enter_below (h : GIn Γ A) (c : Code) (p : Pos) : GBelow (Γ.enter c none p) A := by
  refine ⟨h.inn.enter c none p (by intro x; cases x), fun x hx => ?_⟩
  rcases List.mem_cons.mp hx with rfl | hx
  · exact h.clean (Γ.code, default) (.head _)
  · exact h.clean x (.tail _ hx)
theorem below_in (h : GBelow Γ A) (hc : badCode Γ.code = false) : GIn Γ (A.under Γ.code) :=
  ⟨h.below.in, fun x hx => by
    rcases List.mem_cons.mp hx with rfl | hx
    · exact hc
    · exact h.clean x hx⟩
theorem goto_below (h : GBelow Γ A) (c : Code) : GBelow (Γ.goto c) A := ⟨h.below.goto c, h.clean⟩

theorem G_runValue {c : Code} {Q : Value → Shared → Prop} (h : ∀ p, codeG M (Γ.enter c none p) (fun r s' => match r with | .ok (.ret v) => Q v s' | .ok _ => False | .error e => E e s') s) :
    wpG M Γ (runValue c) Q E s := fun p => by rw [Sem.wp_runValue]; exact h p p
theorem G_call {f : Value} {pos : List Value} {kw : List (Str × Value)} {Q : Value → Shared → Prop}
    (h : ∀ p, codeG M (Γ.enter (.call f ⟨pos, kw⟩) none p) (fun r s' => match r with | .ok (.ret v) => Q v s' | .ok _ => False | .error e => E e s') s) :
    wpG M Γ (call f pos kw) Q E s := G_runValue h
theorem codeG_of_tree {R : Result → Shared → Prop}
    (h : wpG M Γ (M.den Γ.code) (fun fin s' => match fin with | .done f => R (.ok f) s' | .again c' => c'.quiet = true ∧ codeG M (Γ.goto c') R s') (fun e s' => R (.error e) s') s) : codeG M Γ R s := fun p => by
  rw [wpCode_iff_wp]
  refine Sem.wp_mono M Γ _ (fun fin p' s' h' => ?_) (fun _ _ _ h' => h') p s (h p)
  cases fin with
  | done f => exact h'
  | again c' => exact ⟨h'.1, h'.2 p'⟩
theorem codeG_mono {R R' : Result → Shared → Prop} (h : codeG M Γ R s) (hR : ∀ r s, R r s → R' r s) : codeG M Γ R' s := fun p => wpCode_mono hR (h p)
theorem codeG_of_any {R : Result → Shared → Prop} {c : Code} (hc : Γ.code = c) (h : Γ.Below A) (w : codeAny M A c R s) : codeG M Γ R s := fun p => w Γ p hc h

/-! statements -/
variable {env : Env}
theorem G_execs_cons {st rest} {Q : Flow → Shared → Prop} (h : wpG M Γ (exec st env) (fun f s' => match f with | .next => wpG M Γ (execs rest env) Q E s' | f => Q f s') E s) : wpG M Γ (execs (st :: rest) env) Q E s := fun p => by
  rw [execs_cons, Sem.wp_bind']
  refine Sem.wp_mono M Γ _ (fun f p' s' h' => ?_) (fun _ _ _ h' => h') _ _ (h p)
  cases f <;> first | exact h' p' | exact h'
theorem wp_execs_app {Q : Flow → Pos → Shared → Prop} {E : Value → Pos → Shared → Prop} {rest : List Stmt} : ∀ (l : List Stmt) (p : Pos) (s : Shared),
    wp M Γ (execs l env) (fun f p' s' => match f with | .next => wp M Γ (execs rest env) Q E p' s' | f => Q f p' s') E p s → wp M Γ (execs (l ++ rest) env) Q E p s
  | [], _, _, h => h
  | st :: l, p, s, h => by
    rw [execs_cons, Sem.wp_bind'] at h
    rw [List.cons_append, execs_cons, Sem.wp_bind']
    refine Sem.wp_mono M Γ _ (fun f p' s' h' => ?_) (fun _ _ _ h' => h') _ _ h
    cases f with
    | next => exact wp_execs_app l p' s' h'
    | _ => exact h'
/-- a body in two parts -/
theorem G_execs_app {l rest : List Stmt} {Q : Flow → Shared → Prop} (h : wpG M Γ (execs l env) (fun f s' => match f with | .next => wpG M Γ (execs rest env) Q E s' | f => Q f s') E s) : wpG M Γ (execs (l ++ rest) env) Q E s := fun p => by
  refine wp_execs_app l p s (Sem.wp_mono M Γ _ (fun f p' s' h' => ?_) (fun _ _ _ h' => h') _ _ (h p))
  cases f <;> first | exact h' p' | exact h'
theorem G_Assign_Name {x pos' value pos} {Q : Flow → Shared → Prop} (h : wpG M Γ (eval value env) (fun v s₁ => wpG M Γ (storeName env x v) (fun _ => Q .next) E s₁) E s)
    (hs : swapsWith value (some (.Name x pos')) pos.line env = pure false := by rfl) : wpG M Γ (exec (.Assign [.Name x pos'] value pos) env) Q E s := fun p => by
  simp only [exec_Assign_Name env x pos' value pos hs, Sem.wp_bind', Sem.wp_cmd_standAt, Sem.wp_bindName, Sem.wp_pure']
  exact Sem.wp_mono M Γ _ (fun v _ s₁ h₁ => h₁ _) (fun _ _ _ h' => h') _ _ (h _)
theorem G_Assign_Attribute {o attr pos' value pos} {Q : Flow → Shared → Prop} (h : wpG M Γ (eval value env) (fun v s₁ => wpG M Γ (eval o env) (fun ov s₂ => wpG M Γ (setAttr ov attr v) (fun _ => Q .next) E s₂) E s₁) E s)
    (hs : swapsWith value (some (.Attribute o attr pos')) pos.line env = pure false := by rfl) : wpG M Γ (exec (.Assign [.Attribute o attr pos'] value pos) env) Q E s := fun p => by
  simp only [plainObj_exec_Assign_Attribute o attr pos' value pos hs, assign_Attribute, Sem.wp_bind', Sem.wp_holding, Sem.wp_cmd_standAt, Sem.wp_release, Sem.wp_pure']
  exact Sem.wp_mono M Γ _ (fun v p₁ s₁ h₁ => Sem.wp_mono M Γ _ (fun ov _ s₂ h₂ => h₂ _) (fun _ _ _ h' => h') _ _ (h₁ p₁)) (fun _ _ _ h' => h') _ _ (h _)
theorem G_Expr {e pos} {Q : Flow → Shared → Prop} (h : wpG M Γ (eval e env) (fun v s' => match v with | .ref _ => False | _ => Q .next s') E s)
    (hi : interactive env = false := by rfl) (hs : swapsWith e none pos.line env = pure false := by rfl) : wpG M Γ (exec (.Expr e pos) env) Q E s := by
  rw [exec_Expr env e pos hi hs]
  refine G_bind (G_standAt (G_bind (G_mono h (fun v s' h' => ?_) fun _ _ x => x)))
  have hv : ∀ a, v ≠ .ref a := fun a hva => by subst hva; exact h'
  rw [dropValue_plain hv]
  refine G_pure ?_
  cases v <;> first | exact h' | exact (hv _ rfl).elim
end

section
variable {prog : Program} {w : World} {Γ : PySem.Ctx} {A : Around} {s : Shared} {R : Result → Shared → Prop}
theorem G_func {body env} (hc : Γ.code = .func body env) (h : wpG (model prog w) Γ (execs body env) (fun f s' => R (.ok (.ret (match f with | .ret v => v | _ => .none))) s') (fun _ _ => False) s) : codeG (model prog w) Γ R s := by
  refine codeG_of_tree ?_
  rw [hc]
  show wpG _ _ (do point; match ← (execs body env).onRaise (leaving env) with | .ret v => ret v | _ => ret .none) _ _ s
  refine G_bind (G_point (G_bind (G_noRaise (G_mono h (fun f s' h' => ?_) fun _ _ x => x))))
  cases f <;> exact G_pure h'
theorem func_in {body env} (h : GBelow Γ A) (hc : Γ.code = .func body env) : GIn Γ (A.deeper env) := by
  have := below_in h (by rw [hc]; rfl)
  rw [hc] at this
  exact this
theorem G_call_def {a : Addr} {args : Args} {o : Obj} {fd : FuncData} {body : List Stmt} (hc : Γ.code = .call (.ref a) args) (hB : GBelow Γ A) (hroom : A.depth < recursionLimit)
    (ho : s.heap.get? a = some o) (hd' : o.data = .func fd) (hco : fd.scope.isCoroutine = false) (hgen : fd.scope.isGenerator = false) (hbody : fd.body = .stmts body) (hcd : s.heap.CodeRec fd.code fd.qualname)
    (h : wpAny (model prog w) A.in1 (bindArgs fd args) (fun binds s₁ =>
      wpAny (model prog w) A.in1 (newFunctionEnv fd.scope fd.globals fd.closure binds (fd.qualname ++ ".<locals>.") (some a) fd.code none fd.builtins)
        (fun env s₂ => s₂.heap.NoLimit ∧ codeG (model prog w) (Γ.goto (.func body env)) R s₂) (fun _ _ => False) s₁) (fun _ _ => False) s) :
    codeG (model prog w) Γ R s := by
  have hin : Γ.In A.in1 := by
    have := (below_in hB (by rw [hc]; rfl)).inn
    rw [hc] at this
    exact this
  refine codeG_of_tree ?_
  rw [hc]
  refine G_of_any hin ?_
  show wpAny _ A.in1 (callAny (.ref a) args) _ _ s
  simp only [callAny]
  refine wpAny_bind (wpAny_load ho ?_)
  obtain ⟨c, oc, vs, tq, hc, hoc, hdc, hq⟩ := hcd
  simp only [hd', callFunction, hco, hgen, hbody, hc]
  rw [hc] at h
  refine wpAny_bind (m := field (.ref c) 1) (wpAny_field hoc hdc hq (wpAny_bind (wpAny_pure ?_)))
  exact wpAny_bind (wpAny_mono h (fun binds s₁ h₁ => wpAny_bind (wpAny_mono h₁ (fun env s₂ h₂ => wpAny_bind (wpAny_enterFrame h₂.1 hroom
    (wpAny_pure (And.intro rfl h₂.2)))) fun _ _ h' => h'.elim)) fun _ _ h' => h'.elim)
end
end Mine
end

section
open PySem PySem.W PyProof.Rows PySem.Spec PySem.Calls
open PySem.Sem (wp)
namespace Mine
/-- the caller's own context -/
def ctx0 : PySem.Ctx := ⟨.builtin "claim.caller" {}, none, none, [], none⟩
theorem ctx0_in : GIn ctx0 callerA := ⟨caller_in, fun x hx => by
  rcases List.mem_cons.mp hx with rfl | hx
  · decide +kernel
  · cases hx⟩

theorem ends_G {prog : Program} {w : World} {t : Sem Fin} {s : Shared} {R : Result → Shared → Prop} (hreg : s.asleep)
    (h : wpG (model prog w) ctx0 t (fun fin s' => ∃ f, fin = .done f ∧ (R (.ok f) s' ∧ leftWithCleanup s'.gens = false)) (fun e s' => R (.error e) s' ∧ leftWithCleanup s'.gens = false) s) :
    ∃ n r s' s'', runN (denote table) prog w n s ⟨t, .builtin "claim.caller" {}, default, []⟩ = .halted (outcomeOf r) s' ∧
      schedN (denote table) prog w n (.single s ⟨t, .builtin "claim.caller" {}, default, []⟩) = .halted (outcomeOf r) s' ∧ s'.forget = s''.forget ∧ R r s'' := by
  have h' : wp (model prog w) ctx0 t (Sem.finPost (model prog w) ctx0 (fun r s' => R r s' ∧ leftWithCleanup s'.gens = false)) (fun e _ s' => R (.error e) s' ∧ leftWithCleanup s'.gens = false) default s := by
    refine Sem.wp_mono (model prog w) ctx0 t (fun fin p' s' h' => ?_) (fun _ _ _ h' => h') default s (h default)
    obtain ⟨f, rfl, hf⟩ := h'
    exact hf
  obtain ⟨n, r, s₁, s₂, hs, hn, hfo, hR⟩ := wp_halts_full (M := model prog w) (R := R) hreg h'
  exact ⟨n, r, s₂, s₁, hn, hs, hfo, hR⟩

theorem callFrom_G {c : ClaimW} {tree : List Value → Sem Fin} {w : World} {s : Shared} {free : Addr → Prop} {gens : Prop} {kept : Heap → Prop} (hz : s.asleep) (hgens : s.gens = #[])
    (hspec : ∀ args, c.pre args = true → WData.layableAll args = true →
      ∀ ord : List DictEntry → List DictEntry, (∀ l, (ord l).Perm l) →
      ∃ vs s₁, layAllW c.records (classAt s.heap) w.params ord args s = some (vs, s₁) ∧
        wpG (model c.prog w) ctx0 (tree vs) (fun fin s' => ∃ f, fin = .done f ∧ (c.Ends s args vs s₁ (.ok f) s' ∧ s'.os = s.os ∧ AllBare s'.gens ∧ kept s'.heap))
          (fun e s' => c.Ends s args vs s₁ (.error e) s' ∧ s'.os = s.os ∧ AllBare s'.gens ∧ kept s'.heap) s₁) :
    c.CallFrom (fun vs => ⟨tree vs, .builtin "claim.caller" {}, default, []⟩) w free gens kept s := by
  intro args hpre hlay ord hord
  obtain ⟨vs, s₁, hlaid, hcode⟩ := hspec args hpre hlay ord hord
  have hal := layAllW_rest _ _ _ hlaid
  obtain ⟨k, r, s', s'', hrun, hsched, hfo, hcase, hos, hkp⟩ := ends_G (prog := c.prog) (w := w) (t := tree vs) (s := s₁)
    (R := fun r s' => c.Ends s args vs s₁ r s' ∧ s'.os = s.os ∧ kept s'.heap)
    (Shared.asleep_of_life hal.2.2.2 hz)
    (G_mono hcode (by
      rintro fin s' ⟨f, e, h1, h2, h3, h4⟩
      exact ⟨f, e, ⟨h1, h2, h4⟩, leftWithCleanup_false_of_bare h3⟩) (by
      rintro e s' ⟨h1, h2, h3, h4⟩
      exact ⟨⟨h1, h2, h4⟩, leftWithCleanup_false_of_bare h3⟩))
  obtain ⟨eh, _, _, eo, _⟩ := Shared.forget_eq hfo
  have hcase := hcase.congr eh
  have hkp : kept s'.heap := by first | exact eh ▸ hkp | (rw [eh] at hkp; exact hkp) | (rw [← eh] at hkp; exact hkp)
  rw [← eo] at hos
  have hlife : s'.heap.life = s.heap.life := (runN_life _ _ _ hrun).trans hal.2.2.2
  refine ⟨vs, s₁, hlaid, k, _, s', hsched, ?_, (fun _ i x hx => by rw [hgens] at hx; simp at hx), hkp, by rw [hlife], Shared.rest_eq hos⟩
  rcases hcase with ⟨v, rfl, d1, d2, d3, d4, d5⟩ | ⟨e, ob, cls, rfl, d1, d2, d3, d4, d5⟩
  · exact .inl ⟨v, rfl, d1, d2, d3, fun b o y _ => d4 b o y, d5⟩
  · exact .inr ⟨e, ob, cls, rfl, d1, d2, d3, d4, fun b o y _ => d5 b o y⟩

theorem open_G {r : RowW} {run : Value → List Value → Sem Value} {tree : List Value → Sem Fin} {q : Program} {loose defs kps : List Str} {writes : Bool} {Xt : Shared → Bool} {XP : (Str → Option Value) → Heap → Prop} {α : Type} {Yf : Shared → α} {Ya : World → α} {YP : World → Heap → Prop} {N : Nat}
    (left : LeftO r.prog q loose Xt Yf Ya N) (hY : ∀ w s, Yf s = Ya w → YP w s.heap) (hYk : ∀ w h h', YP w h → (∀ b o, h.get? b = some o → h'.get? b = some o) → YP w h') (hX : ∀ s, Xt s = true → XP (s.heap.nsMap mainGlobals) s.heap) (hXk : ∀ mg h h', XP mg h → (∀ b o, h.get? b = some o → h'.get? b = some o) → XP mg h')
    (hRf : ∀ s, Xt s = true → RecFacts r.records s.heap) (hwr : (!writes || r.records.isEmpty) = true) (ok : (chainsOk q && opensWell r.prog && (frees r && r.within.isEmpty)) = true) (hb : r.prog.bare) (hw : r.promised)
    (ht : ∀ vs (w : World) (s : Shared) mg f (Q : Fin → Shared → Prop) (E : Value → Shared → Prop), s.heap.Ns mainGlobals mg → mg r.name = some f → wpG (model r.prog w) ctx0 (run f vs) (fun v s' => Q (.done (.ret v)) s') E s → wpG (model r.prog w) ctx0 (tree vs) Q E s)
    (pin : ∀ w s, s.heap.isNs mainGlobals = true → Ground q loose [] XP w s (s.heap.nsMap mainGlobals) (s.heap.nsMap builtinsNs) s.heap → ∀ n ∈ defs, isTheDefsW r.prog s.heap n)
    (call : ∀ (w : World) (s₀ s₁ : Shared) (mg mb : Str → Option Value), Ground q loose r.records XP w s₀ mg mb s₁.heap → YP w s₁.heap → ∀ (args : List WData) (vs : List Value) (as : List Addr),
      r.claim.pre args = true → WData.layableAll args = true → Laid r.records w s₀ s₁ args vs as → sysModules < s₀.heap.objs.size → ∃ f, mg r.name = some f ∧
        wpG (model r.prog w) ctx0 (run f vs) (fun v s' => GoodWG r.claim (classAt s₀.heap) (ExcName.means s₀.heap) args s₁ (.ok (.ret v)) s')
          (fun e s' => GoodWG r.claim (classAt s₀.heap) (ExcName.means s₀.heap) args s₁ (.error e) s') s₁) : r.claim.HoldsOpenBy (fun vs => ⟨tree vs, .builtin "claim.caller" {}, default, []⟩) defs kps writes := by
  obtain ⟨ok, k5⟩ := Bool.and_eq_true_iff.mp ok
  obtain ⟨hch, o1⟩ := Bool.and_eq_true_iff.mp ok
  obtain ⟨k5, k6⟩ := Bool.and_eq_true_iff.mp k5
  obtain ⟨hsame, hu, ha, hap, hm⟩ := frees_parts k5
  refine ⟨⟨hb, o1, by show r.makers.map _ = []; rw [hm]; rfl⟩, hw.witness, fun w => ⟨(left.behind hX hch w).1, fun s' hs' => ?_⟩⟩
  obtain ⟨s₀, hf, hg0, s, hT, hz, hgens, hg, G00, y⟩ := (left.behind (XP := fun mg h => XP mg h ∧ RecFacts r.records h) (fun s hs => ⟨hX s hs, hRf s hs⟩) hch w).2 s' hs'
  have G0 : Ground q loose [] XP w s (s.heap.nsMap mainGlobals) (s.heap.nsMap builtinsNs) s.heap := ⟨G00.T, G00.B, G00.D, G00.TE, G00.TD, G00.W, G00.X.1, G00.cls, G00.has, G00.apart, G00.once, G00.K⟩
  have RF := G00.X.2
  have hT' := hT
  refine ⟨s₀, hf, hg0, s, hT, pin w s hg G0, RF.1, RF.2.1, ?_⟩
  have hgens : s.gens = #[] := Array.eq_empty_of_size_eq_zero (beq_iff_eq.mp hgens)
  have G : Ground q loose r.records XP w s _ _ s.heap := RF.ground G0
  refine callFrom_G (c := r.claim) hz hgens fun args hpre hlay ord hord => ?_
  obtain ⟨⟨vs, s₁⟩, hlaid⟩ := Option.isSome_iff_exists.mp (layAllW_isSome (P := w.params) (ord := ord) G.has args r.args s (pre_splitW hpre).1)
  have keeps := layAllW_keeps _ _ _ hlaid
  have hal := layAllW_rest _ _ _ hlaid
  obtain ⟨as, hrd, hin, hold⟩ := reads_layAllW hord _ _ _ hlaid hlay s₁.heap (fun _ _ e => e)
  have L : Laid r.records w s s₁ args vs as := ⟨⟨ord, hord, hlaid⟩, hrd, hin, hold, keeps, hal.1.trans hgens, hal.2.2.1⟩
  have G₁ := G.keeps hXk keeps
  obtain ⟨f, hf, h⟩ := call w s s₁ _ _ G₁ (hYk _ _ _ (hY w s y) keeps) args vs as hpre hlay L G.low
  have hi := ident_freeW hu ha hap
  have hwi : r.claim.within = [] := List.isEmpty_iff.mp k6
  exact ⟨vs, s₁, hlaid, ht vs w s₁ _ f _ _ G₁.T.g hf (G_mono h (fun v s' g => ⟨_, rfl, have z := g.laid (c := r.claim) hsame hwi hi L; ⟨z.1, z.2.1, z.2.2, fun q => ⟨namesKept_of hT' hg kps keeps g.2.1.old, noTable hwr q⟩⟩⟩) fun e s' g => have z := g.laid (c := r.claim) hsame hwi hi L; ⟨z.1, z.2.1, z.2.2, fun q => ⟨namesKept_of hT' hg kps keeps g.2.1.old, noTable hwr q⟩⟩)⟩

abbrev WalkG (q : Program) (loose : List Str) (XP : (Str → Option Value) → Heap → Prop) (YP : World → Heap → Prop) (r : RowW) (d : DefRec) (kwd : List (Str × Expr)) (run : Value → List Value → Sem Value) : Prop :=
  ∀ (w : World) (s₀ s₁ : Shared) (mg mb : Str → Option Value), Ground q loose r.records XP w s₀ mg mb s₁.heap → YP w s₁.heap → ∀ (a : Addr) (o : Obj) (pm cd doc dV kV : Value), s₁.heap.get? a = some o →
    o.data = .func { docDef d.name d.params d.body d.scope pm cd doc with defaults := dV, kwdefaults := kV } → s₁.heap.CodeRec cd d.name → Dflts mg s₁.heap d.params kwd dV kV → mg d.name = some (.ref a) → s₁.gens = #[] →
    ∀ (args : List WData) (vals : List Value) (as : List Addr), r.claim.pre args = true → WData.layableAll args = true → ReadsAllW r.records (classAt s₀.heap) s₁.heap vals args as → WellAll w.params s₁.heap vals args → (∀ a ∈ as, (a == sysModules) = false) →
      wpG (model r.prog w) ctx0 (run (.ref a) vals) (fun v s' => GoodWG r.claim (classAt s₀.heap) (ExcName.means s₀.heap) args s₁ (.ok (.ret v)) s')
        (fun e s' => GoodWG r.claim (classAt s₀.heap) (ExcName.means s₀.heap) args s₁ (.error e) s') s₁

theorem PySem.W.holds_open {r : OpenRow} {q : Program} {loose : List Str} {Xt : Shared → Bool} {XP : (Str → Option Value) → Heap → Prop} {α : Type} {Yf : Shared → α} {Ya : World → α} {YP : World → Heap → Prop} {d : DefRec} {kwd : List (Str × Expr)} {N : Nat}
    (left : LeftO r.prog q loose Xt Yf Ya N) (hY : ∀ w s, Yf s = Ya w → YP w s.heap) (hYk : ∀ w h h', YP w h → (∀ b o, h.get? b = some o → h'.get? b = some o) → YP w h')
    (hX : ∀ s, Xt s = true → XP (s.heap.nsMap mainGlobals) s.heap) (hXk : ∀ mg h h', XP mg h → (∀ b o, h.get? b = some o → h'.get? b = some o) → XP mg h')
    (hdef : defOf q r.name = some (d, kwd)) (hp : r.prog.theDef r.name = some (d.params, d.body, d.scope)) (hk : kwWritten? d.params.kwonlyargs d.params.kw_defaults = some kwd) (hRf : ∀ s, Xt s = true → RecFacts r.records s.heap) (hwr : (!r.writes || r.records.isEmpty) = true)
    (k1 : r.wellSaid = true) (ok : (chainsOk q && opensWell r.prog && (frees r.toRowW && r.within.isEmpty)) = true) (hb : r.prog.bare) (hw : r.toRowW.promised)
    (call : WalkG q loose XP YP r.toRowW d kwd fun f vs => PySem.call f vs) : r.Holds := by
  refine ⟨k1, hw, open_G (r := r.toRowW) (run := fun f vs => PySem.call f vs) (tree := fun vs => do match ← nsGet mainNs r.name with
      | some f => do ret (← PySem.call f vs)
      | none => unsupported "claim.caller:no-such-global") left hY hYk hX hXk hRf hwr ok hb hw
    (fun vs w s mg f Q E hg hf h => G_bind (G_of_any caller_in (wpAny_nsGet hg (by rw [hf]; exact G_bind (G_mono h (fun _ _ x => G_pure x) fun _ _ x => x)))))
    (fun w s hg G n hn => ?_) fun w s₀ s₁ mg mb G Y args vs as hpre hlay L low => ?_⟩
  · obtain rfl : n = r.name := by split at hn <;> simp_all
    exact pinned_of_view hg G hdef hp hk
  · obtain ⟨a, o, pm, cd, doc, dV, kV, h1, h2, h3, h4, h5⟩ := G.fn hdef
    exact ⟨.ref a, h1, call w s₀ s₁ mg mb G Y a o pm cd doc dV kV h2 h3 h4 h5 (defOf_name hdef ▸ h1) L.gens args vs as hpre hlay L.reads L.well (L.low low)⟩
end Mine
end

section
open PySem PySem.W PyProof.Rows
namespace Mine
set_option maxRecDepth 100000
set_option maxHeartbeats 8000000
open_top hd for PySem.Challenge.rw_aq6042_01
end Mine
end

section
open PySem PySem.Float64
namespace Mine

/-! ### rounding to 53 bits, as the law reckons it -/
def bl (n : Nat) : Nat := if n = 0 then 0 else n.log2 + 1

def lsh (top below : Nat) : Int := 56 - (bl top : Int) + (bl below : Int)
def lN (top below : Nat) : Nat := (shift top below (lsh top below)).1
def lD (top below : Nat) : Nat := (shift top below (lsh top below)).2
def lwhole (top below : Nat) : Nat := lN top below / lD top below
def lover (top below : Nat) : Nat := lN top below % lD top below
def ldrop (top below : Nat) : Nat := bl (lwhole top below) - 53
def lkeep (top below : Nat) : Nat := lwhole top below / 2 ^ ldrop top below
def lrest (top below : Nat) : Nat := lwhole top below % 2 ^ ldrop top below
def lhalf (top below : Nat) : Nat := 2 ^ (ldrop top below - 1)
def lnear (top below : Nat) : Nat :=
  if lrest top below > lhalf top below ∨ (lrest top below = lhalf top below ∧ (lover top below > 0 ∨ lkeep top below % 2 = 1)) then lkeep top below + 1 else lkeep top below
def lpow (top below : Nat) : Int := (ldrop top below : Int) - lsh top below

theorem halfEven_scale (n d x : Nat) (hx : 0 < x) : halfEven (n * x) (d * x) = halfEven n d := by
  unfold halfEven
  simp only [Nat.mul_div_mul_right _ _ hx, Nat.mul_mod_mul_right]
  have e1 : (2 * (n % d * x) > d * x) ↔ 2 * (n % d) > d := by
    rw [← Nat.mul_assoc]
    exact Nat.mul_lt_mul_right hx
  have e2 : (2 * (n % d * x) == d * x) = (2 * (n % d) == d) := by
    rw [← Nat.mul_assoc]
    by_cases h : 2 * (n % d) = d
    · simp [h]
    · have : 2 * (n % d) * x ≠ d * x := fun e => h (Nat.eq_of_mul_eq_mul_right hx e)
      rw [beq_eq_false_iff_ne.mpr h, beq_eq_false_iff_ne.mpr this]
  simp only [e1, e2]

theorem halfEven_ratio {N D a b : Nat} (hD : 0 < D) (hb : 0 < b) (h : N * b = a * D) : halfEven N D = halfEven a b := by
  rw [← halfEven_scale N D b hb, ← halfEven_scale a b D hD, h, Nat.mul_comm D b]

theorem split_pow {N D c : Nat} (hD : 0 < D) : N / (2 ^ c * D) = N / D / 2 ^ c ∧ N % (2 ^ c * D) = D * (N / D % 2 ^ c) + N % D := by
  have hp := Nat.two_pow_pos c
  refine ⟨by rw [Nat.div_div_eq_div_mul, Nat.mul_comm], ?_⟩
  rw [Nat.mul_comm (2 ^ c) D, Nat.mod_mul]
  omega

/-- the law's way of rounding is halfEven -/
theorem near_half {N D c : Nat} (hD : 0 < D) (hc : 0 < c) :
    (if N / D % 2 ^ c > 2 ^ (c - 1) ∨ (N / D % 2 ^ c = 2 ^ (c - 1) ∧ (N % D > 0 ∨ N / D / 2 ^ c % 2 = 1)) then N / D / 2 ^ c + 1 else N / D / 2 ^ c) = halfEven N (2 ^ c * D) := by
  obtain ⟨e1, e2⟩ := split_pow (N := N) (c := c) hD
  unfold halfEven
  simp only [e1, e2]
  have hov := Nat.mod_lt N hD
  generalize N % D = ov at *
  generalize hr : N / D % 2 ^ c = r
  generalize N / D / 2 ^ c = k
  have hp : 2 ^ c = 2 * 2 ^ (c - 1) := by
    conv => lhs; rw [show c = (c - 1) + 1 by omega, Nat.pow_succ]
    omega
  rw [hp]
  generalize 2 ^ (c - 1) = H
  have k1 : 2 * (D * r + ov) > 2 * H * D ↔ D * r + ov > H * D := by
    rw [Nat.mul_assoc]; omega
  have k2 : (2 * (D * r + ov) == 2 * H * D) = (D * r + ov == H * D) := by
    rw [Nat.mul_assoc]
    by_cases h : D * r + ov = H * D
    · rw [h]; simp
    · have : 2 * (D * r + ov) ≠ 2 * (H * D) := by omega
      rw [beq_eq_false_iff_ne.mpr h, beq_eq_false_iff_ne.mpr this]
  simp only [k1, k2]
  rcases Nat.lt_trichotomy r H with h | h | h
  · have h3 : D * r + D ≤ H * D := by
      have := Nat.mul_le_mul_left D (show r + 1 ≤ H from h)
      rw [Nat.mul_add, Nat.mul_one, Nat.mul_comm D H] at this
      exact this
    have a1 : ¬ (D * r + ov > H * D) := by omega
    have a2 : (D * r + ov == H * D) = false := beq_eq_false_iff_ne.mpr (by omega)
    rw [if_neg (by omega), if_neg (by simp [a1, a2])]
  · subst h
    rw [Nat.mul_comm r D]
    by_cases h0 : ov > 0
    · rw [if_pos (by omega), if_pos (by simp; omega)]
    · have : ov = 0 := by omega
      subst this
      by_cases h1 : k % 2 = 1
      · rw [if_pos (by omega), if_pos (by simp [h1])]
      · rw [if_neg (by omega), if_neg (by simp [h1])]
  · have h3 : H * D + D ≤ D * r := by
      have := Nat.mul_le_mul_left D (show H + 1 ≤ r from h)
      rw [Nat.mul_add, Nat.mul_one, Nat.mul_comm D H] at this
      exact this
    rw [if_pos (by omega), if_pos (by simp; omega)]

theorem bl_pos {n : Nat} (h : 0 < n) : 2 ^ (bl n - 1) ≤ n ∧ n < 2 ^ bl n ∧ 0 < bl n := by
  unfold bl
  rw [if_neg (by omega)]
  exact ⟨Nat.log2_self_le (by omega), Nat.lt_log2_self, by omega⟩
theorem bl_eq {n k : Nat} (h1 : 2 ^ k ≤ n) (h2 : n < 2 ^ (k + 1)) : bl n = k + 1 := by
  have hn : 0 < n := Nat.lt_of_lt_of_le (Nat.two_pow_pos k) h1
  obtain ⟨a, b, c⟩ := bl_pos hn
  have x1 : k < bl n := (Nat.pow_lt_pow_iff_right (by decide)).mp (Nat.lt_of_le_of_lt h1 b)
  have x2 : bl n - 1 < k + 1 := (Nat.pow_lt_pow_iff_right (by decide)).mp (Nat.lt_of_le_of_lt a h2)
  omega

/-- the place of the last of 53 bits, without a floor -/
def place0 (n d : Nat) : Int :=
  let l : Int := (n.log2 : Int) - (d.log2 : Int)
  if (shift n d (-l)).1 ≥ (shift n d (-l)).2 then l - 52 else l - 53
theorem place_eq (n d : Nat) : place n d = max (place0 n d) (-1074) := rfl
theorem lsh_eq {n d : Nat} (hn : 0 < n) (hd : 0 < d) : lsh n d = 56 - ((n.log2 : Int) - (d.log2 : Int)) := by
  unfold lsh bl
  rw [if_neg (by omega), if_neg (by omega)]
  omega

/-- shift by j + c: the ratio grows by 2^c -/
theorem shift_ratio (n d : Nat) (j : Int) (c : Nat) : (shift n d (j + c)).1 * (shift n d j).2 = (shift n d j).1 * (2 ^ c * (shift n d (j + c)).2) := by
  unfold shift
  split
  · split
    · have e : (j + c).toNat = j.toNat + c := by omega
      simp only [e, Nat.pow_add]
      ac_rfl
    · have e : c = (j + c).toNat + (-j).toNat := by omega
      simp only
      conv => rhs; rw [e, Nat.pow_add]
      ac_rfl
  · split
    · omega
    · have e : (-j).toNat = (-(j + c)).toNat + c := by omega
      simp only [e, Nat.pow_add]
      ac_rfl

theorem shift0_bounds {n d : Nat} (hn : 0 < n) (hd : 0 < d) :
    (shift n d (-((n.log2 : Int) - (d.log2 : Int)))).1 < 2 * (shift n d (-((n.log2 : Int) - (d.log2 : Int)))).2 ∧
      (shift n d (-((n.log2 : Int) - (d.log2 : Int)))).2 < 2 * (shift n d (-((n.log2 : Int) - (d.log2 : Int)))).1 := by
  have hnl := Nat.log2_self_le (n := n) (by omega)
  have hnu := @Nat.lt_log2_self n
  have hdl := Nat.log2_self_le (n := d) (by omega)
  have hdu := @Nat.lt_log2_self d
  generalize n.log2 = L at *
  generalize d.log2 = M at *
  unfold shift
  by_cases h : L ≤ M
  · rw [if_pos (by omega)]
    have e : (-((L : Int) - M)).toNat = M - L := by omega
    simp only [e]
    have hp := Nat.two_pow_pos (M - L)
    have e1 : 2 ^ L * 2 ^ (M - L) = 2 ^ M := by rw [← Nat.pow_add]; congr 1; omega
    have e2 : 2 ^ (L + 1) * 2 ^ (M - L) = 2 ^ (M + 1) := by rw [← Nat.pow_add]; congr 1; omega
    have m1 := Nat.mul_le_mul_right (2 ^ (M - L)) hnl
    have m2 := (Nat.mul_lt_mul_right hp).mpr hnu
    rw [e1] at m1
    rw [e2] at m2
    rw [Nat.pow_succ] at hdu m2
    constructor <;> omega
  · rw [if_neg (by omega)]
    have e : (-(-((L : Int) - M))).toNat = L - M := by omega
    simp only [e]
    have hp := Nat.two_pow_pos (L - M)
    have e1 : 2 ^ M * 2 ^ (L - M) = 2 ^ L := by rw [← Nat.pow_add]; congr 1; omega
    have e2 : 2 ^ (M + 1) * 2 ^ (L - M) = 2 ^ (L + 1) := by rw [← Nat.pow_add]; congr 1; omega
    have m1 := Nat.mul_le_mul_right (2 ^ (L - M)) hdl
    have m2 := (Nat.mul_lt_mul_right hp).mpr hdu
    rw [e1] at m1
    rw [e2] at m2
    rw [Nat.pow_succ] at hnu m2
    constructor <;> omega

theorem lD_pos {n d : Nat} (hd : 0 < d) : 0 < lD n d := shift_pos _ _ _ hd

theorem whole_facts {n d : Nat} (hn : 0 < n) (hd : 0 < d) :
    (bl (lwhole n d) = 56 ∨ bl (lwhole n d) = 57) ∧ lpow n d = place0 n d := by
  have hb := shift0_bounds hn hd
  have hl := lsh_eq hn hd
  have hr := shift_ratio n d (-((n.log2 : Int) - (d.log2 : Int))) 56
  have hs : lsh n d = -((n.log2 : Int) - (d.log2 : Int)) + ((56 : Nat) : Int) := by omega
  have hDp : 0 < lD n d := lD_pos hd
  rw [← hs] at hr
  change lN n d * _ = _ * (2 ^ 56 * lD n d) at hr
  have hp0 : place0 n d = if (shift n d (-((n.log2 : Int) - (d.log2 : Int)))).1 ≥ (shift n d (-((n.log2 : Int) - (d.log2 : Int)))).2 then ((n.log2 : Int) - (d.log2 : Int)) - 52 else ((n.log2 : Int) - (d.log2 : Int)) - 53 := rfl
  have hap : 0 < (shift n d (-((n.log2 : Int) - (d.log2 : Int)))).2 := shift_pos _ _ _ hd
  generalize (shift n d (-((n.log2 : Int) - (d.log2 : Int)))).1 = a at *
  generalize (shift n d (-((n.log2 : Int) - (d.log2 : Int)))).2 = b at *
  generalize hN : lN n d = N at *
  generalize hDD : lD n d = D at *
  have hw : lwhole n d = N / D := by unfold lwhole; rw [hN, hDD]
  have hlow : 2 ^ 55 ≤ N / D := by
    rw [Nat.le_div_iff_mul_le hDp]
    apply Nat.le_of_mul_le_mul_right (c := b) _ hap
    rw [hr]
    have := Nat.mul_le_mul_right (2 ^ 55 * D) (Nat.le_of_lt hb.2)
    calc 2 ^ 55 * D * b = b * (2 ^ 55 * D) := by ac_rfl
      _ ≤ 2 * a * (2 ^ 55 * D) := this
      _ = a * (2 ^ 56 * D) := by rw [show (2:Nat) ^ 56 = 2 * 2 ^ 55 by decide]; ac_rfl
  by_cases hab : a ≥ b
  · have h56 : 2 ^ 56 ≤ N / D := by
      rw [Nat.le_div_iff_mul_le hDp]
      apply Nat.le_of_mul_le_mul_right (c := b) _ hap
      rw [hr]
      have := Nat.mul_le_mul_right (2 ^ 56 * D) hab
      rw [Nat.mul_comm (2 ^ 56 * D) b]
      exact this
    have h57 : N / D < 2 ^ 57 := by
      rw [Nat.div_lt_iff_lt_mul hDp]
      apply Nat.lt_of_mul_lt_mul_right (a := b)
      rw [hr]
      have := (Nat.mul_lt_mul_right (show 0 < 2 ^ 56 * D from Nat.mul_pos (by decide) hDp)).mpr hb.1
      calc a * (2 ^ 56 * D) < 2 * b * (2 ^ 56 * D) := this
        _ = 2 ^ 57 * D * b := by rw [show (2:Nat) ^ 57 = 2 * 2 ^ 56 by decide]; ac_rfl
    have hbl : bl (lwhole n d) = 57 := by rw [hw]; exact bl_eq (k := 56) h56 h57
    refine ⟨.inr hbl, ?_⟩
    unfold lpow ldrop
    rw [hbl, hp0, if_pos hab]
    omega
  · have h56 : N / D < 2 ^ 56 := by
      rw [Nat.div_lt_iff_lt_mul hDp]
      apply Nat.lt_of_mul_lt_mul_right (a := b)
      rw [hr]
      have := (Nat.mul_lt_mul_right (show 0 < 2 ^ 56 * D from Nat.mul_pos (by decide) hDp)).mpr (show a < b by omega)
      rw [Nat.mul_comm (2 ^ 56 * D) b]
      exact this
    have hbl : bl (lwhole n d) = 56 := by rw [hw]; exact bl_eq (k := 55) hlow h56
    refine ⟨.inl hbl, ?_⟩
    unfold lpow ldrop
    rw [hbl, hp0, if_neg hab]
    omega

/-- the law's near is halfEven at the place -/
theorem lnear_half {n d : Nat} (hn : 0 < n) (hd : 0 < d) : lnear n d = halfEven (shift n d (-(place0 n d))).1 (shift n d (-(place0 n d))).2 := by
  obtain ⟨hb, hp⟩ := whole_facts hn hd
  have hDp := lD_pos (n := n) hd
  have hdr : 0 < ldrop n d := by unfold ldrop; omega
  have h := near_half (N := lN n d) (c := ldrop n d) hDp hdr
  have e : lnear n d = halfEven (lN n d) (2 ^ ldrop n d * lD n d) := h
  rw [e]
  have hr := shift_ratio n d (-(place0 n d)) (ldrop n d)
  have hs : -(place0 n d) + ((ldrop n d : Nat) : Int) = lsh n d := by
    rw [← hp]; unfold lpow; omega
  rw [hs] at hr
  exact halfEven_ratio (Nat.mul_pos (Nat.two_pow_pos _) hDp) (shift_pos _ _ _ hd) hr

theorem lnear_bounds {n d : Nat} (hn : 0 < n) (hd : 0 < d) : lnear n d ≤ 2 ^ 53 ∧ 2 ^ 52 ≤ lnear n d := by
  obtain ⟨hb, hp⟩ := whole_facts hn hd
  have hk : lkeep n d < 2 ^ 53 ∧ 2 ^ 52 ≤ lkeep n d := by
    unfold lkeep ldrop
    have hw : 0 < lwhole n d := by
      rcases Nat.eq_zero_or_pos (lwhole n d) with h | h
      · rw [h] at hb; simp [bl] at hb
      · exact h
    obtain ⟨h1, h2, _⟩ := bl_pos hw
    rcases hb with hb | hb <;> rw [hb] at h1 h2 ⊢ <;> constructor <;> omega
  unfold lnear
  split <;> omega

/-- rounding by the model, where the place is not floored -/
theorem round_near {n d : Nat} (hn : 0 < n) (hd : 0 < d) (hp : -1074 ≤ place0 n d) :
    roundUn n d = (place0 n d + 1074).toNat * 2 ^ 52 + lnear n d ∧ V (roundUn n d) = lnear n d * 2 ^ (lpow n d + 1074).toNat := by
  have hpl : place n d = place0 n d := by rw [place_eq]; omega
  have e : roundUn n d = (place0 n d + 1074).toNat * 2 ^ 52 + lnear n d := by
    unfold roundUn
    rw [if_neg (by omega), hpl, ← lnear_half hn hd]
  obtain ⟨b1, b2⟩ := lnear_bounds hn hd
  refine ⟨e, ?_⟩
  rw [e, V_at b1 (.inl b2), (whole_facts hn hd).2]
/-- and where it is floored, both are small -/
theorem round_small {n d : Nat} (hn : 0 < n) (hd : 0 < d) (hp : place0 n d < -1074) : V (roundUn n d) ≤ 2 ^ 53 := by
  have hpl : place n d = -1074 := by rw [place_eq]; omega
  have hsp := place_spec (n := n) (d := d) (by omega) hd
  have hb := shift_pos n d (-(place n d)) hd
  have e : roundUn n d = halfEven (shift n d (-(place n d))).1 (shift n d (-(place n d))).2 := by
    unfold roundUn
    rw [if_neg (by omega), hpl]
    simp
  have h1 := halfEven_le' (shift n d (-(place n d))).1 (shift n d (-(place n d))).2 hb
  have h2 : (shift n d (-(place n d))).1 / (shift n d (-(place n d))).2 < 2 ^ 53 := (Nat.div_lt_iff_lt_mul hb).mpr hsp.1
  have h3 : roundUn n d ≤ 2 ^ 53 := by rw [e]; omega
  have h4 := V_at (k := 0) (q := roundUn n d) h3 (.inr rfl)
  rw [Nat.zero_mul, Nat.zero_add, Nat.pow_zero, Nat.mul_one] at h4
  omega
end Mine
end

section
open PySem PySem.W PyProof.Rows PySem.Spec
namespace Mine
open PySem.Builtin.Int (intBits)
set_option exponentiation.threshold 4000

abbrev zSh (t b : Int) : Int := 56 - (intBits t : Int) + (intBits b : Int)
abbrev zWA (t b : Int) : Int := (t * 2 ^ (zSh t b).toNat).fdiv b
abbrev zWB (t b : Int) : Int := t.fdiv (b * 2 ^ (0 - zSh t b).toNat)
abbrev zDr (w : Int) : Int := (intBits w : Int) - 53

theorem bits_nat (n : Nat) : intBits (n : Int) = bl n := by
  unfold intBits bl
  by_cases h : n = 0
  · subst h; rfl
  · rw [if_neg (by simpa using h), if_neg h]
    rfl
theorem bits_of (x : Int) (h : 0 ≤ x) : intBits x = bl x.toNat := by
  obtain ⟨n, rfl⟩ := Int.eq_ofNat_of_zero_le h
  rw [bits_nat]
  rfl
theorem pow_cast (n : Nat) : (2 : Int) ^ n = ((2 ^ n : Nat) : Int) := by simp
theorem bits_pow (n : Nat) : intBits ((2 : Int) ^ n) = n + 1 := by
  rw [pow_cast, bits_nat]
  exact bl_eq (Nat.le_refl _) (Nat.pow_lt_pow_right (by decide) (by omega))
theorem pow_ne (n : Nat) : (2 : Int) ^ n ≠ 0 := by
  rw [pow_cast]
  have := Nat.two_pow_pos n
  omega
theorem pow_gt (n : Nat) : 0 < (2 : Int) ^ n := by
  rw [pow_cast]
  have := Nat.two_pow_pos n
  omega
theorem zsh_eq {t b : Nat} : zSh (t : Int) (b : Int) = lsh t b := by
  unfold zSh lsh
  rw [bits_nat, bits_nat]
theorem py_of {x y : Int} (h : intBits y ≤ 8000) : Builtin.divisionGoesByPylong x y = false := by
  refine PyProof.noPylong_of_log2 ?_
  unfold intBits at h
  by_cases h0 : y = 0
  · subst h0; decide +kernel
  · rw [if_neg (by simpa using h0)] at h
    omega

theorem zWA_eq {t b : Nat} (_hb : 0 < b) (hs : 0 ≤ zSh (t : Int) (b : Int)) :
    zWA (t : Int) (b : Int) = ((lwhole t b : Nat) : Int) ∧ ((t : Int) * 2 ^ (zSh (t : Int) (b : Int)).toNat).fmod b = ((lover t b : Nat) : Int) := by
  have e : (t : Int) * 2 ^ (zSh (t : Int) (b : Int)).toNat = ((lN t b : Nat) : Int) ∧ lD t b = b := by
    rw [zsh_eq] at hs ⊢
    unfold lN lD Float64.shift
    rw [if_pos hs]
    exact ⟨by simp, rfl⟩
  unfold zWA lwhole lover
  rw [e.1, e.2]
  exact ⟨Int.fdiv_eq_ediv_of_nonneg _ (by omega), Int.fmod_eq_emod_of_nonneg _ (by omega)⟩
theorem zWB_eq {t b : Nat} (_hb : 0 < b) (hs : ¬ 0 ≤ zSh (t : Int) (b : Int)) :
    zWB (t : Int) (b : Int) = ((lwhole t b : Nat) : Int) ∧ (t : Int).fmod (b * 2 ^ (0 - zSh (t : Int) (b : Int)).toNat) = ((lover t b : Nat) : Int) := by
  have e : (b : Int) * 2 ^ (0 - zSh (t : Int) (b : Int)).toNat = ((lD t b : Nat) : Int) ∧ lN t b = t := by
    rw [zsh_eq] at hs ⊢
    unfold lN lD Float64.shift
    rw [if_neg hs, Int.zero_sub]
    exact ⟨by simp, rfl⟩
  unfold zWB lwhole lover
  rw [e.1, e.2]
  exact ⟨Int.fdiv_eq_ediv_of_nonneg _ (by omega), Int.fmod_eq_emod_of_nonneg _ (by omega)⟩

/-- what the walk asks once the whole is there -/
theorem zW_facts {t b : Nat} (ht : 0 < t) (hb : 0 < b) {w : Int} (hw : w = ((lwhole t b : Nat) : Int)) :
    (56 ≤ (intBits w : Int) ∧ (intBits w : Int) ≤ 57) ∧ IntMulOk (w.fdiv (2 ^ (zDr w).toNat)) (2 ^ (zDr w).toNat) := by
  have h := (whole_facts ht hb).1
  rw [hw, bits_nat]
  refine ⟨by omega, ?_⟩
  refine IntMulOk.of_le (m := 57) (n := 57) (intBits_fdiv_le ?_) ?_ (by decide)
  · rw [bits_nat]; omega
  · rw [bits_pow]
    unfold zDr
    rw [bits_nat]
    omega

theorem zW_pos {t b : Nat} (ht : 0 < t) (hb : 0 < b) : 0 < lwhole t b := by
  have h := (whole_facts ht hb).1
  rcases Nat.eq_zero_or_pos (lwhole t b) with h0 | h0
  · rw [h0] at h; simp [bl] at h
  · exact h0

/-- the letters of the walk are the law's -/
theorem zW_law {t b : Nat} (ht : 0 < t) (hb : 0 < b) {w : Int} (hw : w = ((lwhole t b : Nat) : Int)) :
    w.fdiv (2 ^ (zDr w).toNat) = ((lkeep t b : Nat) : Int) ∧ w - w.fdiv (2 ^ (zDr w).toNat) * 2 ^ (zDr w).toNat = ((lrest t b : Nat) : Int) ∧ (2 : Int) ^ (zDr w - 1).toNat = ((lhalf t b : Nat) : Int) ∧ zDr w = (ldrop t b : Int) := by
  have h := (whole_facts ht hb).1
  have hd : zDr w = (ldrop t b : Int) := by
    unfold zDr ldrop
    rw [hw, bits_nat]
    omega
  have hd2 : (zDr w).toNat = ldrop t b := by omega
  have hd3 : (zDr w - 1).toNat = ldrop t b - 1 := by omega
  have hk : w.fdiv (2 ^ (zDr w).toNat) = ((lkeep t b : Nat) : Int) := by
    rw [hd2, hw, pow_cast, Int.fdiv_eq_ediv_of_nonneg _ (Int.natCast_nonneg _)]
    rfl
  refine ⟨hk, ?_, ?_, hd⟩
  · rw [hk, hd2, hw, pow_cast]
    unfold lkeep lrest
    have := Nat.div_add_mod (lwhole t b) (2 ^ ldrop t b)
    rw [Nat.mul_comm] at this
    rw [← Int.natCast_mul]
    omega
  · rw [hd3, pow_cast]
    rfl

theorem near_law {t b : Nat} (ht : 0 < t) (hb : 0 < b) {w : Int} (hw : w = ((lwhole t b : Nat) : Int)) :
    ∃ (keep rest half : Nat), w.fdiv (2 ^ (zDr w).toNat) = (keep : Int) ∧ w - w.fdiv (2 ^ (zDr w).toNat) * 2 ^ (zDr w).toNat = (rest : Int) ∧ (2 : Int) ^ (zDr w - 1).toNat = (half : Int) ∧
      lnear t b = if rest > half ∨ (rest = half ∧ (lover t b > 0 ∨ keep % 2 = 1)) then keep + 1 else keep := by
  obtain ⟨g1, g2, g3, _⟩ := zW_law ht hb hw
  exact ⟨_, _, _, g1, g2, g3, rfl⟩
section
variable {t b : Nat} {w o : Int}
theorem near_l1 (ht : 0 < t) (hb : 0 < b) (hw : w = ((lwhole t b : Nat) : Int)) (h : (2 : Int) ^ (zDr w - 1).toNat < w - w.fdiv (2 ^ (zDr w).toNat) * 2 ^ (zDr w).toNat) :
    w.fdiv (2 ^ (zDr w).toNat) + 1 = ((lnear t b : Nat) : Int) := by
  obtain ⟨k, r, hf, g1, g2, g3, e⟩ := near_law ht hb hw
  rw [g2, g3] at h
  rw [g1, e, if_pos (by omega)]
  omega
theorem near_l2 (ht : 0 < t) (hb : 0 < b) (hw : w = ((lwhole t b : Nat) : Int)) (ho : o = ((lover t b : Nat) : Int)) (h : w - w.fdiv (2 ^ (zDr w).toNat) * 2 ^ (zDr w).toNat = (2 : Int) ^ (zDr w - 1).toNat) (h2 : 0 < o) :
    w.fdiv (2 ^ (zDr w).toNat) + 1 = ((lnear t b : Nat) : Int) := by
  obtain ⟨k, r, hf, g1, g2, g3, e⟩ := near_law ht hb hw
  rw [g2, g3] at h
  rw [g1, e, if_pos (by omega)]
  omega
theorem near_l3 (ht : 0 < t) (hb : 0 < b) (hw : w = ((lwhole t b : Nat) : Int)) (h : w - w.fdiv (2 ^ (zDr w).toNat) * 2 ^ (zDr w).toNat = (2 : Int) ^ (zDr w - 1).toNat) (h2 : (w.fdiv (2 ^ (zDr w).toNat)).fmod 2 = 1) :
    w.fdiv (2 ^ (zDr w).toNat) + 1 = ((lnear t b : Nat) : Int) := by
  obtain ⟨k, r, hf, g1, g2, g3, e⟩ := near_law ht hb hw
  rw [g2, g3] at h
  rw [g1, Int.fmod_eq_emod_of_nonneg _ (by decide)] at h2
  rw [g1, e, if_pos (by omega)]
  omega
theorem near_l4 (ht : 0 < t) (hb : 0 < b) (hw : w = ((lwhole t b : Nat) : Int)) (h0 : ¬ (2 : Int) ^ (zDr w - 1).toNat < w - w.fdiv (2 ^ (zDr w).toNat) * 2 ^ (zDr w).toNat) (h : ¬ w - w.fdiv (2 ^ (zDr w).toNat) * 2 ^ (zDr w).toNat = (2 : Int) ^ (zDr w - 1).toNat) :
    w.fdiv (2 ^ (zDr w).toNat) = ((lnear t b : Nat) : Int) := by
  obtain ⟨k, r, hf, g1, g2, g3, e⟩ := near_law ht hb hw
  rw [g2, g3] at h h0
  rw [g1, e, if_neg (by omega)]
theorem near_l5 (ht : 0 < t) (hb : 0 < b) (hw : w = ((lwhole t b : Nat) : Int)) (ho : o = ((lover t b : Nat) : Int)) (h0 : ¬ (2 : Int) ^ (zDr w - 1).toNat < w - w.fdiv (2 ^ (zDr w).toNat) * 2 ^ (zDr w).toNat) (h2 : ¬ 0 < o) (h3 : ¬ (w.fdiv (2 ^ (zDr w).toNat)).fmod 2 = 1) :
    w.fdiv (2 ^ (zDr w).toNat) = ((lnear t b : Nat) : Int) := by
  obtain ⟨k, r, hf, g1, g2, g3, e⟩ := near_law ht hb hw
  rw [g2, g3] at h0
  rw [g1, Int.fmod_eq_emod_of_nonneg _ (by decide)] at h3
  rw [g1, e, if_neg (by omega)]
theorem near_lp (ht : 0 < t) (hb : 0 < b) (hw : w = ((lwhole t b : Nat) : Int)) : zDr w - zSh (t : Int) (b : Int) = lpow t b := by
  obtain ⟨_, _, _, g4⟩ := zW_law ht hb hw
  rw [g4, zsh_eq]
  rfl
end
end Mine
end

section
open PySem PySem.W PyProof.Rows PySem.Spec
namespace Mine
/-- what a call of a def of the text hands back, wherever it is made -/
def CallAt (k : Nat) (w : World) (loose : List Str) (mean : ExcName → Option Value) (mg mb : Str → Option Value) (f : Addr) (vs : List Value) (R : Value → List (Addr × Obj) → Prop) : Prop :=
  ∀ (dp un : Nat) (gd : Option (List Code)) (cn : Str) (cs : Scope) (a : Addr) (ccd : Value) (cl : List (Str × Addr)) (outer : List Env) (A₀ : Around) (base h₀ : Heap) (L : Addr) (m : Str → Option Value) (news : List (Addr × Obj)) (s : Shared)
    (Q E : Value → Shared → Prop),
    Below A₀ base outer h₀ → Fr h₀ L s.heap m → (hd.heap_39 w.params).In h₀ → News h₀ L s.heap news → Top hd.view_39 loose mean mg mb h₀ → cs.kind = .function → dp + k < recursionLimit → un + 10 * k < cLine →
    (∀ r tl h' tk', Fr h₀ L h' m → News h₀ L h' (tl ++ news) → (∀ q ∈ tl, AllLt q.1 news) → R r tl → Q r { s with heap := h', toks := tk' }) →
    wpAny (model PySem.Challenge.rw_aq6042_01.row.prog w) (ktrTop dp un gd cn cs L a ccd cl outer) (call (.ref f) vs) Q E s

abbrev tup2 (x y : Int) (t u : Tok) (c : Nat) : Obj := { cls := .type "tuple", data := .seq #[.int x t, .int y u] c }
/-- a pair of ints, new -/
def IsPair (x y : Int) (r : Value) (tl : List (Addr × Obj)) : Prop := ∃ D t u c, r = .ref D ∧ tl = [(D, tup2 x y t u c)]

theorem news_sub {h₀ h : Heap} {L : Addr} {l l' : List (Addr × Obj)} (N : News h₀ L h l) (hs : ∀ p ∈ l', p ∈ l) : News h₀ L h l' := fun p hp => N p (hs p hp)

theorem ret2 {h₀ h' : Heap} {L D : Addr} {m : Str → Option Value} {news rest : List (Addr × Obj)} {s : Shared} {Q : Value → Shared → Prop} {x y x' y' : Int} {t u : Tok} {c tk : Nat}
    (hret : ∀ r tl h' tk', Fr h₀ L h' m → News h₀ L h' (tl ++ news) → (∀ q ∈ tl, AllLt q.1 news) → IsPair x y r tl → Q r { s with heap := h', toks := tk' })
    (F : Fr h₀ L h' m) (N : News h₀ L h' ((D, tup2 x' y' t u c) :: rest)) (hs : ∀ p ∈ news, p ∈ rest) (hl : AllLt D news) (e1 : x' = x) (e2 : y' = y) : Q (.ref D) { s with heap := h', toks := tk } := by
  subst e1 e2
  refine hret _ [(D, tup2 x' y' t u c)] _ _ F (news_sub N fun p hp => ?_) (fun q hq => ?_) ⟨D, t, u, c, rfl, rfl⟩
  · rcases List.mem_cons.mp hp with rfl | hp
    · exact .head _
    · exact .tail _ (hs p hp)
  · rw [List.mem_singleton.mp hq]; exact hl
/-- an int, nothing new -/
def IsOne (x : Int) (r : Value) (tl : List (Addr × Obj)) : Prop := tl = [] ∧ ∃ t, r = .int x t
theorem ret1 {h₀ h' : Heap} {L : Addr} {m : Str → Option Value} {news rest : List (Addr × Obj)} {s : Shared} {Q : Value → Shared → Prop} {x x' : Int} {t : Tok} {tk : Nat}
    (hret : ∀ r tl h' tk', Fr h₀ L h' m → News h₀ L h' (tl ++ news) → (∀ q ∈ tl, AllLt q.1 news) → IsOne x r tl → Q r { s with heap := h', toks := tk' })
    (F : Fr h₀ L h' m) (N : News h₀ L h' rest) (hs : ∀ p ∈ news, p ∈ rest) (e1 : x' = x) : Q (.int x' t) { s with heap := h', toks := tk } := by
  subst e1
  exact hret _ [] _ _ F (news_sub N hs) (fun q hq => nomatch hq) ⟨rfl, t, rfl⟩
end Mine
end

section
open PySem PySem.W PyProof.Rows PySem.Spec
namespace Mine
open PySem.Builtin.Int (intBits)

local macro_rules | `(tactic| walk_at "binaryOp Mult int int") => `(tactic| (k_here; (with_reducible refine mul_int ?_ ?hm); (case hm => assumption)))
local macro_rules | `(tactic| walk_at "call builtin:divmod") => `(tactic| ((with_reducible show wpAny _ _ (call (Value.builtin _) [Value.int _ _, Value.int _ _]) _ _ _); (refine divmod_N (by assumption) (by assumption) ?hb ?_ (Or.inl ?hp)); (case hp => assumption); (case hb => assumption); intro _ _ _))
set_option maxRecDepth 100000 in
set_option maxHeartbeats 8000000 in
theorem nearest_walk (w : World) (loose : List Str) (mean : ExcName → Option Value) (mg mb : Str → Option Value) (t b : Nat) (t1 t2 : Tok) (ht : 0 < t) (hb : 0 < b) (h3 : intBits (t : Int) ≤ 3000) (h4 : intBits (b : Int) ≤ 3000) :
    CallAt 20 w loose mean mg mb 490 [.int t t1, .int b t2] (IsPair (lnear t b) (lpow t b)) := by
  w_top off
  unfold CallAt
  k_fill
  intro dp un gd cn cs a ccd cl outer A₀ base h₀ L m news s Q E B F X N T hk hd hu hret
  refine wpAny_call ?_
  by_cases hs : 0 ≤ zSh (t : Int) (b : Int)
  · obtain ⟨e1, e2⟩ := zWA_eq hb hs
    obtain ⟨f1, f2⟩ := zW_facts ht hb e1
    have f3 : IntMulOk (t : Int) (2 ^ (zSh (t : Int) (b : Int)).toNat) := IntMulOk.of_le h3 (Nat.le_of_eq (bits_pow _)) (by unfold zSh; omega)
    have f4 : (b : Int) ≠ 0 := by omega
    have f5 : Builtin.divisionGoesByPylong ((t : Int) * 2 ^ (zSh (t : Int) (b : Int)).toNat) b = false := py_of (by omega)
    dsimp only [zSh, zWA, zDr] at hs f1 f2 f3 f5
    k_dflt ktr_enter
    k_steps
    all_goals (refine ret2 hret (by assumption) (by assumption) (fun p hp => .tail _ hp) (And.right (by assumption)) ?_ (near_lp ht hb e1))
    all_goals (first | exact near_l1 ht hb e1 (by assumption) | exact near_l2 ht hb e1 e2 (by assumption) (by assumption) | exact near_l3 ht hb e1 (by assumption) (by assumption) | exact near_l4 ht hb e1 (by assumption) (by assumption) | exact near_l5 ht hb e1 e2 (by assumption) (by assumption) (by assumption))
  · obtain ⟨e1, e2⟩ := zWB_eq hb hs
    obtain ⟨f1, f2⟩ := zW_facts ht hb e1
    have f3 : IntMulOk (b : Int) (2 ^ (0 - zSh (t : Int) (b : Int)).toNat) := IntMulOk.of_le h4 (Nat.le_of_eq (bits_pow _)) (by unfold zSh; omega)
    have f4 : (b : Int) * 2 ^ (0 - zSh (t : Int) (b : Int)).toNat ≠ 0 := by
      have := Int.mul_pos (show (0 : Int) < b by omega) (pow_gt (0 - zSh (t : Int) (b : Int)).toNat)
      omega
    have f5 : Builtin.divisionGoesByPylong (t : Int) ((b : Int) * 2 ^ (0 - zSh (t : Int) (b : Int)).toNat) = false := py_of (Nat.le_trans (intBits_mul_le h4 (Nat.le_of_eq (bits_pow _))) (by unfold zSh; omega))
    dsimp only [zSh, zWB, zDr] at hs f1 f2 f3 f4 f5
    k_dflt ktr_enter
    k_steps
    all_goals (refine ret2 hret (by assumption) (by assumption) (fun p hp => .tail _ hp) (And.right (by assumption)) ?_ (near_lp ht hb e1))
    all_goals (first | exact near_l1 ht hb e1 (by assumption) | exact near_l2 ht hb e1 e2 (by assumption) (by assumption) | exact near_l3 ht hb e1 (by assumption) (by assumption) | exact near_l4 ht hb e1 (by assumption) (by assumption) | exact near_l5 ht hb e1 e2 (by assumption) (by assumption) (by assumption))
end Mine
end

section
open PySem PySem.W PyProof.Rows PySem.Spec
namespace Mine
open PySem.Builtin.Int (intBits)
section
variable {prog : Program} {w : World} {A : Around} {E : Value → Shared → Prop} {s : Shared} {Q : Value → Shared → Prop} {t u : Tok}
theorem pow_lit {n v : Int} (k : Nat) (hn : n = (k : Int)) (hk : k ≤ 1000) (hv : (2 : Int) ^ k = v) (h : Q (.int v s.toks) { s with toks := s.toks + 1 }) : wpAny (model prog w) A (binaryOp .Pow (.int 2 t) (.int n u)) Q E s := by
  subst hn
  subst hv
  exact pow_int_small (by omega) (by omega) (by decide) (by rw [Int.toNat_natCast]; exact h)
theorem pow_8 (h : Q (.int 256 s.toks) { s with toks := s.toks + 1 }) : wpAny (model prog w) A (binaryOp .Pow (.int 2 t) (.int 8 u)) Q E s := pow_lit 8 rfl (by decide) (by decide) h
theorem pow_12 (h : Q (.int 4096 s.toks) { s with toks := s.toks + 1 }) : wpAny (model prog w) A (binaryOp .Pow (.int 2 t) (.int 12 u)) Q E s := pow_lit 12 rfl (by decide) (by decide) h
theorem pow_40 (h : Q (.int 1099511627776 s.toks) { s with toks := s.toks + 1 }) : wpAny (model prog w) A (binaryOp .Pow (.int 2 t) (.int 40 u)) Q E s := pow_lit 40 rfl (by decide) (by decide) h
theorem pow_44 (h : Q (.int 17592186044416 s.toks) { s with toks := s.toks + 1 }) : wpAny (model prog w) A (binaryOp .Pow (.int 2 t) (.int 44 u)) Q E s := pow_lit 44 rfl (by decide) (by decide) h
theorem pow_51 (h : Q (.int 2251799813685248 s.toks) { s with toks := s.toks + 1 }) : wpAny (model prog w) A (binaryOp .Pow (.int 2 t) (.int 51 u)) Q E s := pow_lit 51 rfl (by decide) (by decide) h
theorem pow_52 (h : Q (.int 4503599627370496 s.toks) { s with toks := s.toks + 1 }) : wpAny (model prog w) A (binaryOp .Pow (.int 2 t) (.int 52 u)) Q E s := pow_lit 52 rfl (by decide) (by decide) h
theorem pow_63 (h : Q (.int 9223372036854775808 s.toks) { s with toks := s.toks + 1 }) : wpAny (model prog w) A (binaryOp .Pow (.int 2 t) (.int 63 u)) Q E s := pow_lit 63 rfl (by decide) (by decide) h
end
-- the library keeps its lines by their number: two parts of one file may not bear the same number of them one behind the other
local macro_rules | `(tactic| walk_at "no such key") => `(tactic| fail)
local macro_rules | `(tactic| walk_at "binaryOp Pow int int") => `(tactic| (k_here; (with_reducible first | refine pow_52 ?_ | refine pow_63 ?_ | refine pow_51 ?_ | refine pow_12 ?_ | refine pow_40 ?_ | refine pow_44 ?_ | refine pow_8 ?_)))
local macro_rules | `(tactic| walk_at "subscriptTail List cons BinOp ref int") => `(tactic| (k_here; (with_reducible show wpAny _ _ (subscriptTail _ _ (Value.ref _) (Value.int _ _)) _ _ _); (with_unfolding_all refine' item_anyK ?k1 ?k2 ?k3 ?k4 ?k5 ?_ ?k6; (case k1 => is_list); (case k2 => l_ints); (case k3 => l_idx); (case k4 => l_idx); (case k5 => l_idx); (case k6 => with_unfolding_all rfl); k_whole); intro _; walk_say "MENU"))

def endsI (r : Int) : Int := [0, 1, 2, 2251799813685248, 4503599627370496 - 1, 4503599627370496 - 2, (r.fdiv 8).fmod 4503599627370496, (r.fdiv 8).fmod 4096 * 1099511627776].getD (r.fmod 8).toNat 0
def topsI (r : Int) : Int := [0, 0, 1, 2046, 2045, 2000].getD (r.fmod 6).toNat 0
/-- what _law_bits hands back -/
def bitsI (n : Int) : Int :=
  if n.fmod 6 = 0 then (n.fdiv 6).fmod 2 * 9223372036854775808 + ((n.fdiv 6).fdiv 2).fmod 2047 * 4503599627370496 + (((n.fdiv 6).fdiv 2).fdiv 2047).fmod 4503599627370496
  else if n.fmod 6 = 1 then (n.fdiv 6).fmod 2 * 9223372036854775808 + (993 + ((n.fdiv 6).fdiv 2).fmod 64) * 4503599627370496 + (((n.fdiv 6).fdiv 2).fdiv 64).fmod 4503599627370496
  else if n.fmod 6 = 2 then (n.fdiv 6).fmod 2 * 9223372036854775808 + (1023 + (((n.fdiv 6).fdiv 2).fdiv 8).fmod 34) * 4503599627370496 + endsI ((n.fdiv 6).fdiv 2)
  else if n.fmod 6 = 3 then (n.fdiv 6).fmod 2 * 9223372036854775808 + (1013 + ((n.fdiv 6).fdiv 2).fmod 16) * 4503599627370496 + (((n.fdiv 6).fdiv 2).fdiv 16).fmod 256 * 17592186044416
  else if n.fmod 6 = 4 then (n.fdiv 6).fmod 2 * 9223372036854775808 + (967 + ((n.fdiv 6).fdiv 2).fmod 6) * 4503599627370496 + endsI ((n.fdiv 6).fdiv 2)
  else (n.fdiv 6).fmod 2 * 9223372036854775808 + topsI ((n.fdiv 6).fdiv 2) * 4503599627370496 + (((n.fdiv 6).fdiv 2).fdiv 6).fmod 4503599627370496

theorem fm (a k : Int) (hk : 0 < k) : 0 ≤ a.fmod k ∧ a.fmod k < k := by
  rw [Int.fmod_eq_emod_of_nonneg _ (by omega)]
  exact ⟨Int.emod_nonneg _ (by omega), Int.emod_lt_of_pos _ (by omega)⟩
theorem getD_all {P : Int → Prop} (d : Int) (h0 : P d) : ∀ (l : List Int) (_ : ∀ x ∈ l, P x) (j : Nat), P (l.getD j d)
  | [], _, j => by simpa using h0
  | x :: r, h, 0 => h x (.head _)
  | x :: r, h, j + 1 => by
    have := getD_all d h0 r (fun y hy => h y (.tail _ hy)) j
    simpa using this
theorem endsI_in (r : Int) : 0 ≤ endsI r ∧ endsI r < 4503599627370496 := by
  unfold endsI
  have h1 := fm (r.fdiv 8) 4503599627370496 (by decide)
  have h2 := fm (r.fdiv 8) 4096 (by decide)
  refine getD_all (P := fun x => 0 ≤ x ∧ x < 4503599627370496) 0 (by decide) _ (fun x hx => ?_) _
  simp only [List.mem_cons, List.not_mem_nil, or_false] at hx
  rcases hx with rfl | rfl | rfl | rfl | rfl | rfl | rfl | rfl <;> omega
theorem topsI_in (r : Int) : 0 ≤ topsI r ∧ topsI r < 2047 := by
  unfold topsI
  refine getD_all (P := fun x => 0 ≤ x ∧ x < 2047) 0 (by decide) _ (fun x hx => ?_) _
  simp only [List.mem_cons, List.not_mem_nil, or_false] at hx
  rcases hx with rfl | rfl | rfl | rfl | rfl | rfl <;> omega
/-- the bits of a finite float -/
def OkBits (b : Int) : Prop := 0 ≤ b ∧ b < 18446744073709551616 ∧ b.toNat / 4503599627370496 % 2048 ≠ 2047
theorem ok_of {s f m : Int} (hs : 0 ≤ s ∧ s < 2) (hf : 0 ≤ f ∧ f < 2047) (hm : 0 ≤ m ∧ m < 4503599627370496) : OkBits (s * 9223372036854775808 + f * 4503599627370496 + m) := by
  unfold OkBits
  refine ⟨by omega, by omega, ?_⟩
  omega
theorem bitsI_ok (n : Int) : OkBits (bitsI n) := by
  have hs := fm (n.fdiv 6) 2 (by decide)
  unfold bitsI
  split
  · exact ok_of hs (fm _ 2047 (by decide)) (fm _ 4503599627370496 (by decide))
  split
  · have := fm ((n.fdiv 6).fdiv 2) 64 (by decide)
    exact ok_of hs (by omega) (fm _ 4503599627370496 (by decide))
  split
  · have := fm (((n.fdiv 6).fdiv 2).fdiv 8) 34 (by decide)
    exact ok_of hs (by omega) (endsI_in _)
  split
  · have := fm ((n.fdiv 6).fdiv 2) 16 (by decide)
    have := fm (((n.fdiv 6).fdiv 2).fdiv 16) 256 (by decide)
    exact ok_of hs (by omega) (by omega)
  split
  · have := fm ((n.fdiv 6).fdiv 2) 6 (by decide)
    exact ok_of hs (by omega) (endsI_in _)
  · exact ok_of hs (topsI_in _) (fm _ 4503599627370496 (by decide))

set_option maxRecDepth 100000 in
set_option maxHeartbeats 8000000 in
theorem bits_walk (w : World) (loose : List Str) (mean : ExcName → Option Value) (mg mb : Str → Option Value) (n : Int) (t1 : Tok) :
    CallAt 20 w loose mean mg mb 504 [.int n t1] (IsOne (bitsI n)) := by
  w_top off
  unfold CallAt
  k_fill
  intro dp un gd cn cs a ccd cl outer A₀ base h₀ L m news s Q E B F X N T hk hd hu hret
  refine wpAny_call ?_
  k_dflt ktr_enter
  k_steps
  all_goals (refine ret1 hret (by assumption) (by assumption) (fun p hp => by first | exact hp | exact .tail _ hp | exact .tail _ (.tail _ hp)) ?_; unfold bitsI; simp only [*, if_true, if_false]; first | done | rfl | (unfold endsI; rfl))
end Mine
end

section
open PySem PySem.Float64
namespace Mine
set_option exponentiation.threshold 4000

/-- a finite float: its sign and its size in units of 2^-1074 -/
def IsF (x : UInt64) (neg : Bool) (t : Nat) : Prop := x = pack neg t ∧ t < infMag

theorem IsF.dec {x : UInt64} {neg : Bool} {t : Nat} (h : IsF x neg t) : ∃ m e, decode x = .fin neg m e ∧ m * 2 ^ (e + 1074).toNat = V t := by
  obtain ⟨rfl, h⟩ := h
  exact decode_pack neg h
theorem IsF.val {x : UInt64} {neg : Bool} {t : Nat} (h : IsF x neg t) : Float64.val x = sgn neg (V t) := by
  obtain ⟨rfl, h⟩ := h
  exact val_pack neg h

theorem V_inj {t t' : Nat} (h : V t = V t') : t = t' := by
  rcases Nat.lt_trichotomy t t' with h1 | h1 | h1
  · have := V_lt h1; omega
  · exact h1
  · have := V_lt h1; omega
theorem infMag_eq : infMag = 2046 * 2 ^ 52 + 2 ^ 52 := by unfold infMag; omega
theorem V_lt_inf {t : Nat} (h : t < infMag) : V t ≤ (2 ^ 53 - 1) * 2 ^ 2045 := by
  have e : infMag - 1 = 2045 * 2 ^ 52 + (2 ^ 53 - 1) := by unfold infMag; omega
  have h1 := V_at (k := 2045) (q := 2 ^ 53 - 1) (by omega) (.inl (by omega))
  rw [← e] at h1
  rw [← h1]
  exact V_mono (by omega)

/-- exact results -/
theorem exact_of {r : UInt64} {neg : Bool} {W D t : Nat} (hR : Right r neg W D) (hD : 0 < D) (ht : t < infMag) (hW : W = D * V t) : IsF r neg t := by
  obtain ⟨t0, hr, hle, hinf, hnear⟩ := hR
  have hV := V_lt_inf ht
  have hlt : t0 < infMag := by
    rcases Nat.lt_or_ge t0 infMag with h | h
    · exact h
    · exfalso
      have h0 : t0 = infMag := by omega
      have h1 := hinf.mp h0
      rw [hW] at h1
      have h2 : 2 * (D * V t) = D * (2 * V t) := by ac_rfl
      rw [h2] at h1
      have h3 := Nat.le_of_mul_le_mul_left h1 hD
      have hZ := Nat.two_pow_pos 2045
      generalize (2 : Nat) ^ 2045 = Z at *
      omega
  have h := (hnear hlt t).1
  rw [← hW] at h
  have h0 : dist W W = 0 := by unfold dist; omega
  rw [h0] at h
  have h1 : W = D * V t0 := by unfold dist at h; omega
  rw [hW] at h1
  have h2 := V_inj (Nat.eq_of_mul_eq_mul_left hD h1)
  rw [h2]
  exact ⟨by rw [hr], hlt⟩

/-- what 53 bits hold -/
theorem rep (q j : Nat) (hq : q < 2 ^ 53) (hj : j ≤ 2045) : ∃ t, t < infMag ∧ V t = q * 2 ^ j := by
  by_cases h0 : q = 0
  · subst h0
    exact ⟨0, by unfold infMag; omega, by rw [V_zero]; omega⟩
  have h1 := Nat.log2_self_le h0
  have h2 := @Nat.lt_log2_self q
  have h3 : q.log2 ≤ 52 := by
    have := (Nat.log2_lt h0).mpr hq
    omega
  generalize q.log2 = l at *
  by_cases hs : l + j ≤ 52
  · have hlt : q * 2 ^ j < 2 ^ 53 := by
      have a1 := (Nat.mul_lt_mul_right (Nat.two_pow_pos j)).mpr h2
      have a2 : 2 ^ (l + 1) * 2 ^ j ≤ 2 ^ 53 := by
        rw [← Nat.pow_add]
        exact Nat.pow_le_pow_right (by decide) (by omega)
      omega
    have := V_at (k := 0) (q := q * 2 ^ j) (by omega) (.inr rfl)
    rw [Nat.zero_mul, Nat.zero_add, Nat.pow_zero, Nat.mul_one] at this
    exact ⟨q * 2 ^ j, by unfold infMag; omega, this⟩
  · have a1 : 2 ^ 52 ≤ q * 2 ^ (52 - l) := by
      have := Nat.mul_le_mul_right (2 ^ (52 - l)) h1
      rw [← Nat.pow_add, show l + (52 - l) = 52 by omega] at this
      exact this
    have a2 : q * 2 ^ (52 - l) < 2 ^ 53 := by
      have := (Nat.mul_lt_mul_right (Nat.two_pow_pos (52 - l))).mpr h2
      rw [← Nat.pow_add, show l + 1 + (52 - l) = 53 by omega] at this
      exact this
    have := V_at (k := l + j - 52) (q := q * 2 ^ (52 - l)) (by omega) (.inl a1)
    rw [Nat.mul_assoc, ← Nat.pow_add, show 52 - l + (l + j - 52) = j by omega] at this
    refine ⟨_, ?_, this⟩
    have hk : l + j - 52 ≤ 2045 := by omega
    have := Nat.mul_le_mul_right (2 ^ 52) hk
    unfold infMag
    omega

theorem decode_one : decode one = .fin false (2 ^ 52) (-52) := by with_unfolding_all rfl
theorem one_isF : IsF one false (1023 * 2 ^ 52) := ⟨by decide, by decide⟩
theorem V_one : V (1023 * 2 ^ 52) = 2 ^ 1074 := by
  have h := V_at (k := 1022) (q := 2 ^ 52) (by omega) (.inl (by omega))
  rw [← Nat.pow_add] at h
  have e : 1022 * 2 ^ 52 + 2 ^ 52 = 1023 * 2 ^ 52 := by omega
  rw [e] at h
  exact h
theorem val_one : Float64.val one = ((2 ^ 1074 : Nat) : Int) := by
  rw [one_isF.val, V_one]
  rfl

theorem sgn_zero (b : Bool) : sgn b 0 = 0 := by cases b <;> rfl
theorem zero_isF (b : Bool) : IsF (zero b) b 0 := ⟨rfl, by unfold infMag; omega⟩

/-- what stands to be taken apart: W units of 2^-1074 -/
structure Fin53 (W : Nat) (m j : Nat) : Prop where
  eq : W = m * 2 ^ j
  small : m < 2 ^ 53
  low : j ≤ 2045

theorem decode_fin53 {x : UInt64} {neg : Bool} {m : Nat} {e : Int} (h : decode x = .fin neg m e) : Fin53 (m * 2 ^ (e + 1074).toNat) m (e + 1074).toNat := by
  refine ⟨rfl, ?_, ?_⟩
  · unfold decode at h
    simp only at h
    split at h
    · split at h <;> cases h
    · split at h
      · cases h; omega
      · cases h; omega
  · unfold decode at h
    simp only at h
    split at h
    · split at h <;> cases h
    · rename_i h0
      have h1 : x.toNat / 2 ^ 52 % 2048 ≠ 2047 := by simpa using h0
      split at h
      · cases h; omega
      · cases h; omega

theorem mod_fin53 {W m j : Nat} (h : Fin53 W m j) : ∃ m' j', Fin53 (W % 2 ^ 1074) m' j' := by
  obtain ⟨rfl, hm, hj⟩ := h
  by_cases hjj : 1074 ≤ j
  · refine ⟨0, 0, ?_, by decide, by omega⟩
    rw [show j = 1074 + (j - 1074) by omega, Nat.pow_add, Nat.mul_comm (2 ^ 1074), ← Nat.mul_assoc, Nat.mul_mod_left]
  · refine ⟨m % 2 ^ (1074 - j), j, ?_, Nat.lt_of_le_of_lt (Nat.mod_le _ _) hm, hj⟩
    rw [show (2 : Nat) ^ 1074 = 2 ^ (1074 - j) * 2 ^ j by rw [← Nat.pow_add]; congr 1; omega, Nat.mul_mod_mul_right]
theorem div_fin53 {W m j : Nat} (h : Fin53 W m j) : ∃ m' j', Fin53 (W / 2 ^ 1074 * 2 ^ 1074) m' j' := by
  obtain ⟨rfl, hm, hj⟩ := h
  by_cases hjj : 1074 ≤ j
  · refine ⟨m, j, ?_, hm, hj⟩
    rw [show j = 1074 + (j - 1074) by omega, Nat.pow_add, Nat.mul_comm (2 ^ 1074), ← Nat.mul_assoc, Nat.mul_div_cancel _ (Nat.two_pow_pos _)]
  · refine ⟨m / 2 ^ (1074 - j), 1074, ?_, Nat.lt_of_le_of_lt (Nat.div_le_self _ _) hm, by omega⟩
    congr 1
    rw [show (2 : Nat) ^ 1074 = 2 ^ (1074 - j) * 2 ^ j by rw [← Nat.pow_add]; congr 1; omega, Nat.mul_div_mul_right _ _ (Nat.two_pow_pos _)]
/-- with a part of a second, one more whole second has room -/
theorem succ_fin53 {W m j : Nat} (h : Fin53 W m j) (hr : W % 2 ^ 1074 ≠ 0) : ∃ m' j', Fin53 ((W / 2 ^ 1074 + 1) * 2 ^ 1074) m' j' := by
  obtain ⟨rfl, hm, hj⟩ := h
  by_cases hjj : 1074 ≤ j
  · exfalso
    apply hr
    rw [show j = 1074 + (j - 1074) by omega, Nat.pow_add, Nat.mul_comm (2 ^ 1074), ← Nat.mul_assoc, Nat.mul_mod_left]
  · refine ⟨m / 2 ^ (1074 - j) + 1, 1074, ?_, ?_, by omega⟩
    · congr 2
      rw [show (2 : Nat) ^ 1074 = 2 ^ (1074 - j) * 2 ^ j by rw [← Nat.pow_add]; congr 1; omega, Nat.mul_div_mul_right _ _ (Nat.two_pow_pos _)]
    · have : 2 ≤ 2 ^ (1074 - j) := by
        have := Nat.pow_le_pow_right (n := 2) (by decide) (show 1 ≤ 1074 - j by omega)
        simpa using this
      have h2 : m / 2 ^ (1074 - j) ≤ m / 2 := Nat.div_le_div_left this (by decide)
      omega
theorem Fin53.isF {W m j : Nat} (h : Fin53 W m j) : ∃ t, t < infMag ∧ V t = W := by
  obtain ⟨t, a, b⟩ := rep m j h.small h.low
  exact ⟨t, a, b.trans h.eq.symm⟩

/-- trunc of a finite float -/
theorem trunc_val {m : Nat} {e : Int} (neg : Bool) (he : -1074 ≤ e) : truncOf neg m e = sgn neg (m * 2 ^ (e + 1074).toNat / 2 ^ 1074) := by
  have hpow : ∀ n : Nat, ((2 ^ n : Nat) : Int) = (2 : Int) ^ n := fun n => by simp
  have key : floorOf false m e = ((m * 2 ^ (e + 1074).toNat / 2 ^ 1074 : Nat) : Int) := by
    unfold floorOf
    split
    · rename_i h
      have h1 : (e + 1074).toNat = e.toNat + 1074 := by omega
      rw [h1, Nat.pow_add, ← Nat.mul_assoc, Nat.mul_div_cancel _ (Nat.two_pow_pos _)]
      show (m : Int) * 2 ^ e.toNat = _
      rw [Int.natCast_mul, hpow]
    · rename_i h
      have h1 : (2 : Nat) ^ 1074 = 2 ^ (-e).toNat * 2 ^ (e + 1074).toNat := by rw [← Nat.pow_add]; congr 1; omega
      rw [h1, Nat.mul_div_mul_right _ _ (Nat.two_pow_pos _)]
      show ((m : Int)).fdiv (2 ^ (-e).toNat) = _
      rw [← hpow, Int.fdiv_eq_ediv_of_nonneg _ (by exact Int.natCast_nonneg _)]
      rfl
  unfold truncOf
  cases neg
  · simpa [sgn] using key
  · simp only [if_true]
    show ceilOf true m e = _
    unfold ceilOf
    rw [show (!true) = false by rfl, key]
    rfl
theorem IsF.trunc {x : UInt64} {neg : Bool} {t : Nat} (h : IsF x neg t) : ∃ m e, decode x = .fin neg m e ∧ truncOf neg m e = sgn neg (V t / 2 ^ 1074) := by
  obtain ⟨m, e, hd, hv⟩ := h.dec
  exact ⟨m, e, hd, by rw [trunc_val neg (decode_ge hd), hv]⟩
end Mine
end

section
open PySem PySem.Float64
namespace Mine
set_option exponentiation.threshold 4000

theorem fmod_one {x : UInt64} {neg : Bool} {t : Nat} (hx : IsF x neg t) : ∃ r, IsF (fmod x one) neg r ∧ V r = V t % 2 ^ 1074 := by
  obtain ⟨m, e, hd, hv⟩ := hx.dec
  have he := decode_ge hd
  have hf := decode_fin53 hd
  rw [hv] at hf
  obtain ⟨m', j', hf'⟩ := mod_fin53 hf
  obtain ⟨r, hr, hV⟩ := hf'.isF
  refine ⟨r, ?_, hV⟩
  have hfm : fmod x one = ofBin neg ((m * 2 ^ (e - min e (-52)).toNat) % (2 ^ 52 * 2 ^ (-52 - min e (-52)).toNat)) (min e (-52)) := by
    unfold fmod
    rw [hd, decode_one]
    simp only
    rw [if_neg (by decide)]
    unfold align
    simp only
    congr 1
  rw [hfm]
  generalize hg : min e (-52) = g at *
  have hge : -1074 ≤ g := by omega
  have key : (m * 2 ^ (e - g).toNat) % (2 ^ 52 * 2 ^ (-52 - g).toNat) * 2 ^ (g + 1074).toNat = V t % 2 ^ 1074 := by
    rw [← Nat.mul_mod_mul_right, Nat.mul_assoc, ← Nat.pow_add, Nat.mul_assoc, ← Nat.pow_add, ← Nat.pow_add, ← hv]
    have e1 : (e - g).toNat + (g + 1074).toNat = (e + 1074).toNat := by omega
    have e2 : 52 + ((-52 - g).toNat + (g + 1074).toNat) = 1074 := by omega
    rw [e1, e2]
  generalize (m * 2 ^ (e - g).toNat) % (2 ^ 52 * 2 ^ (-52 - g).toNat) = M at *
  unfold ofBin
  refine exact_of (W := M * 2 ^ (g + 1074).toNat) (D := 1) (ofFrac_right (shift_pos _ _ _ (by decide)) ?_ (by decide)) (by decide) hr ?_
  · have := shift_one M g 1074 (by omega)
    rw [Nat.mul_one]
    exact this
  · rw [key, hV, Nat.one_mul]

/-- a float that is a whole number of units: its sign where it is nought is not said -/
def IsZ (x : UInt64) (v : Int) : Prop := ∃ b t, IsF x b t ∧ sgn b (V t) = v

theorem isZ_of_right {r : UInt64} {W : Int} {m j : Nat} (h : Fin53 W.natAbs m j) (hR : Right r (decide (W < 0)) W.natAbs 1) : IsZ r W := by
  obtain ⟨t, ht, hV⟩ := h.isF
  refine ⟨_, t, exact_of hR (by decide) ht (by rw [hV, Nat.one_mul]), ?_⟩
  rw [hV]
  unfold sgn
  by_cases h0 : W < 0
  · rw [decide_eq_true h0]
    simp only [if_true]
    omega
  · rw [decide_eq_false h0]
    simp only [Bool.false_eq_true, if_false]
    omega
theorem IsZ.dec {x : UInt64} {v : Int} (h : IsZ x v) : ∃ b m e, decode x = .fin b m e ∧ Float64.val x = v ∧ m * 2 ^ (e + 1074).toNat = v.natAbs := by
  obtain ⟨b, t, hx, rfl⟩ := h
  obtain ⟨m, e, hd, hv⟩ := hx.dec
  refine ⟨b, m, e, hd, hx.val, ?_⟩
  rw [sgn_natAbs, hv]

theorem sub_exact {x y : UInt64} {v u : Int} {m j : Nat} (hx : IsZ x v) (hy : IsZ y u) (h : Fin53 (v - u).natAbs m j) : IsZ (sub x y) (v - u) := by
  obtain ⟨a, m1, e1, d1, v1, _⟩ := hx.dec
  obtain ⟨b, m2, e2, d2, v2, _⟩ := hy.dec
  have hs := sub_right d1 d2
  rw [v1, v2] at hs
  by_cases h0 : v - u = 0
  · rw [hs.1 h0, h0]
    exact ⟨_, 0, zero_isF _, by rw [V_zero, sgn_zero]⟩
  · exact isZ_of_right h (hs.2 h0)
theorem one_isZ : IsZ one ((2 ^ 1074 : Nat) : Int) := ⟨false, _, one_isF, by rw [V_one]; rfl⟩
theorem IsF.isZ {x : UInt64} {b : Bool} {t : Nat} (h : IsF x b t) : IsZ x (sgn b (V t)) := ⟨b, t, h, rfl⟩

/-- divided by one: the same -/
theorem div_one {x : UInt64} {v : Int} (hx : IsZ x v) : IsZ (div x one) v := by
  obtain ⟨b, t, hx, rfl⟩ := hx
  obtain ⟨m, e, hd, hv⟩ := hx.dec
  have hR := div_right hd decode_one (by decide)
  rw [hx.val, val_one, sgn_natAbs, Int.natAbs_natCast] at hR
  have := exact_of hR (Nat.two_pow_pos _) hx.2 (Nat.mul_comm _ _)
  exact ⟨_, t, this, by simp⟩

theorem isZero_iff {x : UInt64} {v : Int} (hx : IsZ x v) : isZero x = decide (v = 0) := by
  obtain ⟨b, m, e, hd, hv, hm⟩ := hx.dec
  have hp := Nat.two_pow_pos (e + 1074).toNat
  unfold isZero
  rw [hd]
  cases m with
  | zero =>
    have h0 : v = 0 := by omega
    rw [decide_eq_true h0]
    rfl
  | succ k =>
    have h0 : v ≠ 0 := by
      intro h
      subst h
      have h9 : 0 < (k + 1) * 2 ^ (e + 1074).toNat := Nat.mul_pos (Nat.succ_pos k) hp
      rw [hm] at h9
      simp at h9
    rw [decide_eq_false h0]
    rfl

/-- a whole number of seconds: its floor is itself -/
theorem floorF_whole {x : UInt64} {n : Int} (hx : IsZ x (n * ((2 ^ 1074 : Nat) : Int))) : IsZ (floorF x) (n * ((2 ^ 1074 : Nat) : Int)) := by
  have hx0 := hx
  obtain ⟨b, t, hF, hs⟩ := hx
  obtain ⟨m, e, hd, hv⟩ := hF.dec
  have he := decode_ge hd
  have hKp : (0 : Int) < ((2 ^ 1074 : Nat) : Int) := Int.ofNat_lt.mpr (Nat.two_pow_pos _)
  have hfl : floorOf b m e = n := by
    have hpow : ∀ n : Nat, ((2 ^ n : Nat) : Int) = (2 : Int) ^ n := fun n => by simp
    rw [← hv, sgn_mul] at hs
    unfold floorOf
    split
    · rename_i h
      have h1 : (e + 1074).toNat = e.toNat + 1074 := by omega
      rw [h1, Nat.pow_add, Int.natCast_mul, ← Int.mul_assoc] at hs
      have := Int.eq_of_mul_eq_mul_right (by omega) hs
      rw [← hpow]
      exact this
    · rename_i h
      have h1 : (2 : Nat) ^ 1074 = 2 ^ (-e).toNat * 2 ^ (e + 1074).toNat := by rw [← Nat.pow_add]; congr 1; omega
      have hq : (0 : Int) < ((2 ^ (e + 1074).toNat : Nat) : Int) := Int.ofNat_lt.mpr (Nat.two_pow_pos _)
      rw [h1, Int.natCast_mul, ← Int.mul_assoc] at hs
      have := Int.eq_of_mul_eq_mul_right (by omega) hs
      rw [this, ← hpow, Int.fdiv_eq_ediv_of_nonneg _ (by exact Int.natCast_nonneg _), Int.mul_ediv_cancel _ (by have := Nat.two_pow_pos (-e).toNat; omega)]
  have hff : floorF x = if n == 0 then zero b else ofInt n := by
    unfold floorF
    rw [hd]
    simp only [hfl]
  rw [hff]
  by_cases h0 : n = 0
  · subst h0
    simp only [beq_self_eq_true, if_true, Int.zero_mul]
    exact ⟨_, 0, zero_isF _, by rw [V_zero, sgn_zero]⟩
  · rw [if_neg (by simpa using h0)]
    have hR := ofInt_right n
    have hna : (n * ((2 ^ 1074 : Nat) : Int)).natAbs = n.natAbs * 2 ^ 1074 := by rw [Int.natAbs_mul, Int.natAbs_natCast]
    have hneg : decide (n < 0) = decide (n * ((2 ^ 1074 : Nat) : Int) < 0) := by
      apply decide_eq_decide.mpr
      constructor
      · intro h; exact Int.mul_neg_of_neg_of_pos h hKp
      · intro h
        by_cases h2 : n < 0
        · exact h2
        · have := Int.mul_nonneg (show 0 ≤ n by omega) (Int.le_of_lt hKp)
          omega
    rw [hneg, ← hna] at hR
    have hf := decode_fin53 hd
    rw [hv, ← sgn_natAbs b (V t), hs] at hf
    exact isZ_of_right hf hR

/-- the middle of divmod: from d, the quotient -/
theorem quot_whole {x d : UInt64} {n : Int} {v : Int} (hx : IsZ x v) (hd : IsZ d (n * ((2 ^ 1074 : Nat) : Int))) :
    IsZ (if isZero d then copysign (zero false) (div x one) else if gt (sub d (floorF d)) half then add (floorF d) one else floorF d) (n * ((2 ^ 1074 : Nat) : Int)) := by
  rw [isZero_iff hd]
  by_cases h0 : n * ((2 ^ 1074 : Nat) : Int) = 0
  · rw [h0, decide_eq_true rfl, if_pos rfl]
    obtain ⟨b, t, hq, _⟩ := div_one hx
    obtain ⟨m, e, hdd, _⟩ := hq.dec
    have hnn : isNaN (zero false) = false := by decide +kernel
    unfold copysign
    rw [hnn]
    simp only [Bool.false_eq_true, if_false]
    have : (zero false).toNat % 2 ^ 63 = 0 := by decide
    rw [this]
    exact ⟨_, 0, zero_isF _, by rw [V_zero, sgn_zero]⟩
  · rw [decide_eq_false h0]
    simp only [Bool.false_eq_true, if_false]
    have hf := floorF_whole hd
    have hs : IsZ (sub d (floorF d)) 0 := by
      have := sub_exact (m := 0) (j := 0) hd hf (by rw [Int.sub_self]; exact ⟨rfl, by decide, by decide⟩)
      rw [Int.sub_self] at this
      exact this
    have hgt : gt (sub d (floorF d)) half = false := by
      obtain ⟨b, m, e, hdd, hv, _⟩ := hs.dec
      have hh : decode half = .fin false (2 ^ 52) (-53) := by with_unfolding_all rfl
      unfold gt
      rw [cmp_right hdd hh, hv]
      have : (0 : Int) < Float64.val half := by
        rw [val_eq hh]
        unfold sgn
        simp only [Bool.false_eq_true, if_false]
        have := Nat.two_pow_pos ((-53 : Int) + 1074).toNat
        have := Nat.mul_pos (show 0 < 2 ^ 52 by decide) this
        omega
      rw [Int.compare_eq_lt.mpr this]
      rfl
    rw [hgt]
    exact hf

/-- divmod by one: where no part of a second is over -/
theorem divmod_whole {x : UInt64} {neg : Bool} {t : Nat} (hx : IsF x neg t) (h0 : V t % 2 ^ 1074 = 0) :
    IsZ (divmod x one).1 (sgn neg (V t)) ∧ IsF (divmod x one).2 false 0 := by
  obtain ⟨r, hr, hVr⟩ := fmod_one hx
  rw [h0] at hVr
  have hr0 : IsZ (fmod x one) 0 := ⟨_, _, hr, by rw [hVr, sgn_zero]⟩
  have hsub : IsZ (sub x (fmod x one)) (sgn neg (V t)) := by
    obtain ⟨m, e, hd, hv⟩ := hx.dec
    have hf := decode_fin53 hd
    rw [hv, ← sgn_natAbs neg (V t)] at hf
    have := sub_exact hx.isZ hr0 (by rw [Int.sub_zero]; exact hf)
    rw [Int.sub_zero] at this
    exact this
  have hdv := div_one hsub
  have hn : sgn neg (V t) = sgn neg (V t / 2 ^ 1074) * ((2 ^ 1074 : Nat) : Int) := by
    rw [← sgn_mul, Nat.div_mul_cancel (Nat.dvd_of_mod_eq_zero h0)]
  have hq := quot_whole hx.isZ (hn ▸ hdv)
  rw [← hn] at hq
  have hz : isZero (fmod x one) = true := by
    rw [isZero_iff hr0]
    rfl
  unfold divmod
  simp only
  rw [hz]
  simp only [if_true]
  refine ⟨hq, ?_⟩
  have : copysign (zero false) one = zero false := by decide +kernel
  rw [this]
  exact zero_isF _

/-- .. where something is over, above nought -/
theorem divmod_above {x : UInt64} {t : Nat} (hx : IsF x false t) (h0 : V t % 2 ^ 1074 ≠ 0) :
    IsZ (divmod x one).1 ((V t / 2 ^ 1074 * 2 ^ 1074 : Nat) : Int) ∧ ∃ r, IsF (divmod x one).2 false r ∧ V r = V t % 2 ^ 1074 := by
  obtain ⟨r, hr, hVr⟩ := fmod_one hx
  obtain ⟨m, e, hd, hv⟩ := hx.dec
  have hf := decode_fin53 hd
  rw [hv] at hf
  obtain ⟨m', j', hf'⟩ := div_fin53 hf
  have hval : sgn false (V t) - sgn false (V r) = ((V t / 2 ^ 1074 * 2 ^ 1074 : Nat) : Int) := by
    rw [hVr]
    show ((V t : Nat) : Int) - ((V t % 2 ^ 1074 : Nat) : Int) = _
    have := Nat.div_add_mod (V t) (2 ^ 1074)
    rw [Nat.mul_comm] at this
    omega
  have hsub : IsZ (sub x (fmod x one)) ((V t / 2 ^ 1074 * 2 ^ 1074 : Nat) : Int) := by
    rw [← hval]
    refine sub_exact (m := m') (j := j') hx.isZ hr.isZ ?_
    rw [hval, Int.natAbs_natCast]
    exact hf'
  have hdv := div_one hsub
  rw [Int.natCast_mul] at hdv
  have hq := quot_whole hx.isZ hdv
  have hz : isZero (fmod x one) = false := by
    rw [isZero_iff hr.isZ]
    apply decide_eq_false
    rw [hVr]
    show ¬ (((V t % 2 ^ 1074 : Nat) : Int) = 0)
    omega
  have hlt1 : lt one (zero false) = false := by decide +kernel
  have hlt2 : lt (fmod x one) (zero false) = false := by
    obtain ⟨b, m1, e1, d1, v1, _⟩ := hr.isZ.dec
    unfold lt
    rw [cmp_right d1 (show decode (zero false) = .fin false 0 (-1074) by with_unfolding_all rfl), v1]
    have : Float64.val (zero false) = 0 := by rw [(zero_isF false).val, V_zero]; rfl
    rw [this]
    have h2 : ¬ (sgn false (V r) < 0) := by
      show ¬ (((V r : Nat) : Int) < 0)
      omega
    cases hc : compare (sgn false (V r)) 0 with
    | lt => exact absurd (Int.compare_eq_lt.mp hc) h2
    | eq => rfl
    | gt => rfl
  unfold divmod
  simp only
  rw [hz, hlt1, hlt2]
  simp only [Bool.false_eq_true, if_false, bne_self_eq_false]
  rw [← Int.natCast_mul] at hq
  exact ⟨hq, r, hr, hVr⟩

/-- .. and below -/
theorem divmod_below {x : UInt64} {t : Nat} (hx : IsF x true t) (h0 : V t % 2 ^ 1074 ≠ 0) :
    IsZ (divmod x one).1 ((-1 - (V t / 2 ^ 1074 : Nat) : Int) * ((2 ^ 1074 : Nat) : Int)) ∧ Right (divmod x one).2 false (2 ^ 1074 - V t % 2 ^ 1074) 1 := by
  obtain ⟨r, hr, hVr⟩ := fmod_one hx
  obtain ⟨m, e, hd, hv⟩ := hx.dec
  have hf := decode_fin53 hd
  rw [hv] at hf
  obtain ⟨m', j', hf'⟩ := div_fin53 hf
  obtain ⟨m2, j2, hf2⟩ := succ_fin53 hf h0
  have hval : sgn true (V t) - sgn true (V r) = -((V t / 2 ^ 1074 * 2 ^ 1074 : Nat) : Int) := by
    rw [hVr]
    show -((V t : Nat) : Int) - (-((V t % 2 ^ 1074 : Nat) : Int)) = _
    have := Nat.div_add_mod (V t) (2 ^ 1074)
    rw [Nat.mul_comm] at this
    omega
  have hsub : IsZ (sub x (fmod x one)) (-((V t / 2 ^ 1074 * 2 ^ 1074 : Nat) : Int)) := by
    rw [← hval]
    refine sub_exact (m := m') (j := j') hx.isZ hr.isZ ?_
    rw [hval, Int.natAbs_neg, Int.natAbs_natCast]
    exact hf'
  have hdv := div_one hsub
  have hone : -((V t / 2 ^ 1074 * 2 ^ 1074 : Nat) : Int) - ((2 ^ 1074 : Nat) : Int) = (-1 - (V t / 2 ^ 1074 : Nat) : Int) * ((2 ^ 1074 : Nat) : Int) := by
    rw [Int.sub_mul, Int.natCast_mul]
    omega
  have hd1 : IsZ (sub (div (sub x (fmod x one)) one) one) ((-1 - (V t / 2 ^ 1074 : Nat) : Int) * ((2 ^ 1074 : Nat) : Int)) := by
    rw [← hone]
    refine sub_exact (m := m2) (j := j2) hdv one_isZ ?_
    have : (-((V t / 2 ^ 1074 * 2 ^ 1074 : Nat) : Int) - ((2 ^ 1074 : Nat) : Int)).natAbs = (V t / 2 ^ 1074 + 1) * 2 ^ 1074 := by
      rw [Nat.add_mul]
      omega
    rw [this]
    exact hf2
  have hq := quot_whole hx.isZ hd1
  have hz : isZero (fmod x one) = false := by
    rw [isZero_iff hr.isZ]
    apply decide_eq_false
    rw [hVr]
    show ¬ (-((V t % 2 ^ 1074 : Nat) : Int) = 0)
    omega
  have hlt1 : lt one (zero false) = false := by decide +kernel
  obtain ⟨mr, er, dr, vr⟩ := hr.dec
  have hlt2 : lt (fmod x one) (zero false) = true := by
    unfold lt
    rw [cmp_right dr (show decode (zero false) = .fin false 0 (-1074) by with_unfolding_all rfl), hr.val]
    have : Float64.val (zero false) = 0 := by rw [(zero_isF false).val, V_zero]; rfl
    rw [this]
    have h2 : (sgn true (V r) < 0) := by
      show (-((V r : Nat) : Int) < 0)
      omega
    rw [Int.compare_eq_lt.mpr h2]
    rfl
  have hadd := (add_right dr decode_one).2
  rw [hr.val, val_one] at hadd
  have hs : sgn true (V r) + ((2 ^ 1074 : Nat) : Int) = ((2 ^ 1074 - V t % 2 ^ 1074 : Nat) : Int) := by
    show -((V r : Nat) : Int) + _ = _
    have := Nat.mod_lt (V t) (Nat.two_pow_pos 1074)
    omega
  have hlt := Nat.mod_lt (V t) (Nat.two_pow_pos 1074)
  rw [hs] at hadd
  have hadd := hadd (by omega)
  rw [Int.natAbs_natCast, decide_eq_false (by omega)] at hadd
  unfold divmod
  simp only
  rw [hz, hlt1, hlt2]
  simp only [Bool.false_eq_true, if_false, Bool.false_bne, if_true]
  exact ⟨hq, hadd⟩

theorem IsZ.trunc {x : UInt64} {n : Int} (h : IsZ x (n * ((2 ^ 1074 : Nat) : Int))) : ∃ b m e, decode x = .fin b m e ∧ truncOf b m e = n := by
  obtain ⟨b, t, hx, hs⟩ := h
  obtain ⟨m, e, hd, ht⟩ := hx.trunc
  refine ⟨b, m, e, hd, ?_⟩
  rw [ht]
  have hna := congrArg Int.natAbs hs
  rw [sgn_natAbs, Int.natAbs_mul, Int.natAbs_natCast] at hna
  have hK := Nat.two_pow_pos 1074
  rw [hna, Nat.mul_div_cancel _ hK]
  rw [hna, sgn_mul] at hs
  exact Int.eq_of_mul_eq_mul_right (by omega) hs
end Mine
end

section
open PySem PySem.Float64
namespace Mine
set_option exponentiation.threshold 4000

def nano (top below : Nat) : Nat :=
  if lpow (top * 10 ^ 9) below ≥ 0 then lnear (top * 10 ^ 9) below * 2 ^ (lpow (top * 10 ^ 9) below).toNat
  else lnear (top * 10 ^ 9) below / 2 ^ (-(lpow (top * 10 ^ 9) below)).toNat

def dField (b : Nat) : Nat := b / 2 ^ 52 % 2048
def dKeep (b : Nat) : Nat := if dField b = 0 then b % 2 ^ 52 else b % 2 ^ 52 + 2 ^ 52
def dPow (b : Nat) : Int := if dField b = 0 then -1074 else (dField b : Int) - 1075
def dUnit (b : Nat) : Nat := 2 ^ (-(dPow b)).toNat
def dueN (b : Nat) : Option (Int × Int) :=
  if dKeep b = 0 then some (0, 0)
  else if dPow b ≥ 0 then some (if b < 2 ^ 63 then ((dKeep b * 2 ^ (dPow b).toNat : Nat) : Int) else 0 - ((dKeep b * 2 ^ (dPow b).toNat : Nat) : Int), 0)
  else if dKeep b % dUnit b = 0 then some (if b < 2 ^ 63 then ((dKeep b / dUnit b : Nat) : Int) else 0 - ((dKeep b / dUnit b : Nat) : Int), 0)
  else if b < 2 ^ 63 then some (((dKeep b / dUnit b : Nat) : Int), ((nano (dKeep b % dUnit b) (dUnit b) : Nat) : Int))
  else if lpow (dUnit b - dKeep b % dUnit b) (dUnit b) ≥ 0 ∨ lnear (dUnit b - dKeep b % dUnit b) (dUnit b) ≥ 2 ^ (-(lpow (dUnit b - dKeep b % dUnit b) (dUnit b))).toNat then none
  else some (-1 - ((dKeep b / dUnit b : Nat) : Int), ((nano (lnear (dUnit b - dKeep b % dUnit b) (dUnit b)) (2 ^ (-(lpow (dUnit b - dKeep b % dUnit b) (dUnit b))).toNat) : Nat) : Int))

theorem right_unique {r r' : UInt64} {neg : Bool} {W D : Nat} (hD : 0 < D) (h : Right r neg W D) (h' : Right r' neg W D) : r = r' := by
  obtain ⟨t, hr, hle, hinf, hn⟩ := h
  obtain ⟨u, hr', hle', hinf', hn'⟩ := h'
  have hVm := V_mono (show t ≤ infMag from hle)
  suffices e : t = u by rw [hr, hr', e]
  by_cases ht : t = infMag
  · rw [ht, hinf'.mpr (hinf.mp ht)]
  · have hu : u ≠ infMag := fun e => ht (hinf.mpr (hinf'.mp e))
    have key : ∀ {t u : Nat}, (∀ t', dist W (D * V t) ≤ dist W (D * V t') ∧ (V t' ≠ V t → dist W (D * V t) = dist W (D * V t') → t % 2 = 0)) →
        (∀ t', dist W (D * V u) ≤ dist W (D * V t') ∧ (V t' ≠ V u → dist W (D * V u) = dist W (D * V t') → u % 2 = 0)) → ¬ t < u := by
      intro t u hn hn' hlt
      have h1 := (hn u).1
      have h2 := (hn' t).1
      have hv := V_lt hlt
      have he : dist W (D * V t) = dist W (D * V u) := by omega
      have p1 := (hn u).2 (by omega) he
      have p2 := (hn' t).2 (by omega) he.symm
      have h3 : t + 1 < u := by omega
      have v1 := V_succ t
      have v2 := V_lt h3
      have h4 := (hn (t + 1)).1
      have m1 := (Nat.mul_lt_mul_left hD).mpr v1
      have m2 := (Nat.mul_lt_mul_left hD).mpr v2
      generalize D * V t = a at *
      generalize D * V u = c at *
      generalize D * V (t + 1) = b at *
      unfold dist at *
      omega
    rcases Nat.lt_trichotomy t u with h | h | h
    · exact absurd h (key (fun t' => hn (by omega) t') (fun t' => hn' (by omega) t'))
    · exact h
    · exact absurd h (key (fun t' => hn' (by omega) t') (fun t' => hn (by omega) t'))

/-- a result that is small is the law's rounding -/
theorem round_isF {r : UInt64} {n d W D : Nat} (hn : 0 < n) (hd : 0 < d) (hD : 0 < D) (hR : Right r false W D) (hW : n * 2 ^ 1074 * D = W * d)
    (hs : 2 * W < D * ((2 ^ 54 - 1) * 2 ^ 2045)) : IsF r false (roundUn n d) := by
  have h2 : Right (ofFrac false n d) false W D := ofFrac_right hd hW hD
  have e := right_unique hD hR h2
  have hov := over_of (n := n) hd hW hD
  have hlt : roundMag n d ≠ infMag := fun h => by
    have := hov.mp h
    omega
  have hm := roundMag_min n d
  have hu : roundMag n d = roundUn n d := by omega
  refine ⟨?_, by omega⟩
  rw [e]
  unfold ofFrac
  rw [hu]

theorem near_trunc {n d : Nat} (hn : 0 < n) (hd : 0 < d) :
    V (roundUn n d) / 2 ^ 1074 = if lpow n d ≥ 0 then lnear n d * 2 ^ (lpow n d).toNat else lnear n d / 2 ^ (-(lpow n d)).toNat := by
  obtain ⟨_, hp⟩ := whole_facts hn hd
  by_cases h0 : -1074 ≤ place0 n d
  · have h1 := (round_near hn hd h0).2
    rw [h1]
    split
    · rename_i h
      have e : (lpow n d + 1074).toNat = (lpow n d).toNat + 1074 := by omega
      rw [e, Nat.pow_add, ← Nat.mul_assoc, Nat.mul_div_cancel _ (Nat.two_pow_pos _)]
    · rename_i h
      have e : (2 : Nat) ^ 1074 = 2 ^ (-(lpow n d)).toNat * 2 ^ (lpow n d + 1074).toNat := by
        rw [← Nat.pow_add]; congr 1; omega
      rw [e, Nat.mul_div_mul_right _ _ (Nat.two_pow_pos _)]
  · have h1 := round_small hn hd (by omega)
    have h2 : (2 : Nat) ^ 53 < 2 ^ 1074 := Nat.pow_lt_pow_right (by decide) (by decide)
    rw [Nat.div_eq_of_lt (by omega), if_neg (by omega)]
    have h3 := (lnear_bounds hn hd).1
    have h4 : (2 : Nat) ^ 54 ≤ 2 ^ (-(lpow n d)).toNat := Nat.pow_le_pow_right (by decide) (by omega)
    rw [Nat.div_eq_of_lt (by omega)]

theorem giga_isF : ∃ t, IsF (ofInt (10 ^ 9)) false t ∧ V t = 10 ^ 9 * 2 ^ 1074 := by
  obtain ⟨t, ht, hV⟩ := rep (10 ^ 9) 1074 (by decide) (by decide)
  have hR := ofInt_right (10 ^ 9)
  exact ⟨t, exact_of hR (by decide) ht (by rw [hV, Nat.one_mul]; rfl), hV⟩

theorem V_below_one {r : Nat} (h : V r < 2 ^ 1074) : V r + 2 ^ 1021 ≤ 2 ^ 1074 := by
  rw [← V_one] at h
  have h1 : r < 1023 * 2 ^ 52 := by
    rcases Nat.lt_or_ge r (1023 * 2 ^ 52) with h1 | h1
    · exact h1
    · have := V_mono h1; omega
  have h2 := V_mono (show r ≤ 1023 * 2 ^ 52 - 1 by omega)
  have h3 := V_at (k := 1021) (q := 2 ^ 53 - 1) (by omega) (.inl (by omega))
  have e : 1021 * 2 ^ 52 + (2 ^ 53 - 1) = 1023 * 2 ^ 52 - 1 := by omega
  rw [e] at h3
  rw [h3] at h2
  have e2 : (2 : Nat) ^ 1074 = 2 ^ 53 * 2 ^ 1021 := by rw [← Nat.pow_add]
  rw [e2]
  omega

/-- the nanoseconds: the law's, and below 10^9 -/
theorem nano_right {f : UInt64} {r top below P : Nat} (hf : IsF f false r) (h0 : 0 < top) (hb : 0 < below) (hr : V r = top * P) (hK : 2 ^ 1074 = below * P) (hlt : top < below) :
    ∃ m e, decode (mul f (ofInt (10 ^ 9))) = .fin false m e ∧ truncOf false m e = ((nano top below : Nat) : Int) ∧ nano top below < 10 ^ 9 := by
  obtain ⟨t9, h9, hV9⟩ := giga_isF
  obtain ⟨m1, e1, d1, _⟩ := hf.dec
  obtain ⟨m2, e2, d2, _⟩ := h9.dec
  have hKp := Nat.two_pow_pos 1074
  have hP : 0 < P := by
    rcases Nat.eq_zero_or_pos P with h | h
    · subst h; omega
    · exact h
  have hR := mul_right d1 d2
  rw [hf.val, h9.val, sgn_natAbs, sgn_natAbs, hV9] at hR
  have hVr : V r < 2 ^ 1074 := by
    rw [hr, hK]
    exact (Nat.mul_lt_mul_right hP).mpr hlt
  have hsm : 2 * (V r * (10 ^ 9 * 2 ^ 1074)) < 2 ^ 1074 * ((2 ^ 54 - 1) * 2 ^ 2045) := by
    have a1 : 2 * (V r * (10 ^ 9 * 2 ^ 1074)) = 2 ^ 1074 * (V r * (2 * 10 ^ 9)) := by
      generalize (2 : Nat) ^ 1074 = K
      rw [show V r * (10 ^ 9 * K) = K * (V r * 10 ^ 9) by ac_rfl, show V r * (2 * 10 ^ 9) = 2 * (V r * 10 ^ 9) by ac_rfl]
      ac_rfl
    rw [a1]
    apply (Nat.mul_lt_mul_left hKp).mpr
    have a2 : (2 : Nat) ^ 2045 = 2 ^ 1074 * 2 ^ 971 := by rw [← Nat.pow_add]
    have a3 : (2 : Nat) * 10 ^ 9 ≤ (2 ^ 54 - 1) * 2 ^ 971 := by
      have := Nat.two_pow_pos 971
      have := Nat.mul_le_mul_left (2 ^ 54 - 1) this
      omega
    calc V r * (2 * 10 ^ 9) < 2 ^ 1074 * (2 * 10 ^ 9) := (Nat.mul_lt_mul_right (by decide)).mpr hVr
      _ ≤ 2 ^ 1074 * ((2 ^ 54 - 1) * 2 ^ 971) := Nat.mul_le_mul_left _ a3
      _ = (2 ^ 54 - 1) * 2 ^ 2045 := by first | (rw [a2]; done) | (rw [a2]; ac_rfl)
  have htop : 0 < top * 10 ^ 9 := Nat.mul_pos h0 (by decide)
  have hW : top * 10 ^ 9 * 2 ^ 1074 * 2 ^ 1074 = V r * (10 ^ 9 * 2 ^ 1074) * below := by
    rw [hr]
    calc top * 10 ^ 9 * 2 ^ 1074 * 2 ^ 1074 = top * 10 ^ 9 * 2 ^ 1074 * (below * P) := by rw [← hK]
      _ = top * P * (10 ^ 9 * 2 ^ 1074) * below := by ac_rfl
  have hI := round_isF htop hb hKp hR hW hsm
  have hnear := near_trunc htop hb
  obtain ⟨m, e, hd, ht⟩ := hI.trunc
  refine ⟨m, e, hd, ?_, ?_⟩
  · rw [ht, hnear]
    rfl
  · have hna : nano top below = V (roundUn (top * 10 ^ 9) below) / 2 ^ 1074 := hnear.symm
    rw [hna, Nat.div_lt_iff_lt_mul hKp]
    rcases Nat.lt_or_ge (V (roundUn (top * 10 ^ 9) below)) (10 ^ 9 * 2 ^ 1074) with h | h
    · exact h
    · exfalso
      obtain ⟨t0, hr0, hle0, _, hn0⟩ := hR
      have ht0 : t0 = roundUn (top * 10 ^ 9) below := by
        have e := hI.1
        rw [hr0] at e
        have hi : infMag < 2 ^ 63 := by unfold infMag; omega
        have x1 := congrArg UInt64.toNat e
        rw [pack_toNat _ (by omega), pack_toNat _ (by have := hI.2; omega)] at x1
        simpa using x1
      have hbel := V_below_one hVr
      rw [← hV9] at h
      -- the float next below 10^9
      have h9' : V (t9 - 1) + 2 ^ 1051 = 10 ^ 9 * 2 ^ 1074 := by
        have q9 := V_at (k := 1051) (q := 10 ^ 9 * 2 ^ 23) (by decide) (.inl (by decide))
        have q8 := V_at (k := 1051) (q := 10 ^ 9 * 2 ^ 23 - 1) (by decide) (.inl (by decide))
        have e9 : 10 ^ 9 * 2 ^ 23 * 2 ^ 1051 = 10 ^ 9 * 2 ^ 1074 := by rw [Nat.mul_assoc, ← Nat.pow_add]
        rw [e9, ← hV9] at q9
        have := V_inj q9
        rw [← this, show 1051 * 2 ^ 52 + 10 ^ 9 * 2 ^ 23 - 1 = 1051 * 2 ^ 52 + (10 ^ 9 * 2 ^ 23 - 1) by omega, q8, ← e9]
        first | done | (have := Nat.two_pow_pos 1051; rw [Nat.sub_mul]; omega)
      have hlt0 := hI.2
      rw [← ht0] at h hlt0
      have hd1 := (hn0 hlt0 (t9 - 1)).1
      have hgap : V (t9 - 1) < V t0 := by
        have := Nat.two_pow_pos 1051
        omega
      -- all is in units of K
      have f1 : V r * (10 ^ 9 * 2 ^ 1074) = 2 ^ 1074 * (V r * 10 ^ 9) := by ac_rfl
      rw [f1, dist_mul, dist_mul] at hd1
      have hd2 := Nat.le_of_mul_le_mul_left hd1 hKp
      have p51 : (2 : Nat) ^ 1051 = 2 ^ 30 * 2 ^ 1021 := by rw [← Nat.pow_add]
      have p74 : (2 : Nat) ^ 1074 = 2 ^ 53 * 2 ^ 1021 := by rw [← Nat.pow_add]
      have hz := Nat.two_pow_pos 1021
      rw [p74] at hbel h9' hV9
      rw [p51] at h9'
      generalize (2 : Nat) ^ 1021 = Z at *
      generalize V (t9 - 1) = a at *
      generalize V t0 = c at *
      generalize V r = v at *
      unfold dist at hd2
      omega

theorem pack_toUInt {b : Nat} (hb : b < 2 ^ 64) : (b.toUInt64) = pack (decide (¬ b < 2 ^ 63)) (b % 2 ^ 63) := by
  unfold pack
  by_cases h : b < 2 ^ 63
  · rw [decide_eq_false (by omega)]
    simp only [Bool.false_eq_true, if_false, Nat.zero_add]
    rw [Nat.mod_eq_of_lt h]
  · rw [decide_eq_true h]
    simp only [if_true]
    congr 1
    omega
theorem toNat_toUInt {b : Nat} (hb : b < 2 ^ 64) : (b.toUInt64).toNat = b := by
  show (UInt64.ofNat b).toNat = b
  rw [UInt64.toNat_ofNat']
  omega
theorem decode_due {b : Nat} (hb : b < 2 ^ 64) (hf : dField b ≠ 2047) : decode b.toUInt64 = .fin (decide (¬ b < 2 ^ 63)) (dKeep b) (dPow b) := by
  unfold decode
  simp only
  rw [toNat_toUInt hb]
  have hs : (b / 2 ^ 63 == 1) = decide (¬ b < 2 ^ 63) := by
    by_cases h : b < 2 ^ 63
    · rw [decide_eq_false (by omega), beq_eq_false_iff_ne]; omega
    · rw [decide_eq_true h, beq_iff_eq]; omega
  rw [hs]
  change (if dField b == 2047 then _ else if dField b == 0 then _ else _) = _
  rw [if_neg (by simpa using hf)]
  unfold dKeep dPow
  by_cases h0 : dField b = 0
  · rw [if_pos (by simpa using h0), if_pos h0, if_pos h0]
  · rw [if_neg (by simpa using h0), if_neg h0, if_neg h0, Nat.add_comm]
    rfl

def Told (x : UInt64) (sec ns : Int) : Prop :=
  (∃ b m e, decode (divmod x one).1 = .fin b m e ∧ truncOf b m e = sec) ∧ (∃ b m e, decode (mul (divmod x one).2 (ofInt (10 ^ 9))) = .fin b m e ∧ truncOf b m e = ns) ∧ 0 ≤ ns ∧ ns < 10 ^ 9

theorem mul_zero_told {f : UInt64} (hf : IsF f false 0) : ∃ b m e, decode (mul f (ofInt (10 ^ 9))) = .fin b m e ∧ truncOf b m e = 0 := by
  obtain ⟨rfl, _⟩ := hf
  exact ⟨false, 0, -1074, by with_unfolding_all rfl, by with_unfolding_all rfl⟩

theorem due_told {b : Nat} (hb : b < 2 ^ 64) (hf : dField b ≠ 2047) {sec ns : Int} (h : dueN b = some (sec, ns)) : Told b.toUInt64 sec ns := by
  have hd := decode_due hb hf
  have hge := decode_ge hd
  have h53 := decode_fin53 hd
  have hpk := pack_toUInt hb
  have hmag : b % 2 ^ 63 < infMag := by
    unfold dField at hf
    unfold infMag
    omega
  have hx : IsF b.toUInt64 (decide (¬ b < 2 ^ 63)) (b % 2 ^ 63) := ⟨hpk, hmag⟩
  obtain ⟨m', e', hd', hv'⟩ := hx.dec
  rw [hd] at hd'
  cases hd'
  generalize ht : b % 2 ^ 63 = t at *
  generalize hxx : b.toUInt64 = x at *
  generalize hk : dKeep b = keep at *
  generalize hp : dPow b = power at *
  generalize hu : dUnit b = unit at *
  have hKp := Nat.two_pow_pos 1074
  have hpow : ∀ n : Nat, ((2 ^ n : Nat) : Int) = (2 : Int) ^ n := fun n => by simp
  unfold dueN at h
  rw [hk, hp, hu] at h
  -- a whole number of seconds
  have whole : V t % 2 ^ 1074 = 0 → ∀ s : Int, s = sgn (decide (¬ b < 2 ^ 63)) (V t / 2 ^ 1074) → Told x s 0 := by
    intro h0 s hs
    obtain ⟨h1, h2⟩ := divmod_whole hx h0
    refine ⟨?_, mul_zero_told h2, by decide, by decide⟩
    have : sgn (decide (¬ b < 2 ^ 63)) (V t) = s * ((2 ^ 1074 : Nat) : Int) := by
      rw [hs, ← sgn_mul, Nat.div_mul_cancel (Nat.dvd_of_mod_eq_zero h0)]
    rw [this] at h1
    exact h1.trunc
  have sg : ∀ n : Nat, sgn (decide (¬ b < 2 ^ 63)) n = if b < 2 ^ 63 then (n : Int) else 0 - (n : Int) := by
    intro n
    by_cases hbb : b < 2 ^ 63
    · rw [decide_eq_false (by omega), if_pos hbb]; rfl
    · rw [decide_eq_true hbb, if_neg hbb]; show -(n : Int) = _; omega
  by_cases h1 : keep = 0
  · rw [if_pos h1] at h
    cases h
    have hV0 : V t = 0 := by rw [← hv', h1, Nat.zero_mul]
    refine whole (by rw [hV0]) _ ?_
    rw [hV0, Nat.zero_div, sgn_zero]
  rw [if_neg h1] at h
  by_cases h2 : power ≥ 0
  · rw [if_pos h2] at h
    cases h
    have e : (power + 1074).toNat = power.toNat + 1074 := by omega
    rw [e, Nat.pow_add, ← Nat.mul_assoc] at hv'
    refine whole (by rw [← hv', Nat.mul_mod_left]) _ ?_
    rw [← hv', Nat.mul_div_cancel _ hKp, sg]
  rw [if_neg h2] at h
  have hK : (2 : Nat) ^ 1074 = unit * 2 ^ (power + 1074).toNat := by
    rw [← hu]
    unfold dUnit
    rw [hp, ← Nat.pow_add]; congr 1; omega
  have hup : 0 < unit := by rw [← hu]; exact Nat.two_pow_pos _
  generalize hP : 2 ^ (power + 1074).toNat = P at *
  have hPp : 0 < P := by rw [← hP]; exact Nat.two_pow_pos _
  have hdv : V t / 2 ^ 1074 = keep / unit := by rw [← hv', hK, Nat.mul_div_mul_right _ _ hPp]
  have hmd : V t % 2 ^ 1074 = keep % unit * P := by rw [← hv', hK, Nat.mul_mod_mul_right]
  by_cases h3 : keep % unit = 0
  · rw [if_pos h3] at h
    cases h
    refine whole (by rw [hmd, h3, Nat.zero_mul]) _ ?_
    rw [hdv, sg]
  rw [if_neg h3] at h
  have h3' : 0 < keep % unit := by omega
  have hne : V t % 2 ^ 1074 ≠ 0 := by
    rw [hmd]
    have := Nat.mul_pos h3' hPp
    omega
  have hovlt := Nat.mod_lt keep hup
  by_cases h4 : b < 2 ^ 63
  · rw [if_pos h4] at h
    cases h
    rw [decide_eq_false (by omega)] at hx
    obtain ⟨g1, r, g2, g3⟩ := divmod_above hx hne
    rw [hdv, Int.natCast_mul] at g1
    rw [hmd] at g3
    obtain ⟨m, e, q1, q2, q3⟩ := nano_right g2 h3' hup g3 hK hovlt
    exact ⟨g1.trunc, ⟨_, m, e, q1, q2⟩, by omega, by omega⟩
  · rw [if_neg h4] at h
    split at h
    · cases h
    · rename_i h5
      cases h
      rw [decide_eq_true h4] at hx
      obtain ⟨g1, g2⟩ := divmod_below hx hne
      rw [hdv] at g1
      have hn : 0 < unit - keep % unit := by omega
      generalize hov : keep % unit = over at *
      have hW : (unit - over) * 2 ^ 1074 * 1 = (2 ^ 1074 - V t % 2 ^ 1074) * unit := by
        rw [hmd, Nat.mul_one, hK, ← Nat.sub_mul]
        ac_rfl
      have hsm : 2 * (2 ^ 1074 - V t % 2 ^ 1074) < 1 * ((2 ^ 54 - 1) * 2 ^ 2045) := by
        have a3 : (2 : Nat) ^ 1074 ≤ 2 ^ 2045 := Nat.pow_le_pow_right (by decide) (by decide)
        rw [Nat.one_mul]
        have a4 : 2 ^ 1074 - V t % 2 ^ 1074 ≤ 2 ^ 1074 := Nat.sub_le _ _
        have a5 : 0 < (2 : Nat) ^ 2045 := Nat.two_pow_pos 2045
        generalize 2 ^ 1074 - V t % 2 ^ 1074 = w at a4 ⊢
        generalize (2 : Nat) ^ 2045 = Z at a3 a5 ⊢
        generalize (2 : Nat) ^ 1074 = K at a3 a4 ⊢
        omega
      have hI := round_isF hn hup (by decide) g2 hW hsm
      -- the place is not floored
      have hpl : -1074 ≤ place0 (unit - over) unit := by
        rcases Int.lt_or_le (place0 (unit - over) unit) (-1074) with hc | hc
        · exfalso
          have hpe : place (unit - over) unit = -1074 := by rw [place_eq]; omega
          have hsp := (place_spec (n := unit - over) (d := unit) (by omega) hup).1
          rw [hpe] at hsp
          have hsh : shift (unit - over) unit (-(-1074)) = ((unit - over) * 2 ^ 1074, unit) := rfl
          rw [hsh] at hsp
          simp only at hsp
          have hkl := h53.small
          have e74 : (2 : Nat) ^ 1074 = 2 ^ 53 * 2 ^ 1021 := by rw [← Nat.pow_add]
          rw [e74, show (unit - over) * (2 ^ 53 * 2 ^ 1021) = 2 ^ 53 * ((unit - over) * 2 ^ 1021) by ac_rfl] at hsp
          have hsp := Nat.lt_of_mul_lt_mul_left hsp
          by_cases hbig : unit ≤ 2 ^ 1021
          · have := Nat.mul_le_mul_right (2 ^ 1021) hn
            omega
          · have hkeep : over < 2 ^ 53 := by
              have := Nat.mod_le keep unit
              omega
            have h1021 : (2 : Nat) ^ 54 ≤ 2 ^ 1021 := Nat.pow_le_pow_right (by decide) (by decide)
            have := Nat.mul_le_mul_left (unit - over) (show 2 ≤ 2 ^ 1021 by omega)
            omega
        · exact hc
      obtain ⟨_, hV⟩ := round_near hn hup hpl
      have hlp := (whole_facts hn hup).2
      generalize lpow (unit - over) unit = lp at *
      have hlb := (lnear_bounds hn hup).2
      generalize lnear (unit - over) unit = ln at *
      have hlp0 : ¬ lp ≥ 0 := fun q => h5 (.inl q)
      have hK2 : (2 : Nat) ^ 1074 = 2 ^ (-lp).toNat * 2 ^ (lp + 1074).toNat := by
        rw [← Nat.pow_add]; congr 1; omega
      obtain ⟨m, e, q1, q2, q3⟩ := nano_right hI (show 0 < ln by omega) (Nat.two_pow_pos _) hV hK2 (Nat.lt_of_not_ge fun q => h5 (.inr q))
      exact ⟨g1.trunc, ⟨_, m, e, q1, q2⟩, by omega, by omega⟩
end Mine
end

section
open PySem PySem.W PyProof.Rows PySem.Spec
namespace Mine
open PySem.Builtin.Int (intBits)
set_option exponentiation.threshold 4000

theorem lpow_in {n d : Nat} (hn : 0 < n) (hd : 0 < d) : -60 - (bl d : Int) ≤ lpow n d ∧ lpow n d ≤ (bl n : Int) := by
  obtain ⟨h, _⟩ := whole_facts hn hd
  unfold lpow ldrop lsh
  omega
section
variable {w : World} {loose : List Str} {mean : ExcName → Option Value} {mg mb : Str → Option Value}
theorem nearest_use (top below : Int) (t1 t2 : Tok) (h1 : 0 < top) (h2 : 0 < below) (h3 : intBits top ≤ 3000) (h4 : intBits below ≤ 3000)
    {dp un : Nat} {gd : Option (List Code)} {cn : Str} {cs : Scope} {a : Addr} {ccd : Value} {cl : List (Str × Addr)} {outer : List Env} {A₀ : Around} {base h₀ : Heap} {L : Addr} {m : Str → Option Value} {news : List (Addr × Obj)} {s : Shared}
    {Q E : Value → Shared → Prop}
    (B : Below A₀ base outer h₀) (F : Fr h₀ L s.heap m) (X : (hd.heap_39 w.params).In h₀) (N : News h₀ L s.heap news) (T : Top hd.view_39 loose mean mg mb h₀) (hk : cs.kind = .function) (hd : dp + 20 < recursionLimit) (hu : un + 10 * 20 < cLine)
    (h : ∀ x y D t u c h' tk', x = ((lnear top.toNat below.toNat : Nat) : Int) → y = lpow top.toNat below.toNat → 4503599627370496 ≤ x → x ≤ 9007199254740992 → -60 - (intBits below : Int) ≤ y → y ≤ 3000 → Fr h₀ L h' m → News h₀ L h' ((D, tup2 x y t u c) :: news) → AllLt D news → Q (.ref D) { s with heap := h', toks := tk' }) :
    wpAny (model PySem.Challenge.rw_aq6042_01.row.prog w) (ktrTop dp un gd cn cs L a ccd cl outer) (call (.ref 490) [.int top t1, .int below t2]) Q E s := by
  obtain ⟨t, rfl⟩ := Int.eq_ofNat_of_zero_le (Int.le_of_lt h1)
  obtain ⟨b, rfl⟩ := Int.eq_ofNat_of_zero_le (Int.le_of_lt h2)
  have ht : 0 < t := by omega
  have hb : 0 < b := by omega
  refine nearest_walk w loose mean mg mb t b t1 t2 ht hb h3 h4 dp un gd cn cs a ccd cl outer A₀ base h₀ L m news s Q E B F X N T hk hd hu ?_
  intro r tl h' tk' F' N' hl ⟨D, t3, t4, c, e1, e2⟩
  subst e1 e2
  obtain ⟨b1, b2⟩ := lnear_bounds ht hb
  obtain ⟨p1, p2⟩ := lpow_in ht hb
  rw [← bits_nat] at p1 p2
  have p2 : lpow t b ≤ 3000 := by omega
  exact h _ _ D t3 t4 c h' tk' rfl rfl (by simp only [Int.toNat_natCast]; omega) (by simp only [Int.toNat_natCast]; omega) p1 p2 F' N' (hl _ (.head _))
end
section
variable {prog : Program} {w : World} {A : Around} {E : Value → Shared → Prop} {s : Shared} {Q : Value → Shared → Prop} {t u : Tok}
/-- operations, their values as letters -/
theorem l_pow {n : Int} (h0 : 0 ≤ n) (h1 : n ≤ 1000000) (h : ∀ k : Int, k = 2 ^ n.toNat → 0 < k → intBits k = n.toNat + 1 → Q (.int k s.toks) { s with toks := s.toks + 1 }) :
    wpAny (model prog w) A (binaryOp .Pow (.int 2 t) (.int n u)) Q E s := pow_int_small h0 h1 (by decide) (h _ rfl (pow_gt _) (bits_pow _))
theorem pow_giga (h : Q (.int 1000000000 s.toks) { s with toks := s.toks + 1 }) : wpAny (model prog w) A (binaryOp .Pow (.int 10 t) (.int 9 u)) Q E s :=
  pow_int_small (by decide) (by decide) (by decide) h
theorem l_mod {a b : Int} (hb : 0 < b) (h : ∀ k : Int, k = a.fmod b → 0 ≤ k → k < b → Q (.int k s.toks) { s with toks := s.toks + 1 }) :
    wpAny (model prog w) A (binaryOp .Mod (.int a t) (.int b u)) Q E s := mod_int' (by omega) (h _ rfl (fm a b hb).1 (fm a b hb).2)
theorem fdiv_in {a b : Int} (ha : 0 ≤ a) (hb : 0 < b) : 0 ≤ a.fdiv b ∧ a.fdiv b ≤ a := by
  rw [Int.fdiv_eq_ediv_of_nonneg _ (by omega)]
  exact ⟨Int.ediv_nonneg ha (by omega), Int.ediv_le_self _ ha⟩
theorem l_div {a b : Int} (ha : 0 ≤ a) (hb : 0 < b) (hs : intBits b ≤ 8000) (h : ∀ k : Int, k = a.fdiv b → 0 ≤ k → k ≤ a → Q (.int k s.toks) { s with toks := s.toks + 1 }) :
    wpAny (model prog w) A (binaryOp .FloorDiv (.int a t) (.int b u)) Q E s := floordiv_int (by omega) (h _ rfl (fdiv_in ha hb).1 (fdiv_in ha hb).2) (Or.inl (py_of hs))
theorem l_divmod {h₀ : Heap} {L : Addr} {m : Str → Option Value} {news : List (Addr × Obj)} {a b : Int} (F : Fr h₀ L s.heap m) (N : News h₀ L s.heap news) (ha : 0 ≤ a) (hb : 0 < b) (hs : intBits b ≤ 8000)
    (h : ∀ (q r : Int) (D : Addr) h', q = a.fdiv b → r = a.fmod b → 0 ≤ q → q ≤ a → 0 ≤ r → r < b → Fr h₀ L h' m → News h₀ L h' ((D, tup2 q r s.toks (s.toks + 1) 0) :: news) → AllLt D news → Q (.ref D) { s with toks := s.toks + 1 + 1, heap := h' }) :
    wpAny (model prog w) A (call (.builtin "divmod") [.int a t, .int b u]) Q E s :=
  divmod_N F N (by omega) (fun h' F' N' => h _ _ _ h' rfl rfl (fdiv_in ha hb).1 (fdiv_in ha hb).2 (fm a b hb).1 (fm a b hb).2 F' N' (allLt_of fun p hp => Heap.lt_size (N p hp).1)) (Or.inl (py_of hs))
theorem l_mul {a b : Int} (h : Q (.int (a * b) s.toks) { s with toks := s.toks + 1 }) (h0 : (0 ≤ a ∧ a < 9223372036854775808) ∨ (0 ≤ b ∧ b < 9223372036854775808)) : wpAny (model prog w) A (binaryOp .Mult (.int a t) (.int b u)) Q E s :=
  mul_int h (by
    rcases h0 with h0 | h0
    · exact IntMulOk.of_left (intBits_le_64 (by omega) (by omega))
    · exact IntMulOk.of_right (intBits_le_64 (by omega) (by omega)))
end
/-- sizes for nearest -/
theorem bits_lt {a b : Int} {k : Nat} (h0 : 0 ≤ a) (h1 : a < b) (h2 : intBits b ≤ k) : intBits a ≤ k := intBits_le_of_natAbs (by omega) h2
theorem bits_le {a b : Int} {k : Nat} (h0 : 0 ≤ a) (h1 : a ≤ b) (h2 : intBits b ≤ k) : intBits a ≤ k := intBits_le_of_natAbs (by omega) h2
theorem bits_giga {a : Int} {k : Nat} (h : intBits a ≤ k) : intBits (a * 1000000000) ≤ k + 30 := intBits_mul_le h (by decide)
theorem bits_small {a : Int} (h0 : 0 ≤ a) (h1 : a < 18446744073709551616) : intBits a ≤ 64 := intBits_le_64 (by omega) (by omega)
theorem bits_over {r k : Int} (h0 : 0 < r) (h1 : r < k) (h2 : intBits k ≤ 1500) : intBits (r * 1000000000) ≤ 3000 :=
  Nat.le_trans (bits_giga (k := 1500) (bits_lt (by omega) h1 h2)) (by decide)
theorem bits_left {r k : Int} (h0 : 0 ≤ r) (h1 : r < k) (h2 : intBits k ≤ 1500) : intBits (k - r) ≤ 3000 :=
  Nat.le_trans (bits_le (k := 1500) (by omega) (show k - r ≤ k by omega) h2) (by decide)
theorem bits_near {x : Int} (h0 : 0 ≤ x) (h1 : x ≤ 9007199254740992) : intBits (x * 1000000000) ≤ 3000 :=
  Nat.le_trans (bits_giga (k := 64) (bits_small h0 (by omega))) (by decide)
end Mine
end

section
open PySem PySem.W PyProof.Rows PySem.Spec
namespace Mine
open PySem.Builtin.Int (intBits)
set_option exponentiation.threshold 4000

def IsDue (d : Option (Int × Int)) (r : Value) (tl : List (Addr × Obj)) : Prop := match d with
  | none => r = .none ∧ tl = []
  | some p => IsPair p.1 p.2 r tl
theorem due2 {h₀ h' : Heap} {L D : Addr} {m : Str → Option Value} {news rest : List (Addr × Obj)} {s : Shared} {Q : Value → Shared → Prop} {x y : Int} {t u : Tok} {c tk : Nat} {d : Option (Int × Int)}
    (hret : ∀ r tl h' tk', Fr h₀ L h' m → News h₀ L h' (tl ++ news) → (∀ q ∈ tl, AllLt q.1 news) → IsDue d r tl → Q r { s with heap := h', toks := tk' })
    (F : Fr h₀ L h' m) (N : News h₀ L h' ((D, tup2 x y t u c) :: rest)) (hs : ∀ p ∈ news, p ∈ rest) (hl : AllLt D news) (e : d = some (x, y)) : Q (.ref D) { s with heap := h', toks := tk } := by
  subst e
  exact ret2 hret F N hs hl rfl rfl
theorem due0 {h₀ h' : Heap} {L : Addr} {m : Str → Option Value} {news rest : List (Addr × Obj)} {s : Shared} {Q : Value → Shared → Prop} {tk : Nat} {d : Option (Int × Int)}
    (hret : ∀ r tl h' tk', Fr h₀ L h' m → News h₀ L h' (tl ++ news) → (∀ q ∈ tl, AllLt q.1 news) → IsDue d r tl → Q r { s with heap := h', toks := tk' })
    (F : Fr h₀ L h' m) (N : News h₀ L h' rest) (hs : ∀ p ∈ news, p ∈ rest) (e : d = none) : Q .none { s with heap := h', toks := tk } := by
  subst e
  exact hret _ [] _ _ F (news_sub N hs) (fun q hq => nomatch hq) ⟨rfl, rfl⟩

section
variable {b : Nat}
theorem keep0 {t f fr : Int} (h3 : fr = (b : Int).fmod 4503599627370496) (h2 : f = t.fmod 2048) (h1 : t = (b : Int).fdiv 4503599627370496) (h0 : f = 0) : fr = (dKeep b : Int) ∧ (-1074 : Int) = dPow b := by
  have hf : (dField b : Int) = f := by
    rw [h2, h1, Int.fdiv_eq_ediv_of_nonneg _ (by decide), Int.fmod_eq_emod_of_nonneg _ (by decide)]
    unfold dField
    omega
  have hf0 : dField b = 0 := by omega
  unfold dKeep dPow
  rw [if_pos hf0, if_pos hf0, h3, Int.fmod_eq_emod_of_nonneg _ (by decide)]
  omega
theorem keep1 {t f fr : Int} (h3 : fr = (b : Int).fmod 4503599627370496) (h2 : f = t.fmod 2048) (h1 : t = (b : Int).fdiv 4503599627370496) (h0 : f ≠ 0) : fr + 4503599627370496 = (dKeep b : Int) ∧ f - 1075 = dPow b := by
  have hf : (dField b : Int) = f := by
    rw [h2, h1, Int.fdiv_eq_ediv_of_nonneg _ (by decide), Int.fmod_eq_emod_of_nonneg _ (by decide)]
    unfold dField
    omega
  have hf0 : ¬ dField b = 0 := by omega
  unfold dKeep dPow
  rw [if_neg hf0, if_neg hf0, h3, Int.fmod_eq_emod_of_nonneg _ (by decide)]
  omega
theorem giga_eq : (1000000000 : Int) = 10 ^ 9 := by decide
theorem pow_toNat (n : Nat) : ((2 : Int) ^ n).toNat = 2 ^ n := by rw [pow_cast]; rfl

theorem lf_zero {K P : Int} (hk : K = (dKeep b : Int) ∧ P = dPow b) (h : K = 0) : dueN b = some (0, 0) := by
  unfold dueN
  rw [if_pos (by omega)]
theorem lf_posA {K P p : Int} (hk : K = (dKeep b : Int) ∧ P = dPow b) (h : K ≠ 0) (hP : 0 ≤ P) (hp : p = 2 ^ P.toNat) (hab : (b : Int) < 9223372036854775808) : dueN b = some (K * p, 0) := by
  unfold dueN
  rw [if_neg (by omega), if_pos (by omega), if_pos (by omega), hp, hk.1, hk.2, Int.natCast_mul, pow_cast]
theorem lf_posB {K P p : Int} (hk : K = (dKeep b : Int) ∧ P = dPow b) (h : K ≠ 0) (hP : 0 ≤ P) (hp : p = 2 ^ P.toNat) (hab : ¬ (b : Int) < 9223372036854775808) : dueN b = some (0 - K * p, 0) := by
  unfold dueN
  rw [if_neg (by omega), if_pos (by omega), if_neg (by omega), hp, hk.1, hk.2, Int.natCast_mul, pow_cast]

/-- the unit, the whole, what is over -/
theorem mid {K P u : Int} (hk : K = (dKeep b : Int) ∧ P = dPow b) (hP : ¬ 0 ≤ P) (hu : u = 2 ^ (0 - P).toNat) :
    u = (dUnit b : Int) ∧ K.fdiv u = ((dKeep b / dUnit b : Nat) : Int) ∧ K.fmod u = ((dKeep b % dUnit b : Nat) : Int) ∧ ¬ dPow b ≥ 0 := by
  have h1 : u = (dUnit b : Int) := by
    unfold dUnit
    rw [hu, hk.2, pow_cast, Int.zero_sub]
  refine ⟨h1, ?_, ?_, by omega⟩
  · rw [h1, hk.1, Int.fdiv_eq_ediv_of_nonneg _ (Int.natCast_nonneg _)]; rfl
  · rw [h1, hk.1, Int.fmod_eq_emod_of_nonneg _ (Int.natCast_nonneg _)]; rfl
theorem lf_wholeA {K P u q r : Int} (hk : K = (dKeep b : Int) ∧ P = dPow b) (h : K ≠ 0) (hP : ¬ 0 ≤ P) (hu : u = 2 ^ (0 - P).toNat) (hq : q = K.fdiv u) (hr : r = K.fmod u) (hr0 : r = 0) (hab : (b : Int) < 9223372036854775808) : dueN b = some (q, 0) := by
  obtain ⟨m1, m2, m3, m4⟩ := mid hk hP hu
  unfold dueN
  rw [if_neg (by omega), if_neg m4, if_pos (by omega), if_pos (by omega), hq, m2]
theorem lf_wholeB {K P u q r : Int} (hk : K = (dKeep b : Int) ∧ P = dPow b) (h : K ≠ 0) (hP : ¬ 0 ≤ P) (hu : u = 2 ^ (0 - P).toNat) (hq : q = K.fdiv u) (hr : r = K.fmod u) (hr0 : r = 0) (hab : ¬ (b : Int) < 9223372036854775808) : dueN b = some (0 - q, 0) := by
  obtain ⟨m1, m2, m3, m4⟩ := mid hk hP hu
  unfold dueN
  rw [if_neg (by omega), if_neg m4, if_pos (by omega), if_neg (by omega), hq, m2]
def nanoM (n u : Nat) : Nat := if lpow n u ≥ 0 then lnear n u * 2 ^ (lpow n u).toNat else lnear n u / 2 ^ (-(lpow n u)).toNat
theorem nano_M (t u : Nat) : nano t u = nanoM (t * 1000000000) u := rfl
theorem nanoM_pos {n u : Nat} {x y p : Int} (hx : x = ((lnear n u : Nat) : Int)) (hy : y = lpow n u) (hy0 : 0 ≤ y) (hp : p = 2 ^ y.toNat) : x * p = ((nanoM n u : Nat) : Int) := by
  unfold nanoM
  rw [if_pos (by omega), hx, hp, hy, Int.natCast_mul, pow_cast]
theorem nanoM_neg {n u : Nat} {x y p v : Int} (hx : x = ((lnear n u : Nat) : Int)) (hy : y = lpow n u) (hy0 : ¬ 0 ≤ y) (hp : p = 2 ^ (0 - y).toNat) (hv : v = x.fdiv p) : v = ((nanoM n u : Nat) : Int) := by
  unfold nanoM
  rw [if_neg (by omega), hv, hx, hp, hy, Int.zero_sub, pow_cast, Int.fdiv_eq_ediv_of_nonneg _ (Int.natCast_nonneg _), Int.natCast_ediv]
theorem giga_toNat {t : Nat} {T : Int} (hT : T = (t : Int)) : (T * 1000000000).toNat = t * 1000000000 := by
  rw [hT]
  omega
theorem nano_pos {t u : Nat} {T U x y p : Int} (hT : T = (t : Int)) (hU : U = (u : Int)) (hx : x = ((lnear (T * 1000000000).toNat U.toNat : Nat) : Int)) (hy : y = lpow (T * 1000000000).toNat U.toNat) (hy0 : 0 ≤ y) (hp : p = 2 ^ y.toNat) : x * p = ((nano t u : Nat) : Int) := by
  have e2 : U.toNat = u := by omega
  rw [giga_toNat hT, e2] at hx hy
  rw [nano_M]
  exact nanoM_pos hx hy hy0 hp
theorem nano_neg {t u : Nat} {T U x y p v : Int} (hT : T = (t : Int)) (hU : U = (u : Int)) (hx : x = ((lnear (T * 1000000000).toNat U.toNat : Nat) : Int)) (hy : y = lpow (T * 1000000000).toNat U.toNat) (hy0 : ¬ 0 ≤ y) (hp : p = 2 ^ (0 - y).toNat) (hv : v = x.fdiv p) : v = ((nano t u : Nat) : Int) := by
  have e2 : U.toNat = u := by omega
  rw [giga_toNat hT, e2] at hx hy
  rw [nano_M]
  exact nanoM_neg hx hy hy0 hp hv
theorem lf_A {K P u q r v : Int} (hk : K = (dKeep b : Int) ∧ P = dPow b) (h : K ≠ 0) (hP : ¬ 0 ≤ P) (hu : u = 2 ^ (0 - P).toNat) (hq : q = K.fdiv u) (hr : r = K.fmod u) (hr0 : r ≠ 0) (hab : (b : Int) < 9223372036854775808)
    (hv : ∀ t u' : Nat, r = (t : Int) → u = (u' : Int) → v = ((nano t u' : Nat) : Int)) : dueN b = some (q, v) := by
  obtain ⟨m1, m2, m3, m4⟩ := mid hk hP hu
  unfold dueN
  rw [if_neg (by omega), if_neg m4, if_neg (by omega), if_pos (by omega), hq, m2, hv _ _ (hr.trans m3) m1]
theorem lf_A1 {K P u q r x y p : Int} (hk : K = (dKeep b : Int) ∧ P = dPow b) (h : K ≠ 0) (hP : ¬ 0 ≤ P) (hq : q = K.fdiv u) (hu : u = 2 ^ (0 - P).toNat) (hr : r = K.fmod u) (hr0 : r ≠ 0) (hab : (b : Int) < 9223372036854775808)
    (hx : x = ((lnear (r * 1000000000).toNat u.toNat : Nat) : Int)) (hy : y = lpow (r * 1000000000).toNat u.toNat) (hy0 : 0 ≤ y) (hp : p = 2 ^ y.toNat) : dueN b = some (q, x * p) :=
  lf_A hk h hP hu hq hr hr0 hab fun _ _ e1 e2 => nano_pos e1 e2 hx hy hy0 hp
theorem lf_A2 {K P u q r x y p v : Int} (hk : K = (dKeep b : Int) ∧ P = dPow b) (h : K ≠ 0) (hP : ¬ 0 ≤ P) (hq : q = K.fdiv u) (hu : u = 2 ^ (0 - P).toNat) (hr : r = K.fmod u) (hr0 : r ≠ 0) (hab : (b : Int) < 9223372036854775808)
    (hv : v = x.fdiv p) (hx : x = ((lnear (r * 1000000000).toNat u.toNat : Nat) : Int)) (hy : y = lpow (r * 1000000000).toNat u.toNat) (hy0 : ¬ 0 ≤ y) (hp : p = 2 ^ (0 - y).toNat) : dueN b = some (q, v) :=
  lf_A hk h hP hu hq hr hr0 hab fun _ _ e1 e2 => nano_neg e1 e2 hx hy hy0 hp hv
theorem mid2 {K P u r : Int} (hk : K = (dKeep b : Int) ∧ P = dPow b) (hP : ¬ 0 ≤ P) (hu : u = 2 ^ (0 - P).toNat) (hr : r = K.fmod u) : (u - r).toNat = dUnit b - dKeep b % dUnit b ∧ u.toNat = dUnit b := by
  obtain ⟨m1, m2, m3, m4⟩ := mid hk hP hu
  rw [hr, m3, m1]
  omega
theorem lf_N1 {K P u q r x y : Int} (hk : K = (dKeep b : Int) ∧ P = dPow b) (h : K ≠ 0) (hP : ¬ 0 ≤ P) (_hq : q = K.fdiv u) (hr : r = K.fmod u) (hu : u = 2 ^ (0 - P).toNat) (hr0 : r ≠ 0) (hab : ¬ (b : Int) < 9223372036854775808)
    (_hx : x = ((lnear (u - r).toNat u.toNat : Nat) : Int)) (hy : y = lpow (u - r).toNat u.toNat) (hy0 : 0 ≤ y) : dueN b = none := by
  obtain ⟨m1, m2, m3, m4⟩ := mid hk hP hu
  obtain ⟨n1, n2⟩ := mid2 hk hP hu hr
  rw [n1, n2] at hy
  unfold dueN
  rw [if_neg (by omega), if_neg m4, if_neg (by omega), if_neg (by omega), if_pos (.inl (by omega))]
theorem lf_N2 {K P u q r x y p : Int} (hk : K = (dKeep b : Int) ∧ P = dPow b) (h : K ≠ 0) (hP : ¬ 0 ≤ P) (_hq : q = K.fdiv u) (hr : r = K.fmod u) (hu : u = 2 ^ (0 - P).toNat) (hr0 : r ≠ 0) (hab : ¬ (b : Int) < 9223372036854775808)
    (hx : x = ((lnear (u - r).toNat u.toNat : Nat) : Int)) (hy : y = lpow (u - r).toNat u.toNat) (hp : p = 2 ^ (0 - y).toNat) (hle : p ≤ x) : dueN b = none := by
  obtain ⟨m1, m2, m3, m4⟩ := mid hk hP hu
  obtain ⟨n1, n2⟩ := mid2 hk hP hu hr
  rw [n1, n2] at hx hy
  rw [hy, Int.zero_sub, pow_cast] at hp
  unfold dueN
  rw [if_neg (by omega), if_neg m4, if_neg (by omega), if_neg (by omega), if_pos (.inr (by omega))]
theorem lf_B {K P u q r x1 y1 w1 v : Int} (hk : K = (dKeep b : Int) ∧ P = dPow b) (h : K ≠ 0) (hP : ¬ 0 ≤ P) (hq : q = K.fdiv u) (hr : r = K.fmod u) (hu : u = 2 ^ (0 - P).toNat) (hr0 : r ≠ 0) (hab : ¬ (b : Int) < 9223372036854775808)
    (hx : x1 = ((lnear (u - r).toNat u.toNat : Nat) : Int)) (hy : y1 = lpow (u - r).toNat u.toNat) (hy0 : ¬ 0 ≤ y1) (hw : w1 = 2 ^ (0 - y1).toNat) (hlt : ¬ w1 ≤ x1)
    (hv : ∀ t u' : Nat, x1 = (t : Int) → w1 = (u' : Int) → v = ((nano t u' : Nat) : Int)) : dueN b = some (-1 - q, v) := by
  obtain ⟨m1, m2, m3, m4⟩ := mid hk hP hu
  obtain ⟨n1, n2⟩ := mid2 hk hP hu hr
  rw [n1, n2] at hx hy
  rw [hy, Int.zero_sub, pow_cast] at hw
  unfold dueN
  rw [if_neg (by omega), if_neg m4, if_neg (by omega), if_neg (by omega), if_neg (by omega), hq, m2, hv _ _ hx hw]
theorem lf_B1 {K P u q r x1 y1 w0 w1 x y p : Int} (hk : K = (dKeep b : Int) ∧ P = dPow b) (h : K ≠ 0) (hP : ¬ 0 ≤ P) (hq : q = K.fdiv u) (hr : r = K.fmod u) (hu : u = 2 ^ (0 - P).toNat) (hr0 : r ≠ 0) (hab : ¬ (b : Int) < 9223372036854775808)
    (hx1 : x = ((lnear (x1 * 1000000000).toNat w1.toNat : Nat) : Int)) (hy2 : y = lpow (x1 * 1000000000).toNat w1.toNat) (hyp : 0 ≤ y) (hp : p = 2 ^ y.toNat)
    (hx : x1 = ((lnear (u - r).toNat u.toNat : Nat) : Int)) (hy : y1 = lpow (u - r).toNat u.toNat) (hy0 : ¬ 0 ≤ y1) (hw : w1 = 2 ^ (0 - y1).toNat) (hlt : ¬ w0 ≤ x1) (hw0 : w0 = 2 ^ (0 - y1).toNat) : dueN b = some (-1 - q, x * p) :=
  lf_B hk h hP hq hr hu hr0 hab hx hy hy0 hw (by rw [hw, ← hw0]; exact hlt) fun _ _ e1 e2 => nano_pos e1 e2 hx1 hy2 hyp hp
theorem lf_B2 {K P u q r x1 y1 w0 w1 x y p v : Int} (hk : K = (dKeep b : Int) ∧ P = dPow b) (h : K ≠ 0) (hP : ¬ 0 ≤ P) (hq : q = K.fdiv u) (hr : r = K.fmod u) (hu : u = 2 ^ (0 - P).toNat) (hr0 : r ≠ 0) (hab : ¬ (b : Int) < 9223372036854775808)
    (hv : v = x.fdiv p) (hx1 : x = ((lnear (x1 * 1000000000).toNat w1.toNat : Nat) : Int)) (hy2 : y = lpow (x1 * 1000000000).toNat w1.toNat) (hyp : ¬ 0 ≤ y) (hp : p = 2 ^ (0 - y).toNat)
    (hx : x1 = ((lnear (u - r).toNat u.toNat : Nat) : Int)) (hy : y1 = lpow (u - r).toNat u.toNat) (hy0 : ¬ 0 ≤ y1) (hw : w1 = 2 ^ (0 - y1).toNat) (hlt : ¬ w0 ≤ x1) (hw0 : w0 = 2 ^ (0 - y1).toNat) : dueN b = some (-1 - q, v) :=
  lf_B hk h hP hq hr hu hr0 hab hx hy hy0 hw (by rw [hw, ← hw0]; exact hlt) fun _ _ e1 e2 => nano_neg e1 e2 hx1 hy2 hyp hp hv
end
end Mine
end

section
open PySem PySem.W PyProof.Rows PySem.Spec
namespace Mine
open PySem.Builtin.Int (intBits)
set_option exponentiation.threshold 4000
local macro_rules | `(tactic| walk_at "binaryOp Pow int int") => `(tactic| (k_here; first | (with_reducible refine pow_52 ?_) | (with_reducible refine pow_63 ?_) | (with_reducible refine pow_giga ?_) | ((with_reducible refine l_pow (by omega) (by omega) ?_); intro _ _ _ _)))
local macro_rules | `(tactic| walk_at "binaryOp Mod int int") => `(tactic| (k_here; (with_reducible refine l_mod (by omega) ?_); intro _ _ _ _))
local macro_rules | `(tactic| walk_at "binaryOp FloorDiv int int") => `(tactic| (k_here; (with_reducible refine l_div (by omega) (by omega) (by first | omega | decide +kernel) ?_); intro _ _ _ _))
local macro_rules | `(tactic| walk_at "binaryOp Mult int int") => `(tactic| (k_here; (with_reducible refine l_mul ?_ (by omega))))
local macro_rules | `(tactic| walk_at "call builtin:divmod") => `(tactic| ((with_reducible show wpAny _ _ (call (Value.builtin _) [Value.int _ _, Value.int _ _]) _ _ _); (refine l_divmod (by assumption) (by assumption) (by omega) (by omega) (by omega) ?_); intro q' r' D' h' _ _ _ _ _ _ F' N' l1; (try k_lt l1)))
local macro_rules | `(tactic| walk_at "call ref") => `(tactic| ((with_reducible show wpAny _ _ (call (Value.ref 490) [Value.int _ _, Value.int _ _]) _ _ _); (refine' nearest_use _ _ _ _ ?h1 ?h2 ?h3 ?h4 ?k1 ?k2 ?k3 ?k4 ?k5 ?kK ?kd ?ku ?_; (case h1 => omega); (case h2 => omega); (case h4 => first | omega | exact bits_small (by omega) (by omega)); (case h3 => first | exact bits_over (by omega) (by with_reducible assumption) (by omega) | exact bits_left (by omega) (by with_reducible assumption) (by omega) | exact bits_near (by omega) (by omega)); (case k1 => k_asm); (case k2 => k_asm); (case k3 => k_asm); (case k4 => k_asm); (case k5 => k_asm); (case kK => exact rfl); (case kd => ktr_room); (case ku => ktr_units); intro x' y' D' t' u' c' h' tk' _ _ _ _ _ _ F' N' l1; (try k_lt l1); (try dsimp only); (try k_fold))))


set_option maxRecDepth 100000 in
set_option maxHeartbeats 8000000 in
theorem due_walk (w : World) (loose : List Str) (mean : ExcName → Option Value) (mg mb : Str → Option Value) (b : Nat) (t1 : Tok) (hb0 : 0 ≤ (b : Int)) (hb1 : (b : Int) < 18446744073709551616) :
    CallAt 40 w loose mean mg mb 497 [.int (b : Int) t1] (IsDue (dueN b)) := by
  w_top off
  unfold CallAt
  k_fill
  intro dp un gd cn cs a ccd cl outer A₀ base h₀ L m news s Q E B F X N T hk hd hu hret
  refine wpAny_call ?_
  k_dflt ktr_enter
  k_steps
  all_goals (first
    | (refine due2 hret (by assumption) (by assumption) (fun p hp => by repeat (first | exact hp | apply List.mem_cons_of_mem)) (by first | assumption | exact allLt_of (by assumption) | exact And.right (by assumption) | exact And.right (And.right (by assumption)) | exact And.right (And.right (And.right (by assumption)))) ?_)
    | (refine due0 hret (by assumption) (by assumption) (fun p hp => by repeat (first | exact hp | apply List.mem_cons_of_mem)) ?_))
  all_goals (first
    | (have hkp := keep0 (b := b) (by with_reducible assumption) (by with_reducible assumption) (by with_reducible assumption) (by omega))
    | (have hkp := keep1 (b := b) (by with_reducible assumption) (by with_reducible assumption) (by with_reducible assumption) (by omega)))
  all_goals (first
    | exact lf_zero hkp (by omega)
    | exact lf_A1 hkp (by omega) (by omega) (by with_reducible assumption) (by with_reducible assumption) (by with_reducible assumption) (by omega) (by omega) (by with_reducible assumption) (by with_reducible assumption) (by omega) (by with_reducible assumption)
    | exact lf_A2 hkp (by omega) (by omega) (by with_reducible assumption) (by with_reducible assumption) (by with_reducible assumption) (by omega) (by omega) (by with_reducible assumption) (by with_reducible assumption) (by with_reducible assumption) (by omega) (by with_reducible assumption)
    | exact lf_B1 hkp (by omega) (by omega) (by with_reducible assumption) (by with_reducible assumption) (by with_reducible assumption) (by omega) (by omega) (by with_reducible assumption) (by with_reducible assumption) (by omega) (by with_reducible assumption) (by with_reducible assumption) (by with_reducible assumption) (by omega) (by with_reducible assumption) (by with_reducible assumption) (by with_reducible assumption)
    | exact lf_B2 hkp (by omega) (by omega) (by with_reducible assumption) (by with_reducible assumption) (by with_reducible assumption) (by omega) (by omega) (by with_reducible assumption) (by with_reducible assumption) (by with_reducible assumption) (by omega) (by with_reducible assumption) (by with_reducible assumption) (by with_reducible assumption) (by omega) (by with_reducible assumption) (by with_reducible assumption) (by with_reducible assumption)
    | exact lf_N1 hkp (by omega) (by omega) (by with_reducible assumption) (by with_reducible assumption) (by with_reducible assumption) (by omega) (by omega) (by with_reducible assumption) (by with_reducible assumption) (by omega)
    | exact lf_N2 hkp (by omega) (by omega) (by with_reducible assumption) (by with_reducible assumption) (by with_reducible assumption) (by omega) (by omega) (by with_reducible assumption) (by with_reducible assumption) (by with_reducible assumption) (by omega)
    | exact lf_wholeA hkp (by omega) (by omega) (by with_reducible assumption) (by with_reducible assumption) (by with_reducible assumption) (by omega) (by omega)
    | exact lf_wholeB hkp (by omega) (by omega) (by with_reducible assumption) (by with_reducible assumption) (by with_reducible assumption) (by omega) (by omega)
    | exact lf_posA hkp (by omega) (by omega) (by with_reducible assumption) (by omega)
    | exact lf_posB hkp (by omega) (by omega) (by with_reducible assumption) (by omega)
    | (exfalso; omega))
end Mine
end

section
open PySem PySem.W PyProof.Rows PySem.Spec
namespace Mine
abbrev tsObj (D : Addr) (sec ns : Int) (t u : Tok) : Obj := { cls := .ref 193, dict := some D, data := .plain, slots := #[some (.int ns t), some (.int sec u)] }
/-- a Timestamp, new, with its (unused) dict -/
def IsTs (sec ns : Int) (r : Value) (tl : List (Addr × Obj)) : Prop := ∃ X D t u, r = .ref X ∧ @LT.lt Nat _ D X ∧ tl = [(X, tsObj D sec ns t u), (D, dictOf [] 0)]
theorem retTs {h₀ h' : Heap} {L X D : Addr} {m : Str → Option Value} {news : List (Addr × Obj)} {s : Shared} {Q : Value → Shared → Prop} {sec ns : Int} {t u : Tok} {tk : Nat}
    (hret : ∀ r tl h' tk', Fr h₀ L h' m → News h₀ L h' (tl ++ news) → (∀ q ∈ tl, AllLt q.1 news) → IsTs sec ns r tl → Q r { s with heap := h', toks := tk' })
    (F : Fr h₀ L h' m) (N : News h₀ L h' ((X, tsObj D sec ns t u) :: (D, dictOf [] 0) :: news)) (l1 : ∀ p ∈ news, p.1 < D) (l2 : @LT.lt Nat _ D X) : Q (.ref X) { s with heap := h', toks := tk } := by
  refine hret _ [(X, tsObj D sec ns t u), (D, dictOf [] 0)] _ _ F N (fun q hq => ?_) ⟨X, D, t, u, rfl, l2, rfl⟩
  rcases List.mem_cons.mp hq with rfl | hq
  · exact allLt_of fun p hp => Nat.lt_trans (l1 p hp) l2
  · rw [List.mem_singleton.mp hq]
    exact allLt_of l1
theorem int_told {prog : Program} {w : World} {A : Around} {E : Value → Shared → Prop} {s : Shared} {y : UInt64} {k : Int} {u : Tok} {Q : Value → Shared → Prop} (hd : ∃ b m e, Float64.decode y = .fin b m e ∧ Float64.truncOf b m e = k) (h : Q (.int k s.toks) { s with toks := s.toks + 1 }) :
    wpAny (model prog w) A (call (.type "int") [.float y u]) Q E s := by
  obtain ⟨b, m, e, hd, rfl⟩ := hd
  exact call_int_float hd h
theorem ne_of_all {d x : Addr} {l : List (Addr × Obj)} (h : ∀ p ∈ l, p.1 < d) (hx : @LT.lt Nat _ d x) : ∀ p ∈ l, p.1 ≠ x := fun p hp => Nat.ne_of_lt (Nat.lt_trans (h p hp) hx)
local macro_rules | `(tactic| k_all) => `(tactic| exact ne_of_all (by with_reducible assumption) (by assumption))
local macro_rules | `(tactic| k_room) => `(tactic| ktr_room)
local macro_rules | `(tactic| k_units) => `(tactic| ktr_units)
local macro_rules | `(tactic| walk_at "call type:int") => `(tactic| (k_here; (with_reducible refine' int_told ?k1 ?_); (case k1 => with_reducible assumption); k_whole; (try dsimp only)))
local macro_rules | `(tactic| walk_at "binaryOp Pow int int") => `(tactic| (k_here; (with_reducible refine' pow_giga ?_); k_whole; (try dsimp only)))
set_option maxRecDepth 100000 in
set_option maxHeartbeats 8000000 in
theorem unix_walk (w : World) (loose : List Str) (mean : ExcName → Option Value) (mg mb : Str → Option Value) (x : UInt64) (t1 : Tok) (sec ns : Int)
    (hsec : ∃ b m e, Float64.decode (Float64.divmod x (Float64.ofInt 1)).1 = .fin b m e ∧ Float64.truncOf b m e = sec)
    (hns : ∃ b m e, Float64.decode (Float64.mul (Float64.divmod x (Float64.ofInt 1)).2 (Float64.ofInt 1000000000)) = .fin b m e ∧ Float64.truncOf b m e = ns) (h0 : 0 ≤ ns) (h1 : ns < 1000000000) :
    CallAt 30 w loose mean mg mb 162 [.float x t1] (IsTs sec ns) := by
  w_top off
  unfold CallAt
  k_fill
  intro dp un gd cn cs a ccd cl outer A₀ base h₀ L m news s Q E B F X N T hk hd hu hret
  refine wpAny_call ?_
  k_dflt ktr_enter
  k_steps
  exact retTs hret (by k_asm) (by k_asm) (by k_asm) (by k_asm)
end Mine
end

section
open PySem PySem.W PyProof.Rows PySem.Spec PySem.Calls
open PySem.Sem (wp)
namespace Mine
section
variable {prog : Program} {w : World} {A₀ A : Around} {Γ : PySem.Ctx} {s : Shared} {base h₀ : Heap} {outer : List Env} {L : Addr} {m : Str → Option Value} {env : Env} {news : List (Addr × Obj)}
  {R : Result → Shared → Prop} {name qual : Str} {params : Arguments} {body : List Stmt} {scope : Scope} {dV kV doc pm cdv ct : Value} {an : Option Addr} {fo : Obj} {f : Addr} {args : Args} {binds : List (Str × Value)} {E : Value → Shared → Prop}

theorem G_frame (B : Below A₀ base outer h₀) (F : Fr h₀ L s.heap m) (N : News h₀ L s.heap news) (hlim : h₀.NoLimit) (hA : A.frames = some (env :: outer)) (hf : env.frame = some L) (hke : env.scope.kind = .function)
    (hB : GBelow Γ A) (hloc : ∀ y ∈ binds, scope.names.lookup y.1 = some .local)
    (h : ∀ Γ' g L' h₁, Fr h₀ L g m → Fr g L' h₁ (fun y => binds.reverse.lookup y) → News g L' h₁ news → Below A base (env :: outer) g → h₀.StaysIn g →
      GIn Γ' (A.deeper (envOf qual scope L' f cdv)) →
      wpG (model prog w) Γ' (execs body (envOf qual scope L' f cdv))
        (fun fl s' => LeaveK h₀ L m g R (match fl with | .ret v => v | _ => .none) s') (fun _ _ => False) { s with heap := h₁, toks := s.toks + binds.length })
    (hcell : ∀ x ∈ scope.names, x.2 ≠ .cell) (hk : scope.kind = .function) :
    wpAny (model prog w) A.in1 (newFunctionEnv scope mainGlobals [] binds (qual ++ ".<locals>.") (some f) cdv none builtinsNs) (fun env' s₂ => s₂.heap.NoLimit ∧ codeG (model prog w) (Γ.goto (.func body env')) R s₂) E s := by
  obtain ⟨FG, BG, st, lv⟩ := groundX (R := R) B F N hA hf hke
  refine wpAny_newFunctionEnv hcell hloc (fun h₁ hns hsb => ⟨(hlim.keeps F.keep).fresh _ hsb, ?_⟩) hk
  have hk₁ : ∀ b o, s.heap.get? b = some o → h₁.get? b = some o := fun b o e => hsb.extBut b o (Nat.ne_of_lt (Heap.lt_size e)) (Heap.get?_push_of_some _ e)
  refine G_func rfl ?_
  show wpG (model prog w) (Γ.goto (.func body (envOf qual scope s.heap.objs.size f cdv))) (execs body (envOf qual scope s.heap.objs.size f cdv)) _ _ _
  exact G_mono (h _ _ s.heap.objs.size h₁ FG ⟨hns, fun b o e => hk₁ b o (of_hideAll _ e), Nat.le_of_eq (hideAll_size _ _)⟩
    (fun p hp => ⟨hk₁ _ _ (N p hp).1, Nat.ne_of_lt (Heap.lt_size (N p hp).1), hideAll_none _ (List.mem_map_of_mem hp)⟩) BG st (func_in (goto_below hB _) rfl)) (fun fl s' hl => lv _ _ hl) fun _ _ y => y

/-- a def whose parameters stand, called -/
theorem G_def {K : Frag} {p : Program} {loose : List Str} {mean : ExcName → Option Value} {mg mb : Str → Option Value} {oc : Value} {od : Option Addr} {osl : Array (Option Value)}
    (hc : Γ.code = .call (.ref f) args) (hB : GBelow Γ A)
    (B : Below A₀ base outer h₀) (F : Fr h₀ L s.heap m) (X₀ : K.In h₀) (N : News h₀ L s.heap news) (T : Top p loose mean mg mb h₀) (hA : A.frames = some (env :: outer)) (hf : env.frame = some L) (hke : env.scope.kind = .function)
    (ho : K.lookup f = some ⟨oc, od, .func (fnOf name qual params body scope dV kV doc pm an cdv ct), osl⟩) (hcd : codeIn K cdv qual = true) (hroom : A.depth < recursionLimit)
    (hbind : BindsTo s (fnOf name qual params body scope dV kV doc pm an cdv ct) args binds) (hloc : ∀ y ∈ binds, scope.names.lookup y.1 = some .local)
    (h : ∀ Γ' g L' h₁, Fr h₀ L g m → Fr g L' h₁ (fun y => binds.reverse.lookup y) → News g L' h₁ news → Below A base (env :: outer) g → K.In g → Top p loose mean mg mb g →
      GIn Γ' (A.deeper (envOf qual scope L' f cdv)) →
      wpG (model prog w) Γ' (execs body (envOf qual scope L' f cdv))
        (fun fl s' => LeaveK h₀ L m g R (match fl with | .ret v => v | _ => .none) s') (fun _ _ => False) { s with heap := h₁, toks := s.toks + binds.length })
    (hco : scope.isCoroutine = false) (hgen : scope.isGenerator = false) (hk : scope.kind = .function)
    (hcell : ∀ x ∈ scope.names, x.2 ≠ .cell) : codeG (model prog w) Γ R s :=
  G_call_def hc hB hroom ((X₀.keeps F.keep) _ _ ho) rfl hco hgen rfl (codeRec_of (X₀.keeps F.keep) hcd)
    (hbind _ _ _ _ (G_frame B F N T.nolimit hA hf hke hB hloc (fun Γ' g L' h₁ FG F' N' B' st I => h Γ' g L' h₁ FG F' N' B' (X₀.keeps st) (T.keeps st) I) hcell hk))
end

section
variable {M : Model} {Γ : PySem.Ctx} {A : Around} {E : Value → Shared → Prop} {s : Shared} {env : Env} {Q : Value → Shared → Prop}
/-- a call, whatever the context comes to be -/
theorem G_calls {f : Value} {pos : List Value} {kw : List (Str × Value)} (I : GIn Γ A)
    (h : ∀ Γ' : PySem.Ctx, Γ'.code = .call f ⟨pos, kw⟩ → GBelow Γ' A → codeG M Γ' (fun r s' => match r with | .ok (.ret v) => Q v s' | .ok _ => False | .error e => E e s') s) : wpG M Γ (call f pos kw) Q E s :=
  G_call fun p => h _ rfl (enter_below I _ p)
theorem G_release {vs rs : List Value} {Q : Unit → Shared → Prop} (h : Q () s) : wpG M Γ (release vs rs) Q E s := fun p => by rw [Sem.wp_release]; exact h
theorem G_callWith {P : Heap → Prop} {pos : Pos} {f : Value} {first : List Value} {args : List (Bool × Sem Value)} {keywords : List (Option Str × Sem Value)} (hin : Γ.In A)
    (hk : ∀ h, P h → ∃ k, (k = Keeper.frame ∨ k = Keeper.machine ∨ k = Keeper.boundFrame) ∧ Looks M h (keeperOf f) k)
    (h : wpG M Γ (evalArgs f true args keywords) (fun a s₁ => P s₁.heap ∧ wpG M Γ (call f (first ++ a.pos) a.kw) Q E s₁) E s) : wpG M Γ (callWith pos f first args keywords) Q E s := by
  unfold callWith
  refine G_bind (G_holding (G_mono h (fun a s₁ h₁ => G_bind (G_standAt ?_)) fun _ _ x => x))
  obtain ⟨k, hk', L⟩ := hk _ h₁.1
  refine G_bind (G_of_any hin (L.here ?_))
  have tail : ∀ {t : Sem Value}, wpG M Γ t Q E s₁ → wpG M Γ (t >>= fun r => holding [r] point >>= fun _ => pure r) Q E s₁ :=
    fun ht => G_bind (G_mono ht (fun r s₂ hr => G_bind (G_holding (G_point (G_pure hr)))) fun _ _ x => x)
  have marked (mk : Value) : wpG M Γ (callMarked mk f (first ++ a.pos) a.kw) Q E s₁ := by unfold callMarked; exact G_keep h₁.2
  have oper (vs : List Value) : wpG M Γ (operate vs (call f (first ++ a.pos) a.kw)) Q E s₁ := by
    unfold operate
    exact G_bind (G_holding (G_mono h₁.2 (fun r s₂ hr => G_bind (G_release (G_pure hr))) fun _ _ x => x))
  cases (args.any (·.1) || keywords.any (·.1.isNone)) <;> rcases hk' with rfl | rfl | rfl <;> dsimp only <;> first | exact tail (marked _) | exact tail h₁.2 | exact tail (oper _) | (split <;> first | exact tail h₁.2 | exact tail (marked _))
theorem G_spliced_one {x : Sem Value} {Q : List Value → Shared → Prop} (h : wpG M Γ x (fun v s₁ => Q [v] s₁) E s) : wpG M Γ (spliced [(false, x)]) Q E s := by
  rw [spliced]
  refine G_bind (G_mono h (fun v s₁ h₁ => ?_) fun _ _ x => x)
  simp only [Bool.false_eq_true, if_false]
  exact G_bind (G_pure (G_bind (G_holding (by rw [spliced]; exact G_pure (G_pure h₁)))))
theorem G_args_one {f : Value} {x : Sem Value} {Q : Args → Shared → Prop} (h : wpG M Γ x (fun v s' => Q ⟨[v], []⟩ s') E s) : wpG M Γ (evalArgs f true [(false, x)] []) Q E s := by
  unfold evalArgs
  show wpG M Γ (spliced [(false, x)] >>= _) Q E s
  refine G_bind (G_spliced_one (G_mono h (fun v s' h' => ?_) fun _ _ x => x))
  refine G_bind (G_pure (G_holding ?_))
  exact G_bind (G_pure (G_bind (G_pure (G_pure h'))))
theorem G_Call_Name {id : Str} {p pos : Pos} {args : List Expr} {keywords : List Keyword} (hin : Γ.In A)
    (h : wpAny M A (eval (.Name id p) env) (fun f s₁ => wpG M Γ (callWith pos f [] (backTo pos (starEach args env)) (backToKw pos (keywordEach keywords env))) Q E s₁) E s) :
    wpG M Γ (eval (.Call (.Name id p) args keywords pos) env) Q E s := by
  rw [arm_eval_Call_Name']
  exact G_bind (G_of_any hin h)
theorem G_Call_Attr {o : Expr} {name : Str} {apos pos : Pos} {args : List Expr} {kws : List Keyword} {pl : Sem Bool} (hin : Γ.In A)
    (h : wpAny M A (eval o env) (fun ov s₁ => wpAny M A (getMethod ov name pl) (fun fx s₂ => wpG M Γ (callWith pos fx.1 fx.2 (backTo pos (starEach args env)) (backToKw pos (keywordEach kws env))) Q E s₂) E s₁) E s)
    (he : eval (.Call (.Attribute o name apos) args kws pos) env = (do
      let ov ← eval o env
      standAt apos.atName
      let (f, first) ← holding [ov] (getMethod ov name pl)
      callWith pos f first (backTo pos (starEach args env)) (backToKw pos (keywordEach kws env))) := by rfl) :
    wpG M Γ (eval (.Call (.Attribute o name apos) args kws pos) env) Q E s := by
  rw [he]
  exact G_bind (G_of_any hin (wpAny_mono h (fun ov s₁ h₁ => G_bind (G_standAt (G_bind (G_holding (G_of_any hin (wpAny_mono h₁ (fun fx s₂ h₂ => h₂) fun _ _ x => x)))))) fun _ _ x => x))
end
end Mine
end

section
open PySem PySem.W PyProof.Rows PySem.Spec PySem.Calls
open PySem.Sem (wp)
namespace Mine
section
variable {α β : Type} {M : Model} {Γ : PySem.Ctx} {A : Around} {E : Value → Shared → Prop} {s : Shared}
theorem G_looks {t : Sem α} {v : α} {Q : α → Shared → Prop} (hin : Γ.In A) (L : Looks M s.heap t v) (h : Q v s) : wpG M Γ t Q E s := G_of_any hin (L.here h)
end
section
variable {prog : Program} {w : World} {Γ : PySem.Ctx} {A : Around} {K : Frag} {C : Addr} {R : Result → Shared → Prop} {s : Shared}
/-- the call of a built-in, the check ahead of it -/
theorem G_builtin {id : String} {args : Args} {b : Builtin} (hc : Γ.code = .call (.builtin id) args) (hB : GBelow Γ A) (hq : (Code.builtin id args).quiet = true) (hbad : badCode (.builtin id args) = false) (hb : entryFor table id = some b)
    (h : wpAny (model prog w) A.in1 (checkBuiltinCall id args) (fun _ s₁ => GIn (Γ.goto (.builtin id args)) (A.under (.builtin id args)) → wpG (model prog w) (Γ.goto (.builtin id args)) (b args)
      (fun fin s' => match fin with | .done f => R (.ok f) s' | .again c' => c'.quiet = true ∧ codeG (model prog w) (Γ.goto c') R s') (fun e s' => R (.error e) s') s₁)
      (fun e s' => R (.error e) s') s) : codeG (model prog w) Γ R s := by
  have hin : Γ.In A.in1 := by
    have := (below_in hB (by rw [hc]; rfl)).inn
    rw [hc] at this
    exact this
  refine codeG_of_tree ?_
  rw [hc]
  show wpG (model prog w) Γ (do checkBuiltinCall id args; again (.builtin id args)) _ _ s
  refine G_bind (G_of_any hin (wpAny_mono h (fun _ s₁ h₁ => G_pure (And.intro hq (codeG_of_tree ?_))) fun _ _ h' => h'))
  show wpG _ _ (match entryFor table id with | some b => b args | none => unsupported ((withoutEnding? id "#data").getD id)) _ _ s₁
  rw [hb]
  exact h₁ (below_in (goto_below hB _) hbad)

theorem G_make_core {h : Heap} {g : Array GenState} {d : Drawn} {t : Nat} {os : OsState} {rest : List Value} {kw : List (Str × Value)} {init : Value} (hc : Γ.code = .call (.ref C) ⟨rest, kw⟩) (hB : GBelow Γ A)
    (Y : Makes (model prog w) h C) (hi : Looks (model prog w) h (typeLookup (.ref C) "__init__") (some init))
    (hb : ∀ self, Looks (model prog w) h (bindSpecial init self) (init, [self])) (hne : (some init != some (Value.builtin "object.__init__")) = true ∨ (rest = [] ∧ kw = []))
    (hq : ∀ Γ', GIn Γ' (A.under (.builtin "type.__call__" ⟨.ref C :: rest, kw⟩)) → wpG (model prog w) Γ' (call init (.ref (h.objs.size + 1) :: rest) kw) (fun v s' => v = .none ∧ R (.ok (.ret (.ref (h.objs.size + 1)))) s') (fun e s' => R (.error e) s') ⟨(h.push emptyDict).push (instObj C h.objs.size), g, d, t, os⟩) :
    codeG (model prog w) Γ R ⟨h, g, d, t, os⟩ := by
  have Y' := Y
  obtain ⟨⟨oc, od, cd, sl, hC, e1, e2, e4⟩, made, base, self, top, call, typ⟩ := Y
  have hin : Γ.In A.in1 := by
    have := (below_in hB (by rw [hc]; rfl)).inn
    rw [hc] at this
    exact this
  refine codeG_of_tree ?_
  rw [hc]
  show wpG _ _ (callAny (.ref C) _) _ _ _
  refine G_of_any hin ?_
  refine nd_load hC ?_
  show wpAny _ _ (callAny.viaDunder (.ref C) _) _ _ _
  unfold callAny.viaDunder
  refine wpAny_bind (call.at ?_)
  dsimp only
  rw [tc_bind]
  refine wpAny_bind (wpAny_pure (wpAny_bind (wpAny_pure ?_)))
  refine wpAny_pure (a := Fin.again (.call (.builtin "type.__call__") ⟨.ref C :: rest, kw⟩)) (And.intro rfl ?_)
  refine G_builtin rfl (goto_below hB _) (Code.quiet_builtin _ (by decide +kernel)) rfl entry_typeCall (check_slot tc_kind tc_split typ (tc_args _ _ _) ?_)
  intro I
  unfold Builtin.«type.__call__»
  have hm : Looks (model prog w) h (mroOf (.ref C)) cd.mro := ((Looks.ld (part := none) hC).andThen .now).andThen .now
  dsimp only
  refine G_bind (G_looks I.inn hm ?_)
  rw [e4]
  refine G_bind (G_looks I.inn made ?_)
  dsimp only
  have k : ∀ b o, h.get? b = some o → ((h.push emptyDict).push (instObj C h.objs.size)).get? b = some o := fun b o e => Heap.get?_push_of_some _ (Heap.get?_push_of_some _ e)
  have hx : ((h.push emptyDict).push (instObj C h.objs.size)).get? (h.objs.size + 1) = some (instObj C h.objs.size) := by heap_get
  have t1 : Looks (model prog w) ((h.push emptyDict).push (instObj C h.objs.size)) (typeOf (.ref (h.objs.size + 1))) (.ref C) := (Looks.ld hx).andThen .now
  have hI : Looks (model prog w) ((h.push emptyDict).push (instObj C h.objs.size)) (isInstance (.ref (h.objs.size + 1)) (.ref C)) true := t1.andThen (self.keeps k)
  have hS : Looks (model prog w) ((h.push emptyDict).push (instObj C h.objs.size)) (specialOf (.ref (h.objs.size + 1)) "__init__") (some init) := t1.andThen (hi.keeps k)
  refine G_bind (G_pure (G_bind (G_holding (G_of_any I.inn (wpAny_call (new_K Y' hi hne ?_))))))
  dsimp only
  refine G_bind (G_looks I.inn hI ?_)
  skip
  rw [if_neg (by decide)]
  refine G_bind (G_holding ?_)
  unfold callSpecial?
  refine G_bind (G_looks I.inn hS ?_)
  dsimp only
  refine G_holding (G_bind (G_looks I.inn ((hb _).keeps k) ?_))
  dsimp only
  refine G_bind (G_mono (hq _ I) (fun v s' hv => ?_) fun _ _ x => x)
  obtain ⟨rfl, hv⟩ := hv
  refine G_pure ?_
  dsimp only
  rw [if_neg (by decide)]
  exact G_pure hv

theorem G_make {rest : List Value} {kw : List (Str × Value)} {fI : Addr} {h₀ : Heap} {L : Addr} {m : Str → Option Value} {news : List (Addr × Obj)} (hc : Γ.code = .call (.ref C) ⟨rest, kw⟩) (hB : GBelow Γ A)
    (F : Fr h₀ L s.heap m) (N : News h₀ L s.heap news) (X : K.In s.heap) (hm : makesIn K C = true)
    (hi : findIn K (.ref C) "__init__" = some (some (.ref fI))) (hf : typeIn K (.ref fI) = some (.type "function"))
    (h : ∀ Γ' x dx h', GIn Γ' (A.under (.builtin "type.__call__" ⟨.ref C :: rest, kw⟩)) → Fr h₀ L h' m → News h₀ L h' ((x, instObj C dx) :: (dx, emptyDict) :: news) → (∀ p ∈ news, p.1 < dx) → dx < x →
      wpG (model prog w) Γ' (call (.ref fI) (.ref x :: rest) kw) (fun v s' => v = .none ∧ R (.ok (.ret (.ref x))) s') (fun e s' => R (.error e) s') { s with heap := h' }) :
    codeG (model prog w) Γ R s := by
  obtain ⟨hh, g, d, t, os⟩ := s
  refine G_make_core hc hB (makes_of X hm) (looks_findIn X hi) (fun self => bind_fn X self hf) (.inl rfl) (fun Γ' I => h Γ' _ hh.objs.size _ I ((F.push _).push _) ?_ (fun p hp => Heap.lt_size (N p hp).1) (Nat.lt_succ_self _))
  have := (N.push F emptyDict).push (F.push _) (instObj C hh.objs.size)
  rwa [Heap.size_push] at this
end
end Mine
end

section
open PySem PySem.W PyProof.Rows PySem.Spec PySem.Calls
open PySem.Sem (wp)
set_option maxRecDepth 100000
namespace Mine
namespace FB
theorem mro : mroOf (.type "bytearray") = pure [.type "bytearray", .type "object"] := by rw [mroOf_type]; kernel_rfl
theorem lookup_new : typeLookup (.type "bytearray") "__new__" = pure (some (.builtin "bytearray.__new__")) := by rw [typeLookup_type, builtinLookup_eq_fast]; kernel_rfl
theorem slot_init : Slot "bytearray" "__init__" "bytearray.__init__" :=
  .of (owner := "bytearray") (n := "__init__") (by rw [typeLookup_type, builtinLookup_eq_fast]; kernel_rfl) (by decide +kernel) (by decide +kernel) (by decide +kernel)
    (by first | exact .inl (by decide +kernel) | exact .inr (by decide +kernel)) (by rw [isSubtype_type]; kernel_rfl)
theorem called : TypeCalled "bytearray" "bytearray.__new__" "bytearray.__init__" :=
  ⟨by decide +kernel, by decide +kernel, ⟨_, _, mro⟩, madeBy_type mro lookup_new (by decide +kernel), by decide +kernel, by rw [isSubtype_type]; kernel_rfl, slot_init⟩
theorem typeCall : checkTypeCall "bytearray" ⟨[], []⟩ = pure () := by kernel_rfl
theorem newCall : checkBuiltinCall "bytearray.__new__" ⟨[.type "bytearray"], []⟩ = pure () := by kernel_rfl
theorem plain_new : plainId "bytearray.__new__" = true := by decide +kernel
theorem entry_new : entryFor table "bytearray.__new__" = some Builtin.«list.__new__» := entryFor_alias (id' := "list.__new__") (by rw [fastTable_eq_tree]; kernel_rfl) (by first | rfl | decide +kernel) (by decide +kernel) (by rw [fastTable_eq_tree]; kernel_rfl)
theorem entry_init : entryFor table "bytearray.__init__" = some Builtin.«bytearray.__init__» := entryFor_of_tree (by kernel_rfl)
theorem owner_new : ("bytearray.__new__".splitOn ".__new__").headD "" = "bytearray" := by simp +decide [String.splitOn, String.splitOnAux]
theorem sub_self : isSubtype (.type "bytearray") (.type "bytearray") = pure true := by rw [isSubtype_type]; kernel_rfl
theorem bind : Builtin.Bytes.bindOptional "bytearray.__init__" "bytearray" ["source", "encoding", "errors"] [] [] = pure [none, none, none] := by kernel_rfl
theorem init_args (a : Value) : argsOk "bytearray.__init__" ⟨[a], []⟩ := by unfold argsOk; kernel_rfl
theorem lookup_rel : typeLookup (.type "bytearray") "__release_buffer__" = pure (some (.builtin "bytearray.__release_buffer__")) := by rw [typeLookup_type, builtinLookup_eq_fast]; kernel_rfl
theorem rel_ends : ("bytearray.__release_buffer__".endsWith ("." ++ "__release_buffer__")) = true := by decide +kernel
theorem rel_drop : ("bytearray.__release_buffer__".dropRight ("__release_buffer__".length + 1)) = "bytearray" := by decide +kernel
end FB
theorem bad_dec {id : String} {args : Args} (h : badCode (.builtin id args) = false) : Builtin.Bytes.decodersThatHold.contains id = false := by
  have h' : badIds.contains id = false := h
  unfold badIds at h'
  rw [Bool.eq_false_iff] at h' ⊢
  intro q
  exact h' (List.contains_iff_mem.mpr (List.mem_append_right _ (List.contains_iff_mem.mp q)))
section
variable {α : Type} {M : Model} {Γ : PySem.Ctx} {A : Around} {E : Value → Shared → Prop} {s : Shared}
theorem G_exported {self : Value} {Q : Bool → Shared → Prop} (I : GIn Γ A) (h : Q false s) : wpG M Γ (Builtin.Bytes.exported self) Q E s := fun p => by
  unfold Builtin.Bytes.exported
  rw [Sem.wp_bind']
  unfold stack
  rw [Sem.wp_stack]
  show Q _ s
  have e : ∀ (l : List (Code × Pos)), (∀ x ∈ l, badCode x.1 = false) → ∀ f : Code × Pos → Bool, (∀ c p, badCode c = false → f (c, p) = false) → l.any f = false := fun l hl f hf => by
    rw [List.any_eq_false]
    intro x hx
    rw [hf x.1 x.2 (hl x hx)]
    decide
  rw [e ((Γ.code, p) :: Γ.below) (fun x hx => ?_) _ (fun c p hc => ?_)]
  · exact h
  · rcases List.mem_cons.mp hx with rfl | hx
    · exact I.clean (Γ.code, default) (.head _)
    · exact I.clean x (.tail _ hx)
  · split
    · rename_i q; cases q; exact absurd (show badIds.contains "bytearray.__contains__" = false from hc) (by decide +kernel)
    · rename_i q; cases q; exact absurd (show badIds.contains "bytearray.__mod__" = false from hc) (by decide +kernel)
    · rename_i q; cases q; exact absurd (show badIds.contains "bytearray.__rmod__" = false from hc) (by decide +kernel)
    · rename_i q; cases q; exact absurd (show badIds.contains "_struct.pack_into.held" = false from hc) (by decide +kernel)
    · rename_i q; cases q; exact absurd (show badIds.contains "bytearray.find.held" = false from hc) (by decide +kernel)
    · rename_i q; cases q; rw [bad_dec hc, Bool.and_false]
    · rfl
theorem own_release {x : Addr} {Q : Bool → Shared → Prop} (hT : s.TypeIs (.ref x) "bytearray") (h : Q false s) : wpAny M A (Builtin.Bytes.ownRelease (.ref x)) Q E s := by
  unfold Builtin.Bytes.ownRelease Builtin.Bytes.slotIsOwn
  refine wpAny_bind (wpAny_bind (wpAny_specialOf hT FB.lookup_rel ?_))
  dsimp only
  rw [FB.rel_ends, FB.rel_drop]
  exact wpAny_isInstance hT FB.sub_self (wpAny_pure h)
theorem exports_of {x : Addr} {o : Obj} {b : Array UInt8} {Q : Nat → Shared → Prop} (ho : s.heap.get? x = some o) (hd : o.data = .bytearray b 0) (h : Q 0 s) : wpAny M A (Builtin.Bytes.exportsOf (.ref x)) Q E s := by
  unfold Builtin.Bytes.exportsOf
  refine wpAny_bind (wpAny_load ho ?_)
  rw [hd]
  exact wpAny_pure h
abbrev baObj (b : Array UInt8) : Obj := { cls := .type "bytearray", data := .bytearray b }
theorem G_resizable {x : Addr} {o : Obj} {b : Array UInt8} {Q : Bool → Shared → Prop} (I : GIn Γ A) (ho : s.heap.get? x = some o) (hd : o.data = .bytearray b 0) (h : Q false s) :
    wpG M Γ (Builtin.Bytes.exported (.ref x) <||> do return (← Builtin.Bytes.exportsOf (.ref x)) > 0) Q E s := by
  unfold orM
  refine G_bind (G_exported I ?_)
  show wpG M Γ (Builtin.Bytes.exportsOf (.ref x) >>= fun n => pure (decide (n > 0))) Q E s
  exact G_bind (G_of_any I.inn (exports_of ho hd (G_pure h)))
theorem ba_write {x : Addr} {b : Array UInt8} {f : Array UInt8 → Array UInt8} {Q : Unit → Shared → Prop} (ho : s.heap.get? x = some (baObj b)) (hz : (f b).size ≤ sizeLine)
    (h : ∀ h', h'.get? x = some (baObj (f b)) → Heap.SameBut x s.heap h' → Q () { s with heap := h' }) : wpAny M A (Builtin.Bytes.write (.ref x) f) Q E s := by
  show wpAny M A (updateBytearray x f) Q E s
  unfold updateBytearray
  refine wpAny_bind (wpAny_load ho ?_)
  show wpAny _ _ (update x (Obj.mapBytearray f) >>= fun _ => lookBehind x) _ _ _
  have h2 := Heap.get?_update_self (Obj.mapBytearray f) ho rfl
  refine wpAny_bind (wpAny_update ho ?_)
  refine wpAny_lookBehind h2 ?_ (h _ h2 (Heap.SameBut.update ..))
  show (if (f b).size > sizeLine then some "bytearray:memory" else none) = none
  rw [if_neg (Nat.not_lt.mpr hz)]
end
section
variable {prog : Program} {w : World} {A : Around} {E : Value → Shared → Prop} {s : Shared}
theorem code_ba_new {Q₁ : Value → Shared → Prop}
    (h : Q₁ (.ref s.heap.objs.size) { s with heap := s.heap.push { cls := .type "bytearray", data := .bytearray #[] } }) :
    codeAny (model prog w) A (.call (.builtin "bytearray.__new__") ⟨[.type "bytearray"], []⟩) (wants Q₁ E) s := by
  refine codeAny_of_tree ?_
  show wpAny _ A.in1 (do checkBuiltinCall "bytearray.__new__" ⟨[.type "bytearray"], []⟩; again (.builtin "bytearray.__new__" ⟨[.type "bytearray"], []⟩)) _ _ s
  refine wpAny_bind (wpAny_of_eq FB.newCall (wpAny_pure ⟨plainId_quiet FB.plain_new _, codeAny_builtin_stack FB.entry_new rfl fun p st => ?_⟩))
  rw [Around.under_plainId FB.plain_new _]
  have hsub := FB.sub_self
  have hown := FB.owner_new
  obtain ⟨hp, g, d, tk, os⟩ := s
  simp only [hown]
  wp_walk
  exact h
theorem G_code_builtin {Γ : PySem.Ctx} {R : Result → Shared → Prop} {id : String} {args : Args} {b : Builtin} (hc : Γ.code = .builtin id args) (hb : entryFor table id = some b)
    (h : wpG (model prog w) Γ (b args) (fun fin s' => match fin with | .done f => R (.ok f) s' | .again c' => c'.quiet = true ∧ codeG (model prog w) (Γ.goto c') R s') (fun e s' => R (.error e) s') s) : codeG (model prog w) Γ R s := by
  refine codeG_of_tree ?_
  rw [hc]
  show wpG _ _ (match entryFor table id with | some b => b args | none => unsupported ((withoutEnding? id "#data").getD id)) _ _ s
  rw [hb]
  exact h
theorem G_eq {α : Type} {M : Model} {Γ : PySem.Ctx} {t : Sem α} {a : α} {Q : α → Shared → Prop} (e : t = pure a) (h : Q a s) : wpG M Γ t Q E s := by rw [e]; exact G_pure h
theorem G_ifn {α : Type} {M : Model} {Γ : PySem.Ctx} {c : Bool} {a b : Sem α} {Q : α → Shared → Prop} (hc : c = false) (h : wpG M Γ b Q E s) : wpG M Γ (if c = true then a else b) Q E s := by subst hc; exact h
theorem G_ift {α : Type} {M : Model} {Γ : PySem.Ctx} {c : Bool} {a b : Sem α} {Q : α → Shared → Prop} (hc : c = true) (h : wpG M Γ a Q E s) : wpG M Γ (if c = true then a else b) Q E s := by subst hc; exact h
theorem G_bytearray {Γ : PySem.Ctx} {Q : Value → Shared → Prop} (I : GIn Γ A)
    (h : ∀ h', h'.get? s.heap.objs.size = some (baObj #[]) → (∀ b o, s.heap.get? b = some o → h'.get? b = some o) → Q (.ref s.heap.objs.size) { s with heap := h' }) :
    wpG (model prog w) Γ (call (.type "bytearray") [] []) Q E s := by
  refine G_call fun p => ?_
  refine codeG_of_tree ?_
  show wpG _ _ (callAny (.type "bytearray") _) _ _ _
  refine G_pure ⟨Code.quiet_builtin _ (by decide +kernel), ?_⟩
  have I' := below_in (goto_below (enter_below I (.call (.type "bytearray") ⟨[], []⟩) p) (.builtin "type.__call__" ⟨[.type "bytearray"], []⟩)) rfl
  refine G_code_builtin rfl F.entry_type_call ?_
  obtain ⟨c, tl, hmro⟩ := FB.called.mro
  unfold Builtin.«type.__call__»
  dsimp only
  refine G_ifn FB.called.notType ?_
  refine G_ifn FB.called.canCreate ?_
  refine G_bind (G_eq FB.typeCall ?_)
  refine G_bind (G_eq hmro ?_)
  refine G_ifn rfl ?_
  refine G_bind (G_eq FB.called.made ?_)
  dsimp only
  refine G_bind (G_pure (G_bind (G_holding (G_of_any I'.inn (wpAny_call (codeAny_mono (code_ba_new (E := E) (Q₁ := fun v s₁ => v = .ref s.heap.objs.size ∧ s₁ = { s with heap := s.heap.push (baObj #[]) }) ⟨rfl, rfl⟩) fun r s₁ hr => ?_))))))
  rcases r with e | (v | _ | _ | _) <;> first | exact hr | exact hr.elim | skip
  obtain ⟨rfl, rfl⟩ := hr
  dsimp only
  have hx : (s.heap.push (baObj #[])).get? s.heap.objs.size = some (baObj #[]) := Heap.get?_push_size _ rfl
  have hT : ({ s with heap := s.heap.push (baObj #[]) } : Shared).TypeIs (.ref s.heap.objs.size) "bytearray" := ⟨_, hx, rfl⟩
  refine G_bind (G_of_any I'.inn (wpAny_isInstance hT FB.called.sub ?_))
  refine G_ifn rfl ?_
  refine G_bind (G_holding ?_)
  unfold callSpecial?
  refine G_bind (G_of_any I'.inn (wpAny_specialOf hT FB.called.init.lookup ?_))
  dsimp only
  refine G_holding (G_bind (G_eq (FB.called.init.bind _) ?_))
  dsimp only
  refine G_bind (G_mono (Q := fun v s' => v = .none ∧ ∃ h', s' = { s with heap := h' } ∧ h'.get? s.heap.objs.size = some (baObj #[]) ∧ (∀ b o, s.heap.get? b = some o → h'.get? b = some o)) (E := fun _ _ => False) ?_ (fun v s' hv => ?_) fun _ _ x => x.elim)
  · refine G_call fun p' => ?_
    refine G_builtin rfl (enter_below I' _ p') (plainId_quiet FB.called.init.plain _) rfl FB.entry_init (FB.called.init.check _ _ _ _ _ _ _ _ hT (FB.init_args _) fun I2 => ?_)
    unfold Builtin.«bytearray.__init__»
    dsimp only
    refine G_bind (G_of_any I2.inn (own_release hT ?_))
    refine G_ifn rfl ?_
    refine G_bind (G_eq FB.bind ?_)
    dsimp only
    refine G_bind (G_eq (a := ()) rfl ?_)
    refine G_bind (G_eq (a := ()) rfl ?_)
    refine G_bind (G_resizable I2 hx rfl ?_)
    refine G_ifn rfl ?_
    refine G_bind (G_of_any I2.inn (ba_write hx (Nat.zero_le _) fun h' ha hb => ?_))
    refine G_bind (G_ifn rfl (G_ifn rfl (G_pure ?_)))
    exact G_pure ⟨rfl, h', rfl, ha, fun b o e => (hb.2 b (Nat.ne_of_lt (Heap.lt_size e))).trans (Heap.get?_push_of_some _ e)⟩
  · obtain ⟨rfl, h', rfl, a, b⟩ := hv
    refine G_pure ?_
    dsimp only
    refine G_ifn rfl ?_
    exact G_pure (h h' a b)
end
end Mine
end

section
open PySem PySem.W PyProof.Rows PySem.Spec PySem.Calls
open PySem.Sem (wp)
set_option maxRecDepth 100000
namespace Mine
namespace FB
theorem slot_ext : Slot "bytearray" "extend" "bytearray.extend" :=
  .of (owner := "bytearray") (n := "extend") (by rw [typeLookup_type, builtinLookup_eq_fast]; kernel_rfl) (by decide +kernel) (by decide +kernel) (by decide +kernel)
    (by first | exact .inl (by decide +kernel) | exact .inr (by decide +kernel)) (by rw [isSubtype_type]; kernel_rfl)
theorem type_ext : typeOf (.builtin "bytearray.extend") = pure (.type "method_descriptor") := by show builtinType _ = _; rw [builtinType_eq_fast]; kernel_rfl
theorem entry_ext : entryFor table "bytearray.extend" = some Builtin.«bytearray.extend» := entryFor_of_tree (by kernel_rfl)
theorem ext_args (a b : Value) : argsOk "bytearray.extend" ⟨[a, b], []⟩ := by unfold argsOk; kernel_rfl
theorem bytes_buf : typeLookup (.type "bytes") "__buffer__" = pure (some (.builtin "bytes.__buffer__")) := by rw [typeLookup_type, builtinLookup_eq_fast]; kernel_rfl
theorem bytes_rel : typeLookup (.type "bytes") "__release_buffer__" = pure none := by rw [typeLookup_type, builtinLookup_eq_fast]; kernel_rfl
theorem buf_ends : ("bytes.__buffer__".endsWith ("." ++ "__buffer__")) = true := by decide +kernel
theorem buf_drop : ("bytes.__buffer__".dropRight ("__buffer__".length + 1)) = "bytes" := by decide +kernel
theorem bytes_sub : isSubtype (.type "bytes") (.type "bytes") = pure true := by rw [isSubtype_type]; kernel_rfl
theorem ba_buf : typeLookup (.type "bytearray") "__buffer__" = pure (some (.builtin "bytearray.__buffer__")) := by rw [typeLookup_type, builtinLookup_eq_fast]; kernel_rfl
theorem babuf_ends : ("bytearray.__buffer__".endsWith ("." ++ "__buffer__")) = true := by decide +kernel
theorem babuf_drop : ("bytearray.__buffer__".dropRight ("__buffer__".length + 1)) = "bytearray" := by decide +kernel
end FB
section
variable {M : Model} {Γ : PySem.Ctx} {A : Around} {E : Value → Shared → Prop} {s : Shared}
theorem slot_own_bytes {b : Array UInt8} {t : Tok} {Q : Bool → Shared → Prop} (h : Q true s) : wpAny M A (Builtin.Bytes.slotIsOwn (.bytes b t) "__buffer__") Q E s := by
  have hT : s.TypeIs (.bytes b t) "bytes" := rfl
  unfold Builtin.Bytes.slotIsOwn
  refine wpAny_bind (wpAny_specialOf hT FB.bytes_buf ?_)
  dsimp only
  rw [FB.buf_ends, FB.buf_drop]
  exact wpAny_isInstance hT FB.bytes_sub h
theorem own_rel_bytes {b : Array UInt8} {t : Tok} {Q : Bool → Shared → Prop} (h : Q false s) : wpAny M A (Builtin.Bytes.ownRelease (.bytes b t)) Q E s := by
  have hT : s.TypeIs (.bytes b t) "bytes" := rfl
  unfold Builtin.Bytes.ownRelease Builtin.Bytes.slotIsOwn
  exact wpAny_bind (wpAny_bind (wpAny_specialOf hT FB.bytes_rel (wpAny_pure (wpAny_pure h))))
theorem buffer_bytes {id : String} {b : Array UInt8} {t : Tok} {full : Bool} {Q : Option (Array UInt8) → Shared → Prop} (h : Q (some b) s) : wpAny M A (Builtin.Bytes.buffer? id (.bytes b t) full) Q E s := by
  have hT : s.TypeIs (.bytes b t) "bytes" := rfl
  unfold Builtin.Bytes.buffer?
  refine wpAny_bind (wpAny_specialOf hT FB.bytes_buf ?_)
  dsimp only
  refine wpAny_bind (slot_own_bytes ?_)
  rw [if_neg (by decide)]
  refine wpAny_bind (wpAny_specialOf hT FB.bytes_buf ?_)
  refine wpAny_bind (own_rel_bytes ?_)
  rw [if_neg (by decide)]
  exact wpAny_bind (wpAny_bind (wpAny_pure (wpAny_pure (wpAny_pure h))))
theorem take_bytes {id : String} {b : Array UInt8} {t : Tok} {fl : Int} {Q : Option (Array UInt8 × Option Value) → Shared → Prop} (h : Q (some (b, none)) s) : wpAny M A (Builtin.Bytes.takeBufferQuiet? id (.bytes b t) fl) Q E s := by
  have hT : s.TypeIs (.bytes b t) "bytes" := rfl
  unfold Builtin.Bytes.takeBufferQuiet?
  refine wpAny_bind (wpAny_attempt ?_)
  unfold Builtin.Bytes.takeBuffer?
  refine wpAny_bind (wpAny_specialOf hT FB.bytes_buf ?_)
  dsimp only
  refine wpAny_bind (slot_own_bytes ?_)
  rw [if_neg (by decide)]
  refine wpAny_bind (wpAny_specialOf hT FB.bytes_buf ?_)
  exact wpAny_bind (buffer_bytes (wpAny_pure (wpAny_pure h)))
theorem payload_ba {x : Addr} {b : Array UInt8} {n : Nat} {o : Obj} {Q : Array UInt8 → Shared → Prop} (ho : s.heap.get? x = some o) (hd : o.data = .bytearray b n) (h : Q b s) : wpAny M A (Builtin.Bytes.payload (.ref x)) Q E s := by
  unfold Builtin.Bytes.payload Builtin.Bytes.payload?
  refine wpAny_bind (wpAny_bind (wpAny_load ho ?_))
  rw [hd]
  exact wpAny_pure (wpAny_pure h)
theorem G_checkResize {x : Addr} {o : Obj} {b : Array UInt8} {Q : Unit → Shared → Prop} (I : GIn Γ A) (ho : s.heap.get? x = some o) (hd : o.data = .bytearray b 0) (h : Q () s) : wpG M Γ (Builtin.Bytes.checkResize (.ref x)) Q E s := by
  unfold Builtin.Bytes.checkResize
  exact G_bind (G_resizable I ho hd (G_ifn rfl (G_pure h)))
end
section
variable {prog : Program} {w : World} {A : Around} {E : Value → Shared → Prop} {s : Shared} {Γ : PySem.Ctx}
theorem G_extend {Q : Value → Shared → Prop} {x : Addr} {a b : Array UInt8} {t : Tok} (I : GIn Γ A) (hx : s.heap.get? x = some (baObj a)) (hz : (a ++ b).size ≤ sizeLine)
    (h : ∀ h', h'.get? x = some (baObj (a ++ b)) → Heap.SameBut x s.heap h' → Q .none { s with heap := h' }) :
    wpG (model prog w) Γ (call (.builtin "bytearray.extend") [.ref x, .bytes b t] []) Q E s := by
  have hT : s.TypeIs (.ref x) "bytearray" := ⟨_, hx, rfl⟩
  refine G_call fun p => ?_
  refine G_builtin rfl (enter_below I _ p) (plainId_quiet FB.slot_ext.plain _) rfl FB.entry_ext (FB.slot_ext.check _ _ _ _ _ _ _ _ hT (FB.ext_args _ _) fun I2 => ?_)
  unfold Builtin.«bytearray.extend»
  refine G_bind (G_eq (a := (Value.ref x, Value.bytes b t)) rfl ?_)
  dsimp only
  have hB : s.TypeIs (.bytes b t) "bytes" := rfl
  refine G_bind (G_of_any I2.inn (wpAny_specialOf hB FB.bytes_buf ?_))
  refine G_ift rfl ?_
  refine G_bind (G_rule ?_)
  refine G_bind (G_of_any I2.inn (payload_ba hx rfl ?_))
  refine G_bind (G_of_any I2.inn (take_bytes ?_))
  dsimp only
  refine G_ift rfl ?_
  have add : wpG (model prog w) ((Γ.enter (.call (.builtin "bytearray.extend") ⟨[.ref x, .bytes b t], []⟩) none p).goto (.builtin "bytearray.extend" ⟨[.ref x, .bytes b t], []⟩)) (Builtin.Bytes.write (.ref x) (· ++ b) >>= fun _ => ret .none) (fun fin s' => match fin with
      | .done f => (match (Except.ok f : Result) with | .ok (.ret v) => Q v s' | .ok _ => False | .error e => E e s')
      | .again c' => c'.quiet = true ∧ codeG (model prog w) (((Γ.enter (.call (.builtin "bytearray.extend") ⟨[.ref x, .bytes b t], []⟩) none p).goto (.builtin "bytearray.extend" ⟨[.ref x, .bytes b t], []⟩)).goto c') (fun r s' => match r with | .ok (.ret v) => Q v s' | .ok _ => False | .error e => E e s') s') E s :=
    G_bind (G_of_any I2.inn (ba_write hx hz fun h' h1 h2 => G_pure (h h' h1 h2)))
  show wpG _ _ (if (!b.isEmpty) = true then (Builtin.Bytes.checkResize (.ref x) >>= fun _ => Builtin.Bytes.write (.ref x) (· ++ b) >>= fun _ => ret .none) else (Builtin.Bytes.write (.ref x) (· ++ b) >>= fun _ => ret .none)) _ _ _
  cases q : (!b.isEmpty)
  · exact G_ifn rfl add
  · exact G_ift rfl (G_bind (G_checkResize I2 hx rfl add))
end
end Mine
end

section
open PySem PySem.W PyProof.Rows PySem.Spec PySem.Calls
open PySem.Sem (wp)
set_option maxRecDepth 100000
namespace Mine
theorem newsSub {h₀ h : Heap} {L : Addr} {l l' : List (Addr × Obj)} (N : News h₀ L h l) (hs : ∀ p ∈ l', p ∈ l) : News h₀ L h l' := fun p hp => N p (hs p hp)
namespace FB
theorem dict_iter : typeLookup (.type "dict") "__iter__" = pure (some (.builtin "dict.__iter__")) := by rw [typeLookup_type, builtinLookup_eq_fast]; kernel_rfl
theorem sub_dict : isSubtype (.type "dict") (.type "dict") = pure true := by rw [isSubtype_type]; kernel_rfl
end FB
section
variable {M : Model} {Γ : PySem.Ctx} {A : Around} {E : Value → Shared → Prop} {s : Shared}
theorem A_ifn {α : Type} {c : Bool} {a b : Sem α} {Q : α → Shared → Prop} (hc : c = false) (h : wpAny M A b Q E s) : wpAny M A (if c = true then a else b) Q E s := by subst hc; exact h
theorem A_ift {α : Type} {c : Bool} {a b : Sem α} {Q : α → Shared → Prop} (hc : c = true) (h : wpAny M A a Q E s) : wpAny M A (if c = true then a else b) Q E s := by subst hc; exact h
theorem A_eq {α : Type} {t : Sem α} {a : α} {Q : α → Shared → Prop} (e : t = pure a) (h : Q a s) : wpAny M A t Q E s := by rw [e]; exact wpAny_pure h
theorem find_empty {d : Addr} {k : Str} {t : Tok} {hsh : Int} {n : Nat} {Q : Option Nat → Shared → Prop} (hd : s.heap.get? d = some (dictOf [] n)) (h : Q none s) : wpAny M A (dictFind d (.str k t) hsh) Q E s := by
  unfold dictFind
  refine wpAny_holding (wpAny_bind (wpAny_dictEntries hd rfl ?_))
  dsimp only
  refine A_ift (by simp) ?_
  unfold foundByValue
  simp only [List.findIdx?_toArray, List.findIdx?_nil]
  exact wpAny_pure h
theorem merge_first {d a : Addr} {k : Str} {t : Tok} {hsh : Int} {v : Value} {n : Nat} {Q : Unit → Shared → Prop} (hd : s.heap.get? d = some (dictOf [] 0)) (ha : s.heap.get? a = some (dictOf [⟨hsh, .str k t, v⟩] n)) (hne : d ≠ a) (hm : (a == sysModules) = false)
    (h : ∀ h', h'.get? d = some (dictOf [⟨hsh, .str k t, v⟩] 1) → Heap.SameBut d s.heap h' → Q () { s with heap := h' }) : wpAny M A (mergeMapping d (.ref a) true) Q E s := by
  have hT : s.TypeIs (.ref a) "dict" := ⟨_, ha, rfl⟩
  unfold mergeMapping
  refine wpAny_bind (wpAny_isInstance hT FB.sub_dict ?_)
  rw [if_pos rfl]
  refine wpAny_bind (wpAny_specialOf hT FB.dict_iter ?_)
  refine wpAny_bind (wpAny_pure ?_)
  rw [show (some (Value.builtin "dict.__iter__") == some (Value.builtin "dict.__iter__")) = true from by decide]
  dsimp only
  refine A_ifn hm ?_
  refine wpAny_bind (wpAny_dictEntries hd rfl ?_)
  refine A_ift rfl ?_
  refine wpAny_bind (wpAny_dictEntries ha rfl ?_)
  simp only [List.forIn_toArray, List.forIn_cons, List.forIn_nil, pure_bind]
  refine wpAny_bind (wpAny_dictEntries ha rfl ?_)
  refine wpAny_bind (wpAny_dictEpoch ha rfl ?_)
  rw [show List.range [({ hash := hsh, key := .str k t, val := v } : DictEntry)].toArray.size = [0] from rfl, List.forIn_cons]
  refine wpAny_bind (wpAny_bind (wpAny_bind (wpAny_dictEntries ha rfl ?_)))
  rw [show (#[({ hash := hsh, key := .str k t, val := v } : DictEntry)])[0]? = some { hash := hsh, key := .str k t, val := v } from rfl]
  dsimp only
  refine wpAny_bind (wpAny_holding ?_)
  rw [if_pos trivial]
  refine wpAny_bind (find_empty hd ?_)
  refine A_ifn rfl ?_
  unfold dictPut
  refine wpAny_bind (find_empty hd ?_)
  dsimp only
  refine wpAny_updateDictKeys hd rfl ?_ (Nat.zero_le _) (Nat.le_refl _)
  have h2 : (s.heap.update d (Obj.mapDictKeys fun x => x.push { hash := hsh, key := .str k t, val := v })).get? d = some (dictOf [{ hash := hsh, key := .str k t, val := v }] 1) := Heap.get?_update_self _ hd rfl
  have h3 : (s.heap.update d (Obj.mapDictKeys fun x => x.push { hash := hsh, key := .str k t, val := v })).get? a = some (dictOf [{ hash := hsh, key := .str k t, val := v }] n) := (Heap.get?_update_other _ _ hne).trans ha
  refine wpAny_bind (wpAny_dictEpoch h3 rfl ?_)
  refine A_ifn (by simp) ?_
  refine wpAny_pure ?_
  dsimp only
  rw [List.forIn_nil]
  exact wpAny_pure (wpAny_pure (h _ h2 (Heap.SameBut.update ..)))
theorem merge_nothing {d a : Addr} {e : DictEntry} {es : List DictEntry} {n : Nat} {Q : Unit → Shared → Prop} (hd : s.heap.get? d = some (dictOf (e :: es) n)) {ep : Nat} (ha : s.heap.get? a = some (dictOf [] ep)) (hm : (a == sysModules) = false)
    (h : Q () s) : wpAny M A (mergeMapping d (.ref a) true) Q E s := by
  have hT : s.TypeIs (.ref a) "dict" := ⟨_, ha, rfl⟩
  unfold mergeMapping
  refine wpAny_bind (wpAny_isInstance hT FB.sub_dict ?_)
  rw [if_pos rfl]
  refine wpAny_bind (wpAny_specialOf hT FB.dict_iter ?_)
  refine wpAny_bind (wpAny_pure ?_)
  rw [show (some (Value.builtin "dict.__iter__") == some (Value.builtin "dict.__iter__")) = true from by decide]
  dsimp only
  refine A_ifn hm ?_
  refine wpAny_bind (wpAny_dictEntries hd rfl ?_)
  refine A_ifn rfl ?_
  refine wpAny_bind (wpAny_dictEntries ha rfl ?_)
  refine wpAny_bind (wpAny_dictEpoch ha rfl ?_)
  rw [show List.range (#[] : Array DictEntry).size = [] from rfl, List.forIn_nil]
  exact wpAny_bind (wpAny_pure (wpAny_pure h))
end
section
variable {prog : Program} {w : World} {A : Around} {E : Value → Shared → Prop} {s : Shared} {h₀ : Heap} {L : Addr} {m : Str → Option Value} {news : List (Addr × Obj)}
theorem A_noRaise {α : Type} {M : Model} {t : Sem α} {k : Value → Sem Unit} {Q : α → Shared → Prop} (h : wpAny M A t Q (fun _ _ => False) s) : wpAny M A (t.onRaise k) Q E s :=
  wpAny_onRaise (wpAny_mono h (fun _ _ x => x) fun _ _ x => x.elim)
theorem A_noCatch {α : Type} {M : Model} {t : Sem α} {k : Value → Sem α} {Q : α → Shared → Prop} (h : wpAny M A t Q (fun _ _ => False) s) : wpAny M A (t.tryCatch k) Q E s :=
  wpAny_tryCatch (wpAny_mono h (fun _ _ x => x) fun _ _ x => x.elim)
theorem fr_but {h h' : Heap} {d : Addr} (F : Fr h₀ L h m) (hs : Heap.SameBut d h h') (hd : h₀.get? d = none) (hL : d ≠ L) : Fr h₀ L h' m :=
  ⟨F.ns.at fun o e => (hs.2 L (Ne.symm hL)).trans e, fun b o e => (hs.2 b (fun q => by subst q; rw [hd] at e; cases e)).trans (F.keep b o e), F.above⟩
theorem news_but {h h' : Heap} {d : Addr} {l : List (Addr × Obj)} (N : News h₀ L h l) (hs : Heap.SameBut d h h') (hd : ∀ p ∈ l, p.1 ≠ d) : News h₀ L h' l :=
  fun p hp => ⟨(hs.2 p.1 (hd p hp)).trans (N p hp).1, (N p hp).2⟩
theorem cw {nm : Str} {x0 xl xk : Sem Value} {f v0 : Value} {D : Addr} {P : Value → Prop} {Q : Args → Shared → Prop} (F : Fr h₀ L s.heap m) (N : News h₀ L s.heap news) (hD : (D, dictOf [] 0) ∈ news) (hm : (D == sysModules) = false) (hlt : sysModules < s.heap.objs.size)
    (h0 : ∀ Q : Value → Shared → Prop, Q v0 s → wpAny (model prog w) A x0 Q E s)
    (hl : ∀ d h₁, Fr h₀ L h₁ m → News h₀ L h₁ ((d, dictOf [] 0) :: news) → ∀ Q : Value → Shared → Prop, (∀ h₂ tk vl, Fr h₀ L h₂ m → News h₀ L h₂ ((d, dictOf [] 0) :: news) → sysModules < h₂.objs.size → P vl → Q vl { s with heap := h₂, toks := tk }) → wpAny (model prog w) A xl Q E { s with heap := h₁ })
    (hk : ∀ s' : Shared, Fr h₀ L s'.heap m → ∀ Q : Value → Shared → Prop, Q (.ref D) s' → wpAny (model prog w) A xk Q E s')
    (h : ∀ h' tk vl, Fr h₀ L h' m → News h₀ L h' news → P vl → Q ⟨[v0], [(nm, vl)]⟩ { s with heap := h', toks := tk }) :
    wpAny (model prog w) A (evalArgs f true [(false, x0)] [(some nm, xl), (none, xk)]) Q E s := by
  unfold evalArgs
  show wpAny _ _ (spliced [(false, x0)] >>= _) Q E s
  refine wpAny_bind (spliced_cons (h0 _ (spliced_nil ?_)))
  refine wpAny_bind (wpAny_pure (wpAny_holding ?_))
  refine A_ifn rfl ?_
  refine wpAny_bind ?_
  unfold mergedKeywords
  refine wpAny_bind (wpAny_alloc ?_)
  refine wpAny_bind (wpAny_holding ?_)
  dsimp only
  have F1 := F.push (emptyDict)
  have N1 := N.push F emptyDict
  have hne : ∀ p ∈ news, p.1 ≠ s.heap.objs.size := fun p hp => Nat.ne_of_lt (Heap.lt_size (N p hp).1)
  refine wpAny_bind ?_
  rw [List.forIn_cons]
  refine wpAny_bind (wpAny_pure ?_)
  dsimp only
  rw [List.forIn_cons]
  refine wpAny_bind ?_
  dsimp only
  refine wpAny_bind (A_ifn rfl ?_)
  refine wpAny_bind (wpAny_evalAll_cons ?_)
  refine hl _ _ F1 N1 _ fun h₂ tk vl F2 N2 hlt2 hP => wpAny_evalAll_nil ?_
  refine wpAny_bind (wpAny_alloc ?_)
  have N3 := N2.push F2 emptyDict
  have F3 := F2.push emptyDict
  have hne2 : ∀ p ∈ (s.heap.objs.size, dictOf [] 0) :: news, p.1 ≠ h₂.objs.size := fun p hp => Nat.ne_of_lt (Heap.lt_size (N2 p hp).1)
  rw [show ((([] : List (Str × Sem Value)) ++ [(nm, xl)]).zip [vl]) = [((nm, xl), vl)] from rfl, List.forIn_cons]
  refine wpAny_bind (wpAny_bind (wpAny_bind (kp_nsSet F3 N3 hne2 (fun _ h => nomatch h) (fun _ h => nomatch h) fun h₄ F4 N4 => wpAny_pure ?_)))
  dsimp only
  rw [List.forIn_nil]
  refine wpAny_pure ?_
  have hsub : h₂.objs.size ≠ s.heap.objs.size := fun e => hne2 (s.heap.objs.size, dictOf [] 0) (.head _) e.symm
  have d4 := N4 (s.heap.objs.size, dictOf [] 0) (.tail _ (.head _))
  refine A_noRaise (wpAny_holding (A_noCatch (A_noRaise (merge_first d4.1 (N4 _ (.head _)).1 (Ne.symm hsub) (beq_eq_false_iff_ne.mpr (Nat.ne_of_gt hlt2)) fun h₅ a5 b5 => ?_))))
  have F5 : Fr h₀ L h₅ m := fr_but F4 b5 d4.2.2 d4.2.1
  have N5 : News h₀ L h₅ news := news_but (newsSub N4 fun p hp => .tail _ (.tail _ hp)) b5 hne
  refine wpAny_bind (hk _ F5 _ ?_)
  refine wpAny_bind (A_noRaise (wpAny_holding (A_noCatch (A_noRaise (merge_nothing a5 (N5 _ hD).1 hm ?_)))))
  refine wpAny_pure ?_
  dsimp only
  rw [List.forIn_nil]
  refine wpAny_pure ?_
  refine A_ift rfl (wpAny_pure ?_)
  refine wpAny_pure ?_
  refine wpAny_bind (wpAny_pure ?_)
  refine wpAny_bind (wpAny_holding ?_)
  unfold keywordsIn
  refine wpAny_bind (wpAny_dictEntries a5 rfl ?_)
  rw [List.forIn_toArray, List.forIn_cons]
  dsimp only
  refine wpAny_bind (wpAny_bind (wpAny_pure ?_))
  dsimp only
  rw [List.forIn_nil]
  exact wpAny_pure (wpAny_pure (wpAny_pure (h _ _ vl F5 N5 hP)))
end
end Mine
end

section
open PySem PySem.W PyProof.Rows PySem.Spec PySem.Calls
open PySem.Sem (wp)
set_option maxRecDepth 100000
namespace Mine
section
variable {prog : Program} {w : World} {A A₀ : Around} {Γ : PySem.Ctx} {s : Shared} {K : Frag} {L : Addr} {h₀ base : Heap} {m mg mb : Str → Option Value} {news : List (Addr × Obj)} {p : Program} {loose : List Str} {mean : ExcName → Option Value}

theorem G_more {env : Env} {outer : List Env} {R : Result → Shared → Prop} {name qual : Str} {params : Arguments} {body : List Stmt} {scope : Scope} {dV kV doc pm cdv ct oc : Value} {an od : Option Addr} {osl : Array (Option Value)} {f : Addr} {args : Args} {nm : Str} {front : List (Str × Value)} {g₁ : Addr → Sem (List (Str × Value))}
    (hc : Γ.code = .call (.ref f) args) (hB : GBelow Γ A)
    (B : Below A₀ base outer h₀) (F : Fr h₀ L s.heap m) (X₀ : K.In h₀) (N : News h₀ L s.heap news) (T : Top p loose mean mg mb h₀) (hA : A.frames = some (env :: outer)) (hf : env.frame = some L) (hke : env.scope.kind = .function)
    (ho : K.lookup f = some ⟨oc, od, .func (fnOf name qual params body scope dV kV doc pm an cdv ct), osl⟩) (hcd : codeIn K cdv qual = true) (hroom : A.depth < recursionLimit)
    (hp : peekA K ⟨prog, w.params⟩ (bindArgs (fnOf name qual params body scope dV kV doc pm an cdv ct) args) = some (dictOf [] 0, g₁))
    (hk₁ : ∀ D, g₁ D = (forIn ([] : List (Str × Value)) PUnit.unit (fun x _ => (nsSet D x.1 x.2 >>= fun _ => pure (ForInStep.yield PUnit.unit))) >>= fun _ => pure (front ++ [(nm, Value.ref D)])))
    (hloc : ∀ D, ∀ y ∈ front ++ [(nm, Value.ref D)], scope.names.lookup y.1 = some .local)
    (h : ∀ D Γ' g L' h₁ tk, (∀ p ∈ news, p.1 < D) → (D == sysModules) = false → Fr h₀ L g m → Fr g L' h₁ (fun y => (front ++ [(nm, Value.ref D)]).reverse.lookup y) → News g L' h₁ ((D, dictOf [] 0) :: news) → Below A base (env :: outer) g → K.In g → Top p loose mean mg mb g →
      GIn Γ' (A.deeper (envOf qual scope L' f cdv)) →
      wpG (model prog w) Γ' (execs body (envOf qual scope L' f cdv))
        (fun fl s' => LeaveK h₀ L m g R (match fl with | .ret v => v | _ => .none) s') (fun _ _ => False) { s with heap := h₁, toks := tk })
    (hco : scope.isCoroutine = false) (hgen : scope.isGenerator = false) (hk : scope.kind = .function)
    (hcell : ∀ x ∈ scope.names, x.2 ≠ .cell) : codeG (model prog w) Γ R s := by
  refine G_call_def hc hB hroom ((X₀.keeps F.keep) _ _ ho) rfl hco hgen rfl (codeRec_of (X₀.keeps F.keep) hcd) ?_
  refine wp_of_peekA (o := dictOf [] 0) F N (X₀.keeps F.keep) rfl _ g₁ hp fun h' F' N' l => ?_
  rw [hk₁, List.forIn_nil]
  refine wpAny_bind (wpAny_pure (wpAny_pure ?_))
  exact G_frame (s := { s with heap := h' }) B F' N' T.nolimit hA hf hke hB (hloc _)
    (fun Γ' g L' h₁ FG FL NG BG st I => h _ Γ' g L' h₁ _ l (F.notModules (modules_low T.nolimit)) FG FL NG BG (X₀.keeps st) (T.keeps st) I) hcell hk
end
section
variable {M : Model} {Γ : PySem.Ctx} {A : Around} {E : Value → Shared → Prop} {s : Shared} {env : Env}
theorem G_split (n : Nat) {l : List Stmt} {Q : Flow → Shared → Prop} (h : wpG M Γ (execs (l.take n) env) (fun f s' => match f with | .next => wpG M Γ (execs (l.drop n) env) Q E s' | f => Q f s') E s) : wpG M Γ (execs l env) Q E s := by
  have := G_execs_app (l := l.take n) (rest := l.drop n) (env := env) (Q := Q) (E := E) (s := s) (M := M) (Γ := Γ) h
  rwa [List.take_append_drop] at this
theorem G_args_nil {f : Value} {Q : Args → Shared → Prop} (h : Q ⟨[], []⟩ s) : wpG M Γ (evalArgs f true [] []) Q E s := by
  unfold evalArgs
  show wpG M Γ (spliced [] >>= _) Q E s
  rw [spliced]
  refine G_bind (G_pure (G_bind (G_pure (G_holding ?_))))
  exact G_bind (G_pure (G_bind (G_pure (G_pure h))))
theorem G_callWith_K {K : Frag} {pos : Pos} {f : Value} {first : List Value} {args : List (Bool × Sem Value)} {keywords : List (Option Str × Sem Value)} {Q : Value → Shared → Prop} {h₀ : Heap} (hin : Γ.In A) (_X : K.In h₀) (hk : keepIn K f = true)
    (h : wpG M Γ (evalArgs f true args keywords) (fun a s₁ => K.In s₁.heap ∧ wpG M Γ (call f (first ++ a.pos) a.kw) Q E s₁) E s) : wpG M Γ (callWith pos f first args keywords) Q E s :=
  G_callWith hin (keeps_K hk) h
theorem keeps_type {M : Model} (T : String) (h : Heap) (_ : True) : ∃ k, (k = Keeper.frame ∨ k = Keeper.machine ∨ k = Keeper.boundFrame) ∧ Looks M h (keeperOf (.type T)) k := ⟨_, .inr (.inl rfl), Looks.of_pure rfl⟩
theorem keeps_builtin {M : Model} (T : String) (h : Heap) (_ : True) : ∃ k, (k = Keeper.frame ∨ k = Keeper.machine ∨ k = Keeper.boundFrame) ∧ Looks M h (keeperOf (.builtin T)) k := ⟨_, .inr (.inl rfl), Looks.of_pure rfl⟩
theorem G_pre1 {a : Stmt} {rest : List Stmt} {Q : Flow → Shared → Prop} (h : wpG M Γ (execs [a] env) (fun f s' => match f with | .next => wpG M Γ (execs rest env) Q E s' | f => Q f s') E s) : wpG M Γ (execs (a :: rest) env) Q E s := G_execs_app (l := [a]) h
theorem G_pre2 {a b : Stmt} {rest : List Stmt} {Q : Flow → Shared → Prop} (h : wpG M Γ (execs [a, b] env) (fun f s' => match f with | .next => wpG M Γ (execs rest env) Q E s' | f => Q f s') E s) : wpG M Γ (execs (a :: b :: rest) env) Q E s := G_execs_app (l := [a, b]) h
theorem G_pre3 {a b c : Stmt} {rest : List Stmt} {Q : Flow → Shared → Prop} (h : wpG M Γ (execs [a, b, c] env) (fun f s' => match f with | .next => wpG M Γ (execs rest env) Q E s' | f => Q f s') E s) : wpG M Γ (execs (a :: b :: c :: rest) env) Q E s := G_execs_app (l := [a, b, c]) h
theorem G_pre4 {a b c d : Stmt} {rest : List Stmt} {Q : Flow → Shared → Prop} (h : wpG M Γ (execs [a, b, c, d] env) (fun f s' => match f with | .next => wpG M Γ (execs rest env) Q E s' | f => Q f s') E s) : wpG M Γ (execs (a :: b :: c :: d :: rest) env) Q E s := G_execs_app (l := [a, b, c, d]) h
end
section
variable {prog : Program} {w : World} {A : Around} {Γ : PySem.Ctx} {s : Shared} {L : Addr} {h₀ : Heap} {m : Str → Option Value} {news : List (Addr × Obj)} {E : Value → Shared → Prop}
theorem G_new_ba {env : Env} {pos : Pos} {Q : Value → Shared → Prop} (I : GIn Γ A) (F : Fr h₀ L s.heap m) (N : News h₀ L s.heap news)
    (h : ∀ x h', Fr h₀ L h' m → News h₀ L h' ((x, baObj #[]) :: news) → (∀ p ∈ news, p.1 < x) → Q (.ref x) { s with heap := h' }) :
    wpG (model prog w) Γ (callWith pos (.type "bytearray") [] (backTo pos (starEach [] env)) (backToKw pos (keywordEach [] env))) Q E s := by
  refine G_callWith I.inn (keeps_type "bytearray") (G_args_nil ⟨trivial, ?_⟩)
  refine G_bytearray I fun h' hx hk => ?_
  have N1 := N.push F (baObj #[])
  refine h _ h' ⟨F.ns.at fun o e => hk _ _ e, fun b o e => hk _ _ (F.keep b o e), F.above⟩ (fun p hp => ?_) (fun p hp => Heap.lt_size (N p hp).1)
  rcases List.mem_cons.mp hp with rfl | hp
  · exact ⟨hx, (N1 _ (.head _)).2⟩
  · exact ⟨hk _ _ (N p hp).1, (N p hp).2⟩
end
end Mine
end

section
open PySem PySem.W PyProof.Rows PySem.Spec PySem.Calls
open PySem.Sem (wp)
set_option maxRecDepth 100000
namespace Mine
namespace FB
theorem callable_kind : builtinKind "callable" = none := by decide +kernel
theorem callable_plain : plainId "callable" = true := by decide +kernel
theorem callable_entry : entryFor table "callable" = some Builtin.«callable» := entryFor_of_tree (by kernel_rfl)
theorem callable_args (a : Value) : argsOk "callable" ⟨[a], []⟩ := by unfold argsOk; kernel_rfl
theorem slot_len : Slot "bytearray" "__len__" "bytearray.__len__" :=
  .of (owner := "bytearray") (n := "__len__") (by rw [typeLookup_type, builtinLookup_eq_fast]; kernel_rfl) (by decide +kernel) (by decide +kernel) (by decide +kernel)
    (by first | exact .inl (by decide +kernel) | exact .inr (by decide +kernel)) (by rw [isSubtype_type]; kernel_rfl)
theorem len_entry : entryFor table "bytearray.__len__" = some Builtin.«bytearray.__len__» := entryFor_of_tree (by kernel_rfl)
theorem len_args (a : Value) : argsOk "bytearray.__len__" ⟨[a], []⟩ := by unfold argsOk; kernel_rfl
theorem slot_item : Slot "bytearray" "__getitem__" "bytearray.__getitem__" :=
  .of (owner := "bytearray") (n := "__getitem__") (by rw [typeLookup_type, builtinLookup_eq_fast]; kernel_rfl) (by decide +kernel) (by decide +kernel) (by decide +kernel)
    (by first | exact .inl (by decide +kernel) | exact .inr (by decide +kernel)) (by rw [isSubtype_type]; kernel_rfl)
theorem item_entry : entryFor table "bytearray.__getitem__" = some Builtin.«bytearray.__getitem__» := entryFor_of_tree (by kernel_rfl)
theorem item_args (a b : Value) : argsOk "bytearray.__getitem__" ⟨[a, b], []⟩ := by unfold argsOk; kernel_rfl
theorem int_index : typeLookup (.type "int") "__index__" = pure (some (.builtin "int.__index__")) := by rw [typeLookup_type, builtinLookup_eq_fast]; kernel_rfl
theorem item_notSeq : seqItemTypes.contains "bytearray" = false := by decide +kernel
theorem from_kind : builtinKind "_struct.unpack_from" = none := by decide +kernel
theorem from_plain : plainId "_struct.unpack_from" = true := by decide +kernel
theorem from_entry : entryFor table "_struct.unpack_from" = some Builtin.«_struct.unpack_from» := entryFor_of_tree (by kernel_rfl)
theorem from_args (a b c : Value) : argsOk "_struct.unpack_from" ⟨[a, b, c], []⟩ := by unfold argsOk; kernel_rfl
theorem from_bind (a b c : Value) : Builtin.Bytes.bindOptional "_struct.unpack_from" "unpack_from" ["", "buffer", "offset"] [a, b, c] [] = pure [some a, some b, some c] := by kernel_rfl
def fmtD : Builtin.Struct.Format := ⟨true, false, [⟨'d', 1, 0, 8⟩], 8, 1⟩
theorem place_d : Builtin.Struct.placeIn "unpack_from" "unpacking" "not enough data to unpack" fmtD 9 1 = pure 1 := by kernel_rfl
theorem parse_d : Builtin.Struct.parse #[62, 100] = pure fmtD := by kernel_rfl
end FB
section
variable {prog : Program} {w : World} {A : Around} {E : Value → Shared → Prop} {s : Shared}
theorem call_callable {K : Frag} {v r : Value} {Q : Value → Shared → Prop} (X : K.In s.heap) (e : specialIn K v "__call__" = some (some r)) (h : Q (.bool true) s) : wpAny (model prog w) A (call (.builtin "callable") [v]) Q E s := by
  refine Calls.call_function_entry FB.callable_kind FB.callable_plain FB.callable_entry (FB.callable_args _) ?_
  unfold Builtin.«callable»
  refine wpAny_bind (m := oneArg "callable" _) (wpAny_pure ?_)
  exact wpAny_bind ((looks_specialIn X e).here (wpAny_pure ⟨_, rfl, h⟩))
theorem ba_len {x : Addr} {b : Array UInt8} {Q : Value → Shared → Prop} (hx : s.heap.get? x = some (baObj b)) (hz : b.size ≤ sizeLine) (h : Q (.int b.size (s.toks + 1)) { s with toks := s.toks + 1 + 1 }) :
    wpAny (model prog w) A (call (.builtin "len") [.ref x]) Q E s := by
  have hT : s.TypeIs (.ref x) "bytearray" := ⟨_, hx, rfl⟩
  refine Calls.call_function_entry kind_len plain_len entry_len (args_len1 _) ?_
  unfold Builtin.«len»
  refine wpAny_bind (m := oneArg "len" _) (wpAny_pure ?_)
  refine wpAny_bind (m := callSpecial? (.ref x) (Str.ofString "__len__")) (wpAny_callSpecial?_slot (name := Str.ofString "__len__") hT FB.slot_len (wpAny_call_entry FB.slot_len hT FB.len_entry ?_ (FB.len_args _)))
  unfold Builtin.«bytearray.__len__»
  refine wpAny_bind (A_eq (a := (Value.ref x, [])) rfl ?_)
  dsimp only
  refine wpAny_bind (payload_ba hx rfl (wpAny_ret_mkInt ?_))
  show wpAny _ _ _ _ _ { s with toks := s.toks + 1 }
  refine wpAny_bind (wpAny_holding (wpAny_pure ?_))
  refine wpAny_bind (wpAny_letGo ?_)
  show wpAny _ _ (if (b.size : Int) < 0 then _ else _) _ _ _
  rw [if_neg (by omega)]
  show wpAny _ _ (if (b.size : Int) ≥ 2 ^ 63 then _ else _) _ _ _
  rw [if_neg (by unfold sizeLine at hz; omega)]
  exact wpAny_bind (wpAny_mkInt (wpAny_pure ⟨_, rfl, h⟩))
theorem ba_item {x : Addr} {b : Array UInt8} {k : Int} {u : Tok} {c : UInt8} {Q : Value → Shared → Prop} (hx : s.heap.get? x = some (baObj b)) (h0 : 0 ≤ k) (hc : b[k.toNat]? = some c) (hfit : k < 2 ^ 63) (h : Q (.int c.toNat s.toks) { s with toks := s.toks + 1 }) :
    wpAny (model prog w) A (getItem (.ref x) (.int k u)) Q E s := by
  have hT : s.TypeIs (.ref x) "bytearray" := ⟨_, hx, rfl⟩
  refine wpAny_getItem_slot hT FB.item_notSeq FB.slot_item (wpAny_call_entry FB.slot_item hT FB.item_entry ?_ (FB.item_args _ _))
  unfold Builtin.«bytearray.__getitem__»
  refine wpAny_bind (m := slotArgs "__getitem__" 1 _) (wpAny_pure (a := (Value.ref x, [Value.int k u])) ?_)
  dsimp only
  have hi : s.TypeIs (.int k u) "int" := typeIs_int s k u
  unfold Builtin.Bytes.subscript?
  refine wpAny_bind (wpAny_bind (wpAny_specialOf hi FB.int_index ?_))
  refine A_ifn rfl ?_
  refine wpAny_bind (A_eq (a := k) rfl ?_)
  have hf : Builtin.Bytes.fitsIndex k = true := by
    unfold Builtin.Bytes.fitsIndex
    rw [decide_eq_true (by omega), decide_eq_true (by omega)]
    rfl
  refine A_ifn (by rw [hf]; rfl) (wpAny_pure ?_)
  dsimp only
  refine wpAny_bind (payload_ba hx rfl ?_)
  have hlt : k.toNat < b.size := (Array.getElem?_eq_some_iff.mp hc).1
  have hs : ((seqIndex? k b.size).bind fun x => b[x]?) = some c := by
    have : seqIndex? k b.size = some k.toNat := by
      have h1 : ¬ k < 0 := by omega
      have h2 : k < (b.size : Int) := by omega
      simp [seqIndex?, h0, h1, h2]
    rw [this]
    exact hc
  rw [hs]
  dsimp only
  exact wpAny_ret_mkInt h
theorem slot_own_ba {x : Addr} {Q : Bool → Shared → Prop} {M : Model} (hT : s.TypeIs (.ref x) "bytearray") (h : Q true s) : wpAny M A (Builtin.Bytes.slotIsOwn (.ref x) "__buffer__") Q E s := by
  unfold Builtin.Bytes.slotIsOwn
  refine wpAny_bind (wpAny_specialOf hT FB.ba_buf ?_)
  dsimp only
  rw [FB.babuf_ends, FB.babuf_drop]
  exact wpAny_isInstance hT FB.sub_self h
theorem buffer_ba {id : String} {x : Addr} {b : Array UInt8} {full : Bool} {M : Model} {Q : Option (Array UInt8) → Shared → Prop} (hx : s.heap.get? x = some (baObj b)) (h : Q (some b) s) : wpAny M A (Builtin.Bytes.buffer? id (.ref x) full) Q E s := by
  have hT : s.TypeIs (.ref x) "bytearray" := ⟨_, hx, rfl⟩
  unfold Builtin.Bytes.buffer?
  refine wpAny_bind (wpAny_specialOf hT FB.ba_buf ?_)
  dsimp only
  refine wpAny_bind (slot_own_ba hT ?_)
  rw [if_neg (by decide)]
  refine wpAny_bind (wpAny_specialOf hT FB.ba_buf ?_)
  refine wpAny_bind (own_release hT ?_)
  rw [if_neg (by decide)]
  exact wpAny_bind (payload_ba hx rfl (wpAny_pure h))
theorem like_ba {id : String} {x : Addr} {b : Array UInt8} {M : Model} {Q : Array UInt8 → Shared → Prop} (hx : s.heap.get? x = some (baObj b)) (h : Q b s) : wpAny M A (Builtin.Bytes.bytesLike id (.ref x)) Q E s := by
  unfold Builtin.Bytes.bytesLike
  exact wpAny_bind (buffer_ba hx (wpAny_pure h))
theorem call_from {x : Addr} {b : Array UInt8} {t u : Tok} {n : Nat} {Q : Value → Shared → Prop} (hx : s.heap.get? x = some (baObj b)) (hb : b.size = 9) (hn : Builtin.Struct.natOf true (b.extract 1 9) = n) (hnan : Float64.isNaN n.toUInt64 = false)
    (h : Q (.ref s.heap.objs.size) { s with heap := s.heap.push { cls := .type "tuple", data := .seq #[.float n.toUInt64 s.toks] }, toks := s.toks + 1 }) :
    wpAny (model prog w) A (call (.builtin "_struct.unpack_from") [.str (Str.ofString ">d") t, .ref x, .int 1 u]) Q E s := by
  refine Calls.call_function_entry FB.from_kind FB.from_plain FB.from_entry (FB.from_args _ _ _) ?_
  unfold Builtin.«_struct.unpack_from»
  dsimp only
  rw [if_neg (by simp)]
  refine A_ifn rfl ?_
  refine wpAny_bind (A_eq (FB.from_bind _ _ _) ?_)
  dsimp only
  unfold Builtin.Struct.moduleFormat
  refine wpAny_bind (wpAny_bind (A_eq (a := Value.type "str") rfl ?_))
  refine A_ifn (by decide) ?_
  unfold Builtin.Struct.formatBytes
  refine wpAny_bind (wpAny_bind (A_eq (a := some (Str.ofString ">d")) rfl ?_))
  dsimp only
  refine A_ifn (by decide +kernel) (wpAny_pure ?_)
  rw [show (Str.ofString ">d").cps.map (·.toUInt8) = #[62, 100] from by decide +kernel]
  refine A_eq FB.parse_d ?_
  unfold Builtin.Struct.unpackFrom
  refine wpAny_bind (like_ba hx ?_)
  dsimp only
  unfold Builtin.Bytes.indexHeld
  refine wpAny_bind (wpAny_bind (A_eq (a := some (1 : Int)) rfl ?_))
  refine A_ift (by simp) (A_eq (a := (1 : Int)) rfl ?_)
  refine A_ifn (by decide) ?_
  refine wpAny_bind (wpAny_pure ?_)
  refine wpAny_bind (wpAny_pure ?_)
  refine A_ift rfl (wpAny_bind (like_ba hx ?_))
  rw [hb]
  refine wpAny_bind (A_eq FB.place_d ?_)
  unfold Builtin.Struct.unpacked
  refine wpAny_bind ?_
  rw [show FB.fmtD.codes = [⟨'d', 1, 0, 8⟩] from rfl]
  dsimp only
  rw [List.forIn_cons]
  refine wpAny_bind (wpAny_bind ?_)
  dsimp only
  refine A_ifn (by decide) ?_
  rw [Std.Legacy.Range.forIn_eq_forIn_range', show List.range' ([:1] : Std.Legacy.Range).start ([:1] : Std.Legacy.Range).size ([:1] : Std.Legacy.Range).step = [0] from rfl, List.forIn_cons]
  have hn' : Builtin.Struct.natOf FB.fmtD.bigEndian (b.extract (1 + 0 + 0 * 8) (1 + 0 + (0 + 1) * 8)) = n := hn
  rw [hn', hnan, if_neg Bool.false_ne_true]
  unfold mkFloat
  refine wpAny_bind (wpAny_bind (wpAny_bind (wpAny_bind (wpAny_fresh (wpAny_pure (wpAny_pure ?_))))))
  dsimp only
  rw [List.forIn_nil]
  refine wpAny_pure (wpAny_pure ?_)
  dsimp only
  rw [List.forIn_nil]
  refine wpAny_pure (wpAny_newTuple ?_ (by show 1 ≤ sizeLine; decide))
  exact wpAny_pure ⟨_, rfl, h⟩
theorem ba_len0 {h₀ : Heap} {L x : Addr} {news : List (Addr × Obj)} {Q : Value → Shared → Prop} (N : News h₀ L s.heap news) (hm : (x, baObj #[]) ∈ news) (h : Q (.int 0 (s.toks + 1)) { s with toks := s.toks + 1 + 1 }) :
    wpAny (model prog w) A (call (.builtin "len") [.ref x]) Q E s := ba_len (N _ hm).1 (Nat.zero_le _) h
theorem ba_len9 {h₀ : Heap} {L x : Addr} {news : List (Addr × Obj)} {a c0 c1 c2 c3 c4 c5 c6 c7 : UInt8} {Q : Value → Shared → Prop} (N : News h₀ L s.heap news) (hm : (x, baObj #[a, c0, c1, c2, c3, c4, c5, c6, c7]) ∈ news) (h : Q (.int 9 (s.toks + 1)) { s with toks := s.toks + 1 + 1 }) :
    wpAny (model prog w) A (call (.builtin "len") [.ref x]) Q E s := ba_len (N _ hm).1 (by show 9 ≤ sizeLine; decide) h
theorem bytes_len9 {a c0 c1 c2 c3 c4 c5 c6 c7 : UInt8} : ((#[a, c0, c1, c2, c3, c4, c5, c6, c7] : Array UInt8).size : Int) = 9 := rfl
end
section
variable {prog : Program} {w : World} {A : Around} {Γ : PySem.Ctx} {s : Shared} {L : Addr} {h₀ : Heap} {m : Str → Option Value} {pre post : List (Addr × Obj)} {E : Value → Shared → Prop}
theorem G_extend0 {Q : Value → Shared → Prop} {x : Addr} {b : Array UInt8} {t : Tok} {news news' : List (Addr × Obj)} (I : GIn Γ A) (F : Fr h₀ L s.heap m) (N : News h₀ L s.heap news) (U : Upd x (baObj #[]) (baObj b) news news') (hz : b.size ≤ sizeLine)
    (h : ∀ h', Fr h₀ L h' m → News h₀ L h' news' → Q .none { s with heap := h' }) :
    wpG (model prog w) Γ (call (.builtin "bytearray.extend") [.ref x, .bytes b t] []) Q E s := by
  obtain ⟨pre, post, rfl, rfl, a, c⟩ := U.split
  have hx := N (x, baObj #[]) (List.mem_append_right _ (.head _))
  refine G_extend I hx.1 (by rw [Array.empty_append]; exact hz) fun h' h1 h2 => ?_
  rw [Array.empty_append] at h1
  refine h h' (fr_but F h2 hx.2.2 hx.2.1) fun p hp => ?_
  rcases List.mem_append.mp hp with hp | hp
  · exact ⟨(h2.2 p.1 (a p hp)).trans (N p (List.mem_append_left _ hp)).1, (N p (List.mem_append_left _ hp)).2⟩
  · rcases List.mem_cons.mp hp with rfl | hp
    · exact ⟨h1, hx.2⟩
    · exact ⟨(h2.2 p.1 (c p hp)).trans (N p (List.mem_append_right _ (.tail _ hp))).1, (N p (List.mem_append_right _ (.tail _ hp))).2⟩
end
section
variable {M : Model} {Γ : PySem.Ctx} {A : Around} {E : Value → Shared → Prop} {s : Shared} {env : Env}
theorem A_args1 {f : Value} {pos : Pos} {e : Expr} {Q : Args → Shared → Prop} (h : wpAny M A (eval e env) (fun v s₁ => Q ⟨[v], []⟩ s₁) E s) (he : starEach [e] env = [(false, eval e env)]) :
    wpAny M A (evalArgs f true (backTo pos (starEach [e] env)) (backToKw pos (keywordEach [] env))) Q E s := by
  rw [he]
  exact evalArgs_plain (spliced_cons (wpAny_mono h (fun v s₁ h₁ => spliced_nil h₁) fun _ _ x => x))
theorem G_args1 {f : Value} {pos : Pos} {e : Expr} {Q : Args → Shared → Prop} (h : wpG M Γ (eval e env) (fun v s₁ => Q ⟨[v], []⟩ s₁) E s) (he : starEach [e] env = [(false, eval e env)]) :
    wpG M Γ (evalArgs f true (backTo pos (starEach [e] env)) (backToKw pos (keywordEach [] env))) Q E s := by
  rw [he]
  exact G_args_one h
end
end Mine
end

section
open PySem PySem.W PyProof.Rows PySem.Spec PySem.Calls
open PySem.Sem (wp)
set_option maxRecDepth 100000
namespace Mine
namespace FB
theorem slot_join : Slot "bytes" "join" "bytes.join" :=
  .of (owner := "bytes") (n := "join") (by rw [typeLookup_type, builtinLookup_eq_fast]; kernel_rfl) (by decide +kernel) (by decide +kernel) (by decide +kernel)
    (by first | exact .inl (by decide +kernel) | exact .inr (by decide +kernel)) (by rw [isSubtype_type]; kernel_rfl)
theorem type_join : typeOf (.builtin "bytes.join") = pure (.type "method_descriptor") := by show builtinType _ = _; rw [builtinType_eq_fast]; kernel_rfl
theorem join_entry : entryFor table "bytes.join" = some Builtin.«bytes.join» := entryFor_of_tree (by kernel_rfl)
theorem join_args (a b : Value) : argsOk "bytes.join" ⟨[a, b], []⟩ := by unfold argsOk; kernel_rfl
theorem plainAttrs_ba : PlainAttrs "bytearray" :=
  ⟨⟨"bytearray.__getattribute__", by rw [typeLookup_type, builtinLookup_eq_fast]; kernel_rfl, by decide +kernel⟩, by rw [typeLookup_type, builtinLookup_eq_fast]; kernel_rfl⟩
end FB
section
variable {prog : Program} {w : World} {A : Around} {E : Value → Shared → Prop} {s : Shared}
theorem method_join {b : Array UInt8} {t : Tok} {pl : Sem Bool} {Q : Value × List Value → Shared → Prop} {M : Model} (h : Q (.builtin "bytes.join", [.bytes b t]) s) : wpAny M A (getMethod (.bytes b t) "join" pl) Q E s :=
  getMethod_builtin (T := "bytes") (s := s) rfl PySem.W.FB.plainAttrs_bytes FB.slot_join FB.type_join (fun a e => by cases e) h
theorem call_join1 {b c : Array UInt8} {t u : Tok} {l : Addr} {o : Obj} {n : Nat} {Q : Value → Shared → Prop} (hl : s.heap.get? l = some o) (ho : o.cls = .type "list") (hd : o.data = .seq #[.bytes c u] n) (h : Q (.bytes c u) s) :
    wpAny (model prog w) A (call (.builtin "bytes.join") [.bytes b t, .ref l]) Q E s := by
  refine wpAny_call_entry FB.slot_join (s := s) (T := "bytes") rfl FB.join_entry ?_ (FB.join_args _ _)
  unfold Builtin.«bytes.join» Builtin.Bytes.joinM
  dsimp only
  refine wpAny_bind (A_eq (a := (Value.bytes b t, Value.ref l)) rfl ?_)
  dsimp only
  refine A_ift rfl ?_
  unfold Builtin.Bytes.joinItems
  refine wpAny_bind (wpAny_bind (wpAny_typeOf (T := "list") (show s.TypeIs (.ref l) "list" from ⟨o, hl, ho⟩) ?_))
  refine A_ift rfl (wpAny_pure ?_)
  refine wpAny_bind (wpAny_seqItems hl hd ?_)
  dsimp only
  refine A_ift rfl ?_
  refine wpAny_bind (A_eq (a := Value.type "bytes") rfl ?_)
  refine A_ift rfl (wpAny_bind (wpAny_rule ?_))
  exact wpAny_pure ⟨_, rfl, h⟩
theorem join_N {h₀ : Heap} {L l : Addr} {b c : Array UInt8} {t u : Tok} {n : Nat} {news : List (Addr × Obj)} {Q : Value → Shared → Prop} (N : News h₀ L s.heap news) (hm : (l, ({ cls := .type "list", data := .seq #[.bytes c u] n } : Obj)) ∈ news) (h : Q (.bytes c u) s) :
    wpAny (model prog w) A (call (.builtin "bytes.join") [.bytes b t, .ref l]) Q E s := call_join1 (N _ hm).1 rfl rfl h
theorem len_bytes9 {a c0 c1 c2 c3 c4 c5 c6 c7 : UInt8} {t : Tok} {Q : Value → Shared → Prop} (h : Q (.int 9 (s.toks + 1)) { s with toks := s.toks + 1 + 1 }) :
    wpAny (model prog w) A (call (.builtin "len") [.bytes #[a, c0, c1, c2, c3, c4, c5, c6, c7] t]) Q E s :=
  call_len_gives (T := "bytes") (s := s) rfl PySem.W.FB.slot_bytes_len PySem.W.FB.entry_bytes_len (PySem.W.FB.args_bytes_len_1 _) (g := .of_eq rfl) (n := 9) (by decide) (by decide) h
theorem method_ext {h₀ : Heap} {L x : Addr} {b : Array UInt8} {news : List (Addr × Obj)} {pl : Sem Bool} {Q : Value × List Value → Shared → Prop} {M : Model} (N : News h₀ L s.heap news) (hm : (x, baObj b) ∈ news) (h : Q (.builtin "bytearray.extend", [.ref x]) s) :
    wpAny M A (getMethod (.ref x) "extend" pl) Q E s :=
  getMethod_builtin (T := "bytearray") ⟨_, (N _ hm).1, rfl⟩ FB.plainAttrs_ba FB.slot_ext FB.type_ext (fun a e => by cases e; exact ⟨_, (N _ hm).1, rfl⟩) h
theorem sub_ba {h₀ : Heap} {L x : Addr} {c0 c1 c2 c3 c4 c5 c6 c7 : UInt8} {news : List (Addr × Obj)} {value slice : Expr} {u : Tok} {Q : Value → Shared → Prop} (N : News h₀ L s.heap news) (hm : (x, baObj #[203, c0, c1, c2, c3, c4, c5, c6, c7]) ∈ news)
    (hs : subscripted slice false (.ref x) (.int 0 u) = operate [.ref x, .int 0 u] (getItem (.ref x) (.int 0 u))) (h : Q (.int 203 s.toks) { s with toks := s.toks + 1 }) :
    wpAny (model prog w) A (subscriptTail value slice (.ref x) (.int 0 u)) Q E s :=
  subscriptTail_builtinR (T := "bytearray") (x := .int 203 s.toks) ⟨_, (N _ hm).1, rfl⟩ FB.slot_item.lookup (ba_item (c := 203) (N _ hm).1 (by decide) rfl (by decide) ⟨rfl, h⟩) hs
theorem from_N {h₀ : Heap} {L x : Addr} {m : Str → Option Value} {c0 c1 c2 c3 c4 c5 c6 c7 : UInt8} {news : List (Addr × Obj)} {t u : Tok} {n : Nat} {Q : Value → Shared → Prop} (F : Fr h₀ L s.heap m) (N : News h₀ L s.heap news) (hm : (x, baObj #[203, c0, c1, c2, c3, c4, c5, c6, c7]) ∈ news)
    (hn : Builtin.Struct.natOf true #[c0, c1, c2, c3, c4, c5, c6, c7] = n) (hnan : Float64.isNaN n.toUInt64 = false)
    (h : ∀ D h', Fr h₀ L h' m → News h₀ L h' ((D, ({ cls := .type "tuple", data := .seq #[.float n.toUInt64 s.toks] } : Obj)) :: news) → (∀ p ∈ news, p.1 < D) → Q (.ref D) { s with heap := h', toks := s.toks + 1 }) :
    wpAny (model prog w) A (call (.builtin "_struct.unpack_from") [.str (Str.ofString ">d") t, .ref x, .int 1 u]) Q E s :=
  call_from (N _ hm).1 rfl hn hnan (h _ _ (F.push _) (N.push F _) fun p hp => Heap.lt_size (N p hp).1)
end
end Mine
end

section
open PySem PySem.W PyProof.Rows PySem.Spec PySem.Calls
open PySem.Sem (wp)
set_option maxRecDepth 100000
namespace Mine
def intKey (e : DictEntry) : Bool := match e.key with | .int i _ => e.hash == hashInt i | _ => false
def kvOf (e : DictEntry) : Int × Value := match e.key with | .int i _ => (i, e.val) | _ => (0, e.val)
def hdrIn (K : Frag) (d : Addr) (k : Int) : Option Value := match K.lookup d with
  | some ⟨.type "dict", none, .dict es _, sl⟩ => match sl.toList with
    | [] => match es.toList.all intKey && decide ((es.toList.map kvOf).map (·.1)).Nodup with
      | true => valueAt (es.toList.map kvOf) k
      | false => none
    | _ => none
  | _ => none
theorem kv_pairs {prog : Program} {w : World} : ∀ l : List DictEntry, l.all intKey = true → Pairs (intKind prog w) l (l.map kvOf)
  | [], _ => Pairs.nil
  | e :: l, h => by
    rw [List.all_cons, Bool.and_eq_true] at h
    obtain ⟨a, b⟩ := h
    refine Pairs.cons ?_ ?_ (kv_pairs l b)
    · unfold intKey at a
      unfold kvOf
      split at a
      · rename_i i t q
        rw [q]
        exact intKind_is prog w i t
      · cases a
    · unfold kvOf
      split <;> rfl
theorem hdr_dict {prog : Program} {w : World} {K : Frag} {h : Heap} {d : Addr} {k : Int} {v : Value} (X : K.In h) (e : hdrIn K d k = some v) : ∃ kvs, h.DictOf (intKind prog w) d kvs ∧ valueAt kvs k = some v := by
  unfold hdrIn at e
  split at e
  · rename_i es n sl ho
    split at e
    · rename_i hs
      split at e
      · rename_i hc
        rw [Bool.and_eq_true] at hc
        obtain ⟨c1, c2⟩ := hc
        refine ⟨_, ⟨_, es, n, X _ _ ho, ⟨rfl, rfl, ?_⟩, rfl, ?_, kv_pairs _ c1, of_decide_eq_true c2⟩, e⟩
        · obtain ⟨l⟩ := sl
          have hs' : l = [] := hs
          rw [hs']
        · intro e he
          have a := List.all_eq_true.mp c1 e (Array.mem_toList_iff.mpr he)
          unfold intKey at a
          split at a
          · rename_i i t q
            exact ⟨i, by rw [q]; exact intKind_is prog w i t, beq_iff_eq.mp a⟩
          · cases a
      · cases e
    · cases e
  · cases e
theorem hdr_203 (P : Params) : hdrIn (Mine.hd.heap_39 P) 316 203 = some (.ref 324) := by kernel_rfl
section
variable {prog : Program} {w : World} {A : Around} {E : Value → Shared → Prop} {s : Shared}
theorem sub_hdr {K : Frag} {d : Addr} {k : Int} {v : Value} {value slice : Expr} {u : Tok} {Q : Value → Shared → Prop} (X : K.In s.heap) (e : hdrIn K d k = some v)
    (hs : subscripted slice false (.ref d) (.int k u) = operate [.ref d, .int k u] (getItem (.ref d) (.int k u))) (hg : ∀ r, letTemporaryGo value (.ref d) r = pure ()) (h : Q v { s with toks := s.toks + 1 }) :
    wpAny (model prog w) A (subscriptTail value slice (.ref d) (.int k u)) Q E s := by
  obtain ⟨kvs, hd, hv⟩ := hdr_dict (prog := prog) (w := w) X e
  exact subscriptTail_builtin hd.typeIs slot_dict_getitem.lookup (wpAny_getItem_of (intKind_is prog w k u) hd.mapOf hv h) hs hg
end
end Mine
end

section
open PySem PySem.W PyProof.Rows PySem.Spec PySem.Calls
open PySem.Sem (wp)
namespace Mine
/-- what a call of a def of the text hands back, in the logic with the context -/
def GAt (k : Nat) (w : World) (loose : List Str) (mean : ExcName → Option Value) (mg mb : Str → Option Value) (f : Addr) (vs : List Value) (R : Value → List (Addr × Obj) → Prop) : Prop :=
  ∀ (Γ : PySem.Ctx) (dp un : Nat) (gd : Option (List Code)) (cn : Str) (cs : Scope) (a : Addr) (ccd : Value) (cl : List (Str × Addr)) (outer : List Env) (A₀ : Around) (base h₀ : Heap) (L : Addr) (m : Str → Option Value) (news : List (Addr × Obj)) (s : Shared)
    (Q E : Value → Shared → Prop),
    GIn Γ (ktrTop dp un gd cn cs L a ccd cl outer) →
    Below A₀ base outer h₀ → Fr h₀ L s.heap m → (hd.heap_39 w.params).In h₀ → News h₀ L s.heap news → Top hd.view_39 loose mean mg mb h₀ → cs.kind = .function → dp + k < recursionLimit → un + 10 * k < cLine →
    (∀ r tl h' tk', Fr h₀ L h' m → News h₀ L h' (tl ++ news) → (∀ q ∈ tl, AllLt q.1 news) → R r tl → Q r { s with heap := h', toks := tk' }) →
    wpG (model PySem.Challenge.rw_aq6042_01.row.prog w) Γ (call (.ref f) vs) Q E s
local macro_rules | `(tactic| k_room) => `(tactic| ktr_room)
local macro_rules | `(tactic| walk_at "call builtin:callable") => `(tactic| (k_here; k_dflt (refine' call_callable ?k1 ?k2 ?_; (case k1 => k_in); (case k2 => k_is); k_whole; (try dsimp only))))
local macro_rules | `(tactic| walk_at "call builtin:len") => `(tactic| (k_here; (with_reducible show wpAny _ _ (call (Value.builtin "len") [Value.ref _]) _ _ _); k_dflt (first | (refine' ba_len0 ?k1 ?k2 ?_; (case k1 => k_asm); (case k2 => k_mem); k_whole; (try dsimp only)) | (refine' ba_len9 ?k1 ?k2 ?_; (case k1 => k_asm); (case k2 => k_mem); k_whole; (try dsimp only)))))
local macro_rules | `(tactic| walk_at "getMethod bytes") => `(tactic| (k_here; k_dflt (refine' method_join ?_; k_whole; (try dsimp only))))
local macro_rules | `(tactic| walk_at "call builtin:bytes.join") => `(tactic| (k_here; k_dflt (refine' join_N ?k1 ?k2 ?_; (case k1 => k_asm); (case k2 => k_mem); k_whole; (try dsimp only))))
local macro_rules | `(tactic| walk_at "call builtin:len") => `(tactic| (k_here; (with_reducible show wpAny _ _ (call (Value.builtin "len") [Value.bytes _ _]) _ _ _); k_dflt (refine' len_bytes9 ?_; k_whole; (try dsimp only))))
local macro_rules | `(tactic| walk_at "getMethod ref") => `(tactic| (k_here; (with_reducible refine' method_ext ?k1 ?k2 ?_); (case k1 => k_asm); (case k2 => k_mem); k_whole; (try dsimp only)))
local macro_rules | `(tactic| walk_at "subscriptTail Attribute") => `(tactic| (k_here; (with_reducible show wpAny _ _ (subscriptTail _ _ (Value.ref _) (Value.int _ _)) _ _ _); k_dflt (refine' sub_ba ?k1 ?k2 ?k3 ?_; (case k1 => k_asm); (case k2 => k_mem); (case k3 => with_unfolding_all rfl); k_whole; (try dsimp only))))
local macro_rules | `(tactic| walk_at "call builtin:_struct.unpack_from") => `(tactic| (k_here; k_dflt (refine' from_N ?k1 ?k2 ?k3 ?k4 ?k5 ?_; (case k1 => k_asm); (case k2 => k_asm); (case k3 => k_mem); (case k4 => assumption); (case k5 => assumption); k_whole; (try dsimp only)); intro D' h' F' N' l1; (try k_lt l1)))
local macro_rules | `(tactic| walk_at "call ref cons nil") => `(tactic| (k_here; (with_reducible show wpAny _ _ (call (Value.ref 412) [?za, ?zb] []) _ _ _); k_dflt (refine wpAny_call ?_; (refine' code_def (binds := [(Str.ofString "self", ?za), (Str.ofString "n", ?zb), (Str.ofString "raise_outofdata", .bool true)]) ?k1 ?k2 ?k3 ?k4 ?k5 ?kA ?kF ?kK ?k6 ?k7 ?k8 ?k9 ?kB ?_ ?c2 ?c3 ?c4 ?c5; (case kA => exact rfl); (case kF => exact rfl); (case kK => exact rfl); (case k1 => k_asm); (case k2 => k_asm); (case k3 => k_asm); (case k4 => k_asm); (case k5 => k_asm); (case k6 => k_is); (case k7 => k_is); (case k8 => ktr_room); (case k9 => (refine' kp_binds ?kx ?ke; (case kx => k_in); (case ke => exact fun _ => (by kernel_rfl)))); (case c5 => decide); (case kB => exact locs rfl); (case c2 => exact rfl); (case c3 => exact rfl); (case c4 => exact rfl); k_whole; intro g' L' h' FG' F' N' B' X' T'; (try dsimp only); (try k_lift B'); (try k_fold)))))
local macro_rules | `(tactic| walk_at "subscriptTail Name Name ref int") => `(tactic| (k_here; (with_reducible show wpAny _ _ (subscriptTail _ _ (Value.ref 316) (Value.int 203 _)) _ _ _); k_dflt (refine' sub_hdr (v := .ref 324) ?k1 ?k2 ?k3 ?k4 ?_; (case k1 => k_in); (case k2 => exact hdr_203 _); (case k3 => with_unfolding_all rfl); (case k4 => intro _; with_unfolding_all rfl); k_whole; (try dsimp only))))
local macro_rules | `(tactic| k_units) => `(tactic| ktr_units)
local macro_rules | `(tactic| k_in) => `(tactic| first | with_reducible assumption | exact Frag.In.keeps (by with_reducible assumption) (Fr.keep (by with_reducible assumption)))
abbrev initBinds (x : Addr) (t : Tok) : List (Str × Value) := [(Str.ofString "self", .ref x), (Str.ofString "file_like", .none), (Str.ofString "read_size", .int 0 847), (Str.ofString "use_list", .bool true), (Str.ofString "raw", .bool false), (Str.ofString "timestamp", .int 0 848),
  (Str.ofString "strict_map_key", .bool true), (Str.ofString "object_hook", .none), (Str.ofString "object_pairs_hook", .none), (Str.ofString "list_hook", .none), (Str.ofString "unicode_errors", .none), (Str.ofString "max_buffer_size", .int 9 t), (Str.ofString "ext_hook", .ref 90),
  (Str.ofString "max_str_len", .int (-1) 851), (Str.ofString "max_bin_len", .int (-1) 853), (Str.ofString "max_array_len", .int (-1) 855), (Str.ofString "max_map_len", .int (-1) 857), (Str.ofString "max_ext_len", .int (-1) 859)]
set_option maxRecDepth 100000 in
set_option maxHeartbeats 8000000 in
theorem unpackb_walk (w : World) (loose : List Str) (mean : ExcName → Option Value) (mg mb : Str → Option Value) (c0 c1 c2 c3 c4 c5 c6 c7 : UInt8) (t1 : Tok) (n : Nat) (hn : Builtin.Struct.natOf true #[c0, c1, c2, c3, c4, c5, c6, c7] = n) (hnan : Float64.isNaN n.toUInt64 = false) :
    GAt 60 w loose mean mg mb 315 [.bytes #[203, c0, c1, c2, c3, c4, c5, c6, c7] t1] (fun r tl => tl = [] ∧ ∃ t, r = .float n.toUInt64 t) := by
  w_top off
  unfold GAt
  k_fill
  intro Γ dp un gd cn cs a ccd cl outer A₀ base h₀ L m news s Q E I B F X N T hk hdp hu hret
  refine G_calls I fun Γ₁ hc hB => ?_
  (refine' G_more (front := [(Str.ofString "packed", .bytes #[203, c0, c1, c2, c3, c4, c5, c6, c7] t1)]) (nm := Str.ofString "kwargs") hc hB ?k1 ?k2 ?k3 ?k4 ?k5 ?kA ?kF ?kK ?k6 ?k7 ?k8 ?kP ?kT ?kB ?_ ?c2 ?c3 ?c4 ?c5; (case kA => exact rfl); (case kF => exact rfl); (case kK => exact hk); (case k1 => k_asm); (case k2 => k_asm); (case k3 => k_asm); (case k4 => k_asm); (case k5 => k_asm); (case k6 => k_is); (case k7 => k_is); (case k8 => ktr_room); (case kP => exact rfl); (case kT => exact fun _ => rfl); (case kB => exact fun _ => locs rfl); (case c5 => decide); (case c2 => exact rfl); (case c3 => exact rfl); (case c4 => exact rfl); intro D' Γ₂ g' L' h' tk' l1 lo' FG' F' N' B' X' T' I'; (try k_lt l1); (try dsimp only); (try k_lift B'); (try k_fold))
  refine G_execs_cons (G_Assign_Name (G_Call_Name I'.inn ?_) ?_)
  rotate_left
  · exact rfl
  k_steps
  with_reducible refine' G_callWith_K I'.inn X' ?kk ?_
  (case kk => k_is)
  have hlt : sysModules < h'.objs.size := Nat.lt_trans (Nat.lt_of_lt_of_le (modules_low T'.nolimit) F'.above) F'.ns.lt
  refine G_of_any I'.inn (cw (P := fun v => ∃ t, v = .int 9 t) (v0 := .none) F' N' (List.Mem.head _) lo' hlt ?h0 ?hl ?hk ?_)
  (case h0 => intro Q hQ; refine A_ifn rfl ?_; k_steps; exact hQ)
  (case hl => intro d h₁ F₁ N₁ Q hQ; refine wpAny_bind ?_; k_steps; exact wpAny_bind (wpAny_standAt (wpAny_pure (hQ _ _ _ F₁ N₁ (Nat.lt_trans (Nat.lt_of_lt_of_le (modules_low T'.nolimit) F₁.above) F₁.ns.lt) ⟨_, rfl⟩))))
  (case hk => intro s' F₁ Q hQ; refine wpAny_bind ?_; k_steps; exact wpAny_bind (wpAny_standAt (wpAny_pure hQ)))
  intro h₂ tk₂ vl F₂ N₂ hvl
  obtain ⟨t₂, rfl⟩ := hvl
  refine ⟨X'.keeps F₂.keep, ?_⟩
  with_reducible refine' G_calls I' fun Γ₃ hc₃ hB₃ => ?_
  with_reducible refine' G_make hc₃ hB₃ F₂ N₂ (X'.keeps F₂.keep) ?m ?i ?f ?_
  (case m => k_is)
  (case i => k_is)
  (case f => k_is)
  intro Γ₄ x' d' h' I₄ F' N' l1 l2; (try k_lt l1); (try k_lt2 l2); (try dsimp only)
  with_reducible refine' G_calls I₄ fun Γ₅ hc₅ hB₅ => ?_
  refine' G_def (binds := initBinds x' t₂) hc₅ hB₅ ?k1 ?k2 ?k3 ?k4 ?k5 ?kA ?kF ?kK ?k6 ?k7 ?k8 ?k9 ?kB ?_ ?c2 ?c3 ?c4 ?c5
  (case kA => exact rfl)
  (case kF => exact rfl)
  (case kK => exact rfl)
  (case k1 => k_asm)
  (case k2 => k_asm)
  (case k3 => k_asm)
  (case k4 => k_asm)
  (case k5 => k_asm)
  (case k6 => k_is)
  (case k7 => k_is)
  (case k8 => ktr_room)
  (case k9 => (refine' kp_binds ?kx ?ke; (case kx => exact X'.keeps F'.keep); (case ke => exact fun _ => (by kernel_rfl))))
  (case c5 => decide)
  (case kB => exact locs rfl)
  (case c2 => exact rfl)
  (case c3 => exact rfl)
  (case c4 => exact rfl)
  intro Γ₆ g' L' h' FG' F' N' B' X' T' I₆; (try dsimp only); (try k_lift B'); (try k_fold)
  with_reducible refine' G_pre2 ?_
  with_reducible refine' G_of_any I₆.inn ?_
  k_steps
  with_reducible refine' G_execs_cons (G_Assign_Attribute (G_Call_Name I₆.inn ?_) ?_)
  rotate_left
  · exact rfl
  k_steps
  with_reducible refine' G_new_ba I₆ ?k1 ?k2 ?_
  (case k1 => k_asm)
  (case k2 => k_asm)
  intro ba' h' F' N' l1; (try k_lt l1); (try dsimp only)
  with_reducible refine' G_of_any I₆.inn ?_
  k_steps
  with_reducible refine' G_of_any I₆.inn ?_
  k_steps
  with_reducible refine' G_of_any I₆.inn ?_
  k_steps
  with_reducible refine' G_of_any I'.inn ?_
  k_steps
  with_reducible refine' G_execs_cons (G_Expr (G_Call_Attr I'.inn ?hm ?he) ?hi ?hs)
  (case he => exact rfl)
  (case hi => exact rfl)
  (case hs => exact rfl)
  k_steps
  with_reducible refine' G_callWith_K I'.inn X ?kk ?_
  (case kk => k_is)
  with_reducible refine' G_of_any I'.inn ?_
  with_reducible refine' A_args1 ?_ ?he
  (case he => exact rfl)
  k_steps
  with_reducible refine' G_calls I' fun Γ₇ hc₇ hB₇ => ?_
  (refine' G_def hc₇ hB₇ ?k1 ?k2 ?k3 ?k4 ?k5 ?kA ?kF ?kK ?k6 ?k7 ?k8 ?k9 ?kB ?_ ?c2 ?c3 ?c4 ?c5; (case kA => exact rfl); (case kF => exact rfl); (case kK => exact rfl); (case k1 => k_asm); (case k2 => k_asm); (case k3 => k_asm); (case k4 => k_asm); (case k5 => k_asm); (case k6 => k_is); (case k7 => k_is); (case k8 => ktr_room); (case k9 => exact BindsTo.of_eq rfl); (case c5 => decide); (case kB => exact locs rfl); (case c2 => exact rfl); (case c3 => exact rfl); (case c4 => exact rfl); intro Γ₈ g' L' h' FG' F' N' B' X' T' I₈; (try dsimp only); (try k_fold))
  with_reducible refine' G_pre4 ?_
  with_reducible refine' G_of_any I₈.inn ?_
  k_steps
  with_reducible refine' G_execs_cons (G_Expr (G_Call_Attr I₈.inn ?hm2 ?he2) ?hi2 ?hs2)
  (case he2 => exact rfl)
  (case hi2 => exact rfl)
  (case hs2 => exact rfl)
  k_steps
  with_reducible refine' G_callWith I₈.inn (keeps_builtin "bytearray.extend") ?_
  with_reducible refine' G_of_any I₈.inn ?_
  with_reducible refine' A_args1 ?_ ?he3
  (case he3 => exact rfl)
  k_steps
  · exact trivial
  dsimp only [List.cons_append, List.nil_append]
  with_reducible refine' G_extend0 I₈ ?k1 ?k2 ?k3 ?k4 ?_
  (case k1 => k_asm)
  (case k2 => k_asm)
  (case k3 => k_upd)
  (case k4 => exact (by decide : 9 ≤ sizeLine))
  intro h' F' N'
  dsimp only
  with_reducible refine' G_of_any I₈.inn ?_
  k_steps
  with_reducible refine' G_of_any I'.inn ?_
  k_steps
  exact hret _ [] _ _ (by k_asm) (news_sub (by k_asm) fun p hp => by repeat (first | exact hp | refine List.Mem.tail _ ?_)) (fun _ h => nomatch h) ⟨rfl, _, rfl⟩
end Mine
end

section
open PySem PySem.W PyProof.Rows PySem.Spec PySem.Calls
open PySem.Sem (wp)
namespace Mine
/-- how a loop's code ends -/
def LoopR (Q : Flow → Shared → Prop) (r : Result) (s' : Shared) : Prop := match r with | .ok f => Q f s' | .error _ => False
section
variable {M : Model} {Γ : PySem.Ctx} {A : Around} {E : Value → Shared → Prop} {s : Shared} {env : Env}
theorem G_For {target iter body orelse pos} {Q : Flow → Shared → Prop} (I : GIn Γ A)
    (h : wpG M Γ (eval iter env) (fun x s₁ => wpG M Γ (pyIter x) (fun it s₂ =>
      ∀ Γ' : PySem.Ctx, Γ'.code = .forLoop target it body orelse env → GBelow Γ' A → codeG M Γ' (LoopR Q) s₂) E s₁) E s)
    (hs : ∀ x, foldedSetIterable iter env x = pure x := by intro _; rfl) : wpG M Γ (exec (.For target iter body orelse pos) env) Q E s := by
  rw [exec_For]
  refine G_bind (G_standAt (G_bind (G_mono h (fun x s₁ h₁ => ?_) fun _ _ x => x)))
  rw [hs x]
  refine G_bind (G_pure (G_bind (G_standAt (G_bind (G_holding (G_mono h₁ (fun it s₂ h₂ => ?_) fun _ _ x => x))))))
  unfold runOwn
  refine G_noRaise fun p => ?_
  rw [Sem.wp_run]
  refine wpCode_mono (fun r s' hr => ?_) (h₂ _ rfl (enter_below I _ p) p)
  cases r with
  | ok f => exact hr
  | error e => exact hr.elim
end
section
variable {prog : Program} {w : World} {Γ : PySem.Ctx} {A : Around} {E : Value → Shared → Prop} {s : Shared} {env : Env} {h₀ : Heap} {x : Str} {body : List Stmt} {Q : Flow → Shared → Prop}
theorem codeG_forLoop {R : Result → Shared → Prop} {target it} (Iv : Nat → Shared → Prop) (hc : Γ.code = .forLoop target it body [] env)
    (turn : ∀ n s, Iv n s → wpG (model prog w) Γ (pyNext it) (fun r s₁ => match r with
      | none => R (.ok .next) s₁
      | some v => wpG (model prog w) Γ (assign target env v) (fun _ s₂ => wpG (model prog w) Γ (execs body env) (fun f s₃ => match f with
          | .next | .cont => ∃ m, m < n ∧ Iv m s₃
          | .brk => R (.ok .next) s₃
          | .ret v => R (.ok (.ret v)) s₃) (fun _ _ => False) s₂) (fun _ _ => False) s₁) (fun _ _ => False) s)
    (n : Nat) (h : Iv n s) (ht : ∀ v, letOwnedTupleGo target it v = pure () := by intro _; rfl) : codeG (model prog w) Γ R s := by
  have hg : Γ.goto (.forLoop target it body [] env) = Γ := by
    cases Γ
    cases hc
    rfl
  induction n using Nat.strongRecOn generalizing s with
  | ind n ih =>
    refine codeG_of_tree ?_
    rw [hc]
    show wpG _ _ ((forTurn target it body [] env).onRaise (fun x => do noteFrame x env; theTreesLotGoes x)) _ _ s
    refine G_noRaise ?_
    simp only [forTurn]
    refine G_bind (G_standAt (G_bind (G_noRaise (G_mono (turn n s h) (fun r s₁ h₁ => ?_) fun _ _ h' => h'))))
    cases r with
    | none =>
      refine G_pure ⟨rfl, codeG_of_tree ?_⟩
      show wpG _ _ (do return Fin.done (← (execs [] env).onRaise (fun x => do noteFrame x env; theTreesLotGoes x))) _ _ _
      exact G_bind (G_noRaise (G_pure (G_pure h₁)))
    | some v =>
      show wpG _ _ (letOwnedTupleGo target it v >>= _) _ _ _
      rw [ht v]
      refine G_bind (G_pure (G_bind (G_mono h₁ (fun _ s₂ h₂ => G_bind (G_mono h₂ (fun f s₃ h₃ => ?_) fun _ _ h' => h')) fun _ _ h' => h')))
      cases f with
      | next => obtain ⟨m, hm, hI⟩ := h₃; exact G_pure ⟨rfl, hg.symm ▸ ih m hm hI⟩
      | cont => obtain ⟨m, hm, hI⟩ := h₃; exact G_pure ⟨rfl, hg.symm ▸ ih m hm hI⟩
      | brk => exact G_pure h₃
      | ret v => exact G_pure h₃

/-- the turn's end: the iterator and the ledger stand, the frame's map is as the invariant wants it -/
def TurnG (h₀ : Heap) (L : Addr) (J : (Str → Option Value) → Prop) (need : List (Addr × Obj)) (s : Shared) (f : Flow) (s' : Shared) : Prop :=
  (f = .next ∨ f = .cont) ∧ ∃ h' tk' m' news', s' = { s with heap := h', toks := tk' } ∧ Fr h₀ L h' m' ∧ News h₀ L h' news' ∧ (∀ p ∈ need, p ∈ news') ∧ J m'
theorem TurnG.next {L : Addr} {J : (Str → Option Value) → Prop} {need news' : List (Addr × Obj)} {h' : Heap} {tk' : Nat} {m' : Str → Option Value} (F : Fr h₀ L h' m') (N : News h₀ L h' news') (hn : ∀ p ∈ need, p ∈ news') (hj : J m') : TurnG h₀ L J need s .next { s with heap := h', toks := tk' } :=
  ⟨.inl rfl, _, _, _, _, rfl, F, N, hn, hj⟩
theorem TurnG.cont {L : Addr} {J : (Str → Option Value) → Prop} {need news' : List (Addr × Obj)} {h' : Heap} {tk' : Nat} {m' : Str → Option Value} (F : Fr h₀ L h' m') (N : News h₀ L h' news') (hn : ∀ p ∈ need, p ∈ news') (hj : J m') : TurnG h₀ L J need s .cont { s with heap := h', toks := tk' } :=
  ⟨.inr rfl, _, _, _, _, rfl, F, N, hn, hj⟩

theorem G_iter_list {l : Addr} {vs : List Value} {o : Obj} {m₀ : Str → Option Value} {news : List (Addr × Obj)} {px : Pos} (_I : GIn Γ A) (hh : A.handled = none) (hx : env.kindOf x = some .local)
    (hp : (env.scope.kind == .class || (env.scope.kind == .module && env.locals != env.globals)) = false)
    (hm : (l, o) ∈ news) (ho : ∀ h : Heap, h.get? l = some o → h.IsList l vs.toArray)
    (F : Fr h₀ env.locals s.heap m₀) (N : News h₀ env.locals s.heap news)
    (J : Nat → (Str → Option Value) → Prop) (hj : J 0 m₀)
    (turn : ∀ (Γ' : PySem.Ctx) (i : Nat) v m₁ h tk It oI, GIn Γ' A → vs[i]? = some v → J i m₁ → Fr h₀ env.locals h (fun y => if y = x then some v else m₁ y) → News h₀ env.locals h ((It, oI) :: news) → (∀ p ∈ news, p.1 < It) →
      wpG (model prog w) Γ' (execs body env) (TurnG h₀ env.locals (J (i + 1)) ((It, oI) :: news) s) (fun _ _ => False) { s with heap := h, toks := tk })
    (done : ∀ m₁ h tk, J vs.length m₁ → Fr h₀ env.locals h m₁ → News h₀ env.locals h news → Q .next { s with heap := h, toks := tk }) :
    wpG (model prog w) Γ (pyIter (.ref l)) (fun it s₂ => ∀ Γ' : PySem.Ctx, Γ'.code = .forLoop (.Name x px) it body [] env → GBelow Γ' A → codeG (model prog w) Γ' (LoopR Q) s₂) E s := by
  refine G_of_any _I.inn (wpAny_pyIter_list (ho _ (N _ hm).1) ?_)
  intro Γ' hc hB
  have I' : GIn Γ' A := by
    have := below_in hB (by rw [hc]; rfl)
    rw [hc] at this
    exact this
  have hlt : ∀ p ∈ news, p.1 < s.heap.objs.size := fun p hp => Heap.lt_size (N p hp).1
  refine codeG_forLoop (fun k s' => ∃ i h tk m₁ oI, s' = { s with heap := h, toks := tk } ∧ h.IsListIter s.heap.objs.size l i ∧ Fr h₀ env.locals h m₁ ∧ News h₀ env.locals h ((s.heap.objs.size, oI) :: news) ∧ J i m₁ ∧ i ≤ vs.length ∧ k = vs.length + 1 - i) hc ?_ (vs.length + 1) ?_
  · rintro k s' ⟨i, h', tk, m₁, oI, rfl, hit, F', N', hJ, hi, rfl⟩
    have hnI : ∀ p ∈ news, p.1 ≠ s.heap.objs.size := fun p hp => Nat.ne_of_lt (hlt p hp)
    have hLI : env.locals ≠ s.heap.objs.size := Ne.symm (N' _ (.head _)).2.1
    have h0I : h₀.get? s.heap.objs.size = none := (N' _ (.head _)).2.2
    have hl : h'.IsList l vs.toArray := ho _ (N' _ (.tail _ hm)).1
    have step : ∀ h₁ : Heap, (∀ b o, b ≠ s.heap.objs.size → h'.get? b = some o → h₁.get? b = some o) → Fr h₀ env.locals h₁ m₁ ∧ News h₀ env.locals h₁ news := fun h₁ hk =>
      ⟨⟨F'.ns.at' fun o e => hk _ o hLI e, fun b o e => hk b o (fun q => by rw [q, h0I] at e; cases e) (F'.keep b o e), F'.above⟩, fun p hp => ⟨hk _ _ (hnI p hp) (N' p (.tail _ hp)).1, (N' p (.tail _ hp)).2⟩⟩
    by_cases hlt' : i < vs.length
    · have hxi : vs[i]? = some vs[i] := by simp [hlt']
      refine G_of_any I'.inn (wpAny_pyNext_list_item hit hl (x := vs[i]) (by simp [hlt']) fun h₁ hit₁ hs₁ => ?_)
      obtain ⟨F₁, N₁⟩ := step h₁ fun b o hb e => hs₁.extBut b o hb e
      obtain ⟨oI', hoI, _⟩ := id hit₁
      have N₁' : News h₀ env.locals h₁ ((s.heap.objs.size, oI') :: news) := fun p hp => by
        rcases List.mem_cons.mp hp with rfl | hp
        · exact ⟨hoI, Ne.symm hLI, h0I⟩
        · exact N₁ p hp
      refine G_of_any I'.inn (wpAny_assign_Name (wpAny_storeName_local hx F₁.ns (fun h₂ hn₂ hs₂ => ?_) hp))
      have F₂ := F₁.set hn₂ hs₂
      have N₂ := N₁'.set hs₂
      refine G_mono (turn Γ' i vs[i] m₁ h₂ _ s.heap.objs.size oI' I' hxi hJ F₂ N₂ hlt) (fun f s₃ h₃ => ?_) fun _ _ e => e
      obtain ⟨hf, h₄, tk₄, m₄, news₄, rfl, F₄, N₄, hn₄, hj₄⟩ := h₃
      have fin : ∃ m, m < vs.length + 1 - i ∧ ∃ i h tk m₁ oI, ({ s with heap := h₄, toks := tk₄ } : Shared) = { s with heap := h, toks := tk } ∧ h.IsListIter s.heap.objs.size l i ∧ Fr h₀ env.locals h m₁ ∧ News h₀ env.locals h ((s.heap.objs.size, oI) :: news) ∧ J i m₁ ∧ i ≤ vs.length ∧ m = vs.length + 1 - i := by
        refine ⟨vs.length + 1 - (i + 1), by omega, i + 1, h₄, tk₄, m₄, oI', rfl, hit₁.at fun o e => ?_, F₄, fun p hp => N₄ p (hn₄ p hp), hj₄, hlt', rfl⟩
        rw [hoI] at e
        cases e
        exact (N₄ _ (hn₄ _ (.head _))).1
      rcases hf with rfl | rfl
      · exact fin
      · exact fin
    · obtain rfl : i = vs.length := by omega
      refine G_of_any I'.inn (wpAny_pyNext_list_end hh hit hl (by simp) fun h₁ he₁ => ?_)
      obtain ⟨F₁, N₁⟩ := step h₁ fun b o hb e => he₁ b o hb e
      exact done m₁ h₁ tk hJ F₁ N₁
  · refine ⟨0, _, _, m₀, { cls := .type "list_iterator", data := .fields #[.ref l, .int 0 0] }, rfl, ⟨_, Heap.get?_push_size _ rfl, rfl, rfl⟩, F.push _, ?_, hj, Nat.zero_le _, rfl⟩
    intro p hp
    rcases List.mem_cons.mp hp with rfl | hp
    · exact ⟨Heap.get?_push_size _ rfl, fun q => absurd F.ns.lt (q ▸ Nat.lt_irrefl _), next_is_new F⟩
    · exact ⟨Heap.get?_push_of_some _ (N p hp).1, (N p hp).2⟩
end
end Mine
end

section
open PySem PySem.W PyProof.Rows PySem.Spec PySem.Calls
open PySem.Sem (wp)
set_option maxRecDepth 100000
namespace Mine
theorem bytes8 {b : Array UInt8} (h : b.size = 8) : ∃ c0 c1 c2 c3 c4 c5 c6 c7, b = #[c0, c1, c2, c3, c4, c5, c6, c7] := by
  obtain ⟨l⟩ := b
  match l, h with
  | [c0, c1, c2, c3, c4, c5, c6, c7], _ => exact ⟨c0, c1, c2, c3, c4, c5, c6, c7, rfl⟩
theorem nat8 (c0 c1 c2 c3 c4 c5 c6 c7 : UInt8) : Builtin.Struct.natOf true #[c0, c1, c2, c3, c4, c5, c6, c7] = ((((((((0 * 256 + c0.toNat) * 256 + c1.toNat) * 256 + c2.toNat) * 256 + c3.toNat) * 256 + c4.toNat) * 256 + c5.toNat) * 256 + c6.toNat) * 256 + c7.toNat) := by
  simp [Builtin.Struct.natOf, Builtin.Memoryview.littleEndian]
section
variable {prog : Program} {w : World} {A : Around} {E : Value → Shared → Prop} {s : Shared}
theorem to8 {n : Nat} {t u v : Tok} {Q : Value → Shared → Prop} (hn : n < 18446744073709551616)
    (h : ∀ c0 c1 c2 c3 c4 c5 c6 c7 t' k', Builtin.Struct.natOf true #[c0, c1, c2, c3, c4, c5, c6, c7] = n → Q (.bytes #[c0, c1, c2, c3, c4, c5, c6, c7] t') { s with toks := k' }) :
    wpAny (model prog w) A (call (.builtin "int.to_bytes") [.int (n : Int) t, .int 8 u, .str (PySem.Str.ofString "big") v]) Q E s := by
  refine KTBy.to_big (k := 8) (B := 18446744073709551616) (by decide) (by decide) (by omega) (by omega) fun b t' k' hb hl => ?_
  have hsz : b.size = 8 := by
    have := congrArg List.length hb
    rw [hl, KBw.ints_length] at this
    exact this
  obtain ⟨c0, c1, c2, c3, c4, c5, c6, c7, rfl⟩ := bytes8 hsz
  refine h _ _ _ _ _ _ _ _ _ _ ?_
  rw [nat8]
  simp only [KTBy.little, List.reverse_cons, List.reverse_nil, List.nil_append, List.cons_append, KBw.bInts, List.map_cons, List.map_nil, List.cons.injEq, and_true] at hb
  omega
theorem add9 {a c0 c1 c2 c3 c4 c5 c6 c7 : UInt8} {t u : Tok} {Q : Value → Shared → Prop} (h : ∀ t' k', Q (.bytes #[a, c0, c1, c2, c3, c4, c5, c6, c7] t') { s with toks := k' }) :
    wpAny (model prog w) A (binaryOp .Add (.bytes #[a] t) (.bytes #[c0, c1, c2, c3, c4, c5, c6, c7] u)) Q E s :=
  KBy.add_bytes (show (1 + 8 : Nat) ≤ 16777216 by decide) fun t' k => h t' k
end
theorem one_eq : Float64.one = Float64.ofInt 1 := by decide +kernel
theorem nan_no {n : Nat} (h0 : n < 18446744073709551616) (h1 : n / 4503599627370496 % 2048 ≠ 2047) : Float64.isNaN n.toUInt64 = false := by
  have := decode_due (b := n) h0 h1
  unfold Float64.isNaN
  rw [this]
section
variable {w : World} {loose : List Str} {mean : ExcName → Option Value} {mg mb : Str → Option Value}
theorem due_use (b : Nat) (t1 : Tok) (hb : (b : Int) < 18446744073709551616)
    {dp un : Nat} {gd : Option (List Code)} {cn : Str} {cs : Scope} {a : Addr} {ccd : Value} {cl : List (Str × Addr)} {outer : List Env} {A₀ : Around} {base h₀ : Heap} {L : Addr} {m : Str → Option Value} {news : List (Addr × Obj)} {s : Shared}
    {Q E : Value → Shared → Prop}
    (B : Below A₀ base outer h₀) (F : Fr h₀ L s.heap m) (X : (hd.heap_39 w.params).In h₀) (N : News h₀ L s.heap news) (T : Top hd.view_39 loose mean mg mb h₀) (hk : cs.kind = .function) (hd : dp + 40 < recursionLimit) (hu : un + 10 * 40 < cLine)
    (h0 : ∀ h' tk', dueN b = none → Fr h₀ L h' m → News h₀ L h' news → Q .none { s with heap := h', toks := tk' })
    (h1 : ∀ x y D t u c h' tk', dueN b = some (x, y) → Fr h₀ L h' m → News h₀ L h' ((D, tup2 x y t u c) :: news) → AllLt D news → Q (.ref D) { s with heap := h', toks := tk' }) :
    wpAny (model PySem.Challenge.rw_aq6042_01.row.prog w) (ktrTop dp un gd cn cs L a ccd cl outer) (call (.ref 497) [.int b t1]) Q E s := by
  refine due_walk w loose mean mg mb b t1 (by omega) hb dp un gd cn cs a ccd cl outer A₀ base h₀ L m news s Q E B F X N T hk hd hu ?_
  intro r tl h' tk' F' N' hl hR
  cases hd : dueN b with
  | none =>
    rw [hd] at hR
    obtain ⟨rfl, rfl⟩ := hR
    exact h0 h' tk' hd F' N'
  | some p =>
    obtain ⟨x, y⟩ := p
    rw [hd] at hR
    obtain ⟨D, t, u, c, rfl, rfl⟩ := hR
    exact h1 x y D t u c h' tk' hd F' N' (hl _ (.head _))
theorem unix_use (b : Nat) (t1 : Tok) (sec ns : Int) (h0 : b < 18446744073709551616) (hf : b / 4503599627370496 % 2048 ≠ 2047) (hdue : dueN b = some (sec, ns))
    {dp un : Nat} {gd : Option (List Code)} {cn : Str} {cs : Scope} {a : Addr} {ccd : Value} {cl : List (Str × Addr)} {outer : List Env} {A₀ : Around} {base h₀ : Heap} {L : Addr} {m : Str → Option Value} {news : List (Addr × Obj)} {s : Shared}
    {Q E : Value → Shared → Prop}
    (B : Below A₀ base outer h₀) (F : Fr h₀ L s.heap m) (X : (hd.heap_39 w.params).In h₀) (N : News h₀ L s.heap news) (T : Top hd.view_39 loose mean mg mb h₀) (hk : cs.kind = .function) (hd : dp + 30 < recursionLimit) (hu : un + 10 * 30 < cLine)
    (h : ∀ x D t u h' tk', @LT.lt Nat _ D x → Fr h₀ L h' m → News h₀ L h' ((x, tsObj D sec ns t u) :: (D, dictOf [] 0) :: news) → AllLt D news → Q (.ref x) { s with heap := h', toks := tk' }) :
    wpAny (model PySem.Challenge.rw_aq6042_01.row.prog w) (ktrTop dp un gd cn cs L a ccd cl outer) (call (.ref 162) [.float b.toUInt64 t1]) Q E s := by
  obtain ⟨k1, k2, k3, k4⟩ := due_told h0 hf hdue
  rw [one_eq] at k1 k2
  refine unix_walk w loose mean mg mb b.toUInt64 t1 sec ns k1 k2 k3 k4 dp un gd cn cs a ccd cl outer A₀ base h₀ L m news s Q E B F X N T hk hd hu ?_
  rintro r tl h' tk' F' N' hl ⟨x, D, t, u, rfl, hlt, rfl⟩
  exact h x D t u h' tk' hlt F' N' (hl _ (.tail _ (.head _)))
end
end Mine
end

section
open PySem PySem.W PyProof.Rows PySem.Spec PySem.Calls
open PySem.Sem (wp)
set_option maxRecDepth 100000
namespace Mine
section
variable {w : World} {loose : List Str} {mean : ExcName → Option Value} {mg mb : Str → Option Value}
theorem unpackb_use {n : Nat} {c0 c1 c2 c3 c4 c5 c6 c7 : UInt8} {t1 : Tok} (hn : Builtin.Struct.natOf true #[c0, c1, c2, c3, c4, c5, c6, c7] = n) (h0 : n < 18446744073709551616) (hf : n / 4503599627370496 % 2048 ≠ 2047)
    {Γ : PySem.Ctx} {dp un : Nat} {gd : Option (List Code)} {cn : Str} {cs : Scope} {a : Addr} {ccd : Value} {cl : List (Str × Addr)} {outer : List Env} {A₀ : Around} {base h₀ : Heap} {L : Addr} {m : Str → Option Value} {news : List (Addr × Obj)} {s : Shared}
    {Q E : Value → Shared → Prop}
    (I : GIn Γ (ktrTop dp un gd cn cs L a ccd cl outer))
    (B : Below A₀ base outer h₀) (F : Fr h₀ L s.heap m) (X : (hd.heap_39 w.params).In h₀) (N : News h₀ L s.heap news) (T : Top hd.view_39 loose mean mg mb h₀) (hk : cs.kind = .function) (hd : dp + 60 < recursionLimit) (hu : un + 10 * 60 < cLine)
    (h : ∀ t h' tk', Fr h₀ L h' m → News h₀ L h' news → Q (.float n.toUInt64 t) { s with heap := h', toks := tk' }) :
    wpG (model PySem.Challenge.rw_aq6042_01.row.prog w) Γ (call (.ref 315) [.bytes #[203, c0, c1, c2, c3, c4, c5, c6, c7] t1]) Q E s := by
  refine unpackb_walk w loose mean mg mb c0 c1 c2 c3 c4 c5 c6 c7 t1 n hn (nan_no h0 hf) Γ dp un gd cn cs a ccd cl outer A₀ base h₀ L m news s Q E I B F X N T hk hd hu ?_
  rintro r tl h' tk' F' N' _ ⟨rfl, t, rfl⟩
  exact h t h' tk' F' N'
end
/-- the loop's word: as many asked as turns, or four -/
def Asked (xa : Str) (i : Nat) (m : Str → Option Value) : Prop := ∃ a t, m xa = some (.int a t) ∧ ((i : Int) ≤ a ∨ 4 ≤ a)
theorem known2 {h₀ h : Heap} {L : Addr} {m : Str → Option Value} {v w : Value} {x n : Str} (F : Fr h₀ L h (fun y => if y = x then some v else m y)) (hn : m n = some w) :
    Fr h₀ L h (fun y => if y = x then some v else if y = n then some w else m y) := F.known hn
section
variable {prog : Program} {w : World} {Γ : PySem.Ctx} {A : Around} {E : Value → Shared → Prop} {s : Shared} {env : Env} {h₀ : Heap} {x : Str} {body : List Stmt} {Q : Flow → Shared → Prop}
theorem G_law_loop {l : Addr} {vs : List Value} {ns : List Int} {o : Obj} {m₀ : Str → Option Value} {news : List (Addr × Obj)} {px : Pos} {xa : Str} {t0 : Tok} (I : GIn Γ A) (hh : A.handled = none) (hx : env.kindOf x = some .local)
    (hp : (env.scope.kind == .class || (env.scope.kind == .module && env.locals != env.globals)) = false)
    (hm : (l, o) ∈ news) (ho : ∀ h : Heap, h.get? l = some o → h.IsList l vs.toArray) (hi : IntsAre vs ns)
    (F : Fr h₀ env.locals s.heap m₀) (N : News h₀ env.locals s.heap news) (h0 : m₀ xa = some (.int 0 t0)) (h4 : 4 ≤ ns.length)
    (turn : ∀ (Γ' : PySem.Ctx) (i : Nat) n t a ta (u : Str → Option Value) h tk It oI, GIn Γ' A → ns[i]? = some n → ((i : Int) ≤ a ∨ 4 ≤ a) →
      Fr h₀ env.locals h (fun y => if y = x then some (.int n t) else if y = xa then some (.int a ta) else u y) → News h₀ env.locals h ((It, oI) :: news) → (∀ p ∈ news, p.1 < It) →
      wpG (model prog w) Γ' (execs body env) (TurnG h₀ env.locals (Asked xa (i + 1)) ((It, oI) :: news) s) (fun _ _ => False) { s with heap := h, toks := tk })
    (done : ∀ (u : Str → Option Value) a t h tk, 4 ≤ a → Fr h₀ env.locals h (fun y => if y = xa then some (.int a t) else u y) → News h₀ env.locals h news → Q .next { s with heap := h, toks := tk }) :
    wpG (model prog w) Γ (pyIter (.ref l)) (fun it s₂ => ∀ Γ' : PySem.Ctx, Γ'.code = .forLoop (.Name x px) it body [] env → GBelow Γ' A → codeG (model prog w) Γ' (LoopR Q) s₂) E s := by
  refine G_iter_list I hh hx hp hm ho F N (Asked xa) ⟨0, t0, h0, .inl (by simp)⟩ ?_ ?_
  · rintro Γ' i v m₁ h tk It oI I' hv ⟨a, ta, ha, hia⟩ F' N' hlt
    obtain ⟨n, t, rfl, hn⟩ := hi.at i v hv
    exact turn Γ' i n t a ta m₁ h tk It oI I' hn hia (F'.known ha) N' hlt
  · rintro m₁ h tk ⟨a, t, ha, hia⟩ F' N'
    have hl : vs.length = ns.length := hi.length
    exact done m₁ a t h tk (by omega) (F'.known0 ha) N'
end
theorem turn_next {h₀ h' : Heap} {L : Addr} {i : Nat} {need news' : List (Addr × Obj)} {s : Shared} {tk' : Nat} {m' : Str → Option Value} {xa : Str} {a a' : Int} {t : Tok} (F : Fr h₀ L h' m') (N : News h₀ L h' news') (hn : ∀ p ∈ need, p ∈ news')
    (h : m' xa = some (.int a' t)) (he : a' = a + 1) (ha : (i : Int) ≤ a ∨ 4 ≤ a) : TurnG h₀ L (Asked xa (i + 1)) need s .next { s with heap := h', toks := tk' } :=
  .next F N hn ⟨a', t, h, by omega⟩
theorem turn_cont {h₀ h' : Heap} {L : Addr} {i : Nat} {need news' : List (Addr × Obj)} {s : Shared} {tk' : Nat} {m' : Str → Option Value} {xa : Str} {a : Int} {t : Tok} (F : Fr h₀ L h' m') (N : News h₀ L h' news') (hn : ∀ p ∈ need, p ∈ news')
    (h : m' xa = some (.int a t)) (ha : (i : Int) ≤ a ∨ 4 ≤ a) (hi : 4 ≤ i) : TurnG h₀ L (Asked xa (i + 1)) need s .cont { s with heap := h', toks := tk' } :=
  .cont F N hn ⟨a, t, h, by omega⟩
/-- the floats of the law: finite, and the first four are asked -/
theorem floats_ok {ks : List Int} {i : Nat} {n : Int} (h : ([4602678819172646912, 13826050856027422720, 4591870180066957722, 13815242216921733530] ++ ks.map fun k => bitsI k)[i]? = some n) :
    ∃ b : Nat, n = b ∧ b < 18446744073709551616 ∧ b / 4503599627370496 % 2048 ≠ 2047 ∧ (dueN b = none → 4 ≤ i) := by
  match i, h with
  | 0, h =>
    cases h
    exact ⟨4602678819172646912, rfl, by decide, by decide, fun e => absurd e (by decide +kernel)⟩
  | 1, h =>
    cases h
    exact ⟨13826050856027422720, rfl, by decide, by decide, fun e => absurd e (by decide +kernel)⟩
  | 2, h =>
    cases h
    exact ⟨4591870180066957722, rfl, by decide, by decide, fun e => absurd e (by decide +kernel)⟩
  | 3, h =>
    cases h
    exact ⟨13815242216921733530, rfl, by decide, by decide, fun e => absurd e (by decide +kernel)⟩
  | i + 4, h =>
    have hm : n ∈ ks.map fun k => bitsI k := List.mem_of_getElem? (i := i) h
    obtain ⟨k, _, rfl⟩ := List.mem_map.mp hm
    obtain ⟨h1, h2, h3⟩ := bitsI_ok k
    exact ⟨(bitsI k).toNat, by omega, by omega, h3, fun _ => by omega⟩
end Mine
end

section
open PySem PySem.W PyProof.Rows PySem.Spec PySem.Calls
open PySem.Sem (wp)
namespace Mine
theorem bits_use {w : World} {loose : List Str} {mean : ExcName → Option Value} {mg mb : Str → Option Value} (n : Int) (t1 : Tok)
    {dp un : Nat} {gd : Option (List Code)} {cn : Str} {cs : Scope} {a : Addr} {ccd : Value} {cl : List (Str × Addr)} {outer : List Env} {A₀ : Around} {base h₀ : Heap} {L : Addr} {m : Str → Option Value} {news : List (Addr × Obj)} {s : Shared}
    {Q E : Value → Shared → Prop}
    (B : Below A₀ base outer h₀) (F : Fr h₀ L s.heap m) (X : (hd.heap_39 w.params).In h₀) (N : News h₀ L s.heap news) (T : Top hd.view_39 loose mean mg mb h₀) (hk : cs.kind = .function) (hd : dp + 20 < recursionLimit) (hu : un + 10 * 20 < cLine)
    (h : ∀ t h' tk', Fr h₀ L h' m → News h₀ L h' news → Q (.int (bitsI n) t) { s with heap := h', toks := tk' }) :
    wpAny (model PySem.Challenge.rw_aq6042_01.row.prog w) (ktrTop dp un gd cn cs L a ccd cl outer) (call (.ref 504) [.int n t1]) Q E s := by
  refine bits_walk w loose mean mg mb n t1 dp un gd cn cs a ccd cl outer A₀ base h₀ L m news s Q E B F X N T hk hd hu ?_
  rintro r tl h' tk' F' N' _ ⟨rfl, t, rfl⟩
  exact h t h' tk' F' N'
theorem G_plain {prog : Program} {w : World} {A : Around} {Γ : PySem.Ctx} {R : Result → Shared → Prop} {s : Shared} {name : Str} {params : Arguments} {body : List Stmt} {scope : Scope}
    {pm cd doc : Value} {a : Addr} {o : Obj} {args : List Value} {binds : List (Str × Value)} (hc : Γ.code = .call (.ref a) ⟨args, []⟩) (hB : GBelow Γ A)
    (hroom : A.depth < recursionLimit) (ho : s.heap.get? a = some o) (hdata : o.data = .func (Calls.docDef name params body scope pm cd doc)) (hlim : s.heap.NoLimit) (hcd : s.heap.CodeRec cd name)
    (hbind : bindArgs (Calls.docDef name params body scope pm cd doc) ⟨args, []⟩ = pure binds)
    (hloc : ∀ x ∈ binds, scope.names.lookup x.1 = some .local)
    (h : ∀ Γ' h₁, GIn Γ' (A.deeper (envOf name scope s.heap.objs.size a cd)) → Fr s.heap s.heap.objs.size h₁ (fun x => binds.reverse.lookup x) →
      wpG (model prog w) Γ' (execs body (envOf name scope s.heap.objs.size a cd))
        (fun f s' => R (.ok (.ret (match f with | .ret v => v | _ => .none))) s') (fun _ _ => False) { s with heap := h₁, toks := s.toks + binds.length })
    (hco : scope.isCoroutine = false := by rfl) (hgen : scope.isGenerator = false := by rfl) (hk : scope.kind = .function := by rfl)
    (hcell : ∀ x ∈ scope.names, x.2 ≠ .cell := by decide) : codeG (model prog w) Γ R s := by
  refine G_call_def hc hB hroom ho hdata hco hgen rfl hcd ?_
  rw [hbind]
  refine wpAny_pure (wpAny_newFunctionEnv hcell hloc (fun h₁ hns hsb => ⟨hlim.fresh _ hsb, ?_⟩) hk)
  refine G_func rfl ?_
  show wpG (model prog w) (Γ.goto (.func body (envOf name scope s.heap.objs.size a cd))) (execs body (envOf name scope s.heap.objs.size a cd)) _ _ _
  exact h _ h₁ (func_in (goto_below hB _) rfl) ⟨hns, fun b o e => hsb.extBut b o (Nat.ne_of_lt (Heap.lt_size e)) (Heap.get?_push_of_some _ e), Nat.le_refl _⟩
local macro_rules | `(tactic| walk_at "call ref cons nil") => `(tactic| (k_here; (try dsimp only [List.nil_append, List.cons_append]); (with_reducible show wpAny _ _ (call (Value.ref 504) [Value.int _ _] []) _ _ _); (refine' bits_use _ _ ?k1 ?k2 ?k3 ?k4 ?k5 ?kK ?kd ?ku ?_; (case k1 => k_asm); (case k2 => k_asm); (case k3 => k_asm); (case k4 => k_asm); (case k5 => k_asm); (case kK => exact rfl); (case kd => ktr_room); (case ku => ktr_units); intro t' h' tk' F' N'; (try dsimp only); walk_say "BITS")))
local macro_rules | `(tactic| walk_at "call ref cons nil") => `(tactic| (k_here; (try dsimp only [List.nil_append, List.cons_append]); (with_reducible show wpAny _ _ (call (Value.ref 497) [Value.int _ _] []) _ _ _); (refine' due_use _ _ ?k0 ?k1 ?k2 ?k3 ?k4 ?k5 ?kK ?kd ?ku ?_ ?_; (case k0 => omega); (case k1 => k_asm); (case k2 => k_asm); (case k3 => k_asm); (case k4 => k_asm); (case k5 => k_asm); (case kK => exact rfl); (case kd => ktr_room); (case ku => ktr_units); all_goals (first | (intro x' y' D' t' u' c' h' tk' hdue F' N' l1; (try k_lt l1); (try dsimp only)) | (intro h' tk' hdue F' N'; (try dsimp only))); all_goals walk_say "DUE")))
local macro_rules | `(tactic| walk_at "call builtin:int.to_bytes") => `(tactic| (k_here; (try dsimp only [List.nil_append, List.cons_append]); (with_reducible show wpAny _ _ (call (Value.builtin "int.to_bytes") [Value.int _ _, Value.int _ _, Value.str _ _]) _ _ _); (refine' to8 ?k1 ?_; (case k1 => assumption)); intro c0 c1 c2 c3 c4 c5 c6 c7 t' k' hc8; (try dsimp only); walk_say "TO8"))
local macro_rules | `(tactic| walk_at "binaryOp Add bytes bytes") => `(tactic| (k_here; (try dsimp only [List.nil_append, List.cons_append]); (with_reducible show wpAny _ _ (binaryOp Operator.Add (Value.bytes _ _) (Value.bytes _ _)) _ _ _); (refine' add9 ?_); intro t' k'; (try dsimp only); walk_say "ADD9"))
set_option maxRecDepth 100000 in
set_option maxHeartbeats 8000000 in
theorem law_holds : PySem.Challenge.rw_aq6042_01.Holds := by
  w_top off
  refine Mine.hd ?_
  k_fill
  intro w s₀ s₁ mg mb G Y fa o pm cd doc dV kV ho hd hcd hD hmg hg args vals as hpre hlay hrd hwl hlo
  have KX := kIn_of Y
  have X := (Ground.X G).1
  have V := (Ground.X G).2
  refine Ground.open G ?_
  intro T B D TE TW
  obtain ⟨_, _, M⟩ := bmod_of_top T
  have TA := at_of_top T
  wrow_args hpre hlay hrd hwl hlo
  refine G_mono ?_ (fun v s' g => GoodW.toG g) (fun e s' g => GoodW.toG g)
  have he := Dflts.none hD rfl
  subst he
  have he := Dflts.noKw hD
  subst he
  refine G_calls ctx0_in fun Γ hc hB => ?_
  dsimp only [Calls.docDef] at hd hcd
  have K0 := below_caller (Top.heap T)
  refine G_plain hc hB (by decide) ho hd (Top.nolimit T) hcd rfl (locs rfl) ?_
  intro Γ₁ h₁ I F
  w_binds F
  have N0 := (News.nil : News _ _ _ []).at F
  clear hd TA
  k_drop
  with_reducible refine' G_pre3 ?_
  with_reducible refine' G_of_any I.inn ?_
  k_steps
  dsimp only
  with_reducible refine' G_execs_cons (G_For I ?_ ?hs)
  (case hs => exact fun _ => rfl)
  with_reducible refine' G_of_any I.inn ?_
  k_steps
  try dsimp only
  with_reducible refine' G_law_loop (xa := Str.ofString "asked") I ?hh ?hx ?hp ?hm ?ho ?hi ?hF ?hN ?h0 ?h4 ?turn ?done
  (case hh => exact rfl)
  (case hx => exact rfl)
  (case hp => exact rfl)
  (case hF => k_asm)
  (case hN => k_asm)
  (case hm => exact List.mem_cons_self)
  (case ho => exact fun h e => ⟨_, e, rfl, _, rfl⟩)
  (case hi => assumption)
  (case h0 => exact if_pos rfl)
  (case h4 => simp only [List.length_append, List.length_cons, List.length_nil]; omega)
  · intro Γ₂ i n t a ta u h tk It oI I₂ hn hia F₂ N₂ hlt
    obtain ⟨b, rfl, hb, hbf, hb4⟩ := floats_ok hn
    have hbi : (b : Int) < 18446744073709551616 := by omega
    with_reducible refine' G_pre2 ?_
    with_reducible refine' G_of_any I₂.inn ?_
    k_steps
    · dsimp only
      refine' turn_cont (by k_asm) (by k_asm) (fun p hp => by repeat (first | exact hp | refine List.Mem.tail _ ?_)) ?ha hia (hb4 (by assumption))
      (case ha => first | exact rfl | (with_unfolding_all exact rfl) | kernel_rfl)
    dsimp only
    with_reducible refine' G_execs_cons (G_Assign_Name (G_Call_Attr I₂.inn ?_ ?he) ?hsw)
    (case he => exact rfl)
    (case hsw => exact rfl)
    k_steps
    try dsimp only
    with_reducible refine' G_callWith_K I₂.inn KX ?kk ?_
    (case kk => k_is)
    with_reducible refine' G_args1 ?_ ?he2
    (case he2 => exact rfl)
    with_reducible refine' G_Call_Name I₂.inn ?_
    k_steps
    try dsimp only
    with_reducible refine' G_callWith_K I₂.inn KX ?kk2 ?_
    (case kk2 => k_is)
    with_reducible refine' G_of_any I₂.inn ?_
    with_reducible refine' A_args1 ?_ ?he3
    (case he3 => exact rfl)
    k_steps
    try dsimp only
    refine' unpackb_use ?h1 hb hbf I₂ ?k1 ?k2 ?k3 ?k4 ?k5 ?kK ?kd ?ku ?_
    (case h1 => assumption)
    (case k1 => k_asm)
    (case k2 => k_asm)
    (case k3 => k_asm)
    (case k4 => k_asm)
    (case k5 => k_asm)
    (case kK => exact rfl)
    (case kd => ktr_room)
    (case ku => ktr_units)
    intro tf h' tk' F' N'
    dsimp only [List.nil_append]
    refine ⟨KX.keeps F'.keep, ?_⟩
    with_reducible refine' G_of_any I₂.inn ?_
    refine' unix_use b _ _ _ hb hbf ?h2 ?k11 ?k12 ?k13 ?k14 ?k15 ?kK1 ?kd1 ?ku1 ?_
    (case h2 => assumption)
    (case k11 => k_asm)
    (case k12 => k_asm)
    (case k13 => k_asm)
    (case k14 => k_asm)
    (case k15 => k_asm)
    (case kK1 => exact rfl)
    (case kd1 => ktr_room)
    (case ku1 => ktr_units)
    intro xo Do to uo h' tk' l2 F' N' l1
    (try k_lt l1)
    (try k_lt2 l2)
    dsimp only
    with_reducible refine' G_of_any I₂.inn ?_
    k_steps
    try dsimp only
    with_reducible refine' G_of_any I₂.inn ?_
    k_steps
    dsimp only
    refine' turn_next (by k_asm) (by k_asm) (fun p hp => by repeat (first | exact hp | refine List.Mem.tail _ ?_)) ?hb rfl hia
    (case hb => first | exact rfl | (with_unfolding_all exact rfl) | kernel_rfl)
  · intro u a t h tk ha F₂ N₂
    dsimp only
    with_reducible refine' G_of_any I.inn ?_
    k_steps
end Mine
end

theorem PySem.Challenge.cw_aq6042_01_holds : PySem.Challenge.rw_aq6042_01.Holds := by
  exact Mine.law_holds
