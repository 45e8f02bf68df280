import PyProof.Rows.All
import Wide.All
import OpenK.AllK
import Wide.FinOn
import PySem.Challenge.RW_bf5020_01
set_option Elab.async false

set_option autoImplicit false
namespace Mine
open PySem PySem.Calls PySem.Spec PySem.W PyProof.Rows
open PySem.Sem (wp)

/-- a code that no bytearray takes for one that holds it -/
def cleanCode : Code → Bool
  | .builtin id _ => !(Builtin.Bytes.decodersThatHold.contains id || id == "bytearray.__contains__" || id == "bytearray.__mod__" || id == "bytearray.__rmod__" || id == "_struct.pack_into.held" || id == "bytearray.find.held")
  | _ => true
def CleanL (l : List (Code × Pos)) : Prop := ∀ x ∈ l, cleanCode x.1 = true
theorem cleanL_nil : CleanL [] := fun _ h => nomatch h
theorem cleanL_cons {c : Code} {p : Pos} {l : List (Code × Pos)} (hc : cleanCode c = true) (h : CleanL l) : CleanL ((c, p) :: l) := fun x hx => by
  rcases List.mem_cons.mp hx with rfl | hx
  · exact hc
  · exact h x hx

/-- as wpAny, over the contexts without a code that holds a bytearray -/
structure wpC {α : Type} (M : Model) (A : Around) (t : Sem α) (Q : α → Shared → Prop) (E : Value → Shared → Prop) (s : Shared) : Prop where
  run : ∀ (Γ : PySem.Ctx) (p : Pos), Γ.In A → CleanL ((Γ.code, p) :: Γ.below) → wp M Γ t (fun a _ s' => Q a s') (fun e _ s' => E e s') p s
structure codeC (M : Model) (A : Around) (c : Code) (R : Result → Shared → Prop) (s : Shared) : Prop where
  run : ∀ (Γ : PySem.Ctx) (p : Pos), Γ.code = c → Γ.Below A → CleanL Γ.below → wpCode M Γ R p s

section
variable {α β : Type} {M : Model} {A : Around} {E : Value → Shared → Prop} {s : Shared}
theorem wpC_any {t : Sem α} {Q : α → Shared → Prop} (h : wpAny M A t Q E s) : wpC M A t Q E s := ⟨fun Γ p hΓ _ => h Γ p hΓ⟩
theorem codeC_any {c : Code} {R : Result → Shared → Prop} (h : codeAny M A c R s) : codeC M A c R s := ⟨fun Γ p hc hΓ _ => h Γ p hc hΓ⟩
theorem wpC_pure {a : α} {Q : α → Shared → Prop} (h : Q a s) : wpC M A (pure a) Q E s := ⟨fun _ _ _ _ => h⟩
theorem wpC_mono {t : Sem α} {Q Q' : α → Shared → Prop} {E' : Value → Shared → Prop} (h : wpC M A t Q E s)
    (hQ : ∀ a s, Q a s → Q' a s) (hE : ∀ e s, E e s → E' e s) : wpC M A t Q' E' s :=
  ⟨fun Γ p hΓ hc => Sem.wp_mono M Γ t (fun a _ s => hQ a s) (fun e _ s => hE e s) p s (h.run Γ p hΓ hc)⟩
theorem clean_pos {c : Code} {p p' : Pos} {l : List (Code × Pos)} (h : CleanL ((c, p) :: l)) : CleanL ((c, p') :: l) :=
  cleanL_cons (h (c, p) (.head _)) fun x hx => h x (.tail _ hx)
theorem wpC_bind {m : Sem α} {f : α → Sem β} {Q : β → Shared → Prop} (h : wpC M A m (fun a s' => wpC M A (f a) Q E s') E s) :
    wpC M A (m >>= f) Q E s := ⟨fun Γ p hΓ hc => by
  rw [Sem.wp_bind']
  exact Sem.wp_mono M Γ m (fun a p' s' h' => h'.run Γ p' hΓ (clean_pos hc)) (fun _ _ _ h' => h') p s (h.run Γ p hΓ hc)⟩
/-- a leaf ahead, in the library's logic -/
theorem wpC_bindA {m : Sem α} {f : α → Sem β} {Q : β → Shared → Prop} (h : wpAny M A m (fun a s' => wpC M A (f a) Q E s') E s) :
    wpC M A (m >>= f) Q E s := wpC_bind (wpC_any h)
theorem wpC_onRaise {m : Sem α} {k : Value → Sem Unit} {Q : α → Shared → Prop}
    (h : wpC M A m Q (fun e s' => wpC M A (k e) (fun _ s'' => E e s'') E s') s) : wpC M A (m.onRaise k) Q E s := ⟨fun Γ p hΓ hc => by
  rw [Sem.wp_onRaise]
  exact Sem.wp_mono M Γ m (fun _ _ _ h' => h') (fun e p' s' h' => h'.run Γ p' hΓ (clean_pos hc)) p s (h.run Γ p hΓ hc)⟩
theorem wpC_tryCatch {m : Sem α} {k : Value → Sem α} {Q : α → Shared → Prop} (h : wpC M A m Q (fun e s' => wpC M A (k e) Q E s') s) :
    wpC M A (tryCatch m k) Q E s := ⟨fun Γ p hΓ hc => by
  rw [Sem.wp_tryCatch']
  exact Sem.wp_mono M Γ m (fun _ _ _ h' => h') (fun e p' s' h' => h'.run Γ p' hΓ (clean_pos hc)) p s (h.run Γ p hΓ hc)⟩
theorem wpC_holding {vs : List Value} {m : Sem α} {Q : α → Shared → Prop} (h : wpC M A m Q E s) : wpC M A (holding vs m) Q E s :=
  ⟨fun Γ p hΓ hc => by rw [Sem.wp_holding]; exact h.run Γ p hΓ hc⟩
theorem wpC_keep {vs : List Value} {m : Sem α} {Q : α → Shared → Prop} (h : wpC M A m Q E s) : wpC M A (m.keep vs) Q E s :=
  ⟨fun Γ p hΓ hc => by rw [Sem.wp_keep]; exact h.run Γ p hΓ hc⟩
theorem wpC_standAt {pos : Pos} {Q : Unit → Shared → Prop} (h : Q () s) : wpC M A (standAt pos) Q E s := wpC_any (wpAny_standAt h)
theorem codeC_mono {c : Code} {R R' : Result → Shared → Prop} (h : codeC M A c R s) (hR : ∀ r s, R r s → R' r s) : codeC M A c R' s :=
  ⟨fun Γ p hc hΓ hl => wpCode_mono hR (h.run Γ p hc hΓ hl)⟩
theorem wpC_run {c : Code} {h : Option Value} {Q : Flow → Shared → Prop}
    (hc : codeC M (A.mark h) c (fun r s' => match r with | .ok f => Q f s' | .error e => E e s') s) (hnb : h ≠ some byPass := by intro x; cases x) :
    wpC M A (run c h) Q E s :=
  ⟨fun Γ p hΓ hl => by rw [Sem.wp_run]; exact hc.run _ p rfl (hΓ.enter c h p hnb) hl⟩
theorem wpC_runValue {c : Code} {Q : Value → Shared → Prop}
    (hc : codeC M A c (fun r s' => match r with | .ok (.ret v) => Q v s' | .ok _ => False | .error e => E e s') s) :
    wpC M A (runValue c) Q E s := ⟨fun Γ p hΓ hl => by rw [Sem.wp_runValue]; exact hc.run _ p rfl (hΓ.enter c none p (by intro x; cases x)) hl⟩
theorem wpC_call {f : Value} {pos : List Value} {kw : List (Str × Value)} {Q : Value → Shared → Prop}
    (hc : codeC M A (.call f ⟨pos, kw⟩) (fun r s' => match r with | .ok (.ret v) => Q v s' | .ok _ => False | .error e => E e s') s) :
    wpC M A (call f pos kw) Q E s := wpC_runValue hc
theorem codeC_of_tree {c : Code} {R : Result → Shared → Prop} (hcl : cleanCode c = true)
    (h : wpC M (A.under c) (M.den c) (fun fin s' => match fin with | .done f => R (.ok f) s' | .again c' => c'.quiet = true ∧ codeC M A c' R s')
      (fun e s' => R (.error e) s') s) : codeC M A c R s := ⟨fun Γ p hc hΓ hl => by
  rw [wpCode_iff_wp, hc]
  refine Sem.wp_mono M Γ _ (fun fin p' s' h' => ?_) (fun _ _ _ h' => h') p s (h.run Γ p (hc ▸ hΓ.in) (by rw [hc]; exact cleanL_cons hcl hl))
  cases fin with
  | done f => exact h'
  | again c' => exact ⟨h'.1, h'.2.run (Γ.goto c') p' rfl (hΓ.goto c') hl⟩⟩
end

section
variable {prog : Program} {w : World} {A : Around} {E : Value → Shared → Prop} {s : Shared}
theorem codeC_func {body : List Stmt} {env : Env} {R : Result → Shared → Prop}
    (h : wpC (model prog w) (A.deeper env) (execs body env) (fun f s' => R (.ok (.ret (match f with | .ret v => v | _ => .none))) s')
      (fun e s' => wpC (model prog w) (A.deeper env) (leaving env e) (fun _ s'' => R (.error e) s'') (fun e' s'' => R (.error e') s'') s') s) :
    codeC (model prog w) A (.func body env) R s := by
  refine codeC_of_tree rfl ?_
  show wpC _ (A.deeper env) (do point; match ← (execs body env).onRaise (leaving env) with | .ret v => ret v | _ => ret .none) _ _ s
  refine wpC_bindA (wpAny_point (wpC_bind (wpC_onRaise (wpC_mono h (fun f s' h' => ?_) fun _ _ h' => h'))))
  cases f <;> exact wpC_pure h'
theorem codeC_builtin {id : String} {args : Args} {b : Builtin} {R : Result → Shared → Prop} (hcl : cleanCode (.builtin id args) = true) (hb : entryFor table id = some b)
    (h : wpC (model prog w) (A.under (.builtin id args)) (b args)
      (fun fin s' => match fin with | .done f => R (.ok f) s' | .again c' => c'.quiet = true ∧ codeC (model prog w) A c' R s') (fun e s' => R (.error e) s') s) :
    codeC (model prog w) A (.builtin id args) R s := by
  refine codeC_of_tree hcl ?_
  show wpC _ _ (match entryFor table id with | some b => b args | none => unsupported ((withoutEnding? id "#data").getD id)) _ _ s
  rw [hb]; exact h
theorem codeC_call_function {a : Addr} {args : Args} {o : Obj} {fd : FuncData} {body : List Stmt} {R : Result → Shared → Prop} (hroom : A.depth < recursionLimit)
    (ho : s.heap.get? a = some o)
    (hd' : o.data = .func fd) (hco : fd.scope.isCoroutine = false) (hgen : fd.scope.isGenerator = false) (hbody : fd.body = .stmts body) (hcd : s.heap.CodeRec fd.code fd.qualname)
    (h : wpAny (model prog w) A.in1 (bindArgs fd args) (fun binds s₁ =>
      wpAny (model prog w) A.in1 (newFunctionEnv fd.scope fd.globals fd.closure binds (fd.qualname ++ ".<locals>.") (some a) fd.code none fd.builtins)
        (fun env s₂ => s₂.heap.NoLimit ∧ codeC (model prog w) A (.func body env) R s₂) (fun e s' => R (.error e) s') s₁) (fun e s' => R (.error e) s') s) :
    codeC (model prog w) A (.call (.ref a) args) R s := by
  refine codeC_of_tree rfl (wpC_any ?_)
  show wpAny _ A.in1 (callAny (.ref a) args) _ _ s
  simp only [callAny]
  refine wpAny_bind (wpAny_load ho ?_)
  obtain ⟨c, oc, vs, tq, hc, hoc, hdc, hq⟩ := hcd
  simp only [hd', callFunction, hco, hgen, hbody, hc]
  rw [hc] at h
  refine wpAny_bind (m := field (.ref c) 1) (wpAny_field hoc hdc hq (wpAny_bind (wpAny_pure ?_)))
  exact wpAny_bind (wpAny_mono h (fun binds s₁ h₁ => wpAny_bind (wpAny_mono h₁ (fun env s₂ h₂ => wpAny_bind (wpAny_enterFrame h₂.1 hroom
    (wpAny_pure (And.intro rfl h₂.2)))) fun _ _ h' => h')) fun _ _ h' => h')
end
end Mine

set_option autoImplicit false
namespace Hz
open PySem PySem.Calls PySem.Spec PySem.W PyProof.Rows Mine
open PySem.Sem (wp)

abbrev Γ0 : PySem.Ctx := ⟨.builtin "claim.caller" {}, none, none, [], none⟩
/-- at the one context where a law's call is run -/
def wp0 {α : Type} (M : Model) (t : Sem α) (Q : α → Shared → Prop) (E : Value → Shared → Prop) (s : Shared) : Prop :=
  ∀ p, wp M Γ0 t (fun a _ s' => Q a s') (fun e _ s' => E e s') p s
theorem clean0 (p : Pos) : CleanL ((Γ0.code, p) :: Γ0.below) := cleanL_cons (by decide +kernel) cleanL_nil
theorem wp0_of {α : Type} {M : Model} {t : Sem α} {Q : α → Shared → Prop} {E : Value → Shared → Prop} {s : Shared} (h : wpC M callerA t Q E s) : wp0 M t Q E s :=
  fun p => h.run Γ0 p caller_in (clean0 p)
theorem wp0_mono {α : Type} {M : Model} {t : Sem α} {Q Q' : α → Shared → Prop} {E E' : Value → Shared → Prop} {s : Shared} (h : wp0 M t Q E s)
    (hQ : ∀ a s, Q a s → Q' a s) (hE : ∀ e s, E e s → E' e s) : wp0 M t Q' E' s :=
  fun p => Sem.wp_mono M Γ0 t (fun a _ s => hQ a s) (fun e _ s => hE e s) p s (h p)
theorem wp0_bindA {α β : Type} {M : Model} {m : Sem α} {f : α → Sem β} {Q : β → Shared → Prop} {E : Value → Shared → Prop} {s : Shared}
    (h : wpAny M callerA m (fun a s' => wp0 M (f a) Q E s') E s) : wp0 M (m >>= f) Q E s := fun p => by
  rw [Sem.wp_bind']
  exact Sem.wp_mono M Γ0 m (fun a p' s' h' => h' p') (fun _ _ _ h' => h') p s (h Γ0 p caller_in)
theorem wp0_bind {α β : Type} {M : Model} {m : Sem α} {f : α → Sem β} {Q : β → Shared → Prop} {E : Value → Shared → Prop} {s : Shared}
    (h : wp0 M m (fun a s' => wp0 M (f a) Q E s') E s) : wp0 M (m >>= f) Q E s := fun p => by
  rw [Sem.wp_bind']
  exact Sem.wp_mono M Γ0 m (fun a p' s' h' => h' p') (fun _ _ _ h' => h') p s (h p)

theorem thread_ends0 {prog : Program} {w : World} {t : Sem Fin} {s : Shared} {R : Result → Shared → Prop} (hreg : s.asleep)
    (h : wp0 (model prog w) t (fun fin s' => ∃ f, fin = .done f ∧ (R (.ok f) s' ∧ leftWithCleanup s'.gens = false)) (fun e s' => R (.error e) s' ∧ leftWithCleanup s'.gens = false) s) :
    ∃ n r s' s'', runN (denote table) prog w n s ⟨t, .builtin "claim.caller" {}, default, []⟩ = .halted (outcomeOf r) s' ∧
      schedN (denote table) prog w n (.single s ⟨t, .builtin "claim.caller" {}, default, []⟩) = .halted (outcomeOf r) s' ∧ s'.forget = s''.forget ∧ R r s'' := by
  have h' : wp (model prog w) Γ0 t (Sem.finPost (model prog w) Γ0 fun r s' => R r s' ∧ leftWithCleanup s'.gens = false)
      (fun e _ s' => R (.error e) s' ∧ leftWithCleanup s'.gens = false) default s :=
    Sem.wp_mono _ _ t (fun fin p' s' q => by obtain ⟨f, rfl, hf⟩ := q; exact hf) (fun _ _ _ q => q) default s (h default)
  obtain ⟨n, r, s₁, s₂, hs, hn, hfo, hR⟩ := wp_halts_full (M := model prog w) (R := R) hreg h'
  exact ⟨n, r, s₂, s₁, hn, hs, hfo, hR⟩

theorem callFrom0 {c : ClaimW} {tree : List Value → Sem Fin} {w : World} {s : Shared} {free : Addr → Prop} {gens : Prop} {kept : Heap → Prop} (hz : s.asleep) (hgens : s.gens = #[])
    (hspec : ∀ args, c.pre args = true → WData.layableAll args = true →
      ∀ ord : List DictEntry → List DictEntry, (∀ l, (ord l).Perm l) →
      ∃ vs s₁, layAllW c.records (classAt s.heap) w.params ord args s = some (vs, s₁) ∧
        wp0 (model c.prog w) (tree vs) (fun fin s' => ∃ f, fin = .done f ∧ (c.Ends s args vs s₁ (.ok f) s' ∧ s'.os = s.os ∧ AllBare s'.gens ∧ kept s'.heap))
          (fun e s' => c.Ends s args vs s₁ (.error e) s' ∧ s'.os = s.os ∧ AllBare s'.gens ∧ kept s'.heap) s₁) :
    c.CallFrom (fun vs => ⟨tree vs, .builtin "claim.caller" {}, default, []⟩) w free gens kept s := by
  intro args hpre hlay ord hord
  obtain ⟨vs, s₁, hlaid, hcode⟩ := hspec args hpre hlay ord hord
  have hal := layAllW_rest _ _ _ hlaid
  obtain ⟨k, r, s', s'', hrun, hsched, hfo, hcase, hos, hkp⟩ := thread_ends0 (prog := c.prog) (w := w) (t := tree vs) (s := s₁)
    (R := fun r s' => c.Ends s args vs s₁ r s' ∧ s'.os = s.os ∧ kept s'.heap)
    (Shared.asleep_of_life hal.2.2.2 hz)
    (wp0_mono hcode (by
      rintro fin s' ⟨f, e, h1, h2, h3, h4⟩
      exact ⟨f, e, ⟨h1, h2, h4⟩, leftWithCleanup_false_of_bare h3⟩) (by
      rintro e s' ⟨h1, h2, h3, h4⟩
      exact ⟨⟨h1, h2, h4⟩, leftWithCleanup_false_of_bare h3⟩))
  obtain ⟨eh, _, _, eo, _⟩ := Shared.forget_eq hfo
  have hcase := hcase.congr eh
  have hkp : kept s'.heap := by rw [eh]; exact hkp
  rw [← eo] at hos
  have hlife : s'.heap.life = s.heap.life := (runN_life _ _ _ hrun).trans hal.2.2.2
  refine ⟨vs, s₁, hlaid, k, _, s', hsched, ?_, (fun _ i x hx => by rw [hgens] at hx; simp at hx), hkp, by rw [hlife], Shared.rest_eq hos⟩
  rcases hcase with ⟨v, rfl, d1, d2, d3, d4, d5⟩ | ⟨e, ob, cls, rfl, d1, d2, d3, d4, d5⟩
  · exact .inl ⟨v, rfl, d1, d2, d3, fun b o y _ => d4 b o y, d5⟩
  · exact .inr ⟨e, ob, cls, rfl, d1, d2, d3, d4, fun b o y _ => d5 b o y⟩

abbrev Walk0 (q : Program) (loose : List Str) (XP : (Str → Option Value) → Heap → Prop) (YP : World → Heap → Prop) (r : RowW) (d : DefRec) (kwd : List (Str × Expr)) : Prop :=
  ∀ (w : World) (s₀ s₁ : Shared) (mg mb : Str → Option Value), Ground q loose r.records XP w s₀ mg mb s₁.heap → YP w s₁.heap → ∀ (a : Addr) (o : Obj) (pm cd doc dV kV : Value), s₁.heap.get? a = some o →
    o.data = .func { docDef d.name d.params d.body d.scope pm cd doc with defaults := dV, kwdefaults := kV } → s₁.heap.CodeRec cd d.name → Dflts mg s₁.heap d.params kwd dV kV → mg d.name = some (.ref a) → s₁.gens = #[] →
    ∀ (args : List WData) (vals : List Value) (as : List Addr), r.claim.pre args = true → WData.layableAll args = true → ReadsAllW r.records (classAt s₀.heap) s₁.heap vals args as → WellAll w.params s₁.heap vals args → (∀ a ∈ as, (a == sysModules) = false) →
      wp0 (model r.prog w) (PySem.call (.ref a) vals) (fun v s' => GoodWG r.claim (classAt s₀.heap) (ExcName.means s₀.heap) args s₁ (.ok (.ret v)) s')
        (fun e s' => GoodWG r.claim (classAt s₀.heap) (ExcName.means s₀.heap) args s₁ (.error e) s') s₁

/-- a head whose walk is asked at the one context of a law's call; under the name where «k_head» looks first in this namespace -/
theorem PySem.W.holds_open {r : OpenRow} {q : Program} {loose : List Str} {Xt : Shared → Bool} {XP : (Str → Option Value) → Heap → Prop} {α : Type} {Yf : Shared → α} {Ya : World → α} {YP : World → Heap → Prop} {d : DefRec} {kwd : List (Str × Expr)} {N : Nat}
    (left : LeftO r.prog q loose Xt Yf Ya N) (hY : ∀ w s, Yf s = Ya w → YP w s.heap) (hYk : ∀ w h h', YP w h → (∀ b o, h.get? b = some o → h'.get? b = some o) → YP w h')
    (hX : ∀ s, Xt s = true → XP (s.heap.nsMap mainGlobals) s.heap) (hXk : ∀ mg h h', XP mg h → (∀ b o, h.get? b = some o → h'.get? b = some o) → XP mg h')
    (hdef : defOf q r.name = some (d, kwd)) (hp : r.prog.theDef r.name = some (d.params, d.body, d.scope)) (hk : kwWritten? d.params.kwonlyargs d.params.kw_defaults = some kwd) (hRf : ∀ s, Xt s = true → RecFacts r.records s.heap) (hwr : (!r.writes || r.records.isEmpty) = true)
    (k1 : r.wellSaid = true) (ok : (chainsOk q && opensWell r.prog && (frees r.toRowW && r.within.isEmpty)) = true) (hb : r.prog.bare) (hw : r.toRowW.promised)
    (call : Walk0 q loose XP YP r.toRowW d kwd) : r.Holds := by
  obtain ⟨ok, k5⟩ := Bool.and_eq_true_iff.mp ok
  obtain ⟨hch, o1⟩ := Bool.and_eq_true_iff.mp ok
  obtain ⟨k5, k6⟩ := Bool.and_eq_true_iff.mp k5
  obtain ⟨hsame, hu, ha, hap, hm⟩ := frees_parts k5
  refine ⟨k1, hw, ⟨hb, o1, by show r.makers.map _ = []; rw [hm]; rfl⟩, hw.witness, fun w => ⟨(left.behind hX hch w).1, fun s' hs' => ?_⟩⟩
  obtain ⟨s₀, hf, hg0, s, hT, hz, hgens, hg, G00, y⟩ := (left.behind (XP := fun mg h => XP mg h ∧ RecFacts r.records h) (fun s hs => ⟨hX s hs, hRf s hs⟩) hch w).2 s' hs'
  have G0 : Ground q loose [] XP w s (s.heap.nsMap mainGlobals) (s.heap.nsMap builtinsNs) s.heap := ⟨G00.T, G00.B, G00.D, G00.TE, G00.TD, G00.W, G00.X.1, G00.cls, G00.has, G00.apart, G00.once, G00.K⟩
  have RF := G00.X.2
  refine ⟨s₀, hf, hg0, s, hT, fun n hn => ?_, RF.1, RF.2.1, ?_⟩
  · obtain rfl : n = r.name := by split at hn <;> simp_all
    exact pinned_of_view hg G0 hdef hp hk
  have hgens : s.gens = #[] := Array.eq_empty_of_size_eq_zero (beq_iff_eq.mp hgens)
  have G : Ground q loose r.records XP w s _ _ s.heap := RF.ground G0
  refine callFrom0 (c := r.claim) (tree := fun vs => do match ← nsGet mainNs r.name with
      | some f => do ret (← PySem.call f vs)
      | none => unsupported "claim.caller:no-such-global") hz hgens fun args hpre hlay ord hord => ?_
  obtain ⟨⟨vs, s₁⟩, hlaid⟩ := Option.isSome_iff_exists.mp (layAllW_isSome (P := w.params) (ord := ord) G.has args r.args s (pre_splitW hpre).1)
  have keeps := layAllW_keeps _ _ _ hlaid
  have hal := layAllW_rest _ _ _ hlaid
  obtain ⟨as, hrd, hin, hold⟩ := reads_layAllW hord _ _ _ hlaid hlay s₁.heap (fun _ _ e => e)
  have L : Laid r.records w s s₁ args vs as := ⟨⟨ord, hord, hlaid⟩, hrd, hin, hold, keeps, hal.1.trans hgens, hal.2.2.1⟩
  have G₁ := G.keeps hXk keeps
  obtain ⟨a, o, pm, cd, doc, dV, kV, h1, h2, h3, h4, h5⟩ := G₁.fn hdef
  have h := call w s s₁ _ _ G₁ (hYk _ _ _ (hY w s y) keeps) a o pm cd doc dV kV h2 h3 h4 h5 (defOf_name hdef ▸ h1) L.gens args vs as hpre hlay L.reads L.well (L.low G.low)
  have hi := ident_freeW hu ha hap
  have hwi : r.claim.within = [] := List.isEmpty_iff.mp k6
  refine ⟨vs, s₁, hlaid, wp0_bindA (wpAny_nsGet G₁.T.g ?_)⟩
  rw [h1]
  refine wp0_bind (wp0_mono h (fun v s' g => ?_) fun e s' g => ?_)
  · have z := g.laid (c := r.claim) hsame hwi hi L
    exact fun _ => ⟨_, rfl, z.1, z.2.1, z.2.2, fun q => ⟨namesKept_of hT hg _ keeps g.2.1.old, noTable hwr q⟩⟩
  · have z := g.laid (c := r.claim) hsame hwi hi L
    exact ⟨z.1, z.2.1, z.2.2, fun q => ⟨namesKept_of hT hg _ keeps g.2.1.old, noTable hwr q⟩⟩

set_option maxRecDepth 100000 in
set_option maxHeartbeats 8000000 in
open_top hd for PySem.Challenge.rw_bf5020_01
end Hz

namespace Mine
/-- the library's walk back in the state that it has where no head was opened -/
theorem walk_off : True := by
  w_top off
  trivial
end Mine

set_option autoImplicit false
set_option maxRecDepth 100000
namespace Mine
open PySem PySem.Calls PySem.Spec PySem.W PyProof.Rows
open PySem.Sem (wp)

def baObj (b : Array UInt8) : Obj := { cls := .type "bytearray", data := .bytearray b }
def IsBA (h : Heap) (a : Addr) (b : Array UInt8) : Prop := h.get? a = some (baObj b)

theorem IsBA.typeIs {s : Shared} {a : Addr} {b : Array UInt8} (h : IsBA s.heap a b) : s.TypeIs (.ref a) "bytearray" := ⟨_, h, rfl⟩

theorem slot_ba_len : Slot "bytearray" "__len__" "bytearray.__len__" :=
  .of (owner := "bytearray") (n := "__len__") (by rw [typeLookup_type, builtinLookup_eq_fast]; kernel_rfl) (by decide +kernel) (by decide +kernel) (by decide +kernel)
    (by first | exact .inl (by decide +kernel) | exact .inr (by decide +kernel)) (by rw [isSubtype_type]; kernel_rfl)
theorem slot_ba_getitem : Slot "bytearray" "__getitem__" "bytearray.__getitem__" :=
  .of (owner := "bytearray") (n := "__getitem__") (by rw [typeLookup_type, builtinLookup_eq_fast]; kernel_rfl) (by decide +kernel) (by decide +kernel) (by decide +kernel)
    (by first | exact .inl (by decide +kernel) | exact .inr (by decide +kernel)) (by rw [isSubtype_type]; kernel_rfl)
theorem slot_ba_setitem : Slot "bytearray" "__setitem__" "bytearray.__setitem__" :=
  .of (owner := "bytearray") (n := "__setitem__") (by rw [typeLookup_type, builtinLookup_eq_fast]; kernel_rfl) (by decide +kernel) (by decide +kernel) (by decide +kernel)
    (by first | exact .inl (by decide +kernel) | exact .inr (by decide +kernel)) (by rw [isSubtype_type]; kernel_rfl)
theorem slot_ba_iter : Slot "bytearray" "__iter__" "bytearray.__iter__" :=
  .of (owner := "bytearray") (n := "__iter__") (by rw [typeLookup_type, builtinLookup_eq_fast]; kernel_rfl) (by decide +kernel) (by decide +kernel) (by decide +kernel)
    (by first | exact .inl (by decide +kernel) | exact .inr (by decide +kernel)) (by rw [isSubtype_type]; kernel_rfl)
theorem slot_ba_init : Slot "bytearray" "__init__" "bytearray.__init__" :=
  .of (owner := "bytearray") (n := "__init__") (by rw [typeLookup_type, builtinLookup_eq_fast]; kernel_rfl) (by decide +kernel) (by decide +kernel) (by decide +kernel)
    (by first | exact .inl (by decide +kernel) | exact .inr (by decide +kernel)) (by rw [isSubtype_type]; kernel_rfl)
theorem entry_ba_len : entryFor table "bytearray.__len__" = some Builtin.«bytearray.__len__» := by first | exact entryFor_of_fast (by kernel_rfl) | exact entryFor_of_tree (by kernel_rfl)
theorem entry_ba_getitem : entryFor table "bytearray.__getitem__" = some Builtin.«bytearray.__getitem__» := by first | exact entryFor_of_fast (by kernel_rfl) | exact entryFor_of_tree (by kernel_rfl)
theorem entry_ba_setitem : entryFor table "bytearray.__setitem__" = some Builtin.«bytearray.__setitem__» := by first | exact entryFor_of_fast (by kernel_rfl) | exact entryFor_of_tree (by kernel_rfl)
theorem entry_ba_iter : entryFor table "bytearray.__iter__" = some Builtin.«bytearray.__iter__» := by first | exact entryFor_of_fast (by kernel_rfl) | exact entryFor_of_tree (by kernel_rfl)
theorem entry_ba_init : entryFor table "bytearray.__init__" = some Builtin.«bytearray.__init__» := by first | exact entryFor_of_fast (by kernel_rfl) | exact entryFor_of_tree (by kernel_rfl)
theorem entry_ba_new : entryFor table "bytearray.__new__" = some Builtin.«list.__new__» := entryFor_alias (id' := "list.__new__") (by kernel_rfl) (by first | rfl | decide +kernel) (by decide +kernel) (by kernel_rfl)
theorem args_ba_len (a : Value) : argsOk "bytearray.__len__" ⟨[a], []⟩ := by unfold argsOk; kernel_rfl
theorem args_ba_getitem (a b : Value) : argsOk "bytearray.__getitem__" ⟨[a, b], []⟩ := by unfold argsOk; kernel_rfl
theorem args_ba_setitem (a b c : Value) : argsOk "bytearray.__setitem__" ⟨[a, b, c], []⟩ := by unfold argsOk; kernel_rfl
theorem args_ba_init (a b : Value) : argsOk "bytearray.__init__" ⟨[a, b], []⟩ := by unfold argsOk; kernel_rfl

section
variable {prog : Program} {w : World} {A : Around} {E : Value → Shared → Prop} {s : Shared}
theorem payload_ba {M : Model} {a : Addr} {b : Array UInt8} {Q : Array UInt8 → Shared → Prop} (hl : IsBA s.heap a b) (h : Q b s) : wpAny M A (Builtin.Bytes.payload (.ref a)) Q E s := by
  unfold Builtin.Bytes.payload Builtin.Bytes.payload?
  exact wpAny_bind (wpAny_bind (wpAny_load hl (wpAny_pure (wpAny_pure h))))
theorem ba_len {a : Addr} {b : Array UInt8} {Q : Value → Shared → Prop} (hl : IsBA s.heap a b) (hfit : (b.size : Int) < 2 ^ 63)
    (h : Q (.int b.size (s.toks + 1)) { s with toks := s.toks + 1 + 1 }) : wpAny (model prog w) A (call (.builtin "len") [.ref a]) Q E s := by
  refine call_function_entry kind_len plain_len entry_len (args_len1 _) ?_
  unfold Builtin.«len»
  refine wpAny_bind (m := oneArg "len" _) (wpAny_pure ?_)
  refine wpAny_bind (m := callSpecial? (.ref a) (Str.ofString "__len__")) (wpAny_callSpecial?_slot (name := Str.ofString "__len__") hl.typeIs slot_ba_len
    (wpAny_call_entry slot_ba_len hl.typeIs entry_ba_len ?_ (args_ba_len _)))
  · show wpAny _ _ (do retInt (← Builtin.Bytes.payload (.ref a)).size) _ _ s
    refine wpAny_bind (payload_ba hl ?_)
    refine wpAny_bind (wpAny_mkInt (wpAny_pure ⟨_, rfl, ?_⟩))
    refine wpAny_bind (wpAny_holding (wpAny_pure ?_))
    refine wpAny_bind (wpAny_letGo ?_)
    show wpAny _ _ (if ((b.size : Nat) : Int) < 0 then _ else _) _ _ _
    rw [if_neg (by omega)]
    show wpAny _ _ (if ((b.size : Nat) : Int) ≥ 2 ^ 63 then _ else _) _ _ _
    rw [if_neg (by omega)]
    exact wpAny_bind (wpAny_mkInt (wpAny_pure ⟨_, rfl, h⟩))
theorem ba_subscript {M : Model} {k : Int} {t : Tok} {Q : Option Int → Shared → Prop} (hfit : Builtin.Bytes.fitsIndex k = true) (h : Q (some k) s) :
    wpAny M A (Builtin.Bytes.subscript? (.int k t)) Q E s := by
  unfold Builtin.Bytes.subscript?
  refine wpAny_bind (wpAny_specialOf (T := "int") (typeIs_int s k t) int_index ?_)
  show wpAny M A (asIndex (.int k t) >>= _) Q E s
  refine wpAny_bind (wpAny_of_eq (a := k) rfl ?_)
  show wpAny M A (if (!Builtin.Bytes.fitsIndex k) = true then _ else _) Q E s
  rw [if_neg (by rw [hfit]; decide)]
  exact wpAny_pure h
theorem ba_fits {k : Int} (h0 : 0 ≤ k) (h1 : k < 2 ^ 63) : Builtin.Bytes.fitsIndex k = true := by
  unfold Builtin.Bytes.fitsIndex
  simp only [Bool.and_eq_true, decide_eq_true_eq]
  omega
theorem ba_seqIndex {k : Int} {n : Nat} (h0 : 0 ≤ k) (h1 : k < n) : seqIndex? k n = some k.toNat := by
  unfold seqIndex?
  simp only [show ¬ k < 0 by omega, if_false]
  simp [h0, h1]
theorem ba_item {a : Addr} {b : Array UInt8} {k : Int} {t : Tok} {x : UInt8} {Q : Value → Shared → Prop} (hl : IsBA s.heap a b)
    (h0 : 0 ≤ k) (hfit : k < 2 ^ 63) (hx : b[k.toNat]? = some x) (h : Q (.int x.toNat s.toks) { s with toks := s.toks + 1 }) : wpAny (model prog w) A (getItem (.ref a) (.int k t)) Q E s := by
  have hlt : k.toNat < b.size := by
    rw [Array.getElem?_eq_some_iff] at hx; exact hx.1
  unfold getItem
  refine wpAny_holding ?_
  refine wpAny_bind (wpAny_sequenceKey hl.typeIs (by decide) ?_)
  refine wpAny_bind (wpAny_callSpecial?_slot (name := Str.ofString "__getitem__") hl.typeIs slot_ba_getitem
    (wpAny_call_entry slot_ba_getitem hl.typeIs entry_ba_getitem ?_ (args_ba_getitem _ _)))
  show wpAny _ _ (Builtin.Bytes.subscript? (.int k t) >>= _) _ _ s
  refine wpAny_bind (ba_subscript (ba_fits h0 hfit) ?_)
  refine wpAny_bind (payload_ba hl ?_)
  rw [ba_seqIndex h0 (by omega)]
  show wpAny _ _ (match b[k.toNat]? with | some x => _ | none => _) _ _ s
  rw [hx]
  refine wpAny_bind (wpAny_mkInt (wpAny_pure ⟨_, rfl, wpAny_pure h⟩))
theorem ba_tail {value slice : PySem.Expr} {a : Addr} {b : Array UInt8} {k : Int} {t : Tok} {x : UInt8} {Q : Value → Shared → Prop} (hl : IsBA s.heap a b)
    (h0 : 0 ≤ k) (hfit : k < 2 ^ 63) (hx : b[k.toNat]? = some x) (h : Q (.int x.toNat s.toks) { s with toks := s.toks + 1 })
    (hs : subscripted slice false (.ref a) (.int k t) = operate [.ref a, .int k t] (getItem (.ref a) (.int k t)) := by with_unfolding_all rfl) :
    wpAny (model prog w) A (subscriptTail value slice (.ref a) (.int k t)) Q E s :=
  tail_any hl.typeIs slot_ba_getitem.lookup (ba_item hl h0 hfit hx h) hs
theorem ba_set {a : Addr} {b : Array UInt8} {k v : Int} {t u : Tok} {Q : Unit → Shared → Prop} (hl : IsBA s.heap a b)
    (h0 : 0 ≤ k) (hfit : k < 2 ^ 63) (hk : k < b.size) (hv : 0 ≤ v ∧ v < 256) (hz : b.size ≤ sizeLine)
    (h : Q () { s with heap := s.heap.update a (Obj.mapBytearray (·.setIfInBounds k.toNat v.toNat.toUInt8)) }) : wpAny (model prog w) A (setItem (.ref a) (.int k t) (.int v u)) Q E s := by
  unfold setItem
  refine wpAny_holding ?_
  refine wpAny_bind (wpAny_sequenceKey hl.typeIs (by decide) ?_)
  refine wpAny_bind (wpAny_callSpecial?_slot (name := Str.ofString "__setitem__") hl.typeIs slot_ba_setitem
    (wpAny_call_entry slot_ba_setitem hl.typeIs entry_ba_setitem ?_ (args_ba_setitem _ _ _)))
  show wpAny _ _ (Builtin.Bytes.subscript? (.int k t) >>= _) _ _ s
  refine wpAny_bind (ba_subscript (ba_fits h0 hfit) ?_)
  have hbv : Builtin.Bytes.byteValue (.int v u) = pure v.toNat.toUInt8 := by
    unfold Builtin.Bytes.byteValue
    show (if (decide (v < 0) || decide (v ≥ 256)) = true then _ else _) = _
    rw [if_neg (by simp only [Bool.or_eq_true, decide_eq_true_eq]; omega)]
  refine wpAny_bind (wpAny_of_eq hbv ?_)
  refine wpAny_bind (payload_ba hl ?_)
  rw [ba_seqIndex h0 hk]
  show wpAny _ _ (updateBytearray a (·.setIfInBounds k.toNat v.toNat.toUInt8) >>= _) _ _ s
  refine wpAny_bind ?_
  unfold updateBytearray
  refine wpAny_bind (wpAny_load hl ?_)
  show wpAny _ _ (update a (Obj.mapBytearray (·.setIfInBounds k.toNat v.toNat.toUInt8)) >>= fun _ => lookBehind a) _ _ _
  refine wpAny_bind (wpAny_update hl ?_)
  refine wpAny_lookBehind (o := baObj (b.setIfInBounds k.toNat v.toNat.toUInt8)) (Heap.get?_update_self (Obj.mapBytearray (·.setIfInBounds k.toNat v.toNat.toUInt8)) hl rfl) ?_ ?_
  · show (if (b.setIfInBounds k.toNat v.toNat.toUInt8).size > sizeLine then some "bytearray:memory" else none) = none
    rw [if_neg (by simp only [Array.size_setIfInBounds]; omega)]
  · exact wpAny_pure ⟨_, rfl, wpAny_pure h⟩
end
end Mine

set_option autoImplicit false
set_option maxRecDepth 100000
namespace Mine
open PySem PySem.Calls PySem.Spec PySem.W PyProof.Rows
open PySem.Sem (wp)

theorem slot_bi_next : Slot "bytearray_iterator" "__next__" "bytearray_iterator.__next__" :=
  .of (owner := "bytearray_iterator") (n := "__next__") (by rw [typeLookup_type, builtinLookup_eq_fast]; kernel_rfl) (by decide +kernel) (by decide +kernel) (by decide +kernel)
    (by first | exact .inl (by decide +kernel) | exact .inr (by decide +kernel)) (by rw [isSubtype_type]; kernel_rfl)
theorem slot_bi_self : Slot "bytearray_iterator" "__iter__" "bytearray_iterator.__iter__" :=
  .of (owner := "bytearray_iterator") (n := "__iter__") (by rw [typeLookup_type, builtinLookup_eq_fast]; kernel_rfl) (by decide +kernel) (by decide +kernel) (by decide +kernel)
    (by first | exact .inl (by decide +kernel) | exact .inr (by decide +kernel)) (by rw [isSubtype_type]; kernel_rfl)
theorem entry_bi_next : entryFor table "bytearray_iterator.__next__" = some Builtin.«bytearray_iterator.__next__» := entryFor_of_tree (by kernel_rfl)
theorem entry_bi_self : entryFor table "bytearray_iterator.__iter__" = some Builtin.«dict_keyiterator.__iter__» := entryFor_alias (id' := "dict_keyiterator.__iter__") (by kernel_rfl) (by first | rfl | decide +kernel) (by decide +kernel) (by kernel_rfl)
theorem args_bi_next (a : Value) : argsOk "bytearray_iterator.__next__" ⟨[a], []⟩ := by unfold argsOk; kernel_rfl
theorem args_bi_self (a : Value) : argsOk "bytearray_iterator.__iter__" ⟨[a], []⟩ := by unfold argsOk; kernel_rfl
theorem args_ba_iter (a : Value) : argsOk "bytearray.__iter__" ⟨[a], []⟩ := by unfold argsOk; kernel_rfl

def IsBAIter (h : Heap) (I a : Addr) (i : Nat) : Prop := ∃ o, h.get? I = some o ∧ o.cls = .type "bytearray_iterator" ∧ o.data = .fields #[.ref a, .int i 0]
theorem IsBAIter.typeIs {s : Shared} {I a : Addr} {i : Nat} (y : IsBAIter s.heap I a i) : s.TypeIs (.ref I) "bytearray_iterator" :=
  let ⟨o, ho, hc, _⟩ := y; ⟨o, ho, hc⟩

section
variable {prog : Program} {w : World} {A : Around} {E : Value → Shared → Prop} {s : Shared} {b : Array UInt8} {a : Addr}
theorem pyIter_ba {Q : Value → Shared → Prop} (hl : IsBA s.heap a b) (hQ : Q (.ref s.heap.objs.size) { s with heap := s.heap.push { cls := .type "bytearray_iterator", data := .fields #[.ref a, .int 0 0] } }) : wpAny (model prog w) A (pyIter (.ref a)) Q E s := by
  refine wpAny_pyIter_slot hl.typeIs slot_ba_iter (wpAny_call_entry slot_ba_iter hl.typeIs entry_ba_iter ?_ (args_ba_iter _))
  show wpAny _ _ (do ret (← newFields "bytearray_iterator" [.ref a, rawInt 0])) _ _ s
  exact wpAny_bind (wpAny_newObj_type (wpAny_pure ⟨_, rfl, "bytearray_iterator", _, ⟨_, Heap.get?_push_size _ rfl, rfl⟩, slot_bi_next.lookup, hQ⟩))
theorem pyIter_bi {I : Addr} {i : Nat} {Q : Value → Shared → Prop} (hit : IsBAIter s.heap I a i) (h : Q (.ref I) s) : wpAny (model prog w) A (pyIter (.ref I)) Q E s := by
  refine wpAny_pyIter_slot hit.typeIs slot_bi_self (wpAny_call_entry slot_bi_self hit.typeIs entry_bi_self ?_ (args_bi_self _))
  show wpAny _ _ (ret (.ref I)) _ _ s
  exact wpAny_pure ⟨_, rfl, "bytearray_iterator", _, hit.typeIs, slot_bi_next.lookup, h⟩

theorem bi_item {it : Addr} {i : Nat} {c : UInt8} {Q : Option Value → Shared → Prop} (hit : IsBAIter s.heap it a i) (hl : IsBA s.heap a b) (hx : b[i]? = some c)
    (hQ : ∀ h', IsBAIter h' it a (i + 1) → Heap.SameBut it s.heap h' → Q (some (.int (c.toNat : Int) s.toks)) { s with heap := h', toks := s.toks + 1 }) : wpAny (model prog w) A (pyNext (.ref it)) Q E s := by
  obtain ⟨o, ho, hc, hd⟩ := id hit
  unfold pyNext
  refine wpAny_bind (wpAny_attempt (wpAny_callSpecial?_slot (name := PySem.Str.ofString "__next__") hit.typeIs slot_bi_next
    (wpAny_call_entry slot_bi_next hit.typeIs entry_bi_next ?_ (args_bi_next _))))
  show wpAny _ _ (field (.ref it) 0 >>= _) _ _ s
  refine wpAny_bind (wpAny_field ho hd (x := .ref a) rfl ?_)
  show wpAny _ _ (load a >>= _) _ _ s
  refine wpAny_bind (wpAny_load hl ?_)
  show wpAny _ _ (field (.ref it) 1 >>= _) _ _ s
  refine wpAny_bind (wpAny_field ho hd (x := .int i 0) rfl ?_)
  simp only [Int.toNat_natCast, hx]
  refine wpAny_bind (wpAny_setField ho hd (by simp) (wpAny_bind (wpAny_mkInt (wpAny_pure ⟨_, rfl, wpAny_pure (hQ _ ?_ (Heap.SameBut.update ..))⟩))))
  exact ⟨_, Heap.get?_update_self _ ho (Obj.isFreed_of_fields (Obj.data_mapFields hd _)), (Obj.cls_mapFields ..).trans hc, by
    rw [Obj.data_mapFields hd]; simp [rawInt]⟩

theorem bi_end {it : Addr} {i : Nat} {Q : Option Value → Shared → Prop} (hh : A.handled = none) (hit : IsBAIter s.heap it a i) (hl : IsBA s.heap a b) (hx : b[i]? = none)
    (hQ : ∀ h', Heap.ExtBut it s.heap h' → Q none { s with heap := h' }) : wpAny (model prog w) A (pyNext (.ref it)) Q E s := by
  obtain ⟨o, ho, hc, hd⟩ := id hit
  unfold pyNext
  refine wpAny_bind (wpAny_attempt (wpAny_callSpecial?_slot (name := PySem.Str.ofString "__next__") hit.typeIs slot_bi_next
    (wpAny_call_entry slot_bi_next hit.typeIs entry_bi_next ?_ (args_bi_next _))))
  show wpAny _ _ (field (.ref it) 0 >>= _) _ _ s
  refine wpAny_bind (wpAny_field ho hd (x := .ref a) rfl ?_)
  show wpAny _ _ (load a >>= _) _ _ s
  refine wpAny_bind (wpAny_load hl ?_)
  show wpAny _ _ (field (.ref it) 1 >>= _) _ _ s
  refine wpAny_bind (wpAny_field ho hd (x := .int i 0) rfl ?_)
  simp only [Int.toNat_natCast, hx]
  refine wpAny_bind (wpAny_rule (wpAny_bind (wpAny_setField ho hd (by simp) ?_)))
  refine wpAny_bind (wpAny_letGo ?_)
  show wpAny _ _ (newExc (.type "StopIteration") [] >>= _) _ _ _
  refine wpAny_bind ?_
  simp only [newExc, newTuple]
  refine wpAny_bind (wpAny_newObj_type ?_ (by size_fits))
  refine wpAny_bind (m := firstArgMember _ _) (wpAny_of_eq (a := Value.none) (by first | rfl | (simp only [firstArgMember]; rfl)) ?_)
  refine wpAny_newObj_type ?_ (by size_fits)
  simp only [raiseNew]
  refine wpAny_bind (wpAny_handled ?_)
  rw [show A.in1.handled = none from hh]
  refine wpAny_bind (wpAny_pure (wpAny_throw ?_))
  refine wpAny_bind (wpAny_isInstance (T := "StopIteration") (b := true) ⟨_, Heap.get?_push_size _ rfl, rfl⟩ isSubtype_stop ?_)
  exact wpAny_pure (hQ _ (((Heap.SameBut.update ..).extBut.push _).push _))
end

theorem walks_bi {prog : Program} {w : World} {A : Around} (hh : A.handled = none) (I a : Addr) (hne : a ≠ I) (b : Array UInt8) :
    Walks prog w A I [I, a] [I] b.size (fun i v => ∃ c u, b[i]? = some c ∧ v = .int (c.toNat : Int) u) (fun i h => IsBAIter h I a i ∧ IsBA h a b) where
  sub := fun b hb => by simp at hb; simp [hb]
  frame := fun _ _ _ st hk => ⟨let ⟨o, ho, r⟩ := st.1; ⟨o, hk I (by simp) o ho, r⟩, hk a (by simp) _ st.2⟩
  item := fun i s Q E hi st hQ => by
    refine bi_item st.1 st.2 (c := b[i]) (by simp [hi]) fun h' hit' hs' => ?_
    exact hQ _ h' (s.toks + 1) ⟨_, _, by simp [hi], rfl⟩ ⟨hit', (hs'.2 a hne).trans st.2⟩ fun b o hb e => hs'.extBut b o (fun h => hb (by simp [h])) e
  done := fun s Q E st hQ => bi_end hh st.1 st.2 (by simp) fun h' he' => hQ h' s.toks fun b o hb e => he' b o (fun h => hb (by simp [h])) e
  self := fun _ _ _ _ st hQ => pyIter_bi st.1 hQ

theorem ba_len_lookup : typeLookup (.type "bytearray") "__len__" = pure (some (.builtin "bytearray.__len__")) := slot_ba_len.lookup
theorem sub_ba : isSubtype (.type "bytearray") (.type "bytearray") = pure true := by rw [isSubtype_type]; kernel_rfl

section
variable {prog : Program} {w : World} {A : Around} {E : Value → Shared → Prop} {s : Shared} {b : Array UInt8} {a : Addr}
theorem ext_ba {R : Result → Shared → Prop} (hh : A.handled = none) (hl : IsBA s.heap a b) (S : Addr) (res : Value) (c₀ : Nat) (hS : s.heap.get? S = some { cls := .type "list", data := .seq #[] c₀ })
    (hR : ∀ h' tk acc' c', (∀ b o, b ≠ S → s.heap.get? b = some o → h'.get? b = some o) → h'.get? S = some { cls := .type "list", dict := none, data := .seq acc' c', slots := #[] } →
      ItemsOf (fun i v => ∃ c u, b[i]? = some c ∧ v = .int (c.toNat : Int) u) acc' b.size → R (.ok (.ret res)) { s with heap := h', toks := tk }) (hn : b.size ≤ sizeLine := by size_fits) :
    wpAny (model prog w) A.in1 (Builtin.List.listExtendWith (.ref S) (.ref a) res)
      (fun fin s' => match fin with | .done f => R (.ok f) s' | .again c' => c'.quiet = true ∧ codeAny (model prog w) A c' R s') (fun e s' => R (.error e) s') s := by
  have hSI : S ≠ s.heap.objs.size := Nat.ne_of_lt (Heap.lt_size hS)
  have haI : a ≠ s.heap.objs.size := Nat.ne_of_lt (Heap.lt_size hl)
  have hSa : S ≠ a := fun e => by subst e; rw [show s.heap.get? S = _ from hl] at hS; exact absurd (congrArg Obj.cls (Option.some.inj hS)) (show Value.type "bytearray" ≠ Value.type "list" by decide)
  have hSf : S ∉ [s.heap.objs.size, a] := fun hm => by
    rcases List.mem_cons.mp hm with e | hm
    · exact hSI e
    · exact hSa (List.mem_singleton.mp hm)
  unfold Builtin.List.listExtendWith
  refine wpAny_bind (wpAny_typeOf hl.typeIs ?_)
  have h1 : Builtin.List.listSameRef (.ref S) (.ref a) = false := by
    show (S == a) = false
    exact beq_eq_false_iff_ne.mpr hSa
  have h2 : (Value.type "bytearray" == Value.type "list") = false := by decide
  have h3 : (Value.type "bytearray" == Value.type "tuple") = false := by decide
  simp only [h1, h2, h3, Bool.or_false, Bool.false_eq_true, if_false]
  refine wpAny_bind (pyIter_ba hl ?_)
  have hl' : IsBA (s.heap.push { cls := .type "bytearray_iterator", data := .fields #[.ref a, .int 0 0] }) a b := Heap.get?_push_of_some _ hl
  have hT' : ({ s with heap := s.heap.push { cls := .type "bytearray_iterator", data := .fields #[.ref a, .int 0 0] } } : Shared).TypeIs (.ref a) "bytearray" := IsBA.typeIs (s := { s with heap := s.heap.push { cls := .type "bytearray_iterator", data := .fields #[.ref a, .int 0 0] } }) hl'
  refine wpAny_bind (wpAny_holding ?_)
  unfold Builtin.List.listLengthHint
  refine wpAny_bind (wpAny_specialOf hT' ba_len_lookup ?_)
  wp_delta
  refine wpAny_bind (wpAny_isInstance hT' (b := true) sub_ba ?_)
  show wpAny _ _ (typeOf (Value.ref a) >>= _) _ _ _
  refine wpAny_bind (wpAny_typeOf hT' ?_)
  refine wpAny_pure ?_
  rw [if_neg (by decide)]
  refine wpAny_pure ⟨plainId_quiet F.plain_extend_loop _, codeAny_extend_loopS (walks_bi (A := A.in1) hh s.heap.objs.size a haI b).toS hn _ hSf _ b.size 0 _ _ _ rfl (Nat.zero_le _) ⟨⟨_, Heap.get?_push_size _ rfl, rfl, rfl⟩, hl'⟩ (Heap.get?_push_of_some _ hS) (ItemsOf.nil _) fun s' acc' c' hm hS' hacc => ?_⟩
  rw [Moved.eq_with hm]
  refine hR s'.heap s'.toks acc' c' (fun b ob hb e => hm.heap b ob (fun hmem => ?_) (Heap.get?_push_of_some _ e)) hS' hacc
  rcases List.mem_cons.mp hmem with e' | hmem
  · exact hb e'
  · exact absurd (Heap.lt_size e) (by rw [List.mem_singleton.mp hmem]; exact Nat.lt_irrefl _)

/-- what list() makes of bytes -/
theorem call_list_ba {Q : Value → Shared → Prop} (hh : A.handled = none) (hl : IsBA s.heap a b)
    (hQ : ∀ h' tk acc' c', (∀ b o, s.heap.get? b = some o → h'.get? b = some o) →
      h'.get? s.heap.objs.size = some { cls := .type "list", dict := none, data := .seq acc' c', slots := #[] } → ItemsOf (fun i v => ∃ c u, b[i]? = some c ∧ v = .int (c.toNat : Int) u) acc' b.size → Q (.ref s.heap.objs.size) { s with heap := h', toks := tk }) (hn : b.size ≤ sizeLine := by size_fits) :
    wpAny (model prog w) A (call (.type "list") [.ref a]) Q E s := by
  refine callType_codes (Q₁ := fun obj s₁ => obj = .ref s.heap.objs.size ∧ s₁ = { s with heap := s.heap.push { cls := .type "list", data := .seq #[] } }) F.called_list (F.typeCall_list_1 _) F.entry_list_init
    (code_list_new _ ⟨rfl, rfl⟩) fun obj s₁ h₁ => ?_
  obtain ⟨rfl, rfl⟩ := h₁
  have hS : (s.heap.push { cls := .type "list", data := .seq #[] }).get? s.heap.objs.size = some { cls := .type "list", data := .seq #[] } := Heap.get?_push_size _ rfl
  refine ⟨⟨_, hS, rfl⟩, F.args_list_init_2 _ _, ?_⟩
  show wpAny _ _ (do let old ← Builtin.List.listItems (.ref s.heap.objs.size); Builtin.List.listUpdate (.ref s.heap.objs.size) (fun _ => #[]); letGo old.toList.reverse; Builtin.List.listExtendWith (.ref s.heap.objs.size) (.ref a) .none) _ _ _
  refine wpAny_bind ?_
  unfold Builtin.List.listItems
  refine wpAny_bind (wpAny_seqItems hS rfl (wpAny_pure ?_))
  show wpAny _ _ (updateSeq s.heap.objs.size (fun _ => #[]) >>= fun _ => letGo (#[] : Array Value).toList.reverse >>= fun _ => Builtin.List.listExtendWith (.ref s.heap.objs.size) (.ref a) .none) _ _ _
  refine wpAny_bind (wpAny_updateSeq hS rfl ?_)
  have hS₂ := Heap.get?_update_self (Obj.mapSeq (fun _ => (#[] : Array Value))) hS rfl
  have oth : ∀ b o, s.heap.get? b = some o → ((s.heap.push { cls := .type "list", data := .seq #[] }).update s.heap.objs.size (Obj.mapSeq (fun _ => (#[] : Array Value)))).get? b = some o :=
    fun b o e => (Heap.get?_update_other _ _ (Nat.ne_of_gt (Heap.lt_size e))).trans (Heap.get?_push_of_some _ e)
  refine wpAny_bind (wpAny_letGo ?_)
  refine ext_ba (s := { s with heap := (s.heap.push { cls := .type "list", data := .seq #[] }).update s.heap.objs.size (Obj.mapSeq (fun _ => (#[] : Array Value))) }) (A := A.in1) (hn := hn) hh (oth _ _ hl) s.heap.objs.size .none _ hS₂ fun h' tk acc' c' hk hS' hacc => ?_
  exact ⟨rfl, hQ h' tk acc' c' (fun b o e => hk b o (Nat.ne_of_lt (Heap.lt_size e)) (oth b o e)) hS' hacc⟩
end
end Mine

set_option autoImplicit false
set_option maxRecDepth 100000
namespace Mine
open PySem PySem.Calls PySem.Spec PySem.W PyProof.Rows
open PySem.Sem (wp)

theorem mro_ba : mroOf (.type "bytearray") = pure [.type "bytearray", .type "object"] := by rw [mroOf_type]; kernel_rfl
theorem lookup_ba_new : typeLookup (.type "bytearray") "__new__" = pure (some (.builtin "bytearray.__new__")) := by rw [typeLookup_type, builtinLookup_eq_fast]; kernel_rfl
theorem plain_ba_new : plainId "bytearray.__new__" = true := by decide +kernel
theorem called_ba : TypeCalled "bytearray" "bytearray.__new__" "bytearray.__init__" :=
  ⟨by decide +kernel, by decide +kernel, ⟨_, _, mro_ba⟩, madeBy_type mro_ba lookup_ba_new (by decide +kernel), by decide +kernel, by rw [isSubtype_type]; kernel_rfl, slot_ba_init⟩
theorem typeCall_ba (a : Value) : checkTypeCall "bytearray" ⟨[a], []⟩ = pure () := by kernel_rfl
theorem newCall_ba (a : Value) : checkBuiltinCall "bytearray.__new__" ⟨[.type "bytearray", a], []⟩ = pure () := by kernel_rfl
set_option maxRecDepth 1000000 in
set_option maxHeartbeats 4000000 in
theorem owner_ba_new : ("bytearray.__new__".splitOn ".__new__").headD "" = "bytearray" := by simp +decide [String.splitOn, String.splitOnAux]

section
variable {prog : Program} {w : World} {A : Around} {E : Value → Shared → Prop} {s : Shared}
theorem code_ba_new (a : Value) {Q₁ : Value → Shared → Prop}
    (h : Q₁ (.ref s.heap.objs.size) { s with heap := s.heap.push (baObj #[]) }) :
    codeAny (model prog w) A (.call (.builtin "bytearray.__new__") ⟨[.type "bytearray", a], []⟩) (wants Q₁ E) s := by
  refine codeAny_of_tree ?_
  show wpAny _ A.in1 (do checkBuiltinCall "bytearray.__new__" ⟨[.type "bytearray", a], []⟩; again (.builtin "bytearray.__new__" ⟨[.type "bytearray", a], []⟩)) _ _ s
  refine wpAny_bind (wpAny_of_eq (newCall_ba a) (wpAny_pure ⟨plainId_quiet plain_ba_new _, codeAny_builtin_stack entry_ba_new rfl fun p st => ?_⟩))
  rw [Around.under_plainId plain_ba_new _]
  have hsub := sub_ba
  have hown := owner_ba_new
  obtain ⟨hp, g, d, tk, os⟩ := s
  simp only [hown]
  wp_walk
  exact h

/-- the tree of a type's call, the looks ahead of it done -/
theorem tree_ba (a : Value) : Builtin.«type.__call__» ⟨[.type "bytearray", a], []⟩ = (do
    let obj ← holding [.builtin "bytearray.__new__"] (call (.builtin "bytearray.__new__") [.type "bytearray", a])
    if !(← isInstance obj (.type "bytearray")) then rule "type.call.new-gave-other-type"; return ← ret obj
    match ← holding [obj] (callSpecial? obj "__init__" [a]) with
    | none => ret obj
    | some r =>
      if r != .none then
        rule "type.call.init-returned-value"
        raiseError "TypeError" s!"__init__() should return None, not '{← typeNameOf r}'"
      ret obj) := by
  unfold Builtin.«type.__call__»
  have h1 := called_ba.notType
  have h2 := called_ba.canCreate
  have h3 := typeCall_ba a
  have h4 := mro_ba
  have h5 := called_ba.made
  simp only [h1, h3, h4, h5, Bool.false_eq_true, if_false, pure_bind, List.isEmpty_cons]
  erw [if_neg (by rw [h2]; decide)]
  rfl
end
theorem exported_false {M : Model} {A : Around} {E : Value → Shared → Prop} {s : Shared} {self : Value} {Q : Bool → Shared → Prop} (h : Q false s) : wpC M A (Builtin.Bytes.exported self) Q E s := by
  refine ⟨fun Γ p _ hc => ?_⟩
  unfold Builtin.Bytes.exported
  rw [Sem.wp_bind']
  simp only [stack, Sem.wp_stack, Sem.wp_pure, Sem.wp_pure']
  have e : ∀ (f : Code × Pos → Bool), (∀ x ∈ (Γ.code, p) :: Γ.below, f x = false) → List.any ((Γ.code, p) :: Γ.below) f = false := fun f hf => by
    rw [List.any_eq_false]
    intro x hx
    rw [hf x hx]; decide
  rw [e]
  · exact h
  · rintro ⟨c, q⟩ hx
    have hcl := hc _ hx
    dsimp only at hcl ⊢
    split
    iterate 6 (rotate_left)
    · rfl
    all_goals (rename_i heq; obtain ⟨rfl, rfl⟩ := Prod.mk.inj heq)
    · exact absurd (hcl.symm.trans (by kernel_rfl : _ = false)) (by decide)
    · exact absurd (hcl.symm.trans (by kernel_rfl : _ = false)) (by decide)
    · exact absurd (hcl.symm.trans (by kernel_rfl : _ = false)) (by decide)
    · exact absurd (hcl.symm.trans (by kernel_rfl : _ = false)) (by decide)
    · exact absurd (hcl.symm.trans (by kernel_rfl : _ = false)) (by decide)
    · unfold cleanCode at hcl
      simp only [Bool.not_eq_true', Bool.or_eq_false_iff] at hcl
      rw [hcl.1.1.1.1.1, Bool.and_false]

theorem good_take {p : Value → Bool} (hp : ∀ i t, p (.int i t) = (decide (0 ≤ i) && decide (i < 256))) : ∀ {vs : List Value} {ns : List Int}, IntsAre vs ns → (∀ n ∈ ns, 0 ≤ n ∧ n < 256) →
    List.takeWhile p vs = vs
  | _, _, .nil, _ => rfl
  | _, _, .cons n t h, hr => by
    have a := good_take hp h fun x hx => hr x (.tail _ hx)
    have hn := hr n (.head _)
    rw [List.takeWhile_cons, a, if_pos (by rw [hp]; simp [hn.1, hn.2])]
theorem good_map {f : Value → Option UInt8} (hf : ∀ i t, f (.int i t) = some i.toNat.toUInt8) : ∀ {vs : List Value} {ns : List Int}, IntsAre vs ns →
    List.filterMap f vs = ns.map fun n => n.toNat.toUInt8
  | _, _, .nil => rfl
  | _, _, .cons n t h => by rw [List.filterMap_cons, good_map hf h, hf]; rfl

theorem ba_rb : typeLookup (.type "bytearray") "__release_buffer__" = pure (some (.builtin "bytearray.__release_buffer__")) := by rw [typeLookup_type, builtinLookup_eq_fast]; kernel_rfl
theorem rb_ends : "bytearray.__release_buffer__".endsWith ("." ++ "__release_buffer__") = true := by decide +kernel
theorem rb_drop : "bytearray.__release_buffer__".dropRight ("__release_buffer__".length + 1) = "bytearray" := by decide +kernel
theorem bind_ba (v : Value) : Builtin.Bytes.bindOptional "bytearray.__init__" "bytearray" ["source", "encoding", "errors"] [v] [] = pure [some v, none, none] := by kernel_rfl
theorem plain_ba_init : plainId "bytearray.__init__" = true := by decide +kernel

section
variable {prog : Program} {w : World} {A : Around} {E : Value → Shared → Prop} {s : Shared}
theorem ownRelease_ba {M : Model} {a : Addr} {b : Array UInt8} {Q : Bool → Shared → Prop} (hl : IsBA s.heap a b) (h : Q false s) : wpAny M A (Builtin.Bytes.ownRelease (.ref a)) Q E s := by
  unfold Builtin.Bytes.ownRelease Builtin.Bytes.slotIsOwn
  refine wpAny_bind (wpAny_bind (wpAny_specialOf hl.typeIs ba_rb ?_))
  dsimp only
  rw [rb_ends]
  simp only [Bool.not_true, Bool.false_eq_true, if_false]
  rw [rb_drop]
  exact wpAny_isInstance hl.typeIs (b := true) sub_ba (wpAny_pure h)
theorem write_ba {M : Model} {a : Addr} {b : Array UInt8} {f : Array UInt8 → Array UInt8} {Q : Unit → Shared → Prop} (hl : IsBA s.heap a b) (hz : (f b).size ≤ sizeLine) (h : Q () { s with heap := s.heap.update a (Obj.mapBytearray f) }) :
    wpAny M A (Builtin.Bytes.write (.ref a) f) Q E s := by
  show wpAny _ _ (updateBytearray a f) _ _ s
  unfold updateBytearray
  refine wpAny_bind (wpAny_load hl ?_)
  show wpAny _ _ (update a (Obj.mapBytearray f) >>= fun _ => lookBehind a) _ _ _
  refine wpAny_bind (wpAny_update hl ?_)
  refine wpAny_lookBehind (o := baObj (f b)) (Heap.get?_update_self (Obj.mapBytearray f) hl rfl) ?_ h
  show (if (f b).size > sizeLine then some "bytearray:memory" else none) = none
  rw [if_neg (by omega)]

theorem init_ba {l S : Addr} {vs : List Value} {ns : List Int} {Q : Fin → Shared → Prop} (hS : IsBA s.heap S #[]) (hl : s.heap.IsList l vs.toArray) (hi : IntsAre vs ns) (hr : ∀ n ∈ ns, 0 ≤ n ∧ n < 256) (hz : ns.length ≤ sizeLine)
    (h : ∀ h', (∀ b o, b ≠ S → s.heap.get? b = some o → h'.get? b = some o) → IsBA h' S (byteArr ns) → Q (.done (.ret .none)) { s with heap := h' }) :
    wpC (model prog w) A (Builtin.«bytearray.__init__» ⟨[.ref S, .ref l], []⟩) Q E s := by
  have hT : s.TypeIs (.ref l) "list" := hl.typeIs
  obtain ⟨ol, hol, hoc, nl, hod⟩ := id hl
  have hlS : l ≠ S := fun e => by
    subst e
    rw [show s.heap.get? l = _ from hS] at hol
    cases hol
    exact absurd hoc (show Value.type "bytearray" ≠ Value.type "list" by decide)
  unfold Builtin.«bytearray.__init__»
  dsimp only
  refine wpC_bindA (ownRelease_ba hS ?_)
  simp only [Bool.false_eq_true, if_false]
  refine wpC_bindA (wpAny_of_eq (bind_ba _) ?_)
  refine wpC_bindA (wpAny_of_eq (a := ()) rfl ?_)
  refine wpC_bindA (wpAny_of_eq (a := ()) rfl ?_)
  refine wpC_bind (wpC_bind (exported_false ?_))
  show wpC _ _ (Builtin.Bytes.exportsOf (.ref S) >>= fun n => pure (decide (n > 0))) _ _ s
  refine wpC_bindA ?_
  unfold Builtin.Bytes.exportsOf
  refine wpAny_bind (wpAny_load hS (wpAny_pure (wpC_pure ?_)))
  refine wpC_any ?_
  show wpAny _ _ (if decide ((0 : Nat) > 0) = true then _ else _) _ _ s
  rw [if_neg (by decide)]
  have hS' : s.heap.get? S = some (baObj #[]) := hS
  refine wpAny_bind (write_ba (b := #[]) hS (by simp) ?_)
  have hS₁ : IsBA (s.heap.update S (Obj.mapBytearray fun _ => #[])) S #[] := Heap.get?_update_self (Obj.mapBytearray fun _ => #[]) hS' rfl
  have oth₁ : ∀ b o, b ≠ S → s.heap.get? b = some o → (s.heap.update S (Obj.mapBytearray fun _ => #[])).get? b = some o := fun b o hb e => (Heap.get?_update_other _ _ (Ne.symm hb)).trans e
  have hol₁ := oth₁ _ _ hlS hol
  generalize (s.heap.update S (Obj.mapBytearray fun _ => #[])) = h₁ at hS₁ oth₁ hol₁ ⊢
  have hT₁ : ({ s with heap := h₁ } : Shared).TypeIs (.ref l) "list" := ⟨ol, hol₁, hoc⟩
  refine wpAny_bind (wpAny_bind (wpAny_load hol₁ ?_))
  rw [hod]
  refine wpAny_pure ?_
  rw [if_neg (by decide)]
  show wpAny _ _ (specialOf (.ref l) "__index__" >>= _) _ _ _
  refine wpAny_bind (wpAny_specialOf hT₁ F.bm_no_index ?_)
  rw [if_neg (by decide)]
  refine wpAny_bind ?_
  unfold Builtin.Bytes.buffer?
  refine wpAny_bind (wpAny_specialOf hT₁ F.bm_no_buffer ?_)
  refine wpAny_bind (wpAny_specialOf hT₁ F.bm_no_buffer ?_)
  refine wpAny_pure ?_
  refine wpAny_bind (wpAny_typeOf hT₁ ?_)
  rw [if_pos (by decide)]
  refine wpAny_bind (wpAny_bind (wpAny_load hol₁ ?_))
  rw [hod]
  refine wpAny_pure ?_
  dsimp only
  rw [good_take (fun _ _ => rfl) hi hr, good_map (fun _ _ => rfl) hi, show vs.toArray[vs.length]? = none by simp]
  dsimp only
  refine wpAny_bind (wpAny_rule ?_)
  refine wpAny_bind (write_ba hS₁ (by simpa using hz) ?_)
  refine wpAny_pure (h _ (fun b o hb e => (Heap.get?_update_other _ _ (Ne.symm hb)).trans (oth₁ b o hb e)) ?_)
  exact Heap.get?_update_self (Obj.mapBytearray fun _ => (ns.map fun n => n.toNat.toUInt8).toArray) hS₁ rfl
theorem wpC_isInstance {M : Model} {v : Value} {T U : String} {b : Bool} {Q : Bool → Shared → Prop} (hT : s.TypeIs v T) (h : isSubtype (.type T) (.type U) = pure b) (hQ : Q b s) : wpC M A (isInstance v (.type U)) Q E s := wpC_any (wpAny_isInstance hT h hQ)

/-- bytearray(a list of octets) -/
theorem call_ba {l : Addr} {vs : List Value} {ns : List Int} {Q : Value → Shared → Prop} (hl : s.heap.IsList l vs.toArray) (hi : IntsAre vs ns) (hr : ∀ n ∈ ns, 0 ≤ n ∧ n < 256) (hz : ns.length ≤ sizeLine)
    (hQ : ∀ h', (∀ b o, s.heap.get? b = some o → h'.get? b = some o) → IsBA h' s.heap.objs.size (byteArr ns) → Q (.ref s.heap.objs.size) { s with heap := h' }) :
    wpC (model prog w) A (call (.type "bytearray") [.ref l]) Q E s := by
  refine wpC_call (codeC_of_tree rfl ?_)
  show wpC _ A.in1 (callAny (.type "bytearray") ⟨[.ref l], []⟩) _ _ s
  refine wpC_pure ⟨Code.quiet_builtin _ (by decide +kernel), codeC_builtin (by kernel_rfl) F.entry_type_call ?_⟩
  rw [Around.under_plain (weight_type_call_type "bytearray" [.ref l] []) (units_type_call_type "bytearray" [.ref l] [])]
  rw [tree_ba]
  refine wpC_bindA (wpAny_holding (wpAny_call ?_))
  refine codeAny_mono (code_ba_new (Q₁ := fun obj s₁ => obj = .ref s.heap.objs.size ∧ s₁ = { s with heap := s.heap.push (baObj #[]) }) (E := fun _ _ => False) _ ⟨rfl, rfl⟩) fun r s₁ hr₁ => ?_
  cases r with
  | error e => exact hr₁.elim
  | ok fl =>
    cases fl with
    | ret obj =>
      obtain ⟨rfl, rfl⟩ := hr₁
      have hS : IsBA (s.heap.push (baObj #[])) s.heap.objs.size #[] := Heap.get?_push_size _ rfl
      have hT : ({ s with heap := s.heap.push (baObj #[]) } : Shared).TypeIs (.ref s.heap.objs.size) "bytearray" := ⟨_, hS, rfl⟩
      dsimp only
      refine wpC_bind (wpC_isInstance hT sub_ba ?_)
      rw [if_neg (by decide)]
      refine wpC_bind (wpC_holding ?_)
      simp only [callSpecial?]
      refine wpC_bindA (wpAny_specialOf hT slot_ba_init.lookup ?_)
      simp only [slot_ba_init.bind]
      refine wpC_holding (wpC_bind (wpC_pure (wpC_bind (wpC_call (codeC_of_tree rfl ?_)))))
      show wpC _ A.in1.in1 (do checkBuiltinCall "bytearray.__init__" ⟨[.ref s.heap.objs.size, .ref l], []⟩; again (.builtin "bytearray.__init__" ⟨[.ref s.heap.objs.size, .ref l], []⟩)) _ _ _
      refine wpC_bindA (slot_ba_init.check _ _ _ _ _ _ _ _ hT (args_ba_init _ _) ?_)
      refine wpC_pure ⟨plainId_quiet plain_ba_init _, codeC_builtin (by kernel_rfl) entry_ba_init ?_⟩
      refine init_ba (s := { s with heap := s.heap.push (baObj #[]) }) hS (hl.push _) hi hr hz fun h' hk hb => ?_
      refine wpC_pure ?_
      dsimp only
      rw [if_neg (by decide)]
      refine wpC_pure (hQ h' (fun b o e => hk b o (Nat.ne_of_lt (Heap.lt_size e)) (Heap.get?_push_of_some _ e)) hb)
    | _ => exact hr₁.elim
end
end Mine

set_option autoImplicit false
set_option maxRecDepth 100000
namespace Mine
open PySem PySem.Calls PySem.Spec PySem.W PyProof.Rows

def addAt (xs bs : Array UInt8) (r : Array UInt8) (j : Nat) : Array UInt8 := r.setIfInBounds j (xs.getD j 0 + bs.getD j 0)
theorem addAt_size (xs bs r : Array UInt8) (j : Nat) : (addAt xs bs r j).size = r.size := by simp [addAt]
theorem fold_size {f : Array UInt8 → Nat → Array UInt8} (hf : ∀ r j, (f r j).size = r.size) (l : List Nat) : ∀ r, (l.foldl f r).size = r.size := by
  induction l with
  | nil => intro r; rfl
  | cons j l ih => intro r; rw [List.foldl_cons, ih, hf]
def upN (xs bs rs : Array UInt8) (n : Nat) : Array UInt8 := (List.range n).foldl (addAt xs bs) rs

theorem ba_newsLen {prog : Program} {w : World} {A : Around} {E : Value → Shared → Prop} {s : Shared} {h₀ : Heap} {L a : Addr} {news : List (Addr × Obj)} {b : Array UInt8} {Q : Value → Shared → Prop}
    (N : News h₀ L s.heap news) (hm : (a, baObj b) ∈ news) (hz : b.size ≤ 100) (h : Q (.int b.size (s.toks + 1)) { s with toks := s.toks + 1 + 1 }) : wpAny (model prog w) A (call (.builtin "len") [.ref a]) Q E s :=
  ba_len (N.get hm) (by omega) h
theorem ba_newsItem {prog : Program} {w : World} {A : Around} {E : Value → Shared → Prop} {s : Shared} {value slice : PySem.Expr} {h₀ : Heap} {L a : Addr} {news : List (Addr × Obj)} {b : Array UInt8} {k : Int} {t : Tok} {Q : Value → Shared → Prop}
    (N : News h₀ L s.heap news) (hm : (a, baObj b) ∈ news) (h0 : 0 ≤ k) (hlt : k < b.size) (hz : b.size ≤ 100) (h : Q (.int (b.getD k.toNat 0).toNat s.toks) { s with toks := s.toks + 1 })
    (hs : subscripted slice false (.ref a) (.int k t) = operate [.ref a, .int k t] (getItem (.ref a) (.int k t)) := by with_unfolding_all rfl) :
    wpAny (model prog w) A (subscriptTail value slice (.ref a) (.int k t)) Q E s :=
  ba_tail (N.get hm) h0 (by omega) (x := b.getD k.toNat 0) (by simp [Array.getD, show k.toNat < b.size by omega]) h hs
theorem ba_newsSet {prog : Program} {w : World} {A : Around} {E : Value → Shared → Prop} {s : Shared} {h₀ : Heap} {L a : Addr} {m : Str → Option Value} {pre post : List (Addr × Obj)} {b : Array UInt8} {k v : Int} {t u : Tok} {Q : Unit → Shared → Prop}
    (F : Fr h₀ L s.heap m) (N : News h₀ L s.heap (pre ++ (a, baObj b) :: post)) (h1 : ∀ p ∈ pre, p.1 ≠ a) (h2 : ∀ p ∈ post, p.1 ≠ a) (h0 : 0 ≤ k) (hlt : k < b.size) (hz : b.size ≤ 100) (hv : 0 ≤ v ∧ v < 256)
    (h : ∀ h', Fr h₀ L h' m → News h₀ L h' (pre ++ (a, baObj (b.setIfInBounds k.toNat v.toNat.toUInt8)) :: post) → Q () { s with heap := h' }) : wpAny (model prog w) A (setItem (.ref a) (.int k t) (.int v u)) Q E s := by
  have hl : IsBA s.heap a b := N.get (List.mem_append_right _ (.head _))
  refine ba_set hl h0 (by omega) hlt hv (by rw [sizeLine_eq]; omega) ?_
  obtain ⟨F', N'⟩ := news_upd (f := Obj.mapBytearray (·.setIfInBounds k.toNat v.toNat.toUInt8)) F N h1 h2 rfl rfl
  exact h _ F' N'

theorem and255 (x y : UInt8) : Builtin.bitAnd ((x.toNat : Int) + (y.toNat : Int)) 255 = ((x + y).toNat : Int) := by
  rw [bitAnd_m8, UInt8.toNat_add]
  omega
theorem ba_newsAdd {prog : Program} {w : World} {A : Around} {E : Value → Shared → Prop} {s : Shared} {h₀ : Heap} {L a : Addr} {m : Str → Option Value} {pre post : List (Addr × Obj)} {b : Array UInt8} {k : Int} {x y : UInt8} {t u : Tok} {Q : Unit → Shared → Prop}
    (F : Fr h₀ L s.heap m) (N : News h₀ L s.heap (pre ++ (a, baObj b) :: post)) (h1 : ∀ p ∈ pre, p.1 ≠ a) (h2 : ∀ p ∈ post, p.1 ≠ a) (h0 : 0 ≤ k) (hlt : k < b.size) (hz : b.size ≤ 100)
    (h : ∀ h', Fr h₀ L h' m → News h₀ L h' (pre ++ (a, baObj (b.setIfInBounds k.toNat (x + y))) :: post) → Q () { s with heap := h' }) : wpAny (model prog w) A (setItem (.ref a) (.int k t) (.int (Builtin.bitAnd ((x.toNat : Int) + (y.toNat : Int)) 255) u)) Q E s := by
  rw [and255]
  have hlt' := (x + y).toNat_lt
  refine ba_newsSet F N h1 h2 h0 hlt hz (by omega) ?_
  rw [show (((x + y).toNat : Int)).toNat.toUInt8 = x + y from by rw [Int.toNat_natCast]; exact UInt8.ofNat_toNat]
  exact h
theorem mem_own {α : Type} {x y : α} {pre post own : List α} (h : x ∈ own) : x ∈ pre ++ y :: (post ++ own) :=
  List.mem_append_right _ (.tail _ (List.mem_append_right _ h))
theorem up_succ (xs bs rs : Array UInt8) (n : Nat) : upN xs bs rs (n + 1) = (upN xs bs rs n).setIfInBounds n (xs.getD n 0 + bs.getD n 0) := by
  unfold upN; rw [List.range_succ, List.foldl_append]; rfl
theorem mem_ext {α : Type} {x y : α} {pre post own : List α} (h : x ∈ pre ++ y :: post) : x ∈ pre ++ y :: (post ++ own) := by
  rw [← List.cons_append, ← List.append_assoc]
  exact List.mem_append_left _ h
/-- where the walk is to wait for a word by hand -/
def Halt (p : Prop) : Prop := p
theorem Halt.go {p : Prop} (h : Halt p) : p := h
local macro_rules | `(tactic| walk_at "call builtin:len") => `(tactic| (k_here; (with_reducible show wpAny _ _ (call (Value.builtin _) [Value.ref _]) _ _ _); (refine' ba_newsLen ?k1 ?k2 ?k3 ?_; (case k1 => k_asm); (case k2 => (first | assumption | exact List.mem_append_right _ (List.Mem.head _) | solve_by_elim)); (case k3 => assumption); k_whole)))
local macro_rules | `(tactic| walk_at "subscriptTail") => `(tactic| (k_here; (with_reducible show wpAny _ _ (subscriptTail _ _ (Value.ref _) (Value.int _ _)) _ _ _); (with_unfolding_all refine' ba_newsItem ?k1 ?k2 ?k3 ?k4 ?k5 ?_ ?k6; (case k1 => k_asm); (case k2 => (first | assumption | exact List.mem_append_right _ (List.Mem.head _) | solve_by_elim)); (case k3 => omega); (case k4 => omega); (case k5 => omega); (case k6 => with_unfolding_all rfl); k_whole)))
local macro_rules | `(tactic| walk_at "setItem ref int") => `(tactic| (k_here; (with_reducible show wpAny _ _ (setItem (Value.ref _) (Value.int _ _) (Value.int _ _)) _ _ _); (refine' ba_newsAdd ?k1 ?k2 ?k3 ?k4 ?k5 ?k6 ?k7 ?_; (case k1 => k_asm); (case k2 => k_asm); (case k3 => assumption); (case k4 => assumption); (case k5 => omega); (case k6 => omega); (case k7 => omega); k_whole); intro h' F' N'))
local macro_rules | `(tactic| walk_at "pyIter ref") => `(tactic| (k_here; (with_reducible show wpAny _ _ (pyIter (Value.ref _)) (fun it s₂ => LoopAtV _ _ _ _ _ _ _ _ _ it s₂) _ _); refine Halt.go ?_))

set_option maxHeartbeats 4000000 in
theorem up_call {w : World} {loose : List Str} {mean : ExcName → Option Value} {mg mb : Str → Option Value} {dp un : Nat} {gd : Option (List Code)} {cn : Str} {cs : Scope} {a : Addr} {ccd : Value} {cl : List (Str × Addr)} {outer : List Env} {A₀ : Around} {base h₀ : Heap} {L : Addr} {m : Str → Option Value} {s : Shared}
    {pre post : List (Addr × Obj)} {r sc pv : Addr} {rs xs bs : Array UInt8} {u : Int} {tu : Tok} {Q E : Value → Shared → Prop}
    (B : Below A₀ base outer h₀) (F : Fr h₀ L s.heap m) (X : (Hz.hd.heap_39 w.params).In h₀) (N : News h₀ L s.heap (pre ++ (r, baObj rs) :: post)) (T : Top Hz.hd.view_39 loose mean mg mb h₀) (hk : cs.kind = .function)
    (hd : dp + 3 < recursionLimit) (hu : un + 30 < cLine)
    (h1 : ∀ p ∈ pre, p.1 ≠ r) (h2 : ∀ p ∈ post, p.1 ≠ r) (hx : (sc, baObj xs) ∈ pre ++ (r, baObj rs) :: post) (hb : (pv, baObj bs) ∈ pre ++ (r, baObj rs) :: post) (hsr : sc ≠ r) (hpr : pv ≠ r)
    (hz : rs.size ≤ 100) (hxs : xs.size = rs.size) (hbs : bs.size = rs.size)
    (ret : ∀ h' tk, Fr h₀ L h' m → News h₀ L h' (pre ++ (r, baObj (upN xs bs rs rs.size)) :: post) → Q .none { s with heap := h', toks := tk }) :
    wpAny (model PySem.Challenge.rw_bf5020_01.row.prog w) (ktrTop dp un gd cn cs L a ccd cl outer) (call (.ref 28) [.int u tu, .ref sc, .ref pv, .ref r]) Q E s := by
  revert X; k_fill; intro X
  refine wpAny_call ?_
  have hx' : ∀ o, (sc, baObj xs) ∈ pre ++ (r, o) :: post := fun o => by
    rcases List.mem_append.mp hx with h | h
    · exact List.mem_append_left _ h
    · rcases List.mem_cons.mp h with h | h
      · exact absurd (Prod.mk.inj h).1 hsr
      · exact List.mem_append_right _ (.tail _ h)
  have hb' : ∀ o, (pv, baObj bs) ∈ pre ++ (r, o) :: post := fun o => by
    rcases List.mem_append.mp hb with h | h
    · exact List.mem_append_left _ h
    · rcases List.mem_cons.mp h with h | h
      · exact absurd (Prod.mk.inj h).1 hpr
      · exact List.mem_append_right _ (.tail _ h)
  k_dflt ktr_enter
  k_steps
  unfold Halt
  ((rename Fr _ _ _ _ => lF'); (rename News _ _ _ _ => lN'); (rename IsRange _ _ _ _ _ _ _ _ => rgX))
  (with_unfolding_all refine' kst_range (σ := Nat) (fun c => pre ++ (r, baObj (upN xs bs rs c)) :: post) (fun _ => []) (fun c => c ≤ rs.size) [Str.ofString "x", Str.ofString "b"] (fun pr c => pr.length = c) 0 (by rfl) rgX (by exact small_one (by omega) (by omega) (by omega) (by omega)) (by exact rangeSize_nat _ _) lF' lN' ?kf ?kk ?kp ?turn ?done)
  case kf => exact Nat.zero_le _
  case kk => exact fun _ h => nomatch h
  case kp => rfl
  case turn =>
    intro c pr k t uu h tk own e1 e2 off hc e3 FF NN
    rw [List.append_assoc, List.cons_append] at NN
    have hsc : (upN xs bs rs c).size = rs.size := fold_size (addAt_size xs bs) _ _
    have h2' : ∀ p ∈ post ++ own, p.1 ≠ r := fun p hp => by
      rcases List.mem_append.mp hp with h | h
      · exact h2 p h
      · exact off p h r (by simp)
    have hx2 : ∀ o, (sc, baObj xs) ∈ pre ++ (r, o) :: (post ++ own) := fun o => mem_ext (hx' o)
    have hb2 : ∀ o, (pv, baObj bs) ∈ pre ++ (r, o) :: (post ++ own) := fun o => mem_ext (hb' o)
    k_steps
    rename Fr _ _ _ _ => F9
    rename News _ _ _ _ => N9
    have hkc : k.toNat = c := by omega
    rw [hkc, ← up_succ] at N9
    refine kst_end (c + 1) F9 N9 (fun p hp => mem_ext hp) (fun p hp => mem_own hp) (by simp) (by show c + 1 ≤ rs.size; omega) (fun _ h => nomatch h) (fun z hz1 _ hz2 => ?_) (by show (pr ++ [k]).length = c + 1; simp [e3])
    have hz2 : ([Str.ofString "x", Str.ofString "b"] : List Str).contains z = false := hz2
    have hb1 : z ≠ Str.ofString "b" := fun e => by subst e; exact absurd hz2 (by decide)
    have hx1 : z ≠ Str.ofString "x" := fun e => by subst e; exact absurd hz2 (by decide)
    simp only [if_neg hb1, if_neg hx1, if_neg hz1, kstB, hz2, Bool.false_eq_true, if_false]
  case done =>
    intro c uu h tk hc e3 FF NN
    have ec : c = rs.size := by rw [← e3, rangeKs_length]; omega
    subst ec
    k_steps
    exact ret _ _ (by assumption) (by assumption)

def backAt (xs : Array UInt8) (u : Nat) (r : Array UInt8) (j : Nat) : Array UInt8 := r.setIfInBounds (u + j) (xs.getD (u + j) 0 + r.getD j 0)
theorem backAt_size (xs : Array UInt8) (u : Nat) (r : Array UInt8) (j : Nat) : (backAt xs u r j).size = r.size := by simp [backAt]
def subN (xs : Array UInt8) (u : Nat) (rs : Array UInt8) (n : Nat) : Array UInt8 := (List.range n).foldl (backAt xs u) rs
theorem sub_succ (xs : Array UInt8) (u : Nat) (rs : Array UInt8) (n : Nat) : subN xs u rs (n + 1) = (subN xs u rs n).setIfInBounds (u + n) (xs.getD (u + n) 0 + (subN xs u rs n).getD n 0) := by
  unfold subN; rw [List.range_succ, List.foldl_append]; rfl

set_option maxHeartbeats 4000000 in
theorem sub_call {w : World} {loose : List Str} {mean : ExcName → Option Value} {mg mb : Str → Option Value} {dp un : Nat} {gd : Option (List Code)} {cn : Str} {cs : Scope} {a : Addr} {ccd : Value} {cl : List (Str × Addr)} {outer : List Env} {A₀ : Around} {base h₀ : Heap} {L : Addr} {m : Str → Option Value} {s : Shared}
    {pre post : List (Addr × Obj)} {r sc : Addr} {pv : Value} {rs xs : Array UInt8} {u : Int} {tu : Tok} {Q E : Value → Shared → Prop}
    (B : Below A₀ base outer h₀) (F : Fr h₀ L s.heap m) (X : (Hz.hd.heap_39 w.params).In h₀) (N : News h₀ L s.heap (pre ++ (r, baObj rs) :: post)) (T : Top Hz.hd.view_39 loose mean mg mb h₀) (hk : cs.kind = .function)
    (hd : dp + 3 < recursionLimit) (hu : un + 30 < cLine)
    (h1 : ∀ p ∈ pre, p.1 ≠ r) (h2 : ∀ p ∈ post, p.1 ≠ r) (hx : (sc, baObj xs) ∈ pre ++ (r, baObj rs) :: post) (hsr : sc ≠ r)
    (hz : rs.size ≤ 100) (hxs : xs.size = rs.size) (hu0 : 0 ≤ u) (hu1 : u ≤ 100)
    (ret : ∀ h' tk, Fr h₀ L h' m → News h₀ L h' (pre ++ (r, baObj (subN xs u.toNat rs (rs.size - u.toNat))) :: post) → Q .none { s with heap := h', toks := tk }) :
    wpAny (model PySem.Challenge.rw_bf5020_01.row.prog w) (ktrTop dp un gd cn cs L a ccd cl outer) (call (.ref 21) [.int u tu, .ref sc, pv, .ref r]) Q E s := by
  revert X; k_fill; intro X
  refine wpAny_call ?_
  have hx' : ∀ o, (sc, baObj xs) ∈ pre ++ (r, o) :: post := fun o => by
    rcases List.mem_append.mp hx with h | h
    · exact List.mem_append_left _ h
    · rcases List.mem_cons.mp h with h | h
      · exact absurd (Prod.mk.inj h).1 hsr
      · exact List.mem_append_right _ (.tail _ h)
  k_dflt ktr_enter
  k_steps
  unfold Halt
  ((rename Fr _ _ _ _ => lF'); (rename News _ _ _ _ => lN'); (rename IsRange _ _ _ _ _ _ _ _ => rgX))
  (with_unfolding_all refine' kst_range (σ := Nat × Tok) (fun c => pre ++ (r, baObj (subN xs u.toNat rs c.1)) :: post) (fun c => [(Str.ofString "ai", Value.int (c.1 : Int) c.2)]) (fun c => c.1 ≤ rs.size - u.toNat) [Str.ofString "x", Str.ofString "a"] (fun pr c => pr.length = c.1) (0, tk) (by rfl) rgX (by exact small_one (by omega) (by omega) (by omega) (by omega)) (by exact rangeSize_nat _ _) lF' lN' ?kf ?kk ?kp ?turn ?done)
  case kf => exact Nat.zero_le _
  case kk => exact fun p hp => by rw [List.mem_singleton.mp hp]; rfl
  case kp => rfl
  case turn =>
    rintro ⟨c, ct⟩ pr k t uu h tk own e1 e2 off hc e3 FF NN
    dsimp only at hc e3 FF NN
    rw [List.append_assoc, List.cons_append] at NN
    have hsc : (subN xs u.toNat rs c).size = rs.size := fold_size (backAt_size xs u.toNat) _ _
    have h2' : ∀ p ∈ post ++ own, p.1 ≠ r := fun p hp => by
      rcases List.mem_append.mp hp with h | h
      · exact h2 p h
      · exact off p h r (by simp)
    have hx2 : ∀ o, (sc, baObj xs) ∈ pre ++ (r, o) :: (post ++ own) := fun o => mem_ext (hx' o)
    k_steps
    rename Fr _ _ _ _ => F9
    rename News _ _ _ _ => N9
    have hkc : k.toNat = u.toNat + c := by omega
    rw [hkc, Int.toNat_natCast, ← sub_succ] at N9
    refine' kst_end (c + 1, _) F9 N9 ?zza ?zzb ?zzc ?zzd ?zze ?zzf ?zzg
    case zze =>
      refine List.forall_mem_singleton.mpr ?_
      with_unfolding_all rfl
    case zza => exact fun p hp => mem_ext hp
    case zzb => exact fun p hp => mem_own hp
    case zzc => simp
    case zzd => show c + 1 ≤ rs.size - u.toNat; omega
    case zzg => show (pr ++ [k]).length = c + 1; simp [e3]
    case zzf =>
      intro z hz1 hz3 hz2
      have hz2 : ([Str.ofString "x", Str.ofString "a"] : List Str).contains z = false := hz2
      have hb1 : z ≠ Str.ofString "a" := fun e => by subst e; exact absurd hz2 (by decide)
      have hx1 : z ≠ Str.ofString "x" := fun e => by subst e; exact absurd hz2 (by decide)
      have ha1 : z ≠ Str.ofString "ai" := hz3 _ (List.mem_singleton.mpr rfl)
      simp only [if_neg hb1, if_neg hx1, if_neg hz1, if_neg ha1, kstB, hz2, Bool.false_eq_true, if_false]
  case done =>
    rintro ⟨c, ct⟩ uu h tk hc e3 FF NN
    dsimp only at hc e3 FF NN
    have ec : c = rs.size - u.toNat := by rw [← e3, rangeKs_length]; omega
    subst ec
    k_steps
    exact ret _ _ (by assumption) (by assumption)
end Mine

set_option autoImplicit false
set_option maxRecDepth 100000
namespace Mine
open PySem PySem.Calls PySem.Spec PySem.W PyProof.Rows
open PySem.Sem (wp)

section
variable {α β : Type} {M : Model} {A : Around} {E : Value → Shared → Prop} {s : Shared} {env : Env}
theorem wpC_execs_cons {st : Stmt} {rest : List Stmt} {Q : Flow → Shared → Prop}
    (h : wpC M A (exec st env) (fun f s' => match f with | .next => wpC M A (execs rest env) Q E s' | f => Q f s') E s) :
    wpC M A (execs (st :: rest) env) Q E s := by
  rw [execs_cons]
  refine wpC_bind (wpC_mono h (fun f s' h' => ?_) fun _ _ x => x)
  cases f <;> first | exact h' | exact wpC_pure h'
theorem wpC_execs_nil {Q : Flow → Shared → Prop} (h : Q .next s) : wpC M A (execs [] env) Q E s := wpC_any (wpAny_execs_nil h)
theorem wpC_Assign_Name {x : Str} {pos' : Pos} {value : PySem.Expr} {pos : Pos} {Q : Flow → Shared → Prop}
    (h : wpC M A (eval value env) (fun v s₁ => wpAny M A (storeName env x v) (fun _ => Q .next) E s₁) E s)
    (hs : swapsWith value (some (.Name x pos')) pos.line env = pure false := by rfl) :
    wpC M A (exec (.Assign [.Name x pos'] value pos) env) Q E s := by
  rw [exec_Assign_Name env x pos' value pos hs]
  refine wpC_bind (wpC_standAt (wpC_bind (wpC_mono h (fun v s₁ h₁ => wpC_bind (wpC_standAt (wpC_any ?_))) fun _ _ x => x)))
  exact wpAny_bind (wpAny_bindName (wpAny_mono h₁ (fun _ _ q => wpAny_pure q) fun _ _ x => x))
theorem wpC_Assign_Tuple {elts : List PySem.Expr} {k : Nat} {tpos : Pos} {value : PySem.Expr} {pos : Pos} {Q : Flow → Shared → Prop}
    (h : wpC M A (eval value env) (fun v s₁ => wpAny M A (assign (.Tuple elts k tpos) env v) (fun _ => Q .next) E s₁) E s)
    (hs : swapsWithSole [.Tuple elts k tpos] value pos.line env = pure false := by rfl)
    (hw : swappedStores [.Tuple elts k tpos] value env = pure none := by rfl) :
    wpC M A (exec (.Assign [.Tuple elts k tpos] value pos) env) Q E s := by
  rw [exec_Assign]
  refine wpC_bind (wpC_standAt ?_)
  rw [hs]
  refine wpC_bind (wpC_pure ?_)
  rw [if_neg (by decide)]
  refine wpC_bind (wpC_mono h (fun v s₁ h₁ => wpC_any ?_) fun _ _ x => x)
  rw [hw]
  refine wpAny_bind (wpAny_pure ?_)
  show wpAny M A (do assignAll v [assign (.Tuple elts k tpos) env]; pure .next) Q E s₁
  exact wpAny_bind (wpAny_mono h₁ (fun _ _ x => wpAny_pure x) fun _ _ x => x)
theorem wpC_Assign_TupleS {elts : List PySem.Expr} {k : Nat} {tpos : Pos} {value : PySem.Expr} {pos : Pos} {names : List Str} {Q : Flow → Shared → Prop}
    (h : wpC M A (eval value env) (fun v s₁ => wpAny M A (unpackItems v names.length none) (fun items s₂ =>
      wpAny M A (assignInOrder (names.reverse.map fun n => bindName env n) items.reverse) (fun _ => Q .next) E s₂) E s₁) E s)
    (hs : swapsWithSole [.Tuple elts k tpos] value pos.line env = pure false := by rfl)
    (hw : swappedStores [.Tuple elts k tpos] value env = pure (some names) := by rfl) :
    wpC M A (exec (.Assign [.Tuple elts k tpos] value pos) env) Q E s := by
  rw [exec_Assign]
  refine wpC_bind (wpC_standAt ?_)
  rw [hs]
  refine wpC_bind (wpC_pure ?_)
  rw [if_neg (by decide)]
  refine wpC_bind (wpC_mono h (fun v s₁ h₁ => wpC_any ?_) fun _ _ x => x)
  rw [hw]
  refine wpAny_bind (wpAny_pure ?_)
  show wpAny M A (do rule "assign.swapped-stores"; let items ← unpackItems v names.length none; assignInOrder (names.reverse.map fun n => bindName env n) items.reverse; pure .next) Q E s₁
  exact wpAny_bind (wpAny_rule (wpAny_bind (wpAny_mono h₁ (fun items s₂ h₂ => wpAny_bind (wpAny_mono h₂ (fun _ _ x => wpAny_pure x) fun _ _ x => x)) fun _ _ x => x)))
theorem wpC_If {test : PySem.Expr} {body orelse : List Stmt} {pos : Pos} {Q : Flow → Shared → Prop}
    (h : wpAny M A (isTrue test env (eval test env))
      (fun b s₂ => if b then wpC M A (execs body env) Q E s₂ else wpC M A (execs orelse env) Q E s₂) E s) :
    wpC M A (exec (.If test body orelse pos) env) Q E s := by
  rw [exec_If]
  refine wpC_bind (wpC_standAt (wpC_bindA (wpAny_mono h (fun b s₂ h₂ => ?_) fun _ _ x => x)))
  cases b <;> exact h₂
theorem wpC_Expr {e : PySem.Expr} {pos : Pos} {Q : Flow → Shared → Prop} (h : wpC M A (eval e env) (fun v s' => match v with | .ref _ => False | _ => Q .next s') E s)
    (hi : interactive env = false := by rfl) (hs : swapsWith e none pos.line env = pure false := by rfl) :
    wpC M A (exec (.Expr e pos) env) Q E s := by
  rw [exec_Expr env e pos hi hs]
  refine wpC_bind (wpC_standAt (wpC_bind (wpC_mono h (fun v s' h' => ?_) fun _ _ x => x)))
  have hv : ∀ a, v ≠ .ref a := fun a hva => by subst hva; exact h'
  rw [dropValue_plain hv]
  refine wpC_pure ?_
  cases v <;> first | exact h' | exact (hv _ rfl).elim
theorem wpC_Tuple {elts : List PySem.Expr} {k : Nat} {pos : Pos} {Q : Value → Shared → Prop}
    (h : wpC M A (spliced (backTo pos (starEach elts env))) (fun vs s₁ => wpAny M A (newTuple vs) Q E s₁) E s) : wpC M A (eval (.Tuple elts k pos) env) Q E s := by
  show wpC M A (do standAt pos; newTuple (← spliced (backTo pos (starEach elts env)))) Q E s
  exact wpC_bind (wpC_standAt (wpC_bind (wpC_mono h (fun _ _ x => wpC_any x) fun _ _ x => x)))
theorem wpC_spliced_cons {x : Sem Value} {rest : List (Bool × Sem Value)} {Q : List Value → Shared → Prop}
    (h : wpC M A x (fun v s₁ => wpC M A (spliced rest) (fun vs s₂ => Q (v :: vs) s₂) E s₁) E s) : wpC M A (spliced ((false, x) :: rest)) Q E s := by
  rw [spliced]
  refine wpC_bind (wpC_mono h (fun v s₁ h₁ => ?_) fun _ _ x => x)
  simp only [Bool.false_eq_true, if_false]
  exact wpC_bind (wpC_pure (wpC_bind (wpC_holding (wpC_mono h₁ (fun vs s₂ h₂ => wpC_pure h₂) fun _ _ x => x))))
theorem wpC_spliced_nil {Q : List Value → Shared → Prop} (h : Q [] s) : wpC M A (spliced []) Q E s := wpC_pure h
theorem wpC_spl {pos : Pos} {e : PySem.Expr} {rest : List PySem.Expr} {Q : List Value → Shared → Prop}
    (h : wpC M A (eval e env) (fun v s₁ => wpC M A (spliced (backTo pos (starEach rest env))) (fun vs s₂ => Q (v :: vs) s₂) E s₁) E s)
    (he : starEach (e :: rest) env = (false, eval e env) :: starEach rest env := by rfl) : wpC M A (spliced (backTo pos (starEach (e :: rest) env))) Q E s := by
  rw [he]; exact wpC_spliced_cons h
theorem wpC_spl0 {pos : Pos} {Q : List Value → Shared → Prop} (h : Q [] s) : wpC M A (spliced (backTo pos (starEach [] env))) Q E s := wpC_pure h
theorem wpC_evalArgs {f : Value} {x : Sem Value} {rest : List (Bool × Sem Value)} {Q : Args → Shared → Prop}
    (h : wpC M A (spliced ((false, x) :: rest)) (fun vs s' => Q ⟨vs, []⟩ s') E s) : wpC M A (evalArgs f true ((false, x) :: rest) []) Q E s := by
  unfold evalArgs
  show wpC M A (spliced ((false, x) :: rest) >>= _) Q E s
  refine wpC_bind (wpC_mono h (fun vs s' h' => ?_) fun _ _ x => x)
  refine wpC_holding ?_
  exact wpC_bind (wpC_pure (wpC_bind (wpC_pure (wpC_pure h'))))
/-- f(e, ..) : the arguments, then the call -/
theorem wpC_args {pos : Pos} {f : Value} {e : PySem.Expr} {rest : List PySem.Expr} {Q : Args → Shared → Prop}
    (h : wpC M A (spliced (backTo pos (starEach (e :: rest) env))) (fun vs s' => Q ⟨vs, []⟩ s') E s)
    (he : starEach (e :: rest) env = (false, eval e env) :: starEach rest env := by rfl) : wpC M A (evalArgs f true (backTo pos (starEach (e :: rest) env)) []) Q E s := by
  rw [he] at h ⊢
  exact wpC_evalArgs h
theorem wpC_callWith_type {pos : Pos} {T : String} {first : List Value} {args : List (Bool × Sem Value)} {Q : Value → Shared → Prop}
    (hplain : args.any (·.1) = false)
    (h : wpC M A (evalArgs (.type T) true args []) (fun a s₁ => wpC M A (call (.type T) (first ++ a.pos) a.kw) Q E s₁) E s) :
    wpC M A (callWith pos (.type T) first args []) Q E s := by
  unfold callWith
  refine wpC_bind (wpC_holding (wpC_mono h (fun a s₁ h₁ => wpC_bind (wpC_standAt ?_)) fun _ _ x => x))
  simp only [hplain, List.any_nil, Bool.or_false]
  refine wpC_bind (wpC_pure ?_)
  exact wpC_bind (wpC_mono h₁ (fun r s₂ hr => wpC_bindA (wpAny_holding (wpAny_point (wpC_pure hr)))) fun _ _ x => x)
theorem wpC_callWith_fn {pos : Pos} {a : Addr} {first : List Value} {args : List (Bool × Sem Value)} {Q : Value → Shared → Prop} (hplain : args.any (·.1) = false)
    (h : wpC M A (evalArgs (.ref a) true args []) (fun x s₁ => (∃ o fd, s₁.heap.get? a = some o ∧ o.data = .func fd) ∧ wpC M A (call (.ref a) (first ++ x.pos) x.kw) Q E s₁) E s) :
    wpC M A (callWith pos (.ref a) first args []) Q E s := by
  unfold callWith
  refine wpC_bind (wpC_holding (wpC_mono h (fun x s₁ h₁ => wpC_bind (wpC_standAt ?_)) fun _ _ x => x))
  obtain ⟨⟨o, fd, hgo, hfd⟩, h₁⟩ := h₁
  have tail : ∀ {t : Sem Value}, wpC M A t Q E s₁ → wpC M A (t >>= fun r => holding [r] point >>= fun _ => pure r) Q E s₁ :=
    fun ht => wpC_bind (wpC_mono ht (fun r s₂ hr => wpC_bindA (wpAny_holding (wpAny_point (wpC_pure hr)))) fun _ _ x => x)
  simp only [hplain, List.any_nil, Bool.or_false]
  refine wpC_bind (m := keeperOf (.ref a)) ?_
  unfold keeperOf
  refine wpC_bindA (wpAny_load hgo ?_)
  rw [hfd]
  refine wpC_pure ?_
  have marked : wpC M A (callMarked plainCall (.ref a) (first ++ x.pos) x.kw) Q E s₁ := by unfold callMarked; exact wpC_keep h₁
  dsimp only
  split
  · exact tail h₁
  · exact tail marked
theorem wpC_Call_Name {id : Str} {p pos : Pos} {args : List PySem.Expr} {Q : Value → Shared → Prop}
    (h : wpAny M A (eval (.Name id p) env) (fun f s₁ => wpC M A (callWith pos f [] (backTo pos (starEach args env)) []) Q E s₁) E s) :
    wpC M A (eval (.Call (.Name id p) args [] pos) env) Q E s := by
  rw [arm_eval_Call_Name']
  exact wpC_bindA h
theorem wpC_runOwn {c : Code} {Q : Flow → Shared → Prop}
    (hc : codeC M A c (fun r s' => match r with | .ok f => Q f s' | .error _ => False) s) :
    wpC M A (runOwn c env none) Q E s := by
  unfold runOwn
  refine wpC_onRaise (wpC_run ?_)
  exact codeC_mono hc fun r s' h => by cases r with | ok f => exact h | error e => exact h.elim
theorem wpC_For {target iter : PySem.Expr} {body orelse : List Stmt} {pos : Pos} {Q : Flow → Shared → Prop}
    (h : wpAny M A (eval iter env) (fun x s₁ => wpAny M A (pyIter x) (fun it s₂ =>
      codeC M A (.forLoop target it body orelse env) (fun r s' => match r with | .ok f => Q f s' | .error _ => False) s₂) E s₁) E s)
    (hs : ∀ x, foldedSetIterable iter env x = pure x := by intro _; rfl) :
    wpC M A (exec (.For target iter body orelse pos) env) Q E s := by
  rw [exec_For]
  exact wpC_bind (wpC_standAt (wpC_bindA (wpAny_mono h (fun x s₁ h₁ => wpC_bindA (wpAny_of_eq (hs x) (wpC_bind (wpC_standAt (wpC_bindA (wpAny_holding
    (wpAny_mono h₁ (fun it s₂ h₂ => wpC_runOwn h₂) fun _ _ h' => h'))))))) fun _ _ h' => h')))
end

section
variable {prog : Program} {w : World} {A : Around} {s : Shared} {env : Env}
/-- a loop whose turns neither raise nor leave: one turn at its head -/
theorem codeC_for_item {R : Result → Shared → Prop} {target : PySem.Expr} {it : Value} {body : List Stmt}
    (h : wpAny (model prog w) A (pyNext it) (fun r s₁ => match r with
      | none => R (.ok .next) s₁
      | some v => wpAny (model prog w) A (letOwnedTupleGo target it v) (fun _ s₁' =>
          wpAny (model prog w) A (assign target env v) (fun _ s₂ => wpC (model prog w) A (execs body env) (fun f s₃ => f = .next ∧ codeC (model prog w) A (.forLoop target it body [] env) R s₃) (fun _ _ => False) s₂) (fun _ _ => False) s₁') (fun _ _ => False) s₁) (fun _ _ => False) s) :
    codeC (model prog w) A (.forLoop target it body [] env) R s := by
  refine codeC_of_tree rfl ?_
  show wpC _ A ((forTurn target it body [] env).onRaise (fun x => do noteFrame x env; theTreesLotGoes x)) _ _ s
  have main : wpC (model prog w) A (forTurn target it body [] env) (fun fin s' => match fin with | .done f => R (.ok f) s' | .again c' => c'.quiet = true ∧ codeC (model prog w) A c' R s') (fun _ _ => False) s := by
    simp only [forTurn]
    refine wpC_bind (wpC_standAt (wpC_bindA (wpAny_onRaise (wpAny_mono h (fun r s₁ h₁ => ?_) fun _ _ h' => h'.elim))))
    cases r with
    | none =>
      refine wpC_pure ⟨rfl, codeC_of_tree rfl ?_⟩
      show wpC _ A (do return PySem.Fin.done (← (execs [] env).onRaise (fun x => do noteFrame x env; theTreesLotGoes x))) _ _ s₁
      exact wpC_bind (wpC_onRaise (wpC_execs_nil (wpC_pure h₁)))
    | some v =>
      refine wpC_bindA (wpAny_mono h₁ (fun _ s₁' h₁' => wpC_bindA (wpAny_mono h₁' (fun _ s₂ h₂ => wpC_bind (wpC_mono h₂ (fun f s₃ h₃ => ?_) fun _ _ x => x)) fun _ _ x => x)) fun _ _ x => x)
      obtain ⟨rfl, h₃⟩ := h₃
      exact wpC_pure ⟨rfl, h₃⟩
  exact wpC_onRaise (wpC_mono main (fun _ _ x => x) fun _ _ x => x.elim)
end
end Mine

set_option autoImplicit false
set_option maxRecDepth 100000
namespace Mine
open PySem PySem.Calls PySem.Spec PySem.W PyProof.Rows
open PySem.Sem (wp)

section
variable {prog : Program} {w : World} {A : Around} {s : Shared}
theorem codeC_call_def {R : Result → Shared → Prop} {a : Addr} {o : Obj} {fd : FuncData} {body : List Stmt} {args : Args} {binds : List (Str × Value)}
    (hroom : A.depth < recursionLimit) (ho : s.heap.get? a = some o) (hdata : o.data = .func fd) (hlim : s.heap.NoLimit) (hcd : s.heap.CodeRec fd.code fd.qualname)
    (hbody : fd.body = .stmts body) (hbind : BindsTo s fd args binds)
    (hcell : ∀ x ∈ fd.scope.names, x.2 ≠ .cell) (hloc : ∀ x ∈ binds, fd.scope.names.lookup x.1 = some .local)
    (h : ∀ h₀, h₀.Ns s.heap.objs.size (fun x => binds.reverse.lookup x) → (∀ b o, s.heap.get? b = some o → h₀.get? b = some o) →
      wpC (model prog w) (A.deeper (callEnv fd s.heap.objs.size a)) (execs body (callEnv fd s.heap.objs.size a)) (fun f s' => R (.ok (.ret (match f with | .ret v => v | _ => .none))) s')
        (fun _ _ => False) { s with heap := h₀, toks := s.toks + binds.length })
    (hco : fd.scope.isCoroutine = false := by rfl) (hgen : fd.scope.isGenerator = false := by rfl) (hk : fd.scope.kind = .function := by rfl) :
    codeC (model prog w) A (.call (.ref a) args) R s := by
  refine codeC_call_function hroom ho hdata hco hgen hbody hcd (hbind _ _ _ _ ?_)
  refine wpAny_newFunctionEnv hcell hloc (fun h₀ hns₀ hsb₀ => ⟨hlim.fresh _ hsb₀, codeC_func (wpC_mono (h h₀ hns₀ fun b o e => ?_) (fun _ _ x => x) fun _ _ x => x.elim)⟩) hk
  exact hsb₀.extBut b o (Nat.ne_of_lt (Heap.lt_size e)) (Heap.get?_push_of_some _ e)

theorem codeC_forZip {env : Env} {h₀ : Heap} {R : Result → Shared → Prop} {xi xc : Str} {pk pv pt : Pos} {x1 : Nat} {body : List Stmt} {I : Addr} {fp wr : List Addr} {n : Nat} {Pt : Nat → Array Value → Prop} {St : Nat → Heap → Prop} {Mid : Nat → Addr → Heap → Prop}
    {P2 : Nat → Value → Value → Prop} (hh : A.handled = none) (W : WalksT prog w A I fp wr n Pt St Mid) (h2 : ∀ i vals, Pt i vals → ∃ v0 v1, vals = #[v0, v1] ∧ P2 i v0 v1)
    (hxi : env.kindOf xi = some .local) (hxc : env.kindOf xc = some .local)
    (hp : (env.scope.kind == .class || (env.scope.kind == .module && env.locals != env.globals)) = false)
    (hLf : env.locals ∉ fp) (hwr : ∀ b ∈ wr, h₀.get? b = none)
    (J : Nat → (Str → Option Value) → List (Addr × Obj) → Prop)
    (step : ∀ i v0 v1 m₁ led₁ h tk own, i < n → P2 i v0 v1 → J i m₁ led₁ → (∀ p ∈ own, p.1 ∈ fp) → (∀ p ∈ led₁, p.1 ∉ fp) →
      Fr h₀ env.locals h (fun y => if y = xc then some v1 else if y = xi then some v0 else m₁ y) → News h₀ env.locals h (led₁ ++ own) → (∀ b ∈ fp, b < h.objs.size) →
      wpC (model prog w) A (execs body env) (fun f s₃ => f = .next ∧ ∃ h' tk' m' led', s₃ = { s with heap := h', toks := tk' } ∧ Fr h₀ env.locals h' m' ∧ News h₀ env.locals h' (led' ++ own) ∧ (∀ p ∈ led', p.1 ∉ fp) ∧ J (i + 1) m' led')
        (fun _ _ => False) { s with heap := h, toks := tk })
    (hlive : ∀ i h, St i h → ∀ b ∈ fp, b < h.objs.size)
    (hR : ∀ h' tk m' led', Fr h₀ env.locals h' m' → News h₀ env.locals h' led' → J n m' led' → R (.ok .next) { s with heap := h', toks := tk }) :
    ∀ k i h tk m led, n - i = k → i ≤ n → St i h → Fr h₀ env.locals h m → News h₀ env.locals h led → (∀ p ∈ led, p.1 ∉ fp) → J i m led →
      codeC (model prog w) A (.forLoop (.Tuple [.Name xi pk, .Name xc pv] x1 pt) (.ref I) body [] env) R { s with heap := h, toks := tk } := by
  have hLw : env.locals ∉ wr := fun h => hLf (W.sub _ h)
  have old : ∀ b o, h₀.get? b = some o → b ∉ wr := fun b o e hb => by rw [hwr b hb] at e; cases e
  intro k
  induction k with
  | zero =>
    intro i h tk m led hk hi hst F N hl hJ
    obtain rfl : i = n := by omega
    refine codeC_for_item (W.done _ _ _ hst fun h₁ tk₁ hk₁ => ?_)
    exact hR h₁ tk₁ m led ⟨F.ns.at' fun o e => hk₁ _ o hLw e, fun b o e => hk₁ b o (old b o e) (F.keep b o e), F.above⟩
      (fun p hp => ⟨hk₁ _ _ (fun hw => hl p hp (W.sub _ hw)) (N p hp).1, (N p hp).2⟩) hJ
  | succ k ih =>
    intro i h tk m led hk hi hst F N hl hJ
    have hlt : i < n := by omega
    refine codeC_for_item (W.item i _ _ _ hlt hst fun T vals h₁ tk₁ hPt _ hT hMid hk₁ => ?_)
    obtain ⟨v0, v1, rfl, hP2⟩ := h2 i vals hPt
    refine W.go _ x1 pt i T _ _ _ hMid fun h₂ hst₂ hk₂ => ?_
    have ht₂ : h₂.IsTuple T #[v0, v1] := hT.at fun o e => hk₂ T o (W.apart i T h₁ hMid) e
    refine wpAny_assign_Tuple hh ht₂ rfl rfl fun h₃ hx₃ => ?_
    replace hx₃ : Heap.ExtBut h₂.objs.size h₂ h₃ := hx₃
    have up₃ : ∀ b o, h₂.get? b = some o → h₃.get? b = some o := fun b o x => hx₃ b o (Nat.ne_of_lt (Heap.lt_size x)) x
    have up : ∀ b o, b ∉ wr → h.get? b = some o → h₃.get? b = some o := fun b o hb x => up₃ b o (hk₂ b o hb (hk₁ b o hb x))
    have F₃ : Fr h₀ env.locals h₃ m := ⟨F.ns.at' fun o e => up _ o hLw e, fun b o e => up b o (old b o e) (F.keep b o e), F.above⟩
    have N₃ : News h₀ env.locals h₃ led := fun p hp => ⟨up _ _ (fun hw => hl p hp (W.sub _ hw)) (N p hp).1, (N p hp).2⟩
    show wpAny _ A (do holding [v1] (assign (.Name xi pk) env v0); do holding [] (assign (.Name xc pv) env v1); pure ()) _ _ _
    refine wpAny_bind (wpAny_holding (wpAny_assign_Name (wpAny_storeName_local hxi F₃.ns (fun h₄ hn₄ hs₄ => ?_) hp)))
    replace hs₄ : Heap.SameBut env.locals h₃ h₄ := hs₄
    have F₄ := F₃.set hn₄ hs₄
    refine wpAny_bind (wpAny_holding (wpAny_assign_Name (wpAny_storeName_local hxc F₄.ns (fun h₅ hn₅ hs₅ => wpAny_pure ?_) hp)))
    replace hs₅ : Heap.SameBut env.locals h₄ h₅ := hs₅
    have F₅ := F₄.set hn₅ hs₅
    have N₅ : News h₀ env.locals h₅ led := (N₃.set hs₄).set hs₅
    have hst₅ : St (i + 1) h₅ := W.frame _ _ _ hst₂ fun b hb o e => hs₅.extBut b o (fun q => hLf (q ▸ hb)) (hs₄.extBut b o (fun q => hLf (q ▸ hb)) (up₃ b o e))
    refine wpC_mono (step i v0 v1 m led h₅ _ (ownOf h₀ fp h₅) hlt hP2 hJ ownOf_sub hl F₅ (fun p hp => (List.mem_append.mp hp).elim (N₅ p) (news_ownOf hLf p)) (hlive _ _ hst₅)) (fun f s₃ h₆ => ?_) fun _ _ e => e
    obtain ⟨rfl, h', tk', m', led', rfl, F', N', hl', hJ'⟩ := h₆
    refine ⟨rfl, ih (i + 1) h' tk' m' led' (by omega) hlt (W.frame _ _ _ hst₅ fun b hb o e => ?_) F' (fun p hp => N' p (List.mem_append_left _ hp)) hl' hJ'⟩
    cases hn : h₀.get? b with
    | some o₀ =>
      have : o₀ = o := by have q := F₅.keep b o₀ hn; rw [e] at q; exact (Option.some.inj q).symm
      exact this ▸ F'.keep b o₀ hn
    | none => exact (N' _ (List.mem_append_right _ (mem_ownOf hb hn e))).1
end
end Mine

set_option autoImplicit false
set_option maxRecDepth 100000
namespace Mine
open PySem PySem.Calls PySem.Spec PySem.W PyProof.Rows

inductive RowsAt (h : Heap) : List Value → List (List Int) → Prop
  | nil : RowsAt h [] []
  | cons {a : Addr} {vs : List Value} {row : List Int} {vals : List Value} {rows : List (List Int)} : h.IsList a vs.toArray → IntsAre vs row → RowsAt h vals rows → RowsAt h (.ref a :: vals) (row :: rows)

theorem codeC_defK {prog : Program} {w : World} {A : Around} {s : Shared} {K : Frag} {L : Addr} {h₀ : Heap} {m mg mb : Str → Option Value} {p : Program} {loose : List Str} {mean : ExcName → Option Value}
    {R : Result → Shared → Prop} {name qual : Str} {params : Arguments} {body : List Stmt} {scope : Scope} {dV kV doc pm cdv ct oc : Value} {an od : Option Addr} {osl : Array (Option Value)} {f : Addr} {args : Args} {binds : List (Str × Value)}
    (F : Fr h₀ L s.heap m) (X₀ : K.In h₀) (T : Top p loose mean mg mb h₀)
    (ho : K.lookup f = some ⟨oc, od, .func (fnOf name qual params body scope dV kV doc pm an cdv ct), osl⟩) (hcd : codeIn K cdv qual = true) (hroom : A.depth < recursionLimit)
    (hbind : BindsTo s (fnOf name qual params body scope dV kV doc pm an cdv ct) args binds) (hloc : ∀ y ∈ binds, scope.names.lookup y.1 = some .local)
    (h : ∀ L' h₁, L' = s.heap.objs.size → Fr s.heap L' h₁ (fun y => binds.reverse.lookup y) → K.In s.heap → Top p loose mean mg mb s.heap →
      wpC (model prog w) (A.deeper (envOf qual scope L' f cdv)) (execs body (envOf qual scope L' f cdv))
        (fun fl s' => R (.ok (.ret (match fl with | .ret v => v | _ => .none))) s') (fun _ _ => False) { s with heap := h₁, toks := s.toks + binds.length })
    (hco : scope.isCoroutine = false) (hgen : scope.isGenerator = false) (hk : scope.kind = .function)
    (hcell : ∀ x ∈ scope.names, x.2 ≠ .cell) : codeC (model prog w) A (.call (.ref f) args) R s :=
  codeC_call_def (fd := fnOf name qual params body scope dV kV doc pm an cdv ct) hroom ((X₀.keeps F.keep) _ _ ho) rfl ((T.keeps F.keep).nolimit) (codeRec_of (X₀.keeps F.keep) hcd) rfl hbind hcell hloc
    (fun h₁ hns hk₁ => h _ h₁ rfl ⟨hns, hk₁, Nat.le_refl _⟩ (X₀.keeps F.keep) (T.keeps F.keep)) hco hgen hk

/-- one more object of the call's own -/
theorem grow {h₀ h h' : Heap} {L q : Addr} {m : Str → Option Value} {news : List (Addr × Obj)} {o : Obj} (F : Fr h₀ L h m) (N : News h₀ L h news) (hk : ∀ b o, h.get? b = some o → h'.get? b = some o) (eq : q = h.objs.size) (hq : h'.get? q = some o) :
    Fr h₀ L h' m ∧ News h₀ L h' ((q, o) :: news) ∧ ∀ p ∈ news, p.1 < q := by
  subst eq
  refine ⟨⟨F.ns.keeps hk, fun b o e => hk b o (F.keep b o e), F.above⟩, fun p hp => ?_, fun p hp => Heap.lt_size (N p hp).1⟩
  rcases List.mem_cons.mp hp with rfl | hp
  · refine ⟨hq, Nat.ne_of_gt F.ns.lt, ?_⟩
    cases hn : h₀.get? h.objs.size with
    | none => rfl
    | some x => exact absurd (Heap.lt_size (F.keep _ _ hn)) (Nat.lt_irrefl _)
  · exact ⟨hk _ _ (N p hp).1, (N p hp).2⟩
theorem item_base {prog : Program} {w : World} {A : Around} {E : Value → Shared → Prop} {s : Shared} {value slice : PySem.Expr} {a L : Addr} {h₀ : Heap} {m : Str → Option Value} {l : List Value} {k : Int} {u : Tok} {x : Value} {Q : Value → Shared → Prop} (F : Fr h₀ L s.heap m) (hl : h₀.IsList a l.toArray)
    (h0 : 0 ≤ k) (hfit : k < 2 ^ 63) (hx : l[k.toNat]? = some x) (h : Q x s)
    (hs : subscripted slice false (.ref a) (.int k u) = operate [.ref a, .int k u] (getItem (.ref a) (.int k u)) := by with_unfolding_all rfl) :
    wpAny (model prog w) A (subscriptTail value slice (.ref a) (.int k u)) Q E s :=
  tail_any (F.lst hl).typeIs slot_list_getitem.lookup (wpAny_getItem_list (F.lst hl) h0 hfit (by simpa using hx) h) hs
theorem len_base {prog : Program} {w : World} {A : Around} {E : Value → Shared → Prop} {s : Shared} {a L : Addr} {h₀ : Heap} {m : Str → Option Value} {l : List Value} {Q : Value → Shared → Prop} (F : Fr h₀ L s.heap m) (hl : h₀.IsList a l.toArray)
    (hz : l.length ≤ 100) (h : Q (.int l.length (s.toks + 1)) { s with toks := s.toks + 1 + 1 }) : wpAny (model prog w) A (call (.builtin "len") [.ref a]) Q E s := by
  have := len_list (prog := prog) (w := w) (A := A) (E := E) (Q := Q) (F.lst hl) (by simp; omega) (by simpa using h)
  exact this
local macro_rules | `(tactic| walk_at "call type:zip") => `(tactic| (k_here; (with_reducible show wpAny _ _ (call (Value.type _) [Value.ref _, Value.ref _]) _ _ _); refine Halt.go ?_))
local macro_rules | `(tactic| walk_at "call builtin:list.append") => `(tactic| (k_here; (with_reducible show wpAny _ _ (call (Value.builtin _) [Value.ref _, _]) _ _ _); refine Halt.go ?_))
local macro_rules | `(tactic| walk_at "call type:list") => `(tactic| (k_here; (with_reducible show wpAny _ _ (call (Value.type _) [Value.ref _]) _ _ _); refine Halt.go ?_))
local macro_rules | `(tactic| walk_at "call builtin:len") => `(tactic| (k_here; (with_reducible show wpAny _ _ (call (Value.builtin _) [Value.ref _]) _ _ _); (refine' len_base ?k1 ?k2 ?k3 ?_; (case k1 => k_asm); (case k2 => assumption); (case k3 => omega); k_whole)))
local macro_rules | `(tactic| walk_at "subscriptTail") => `(tactic| (k_here; (with_reducible show wpAny _ _ (subscriptTail _ _ (Value.ref _) (Value.int _ _)) _ _ _); (with_unfolding_all refine' item_base ?k1 ?k2 ?k3 ?k4 ?k5 ?_ ?k6; (case k1 => k_asm); (case k2 => assumption); (case k3 => decide); (case k4 => decide); (case k5 => rfl); (case k6 => with_unfolding_all rfl); k_whole)))


/-- one line undone -/
def undo1 (unit : Nat) (way : Int) (above : Array UInt8) (l : List Int) : Array UInt8 :=
  if way = 1 then subN (byteArr l) unit (byteArr l) ((byteArr l).size - unit) else if way = 2 then upN (byteArr l) above (byteArr l) (byteArr l).size else byteArr l
/-- the line above and the lines undone, after so many turns -/
def stAt (unit : Nat) (ways : List Int) (lines : List (List Int)) (z : Array UInt8) : Nat → Array UInt8 × List (Array UInt8)
  | 0 => (z, [])
  | i + 1 => (undo1 unit (ways.getD i 0) (stAt unit ways lines z i).1 (lines.getD i []), (stAt unit ways lines z i).2 ++ [undo1 unit (ways.getD i 0) (stAt unit ways lines z i).1 (lines.getD i [])])
def octInts (b : Array UInt8) : List Int := b.toList.map fun c => (c.toNat : Int)
theorem undo1_size (unit : Nat) (way : Int) (above : Array UInt8) (l : List Int) : (undo1 unit way above l).size = l.length := by
  have e : (byteArr l).size = l.length := by simp [byteArr]
  unfold undo1 subN upN
  split
  · rw [fold_size (backAt_size _ _), e]
  · split
    · rw [fold_size (addAt_size _ _), e]
    · exact e
/-- rows in a ledger -/
inductive RowsIn (news : List (Addr × Obj)) : List Value → List (List Int) → Prop
  | nil : RowsIn news [] []
  | cons {a : Addr} {o : Obj} {vs : List Value} {k : Nat} {row : List Int} {vals : List Value} {rows : List (List Int)} : (a, o) ∈ news → o.cls = .type "list" → o.data = .seq vs.toArray k → IntsAre vs row → RowsIn news vals rows → RowsIn news (.ref a :: vals) (row :: rows)
theorem RowsIn.mono {news news' : List (Addr × Obj)} (h : ∀ p ∈ news, p ∈ news') : ∀ {vals : List Value} {rows : List (List Int)}, RowsIn news vals rows → RowsIn news' vals rows
  | _, _, .nil => .nil
  | _, _, .cons hm hc hd hi hr => .cons (h _ hm) hc hd hi (hr.mono h)
theorem RowsIn.snoc {news : List (Addr × Obj)} {a : Addr} {o : Obj} {vs : List Value} {k : Nat} {row : List Int} (hm : (a, o) ∈ news) (hc : o.cls = .type "list") (hd : o.data = .seq vs.toArray k) (hi : IntsAre vs row) :
    ∀ {vals : List Value} {rows : List (List Int)}, RowsIn news vals rows → RowsIn news (vals ++ [.ref a]) (rows ++ [row])
  | _, _, .nil => .cons hm hc hd hi .nil
  | _, _, .cons hm' hc' hd' hi' hr => .cons hm' hc' hd' hi' (hr.snoc hm hc hd hi)
theorem RowsAt.get {h : Heap} : ∀ {vals : List Value} {rows : List (List Int)}, RowsAt h vals rows → ∀ {i : Nat} {v : Value}, vals[i]? = some v →
    ∃ a vs row, v = .ref a ∧ rows[i]? = some row ∧ h.IsList a vs.toArray ∧ IntsAre vs row
  | _, _, .cons hl hi _, 0, _, e => ⟨_, _, _, (Option.some.inj e).symm, rfl, hl, hi⟩
  | _, _, .cons _ _ hr, _ + 1, _, e => hr.get e
theorem IntsAre.at {vs : List Value} {ns : List Int} (h : IntsAre vs ns) : ∀ {i : Nat} {v : Value}, vs[i]? = some v → ∃ n t, v = .int n t ∧ ns[i]? = some n := by
  induction h with
  | nil => intro i v e; simp at e
  | cons n t h ih =>
    intro i v e
    cases i with
    | zero => exact ⟨n, t, (Option.some.inj e).symm, rfl⟩
    | succ i => exact ih e

theorem pick52 {α : Type} {P : α → Prop} {a b c d e : α} (h : ∀ p ∈ [a, b, c, d, e], P p) : ∀ p ∈ [e, b], P p := by
  intro p hp
  simp only [List.mem_cons, List.not_mem_nil, or_false] at hp
  rcases hp with rfl | rfl <;> exact h _ (by simp)
theorem zip_start {prog : Program} {w : World} {A : Around} {E : Value → Shared → Prop} {s : Shared} {h₀ : Heap} {L l1 l2 : Addr} {xs ys : Array Value} {m : Str → Option Value} {news : List (Addr × Obj)} {Q : Value → Shared → Prop}
    (F : Fr h₀ L s.heap m) (N : News h₀ L s.heap news) (hl1 : h₀.IsList l1 xs) (hl2 : h₀.IsList l2 ys) (b1 : l1 < L) (b2 : l2 < L)
    (k : ∀ (q : Nat) h', ZipApart (q + 4) (q + 2) (q + 3) q (q + 1) l1 l2 → (IsZip h' (q + 4) (q + 2) (q + 3) .none ∧ IsPair h' (q + 2) (.ref q) (.ref (q + 1)) ∧ (∃ a b, IsPair h' (q + 3) a b) ∧ h'.IsListIter q l1 0 ∧ h'.IsListIter (q + 1) l2 0 ∧ h'.IsList l1 xs ∧ h'.IsList l2 ys) →
      Fr h₀ L h' m → News h₀ L h' news → (∀ p ∈ news, p.1 ∉ [q + 4, q + 2, q + 3, q, q + 1, l1, l2]) → L ∉ [q + 4, q + 2, q + 3, q, q + 1, l1, l2] → (∀ b ∈ [q + 4, q + 3, q, q + 1], h₀.get? b = none) → wpAny (model prog w) A (pyIter (.ref (q + 4))) Q E { s with heap := h' }) :
    wpAny (model prog w) A (call (.type "zip") [.ref l1, .ref l2]) (fun x s₁ => wpAny (model prog w) A (pyIter x) Q E s₁) E s := by
  have c1 := Nat.lt_trans b1 F.ns.lt
  have c2 := Nat.lt_trans b2 F.ns.lt
  have fp : ∀ b : Addr, b < s.heap.objs.size → b ≠ l1 → b ≠ l2 → b ∉ [s.heap.objs.size + 4, s.heap.objs.size + 2, s.heap.objs.size + 3, s.heap.objs.size, s.heap.objs.size + 1, l1, l2] := by
    intro b h1 h2 h3 h4
    have g : ∀ k, b ≠ s.heap.objs.size + k := fun k => Nat.ne_of_lt (Nat.lt_of_lt_of_le h1 (Nat.le_add_right _ k))
    simp only [List.mem_cons, List.not_mem_nil, or_false] at h4
    rcases h4 with h4 | h4 | h4 | h4 | h4 | h4 | h4
    · exact g 4 h4
    · exact g 2 h4
    · exact g 3 h4
    · exact g 0 h4
    · exact g 1 h4
    · exact h2 h4
    · exact h3 h4
  refine call_zip_2 (F.lst hl1) (F.lst hl2) fun h₅ hzz hTI hTO hi1 hi2 hsz₅ hk₅ => ?_
  refine k _ h₅ (ktu_apart _ l1 l2 c1 c2) ⟨hzz, hTI, ⟨_, _, hTO⟩, hi1, hi2, (F.keeps hk₅).lst hl1, (F.keeps hk₅).lst hl2⟩ (F.keeps hk₅) (fun p hp => ⟨hk₅ _ _ (N p hp).1, (N p hp).2⟩) (fun p hp => fp _ (Heap.lt_size (N p hp).1) ?_ ?_)
    (fp _ F.ns.lt (Nat.ne_of_gt b1) (Nat.ne_of_gt b2)) fun b hb => ktu_new F ?_
  · intro e; obtain ⟨_, e', _⟩ := hl1; rw [← e, (N p hp).2.2] at e'; cases e'
  · intro e; obtain ⟨_, e', _⟩ := hl2; rw [← e, (N p hp).2.2] at e'; cases e'
  · simp only [List.mem_cons, List.not_mem_nil, or_false] at hb
    rcases hb with e | e | e | e <;> rw [e]
    · exact Nat.le_add_right _ 4
    · exact Nat.le_add_right _ 3
    · exact Nat.le_refl _
    · exact Nat.le_add_right _ 1
theorem zip_live {z TI TO i1 i2 l1 l2 : Addr} {xs ys : Array Value} (i : Nat) (h : Heap) (hst : IsZip h z TI TO .none ∧ IsPair h TI (.ref i1) (.ref i2) ∧ (∃ a b, IsPair h TO a b) ∧ h.IsListIter i1 l1 i ∧ h.IsListIter i2 l2 i ∧ h.IsList l1 xs ∧ h.IsList l2 ys) :
    ∀ b ∈ [z, TI, TO, i1, i2, l1, l2], b < h.objs.size := by
  obtain ⟨a1, a2, ⟨_, _, a3⟩, ⟨_, a4, _⟩, ⟨_, a5, _⟩, ⟨_, a6, _⟩, ⟨_, a7, _⟩⟩ := hst
  intro b hb
  simp only [List.mem_cons, List.not_mem_nil, or_false] at hb
  rcases hb with e | e | e | e | e | e | e <;> rw [e]
  · exact Heap.lt_size a1
  · exact Heap.lt_size a2
  · exact Heap.lt_size a3
  · exact Heap.lt_size a4
  · exact Heap.lt_size a5
  · exact Heap.lt_size a6
  · exact Heap.lt_size a7
theorem RowsAt.length {h : Heap} : ∀ {vals : List Value} {rows : List (List Int)}, RowsAt h vals rows → vals.length = rows.length
  | _, _, .nil => rfl
  | _, _, .cons _ _ hr => by rw [List.length_cons, List.length_cons, hr.length]
theorem RowsIn.at {h₀ h : Heap} {L : Addr} {news : List (Addr × Obj)} (N : News h₀ L h news) : ∀ {vals : List Value} {rows : List (List Int)}, RowsIn news vals rows → RowsAt h vals rows
  | _, _, .nil => .nil
  | _, _, .cons hm hc hd hi hr => .cons ⟨_, (N _ hm).1, hc, _, hd⟩ hi (hr.at N)
theorem RowsIn.fresh {h₀ h : Heap} {L : Addr} {news : List (Addr × Obj)} (N : News h₀ L h news) : ∀ {vals : List Value} {rows : List (List Int)}, RowsIn news vals rows → ∀ v ∈ vals, ∀ a, v = .ref a → h₀.get? a = none
  | _, _, .nil => fun _ h => nomatch h
  | _, _, .cons hm _ _ _ hr => List.forall_mem_cons.mpr ⟨fun _ e => by cases e; exact (N _ hm).2.2, hr.fresh N⟩
theorem bind_at {m : Str → Option Value} {x : Str} {v : Value} (h : m x = some v) : m = fun y => if y = x then some v else m y := by
  funext y
  split
  · subst_vars; exact h
  · rfl
theorem bind_at3 {m : Str → Option Value} {x y z : Str} {u v w : Value} (h1 : m x = some u) (h2 : m y = some v) (h3 : m z = some w) : m = fun k => if k = x then some u else if k = y then some v else if k = z then some w else m k := by
  funext k
  split
  · subst_vars; exact h1
  · split
    · subst_vars; exact h2
    · split
      · subst_vars; exact h3
      · rfl
theorem if_join {M : Model} {A : Around} {E : Value → Shared → Prop} {s s₁ : Shared} {env : Env} {st : Stmt} {stmts : List Stmt} {Q : Flow → Shared → Prop} {h₀ h : Heap} {L r : Addr} {m : Str → Option Value} {b : Array UInt8} {tl : List (Addr × Obj)} (b' : Array UInt8)
    (_ : Fr h₀ L h m) (_ : News h₀ L h ((r, baObj b) :: tl))
    (h1 : wpC M A (exec st env) (fun f s₃ => f = .next ∧ ∃ h' tk' own', s₃ = { s with heap := h', toks := tk' } ∧ Fr h₀ L h' m ∧ News h₀ L h' (own' ++ (r, baObj b') :: tl)) E s₁)
    (h2 : ∀ h' tk' own', Fr h₀ L h' m → News h₀ L h' (own' ++ (r, baObj b') :: tl) → wpC M A (execs stmts env) Q E { s with heap := h', toks := tk' }) : wpC M A (execs (st :: stmts) env) Q E s₁ :=
  wpC_execs_cons (wpC_mono h1 (fun f s₃ h => by obtain ⟨rfl, h', tk', own', rfl, F, N⟩ := h; exact h2 h' tk' own' F N) fun _ _ x => x)
theorem append_N {prog : Program} {w : World} {A : Around} {E : Value → Shared → Prop} {s : Shared} {h₀ : Heap} {L D : Addr} {m : Str → Option Value} {pre post : List (Addr × Obj)} {its : Array Value} {n : Nat} {x : Value} {Q : Value → Shared → Prop}
    (F : Fr h₀ L s.heap m) (N : News h₀ L s.heap (pre ++ (D, PySem.W.listOf its n) :: post)) (h1 : ∀ p ∈ pre, p.1 ≠ D) (h2 : ∀ p ∈ post, p.1 ≠ D) (hsz : its.size ≤ sizeLine)
    (h : ∀ h', Fr h₀ L h' m → News h₀ L h' (pre ++ (D, PySem.W.listOf (its.push x) (n + 1)) :: post) → Q .none { s with heap := h' }) : wpAny (model prog w) A (call (.builtin "list.append") [.ref D, x]) Q E s := by
  have z := N (D, PySem.W.listOf its n) (List.mem_append.mpr (.inr (.head _)))
  exact append_at (hsz := hsz) z.1 fun h' hs ho' => h h' (F.change hs z.2.1 z.2.2) (news_set N h1 h2 hs ho')
theorem octs_of {b : Array UInt8} {acc : Array Value} (h : ItemsOf (fun i v => ∃ (c : UInt8) (u : Tok), b[i]? = some c ∧ v = Value.int (c.toNat : Int) u) acc b.size) : IntsAre acc.toList (octInts b) := by
  have key : ∀ (vs : List Value) (cs : List UInt8), vs.length = cs.length → (∀ (j : Nat) (v : Value), vs[j]? = some v → ∃ (c : UInt8) (u : Tok), cs[j]? = some c ∧ v = Value.int (c.toNat : Int) u) → IntsAre vs (cs.map fun (c : UInt8) => (c.toNat : Int)) := by
    intro vs
    induction vs with
    | nil => intro cs hl _; cases cs with
      | nil => exact .nil
      | cons => simp at hl
    | cons v vs ih =>
      intro cs hl hk
      cases cs with
      | nil => simp at hl
      | cons c cs =>
        obtain ⟨c', u, e1, rfl⟩ := hk 0 v rfl
        cases e1
        exact .cons _ _ (ih cs (by simpa using hl) fun j v e => hk (j + 1) v e)
  exact key _ _ (by simpa using h.1) fun j v e => by simpa using h.2 j v (by simpa using e)
theorem RowsIn.vlen {news : List (Addr × Obj)} : ∀ {vals : List Value} {rows : List (List Int)}, RowsIn news vals rows → vals.length = rows.length
  | _, _, .nil => rfl
  | _, _, .cons _ _ _ _ hr => by rw [List.length_cons, List.length_cons, hr.vlen]
theorem stAt_len (unit : Nat) (ways : List Int) (lines : List (List Int)) (z : Array UInt8) (i : Nat) : (stAt unit ways lines z i).2.length = i := by
  induction i with
  | zero => rfl
  | succ i ih => rw [stAt, List.length_append, ih]; rfl
def UnJ (u : Int) (ways : List Int) (lines : List (List Int)) (z : Array UInt8) (i : Nat) (m : Str → Option Value) (led : List (Addr × Obj)) : Prop :=
  ∃ (d ab : Addr) (tu : Tok) (vals : List Value) (k : Nat) (rest : List (Addr × Obj)), led = (d, { cls := .type "list", data := .seq vals.toArray k }) :: rest ∧ m (Str.ofString "done") = some (.ref d) ∧ m (Str.ofString "above") = some (.ref ab) ∧
    m (Str.ofString "unit") = some (.int u tu) ∧ (ab, baObj (stAt u.toNat ways lines z i).1) ∈ rest ∧ RowsIn rest vals ((stAt u.toNat ways lines z i).2.map octInts) ∧ ∀ p ∈ rest, p.1 ≠ d

set_option maxHeartbeats 4000000 in
theorem undone_call {w : World} {loose : List Str} {mean : ExcName → Option Value} {mg mb : Str → Option Value} {dp un : Nat} {gd : Option (List Code)} {cn : Str} {cs : Scope} {a : Addr} {ccd : Value} {cl : List (Str × Addr)} {outer : List Env} {A₀ : Around} {base h₀ : Heap} {L : Addr} {m : Str → Option Value} {s : Shared}
    {lw ll : Addr} {vw vals : List Value} {ways : List Int} {lines : List (List Int)} {u : Int} {tu : Tok} {n : Nat} {Q : Value → Shared → Prop}
    (B : Below A₀ base outer h₀) (F : Fr h₀ L s.heap m) (X : (Hz.hd.heap_39 w.params).In h₀) (T : Top Hz.hd.view_39 loose mean mg mb h₀) (hk : cs.kind = .function)
    (hd : dp + 10 < recursionLimit) (hu : un + 60 < cLine)
    (hw : s.heap.IsList lw vw.toArray) (hwi : IntsAre vw ways) (hl : s.heap.IsList ll vals.toArray) (hr : RowsAt s.heap vals lines) (hne : lines ≠ []) (hlc : lines.length ≤ 100) (hoct : ∀ l ∈ lines, ∀ x ∈ l, 0 ≤ x ∧ x < 256) (hlen : ∀ l ∈ lines, l.length = n) (hn : n ≤ 100) (hwl : ways.length = lines.length) (hu0 : 0 ≤ u) (hu1 : u ≤ 100)
    (ret : ∀ h' tk d vals' k, (∀ b o, s.heap.get? b = some o → h'.get? b = some o) → Heap.NoLimit h' → s.heap.get? d = none → h'.get? d = some { cls := .type "list", data := .seq vals'.toArray k } →
      RowsAt h' vals' ((stAt u.toNat ways lines (byteArr (List.replicate n 0)) lines.length).2.map octInts) → (∀ v ∈ vals', ∀ a, v = .ref a → s.heap.get? a = none) → Q (.ref d) { s with heap := h', toks := tk }) :
    wpC (model PySem.Challenge.rw_bf5020_01.row.prog w) (ktrTop dp un gd cn cs L a ccd cl outer) (call (.ref 35) [.ref lw, .int u tu, .ref ll]) Q (fun _ _ => False) s := by
  revert X; k_fill; intro X
  refine wpC_call ?_
  refine' codeC_defK F X T ?k6 ?k7 ?k8 ?k9 ?k10 ?k11 ?c2 ?c3 ?c4 ?c5
  case k6 => k_is
  case k7 => k_is
  case k8 => show dp < _; omega
  case k9 => exact BindsTo.of_eq rfl
  case k10 => exact locs rfl
  case c2 => exact rfl
  case c3 => exact rfl
  case c4 => exact rfl
  case c5 => decide
  intro L' h₁ hL' F₁ X₁ T₁
  have hsubf : ∃ o fd, s.heap.get? 21 = some o ∧ o.data = .func fd := ⟨_, _, X₁ _ _ (by k_is), rfl⟩
  have hupf : ∃ o fd, s.heap.get? 28 = some o ∧ o.data = .func fd := ⟨_, _, X₁ _ _ (by k_is), rfl⟩
  have B₁ := pushX (env := envX cn cs L a ccd cl) B F rfl hk
  have N₁ : News s.heap L' h₁ [] := .nil
  obtain ⟨l0, ls, rfl⟩ := List.exists_cons_of_ne_nil hne
  have hr0 := hr
  cases hr with
  | @cons a0 vs0 _ vals' _ hl0 hi0 hr' =>
  have hz0 : l0.length ≤ 100 := by rw [hlen l0 (.head _)]; exact hn
  have hv0 : vs0.length = l0.length := hi0.length
  refine wpC_execs_cons (wpC_Assign_TupleS (names := [Str.ofString "done", Str.ofString "above"]) (wpC_Tuple (wpC_spl (wpC_any ?_))))
  k_steps
  refine wpC_spl (wpC_Call_Name ?_)
  k_steps
  refine wpC_callWith_type rfl (wpC_args (wpC_spl (wpC_any ?_)))
  k_steps
  refine wpC_spl0 ?_
  (rename Fr _ _ _ _ => F₂)
  (rename News _ _ _ _ => N₂)
  (rename IntsAre _ _ => hi₂)
  refine call_ba (News.isList N₂ (.head _)) hi₂ ?_ ?_ ?_
  · intro x hx
    have : x = 0 := by
      simp only [List.mem_flatten, List.mem_replicate] at hx
      obtain ⟨l, ⟨_, rfl⟩, h⟩ := hx
      simpa using h
    omega
  · rw [sizeLine_eq]; simp; omega
  intro h₃ hk₃ hb₃
  obtain ⟨F₃, N₃, hlt₃⟩ := grow F₂ N₂ hk₃ rfl hb₃
  clear F₂ N₂
  refine wpC_spl0 ?_
  k_steps
  refine wpC_execs_cons (wpC_For ?_)
  k_steps
  unfold Halt
  (rename Fr _ _ _ _ => F₄)
  (rename News _ _ _ _ => N₄)
  have hlw : lw < L' := by subst hL'; obtain ⟨_, e, _⟩ := hw; exact Heap.lt_size e
  have hll : ll < L' := by subst hL'; obtain ⟨_, e, _⟩ := hl; exact Heap.lt_size e
  have hdab := hlt₃ _ (.tail _ (.tail _ (.head _)))
  refine zip_start F₄ (show News s.heap L' _ [_, _] from pick52 N₄) hw hl hlw hll fun q h₅ D hst₅ F₅ N₅ hN₅ hL₅ hq₅ => ?_
  refine wpAny_pyIter_zip hst₅.1 ?_
  clear F₄ N₄
  refine codeC_forZip (s := s) (h₀ := s.heap) (by rfl) (WalksT.zip2 (by rfl) (q + 4) (q + 2) (q + 3) q (q + 1) lw ll D vw.toArray (Value.ref a0 :: vals').toArray) (P2 := fun i v0 v1 => vw.toArray[i]? = some v0 ∧ (Value.ref a0 :: vals').toArray[i]? = some v1) ?h2 (by rfl) (by rfl) (by rfl) hL₅ hq₅
    (UnJ u ways (l0 :: ls) (byteArr (List.replicate n 0))) ?step (fun i h hst => zip_live i h hst) ?hR _ 0 h₅ _ _ _ rfl (Nat.zero_le _) hst₅ F₅ N₅ hN₅ ?hJ
  case h2 => rintro i vals ⟨x, y, hx, hy, rfl⟩; exact ⟨x, y, rfl, hx, hy⟩
  case hJ =>
    refine ⟨_, _, tu, [], 0, _, rfl, by with_unfolding_all rfl, by with_unfolding_all rfl, by with_unfolding_all rfl, ?_, .nil, ?_⟩
    · rw [List.mem_singleton]
      have : (List.replicate (↑vs0.length : Int).toNat [(0 : Int)]).flatten = List.replicate n 0 := by
        rw [← hlen l0 (.head _), ← hv0]; simp
      rw [this]; rfl
    · exact List.forall_mem_singleton.mpr (Nat.ne_of_gt hdab)
  case hR =>
    intro h' tk m' led' F' N' hJ
    obtain ⟨d, ab, tu', vals, k, rest, rfl, hmd, hmab, hmu, hab, hrows, hdist⟩ := hJ
    have hm : m' = fun y => if y = Str.ofString "done" then some (.ref d) else m' y := bind_at hmd
    rw [hm] at F'
    clear hm hmd hst₅ F₅ N₅ hN₅ hL₅ hq₅ hlt₃ hk₃ hb₃ hi₂ D
    have hmin : min vw.toArray.size (Value.ref a0 :: vals').toArray.size = (l0 :: ls).length := by
      have e1 := hwi.length
      have e2 := hr0.length
      simp only [List.size_toArray]
      omega
    rw [hmin] at hrows
    refine wpC_any ?_
    k_steps
    exact ret _ _ d vals k (fun b o e => F'.keep b o e) (T₁.nolimit.keeps F'.keep) (N' _ (.head _)).2.2 (N' _ (.head _)).1 (hrows.at fun p hp => N' p (.tail _ hp)) (hrows.fresh fun p hp => N' p (.tail _ hp))
  case step =>
    rintro i v0 v1 m₁ led₁ h tk own hlt ⟨hv0, hv1⟩ ⟨d, ab, tu', vals, k, rest, rfl, hmd, hmab, hmu, hab, hrows, hdist⟩ hof hlf F N hbf
    obtain ⟨wy, tw, rfl, hwy⟩ := IntsAre.at hwi (by simpa using hv0)
    obtain ⟨la, lvs, row, rfl, hrow, hla, hli⟩ := hr0.get (by simpa using hv1)
    have hm := bind_at3 hmd hmab hmu
    rw [hm] at F
    clear hm hst₅ F₅ N₅ hN₅ hL₅ hq₅ hlt₃ hk₃ hb₃ hi₂ D hmd hmab hmu
    have hrm : row ∈ l0 :: ls := List.mem_of_getElem? hrow
    have hrn : row.length = n := hlen _ hrm
    refine wpC_execs_cons (wpC_Assign_Name (wpC_Call_Name ?_))
    k_steps
    refine wpC_callWith_type rfl (wpC_args (wpC_spl (wpC_any ?_)))
    k_steps
    (rename Fr _ _ _ _ => F)
    (rename News _ _ _ _ => N)
    refine wpC_spl0 ?_
    refine call_ba (Fr.lst F hla) hli (hoct _ hrm) (by rw [sizeLine_eq]; omega) ?_
    intro h₆ hk₆ hb₆
    obtain ⟨F₆, N₆, hlt₆⟩ := grow F N hk₆ rfl hb₆
    clear F N
    k_steps
    (rename Fr _ _ _ _ => F₇)
    (rename News _ _ _ _ => N₇)
    refine if_join (s := s) (undo1 u.toNat wy (stAt u.toNat ways (l0 :: ls) (byteArr (List.replicate n 0)) i).1 row) F₇ N₇ ?_ fun h₈ tk₈ own₈ F₈ N₈ => ?_
    · refine wpC_If ?_
      k_steps
      · rename wy = 1 => hw1
        refine wpC_execs_cons (wpC_Expr (wpC_Call_Name ?_))
        k_steps
        refine wpC_callWith_fn rfl (wpC_args (wpC_spl (wpC_any ?_)))
        k_steps
        refine wpC_spl (wpC_Call_Name ?_)
        k_steps
        refine wpC_callWith_type rfl (wpC_args (wpC_spl (wpC_any ?_)))
        k_steps
        (rename Fr _ _ _ _ => F)
        (rename News _ _ _ _ => N)
        refine wpC_spl0 ?_
        refine call_ba (Fr.lst F hla) hli (hoct _ hrm) (by rw [sizeLine_eq]; omega) ?_
        intro h₈ hk₈ hb₈
        obtain ⟨F₈, N₈, hlt₈⟩ := grow F N hk₈ rfl hb₈
        clear F N
        refine wpC_spl (wpC_any ?_)
        k_steps
        refine wpC_spl (wpC_any ?_)
        k_steps
        refine wpC_spl0 ?_
        (rename Fr _ _ _ _ => F)
        (rename News _ _ _ _ => N)
        refine ⟨let ⟨o, fd, e1, e2⟩ := hsubf; ⟨o, fd, F.keep _ _ e1, e2⟩, wpC_any ?_⟩
        have hsz : (byteArr row).size = n := by rw [← hrn]; simp [byteArr]
        refine sub_call (dp := dp + 1) (un := un + 3) (outer := envX cn cs L a ccd cl :: outer) (pre := [_]) B₁ F X₁ N T₁ rfl (by omega) (by omega) ?_ ?_ (.head _) (Nat.ne_of_gt (hlt₈ _ (.head _))) (by omega) rfl hu0 hu1 ?_
        · exact List.forall_mem_singleton.mpr (Nat.ne_of_gt (hlt₈ _ (.head _)))
        · exact fun p hp => Nat.ne_of_lt (hlt₆ p hp)
        · intro h₉ tk₉ F₉ N₉
          refine' wpC_execs_nil ⟨rfl, h₉, tk₉, ?zzo, rfl, F₉, ?zzn⟩
          case zzn =>
            rw [show undo1 u.toNat wy _ row = subN (byteArr row) u.toNat (byteArr row) ((byteArr row).size - u.toNat) from if_pos hw1]
            exact N₉
      · rename wy ≠ 1 => hw1
        refine wpC_execs_cons (wpC_If ?_)
        k_steps
        · rename wy = 2 => hw2
          refine wpC_execs_cons (wpC_Expr (wpC_Call_Name ?_))
          k_steps
          refine wpC_callWith_fn rfl (wpC_args (wpC_spl (wpC_any ?_)))
          k_steps
          refine wpC_spl (wpC_Call_Name ?_)
          k_steps
          refine wpC_callWith_type rfl (wpC_args (wpC_spl (wpC_any ?_)))
          k_steps
          (rename Fr _ _ _ _ => F)
          (rename News _ _ _ _ => N)
          refine wpC_spl0 ?_
          refine call_ba (Fr.lst F hla) hli (hoct _ hrm) (by rw [sizeLine_eq]; omega) ?_
          intro h₈ hk₈ hb₈
          obtain ⟨F₈, N₈, hlt₈⟩ := grow F N hk₈ rfl hb₈
          clear F N
          refine wpC_spl (wpC_any ?_)
          k_steps
          refine wpC_spl (wpC_any ?_)
          k_steps
          refine wpC_spl0 ?_
          (rename Fr _ _ _ _ => F)
          (rename News _ _ _ _ => N)
          refine ⟨let ⟨o, fd, e1, e2⟩ := hupf; ⟨o, fd, F.keep _ _ e1, e2⟩, wpC_any ?_⟩
          have hsz : (byteArr row).size = n := by rw [← hrn]; simp [byteArr]
          have hst : ∀ j, j ≤ i → (stAt u.toNat ways (l0 :: ls) (byteArr (List.replicate n 0)) j).1.size = n := by
            intro j hj
            cases j with
            | zero => simp [stAt, byteArr]
            | succ j =>
              rw [stAt, undo1_size]
              have hjl : j < (l0 :: ls).length := by
                have := hr0.length
                simp only [List.size_toArray] at hlt
                omega
              rw [List.getD_eq_getElem?_getD, List.getElem?_eq_getElem hjl]
              exact hlen _ (List.getElem_mem hjl)
          have habm : (ab, baObj (stAt u.toNat ways (l0 :: ls) (byteArr (List.replicate n 0)) i).1) ∈ ((d, ({ cls := .type "list", data := .seq vals.toArray k } : Obj)) :: rest ++ own) := List.mem_append_left _ (.tail _ hab)
          refine up_call (dp := dp + 1) (un := un + 3) (outer := envX cn cs L a ccd cl :: outer) (pre := [_]) B₁ F X₁ N T₁ rfl (by omega) (by omega) ?_ ?_ (.head _) (.tail _ (.tail _ habm)) (Nat.ne_of_gt (hlt₈ _ (.head _))) (Nat.ne_of_lt (hlt₆ _ habm)) (by omega) rfl ((hst i (Nat.le_refl _)).trans hsz.symm) ?_
          · exact List.forall_mem_singleton.mpr (Nat.ne_of_gt (hlt₈ _ (.head _)))
          · exact fun p hp => Nat.ne_of_lt (hlt₆ p hp)
          · intro h₉ tk₉ F₉ N₉
            refine' wpC_execs_nil (wpC_execs_nil ⟨rfl, h₉, tk₉, ?zzp, rfl, F₉, ?zzn⟩)
            case zzn =>
              rw [show undo1 u.toNat wy _ row = upN (byteArr row) _ (byteArr row) (byteArr row).size from (if_neg hw1).trans (if_pos hw2)]
              exact N₉
        · rename wy ≠ 2 => hw2
          refine wpC_execs_nil (wpC_execs_nil ⟨rfl, _, _, [], rfl, F₇, ?_⟩)
          rw [show undo1 u.toNat wy _ row = byteArr row from (if_neg hw1).trans (if_neg hw2)]
          exact N₇
    · have N₈ : News s.heap L' h₈ _ := fun p hp => N₈ p (List.mem_append_right _ hp)
      refine wpC_execs_cons (wpC_any ?_)
      k_steps
      unfold Halt
      have hus := undo1_size u.toNat wy (stAt u.toNat ways (l0 :: ls) (byteArr (List.replicate n 0)) i).1 row
      have hstep : stAt u.toNat ways (l0 :: ls) (byteArr (List.replicate n 0)) (i + 1) = (undo1 u.toNat wy (stAt u.toNat ways (l0 :: ls) (byteArr (List.replicate n 0)) i).1 row, (stAt u.toNat ways (l0 :: ls) (byteArr (List.replicate n 0)) i).2 ++ [undo1 u.toNat wy (stAt u.toNat ways (l0 :: ls) (byteArr (List.replicate n 0)) i).1 row]) := by
        have e1 : ways.getD i 0 = wy := by rw [List.getD_eq_getElem?_getD, hwy]; rfl
        have e2 : (l0 :: ls).getD i [] = row := by rw [List.getD_eq_getElem?_getD, hrow]; rfl
        rw [stAt, e1, e2]
      generalize undo1 u.toNat wy (stAt u.toNat ways (l0 :: ls) (byteArr (List.replicate n 0)) i).1 row = ub at hus hstep N₈ ⊢
      have hrN : IsBA h₈ h.objs.size ub := N₈.get (.head _)
      have hrlt : h.objs.size < h₈.objs.size := Heap.lt_size hrN
      refine call_list_ba (by rfl) hrN (fun h₉ tk₉ acc c hk₉ hacc hit => ?_) (by rw [sizeLine_eq]; omega)
      obtain ⟨F₉, N₉, hlt₉⟩ := grow F₈ N₈ hk₉ rfl hacc
      clear F₈ N₈ F₇ N₇ F₆ N₆
      k_steps
      unfold Halt
      refine append_N (pre := [_, _]) F₉ N₉ ?_ ?_ ?_ ?_
      · exact List.forall_mem_cons.mpr ⟨Nat.ne_of_gt (hlt₉ _ (.tail _ (.head _))), List.forall_mem_singleton.mpr (Nat.ne_of_gt (hlt₆ _ (.head _)))⟩
      · intro p hp
        rcases List.mem_append.mp hp with hp | hp
        · exact hdist p hp
        · intro e
          exact hlf _ (.head _) (e ▸ hof p hp)
      · have := hrows.vlen
        rw [List.length_map, stAt_len] at this
        have := hr0.length
        simp only [List.size_toArray] at hlt ⊢
        rw [sizeLine_eq]
        omega
      intro h₁₀ F₁₀ N₁₀
      refine wpC_execs_cons (wpC_any ?_)
      k_steps
      (rename Fr _ _ _ _ => F)
      (rename News _ _ _ _ => N)
      refine' wpC_execs_nil ⟨rfl, _, _, _, (d, PySem.W.listOf (vals.toArray.push (.ref h₈.objs.size)) (k + 1)) :: (h₈.objs.size, { cls := .type "list", dict := none, data := .seq acc c, slots := #[] }) :: (h.objs.size, baObj ub) :: rest, rfl, F, ?zzn, ?zzl, ?zzj⟩
      case zzn =>
        intro p hp
        refine N p ?_
        rcases List.mem_append.mp hp with hp | hp
        · rcases List.mem_cons.mp hp with rfl | hp
          · exact .tail _ (.tail _ (.head _))
          rcases List.mem_cons.mp hp with rfl | hp
          · exact .head _
          rcases List.mem_cons.mp hp with rfl | hp
          · exact .tail _ (.head _)
          · exact .tail _ (.tail _ (.tail _ (List.mem_append_left _ hp)))
        · exact .tail _ (.tail _ (.tail _ (List.mem_append_right _ hp)))
      case zzl =>
        refine List.forall_mem_cons.mpr ⟨hlf (d, { cls := .type "list", data := .seq vals.toArray k }) (.head _), List.forall_mem_cons.mpr ⟨fun hm => ?_, List.forall_mem_cons.mpr ⟨fun hm => ?_, fun p hp => hlf _ (.tail _ hp)⟩⟩⟩
        · exact absurd (Nat.lt_trans (hbf _ hm) hrlt) (Nat.lt_irrefl _)
        · exact absurd (hbf _ hm) (Nat.lt_irrefl _)
      case zzj =>
        refine ⟨d, _, tu', vals ++ [.ref h₈.objs.size], k + 1, (h₈.objs.size, { cls := .type "list", dict := none, data := .seq acc c, slots := #[] }) :: (h.objs.size, baObj ub) :: rest, ?_, by with_unfolding_all rfl, by with_unfolding_all rfl, by with_unfolding_all rfl, ?_, ?_, ?_⟩
        · rw [List.push_toArray]
        · rw [hstep]
          exact .tail _ (.head _)
        · rw [hstep, List.map_append]
          exact RowsIn.snoc (vs := acc.toList) (k := c) (.head _) rfl (by rw [Array.toArray_toList]) (octs_of hit) (hrows.mono fun p hp => .tail _ (.tail _ hp))
        · refine List.forall_mem_cons.mpr ⟨Nat.ne_of_gt (hlt₉ _ (.tail _ (.head _))), List.forall_mem_cons.mpr ⟨Nat.ne_of_gt (hlt₆ _ (.head _)), hdist⟩⟩
end Mine

set_option autoImplicit false
set_option maxRecDepth 100000
namespace Mine
open PySem PySem.Calls PySem.Spec PySem.W PyProof.Rows
open PySem.Sem (wp)

section
variable {α β : Type} {M : Model} {A : Around} {E : Value → Shared → Prop} {s : Shared} {env : Env}
theorem wpC_attempt {m : Sem α} {Q : Except Value α → Shared → Prop} (h : wpC M A m (fun a => Q (.ok a)) (fun e => Q (.error e)) s) :
    wpC M A m.attempt Q E s := ⟨fun Γ p hΓ hc => by rw [Sem.wp_attempt]; exact h.run Γ p hΓ hc⟩

theorem wpC_standIf {c : Prop} [Decidable c] {pos : Pos} {k : PUnit → Sem α} {Q : α → Shared → Prop} (h : wpC M A (k ()) Q E s) :
    wpC M A (if c then (standAt pos >>= k) else k ()) Q E s := by
  split
  · exact wpC_bind (wpC_standAt h)
  · exact h

/-- what is asked at the end of a comprehension's loop -/
def compEnd (M : Model) (A : Around) (E : Value → Shared → Prop) (use : Option (Value → Sem Unit)) (Q : Value → Shared → Prop) (acc : Value) (C : Addr) (r : Result) (s' : Shared) : Prop :=
  match r, use with
  | .ok _, none => ∃ m, s'.heap.Ns C m ∧ ∀ h', Heap.SameBut C s'.heap h' → Q acc { s' with heap := h' }
  | .ok _, some u => wpAny M A (u acc) (fun _ s'' => ∃ m, s''.heap.Ns C m ∧ ∀ h', Heap.SameBut C s''.heap h' → Q .none { s'' with heap := h' }) E s'
  | .error _, _ => False

theorem wpC_comprehension {e : PySem.Expr} {scope : Scope} {pos : Pos} {newAcc first : Sem Value} {g : Comprehension} {gs : List Comprehension} {cl : List (Str × Addr)} {use : Option (Value → Sem Unit)}
    {Q : Value → Shared → Prop}
    (hcl : clausesOf e = g :: gs) (hs : ∀ x, foldedSetIterable g.iter env x = pure x) (hclos : closureFor scope env = pure cl)
    (hkind : scope.kind = .function) (hnames : ∀ x ∈ scope.names, x.2 = .local → scope.names.lookup x.1 = some .local)
    (h : wpAny M A first (fun x s₁ => wpAny M A (pyIter x) (fun it s₂ => wpAny M A newAcc (fun acc s₃ =>
      wpAny M A (newFunctionEnv scope env.globals cl [] env.qual none .none (some env)) (fun cenv s₄ =>
        codeC M A (.compStart e 0 it acc { cenv with scope := relabel scope env }) (compEnd M A E use Q acc cenv.locals) s₄) E s₃) E s₂) E s₁) E s) :
    wpC M A (comprehension e scope env pos newAcc false first use) Q E s := by
  unfold comprehension
  rw [hclos, hcl]
  refine wpC_bindA (wpAny_mono h (fun x s₁ h₁ => wpC_bindA (wpAny_standAt (wpC_bindA (wpAny_of_eq (hs x) (wpC_bindA (wpAny_holding (wpAny_mono h₁ (fun it s₂ h₂ =>
    wpC_standIf (wpC_bindA (wpAny_mono h₂ (fun acc s₃ h₃ => wpC_bindA (wpAny_pure (wpC_bindA (wpAny_mono h₃ (fun cenv s₄ h₄ => ?_) fun _ _ h' => h')))) fun _ _ h' => h')))
      fun _ _ h' => h'))))))) fun _ _ h' => h')
  dsimp only
  have hv : ∀ x ∈ (scope.names.filter fun x => (x.2 == .local || x.2 == .cell) && x.1 != (".0" : Str)).reverse, x.2 = .local →
      Env.kindOf { cenv with scope := relabel scope env } x.1 = some .local := fun x hx hl => lookup_relabel_local (hnames x (List.mem_filter.mp (List.mem_reverse.mp hx)).1 hl)
  have hv' : ∀ x ∈ (scope.names.filter fun x => (x.2 == .local || x.2 == .cell) && x.1 != (".0" : Str)).reverse.drop 1 ++ (scope.names.filter fun x => (x.2 == .local || x.2 == .cell) && x.1 != (".0" : Str)).reverse.take 1,
      x.2 = .local → Env.kindOf { cenv with scope := relabel scope env } x.1 = some .local := fun x hx hl => by
    rcases List.mem_append.mp hx with h1 | h1
    · exact hv x (List.mem_of_mem_drop h1) hl
    · exact hv x (List.mem_of_mem_take h1) hl
  refine wpC_holding (wpC_bind (wpC_attempt (wpC_holding (wpC_run (codeC_mono h₄ fun r s' hr => ?_)))))
  cases r with
  | ok f =>
    cases use with
    | none =>
      obtain ⟨m, hn, hr⟩ := hr
      exact wpC_any (wpAny_bind (wpAny_holding (wpAny_comp_letGo (cenv := { cenv with scope := relabel scope env }) hkind _ s' m hv hn fun h' m' _ hs' => wpAny_pure (hr h' hs'))))
    | some u =>
      refine wpC_any (wpAny_bind (wpAny_rule (wpAny_bind (wpAny_holding (wpAny_mono hr (fun _ s'' hr' => ?_) fun _ _ h' => h')))))
      obtain ⟨m, hn, hr'⟩ := hr'
      exact wpAny_bind (wpAny_comp_letGo (cenv := { cenv with scope := relabel scope env }) hkind _ s'' m hv' hn fun h' m' _ hs' => wpAny_pure (hr' h' hs'))
  | error x => cases use <;> exact hr.elim
end

section
variable {prog : Program} {w : World} {A : Around} {E : Value → Shared → Prop} {R : Result → Shared → Prop} {s : Shared}
theorem codeC_compStart_list {elt target iter : PySem.Expr} {ifs : List PySem.Expr} {rest : List Comprehension} {scope : Scope} {pos : Pos} {it acc : Value} {env : Env}
    (h0 : codeC (model prog w) A (.compLoop (.ListComp elt (⟨target, iter, ifs, 0⟩ :: rest) scope pos) 0 it acc env) R s)
    (h : ∀ Q E, Q it s → wpAny (model prog w) A (pyIter it) Q E s) :
    codeC (model prog w) A (.compStart (.ListComp elt (⟨target, iter, ifs, 0⟩ :: rest) scope pos) 0 it acc env) R s := by
  refine codeC_of_tree rfl ?_
  show wpC _ A ((compStart (.ListComp elt (⟨target, iter, ifs, 0⟩ :: rest) scope pos) 0 it acc env).onRaise (fun x => do noteFrame x env; standAt theWindowsPlace)) _ _ s
  refine wpC_onRaise (wpC_mono (E := fun _ _ => False) ?_ (fun _ _ x => x) fun _ _ x => x.elim)
  unfold compStart
  show wpC _ _ (ask >>= _) _ _ s
  refine wpC_bindA (wpAny_askSetting ?_)
  split
  · first
      | exact wpC_bind (wpC_pure (wpC_pure (And.intro rfl h0)))
      | exact wpC_pure (And.intro rfl h0)
  · first
      | exact wpC_bindA (wpAny_rule (wpC_bindA (wpAny_standAt (wpC_bindA (h _ _ (wpC_pure (And.intro rfl h0)))))))
      | (refine wpC_bindA (wpAny_rule ?_); show wpC _ _ (standAt iter.pos >>= _) _ _ s; exact wpC_bindA (wpAny_standAt (wpC_bindA (h _ _ (wpC_pure (And.intro rfl h0))))))

theorem codeC_comp_item {elt target iter : PySem.Expr} {scope : Scope} {pos : Pos} {it acc : Value} {env : Env}
    (h : wpAny (model prog w) A (pyNext it) (fun r s₁ => match r with
      | none => R (.ok .next) s₁
      | some v => wpAny (model prog w) A (letOwnedTupleGo target it v) (fun _ s₁' =>
          wpAny (model prog w) A (assign target env v) (fun _ s₂ => wpC (model prog w) A (eval elt env) (fun x s₃ => wpAny (model prog w) A (call (.builtin "list.append") [acc, x])
            (fun _ s₄ => codeC (model prog w) A (.compLoop (.ListComp elt [⟨target, iter, [], 0⟩] scope pos) 0 it acc env) R s₄) (fun _ _ => False) s₃) (fun _ _ => False) s₂) (fun _ _ => False) s₁') (fun _ _ => False) s₁) (fun _ _ => False) s) :
    codeC (model prog w) A (.compLoop (.ListComp elt [⟨target, iter, [], 0⟩] scope pos) 0 it acc env) R s := by
  refine codeC_of_tree rfl ?_
  show wpC _ A ((compTurn (.ListComp elt [⟨target, iter, [], 0⟩] scope pos) 0 it acc env).onRaise (fun x => do noteFrame x env; theTreesLotGoes x)) _ _ s
  refine wpC_onRaise (wpC_mono (E := fun _ _ => False) ?_ (fun _ _ x => x) fun _ _ x => x.elim)
  rw [compTurn_list1]
  refine wpC_bindA (wpAny_standAt (wpC_bindA (wpAny_mono h (fun r s₁ h₁ => ?_) fun _ _ h' => h')))
  cases r with
  | none => exact wpC_pure h₁
  | some v =>
    refine wpC_bindA (wpAny_mono h₁ (fun _ s₁' h₁' => wpC_bindA (wpAny_mono h₁' (fun _ s₂ h₂ => ?_) fun _ _ x => x)) fun _ _ x => x)
    exact wpC_bind (wpC_bind (wpC_mono h₂ (fun x s₃ h₃ => wpC_bindA (wpAny_mono h₃ (fun _ s₄ h₄ => wpC_pure (wpC_pure ⟨rfl, h₄⟩)) fun _ _ x => x)) fun _ _ x => x))
end

section
variable {prog : Program} {w : World} {A : Around} {s : Shared}
/-- a comprehension's loop over pairs -/
theorem codeC_compZip {env : Env} {h₀ : Heap} {R : Result → Shared → Prop} {xi xc : Str} {pk pv pt : Pos} {x1 : Nat} {elt iter : PySem.Expr} {scope : Scope} {pos : Pos} {I D : Addr} {fp wr : List Addr} {n : Nat} {Pt : Nat → Array Value → Prop} {St : Nat → Heap → Prop} {Mid : Nat → Addr → Heap → Prop}
    {P2 : Nat → Value → Value → Prop} (hh : A.handled = none) (W : WalksT prog w A I fp wr n Pt St Mid) (h2 : ∀ i vals, Pt i vals → ∃ v0 v1, vals = #[v0, v1] ∧ P2 i v0 v1)
    (hxi : env.kindOf xi = some .local) (hxc : env.kindOf xc = some .local)
    (hp : (env.scope.kind == .class || (env.scope.kind == .module && env.locals != env.globals)) = false)
    (hLf : env.locals ∉ fp) (hDf : D ∉ fp) (hwr : ∀ b ∈ wr, h₀.get? b = none) (J : Nat → Array Value → Prop) (hJs : ∀ i acc, J i acc → acc.size ≤ sizeLine)
    (step : ∀ (i : Nat) (v0 v1 : Value) (m₁ : Str → Option Value) (acc : Array Value) (k : Nat) (h : Heap) (tk : Nat) (own : List (Addr × Obj)), i < n → P2 i v0 v1 → J i acc →
      Fr h₀ env.locals h (fun y => if y = xc then some v1 else if y = xi then some v0 else m₁ y) → News h₀ env.locals h ((D, PySem.W.listOf acc k) :: own) →
      wpC (model prog w) A (eval elt env) (fun x s₃ => ∃ h' tk', s₃ = { s with heap := h', toks := tk' } ∧ (∀ b o, h.get? b = some o → h'.get? b = some o) ∧ J (i + 1) (acc.push x))
        (fun _ _ => False) { s with heap := h, toks := tk })
    (hR : ∀ h' tk m' acc k, Fr h₀ env.locals h' m' → News h₀ env.locals h' [(D, PySem.W.listOf acc k)] → J n acc → R (.ok .next) { s with heap := h', toks := tk }) :
    ∀ j i h tk m acc k, n - i = j → i ≤ n → St i h → Fr h₀ env.locals h m → News h₀ env.locals h [(D, PySem.W.listOf acc k)] → J i acc →
      codeC (model prog w) A (.compLoop (.ListComp elt [⟨.Tuple [.Name xi pk, .Name xc pv] x1 pt, iter, [], 0⟩] scope pos) 0 (.ref I) (.ref D) env) R { s with heap := h, toks := tk } := by
  have hLw : env.locals ∉ wr := fun h => hLf (W.sub _ h)
  have hDw : D ∉ wr := fun h => hDf (W.sub _ h)
  have old : ∀ b o, h₀.get? b = some o → b ∉ wr := fun b o e hb => by rw [hwr b hb] at e; cases e
  intro j
  induction j with
  | zero =>
    intro i h tk m acc k hk hi hst F N hJ
    obtain rfl : i = n := by omega
    refine codeC_comp_item (W.done _ _ _ hst fun h₁ tk₁ hk₁ => ?_)
    exact hR h₁ tk₁ m acc k ⟨F.ns.at' fun o e => hk₁ _ o hLw e, fun b o e => hk₁ b o (old b o e) (F.keep b o e), F.above⟩
      (List.forall_mem_singleton.mpr ⟨hk₁ _ _ hDw (N _ (.head _)).1, (N _ (.head _)).2⟩) hJ
  | succ j ih =>
    intro i h tk m acc k hk hi hst F N hJ
    have hlt : i < n := by omega
    refine codeC_comp_item (W.item i _ _ _ hlt hst fun T vals h₁ tk₁ hPt _ hT hMid hk₁ => ?_)
    obtain ⟨v0, v1, rfl, hP2⟩ := h2 i vals hPt
    refine W.go _ x1 pt i T _ _ _ hMid fun h₂ hst₂ hk₂ => ?_
    have ht₂ : h₂.IsTuple T #[v0, v1] := hT.at fun o e => hk₂ T o (W.apart i T h₁ hMid) e
    refine wpAny_assign_Tuple hh ht₂ rfl rfl fun h₃ hx₃ => ?_
    replace hx₃ : Heap.ExtBut h₂.objs.size h₂ h₃ := hx₃
    have up₃ : ∀ b o, h₂.get? b = some o → h₃.get? b = some o := fun b o x => hx₃ b o (Nat.ne_of_lt (Heap.lt_size x)) x
    have up : ∀ b o, b ∉ wr → h.get? b = some o → h₃.get? b = some o := fun b o hb x => up₃ b o (hk₂ b o hb (hk₁ b o hb x))
    have F₃ : Fr h₀ env.locals h₃ m := ⟨F.ns.at' fun o e => up _ o hLw e, fun b o e => up b o (old b o e) (F.keep b o e), F.above⟩
    have N₃ : News h₀ env.locals h₃ [(D, PySem.W.listOf acc k)] := List.forall_mem_singleton.mpr ⟨up _ _ hDw (N _ (.head _)).1, (N _ (.head _)).2⟩
    show wpAny _ A (do holding [v1] (assign (.Name xi pk) env v0); do holding [] (assign (.Name xc pv) env v1); pure ()) _ _ _
    refine wpAny_bind (wpAny_holding (wpAny_assign_Name (wpAny_storeName_local hxi F₃.ns (fun h₄ hn₄ hs₄ => ?_) hp)))
    replace hs₄ : Heap.SameBut env.locals h₃ h₄ := hs₄
    have F₄ := F₃.set hn₄ hs₄
    refine wpAny_bind (wpAny_holding (wpAny_assign_Name (wpAny_storeName_local hxc F₄.ns (fun h₅ hn₅ hs₅ => wpAny_pure ?_) hp)))
    replace hs₅ : Heap.SameBut env.locals h₄ h₅ := hs₅
    have F₅ := F₄.set hn₅ hs₅
    have N₅ : News h₀ env.locals h₅ [(D, PySem.W.listOf acc k)] := (N₃.set hs₄).set hs₅
    have hst₅ : St (i + 1) h₅ := W.frame _ _ _ hst₂ fun b hb o e => hs₅.extBut b o (fun q => hLf (q ▸ hb)) (hs₄.extBut b o (fun q => hLf (q ▸ hb)) (up₃ b o e))
    refine wpC_mono (step i v0 v1 m acc k h₅ _ (ownOf h₀ fp h₅) hlt hP2 hJ F₅ (fun p hp => (List.mem_cons.mp hp).elim (fun e => e ▸ N₅ _ (.head _)) (news_ownOf hLf p))) (fun x s₃ h₆ => ?_) fun _ _ e => e
    obtain ⟨h₆, tk₆, rfl, hk₆, hJ₆⟩ := h₆
    have F₆ := F₅.keeps hk₆
    have N₅' : News h₀ env.locals h₅ ((D, PySem.W.listOf acc k) :: ownOf h₀ fp h₅) := fun p hp => (List.mem_cons.mp hp).elim (fun e => e ▸ N₅ _ (.head _)) (news_ownOf hLf p)
    have N₆ : News h₀ env.locals h₆ ((D, PySem.W.listOf acc k) :: ownOf h₀ fp h₅) := fun p hp => ⟨hk₆ _ _ (N₅' _ hp).1, (N₅' _ hp).2⟩
    refine append_N (pre := []) F₆ N₆ (fun _ h => nomatch h) (fun p hp q => hDf (q ▸ ownOf_sub p hp)) (hJs _ _ hJ) fun h₇ F₇ N₇ => ?_
    refine ih (i + 1) h₇ _ _ _ _ (by omega) hlt (W.frame _ _ _ hst₅ fun b hb o e => ?_) F₇ (List.forall_mem_singleton.mpr (N₇ _ (.head _))) hJ₆
    cases hn : h₀.get? b with
    | some o₀ =>
      have : o₀ = o := by have q := F₅.keep b o₀ hn; rw [e] at q; exact (Option.some.inj q).symm
      exact this ▸ F₇.keep b o₀ hn
    | none => exact (N₇ _ (.tail _ (mem_ownOf hb hn e))).1
/-- a comprehension's loop over single items; what an item makes is kept in a ledger -/
theorem codeC_compW {env : Env} {h₀ : Heap} {R : Result → Shared → Prop} {x : Str} {px : Pos} {elt iter : PySem.Expr} {scope : Scope} {pos : Pos} {I D : Addr} {fp wr : List Addr} {n : Nat} {P : Nat → Value → Prop} {St : Nat → Heap → Prop}
    (W : Walks prog w A I fp wr n P St) (hgo : ∀ v, letOwnedTupleGo (.Name x px) (.ref I) v = pure () := by intro _; rfl)
    (hx : env.kindOf x = some .local)
    (hp : (env.scope.kind == .class || (env.scope.kind == .module && env.locals != env.globals)) = false)
    (hLf : env.locals ∉ fp) (hDf : D ∉ fp) (hwr : ∀ b ∈ wr, h₀.get? b = none) (J : Nat → Array Value → List (Addr × Obj) → Prop) (hJs : ∀ i acc led, J i acc led → acc.size ≤ sizeLine)
    (step : ∀ (i : Nat) (v : Value) (m₁ : Str → Option Value) (acc : Array Value) (k : Nat) (led : List (Addr × Obj)) (h : Heap) (tk : Nat), i < n → P i v → J i acc led → (∀ p ∈ led, p.1 ≠ D ∧ p.1 ∉ fp) →
      Fr h₀ env.locals h (fun y => if y = x then some v else m₁ y) → News h₀ env.locals h ((D, PySem.W.listOf acc k) :: led) → (∀ b ∈ fp, h.get? b ≠ none) →
      wpC (model prog w) A (eval elt env) (fun y s₃ => ∃ h' tk' led', s₃ = { s with heap := h', toks := tk' } ∧ (∀ b o, h.get? b = some o → h'.get? b = some o) ∧ News h₀ env.locals h' led' ∧ (∀ p ∈ led', p.1 ≠ D ∧ p.1 ∉ fp) ∧ J (i + 1) (acc.push y) led')
        (fun _ _ => False) { s with heap := h, toks := tk })
    (hlive : ∀ i h, St i h → ∀ b ∈ fp, h.get? b ≠ none)
    (hR : ∀ h' tk m' acc k led, Fr h₀ env.locals h' m' → News h₀ env.locals h' ((D, PySem.W.listOf acc k) :: led) → (∀ p ∈ led, p.1 ≠ D ∧ p.1 ∉ fp) → J n acc led → R (.ok .next) { s with heap := h', toks := tk }) :
    ∀ j i h tk m acc k led, n - i = j → i ≤ n → St i h → Fr h₀ env.locals h m → News h₀ env.locals h ((D, PySem.W.listOf acc k) :: led) → (∀ p ∈ led, p.1 ≠ D ∧ p.1 ∉ fp) → J i acc led →
      codeC (model prog w) A (.compLoop (.ListComp elt [⟨.Name x px, iter, [], 0⟩] scope pos) 0 (.ref I) (.ref D) env) R { s with heap := h, toks := tk } := by
  have hLw : env.locals ∉ wr := fun h => hLf (W.sub _ h)
  have hDw : D ∉ wr := fun h => hDf (W.sub _ h)
  have old : ∀ b o, h₀.get? b = some o → b ∉ wr := fun b o e hb => by rw [hwr b hb] at e; cases e
  intro j
  induction j with
  | zero =>
    intro i h tk m acc k led hk hi hst F N hled hJ
    obtain rfl : i = n := by omega
    refine codeC_comp_item (W.done _ _ _ hst fun h₁ tk₁ hk₁ => ?_)
    exact hR h₁ tk₁ m acc k led ⟨F.ns.at' fun o e => hk₁ _ o hLw e, fun b o e => hk₁ b o (old b o e) (F.keep b o e), F.above⟩
      (List.forall_mem_cons.mpr ⟨⟨hk₁ _ _ hDw (N _ (.head _)).1, (N _ (.head _)).2⟩, fun p hp => ⟨hk₁ _ _ (fun q => (hled p hp).2 (W.sub _ q)) (N p (.tail _ hp)).1, (N p (.tail _ hp)).2⟩⟩) hled hJ
  | succ j ih =>
    intro i h tk m acc k led hk hi hst F N hled hJ
    have hlt : i < n := by omega
    refine codeC_comp_item (W.item i _ _ _ hlt hst fun v h₁ tk₁ hP hst₁ hk₁ => ?_)
    refine wpAny_of_eq (hgo v) ?_
    have F₁ : Fr h₀ env.locals h₁ m := ⟨F.ns.at' fun o e => hk₁ _ o hLw e, fun b o e => hk₁ b o (old b o e) (F.keep b o e), F.above⟩
    have N₁ : News h₀ env.locals h₁ ((D, PySem.W.listOf acc k) :: led) := List.forall_mem_cons.mpr ⟨⟨hk₁ _ _ hDw (N _ (.head _)).1, (N _ (.head _)).2⟩, fun p hp => ⟨hk₁ _ _ (fun q => (hled p hp).2 (W.sub _ q)) (N p (.tail _ hp)).1, (N p (.tail _ hp)).2⟩⟩
    refine wpAny_assign_Name (wpAny_storeName_local hx F₁.ns (fun h₅ hn₅ hs₅ => ?_) hp)
    replace hs₅ : Heap.SameBut env.locals h₁ h₅ := hs₅
    have F₅ := F₁.set hn₅ hs₅
    have N₅ := N₁.set hs₅
    have hst₅ : St (i + 1) h₅ := W.frame _ _ _ hst₁ fun b hb o e => hs₅.extBut b o (fun q => hLf (q ▸ hb)) e
    refine wpC_mono (step i v m acc k led h₅ _ hlt hP hJ hled F₅ N₅ (hlive _ _ hst₅)) (fun y s₃ h₆ => ?_) fun _ _ e => e
    obtain ⟨h₆, tk₆, led', rfl, hk₆, N₆, hled', hJ₆⟩ := h₆
    have F₆ := F₅.keeps hk₆
    have N₆' : News h₀ env.locals h₆ ((D, PySem.W.listOf acc k) :: (led' ++ ownOf h₀ fp h₅)) := by
      intro p hp
      rcases List.mem_cons.mp hp with rfl | hp
      · exact ⟨hk₆ _ _ (N₅ _ (.head _)).1, (N₅ _ (.head _)).2⟩
      · rcases List.mem_append.mp hp with hp | hp
        · exact N₆ p hp
        · exact ⟨hk₆ _ _ (news_ownOf hLf p hp).1, (news_ownOf hLf p hp).2⟩
    refine append_N (pre := []) F₆ N₆' (fun _ h => nomatch h) (fun p hp q => ?_) (hJs _ _ _ hJ) fun h₇ F₇ N₇ => ?_
    · rcases List.mem_append.mp hp with hp | hp
      · exact (hled' p hp).1 q
      · exact hDf (q ▸ ownOf_sub p hp)
    refine ih (i + 1) h₇ _ _ _ _ led' (by omega) hlt (W.frame _ _ _ hst₅ fun b hb o e => ?_) F₇ (List.forall_mem_cons.mpr ⟨N₇ _ (.head _), fun p hp => N₇ p (.tail _ (List.mem_append_left _ hp))⟩) hled' hJ₆
    cases hn : h₀.get? b with
    | some o₀ =>
      have : o₀ = o := by have q := F₅.keep b o₀ hn; rw [e] at q; exact (Option.some.inj q).symm
      exact this ▸ F₇.keep b o₀ hn
    | none => exact (N₇ _ (.tail _ (List.mem_append_right _ (mem_ownOf hb hn e)))).1
end

section
variable {prog : Program} {w : World} {A : Around} {E : Value → Shared → Prop}
/-- the list and the names' object of a comprehension are made -/
theorem comp_enter {g : Heap} {e : PySem.Expr} {scope : Scope} {cl : List (Str × Addr)} {env : Env} {it : Value} {s₂ : Shared} {RR : Value → Addr → Result → Shared → Prop}
    (hkeep : ∀ b o, g.get? b = some o → s₂.heap.get? b = some o) (hge : g.objs.size ≤ s₂.heap.objs.size) (hcell : ∀ y ∈ scope.names, y.2 ≠ .cell) (hkind : scope.kind = .function)
    (h : ∀ (D C : Nat) h₁, D = s₂.heap.objs.size → C = s₂.heap.objs.size + 1 → Fr g C h₁ (fun _ => none) → News g C h₁ [(D, PySem.W.listOf #[] 0)] → (∀ b o, s₂.heap.get? b = some o → h₁.get? b = some o) →
      codeC (model prog w) A (.compStart e 0 it (.ref D) (compEnvC scope cl C env)) (RR (.ref D) C) { s₂ with heap := h₁ }) :
    wpAny (model prog w) A (newList []) (fun acc s₃ => wpAny (model prog w) A (newFunctionEnv scope env.globals cl [] env.qual none .none (some env)) (fun cenv s₄ =>
      codeC (model prog w) A (.compStart e 0 it acc { cenv with scope := relabel scope env }) (RR acc cenv.locals) s₄) E s₃) E s₂ := by
  refine wpAny_newObj_type (wpAny_newFunctionEnv hcell (by intro y hy; simp at hy) (fun h₁ hns₁ hsb₁ => ?_) hkind)
  dsimp only at hns₁ hsb₁ ⊢
  generalize hH2 : s₂.heap.push { cls := .type "list", dict := none, data := .seq ([] : List Value).toArray } = H2 at hns₁ hsb₁ ⊢
  have hC : H2.objs.size = s₂.heap.objs.size + 1 := by rw [← hH2, Heap.size_push]
  have hDC : s₂.heap.objs.size ≠ H2.objs.size := by rw [hC]; exact Nat.ne_of_lt (Nat.lt_succ_self _)
  have below : ∀ b, b < s₂.heap.objs.size → b ≠ H2.objs.size := fun b hb => by rw [hC]; exact Nat.ne_of_lt (Nat.lt_succ_of_lt hb)
  have old : ∀ b o, s₂.heap.get? b = some o → h₁.get? b = some o := fun b o e => hsb₁.extBut b o (below b (Heap.lt_size e)) (Heap.get?_push_of_some _ (hH2 ▸ Heap.get?_push_of_some _ e))
  have hacc : h₁.get? s₂.heap.objs.size = some (PySem.W.listOf #[] 0) := hsb₁.extBut _ _ hDC (Heap.get?_push_of_some _ (hH2 ▸ Heap.get?_push_size _ rfl))
  have hgD : g.get? s₂.heap.objs.size = none := Heap.get?_none_of_le hge
  exact h s₂.heap.objs.size H2.objs.size h₁ rfl hC ⟨hns₁, fun b o e => old b o (hkeep b o e), by rw [hC]; exact Nat.le_succ_of_le hge⟩ (List.forall_mem_singleton.mpr ⟨hacc, hDC, hgD⟩) old

/-- what a comprehension leaves behind: its list, its names' object, what its items made -/
structure CompDone (s₂ : Shared) (wr : List Addr) (D C : Nat) (h : Heap) (m : Str → Option Value) (acc : Array Value) (k : Nat) (led : List (Addr × Obj)) : Prop where
  dEq : D = s₂.heap.objs.size
  cEq : C = s₂.heap.objs.size + 1
  ns : h.Ns C m
  old : ∀ b o, b ∉ wr → s₂.heap.get? b = some o → h.get? b = some o
  lst : h.get? D = some (PySem.W.listOf acc k)
  led : ∀ p ∈ led, h.get? p.1 = some p.2 ∧ s₂.heap.get? p.1 = none ∧ p.1 ≠ D ∧ p.1 ≠ C

theorem CompDone.of {s₂ : Shared} {fp wr : List Addr} {D C : Nat} {h : Heap} {m : Str → Option Value} {acc : Array Value} {k : Nat} {led : List (Addr × Obj)} (hsub : ∀ b ∈ wr, b ∈ fp) (hD : D = s₂.heap.objs.size) (hC : C = s₂.heap.objs.size + 1)
    (F : Fr (hideAll s₂.heap wr) C h m) (N : News (hideAll s₂.heap wr) C h ((D, PySem.W.listOf acc k) :: led)) (hl : ∀ p ∈ led, p.1 ≠ D ∧ p.1 ∉ fp) : CompDone s₂ wr D C h m acc k led where
  dEq := hD
  cEq := hC
  ns := F.ns
  old := fun b o hb e => F.keep b o (hideAll_get _ e hb)
  lst := (N _ (.head _)).1
  led := fun p hp => ⟨(N p (.tail _ hp)).1, (by
    cases e : s₂.heap.get? p.1 with
    | none => rfl
    | some o => exact absurd ((hideAll_get wr e fun q => (hl p hp).2 (hsub _ q)).symm.trans (N p (.tail _ hp)).2.2) (by intro q; cases q)), (hl p hp).1, (N p (.tail _ hp)).2.1⟩

theorem compW_core {env : Env} {x : Str} {px : Pos} {elt iter : PySem.Expr} {scope : Scope} {cl : List (Str × Addr)} {pos : Pos} {I : Addr} {fp wr : List Addr} {n : Nat} {P : Nat → Value → Prop} {St : Nat → Heap → Prop} {s₂ : Shared} {RR : Value → Addr → Result → Shared → Prop}
    (W : Walks prog w A I fp wr n P St) (hgo : ∀ v, letOwnedTupleGo (.Name x px) (.ref I) v = pure () := by intro _; rfl) (hcell : ∀ y ∈ scope.names, y.2 ≠ .cell) (hkind : scope.kind = .function) (hx : scope.names.lookup x = some .local)
    (hst : St 0 s₂.heap) (hlive : ∀ i h, St i h → ∀ b ∈ fp, h.get? b ≠ none) (J : Nat → Array Value → List (Addr × Obj) → Prop) (hJ : J 0 #[] []) (hJs : ∀ i acc led, J i acc led → acc.size ≤ sizeLine)
    (step : ∀ (D C : Nat) (i : Nat) (v : Value) (m₁ : Str → Option Value) (acc : Array Value) (k : Nat) (led : List (Addr × Obj)) (h : Heap) (tk : Nat), i < n → P i v → J i acc led → CompDone s₂ wr D C h (fun y => if y = x then some v else m₁ y) acc k led → (∀ b ∈ wr, h.get? b ≠ none) →
      wpC (model prog w) A (eval elt (compEnvC scope cl C env)) (fun y s₃ => ∃ h' tk' led', s₃ = { s₂ with heap := h', toks := tk' } ∧ (∀ b o, h.get? b = some o → h'.get? b = some o) ∧ (∀ p ∈ led', h'.get? p.1 = some p.2 ∧ s₂.heap.get? p.1 = none ∧ p.1 ≠ D ∧ p.1 ≠ C) ∧ J (i + 1) (acc.push y) led')
        (fun _ _ => False) { s₂ with heap := h, toks := tk })
    (fin : ∀ D C h tk m acc k led, CompDone s₂ wr D C h m acc k led → J n acc led → RR (.ref D) C (.ok .next) { s₂ with heap := h, toks := tk }) :
    wpAny (model prog w) A (newList []) (fun acc s₃ => wpAny (model prog w) A (newFunctionEnv scope env.globals cl [] env.qual none .none (some env)) (fun cenv s₄ =>
      codeC (model prog w) A (.compStart (.ListComp elt [⟨.Name x px, iter, [], 0⟩] scope pos) 0 (.ref I) acc { cenv with scope := relabel scope env }) (RR acc cenv.locals) s₄) E s₃) E s₂ := by
  have live₂ : ∀ b ∈ fp, b < s₂.heap.objs.size := fun b hb => by
    cases e : s₂.heap.get? b with
    | none => exact absurd e (hlive _ _ hst b hb)
    | some o => exact Heap.lt_size e
  refine comp_enter (g := hideAll s₂.heap wr) (fun b o e => of_hideAll _ e) (Nat.le_of_eq (hideAll_size _ _)) hcell hkind fun D C h₁ hD hC F N hk => ?_
  have hDf : D ∉ fp := fun hm => by have := live₂ _ hm; rw [hD] at this; exact Nat.lt_irrefl _ this
  have hCf : C ∉ fp := fun hm => by have := live₂ _ hm; rw [hC] at this; exact Nat.lt_irrefl _ (Nat.lt_of_succ_lt this)
  have hst₁ : St 0 h₁ := W.frame _ _ _ hst fun b _ o e => hk b o e
  refine codeC_compStart_list ?_ fun Q E hQ => W.self 0 _ _ _ hst₁ hQ
  refine codeC_compW (s := s₂) (env := compEnvC scope cl C env) W hgo (lookup_relabel_local hx) (by simp [compEnvC, relabel, hkind]) hCf hDf (fun b hb => hideAll_none _ hb) J hJs
    (fun i v m₁ acc k led h tk hi hP hJ hl F' N' hlv => ?_) hlive (fun h' tk m' acc k led F' N' hl hJ => fin D C h' tk m' acc k led (.of W.sub hD hC F' N' hl) hJ) n 0 h₁ _ _ _ 0 [] (Nat.sub_zero n) (Nat.zero_le _) hst₁ F N (fun _ h => nomatch h) hJ
  have CD : CompDone s₂ wr D C h _ acc k led := .of W.sub hD hC F' N' hl
  refine wpC_mono (step D C i v m₁ acc k led h tk hi hP hJ CD fun b hb => hlv b (W.sub b hb)) (fun y s₃ h₃ => ?_) fun _ _ x => x
  obtain ⟨h', tk', led', rfl, hk', hl', hJ'⟩ := h₃
  refine ⟨h', tk', led', rfl, hk', fun p hp => ⟨(hl' p hp).1, (hl' p hp).2.2.2, ?_⟩, fun p hp => ⟨(hl' p hp).2.2.1, fun q => ?_⟩, hJ'⟩
  · cases e : (hideAll s₂.heap wr).get? p.1 with
    | none => rfl
    | some o => have := of_hideAll _ e; rw [(hl' p hp).2.1] at this; cases this
  · have := live₂ _ q
    cases e : s₂.heap.get? p.1 with
    | none => exact hlive _ _ hst _ q e
    | some o => rw [(hl' p hp).2.1] at e; cases e

theorem compZip_core {env : Env} {xi xc : Str} {pk pv pt : Pos} {x1 : Nat} {elt iter : PySem.Expr} {scope : Scope} {cl : List (Str × Addr)} {pos : Pos} {I : Addr} {fp wr : List Addr} {n : Nat} {Pt : Nat → Array Value → Prop} {St : Nat → Heap → Prop} {Mid : Nat → Addr → Heap → Prop} {P2 : Nat → Value → Value → Prop} {s₂ : Shared} {RR : Value → Addr → Result → Shared → Prop}
    (hh : A.handled = none) (W : WalksT prog w A I fp wr n Pt St Mid) (h2 : ∀ i vals, Pt i vals → ∃ v0 v1, vals = #[v0, v1] ∧ P2 i v0 v1) (hcell : ∀ y ∈ scope.names, y.2 ≠ .cell) (hkind : scope.kind = .function)
    (hxi : scope.names.lookup xi = some .local) (hxc : scope.names.lookup xc = some .local)
    (hst : St 0 s₂.heap) (hlive : ∀ i h, St i h → ∀ b ∈ fp, b < h.objs.size) (J : Nat → Array Value → Prop) (hJ : J 0 #[]) (hJs : ∀ i acc, J i acc → acc.size ≤ sizeLine)
    (step : ∀ (D C : Nat) (i : Nat) (v0 v1 : Value) (m₁ : Str → Option Value) (acc : Array Value) (k : Nat) (h : Heap) (tk : Nat), i < n → P2 i v0 v1 → J i acc → CompDone s₂ wr D C h (fun y => if y = xc then some v1 else if y = xi then some v0 else m₁ y) acc k [] →
      wpC (model prog w) A (eval elt (compEnvC scope cl C env)) (fun y s₃ => ∃ h' tk', s₃ = { s₂ with heap := h', toks := tk' } ∧ (∀ b o, h.get? b = some o → h'.get? b = some o) ∧ J (i + 1) (acc.push y))
        (fun _ _ => False) { s₂ with heap := h, toks := tk })
    (fin : ∀ D C h tk m acc k, CompDone s₂ wr D C h m acc k [] → J n acc → RR (.ref D) C (.ok .next) { s₂ with heap := h, toks := tk }) :
    wpAny (model prog w) A (newList []) (fun acc s₃ => wpAny (model prog w) A (newFunctionEnv scope env.globals cl [] env.qual none .none (some env)) (fun cenv s₄ =>
      codeC (model prog w) A (.compStart (.ListComp elt [⟨.Tuple [.Name xi pk, .Name xc pv] x1 pt, iter, [], 0⟩] scope pos) 0 (.ref I) acc { cenv with scope := relabel scope env }) (RR acc cenv.locals) s₄) E s₃) E s₂ := by
  have live₂ : ∀ b ∈ fp, b < s₂.heap.objs.size := hlive _ _ hst
  refine comp_enter (g := hideAll s₂.heap wr) (fun b o e => of_hideAll _ e) (Nat.le_of_eq (hideAll_size _ _)) hcell hkind fun D C h₁ hD hC F N hk => ?_
  have hDf : D ∉ fp := fun hm => by have := live₂ _ hm; rw [hD] at this; exact Nat.lt_irrefl _ this
  have hCf : C ∉ fp := fun hm => by have := live₂ _ hm; rw [hC] at this; exact Nat.lt_irrefl _ (Nat.lt_of_succ_lt this)
  have hst₁ : St 0 h₁ := W.frame _ _ _ hst fun b _ o e => hk b o e
  refine codeC_compStart_list ?_ fun Q E hQ => W.self 0 _ _ _ hst₁ hQ
  refine codeC_compZip (s := s₂) (env := compEnvC scope cl C env) hh W h2 (lookup_relabel_local hxi) (lookup_relabel_local hxc) (by simp [compEnvC, relabel, hkind]) hCf hDf (fun b hb => hideAll_none _ hb) J hJs
    (fun i v0 v1 m₁ acc k h tk own hi hP hJ F' N' => step D C i v0 v1 m₁ acc k h tk hi hP hJ (.of W.sub hD hC F' (fun p hp => N' p (List.mem_singleton.mp hp ▸ .head _)) fun _ h => nomatch h))
    (fun h' tk m' acc k F' N' hJ => fin D C h' tk m' acc k (.of W.sub hD hC F' N' fun _ h => nomatch h) hJ) n 0 h₁ _ _ _ 0 (Nat.sub_zero n) (Nat.zero_le _) hst₁ F N hJ

/-- the outer frame after a comprehension -/
theorem CompDone.frame {h₀ : Heap} {L : Addr} {m₀ : Str → Option Value} {news : List (Addr × Obj)} {s₂ : Shared} {wr : List Addr} {D C : Nat} {h h' : Heap} {m : Str → Option Value} {acc : Array Value} {k : Nat} {led : List (Addr × Obj)} (X : CompDone s₂ wr D C h m acc k led)
    (F : Fr h₀ L s₂.heap m₀) (N : News h₀ L s₂.heap news) (hw : ∀ b ∈ wr, h₀.get? b = none) (hLw : L ∉ wr) (hnw : ∀ p ∈ news, p.1 ∉ wr) (hs : ∀ b o, b ≠ C → h.get? b = some o → h'.get? b = some o) :
    Fr h₀ L h' m₀ ∧ News h₀ L h' ((D, PySem.W.listOf acc k) :: (led ++ news)) ∧ ∀ p ∈ news, p.1 < D := by
  have hC : s₂.heap.get? C = none := Heap.get?_none_of_le (by rw [X.cEq]; exact Nat.le_succ _)
  have hD : s₂.heap.get? D = none := Heap.get?_none_of_le (by rw [X.dEq]; exact Nat.le_refl _)
  have up : ∀ b o, b ∉ wr → s₂.heap.get? b = some o → h'.get? b = some o := fun b o hb e => hs b o (fun q => by rw [q, hC] at e; cases e) (X.old b o hb e)
  have hLC : L ≠ C := by rw [X.cEq]; exact Nat.ne_of_lt (Nat.lt_succ_of_lt F.ns.lt)
  have hLD : L ≠ D := by rw [X.dEq]; exact Nat.ne_of_lt F.ns.lt
  have fresh : ∀ a, s₂.heap.get? a = none → h₀.get? a = none := fun a ha => by
    cases e : h₀.get? a with
    | none => rfl
    | some o => rw [F.keep _ _ e] at ha; cases ha
  have hL2 : ∀ a, s₂.heap.get? a = none → a ≠ L := fun a ha q => by
    obtain ⟨_, _, _, ho, _⟩ := F.ns
    rw [← q, ha] at ho; cases ho
  refine ⟨⟨F.ns.at' fun o e => up L o hLw e, fun b o e => up b o (fun q => by rw [hw b q] at e; cases e) (F.keep b o e), F.above⟩, fun p hp => ?_, fun p hp => X.dEq ▸ Heap.lt_size (N p hp).1⟩
  rcases List.mem_cons.mp hp with rfl | hp
  · exact ⟨hs _ _ (by rw [X.dEq, X.cEq]; exact Nat.ne_of_lt (Nat.lt_succ_self _)) X.lst, Ne.symm hLD, fresh _ hD⟩
  · rcases List.mem_append.mp hp with hp | hp
    · have := X.led p hp
      exact ⟨hs _ _ this.2.2.2 this.1, hL2 _ this.2.1, fresh _ this.2.1⟩
    · exact ⟨up _ _ (hnw p hp) (N p hp).1, (N p hp).2⟩

/-- the value of a comprehension -/
theorem wpC_ListComp {env : Env} {s : Shared} {elt iter target : PySem.Expr} {scope : Scope} {cl : List (Str × Addr)} {pos : Pos} {Q : Value → Shared → Prop}
    (hclos : closureFor scope env = pure cl) (hkind : scope.kind = .function)
    (hnames : ∀ y ∈ scope.names, y.2 = .local → scope.names.lookup y.1 = some .local)
    (h : wpAny (model prog w) A (eval iter env) (fun xv s₁ => wpAny (model prog w) A (pyIter xv) (fun it s₂ =>
      wpAny (model prog w) A (newList []) (fun acc s₃ => wpAny (model prog w) A (newFunctionEnv scope env.globals cl [] env.qual none .none (some env)) (fun cenv s₄ =>
        codeC (model prog w) A (.compStart (.ListComp elt [⟨target, iter, [], 0⟩] scope pos) 0 it acc { cenv with scope := relabel scope env }) (compEnd (model prog w) A E none Q acc cenv.locals) s₄) E s₃) E s₂) E s₁) E s)
    (hs : ∀ x, foldedSetIterable iter env x = pure x := by intro _; rfl) :
    wpC (model prog w) A (eval (.ListComp elt [⟨target, iter, [], 0⟩] scope pos) env) Q E s := by
  rw [eval_ListComp]
  exact wpC_comprehension (use := none) rfl hs hclos hkind hnames h
/-- its value under a name -/
theorem wpC_Assign_ListComp {env : Env} {s : Shared} {elt iter target : PySem.Expr} {y : Str} {py : Pos} {scope : Scope} {cl : List (Str × Addr)} {pos spos : Pos} {Q : Flow → Shared → Prop}
    (hclos : closureFor scope env = pure cl) (hkind : scope.kind = .function)
    (hnames : ∀ y ∈ scope.names, y.2 = .local → scope.names.lookup y.1 = some .local)
    (h : wpAny (model prog w) A (eval iter env) (fun xv s₁ => wpAny (model prog w) A (pyIter xv) (fun it s₂ =>
      wpAny (model prog w) A (newList []) (fun acc s₃ => wpAny (model prog w) A (newFunctionEnv scope env.globals cl [] env.qual none .none (some env)) (fun cenv s₄ =>
        codeC (model prog w) A (.compStart (.ListComp elt [⟨target, iter, [], 0⟩] scope pos) 0 it acc { cenv with scope := relabel scope env }) (compEnd (model prog w) A E (some (assign (.Name y py) env)) (fun _ s' => Q .next s') acc cenv.locals) s₄) E s₃) E s₂) E s₁) E s)
    (hsw : swapsWith (.ListComp elt [⟨target, iter, [], 0⟩] scope pos) (some (.Name y py)) spos.line env = pure true)
    (hs : ∀ x, foldedSetIterable iter env x = pure x := by intro _; rfl) :
    wpC (model prog w) A (exec (.Assign [.Name y py] (.ListComp elt [⟨target, iter, [], 0⟩] scope pos) spos) env) Q E s := by
  rw [exec_Assign_Name_used _ _ _ _ hsw]
  refine wpC_bind (wpC_standAt (wpC_bind ?_))
  show wpC _ A (do let _ ← comprehension (.ListComp elt [⟨target, iter, [], 0⟩] scope pos) scope env _ (newList []) false (eval iter env) (some (assign (.Name y py) env))) _ _ s
  refine wpC_bind (wpC_mono (wpC_comprehension (use := some (assign (.Name y py) env)) (Q := fun _ s' => Q .next s') rfl hs hclos hkind hnames h) (fun _ s' hq => wpC_pure (wpC_pure hq)) fun _ _ e => e)

theorem CompDone.value {h₀ : Heap} {L : Addr} {m₀ : Str → Option Value} {news : List (Addr × Obj)} {s₂ : Shared} {wr : List Addr} {D C : Nat} {h : Heap} {tk : Nat} {m : Str → Option Value} {acc : Array Value} {k : Nat} {led : List (Addr × Obj)} {Q : Value → Shared → Prop} (X : CompDone s₂ wr D C h m acc k led)
    (F : Fr h₀ L s₂.heap m₀) (N : News h₀ L s₂.heap news) (hw : ∀ b ∈ wr, h₀.get? b = none) (hLw : L ∉ wr) (hnw : ∀ p ∈ news, p.1 ∉ wr)
    (hQ : ∀ h', Fr h₀ L h' m₀ → News h₀ L h' ((D, PySem.W.listOf acc k) :: (led ++ news)) → (∀ p ∈ news, p.1 < D) → Q (.ref D) { s₂ with heap := h', toks := tk }) :
    compEnd (model prog w) A E none Q (.ref D) C (.ok .next) { s₂ with heap := h, toks := tk } :=
  ⟨m, X.ns, fun h' hs => let ⟨a, b, c⟩ := X.frame F N hw hLw hnw fun b o hb e => Heap.SameBut.extBut hs b o hb e; hQ h' a b c⟩
theorem CompDone.named {h₀ : Heap} {env : Env} {y : Str} {py : Pos} {m₀ : Str → Option Value} {news : List (Addr × Obj)} {s₂ : Shared} {wr : List Addr} {D C : Nat} {h : Heap} {tk : Nat} {m : Str → Option Value} {acc : Array Value} {k : Nat} {led : List (Addr × Obj)} {Q : Value → Shared → Prop} (X : CompDone s₂ wr D C h m acc k led)
    (hy : env.kindOf y = some .local) (hp : (env.scope.kind == .class || (env.scope.kind == .module && env.locals != env.globals)) = false)
    (F : Fr h₀ env.locals s₂.heap m₀) (N : News h₀ env.locals s₂.heap news) (hw : ∀ b ∈ wr, h₀.get? b = none) (hLw : env.locals ∉ wr) (hnw : ∀ p ∈ news, p.1 ∉ wr)
    (hQ : ∀ h' tk', Fr h₀ env.locals h' (fun z => if z = y then some (.ref D) else m₀ z) → News h₀ env.locals h' ((D, PySem.W.listOf acc k) :: (led ++ news)) → (∀ p ∈ news, p.1 < D) → Q .none { s₂ with heap := h', toks := tk' }) :
    compEnd (model prog w) A E (some (assign (.Name y py) env)) Q (.ref D) C (.ok .next) { s₂ with heap := h, toks := tk } := by
  obtain ⟨F₁, N₁, hlt⟩ := X.frame F N hw hLw hnw fun b o _ e => e
  have hLC : env.locals ≠ C := by rw [X.cEq]; exact Nat.ne_of_lt (Nat.lt_succ_of_lt F.ns.lt)
  show wpAny _ _ (assign (.Name y py) env (.ref D)) _ _ _
  refine wpAny_assign_Name (wpAny_storeName_local hy F₁.ns (fun h₂ hn₂ hs₂ => ?_) hp)
  refine ⟨m, X.ns.sameBut hs₂ (Ne.symm hLC), fun h₃ hs₃ => ?_⟩
  have F₂ := F₁.set hn₂ hs₂
  have N₂ := N₁.set hs₂
  have hC : s₂.heap.get? C = none := Heap.get?_none_of_le (by rw [X.cEq]; exact Nat.le_succ _)
  have hCn : ∀ p ∈ (D, PySem.W.listOf acc k) :: (led ++ news), p.1 ≠ C := by
    intro p hp
    rcases List.mem_cons.mp hp with rfl | hp
    · rw [X.dEq, X.cEq]; exact Nat.ne_of_lt (Nat.lt_succ_self _)
    · rcases List.mem_append.mp hp with hp | hp
      · exact (X.led p hp).2.2.2
      · intro q; have := (N p hp).1; rw [q, hC] at this; cases this
  refine hQ h₃ _ ⟨F₂.ns.sameBut hs₃ hLC, fun b o e => hs₃.extBut b o (fun q => ?_) (F₂.keep b o e), F₂.above⟩ (fun p hp => ⟨hs₃.extBut _ _ (hCn p hp) (N₂ p hp).1, (N₂ p hp).2⟩) hlt
  rw [q] at e
  rw [F.keep _ _ e] at hC; cases hC
end
end Mine

set_option autoImplicit false
set_option maxRecDepth 100000
namespace Mine
open PySem PySem.Calls PySem.Spec PySem.W PyProof.Rows
open PySem.Sem (wp)

section
variable {prog : Program} {w : World} {A : Around} {s : Shared}
theorem own_all {h₀ h : Heap} {fp : List Addr} (hl : ∀ b ∈ fp, h.get? b ≠ none) : ∀ b ∈ fp, h₀.get? b = none → ∃ o, (b, o) ∈ ownOf h₀ fp h := fun b hb hn => by
  cases e : h.get? b with
  | none => exact absurd e (hl b hb)
  | some o => exact ⟨o, mem_ownOf hb hn e⟩
/-- a loop over single items; the ledger may grow -/
theorem codeC_forW {env : Env} {h₀ : Heap} {R : Result → Shared → Prop} {x : Str} {px : Pos} {body : List Stmt} {I : Addr} {fp wr : List Addr} {n : Nat} {P : Nat → Value → Prop} {St : Nat → Heap → Prop}
    (W : Walks prog w A I fp wr n P St) (hgo : ∀ v, letOwnedTupleGo (.Name x px) (.ref I) v = pure () := by intro _; rfl)
    (hx : env.kindOf x = some .local)
    (hp : (env.scope.kind == .class || (env.scope.kind == .module && env.locals != env.globals)) = false)
    (hLf : env.locals ∉ fp) (hwr : ∀ b ∈ wr, h₀.get? b = none)
    (J : Nat → (Str → Option Value) → List (Addr × Obj) → Prop)
    (step : ∀ (i : Nat) (v : Value) (m₁ : Str → Option Value) (led₁ : List (Addr × Obj)) (h : Heap) (tk : Nat) (own : List (Addr × Obj)), i < n → P i v → J i m₁ led₁ → (∀ p ∈ own, p.1 ∈ fp) → (∀ p ∈ led₁, p.1 ∉ fp) →
      Fr h₀ env.locals h (fun y => if y = x then some v else m₁ y) → News h₀ env.locals h (led₁ ++ own) → (∀ b ∈ fp, h₀.get? b = none → ∃ o, (b, o) ∈ own) →
      wpC (model prog w) A (execs body env) (fun f s₃ => f = .next ∧ ∃ h' tk' m' led', s₃ = { s with heap := h', toks := tk' } ∧ Fr h₀ env.locals h' m' ∧ News h₀ env.locals h' (led' ++ own) ∧ (∀ p ∈ led', p.1 ∉ fp) ∧ J (i + 1) m' led')
        (fun _ _ => False) { s with heap := h, toks := tk })
    (hlive : ∀ i h, St i h → ∀ b ∈ fp, h.get? b ≠ none)
    (hR : ∀ h' tk m' led', Fr h₀ env.locals h' m' → News h₀ env.locals h' led' → J n m' led' → R (.ok .next) { s with heap := h', toks := tk }) :
    ∀ k i h tk m led, n - i = k → i ≤ n → St i h → Fr h₀ env.locals h m → News h₀ env.locals h led → (∀ p ∈ led, p.1 ∉ fp) → J i m led →
      codeC (model prog w) A (.forLoop (.Name x px) (.ref I) body [] env) R { s with heap := h, toks := tk } := by
  have hLw : env.locals ∉ wr := fun h => hLf (W.sub _ h)
  have old : ∀ b o, h₀.get? b = some o → b ∉ wr := fun b o e hb => by rw [hwr b hb] at e; cases e
  intro k
  induction k with
  | zero =>
    intro i h tk m led hk hi hst F N hl hJ
    obtain rfl : i = n := by omega
    refine codeC_for_item (W.done _ _ _ hst fun h₁ tk₁ hk₁ => ?_)
    exact hR h₁ tk₁ m led ⟨F.ns.at' fun o e => hk₁ _ o hLw e, fun b o e => hk₁ b o (old b o e) (F.keep b o e), F.above⟩
      (fun p hp => ⟨hk₁ _ _ (fun hw => hl p hp (W.sub _ hw)) (N p hp).1, (N p hp).2⟩) hJ
  | succ k ih =>
    intro i h tk m led hk hi hst F N hl hJ
    have hlt : i < n := by omega
    refine codeC_for_item (W.item i _ _ _ hlt hst fun v h₁ tk₁ hP hst₁ hk₁ => ?_)
    refine wpAny_of_eq (hgo v) ?_
    have F₁ : Fr h₀ env.locals h₁ m := ⟨F.ns.at' fun o e => hk₁ _ o hLw e, fun b o e => hk₁ b o (old b o e) (F.keep b o e), F.above⟩
    have N₁ : News h₀ env.locals h₁ led := fun p hp => ⟨hk₁ _ _ (fun hw => hl p hp (W.sub _ hw)) (N p hp).1, (N p hp).2⟩
    refine wpAny_assign_Name (wpAny_storeName_local hx F₁.ns (fun h₅ hn₅ hs₅ => ?_) hp)
    replace hs₅ : Heap.SameBut env.locals h₁ h₅ := hs₅
    have F₅ := F₁.set hn₅ hs₅
    have N₅ := N₁.set hs₅
    have hst₅ : St (i + 1) h₅ := W.frame _ _ _ hst₁ fun b hb o e => hs₅.extBut b o (fun q => hLf (q ▸ hb)) e
    refine wpC_mono (step i v m led h₅ _ (ownOf h₀ fp h₅) hlt hP hJ ownOf_sub hl F₅ (fun p hp => (List.mem_append.mp hp).elim (N₅ p) (news_ownOf hLf p)) (own_all (hlive _ _ hst₅))) (fun f s₃ h₆ => ?_) fun _ _ e => e
    obtain ⟨rfl, h', tk', m', led', rfl, F', N', hl', hJ'⟩ := h₆
    refine ⟨rfl, ih (i + 1) h' tk' m' led' (by omega) hlt (W.frame _ _ _ hst₅ fun b hb o e => ?_) F' (fun p hp => N' p (List.mem_append_left _ hp)) hl' hJ'⟩
    cases hn : h₀.get? b with
    | some o₀ =>
      have : o₀ = o := by have q := F₅.keep b o₀ hn; rw [e] at q; exact (Option.some.inj q).symm
      exact this ▸ F'.keep b o₀ hn
    | none => exact (N' _ (List.mem_append_right _ (mem_ownOf hb hn e))).1

theorem codeC_forZip2 {env : Env} {h₀ : Heap} {R : Result → Shared → Prop} {xi xc : Str} {pk pv pt : Pos} {x1 : Nat} {body : List Stmt} {I : Addr} {fp wr : List Addr} {n : Nat} {Pt : Nat → Array Value → Prop} {St : Nat → Heap → Prop} {Mid : Nat → Addr → Heap → Prop}
    {P2 : Nat → Value → Value → Prop} (hh : A.handled = none) (W : WalksT prog w A I fp wr n Pt St Mid) (h2 : ∀ i vals, Pt i vals → ∃ v0 v1, vals = #[v0, v1] ∧ P2 i v0 v1)
    (hxi : env.kindOf xi = some .local) (hxc : env.kindOf xc = some .local)
    (hp : (env.scope.kind == .class || (env.scope.kind == .module && env.locals != env.globals)) = false)
    (hLf : env.locals ∉ fp) (hwr : ∀ b ∈ wr, h₀.get? b = none)
    (J : Nat → (Str → Option Value) → List (Addr × Obj) → Prop)
    (step : ∀ i v0 v1 m₁ led₁ h tk own, i < n → P2 i v0 v1 → J i m₁ led₁ → (∀ p ∈ own, p.1 ∈ fp) → (∀ p ∈ led₁, p.1 ∉ fp) →
      Fr h₀ env.locals h (fun y => if y = xc then some v1 else if y = xi then some v0 else m₁ y) → News h₀ env.locals h (led₁ ++ own) → (∀ b ∈ fp, h₀.get? b = none → ∃ o, (b, o) ∈ own) →
      wpC (model prog w) A (execs body env) (fun f s₃ => f = .next ∧ ∃ h' tk' m' led', s₃ = { s with heap := h', toks := tk' } ∧ Fr h₀ env.locals h' m' ∧ News h₀ env.locals h' (led' ++ own) ∧ (∀ p ∈ led', p.1 ∉ fp) ∧ J (i + 1) m' led')
        (fun _ _ => False) { s with heap := h, toks := tk })
    (hlive : ∀ i h, St i h → ∀ b ∈ fp, h.get? b ≠ none)
    (hR : ∀ h' tk m' led', Fr h₀ env.locals h' m' → News h₀ env.locals h' led' → J n m' led' → R (.ok .next) { s with heap := h', toks := tk }) :
    ∀ k i h tk m led, n - i = k → i ≤ n → St i h → Fr h₀ env.locals h m → News h₀ env.locals h led → (∀ p ∈ led, p.1 ∉ fp) → J i m led →
      codeC (model prog w) A (.forLoop (.Tuple [.Name xi pk, .Name xc pv] x1 pt) (.ref I) body [] env) R { s with heap := h, toks := tk } := by
  have hLw : env.locals ∉ wr := fun h => hLf (W.sub _ h)
  have old : ∀ b o, h₀.get? b = some o → b ∉ wr := fun b o e hb => by rw [hwr b hb] at e; cases e
  intro k
  induction k with
  | zero =>
    intro i h tk m led hk hi hst F N hl hJ
    obtain rfl : i = n := by omega
    refine codeC_for_item (W.done _ _ _ hst fun h₁ tk₁ hk₁ => ?_)
    exact hR h₁ tk₁ m led ⟨F.ns.at' fun o e => hk₁ _ o hLw e, fun b o e => hk₁ b o (old b o e) (F.keep b o e), F.above⟩
      (fun p hp => ⟨hk₁ _ _ (fun hw => hl p hp (W.sub _ hw)) (N p hp).1, (N p hp).2⟩) hJ
  | succ k ih =>
    intro i h tk m led hk hi hst F N hl hJ
    have hlt : i < n := by omega
    refine codeC_for_item (W.item i _ _ _ hlt hst fun T vals h₁ tk₁ hPt _ hT hMid hk₁ => ?_)
    obtain ⟨v0, v1, rfl, hP2⟩ := h2 i vals hPt
    refine W.go _ x1 pt i T _ _ _ hMid fun h₂ hst₂ hk₂ => ?_
    have ht₂ : h₂.IsTuple T #[v0, v1] := hT.at fun o e => hk₂ T o (W.apart i T h₁ hMid) e
    refine wpAny_assign_Tuple hh ht₂ rfl rfl fun h₃ hx₃ => ?_
    replace hx₃ : Heap.ExtBut h₂.objs.size h₂ h₃ := hx₃
    have up₃ : ∀ b o, h₂.get? b = some o → h₃.get? b = some o := fun b o x => hx₃ b o (Nat.ne_of_lt (Heap.lt_size x)) x
    have up : ∀ b o, b ∉ wr → h.get? b = some o → h₃.get? b = some o := fun b o hb x => up₃ b o (hk₂ b o hb (hk₁ b o hb x))
    have F₃ : Fr h₀ env.locals h₃ m := ⟨F.ns.at' fun o e => up _ o hLw e, fun b o e => up b o (old b o e) (F.keep b o e), F.above⟩
    have N₃ : News h₀ env.locals h₃ led := fun p hp => ⟨up _ _ (fun hw => hl p hp (W.sub _ hw)) (N p hp).1, (N p hp).2⟩
    show wpAny _ A (do holding [v1] (assign (.Name xi pk) env v0); do holding [] (assign (.Name xc pv) env v1); pure ()) _ _ _
    refine wpAny_bind (wpAny_holding (wpAny_assign_Name (wpAny_storeName_local hxi F₃.ns (fun h₄ hn₄ hs₄ => ?_) hp)))
    replace hs₄ : Heap.SameBut env.locals h₃ h₄ := hs₄
    have F₄ := F₃.set hn₄ hs₄
    refine wpAny_bind (wpAny_holding (wpAny_assign_Name (wpAny_storeName_local hxc F₄.ns (fun h₅ hn₅ hs₅ => wpAny_pure ?_) hp)))
    replace hs₅ : Heap.SameBut env.locals h₄ h₅ := hs₅
    have F₅ := F₄.set hn₅ hs₅
    have N₅ : News h₀ env.locals h₅ led := (N₃.set hs₄).set hs₅
    have hst₅ : St (i + 1) h₅ := W.frame _ _ _ hst₂ fun b hb o e => hs₅.extBut b o (fun q => hLf (q ▸ hb)) (hs₄.extBut b o (fun q => hLf (q ▸ hb)) (up₃ b o e))
    refine wpC_mono (step i v0 v1 m led h₅ _ (ownOf h₀ fp h₅) hlt hP2 hJ ownOf_sub hl F₅ (fun p hp => (List.mem_append.mp hp).elim (N₅ p) (news_ownOf hLf p)) (own_all (hlive _ _ hst₅))) (fun f s₃ h₆ => ?_) fun _ _ e => e
    obtain ⟨rfl, h', tk', m', led', rfl, F', N', hl', hJ'⟩ := h₆
    refine ⟨rfl, ih (i + 1) h' tk' m' led' (by omega) hlt (W.frame _ _ _ hst₅ fun b hb o e => ?_) F' (fun p hp => N' p (List.mem_append_left _ hp)) hl' hJ'⟩
    cases hn : h₀.get? b with
    | some o₀ =>
      have : o₀ = o := by have q := F₅.keep b o₀ hn; rw [e] at q; exact (Option.some.inj q).symm
      exact this ▸ F'.keep b o₀ hn
    | none => exact (N' _ (List.mem_append_right _ (mem_ownOf hb hn e))).1
theorem zip_start2 {h₀ : Heap} {L l1 l2 : Addr} {E : Value → Shared → Prop} {xs ys : Array Value} {m : Str → Option Value} {news : List (Addr × Obj)} {Q : Value → Shared → Prop}
    (F : Fr h₀ L s.heap m) (N : News h₀ L s.heap news) (hl1 : s.heap.IsList l1 xs) (hl2 : s.heap.IsList l2 ys)
    (k : ∀ (q : Nat) h', ZipApart (q + 4) (q + 2) (q + 3) q (q + 1) l1 l2 → (IsZip h' (q + 4) (q + 2) (q + 3) .none ∧ IsPair h' (q + 2) (.ref q) (.ref (q + 1)) ∧ (∃ a b, IsPair h' (q + 3) a b) ∧ h'.IsListIter q l1 0 ∧ h'.IsListIter (q + 1) l2 0 ∧ h'.IsList l1 xs ∧ h'.IsList l2 ys) →
      Fr h₀ L h' m → News h₀ L h' news → (∀ p ∈ news, p.1 < q) → (∀ p ∈ news, p.1 ∉ [q + 4, q + 3, q, q + 1]) → L < q → L ∉ [q + 4, q + 3, q, q + 1] → (∀ b ∈ [q + 4, q + 2, q + 3, q, q + 1], h₀.get? b = none) → (∀ b o, s.heap.get? b = some o → h'.get? b = some o) → wpAny (model prog w) A (pyIter (.ref (q + 4))) Q E { s with heap := h' }) :
    wpAny (model prog w) A (call (.type "zip") [.ref l1, .ref l2]) (fun x s₁ => wpAny (model prog w) A (pyIter x) Q E s₁) E s := by
  have c1 : l1 < s.heap.objs.size := by obtain ⟨_, e, _⟩ := hl1; exact Heap.lt_size e
  have c2 : l2 < s.heap.objs.size := by obtain ⟨_, e, _⟩ := hl2; exact Heap.lt_size e
  have fp : ∀ b : Addr, b < s.heap.objs.size → b ∉ [s.heap.objs.size + 4, s.heap.objs.size + 3, s.heap.objs.size, s.heap.objs.size + 1] := by
    intro b h1 h4
    have g : ∀ k, b ≠ s.heap.objs.size + k := fun k => Nat.ne_of_lt (Nat.lt_of_lt_of_le h1 (Nat.le_add_right _ k))
    simp only [List.mem_cons, List.not_mem_nil, or_false] at h4
    rcases h4 with h4 | h4 | h4 | h4
    · exact g 4 h4
    · exact g 3 h4
    · exact g 0 h4
    · exact g 1 h4
  refine call_zip_2 hl1 hl2 fun h₅ hzz hTI hTO hi1 hi2 hsz₅ hk₅ => ?_
  refine k _ h₅ (ktu_apart _ l1 l2 c1 c2) ⟨hzz, hTI, ⟨_, _, hTO⟩, hi1, hi2, hl1.at fun o e => hk₅ _ o e, hl2.at fun o e => hk₅ _ o e⟩ (F.keeps hk₅) (fun p hp => ⟨hk₅ _ _ (N p hp).1, (N p hp).2⟩) (fun p hp => Heap.lt_size (N p hp).1) (fun p hp => fp _ (Heap.lt_size (N p hp).1))
    F.ns.lt (fp _ F.ns.lt) (fun b hb => ktu_new F ?_) hk₅
  simp only [List.mem_cons, List.not_mem_nil, or_false] at hb
  rcases hb with e | e | e | e | e <;> rw [e]
  · exact Nat.le_add_right _ 4
  · exact Nat.le_add_right _ 2
  · exact Nat.le_add_right _ 3
  · exact Nat.le_refl _
  · exact Nat.le_add_right _ 1
theorem zip_live' {z TI TO i1 i2 l1 l2 : Addr} {xs ys : Array Value} (i : Nat) (h : Heap) (hst : IsZip h z TI TO .none ∧ IsPair h TI (.ref i1) (.ref i2) ∧ (∃ a b, IsPair h TO a b) ∧ h.IsListIter i1 l1 i ∧ h.IsListIter i2 l2 i ∧ h.IsList l1 xs ∧ h.IsList l2 ys) :
    ∀ b ∈ [z, TI, TO, i1, i2, l1, l2], h.get? b ≠ none := by
  obtain ⟨a1, a2, ⟨_, _, a3⟩, ⟨_, a4, _⟩, ⟨_, a5, _⟩, ⟨_, a6, _⟩, ⟨_, a7, _⟩⟩ := hst
  intro b hb
  simp only [List.mem_cons, List.not_mem_nil, or_false] at hb
  rcases hb with e | e | e | e | e | e | e <;> rw [e] <;> intro q
  · rw [show h.get? z = _ from a1] at q; cases q
  · rw [show h.get? TI = _ from a2] at q; cases q
  · rw [show h.get? TO = _ from a3] at q; cases q
  · rw [a4] at q; cases q
  · rw [a5] at q; cases q
  · rw [a6] at q; cases q
  · rw [a7] at q; cases q

theorem range_start {h₀ : Heap} {L r : Addr} {m : Str → Option Value} {news : List (Addr × Obj)} {a₀ b₀ : Int} {t₀ u₀ v₀ : Tok} {n : Nat} {Q : Value → Shared → Prop} {E : Value → Shared → Prop}
    (hh : A.handled = none) (F : Fr h₀ L s.heap m) (N : News h₀ L s.heap news) (hr : IsRange s.heap r a₀ b₀ 1 t₀ u₀ v₀) (hsmall : Builtin.Range.small a₀ b₀ 1 = true) (hn : Builtin.Range.rangeSize a₀ b₀ 1 = (n : Int))
    (k : ∀ (I : Nat) h', I = s.heap.objs.size → Walks prog w A I [I] [I] n (fun i v => ∃ t, v = .int (a₀ + (i : Int)) t) (fun i h => IsRangeIter h I (a₀ + (i : Nat) * 1) ((n : Int) - (i : Nat)) 1) → IsRangeIter h' I (a₀ + (0 : Nat) * 1) ((n : Int) - (0 : Nat)) 1 →
      Fr h₀ L h' m → News h₀ L h' news → (∀ p ∈ news, p.1 ∉ [I]) → L ∉ [I] → (∀ b ∈ [I], h₀.get? b = none) → (∀ b o, s.heap.get? b = some o → h'.get? b = some o) → Q (.ref I) { s with heap := h' }) : wpAny (model prog w) A (pyIter (.ref r)) Q E s := by
  refine wpAny_pyIter_range hr hsmall ?_
  refine k _ _ rfl (LCg.range_walks hh _ _) (by show IsRangeIter _ _ _ _ _; rw [hn]; simpa using Heap.get?_push_size _ rfl) (F.push _) (fun p hp => ⟨Heap.get?_push_of_some _ (N p hp).1, (N p hp).2⟩) (fun p hp hI => ?_) (fun hm => ?_) (fun b hb => ?_) (fun b o e => Heap.get?_push_of_some _ e)
  · exact absurd (Heap.lt_size (N p hp).1) ((List.mem_singleton.mp hI) ▸ Nat.lt_irrefl _)
  · exact absurd F.ns.lt ((List.mem_singleton.mp hm) ▸ Nat.lt_irrefl _)
  · rw [List.mem_singleton.mp hb]
    exact next_is_new F
theorem range_live {I : Addr} {a b c : Int} {h : Heap} (hst : IsRangeIter h I a b c) : ∀ x ∈ [I], x < h.objs.size := fun x hx => by
  rw [List.mem_singleton.mp hx]; exact Heap.lt_size hst
theorem range_live' {I : Addr} {a b c : Int} {h : Heap} (hst : IsRangeIter h I a b c) : ∀ x ∈ [I], h.get? x ≠ none := fun x hx => by
  rw [List.mem_singleton.mp hx]; intro q; rw [show h.get? I = _ from hst] at q; cases q

theorem list_start {h₀ : Heap} {L l : Addr} {m : Str → Option Value} {news : List (Addr × Obj)} {xs : Array Value} {Q : Value → Shared → Prop} {E : Value → Shared → Prop}
    (hh : A.handled = none) (F : Fr h₀ L s.heap m) (N : News h₀ L s.heap news) (hl : s.heap.IsList l xs)
    (k : ∀ (I : Nat) h', I = s.heap.objs.size → Walks prog w A I [I, l] [I] xs.size (fun i v => xs[i]? = some v) (fun i h => h.IsListIter I l i ∧ h.IsList l xs) → (h'.IsListIter I l 0 ∧ h'.IsList l xs) →
      Fr h₀ L h' m → News h₀ L h' news → (∀ p ∈ news, p.1 ∉ [I]) → L ∉ [I] → (∀ b ∈ [I], h₀.get? b = none) → (∀ b o, s.heap.get? b = some o → h'.get? b = some o) → Q (.ref I) { s with heap := h' }) : wpAny (model prog w) A (pyIter (.ref l)) Q E s := by
  have hlt : l < s.heap.objs.size := by obtain ⟨_, e, _⟩ := hl; exact Heap.lt_size e
  refine wpAny_pyIter_list hl ?_
  refine k _ _ rfl (Walks.list hh _ l (Nat.ne_of_lt hlt) xs) ⟨⟨_, Heap.get?_push_size _ rfl, rfl, rfl⟩, hl.push _⟩ (F.push _) (fun p hp => ⟨Heap.get?_push_of_some _ (N p hp).1, (N p hp).2⟩) (fun p hp hI => ?_) (fun hm => ?_) (fun b hb => ?_) (fun b o e => Heap.get?_push_of_some _ e)
  · exact absurd (Heap.lt_size (N p hp).1) ((List.mem_singleton.mp hI) ▸ Nat.lt_irrefl _)
  · exact absurd F.ns.lt ((List.mem_singleton.mp hm) ▸ Nat.lt_irrefl _)
  · rw [List.mem_singleton.mp hb]
    exact next_is_new F
theorem list_live {I l : Addr} {xs : Array Value} {i : Nat} {h : Heap} (hst : h.IsListIter I l i ∧ h.IsList l xs) : ∀ x ∈ [I, l], h.get? x ≠ none := fun x hx => by
  obtain ⟨⟨_, a, _⟩, ⟨_, b, _⟩⟩ := hst
  simp only [List.mem_cons, List.not_mem_nil, or_false] at hx
  rcases hx with rfl | rfl
  · rw [a]; intro q; cases q
  · rw [b]; intro q; cases q

/-- names within a comprehension -/
theorem cName_L {M : Model} {E : Value → Shared → Prop} {scope : Scope} {cl : List (Str × Addr)} {C : Addr} {env : Env} {m : Str → Option Value} {x : Str} {pos : Pos} {v : Value} {Q : Value → Shared → Prop} (hn : s.heap.Ns C m) (hv : m x = some v) (h : Q v s)
    (hk : (compEnvC scope cl C env).scope.kind = .function := by rfl) (hx : (compEnvC scope cl C env).kindOf x = some .local := by rfl) (hd : (x == ("__debug__" : Str)) = false := by decide) :
    wpAny M A (eval (.Name x pos) (compEnvC scope cl C env)) Q E s := wpAny_Name (wpAny_loadName_local hk hx hn hv h) hd
theorem cName_C {M : Model} {E : Value → Shared → Prop} {scope : Scope} {cl : List (Str × Addr)} {C c : Addr} {env : Env} {x : Str} {pos : Pos} {v : Value} {Q : Value → Shared → Prop} (hc : cl.lookup x = some c) (hm : s.heap.IsCell c (some v)) (h : Q v s)
    (hk : (compEnvC scope cl C env).scope.kind = .function := by rfl) (hx : (compEnvC scope cl C env).kindOf x = some .cell := by rfl) (hb : (x == ("__debug__" : Str)) = false := by decide) :
    wpAny M A (eval (.Name x pos) (compEnvC scope cl C env)) Q E s := wpAny_Name (wpAny_loadName_cell hk hx hc hm h) hb
end

section
variable {prog : Program} {w : World} {A : Around} {E : Value → Shared → Prop} {s : Shared} {env : Env}
theorem wpC_callWith_bi {M : Model} {pos : Pos} {T : String} {first : List Value} {args : List (Bool × Sem Value)} {Q : Value → Shared → Prop}
    (hplain : args.any (·.1) = false)
    (h : wpC M A (evalArgs (.builtin T) true args []) (fun a s₁ => wpC M A (call (.builtin T) (first ++ a.pos) a.kw) Q E s₁) E s) :
    wpC M A (callWith pos (.builtin T) first args []) Q E s := by
  unfold callWith
  refine wpC_bind (wpC_holding (wpC_mono h (fun a s₁ h₁ => wpC_bind (wpC_standAt ?_)) fun _ _ x => x))
  simp only [hplain, List.any_nil, Bool.or_false]
  refine wpC_bind (wpC_pure ?_)
  exact wpC_bind (wpC_mono h₁ (fun r s₂ hr => wpC_bindA (wpAny_holding (wpAny_point (wpC_pure hr)))) fun _ _ x => x)
/-- the list is there; then what is appended -/
def AppAt (prog : Program) (w : World) (A : Around) (env : Env) (e : PySem.Expr) (Q E : Value → Shared → Prop) (ov : Value) (s₁ : Shared) : Prop := ∃ D, ov = .ref D ∧ (∃ ob, s₁.heap.get? D = some ob ∧ ob.cls = .type "list" ∧ ob.dict = none) ∧
      wpC (model prog w) A (eval e env) (fun x s₂ => wpAny (model prog w) A (call (.builtin "list.append") [.ref D, x]) Q E s₂) E s₁
/-- o.append(e) -/
theorem wpC_append {o e : PySem.Expr} {apos pos : Pos} {Q : Value → Shared → Prop}
    (h : wpAny (model prog w) A (eval o env) (AppAt prog w A env e Q E) E s)
    (hbase : attributeBase o (Str.ofString "append") env (eval o env) = eval o env := by rfl) (hline : (apos.endLine == pos.line) = true := by rfl)
    (htrees : starEach [e] env = [(false, eval e env)] := by rfl) :
    wpC (model prog w) A (eval (.Call (.Attribute o (Str.ofString "append") apos) [e] [] pos) env) Q E s := by
  rw [arm_eval_Call, hbase]
  refine wpC_bindA (wpAny_mono h (fun ov s₁ h₁ => ?_) fun _ _ e => e)
  obtain ⟨D, rfl, ⟨ob, hob, hoc, hod⟩, hc⟩ := h₁
  have hT : s₁.TypeIs (.ref D) "list" := ⟨ob, hob, hoc⟩
  refine wpC_bindA (wpAny_standAt ?_)
  have hform : methodCallForm ([e].length + ([] : List Keyword).length) (backTo pos (starEach [e] env)) (backToKw pos (keywordEach [] env)) = true := by rw [htrees]; rfl
  have hpos : methodCallPos true o env apos pos = pure pos := by unfold methodCallPos; simp [hline]
  unfold methodCall
  rw [hform]
  refine wpC_bindA (wpAny_holding (getMethod_builtin hT F.plainAttrs_list slot_list_append F.type_list_append (fun a ha => by cases ha; exact ⟨ob, hob, hod⟩) ?_))
  refine wpC_bindA (wpAny_of_eq hpos ?_)
  show wpC _ _ (callWith pos (.builtin "list.append") [.ref D] (backTo pos (starEach [e] env)) []) Q E s₁
  rw [htrees]
  refine wpC_callWith_bi rfl (wpC_evalArgs (wpC_spliced_cons (wpC_mono hc (fun x s₂ h₂ => wpC_spliced_nil (wpC_any h₂)) fun _ _ x => x)))
end

/-- an item of a comprehension of numbers -/
def IntEnd (p : Int → Prop) (s₂ : Shared) (h : Heap) (y : Value) (s₃ : Shared) : Prop := ∃ n t tk', y = .int n t ∧ p n ∧ s₃ = { s₂ with heap := h, toks := tk' }
def IntsSo (p : Nat → Int → Prop) (n i : Nat) (acc : Array Value) : Prop := i ≤ n ∧ ∃ ns, IntsAre acc.toList ns ∧ ns.length = i ∧ ∀ j x, ns[j]? = some x → p j x
theorem IntsSo.zero (p : Nat → Int → Prop) (n : Nat) : IntsSo p n 0 #[] := ⟨Nat.zero_le _, [], .nil, rfl, fun _ _ h => by simp at h⟩
theorem IntsAre.snoc {vs : List Value} {ns : List Int} (h : IntsAre vs ns) (n : Int) (t : Tok) : IntsAre (vs ++ [.int n t]) (ns ++ [n]) := by
  induction h with
  | nil => exact .cons _ _ .nil
  | cons m u _ ih => exact .cons _ _ ih
theorem IntsSo.push {p : Nat → Int → Prop} {n i : Nat} {acc : Array Value} {m : Int} {t : Tok} (h : IntsSo p n i acc) (hi : i < n) (hp : p i m) : IntsSo p n (i + 1) (acc.push (.int m t)) := by
  obtain ⟨_, ns, hns, hl, hq⟩ := h
  refine ⟨hi, ns ++ [m], by rw [Array.toList_push]; exact IntsAre.snoc hns m t, by rw [List.length_append, hl]; rfl, fun j x hx => ?_⟩
  rcases Nat.lt_trichotomy j i with h | h | h
  · exact hq j x (by rwa [List.getElem?_append_left (by omega)] at hx)
  · subst h
    rw [List.getElem?_append_right (by omega), hl, Nat.sub_self] at hx
    cases hx; exact hp
  · rw [List.getElem?_eq_none (by rw [List.length_append]; simp; omega)] at hx; cases hx
theorem IntsSo.size {p : Nat → Int → Prop} {n i : Nat} {acc : Array Value} (h : IntsSo p n i acc) (hn : n ≤ 100) : acc.size ≤ sizeLine := by
  obtain ⟨hi, ns, hns, hl, _⟩ := h
  have := hns.length
  rw [Array.length_toList] at this
  rw [sizeLine_eq]; omega

section
variable {prog : Program} {w : World} {A : Around} {E : Value → Shared → Prop}
theorem compW_ints {env : Env} {x : Str} {px : Pos} {elt iter : PySem.Expr} {scope : Scope} {cl : List (Str × Addr)} {pos : Pos} {I : Addr} {fp wr : List Addr} {n : Nat} {P : Nat → Value → Prop} {St : Nat → Heap → Prop} {s₂ : Shared} {RR : Value → Addr → Result → Shared → Prop} (p : Nat → Int → Prop)
    (W : Walks prog w A I fp wr n P St) (hgo : ∀ v, letOwnedTupleGo (.Name x px) (.ref I) v = pure ()) (hcell : ∀ y ∈ scope.names, y.2 ≠ .cell) (hkind : scope.kind = .function) (hx : scope.names.lookup x = some .local)
    (hst : St 0 s₂.heap) (hlive : ∀ i h, St i h → ∀ b ∈ fp, h.get? b ≠ none) (hn : n ≤ 100)
    (step : ∀ (D C : Nat) (i : Nat) (v : Value) (m₁ : Str → Option Value) (acc : Array Value) (k : Nat) (h : Heap) (tk : Nat), i < n → P i v → CompDone s₂ wr D C h (fun y => if y = x then some v else m₁ y) acc k [] →
      wpAny (model prog w) A (eval elt (compEnvC scope cl C env)) (IntEnd (p i) s₂ h) (fun _ _ => False) { s₂ with heap := h, toks := tk })
    (fin : ∀ D C h tk m vs k ns, CompDone s₂ wr D C h m (List.toArray vs) k [] → IntsAre vs ns → ns.length = n → (∀ j x, ns[j]? = some x → p j x) → RR (.ref D) C (.ok .next) { s₂ with heap := h, toks := tk }) :
    wpAny (model prog w) A (newList []) (fun acc s₃ => wpAny (model prog w) A (newFunctionEnv scope env.globals cl [] env.qual none .none (some env)) (fun cenv s₄ =>
      codeC (model prog w) A (.compStart (.ListComp elt [⟨.Name x px, iter, [], 0⟩] scope pos) 0 (.ref I) acc { cenv with scope := relabel scope env }) (RR acc cenv.locals) s₄) E s₃) E s₂ := by
  refine compW_core W hgo hcell hkind hx hst hlive (fun i acc led => led = [] ∧ IntsSo p n i acc) ⟨rfl, .zero p n⟩ (fun i acc led h => h.2.size hn) (fun D C i v m₁ acc k led h tk hi hP hJ CD _ => ?_) (fun D C h tk m acc k led CD hJ => ?_)
  · obtain ⟨rfl, hJ⟩ := hJ
    refine wpC_any (wpAny_mono (step D C i v m₁ acc k h tk hi hP CD) (fun y s₃ h₃ => ?_) fun _ _ x => x)
    obtain ⟨m, t, tk', rfl, hp, rfl⟩ := h₃
    exact ⟨h, tk', [], rfl, fun _ _ e => e, (fun _ h => nomatch h), rfl, hJ.push hi hp⟩
  · obtain ⟨rfl, _, ns, hns, hl, hq⟩ := hJ
    refine fin D C h tk m acc.toList k ns (by rw [Array.toArray_toList]; exact CD) hns hl hq
theorem compZip_ints {env : Env} {xi xc : Str} {pk pv pt : Pos} {x1 : Nat} {elt iter : PySem.Expr} {scope : Scope} {cl : List (Str × Addr)} {pos : Pos} {I : Addr} {fp wr : List Addr} {n : Nat} {Pt : Nat → Array Value → Prop} {St : Nat → Heap → Prop} {Mid : Nat → Addr → Heap → Prop} {P2 : Nat → Value → Value → Prop} {s₂ : Shared} {RR : Value → Addr → Result → Shared → Prop} (p : Nat → Int → Prop)
    (hh : A.handled = none) (W : WalksT prog w A I fp wr n Pt St Mid) (h2 : ∀ i vals, Pt i vals → ∃ v0 v1, vals = #[v0, v1] ∧ P2 i v0 v1) (hcell : ∀ y ∈ scope.names, y.2 ≠ .cell) (hkind : scope.kind = .function)
    (hxi : scope.names.lookup xi = some .local) (hxc : scope.names.lookup xc = some .local)
    (hst : St 0 s₂.heap) (hlive : ∀ i h, St i h → ∀ b ∈ fp, b < h.objs.size) (hn : n ≤ 100)
    (step : ∀ (D C : Nat) (i : Nat) (v0 v1 : Value) (m₁ : Str → Option Value) (acc : Array Value) (k : Nat) (h : Heap) (tk : Nat), i < n → P2 i v0 v1 → CompDone s₂ wr D C h (fun y => if y = xc then some v1 else if y = xi then some v0 else m₁ y) acc k [] →
      wpAny (model prog w) A (eval elt (compEnvC scope cl C env)) (IntEnd (p i) s₂ h) (fun _ _ => False) { s₂ with heap := h, toks := tk })
    (fin : ∀ D C h tk m vs k ns, CompDone s₂ wr D C h m (List.toArray vs) k [] → IntsAre vs ns → ns.length = n → (∀ j x, ns[j]? = some x → p j x) → RR (.ref D) C (.ok .next) { s₂ with heap := h, toks := tk }) :
    wpAny (model prog w) A (newList []) (fun acc s₃ => wpAny (model prog w) A (newFunctionEnv scope env.globals cl [] env.qual none .none (some env)) (fun cenv s₄ =>
      codeC (model prog w) A (.compStart (.ListComp elt [⟨.Tuple [.Name xi pk, .Name xc pv] x1 pt, iter, [], 0⟩] scope pos) 0 (.ref I) acc { cenv with scope := relabel scope env }) (RR acc cenv.locals) s₄) E s₃) E s₂ := by
  refine compZip_core hh W h2 hcell hkind hxi hxc hst hlive (IntsSo p n) (.zero p n) (fun i acc h => h.size hn) (fun D C i v0 v1 m₁ acc k h tk hi hP hJ CD => ?_) (fun D C h tk m acc k CD hJ => ?_)
  · refine wpC_any (wpAny_mono (step D C i v0 v1 m₁ acc k h tk hi hP CD) (fun y s₃ h₃ => ?_) fun _ _ x => x)
    obtain ⟨m, t, tk', rfl, hp, rfl⟩ := h₃
    exact ⟨h, tk', rfl, fun _ _ e => e, hJ.push hi hp⟩
  · obtain ⟨_, ns, hns, hl, hq⟩ := hJ
    refine fin D C h tk m acc.toList k ns (by rw [Array.toArray_toList]; exact CD) hns hl hq
end

/-- tables (lists of rows) in a ledger -/
inductive TabsIn (news : List (Addr × Obj)) : List Value → List (List (List Int)) → Prop
  | nil : TabsIn news [] []
  | cons {a : Addr} {o : Obj} {vals : List Value} {k : Nat} {rows : List (List Int)} {vs : List Value} {tabs : List (List (List Int))} : (a, o) ∈ news → o.cls = .type "list" → o.data = .seq vals.toArray k → RowsIn news vals rows → TabsIn news vs tabs → TabsIn news (.ref a :: vs) (rows :: tabs)
theorem TabsIn.mono {news news' : List (Addr × Obj)} (h : ∀ p ∈ news, p ∈ news') : ∀ {vs : List Value} {tabs : List (List (List Int))}, TabsIn news vs tabs → TabsIn news' vs tabs
  | _, _, .nil => .nil
  | _, _, .cons hm hc hd hi hr => .cons (h _ hm) hc hd (hi.mono h) (hr.mono h)
theorem TabsIn.snoc {news : List (Addr × Obj)} {a : Addr} {o : Obj} {vals : List Value} {k : Nat} {rows : List (List Int)} (hm : (a, o) ∈ news) (hc : o.cls = .type "list") (hd : o.data = .seq vals.toArray k) (hi : RowsIn news vals rows) :
    ∀ {vs : List Value} {tabs : List (List (List Int))}, TabsIn news vs tabs → TabsIn news (vs ++ [.ref a]) (tabs ++ [rows])
  | _, _, .nil => .cons hm hc hd hi .nil
  | _, _, .cons hm' hc' hd' hi' hr => .cons hm' hc' hd' hi' (hr.snoc hm hc hd hi)
theorem RowsAt.ledger {g h : Heap} : ∀ {vals : List Value} {rows : List (List Int)}, RowsAt h vals rows → (∀ v ∈ vals, ∀ a, v = .ref a → g.get? a = none) →
    ∃ led, (∀ p ∈ led, h.get? p.1 = some p.2 ∧ g.get? p.1 = none) ∧ RowsIn led vals rows
  | _, _, .nil, _ => ⟨[], (fun _ h => nomatch h), .nil⟩
  | _, _, .cons (a := a) ⟨o, ho, hc, k, hd⟩ hi hr, hf => by
    obtain ⟨led, h1, h2⟩ := hr.ledger (g := g) fun v hv => hf v (.tail _ hv)
    exact ⟨(a, o) :: led, List.forall_mem_cons.mpr ⟨⟨ho, hf _ (.head _) a rfl⟩, h1⟩, .cons (.head _) hc hd hi (h2.mono fun p hp => .tail _ hp)⟩
theorem RowsIn.keep {h : Heap} {news : List (Addr × Obj)} (N : ∀ p ∈ news, h.get? p.1 = some p.2) : ∀ {vals : List Value} {rows : List (List Int)}, RowsIn news vals rows → RowsAt h vals rows
  | _, _, .nil => .nil
  | _, _, .cons hm hc hd hi hr => .cons ⟨_, N _ hm, hc, _, hd⟩ hi (hr.keep N)
end Mine

set_option autoImplicit false
set_option maxRecDepth 100000
namespace Mine
open PySem PySem.Calls PySem.Spec PySem.W PyProof.Rows

def rowD (r : List Int) : PyData := .list (r.map PyData.int)
def tabD (t : List (List Int)) : PyData := .list (t.map rowD)
theorem reads_rows {h : Heap} : ∀ {vals : List Value} {rows : List (List Int)}, RowsAt h vals rows → ∃ as, ReadsAll h vals (rows.map rowD) as
  | _, _, .nil => ⟨_, .nil⟩
  | _, _, .cons hl hi hr => by
    obtain ⟨as, ih⟩ := reads_rows hr
    exact ⟨_, .cons (reads_newData hl (ke_carried hi)) ih⟩
theorem reads_tab {h : Heap} {a : Addr} {vals : List Value} {rows : List (List Int)} (hl : h.IsList a vals.toArray) (hr : RowsAt h vals rows) : ∃ as, Reads h (.ref a) (tabD rows) as := by
  obtain ⟨o, ho, hc, n, hd⟩ := hl
  obtain ⟨as, ih⟩ := reads_rows hr
  exact ⟨_, .list ho hc hd (by simpa using ih)⟩
theorem lay_rows : ∀ t : List (List Int), PyData.canLayAll0 (t.map rowD) = true ∧ PyData.depthAll (t.map rowD) ≤ 1
  | [] => ⟨rfl, Nat.zero_le _⟩
  | r :: t => by
    have ih := lay_rows t
    refine ⟨?_, ?_⟩
    · simp only [List.map_cons, PyData.canLayAll0, rowD, PyData.canLay0, ke_canLayAll0, Bool.true_and]
      exact ih.1
    · have e : (rowD r).depth = 1 := by unfold rowD; simp only [PyData.depth, ke_depthAll]
      rw [List.map_cons, PyData.depthAll, e]
      have := ih.2
      omega
theorem shaped_tab (t : List (List Int)) : SeqAt.shaped (tabD t) = true := by
  have h := lay_rows t
  unfold SeqAt.shaped tabD
  rw [Bool.and_eq_true]
  refine ⟨by simp only [PyData.canLay0]; exact h.1, ?_⟩
  simp only [PyData.depth]
  exact decide_eq_true (by omega)
theorem eqv_rows : ∀ t : List (List Int), PyData.eqvAll (t.map rowD) (t.map rowD) = true
  | [] => by simp [PyData.eqvAll]
  | r :: t => by
    have e : PyData.eqv (rowD r) (rowD r) = true := by unfold rowD; rw [PyData.eqv, ked_eqvAll, decide_eq_true rfl]
    rw [List.map_cons, PyData.eqvAll, e, eqv_rows t]
    rfl
theorem eqv_tab (t : List (List Int)) : PyData.eqv (tabD t) (tabD t) = true := by
  unfold tabD
  rw [PyData.eqv]
  exact eqv_rows t
theorem eq_tables {prog : Program} {w : World} {A : Around} {E : Value → Shared → Prop} {s : Shared} {a b : Addr} {va vb : List Value} {rows : List (List Int)} {Q : Value → Shared → Prop}
    (ha : s.heap.IsList a va.toArray) (hra : RowsAt s.heap va rows) (hb : s.heap.IsList b vb.toArray) (hrb : RowsAt s.heap vb rows) (hu : A.units + 64 < cLine) (h : Q (.bool true) s) : wpAny (model prog w) A (compareOp .Eq (.ref a) (.ref b)) Q E s := by
  obtain ⟨as, ra⟩ := reads_tab ha hra
  obtain ⟨bs, rb⟩ := reads_tab hb hrb
  refine eq_dataH ra rb (shaped_tab _) (shaped_tab _) hu ?_
  rw [eqv_tab]
  exact h
end Mine

set_option autoImplicit false
namespace Mine
open PySem PySem.Calls PySem.Spec PySem.W PyProof.Rows

/-- the third lies upon the first and the second -/
structure Lies (p q : UInt8) (n : Nat) (A B C : Array UInt8) : Prop where
  a : A.size = n
  b : B.size = n
  c : C.size = n
  eq : ∀ j : Nat, C.getD j 0 = p * A.getD j 0 + q * B.getD j 0
theorem getD_set (A : Array UInt8) (i j : Nat) (v : UInt8) : (A.setIfInBounds i v).getD j 0 = if i = j ∧ j < A.size then v else A.getD j 0 := by
  simp only [Array.getD, Array.size_setIfInBounds]
  by_cases h : j < A.size
  · by_cases hij : i = j
    · subst hij; simp [h]
    · simp [h, hij]
  · simp [h]
theorem Lies.set {p q : UInt8} {n : Nat} {A B C : Array UInt8} (h : Lies p q n A B C) (i : Nat) {x y z : UInt8} (hz : z = p * x + q * y) : Lies p q n (A.setIfInBounds i x) (B.setIfInBounds i y) (C.setIfInBounds i z) := by
  refine ⟨by simp [h.a], by simp [h.b], by simp [h.c], fun j => ?_⟩
  rw [getD_set, getD_set, getD_set, h.a, h.b, h.c]
  split
  · exact hz
  · exact h.eq j
theorem mixAdd (p q x y u v : UInt8) : p * x + q * y + (p * u + q * v) = p * (x + u) + q * (y + v) := by
  rw [UInt8.mul_add, UInt8.mul_add]
  ac_rfl
theorem Lies.add {p q : UInt8} {n : Nat} {A B C Xa Xb Xc Ra Rb Rc : Array UInt8} (h : Lies p q n A B C) (hx : Lies p q n Xa Xb Xc) (hr : Lies p q n Ra Rb Rc) (j : Nat) : Lies p q n (addAt Xa A Ra j) (addAt Xb B Rb j) (addAt Xc C Rc j) := by
  unfold addAt
  exact hr.set j (by rw [hx.eq j, h.eq j, mixAdd])
theorem Lies.back {p q : UInt8} {n u : Nat} {Xa Xb Xc Ra Rb Rc : Array UInt8} (hx : Lies p q n Xa Xb Xc) (hr : Lies p q n Ra Rb Rc) (j : Nat) : Lies p q n (backAt Xa u Ra j) (backAt Xb u Rb j) (backAt Xc u Rc j) := by
  unfold backAt
  exact hr.set (u + j) (by rw [hx.eq (u + j), hr.eq j, mixAdd])
theorem Lies.up {p q : UInt8} {n : Nat} {A B C Xa Xb Xc : Array UInt8} (h : Lies p q n A B C) (hx : Lies p q n Xa Xb Xc) (m : Nat) : Lies p q n (upN Xa A Xa m) (upN Xb B Xb m) (upN Xc C Xc m) := by
  induction m with
  | zero => exact hx
  | succ m ih =>
    rw [up_succ, up_succ, up_succ]
    exact ih.set m (by rw [hx.eq m, h.eq m, mixAdd])
theorem Lies.sub {p q : UInt8} {n u : Nat} {Xa Xb Xc : Array UInt8} (hx : Lies p q n Xa Xb Xc) (m : Nat) : Lies p q n (subN Xa u Xa m) (subN Xb u Xb m) (subN Xc u Xc m) := by
  induction m with
  | zero => exact hx
  | succ m ih =>
    rw [sub_succ, sub_succ, sub_succ]
    exact ih.set (u + m) (by rw [hx.eq (u + m), ih.eq m, mixAdd])

def Mix (a b : Int) (p q : List Int) : List Int := List.zipWith (fun x y => (a * x + b * y).fmod 256) p q
theorem mix_nat {a b : Int} (ha : 0 ≤ a ∧ a < 256) (hb : 0 ≤ b ∧ b < 256) (x y : UInt8) : (a * (x.toNat : Int) + b * (y.toNat : Int)).fmod 256 = ((a.toNat.toUInt8 * x + b.toNat.toUInt8 * y).toNat : Int) := by
  rw [Int.fmod_eq_emod_of_nonneg _ (by decide), UInt8.toNat_add, UInt8.toNat_mul, UInt8.toNat_mul]
  have ea : a.toNat.toUInt8.toNat = a.toNat := by
    rw [Nat.toUInt8, UInt8.toNat_ofNat']; omega
  have eb : b.toNat.toUInt8.toNat = b.toNat := by
    rw [Nat.toUInt8, UInt8.toNat_ofNat']; omega
  rw [ea, eb]
  have h1 : a * (x.toNat : Int) = ((a.toNat * x.toNat : Nat) : Int) := by rw [Int.natCast_mul, Int.toNat_of_nonneg ha.1]
  have h2 : b * (y.toNat : Int) = ((b.toNat * y.toNat : Nat) : Int) := by rw [Int.natCast_mul, Int.toNat_of_nonneg hb.1]
  rw [h1, h2]
  generalize a.toNat * x.toNat = P
  generalize b.toNat * y.toNat = Q
  omega
theorem oct8 {x : Int} (h : 0 ≤ x ∧ x < 256) : ((x.toNat.toUInt8).toNat : Int) = x := by
  rw [Nat.toUInt8, UInt8.toNat_ofNat']; omega
theorem lies_row {a b : Int} (ha : 0 ≤ a ∧ a < 256) (hb : 0 ≤ b ∧ b < 256) {n : Nat} {p q : List Int} (hp : p.length = n) (hq : q.length = n) (op : ∀ x ∈ p, 0 ≤ x ∧ x < 256) (oq : ∀ x ∈ q, 0 ≤ x ∧ x < 256) :
    Lies a.toNat.toUInt8 b.toNat.toUInt8 n (byteArr p) (byteArr q) (byteArr (Mix a b p q)) := by
  refine ⟨by simp [byteArr, hp], by simp [byteArr, hq], by simp [byteArr, Mix, hp, hq], fun j => ?_⟩
  by_cases hj : j < n
  · have e1 : (byteArr p).getD j 0 = (p[j]'(hp ▸ hj)).toNat.toUInt8 := by simp [byteArr, Array.getD, hp, hj]
    have e2 : (byteArr q).getD j 0 = (q[j]'(hq ▸ hj)).toNat.toUInt8 := by simp [byteArr, Array.getD, hq, hj]
    have e3 : (byteArr (Mix a b p q)).getD j 0 = ((a * p[j]'(hp ▸ hj) + b * q[j]'(hq ▸ hj)).fmod 256).toNat.toUInt8 := by simp [byteArr, Mix, Array.getD, hp, hq, hj]
    rw [e1, e2, e3]
    have h1 := oct8 (op _ (List.getElem_mem (hp ▸ hj)))
    have h2 := oct8 (oq _ (List.getElem_mem (hq ▸ hj)))
    have := mix_nat ha hb (p[j]'(hp ▸ hj)).toNat.toUInt8 (q[j]'(hq ▸ hj)).toNat.toUInt8
    rw [h1, h2] at this
    rw [this, Int.toNat_natCast]
    exact UInt8.ofNat_toNat
  · simp [byteArr, Mix, Array.getD, hp, hq, hj]
theorem lies_zero (p q : UInt8) (n : Nat) : Lies p q n (byteArr (List.replicate n 0)) (byteArr (List.replicate n 0)) (byteArr (List.replicate n 0)) := by
  refine ⟨by simp [byteArr], by simp [byteArr], by simp [byteArr], fun j => ?_⟩
  have e : (byteArr (List.replicate n (0 : Int))).getD j 0 = 0 := by
    by_cases hj : j < n <;> simp [byteArr, Array.getD, hj]
  rw [e]; simp
theorem lies_undo {p q : UInt8} {n u : Nat} {w : Int} {A B C : Array UInt8} {x y z : List Int} (h : Lies p q n A B C) (hx : Lies p q n (byteArr x) (byteArr y) (byteArr z)) : Lies p q n (undo1 u w A x) (undo1 u w B y) (undo1 u w C z) := by
  unfold undo1
  split
  · rw [hx.a, hx.b, hx.c]; exact hx.sub _
  · split
    · rw [hx.a, hx.b, hx.c]; exact h.up hx _
    · exact hx
theorem lies_octs {a b : Int} (ha : 0 ≤ a ∧ a < 256) (hb : 0 ≤ b ∧ b < 256) {n : Nat} {A B C : Array UInt8} (h : Lies a.toNat.toUInt8 b.toNat.toUInt8 n A B C) : octInts C = Mix a b (octInts A) (octInts B) := by
  have la : (octInts A).length = n := by simp [octInts, h.a]
  have lb : (octInts B).length = n := by simp [octInts, h.b]
  have lc : (octInts C).length = n := by simp [octInts, h.c]
  apply List.ext_getElem (by simp [Mix, la, lb, lc])
  intro j h1 h2
  have hj : j < n := lc ▸ h1
  have e := h.eq j
  have g : ∀ {X : Array UInt8} (hX : X.size = n), X.getD j 0 = X[j]'(hX ▸ hj) := fun hX => by simp [Array.getD, hX, hj]
  rw [g h.a, g h.b, g h.c] at e
  simp only [Mix, octInts, List.getElem_zipWith, List.getElem_map, Array.getElem_toList]
  rw [mix_nat ha hb, e]
theorem told_lies {a b : Int} (ha : 0 ≤ a ∧ a < 256) (hb : 0 ≤ b ∧ b < 256) {K u : Nat} {ws : List Int} {r0 r1 : List (List Int)} (hl : r0.length = r1.length) (h0 : ∀ l ∈ r0, l.length = K ∧ ∀ x ∈ l, 0 ≤ x ∧ x < 256) (h1 : ∀ l ∈ r1, l.length = K ∧ ∀ x ∈ l, 0 ≤ x ∧ x < 256) :
    ∀ i, i ≤ r0.length → Lies a.toNat.toUInt8 b.toNat.toUInt8 K (stAt u ws r0 (byteArr (List.replicate K 0)) i).1 (stAt u ws r1 (byteArr (List.replicate K 0)) i).1 (stAt u ws (List.zipWith (Mix a b) r0 r1) (byteArr (List.replicate K 0)) i).1 ∧
      (stAt u ws (List.zipWith (Mix a b) r0 r1) (byteArr (List.replicate K 0)) i).2.map octInts = List.zipWith (Mix a b) ((stAt u ws r0 (byteArr (List.replicate K 0)) i).2.map octInts) ((stAt u ws r1 (byteArr (List.replicate K 0)) i).2.map octInts)
  | 0, _ => ⟨lies_zero _ _ _, rfl⟩
  | i + 1, hi => by
    obtain ⟨ih1, ih2⟩ := told_lies ha hb hl h0 h1 i (Nat.le_of_succ_le hi)
    have hi0 : i < r0.length := hi
    have hi1 : i < r1.length := hl ▸ hi0
    have e0 : r0.getD i [] = r0[i] := by rw [List.getD_eq_getElem?_getD, List.getElem?_eq_getElem hi0]; rfl
    have e1 : r1.getD i [] = r1[i] := by rw [List.getD_eq_getElem?_getD, List.getElem?_eq_getElem hi1]; rfl
    have e2 : (List.zipWith (Mix a b) r0 r1).getD i [] = Mix a b r0[i] r1[i] := by
      rw [List.getD_eq_getElem?_getD, List.getElem?_eq_getElem (by rw [List.length_zipWith]; omega)]; simp
    have m0 := h0 _ (List.getElem_mem hi0)
    have m1 := h1 _ (List.getElem_mem hi1)
    have step := lies_undo (u := u) (w := ws.getD i 0) ih1 (lies_row ha hb m0.1 m1.1 m0.2 m1.2)
    rw [stAt, stAt, stAt, e0, e1, e2]
    refine ⟨step, ?_⟩
    simp only [List.map_append, List.map_cons, List.map_nil]
    rw [ih2, List.zipWith_append (by simp [stAt_len])]
    simp only [List.zipWith_cons_cons, List.zipWith_nil_left]
    rw [lies_octs ha hb step]
end Mine

set_option autoImplicit false
namespace Mine
open PySem PySem.W PyProof.Rows PySem.Calls PySem.Spec

def RowsOk (K : Nat) (r : List (List Int)) : Prop := ∀ l ∈ r, l.length = K ∧ ∀ x ∈ l, 0 ≤ x ∧ x < 256
def Told (U : Int) (K : Nat) (ws : List Int) (r : List (List Int)) : List (List Int) := (stAt U.toNat ws r (byteArr (List.replicate K 0)) r.length).2.map octInts
theorem told_ok {U : Int} {K : Nat} {ws : List Int} {r : List (List Int)} (h : RowsOk K r) : RowsOk K (Told U K ws r) := by
  have key : ∀ i, i ≤ r.length → RowsOk K ((stAt U.toNat ws r (byteArr (List.replicate K 0)) i).2.map octInts) := by
    intro i
    induction i with
    | zero => exact fun _ _ h => nomatch h
    | succ i ih =>
      intro hi l hl
      rw [stAt, List.map_append] at hl
      rcases List.mem_append.mp hl with hl | hl
      · exact ih (Nat.le_of_succ_le hi) l hl
      · rw [List.map_singleton, List.mem_singleton] at hl
        subst hl
        refine ⟨?_, fun x hx => ?_⟩
        · unfold octInts
          rw [List.length_map, Array.length_toList, undo1_size, List.getD_eq_getElem?_getD, List.getElem?_eq_getElem hi]
          exact (h _ (List.getElem_mem hi)).1
        · unfold octInts at hx
          obtain ⟨c, _, rfl⟩ := List.mem_map.mp hx
          have := c.toNat_lt
          omega
  exact key _ (Nat.le_refl _)
theorem told_len (U : Int) (K : Nat) (ws : List Int) (r : List (List Int)) : (Told U K ws r).length = r.length := by
  unfold Told; rw [List.length_map, stAt_len]
theorem told_mix {a b U : Int} {K : Nat} {ws : List Int} {r0 r1 : List (List Int)} (ha : 0 ≤ a ∧ a < 256) (hb : 0 ≤ b ∧ b < 256) (hl : r0.length = r1.length) (h0 : RowsOk K r0) (h1 : RowsOk K r1) :
    Told U K ws (List.zipWith (Mix a b) r0 r1) = List.zipWith (Mix a b) (Told U K ws r0) (Told U K ws r1) := by
  have := (told_lies (u := U.toNat) (ws := ws) ha hb hl h0 h1 r0.length (Nat.le_refl _)).2
  unfold Told
  rw [List.length_zipWith, ← hl, Nat.min_self]
  exact this
theorem AllLt.mem {d : Nat} : ∀ {l : List (Addr × Obj)}, AllLt d l → ∀ p ∈ l, p.1 < d
  | _ :: _, h => List.forall_mem_cons.mpr ⟨h.1, AllLt.mem h.2⟩
  | [], _ => fun _ h => nomatch h
theorem RowsIn.sub {news : List (Addr × Obj)} : ∀ {vals : List Value} {rows : List (List Int)}, RowsIn news vals rows →
    ∃ rl, (∀ p ∈ rl, p ∈ news ∧ ∃ vs k row, p.2.data = .seq (List.toArray vs) k ∧ IntsAre vs row) ∧ RowsIn rl vals rows
  | _, _, .nil => ⟨[], (fun _ h => nomatch h), .nil⟩
  | _, _, .cons (a := a) (o := o) hm hc hd hi hr => by
    obtain ⟨rl, h1, h2⟩ := hr.sub
    exact ⟨(a, o) :: rl, List.forall_mem_cons.mpr ⟨⟨hm, _, _, _, hd, hi⟩, h1⟩, .cons (.head _) hc hd hi (h2.mono fun p hp => .tail _ hp)⟩
theorem RowsIn.get {news : List (Addr × Obj)} : ∀ {vals : List Value} {rows : List (List Int)}, RowsIn news vals rows → ∀ {i : Nat} {v : Value}, vals[i]? = some v →
    ∃ a o vs k row, v = .ref a ∧ rows[i]? = some row ∧ (a, o) ∈ news ∧ o.cls = .type "list" ∧ o.data = .seq (List.toArray vs) k ∧ IntsAre vs row
  | _, _, .cons hm hc hd hi _, 0, _, e => ⟨_, _, _, _, _, (Option.some.inj e).symm, rfl, hm, hc, hd, hi⟩
  | _, _, .cons _ _ _ _ hr, _ + 1, _, e => hr.get e
theorem row_ne {news : List (Addr × Obj)} {o : Obj} {vs ve : List Value} {k k' : Nat} {row : List Int} {rows : List (List Int)} (h1 : o.data = .seq (List.toArray vs) k) (hi : IntsAre vs row) (h2 : o.data = .seq (List.toArray ve) k') (hr : RowsIn news ve rows) (hne : rows ≠ []) : False := by
  rw [h1] at h2
  have e : vs = ve := by
    have := (Data.seq.inj h2).1
    simpa using this
  subst e
  cases hr with
  | nil => exact hne rfl
  | cons => cases hi
theorem rows_far {h₀ h : Heap} {L e : Addr} {oe : Obj} {news rl : List (Addr × Obj)} {ve : List Value} {k : Nat} {rows : List (List Int)} (N : News h₀ L h news) (hm : (e, oe) ∈ news) (hd : oe.data = .seq (List.toArray ve) k) (hr : RowsIn news ve rows) (hne : rows ≠ [])
    (hrl : ∀ p ∈ rl, p ∈ news ∧ ∃ vs k row, p.2.data = .seq (List.toArray vs) k ∧ IntsAre vs row) : ∀ p ∈ rl, p.1 ≠ e := by
  intro p hp q
  obtain ⟨hpn, vs, k', row, hpd, hi⟩ := hrl p hp
  have e1 := (N p hpn).1
  have e2 := (N _ hm).1
  rw [q] at e1
  have : p.2 = oe := Option.some.inj (e1.symm.trans e2)
  rw [this] at hpd
  exact row_ne hpd hi hd hr hne
end Mine

set_option autoImplicit false
set_option maxRecDepth 100000
namespace Mine
open PySem PySem.W PyProof.Rows PySem.Calls PySem.Spec


theorem codeC_defC {prog : Program} {w : World} {A : Around} {s : Shared} {K : Frag} {mg mb : Str → Option Value} {p : Program} {loose : List Str} {mean : ExcName → Option Value}
    {R : Result → Shared → Prop} {name qual : Str} {params : Arguments} {body : List Stmt} {scope : Scope} {dV kV doc pm cdv ct oc : Value} {an od : Option Addr} {osl : Array (Option Value)} {f : Addr} {args : Args} {binds : List (Str × Value)}
    (X₀ : K.In s.heap) (T : Top p loose mean mg mb s.heap)
    (ho : K.lookup f = some ⟨oc, od, .func (fnOf name qual params body scope dV kV doc pm an cdv ct), osl⟩) (hcd : codeIn K cdv qual = true) (hroom : A.depth < recursionLimit)
    (hbind : BindsTo s (fnOf name qual params body scope dV kV doc pm an cdv ct) args binds) (hkind : (binds.all fun y => scope.names.lookup y.1 == some .local || scope.names.lookup y.1 == some .cell) = true)
    (hnd : ((cellsFrom 0 scope.names []).map (·.1)).Nodup)
    (h : ∀ L' h₁ tk cells, L' = s.heap.objs.size → Fr s.heap L' h₁ (bindL (envOfC qual scope L' f cdv).kindOf binds fun _ => none) → News s.heap L' h₁ cells →
      CellsAre (bindC (envOfC qual scope L' f cdv).kindOf binds fun _ => none) (cellsFrom (L' + 1) scope.names []) cells →
      wpC (model prog w) (A.deeper (envOfC qual scope L' f cdv)) (execs body (envOfC qual scope L' f cdv))
        (fun fl s' => R (.ok (.ret (match fl with | .ret v => v | _ => .none))) s') (fun _ _ => False) { s with heap := h₁, toks := tk })
    (hco : scope.isCoroutine = false) (hgen : scope.isGenerator = false) (hk : scope.kind = .function) : codeC (model prog w) A (.call (.ref f) args) R s := by
  refine codeC_call_function (fd := fnOf name qual params body scope dV kV doc pm an cdv ct) hroom (X₀ _ _ ho) rfl hco hgen rfl (codeRec_of X₀ hcd) (hbind _ _ _ _ ?_)
  refine wpAny_newFunctionEnv_cells hk (kindsX hkind _) fun env' he s' x => ?_
  subst he
  refine ⟨T.nolimit.keeps x.toInCall.keep, codeC_func ?_⟩
  obtain ⟨h₁, tk, rfl, _⟩ := x.done
  have hk₁ := x.toInCall.keep
  obtain ⟨cells, NC, Y⟩ := Cl.news (h₀ := s.heap) (Nat.le_refl _) fun n c hm => ⟨x.cell n c (lookup_of_mem_nodup (cellsFrom_names scope.names 0 (s.heap.objs.size + 1) [] [] rfl ▸ hnd) hm), x.above n c hm⟩
  exact wpC_mono (h s.heap.objs.size h₁ tk cells rfl ⟨x.toInCall.ns, hk₁, Nat.le_refl _⟩ NC Y) (fun _ _ x => x) fun _ _ x => x.elim

theorem wpC_norm {α : Type} {M : Model} {A : Around} {t : Sem α} {Q : α → Shared → Prop} {E : Value → Shared → Prop} {s s₁ : Shared} {h : Heap} {tk₀ : Nat} (e : s₁ = { s with heap := h, toks := tk₀ })
    (k : ∀ tk, wpC M A t Q E { s with heap := h, toks := tk }) : wpC M A t Q E s₁ := e ▸ k tk₀
theorem cells_three {script : List Int} (h : script.length ≤ 63) : ∃ c0 c1 c2 cr, List.take 60 script ++ List.drop (((List.take 3 script).length : Nat) : Int).toNat [0, 3, 5] = c0 :: c1 :: c2 :: cr ∧ cr.length ≤ 60 := by
  match script, h with
  | [], _ => exact ⟨0, 3, 5, [], rfl, by simp⟩
  | [a], _ => exact ⟨a, 3, 5, [], rfl, by simp⟩
  | [a, b], _ => exact ⟨a, b, 5, [], rfl, by simp⟩
  | a :: b :: c :: r, h =>
    refine ⟨a, b, c, List.take 57 r, ?_, ?_⟩
    · have : ((((List.take 3 (a :: b :: c :: r)).length : Nat) : Int)).toNat = 3 := by simp
      rw [this]; simp
    · simp; omega


theorem pickT4 {α : Type} {P : α → Prop} {a b c d e : α} {r : List α} (h : ∀ p ∈ a :: b :: c :: d :: e :: r, P p) : ∀ p ∈ a :: r, P p := by
  intro p hp
  rcases List.mem_cons.mp hp with rfl | hp
  · exact h _ (.head _)
  · exact h _ (.tail _ (.tail _ (.tail _ (.tail _ (.tail _ hp)))))
theorem dropT1 {α : Type} {P : α → Prop} {a : α} {r : List α} (h : ∀ p ∈ a :: r, P p) : ∀ p ∈ r, P p := fun p hp => h p (.tail _ hp)

/-- the statements in turn, each walked in a context of its own -/
theorem chainE {M : Model} {A : Around} {E : Value → Shared → Prop} {s s₁ : Shared} {env : Env} {st : Stmt} {stmts : List Stmt} {Q : Flow → Shared → Prop} (C : Heap → Prop)
    (zf : wpC M A (exec st env) (fun f s₃ => f = .next ∧ ∃ h' tk', s₃ = { s with heap := h', toks := tk' } ∧ C h') E s₁)
    (zk : ∀ h' tk', C h' → wpC M A (execs stmts env) Q E { s with heap := h', toks := tk' }) : wpC M A (execs (st :: stmts) env) Q E s₁ :=
  wpC_execs_cons (wpC_mono zf (fun f s₃ h => by obtain ⟨rfl, h', tk', rfl, c⟩ := h; exact zk h' tk' c) fun _ _ x => x)

def C1 (h₀ : Heap) (L : Nat) (cs : List Int) (h : Heap) : Prop :=
  ∃ (m : Str → Option Value) (D : Addr) (ws : List Value) (o1 o2 o3 o4 o5 : Obj), Fr h₀ L h m ∧ News h₀ L h [(D, PySem.W.listOf ws.toArray 0), (L + 1 + 1 + 1 + 1 + 1, o1), (L + 1 + 1 + 1 + 1, o2), (L + 1 + 1 + 1, o3), (L + 1 + 1, o4), (L + 1, o5)] ∧
    o1.data = .cell none ∧ o2.data = .cell none ∧ o3.data = .cell none ∧ o4.data = .cell none ∧ o5.data = .cell (some (.ref D)) ∧ IntsAre ws cs ∧ (L + 1 + 1 + 1 + 1 + 1 < D ∧ L + 1 + 1 + 1 + 1 < D ∧ L + 1 + 1 + 1 < D ∧ L + 1 + 1 < D ∧ L + 1 < D)
def C2 (h₀ : Heap) (L : Nat) (cs : List Int) (U W H : Int) (h : Heap) : Prop :=
  ∃ (m : Str → Option Value) (D : Addr) (ws : List Value) (o1 o2 o3 o4 o5 : Obj) (t1 t2 t3 : Tok), Fr h₀ L h (fun y => if y = Str.ofString "high" then some (.int H t1) else if y = Str.ofString "wide" then some (.int W t2) else m y) ∧
    News h₀ L h [(D, PySem.W.listOf ws.toArray 0), (L + 1 + 1 + 1 + 1 + 1, o1), (L + 1 + 1 + 1 + 1, o2), (L + 1 + 1 + 1, o3), (L + 1 + 1, o4), (L + 1, o5)] ∧
    o1.data = .cell none ∧ o2.data = .cell none ∧ o3.data = .cell none ∧ o4.data = .cell (some (.int U t3)) ∧ o5.data = .cell (some (.ref D)) ∧ IntsAre ws cs ∧ (L + 1 + 1 + 1 + 1 + 1 < D ∧ L + 1 + 1 + 1 + 1 < D ∧ L + 1 + 1 + 1 < D ∧ L + 1 + 1 < D ∧ L + 1 < D)
def C3 (h₀ : Heap) (L : Nat) (cs : List Int) (U W H a b : Int) (h : Heap) : Prop :=
  ∃ (m : Str → Option Value) (D : Addr) (ws : List Value) (o1 o2 o3 o4 o5 : Obj) (t1 t2 t3 t4 t5 : Tok), Fr h₀ L h (fun y => if y = Str.ofString "high" then some (.int H t1) else if y = Str.ofString "wide" then some (.int W t2) else m y) ∧
    News h₀ L h [(D, PySem.W.listOf ws.toArray 0), (L + 1 + 1 + 1 + 1 + 1, o1), (L + 1 + 1 + 1 + 1, o2), (L + 1 + 1 + 1, o3), (L + 1 + 1, o4), (L + 1, o5)] ∧
    o1.data = .cell none ∧ o2.data = .cell (some (.int b t5)) ∧ o3.data = .cell (some (.int a t4)) ∧ o4.data = .cell (some (.int U t3)) ∧ o5.data = .cell (some (.ref D)) ∧ IntsAre ws cs ∧ (L + 1 + 1 + 1 + 1 + 1 < D ∧ L + 1 + 1 + 1 + 1 < D ∧ L + 1 + 1 + 1 < D ∧ L + 1 + 1 < D ∧ L + 1 < D)
def C4 (h₀ : Heap) (L : Nat) (cs : List Int) (U W H a b : Int) (h : Heap) : Prop :=
  ∃ (m : Str → Option Value) (D : Addr) (ws : List Value) (o1 o2 o3 o4 o5 : Obj) (t1 t2 t3 t4 t5 t6 : Tok) (wl ll l0 l1 l2 : Nat), Fr h₀ L h (fun y => if y = Str.ofString "lines" then some (.ref ll) else if y = Str.ofString "at" then some (.int 3 t6) else if y = Str.ofString "high" then some (.int H t1) else if y = Str.ofString "wide" then some (.int W t2) else m y) ∧
    News h₀ L h [(ll, PySem.W.listOf #[.ref l0, .ref l1, .ref l2] 0), (l2, PySem.W.listOf #[] 0), (l1, PySem.W.listOf #[] 0), (l0, PySem.W.listOf #[] 0), (wl, PySem.W.listOf #[] 0), (D, PySem.W.listOf ws.toArray 0), (L + 1 + 1 + 1 + 1 + 1, o1), (L + 1 + 1 + 1 + 1, o2), (L + 1 + 1 + 1, o3), (L + 1 + 1, o4), (L + 1, o5)] ∧
    o1.data = .cell (some (.ref wl)) ∧ o2.data = .cell (some (.int b t5)) ∧ o3.data = .cell (some (.int a t4)) ∧ o4.data = .cell (some (.int U t3)) ∧ o5.data = .cell (some (.ref D)) ∧ IntsAre ws cs ∧
    @LT.lt Nat _ (L + 1 + 1 + 1 + 1 + 1) D ∧ @LT.lt Nat _ D wl ∧ wl < l0 ∧ l0 < l1 ∧ l1 < l2 ∧ l2 < ll


theorem perm5 {α : Type} {P : α → Prop} {a b c d e : α} {r : List α} (h : ∀ p ∈ a :: b :: c :: d :: e :: r, P p) : ∀ p ∈ d :: c :: b :: e :: a :: r, P p := by
  intro p hp
  rcases List.mem_cons.mp hp with rfl | hp
  · exact h _ (.tail _ (.tail _ (.tail _ (.head _))))
  rcases List.mem_cons.mp hp with rfl | hp
  · exact h _ (.tail _ (.tail _ (.head _)))
  rcases List.mem_cons.mp hp with rfl | hp
  · exact h _ (.tail _ (.head _))
  rcases List.mem_cons.mp hp with rfl | hp
  · exact h _ (.tail _ (.tail _ (.tail _ (.tail _ (.head _)))))
  rcases List.mem_cons.mp hp with rfl | hp
  · exact h _ (.head _)
  · exact h _ (.tail _ (.tail _ (.tail _ (.tail _ (.tail _ hp)))))
theorem bound4 (c : Int) : 1 ≤ 4 - c.fmod 4 ∧ 4 - c.fmod 4 ≤ 4 := by
  rw [Int.fmod_eq_emod_of_nonneg _ (by decide)]; omega
theorem bound3 (c : Int) : 1 ≤ 3 - c.fmod 3 ∧ 3 - c.fmod 3 ≤ 3 := by
  rw [Int.fmod_eq_emod_of_nonneg _ (by decide)]; omega
theorem prod_bound {U W : Int} (h1 : 1 ≤ U ∧ U ≤ 4) (h2 : 1 ≤ W ∧ W ≤ 3) : ∃ K : Nat, W * U = K ∧ 1 ≤ K ∧ K ≤ 12 := by
  have hW : W = 1 ∨ W = 2 ∨ W = 3 := by omega
  rcases hW with rfl | rfl | rfl
  · exact ⟨U.toNat, by omega, by omega, by omega⟩
  · exact ⟨(2 * U).toNat, by omega, by omega, by omega⟩
  · exact ⟨(3 * U).toNat, by omega, by omega, by omega⟩

/-- after so many lines drawn -/
structure LJ (L : Nat) (cs : List Int) (U W a b : Int) (K : Nat) (D wl ll l0 l1 l2 : Nat) (o1 o2 o3 o4 o5 : Obj) (cv : List Value) (i : Nat) (m : Str → Option Value) (led : List (Addr × Obj))
    (ws : List Int) (r0 r1 : List (List Int)) (wv v0 v1 v2 : List Value) (k0 k1 k2 kw : Nat) (rest : List (Addr × Obj)) : Prop where
  led : led = (l0, PySem.W.listOf v0.toArray k0) :: (l1, PySem.W.listOf v1.toArray k1) :: (l2, PySem.W.listOf v2.toArray k2) :: (wl, PySem.W.listOf wv.toArray kw) :: (ll, PySem.W.listOf #[.ref l0, .ref l1, .ref l2] 0) :: (D, PySem.W.listOf cv.toArray 0) ::
    (L + 1 + 1 + 1 + 1 + 1, o1) :: (L + 1 + 1 + 1 + 1, o2) :: (L + 1 + 1 + 1, o3) :: (L + 1 + 1, o4) :: (L + 1, o5) :: rest
  lines : m (Str.ofString "lines") = some (.ref ll)
  at' : ∃ n t, m (Str.ofString "at") = some (.int n t) ∧ 0 ≤ n ∧ n ≤ 3 + 25 * (i : Int)
  wide : ∃ t, m (Str.ofString "wide") = some (.int W t)
  ways : IntsAre wv ws
  i0 : RowsIn rest v0 r0
  i1 : RowsIn rest v1 r1
  i2 : RowsIn rest v2 (List.zipWith (Mix a b) r0 r1)
  nw : ws.length = i
  n0 : r0.length = i
  n1 : r1.length = i
  ok0 : RowsOk K r0
  ok1 : RowsOk K r1
  far : ∀ p ∈ rest, ll < p.1
def LineJ (L : Nat) (cs : List Int) (U W a b : Int) (K : Nat) (D wl ll l0 l1 l2 : Nat) (o1 o2 o3 o4 o5 : Obj) (cv : List Value) (i : Nat) (m : Str → Option Value) (led : List (Addr × Obj)) : Prop :=
  ∃ ws r0 r1 wv v0 v1 v2 k0 k1 k2 kw rest, LJ L cs U W a b K D wl ll l0 l1 l2 o1 o2 o3 o4 o5 cv i m led ws r0 r1 wv v0 v1 v2 k0 k1 k2 kw rest
theorem CompDone.fr {h₀ : Heap} {L : Addr} {m₀ : Str → Option Value} {s₂ : Shared} {wr : List Addr} {D C : Nat} {h : Heap} {m : Str → Option Value} {acc : Array Value} {k : Nat} {led : List (Addr × Obj)} (X : CompDone s₂ wr D C h m acc k led)
    (F : Fr h₀ L s₂.heap m₀) (hw : ∀ b ∈ wr, h₀.get? b = none) (hLw : L ∉ wr) : Fr h₀ L h m₀ :=
  ⟨F.ns.at' fun o e => X.old L o hLw e, fun b o e => X.old b o (fun q => by rw [hw b q] at e; cases e) (F.keep b o e), F.above⟩
theorem CompDone.cell {h₀ : Heap} {L c : Addr} {s₂ : Shared} {wr : List Addr} {D C : Nat} {h : Heap} {m : Str → Option Value} {acc : Array Value} {k : Nat} {led news : List (Addr × Obj)} {o : Obj} {v : Option Value} (X : CompDone s₂ wr D C h m acc k led)
    (N : News h₀ L s₂.heap news) (hm : (c, o) ∈ news) (hnw : ∀ p ∈ news, p.1 ∉ wr) (hd : o.data = .cell v) : h.IsCell c v := ⟨o, X.old _ _ (hnw _ hm) (N _ hm).1, hd⟩
theorem CompDone.list {h₀ : Heap} {L c : Addr} {s₂ : Shared} {wr : List Addr} {D C : Nat} {h : Heap} {m : Str → Option Value} {acc : Array Value} {k n : Nat} {led news : List (Addr × Obj)} {vs : List Value} (X : CompDone s₂ wr D C h m acc k led)
    (N : News h₀ L s₂.heap news) (hm : (c, PySem.W.listOf vs.toArray n) ∈ news) (hnw : ∀ p ∈ news, p.1 ∉ wr) : h.IsList c vs.toArray := ⟨_, X.old _ _ (hnw _ hm) (N _ hm).1, rfl, n, rfl⟩
theorem len_at {prog : Program} {w : World} {A : Around} {E : Value → Shared → Prop} {s : Shared} {a : Addr} {l : List Value} {Q : Value → Shared → Prop} (hl : s.heap.IsList a l.toArray)
    (hz : l.length ≤ 100) (h : Q (.int l.length (s.toks + 1)) { s with toks := s.toks + 1 + 1 }) : wpAny (model prog w) A (call (.builtin "len") [.ref a]) Q E s := by
  have := len_list (prog := prog) (w := w) (A := A) (E := E) (Q := Q) hl (by simp; omega) (by simpa using h)
  exact this
theorem item_at {prog : Program} {w : World} {A : Around} {E : Value → Shared → Prop} {s : Shared} {value slice : PySem.Expr} {a : Addr} {vs : List Value} {ns : List Int} {k : Int} {u : Tok} {Q : Value → Shared → Prop} (hl : s.heap.IsList a vs.toArray) (hi : IntsAre vs ns)
    (h0 : 0 ≤ k) (hlt : k < ns.length) (hz : ns.length ≤ 100) (h : ∀ x t, Q (.int x t) s)
    (hs : subscripted slice false (.ref a) (.int k u) = operate [.ref a, .int k u] (getItem (.ref a) (.int k u)) := by with_unfolding_all rfl) :
    wpAny (model prog w) A (subscriptTail value slice (.ref a) (.int k u)) Q E s := by
  have hlen := hi.length
  have hlt' : k.toNat < vs.length := by omega
  obtain ⟨n, t, e, _⟩ := IntsAre.at hi (List.getElem?_eq_getElem hlt')
  exact tail_any hl.typeIs slot_list_getitem.lookup (wpAny_getItem_list hl h0 (by omega) (x := .int n t) (by simpa [hlt'] using e) (h n t)) hs
theorem len_N {prog : Program} {w : World} {A : Around} {E : Value → Shared → Prop} {s : Shared} {h₀ : Heap} {L a : Addr} {news : List (Addr × Obj)} {l : List Value} {n : Nat} {Q : Value → Shared → Prop} (N : News h₀ L s.heap news) (hm : (a, PySem.W.listOf l.toArray n) ∈ news)
    (hz : l.length ≤ 100) (h : Q (.int l.length (s.toks + 1)) { s with toks := s.toks + 1 + 1 }) : wpAny (model prog w) A (call (.builtin "len") [.ref a]) Q E s := len_at ⟨_, (N _ hm).1, rfl, n, rfl⟩ hz h
theorem item_N {prog : Program} {w : World} {A : Around} {E : Value → Shared → Prop} {s : Shared} {value slice : PySem.Expr} {h₀ : Heap} {L a : Addr} {news : List (Addr × Obj)} {vs : List Value} {n : Nat} {ns : List Int} {k : Int} {u : Tok} {Q : Value → Shared → Prop} (N : News h₀ L s.heap news) (hm : (a, PySem.W.listOf vs.toArray n) ∈ news) (hi : IntsAre vs ns)
    (h0 : 0 ≤ k) (hlt : k < ns.length) (hz : ns.length ≤ 100) (h : ∀ x t, Q (.int x t) s)
    (hs : subscripted slice false (.ref a) (.int k u) = operate [.ref a, .int k u] (getItem (.ref a) (.int k u)) := by with_unfolding_all rfl) :
    wpAny (model prog w) A (subscriptTail value slice (.ref a) (.int k u)) Q E s := item_at ⟨_, (N _ hm).1, rfl, n, rfl⟩ hi h0 hlt hz h hs
theorem fmod_oct (x : Int) : 0 ≤ x.fmod 256 ∧ x.fmod 256 < 256 := by
  rw [Int.fmod_eq_emod_of_nonneg _ (by decide)]; omega
theorem dropT2 {α : Type} {P : α → Prop} {a b : α} {r : List α} (h : ∀ p ∈ a :: b :: r, P p) : ∀ p ∈ a :: r, P p := by
  intro p hp
  rcases List.mem_cons.mp hp with rfl | hp
  · exact h _ (.head _)
  · exact h _ (.tail _ (.tail _ hp))
theorem mix_of {a b : Int} {K : Nat} {fs gs ns : List Int} (hf : fs.length = K) (hg : gs.length = K) (hn : ns.length = K) (h : ∀ (j : Nat) (n : Int), ns[j]? = some n → ∃ x y, fs[j]? = some x ∧ gs[j]? = some y ∧ n = (a * x + b * y).fmod 256) : ns = Mix a b fs gs := by
  apply List.ext_getElem?
  intro j
  unfold Mix
  rw [List.getElem?_zipWith]
  cases e : ns[j]? with
  | none =>
    have : K ≤ j := by rw [← hn]; exact List.getElem?_eq_none_iff.mp e
    rw [List.getElem?_eq_none (by omega)]
  | some n =>
    obtain ⟨x, y, e1, e2, rfl⟩ := h j n e
    rw [e1, e2]
theorem permJ {α : Type} {P : α → Prop} {n3 n2 n1 nd : α} {base rest own : List α} (h : ∀ p ∈ n3 :: n2 :: n1 :: nd :: (base ++ (rest ++ own)), P p) : ∀ p ∈ (base ++ (n3 :: n2 :: n1 :: rest)) ++ own, P p := by
  intro p hp
  simp only [List.mem_append, List.mem_cons] at hp
  refine h p ?_
  simp only [List.mem_append, List.mem_cons]
  rcases hp with (hp | hp | hp | hp | hp) | hp
  · exact .inr (.inr (.inr (.inr (.inl hp))))
  · exact .inl hp
  · exact .inr (.inl hp)
  · exact .inr (.inr (.inl hp))
  · exact .inr (.inr (.inr (.inr (.inr (.inl hp)))))
  · exact .inr (.inr (.inr (.inr (.inr (.inr hp)))))
theorem prod_oct {a x : Int} (h1 : 0 ≤ a ∧ a < 256) (h2 : 0 ≤ x ∧ x < 256) : 0 ≤ a * x ∧ a * x ≤ 65025 :=
  ⟨Int.mul_nonneg h1.1 h2.1, Int.le_trans (Int.mul_le_mul (c := 255) (d := 255) (by omega) (by omega) h2.1 (by decide)) (by decide)⟩
theorem mix_ok {a b : Int} {K : Nat} : ∀ {r0 r1 : List (List Int)}, RowsOk K r0 → RowsOk K r1 → RowsOk K (List.zipWith (Mix a b) r0 r1)
  | [], _, _, _ => fun _ h => nomatch h
  | _ :: _, [], _, _ => fun _ h => nomatch h
  | p :: r0, q :: r1, h0, h1 => by
    refine List.forall_mem_cons.mpr ⟨⟨?_, fun x hx => ?_⟩, mix_ok (fun l hl => h0 l (.tail _ hl)) fun l hl => h1 l (.tail _ hl)⟩
    · unfold Mix
      rw [List.length_zipWith, (h0 p (.head _)).1, (h1 q (.head _)).1, Nat.min_self]
    · unfold Mix at hx
      obtain ⟨j, hj⟩ := List.getElem?_of_mem hx
      rw [List.getElem?_zipWith] at hj
      split at hj
      · cases hj; exact fmod_oct _
      · cases hj
theorem TabsIn.mem {news : List (Addr × Obj)} : ∀ {vs : List Value} {tabs : List (List (List Int))}, TabsIn news vs tabs → ∀ v ∈ vs, ∃ a o, v = .ref a ∧ (a, o) ∈ news
  | _, _, .nil => fun _ h => nomatch h
  | _, _, .cons hm _ _ _ hr => List.forall_mem_cons.mpr ⟨⟨_, _, rfl, hm⟩, hr.mem⟩
theorem off_of {x I wl l2 ll D : Nat} {L : Nat} {oll oD o1 o2 o3 o4 o5 : Obj} {rest own : List (Addr × Obj)} (h1 : wl ≤ x) (h2 : x ≤ l2) (h3 : x ≠ I) (q1 : L + 1 + 1 + 1 + 1 + 1 < D) (q2 : D < wl) (q6 : l2 < ll) (hfar : ∀ p ∈ rest, ll < p.1) (hof : ∀ p ∈ own, p.1 ∈ [I]) :
    ∀ p ∈ (ll, oll) :: (D, oD) :: (L + 1 + 1 + 1 + 1 + 1, o1) :: (L + 1 + 1 + 1 + 1, o2) :: (L + 1 + 1 + 1, o3) :: (L + 1 + 1, o4) :: (L + 1, o5) :: (rest ++ own), p.1 ≠ x := by
  refine List.forall_mem_cons.mpr ⟨(by show (ll : Nat) ≠ x; omega), List.forall_mem_cons.mpr ⟨(by show (D : Nat) ≠ x; omega), List.forall_mem_cons.mpr ⟨(by show (L + 1 + 1 + 1 + 1 + 1 : Nat) ≠ x; omega), List.forall_mem_cons.mpr ⟨(by show (L + 1 + 1 + 1 + 1 : Nat) ≠ x; omega), List.forall_mem_cons.mpr ⟨(by show (L + 1 + 1 + 1 : Nat) ≠ x; omega), List.forall_mem_cons.mpr ⟨(by show (L + 1 + 1 : Nat) ≠ x; omega), List.forall_mem_cons.mpr ⟨(by show (L + 1 : Nat) ≠ x; omega), fun p hp => ?_⟩⟩⟩⟩⟩⟩⟩
  rcases List.mem_append.mp hp with hp | hp
  · have := hfar p hp
    have : (ll : Nat) < p.1 := this
    show (p.1 : Nat) ≠ x
    omega
  · have := List.mem_singleton.mp (hof p hp)
    rw [this]; exact Ne.symm h3
local macro_rules | `(tactic| walk_at "eval Name") => `(tactic| ((with_reducible show wpAny _ _ (eval (Expr.Name _ _) (compEnvC _ _ _ _)) _ _ _); k_dflt (first
  | (refine' cName_L ?k1 ?k2 ?_; (case k1 => assumption); (case k2 => rfl))
  | (refine' cName_C ?k1 ?k2 ?_; (case k1 => rfl); (case k2 => assumption)))))
local macro_rules | `(tactic| walk_at "call builtin:len") => `(tactic| (k_here; (with_reducible show wpAny _ _ (call (Value.builtin _) [Value.ref _]) _ _ _); first | (refine' len_at ?k1 ?k3 ?_; (case k1 => assumption); (case k3 => omega); k_whole) | (refine' len_N ?k1 ?k2 ?k3 ?_; (case k1 => k_asm); (case k2 => k_mem); (case k3 => omega); k_whole)))
local macro_rules | `(tactic| walk_at "subscriptTail") => `(tactic| (k_here; (with_reducible show wpAny _ _ (subscriptTail _ _ (Value.ref _) (Value.int _ _)) _ _ _); first | (refine' item_at ?k1 ?k2 ?k3 ?k4 ?k5 ?k7 ?k6; (case k1 => assumption); (case k2 => assumption); (case k3 => omega); (case k4 => omega); (case k5 => omega); (case k6 => with_unfolding_all rfl); (case k7 => (intro x t; skip)); k_whole) | (refine' item_N ?k0 ?k1 ?k2 ?k3 ?k4 ?k5 ?k7 ?k6; (case k0 => k_asm); (case k1 => k_mem); (case k2 => assumption); (case k3 => omega); (case k4 => omega); (case k5 => omega); (case k6 => with_unfolding_all rfl); (case k7 => (intro x t; skip)); k_whole)))
theorem name_first {G : Prop} {h₀ h : Heap} {L : Addr} {d : Addr} {o : Obj} {r : List (Addr × Obj)} (_ : News h₀ L h ((d, o) :: r)) (k : ∀ x : Nat, x = d → G) : G := k d rfl
theorem fp7 {q x e0 e1 : Nat} (h : x < q) (h0 : x ≠ e0) (h1 : x ≠ e1) : x ∉ [q + 4, q + 2, q + 3, q, q + 1, e0, e1] := by
  intro hm
  simp only [List.mem_cons, List.not_mem_nil, or_false] at hm
  omega
theorem permD {α : Type} {P : α → Prop} {d a b c e f : α} {rl rs own : List α} (h : ∀ p ∈ d :: a :: b :: c :: e :: f :: ((rl ++ rs) ++ own), P p) : ∀ p ∈ (a :: b :: c :: e :: f :: (rl ++ (d :: rs))) ++ own, P p := by
  intro p hp
  refine h p ?_
  simp only [List.mem_append, List.mem_cons] at hp ⊢
  rcases hp with (hp | hp | hp | hp | hp | hp | hp | hp) | hp
  · exact .inr (.inl hp)
  · exact .inr (.inr (.inl hp))
  · exact .inr (.inr (.inr (.inl hp)))
  · exact .inr (.inr (.inr (.inr (.inl hp))))
  · exact .inr (.inr (.inr (.inr (.inr (.inl hp)))))
  · exact .inr (.inr (.inr (.inr (.inr (.inr (.inl (.inl hp)))))))
  · exact .inl hp
  · exact .inr (.inr (.inr (.inr (.inr (.inr (.inl (.inr hp)))))))
  · exact .inr (.inr (.inr (.inr (.inr (.inr (.inr hp))))))
local macro_rules | `(tactic| walk_at "compareOp Eq ref ref") => `(tactic| (k_here; (with_reducible show wpAny _ _ (compareOp CmpOp.Eq (Value.ref _) (Value.ref _)) _ _ _); refine Halt.go ?_))
/-- the last loop -/
def DueJ (a b : Int) (T0 T1 : List (List Int)) (Du Dt e0 e1 e2 : Nat) (L kk : Nat) (o2 o3 oe2 : Obj) (rl : List (Addr × Obj)) (i : Nat) (m : Str → Option Value) (led : List (Addr × Obj)) : Prop :=
  ∃ (dv : List Value) (k : Nat) (restd : List (Addr × Obj)), led = (Du, PySem.W.listOf dv.toArray k) :: (Dt, PySem.W.listOf #[.ref e0, .ref e1, .ref e2] kk) :: (L + 1 + 1 + 1 + 1, o2) :: (L + 1 + 1 + 1, o3) :: (e2, oe2) :: (rl ++ restd) ∧
    m (Str.ofString "due") = some (.ref Du) ∧ m (Str.ofString "told") = some (.ref Dt) ∧ RowsIn restd dv ((List.zipWith (Mix a b) T0 T1).take i) ∧ ∀ p ∈ restd, Du < p.1
local macro_rules | `(tactic| walk_at "pyIter ref") => `(tactic| (k_here; (with_reducible show wpAny _ _ (pyIter (Value.ref _)) _ _ _); refine Halt.go ?_))
local macro_rules | `(tactic| walk_at "call type:zip") => `(tactic| (k_here; (with_reducible show wpAny _ _ (call (Value.type _) [Value.ref _, Value.ref _]) _ _ _); refine Halt.go ?_))
local macro_rules | `(tactic| walk_at "call builtin:list.append") => `(tactic| (k_here; (with_reducible show wpAny _ _ (call (Value.builtin _) [Value.ref _, _]) _ _ _); refine Halt.go ?_))

set_option maxHeartbeats 8000000 in
theorem law_call {w : World} {loose : List Str} {mean : ExcName → Option Value} {mg mb : Str → Option Value} {s : Shared}
    {ls : Addr} {vs : List Value} {script : List Int} {Q : Value → Shared → Prop}
    (X : (Hz.hd.heap_39 w.params).In s.heap) (T : Top Hz.hd.view_39 loose mean mg mb s.heap)
    (hl : s.heap.IsList ls vs.toArray) (hi : IntsAre vs script) (hlen : script.length ≤ 63) (ret : ∀ h' tk, (∀ b o, s.heap.get? b = some o → h'.get? b = some o) → Q (.bool true) { s with heap := h', toks := tk }) :
    wpC (model PySem.Challenge.rw_bf5020_01.row.prog w) callerA (call (.ref 40) [.ref ls]) Q (fun _ _ => False) s := by
  revert X; k_fill; intro X
  refine wpC_call ?_
  refine' codeC_defC X T ?k6 ?k7 ?k8 ?k9 ?kB ?kD ?zzh ?c2 ?c3 ?c4
  case k6 => k_is
  case k7 => k_is
  case k8 => decide
  case k9 => exact BindsTo.of_eq rfl
  case kB => exact rfl
  case kD => decide +kernel
  case c2 => exact rfl
  case c3 => exact rfl
  case c4 => exact rfl
  case zzh =>
    intro L' h₁ tk cells hL' F₁ N₁ Y
    cases Y with | @cons _ _ o1 _ _ d1 Y =>
    cases Y with | @cons _ _ o2 _ _ d2 Y =>
    cases Y with | @cons _ _ o3 _ _ d3 Y =>
    cases Y with | @cons _ _ o4 _ _ d4 Y =>
    cases Y with | @cons _ _ o5 _ _ d5 Y =>
    cases Y
    replace d1 : o1.data = .cell none := d1
    replace d2 : o2.data = .cell none := d2
    replace d3 : o3.data = .cell none := d3
    replace d4 : o4.data = .cell none := d4
    replace d5 : o5.data = .cell none := d5
    obtain ⟨c0, c1, c2, cr, hce, hcr⟩ := cells_three hlen
    refine chainE (s := s) (C1 s.heap L' (c0 :: c1 :: c2 :: cr)) ?z1 fun h tk h1 => ?_
    case z1 =>
      refine wpC_any ?_
      k_steps
      all_goals try trivial
      (rename Fr _ _ _ _ => F)
      (rename News _ _ _ _ => N)
      (rename IntsAre _ (List.take 60 script ++ _) => hci)
      (rename Obj.data _ = Data.cell (some _) => dc)
      rename _ ∧ _ => l1
      exact ⟨_, _, _, _, _, _, _, _, F, pickT4 N, d1, d2, d3, d4, dc, hce ▸ hci, l1.2.2.2.2⟩
    clear F₁ N₁ d1 d2 d3 d4 d5
    clear o1 o2 o3 o4 o5 h₁
    refine chainE (s := s) (C2 s.heap L' (c0 :: c1 :: c2 :: cr) (4 - c0.fmod 4) (3 - (c0.fdiv 4).fmod 3) (3 - (c0.fdiv 12).fmod 3)) ?z2 fun h tk h2 => ?_
    case z2 =>
      obtain ⟨m, D, ws, o1, o2, o3, o4, o5, F, N, d1, d2, d3, d4, d5, hci, l1⟩ := h1
      have hci' := hci
      cases hci with | @cons _ ws0 t0 _ hci =>
      cases hci with | @cons _ ws1 t1 _ hci =>
      cases hci with | @cons _ ws2 t2 _ hci =>
      refine wpC_any ?_
      k_steps
      all_goals try trivial
      (rename Fr _ _ _ _ => F)
      (rename News _ _ _ _ => N)
      (rename Obj.data _ = Data.cell (some (Value.int _ _)) => dc)
      exact ⟨m, D, _, _, _, _, _, _, _, _, _, F, dropT1 N, d1, d2, d3, dc, d5, hci', l1⟩
    clear h1
    generalize hU : 4 - c0.fmod 4 = U at h2 ⊢
    generalize hW : 3 - (c0.fdiv 4).fmod 3 = W at h2 ⊢
    generalize hH : 3 - (c0.fdiv 12).fmod 3 = H at h2 ⊢
    refine chainE (s := s) (C3 s.heap L' (c0 :: c1 :: c2 :: cr) U W H (c1.fmod 256) (c2.fmod 256)) ?z3 fun h tk h3 => ?_
    case z3 =>
      obtain ⟨m, D, ws, o1, o2, o3, o4, o5, t1, t2, t3, F, N, d1, d2, d3, d4, d5, hci, l1⟩ := h2
      have hci' := hci
      cases hci with | @cons _ ws0 t0 _ hci =>
      cases hci with | @cons _ ws1 t1 _ hci =>
      cases hci with | @cons _ ws2 t2 _ hci =>
      refine wpC_any ?_
      k_steps
      all_goals try trivial
      (rename Fr _ _ _ _ => F)
      (rename News _ _ _ _ => N)
      exact ⟨m, D, _, _, _, _, _, _, _, _, _, _, _, F, dropT1 N, d1, by assumption, by assumption, d4, d5, hci', l1⟩
    clear h2
    generalize ha : c1.fmod 256 = a at h3 ⊢
    generalize hb : c2.fmod 256 = b at h3 ⊢
    refine chainE (s := s) (C4 s.heap L' (c0 :: c1 :: c2 :: cr) U W H a b) ?z4 fun h tk h4 => ?_
    case z4 =>
      obtain ⟨m, D, ws, o1, o2, o3, o4, o5, t1, t2, t3, t4, t5, F, N, d1, d2, d3, d4, d5, hci, l1⟩ := h3
      refine wpC_any ?_
      k_steps
      all_goals try trivial
      (rename Fr _ _ _ _ => F)
      (rename News _ _ _ _ => N)
      exact ⟨m, D, _, _, _, _, _, _, _, _, _, _, _, _, _, _, _, _, _, F, dropT1 N, by assumption, d2, d3, d4, d5, hci, by omega⟩
    clear h3
    have hUb : 1 ≤ U ∧ U ≤ 4 := hU ▸ bound4 c0
    have hWb : 1 ≤ W ∧ W ≤ 3 := hW ▸ bound3 (c0.fdiv 4)
    have hHb : 1 ≤ H ∧ H ≤ 3 := hH ▸ bound3 (c0.fdiv 12)
    obtain ⟨K, hK, hK1, hK2⟩ := prod_bound hUb hWb
    have hab : 0 ≤ a ∧ a < 256 := ha ▸ fmod_oct c1
    have hbb : 0 ≤ b ∧ b < 256 := hb ▸ fmod_oct c2
    clear hU hW hH ha hb
    generalize hcs : c0 :: c1 :: c2 :: cr = cs at h4
    have hcsl : cs.length ≤ 63 := by rw [← hcs]; simp; omega
    clear hcs hce hcr
    obtain ⟨m, D, cv, o1, o2, o3, o4, o5, t1, t2, t3, t4, t5, t6, wl, ll, l0, l1, l2, F, N, d1, d2, d3, d4, d5, hci, q1, q2, q3, q4, q5, q6⟩ := h4
    refine wpC_execs_cons (wpC_For ?_)
    k_steps
    unfold Halt
    (rename Fr _ _ _ _ => F)
    (rename News _ _ _ _ => N)
    (rename IsRange _ _ _ _ _ _ _ _ => hr)
    replace N : News s.heap L' _ ((l0, PySem.W.listOf #[] 0) :: _) := perm5 N
    refine range_start (n := (H - 0).toNat) (by rfl) F N hr (by exact small_one (by omega) (by omega) (by omega) (by omega)) (by exact rangeSize_nat _ _) fun I h₅ hI W5 hst F₅ N₅ hN₅ hL₅ hq₅ hk₅ => ?_
    refine codeC_forW (s := s) W5 (by intro _; rfl) (by rfl) (by rfl) hL₅ hq₅ (LineJ L' cs U W a b K D wl ll l0 l1 l2 o1 o2 o3 o4 o5 cv) ?step (fun i h hst => range_live' hst) ?hR _ 0 h₅ _ _ _ rfl (Nat.zero_le _) hst F₅ N₅ hN₅ ?hJ
    case hJ =>
      exact ⟨[], [], [], [], [], [], [], 0, 0, 0, 0, [], rfl, by with_unfolding_all rfl, ⟨3, t6, by with_unfolding_all rfl, by omega, by omega⟩, ⟨t2, by with_unfolding_all rfl⟩, .nil, .nil, .nil, .nil, rfl, rfl, rfl, (fun _ h => nomatch h), (fun _ h => nomatch h), (fun _ h => nomatch h)⟩
    case step =>
      have hqI := hq₅ I (.head _)
      clear hst F₅ N₅ hN₅ hL₅ hq₅ hk₅ hr hI F N
      rintro i v m₁ led₁ h tk own hi ⟨ty, rfl⟩ ⟨ws, r0, r1, wv, v0, v1, v2, k0, k1, k2, kw, rest, J⟩ hof hlf F N hown
      obtain ⟨oI, hoI⟩ := hown I (.head _) hqI
      clear hown hqI
      obtain ⟨rfl, hlines, ⟨an, ta, hat, ha0, ha1⟩, ⟨tw, hwide⟩, hway, hi0, hi1, hi2, hnw, hn0, hn1, hok0, hok1, hfar⟩ := J
      rw [bind_at3 hlines hat hwide] at F
      clear hlines hat hwide
      refine wpC_execs_cons (wpC_Assign_ListComp (cl := [(Str.ofString "cells", L' + 1)]) ?hclos ?hkind ?hnames ?h ?hsw)
      case hclos => rfl
      case hkind => rfl
      case hnames => decide
      case hsw => rfl
      case h =>
        k_steps
        unfold Halt
        (rename Fr _ _ _ _ => F)
        (rename News _ _ _ _ => N)
        (rename IsRange _ _ _ _ _ _ _ _ => hr)
        have hK2 : 2 * W * U = 2 * (K : Int) := by rw [Int.mul_assoc, hK]
        refine range_start (n := (an + 1 + 2 * W * U - an).toNat) (by rfl) F N hr (by exact small_one (by omega) (by omega) (by omega) (by omega)) (by exact rangeSize_nat _ _) fun I2 h₆ hI2 W6 hst F₆ N₆ hN₆ hL₆ hq₆ hk₆ => ?_
        have hn6 : (an + 1 + 2 * W * U - an).toNat = 1 + 2 * K := by omega
        rw [hn6] at W6
        refine compW_ints (RR := fun acc C => compEnd _ _ _ _ _ acc C) (fun _ _ => True) W6 (by intro _; rfl) (by decide) (by rfl) (by rfl) (by rw [hn6] at hst; exact hst) (fun i h hst => range_live' hst) (by omega) ?zstep ?zfin
        case zstep =>
          rintro Dd C j v' m' acc kk hh tkk hj ⟨t', rfl⟩ CD
          have Fc := CD.fr F₆ hq₆ hL₆
          have hnsC := CD.ns
          have hc1 : hh.IsCell (L' + 1) (some (.ref D)) := CD.cell N₆ (List.mem_append_left _ (by k_mem)) hN₆ d5
          have hc2 : hh.IsList D cv.toArray := CD.list N₆ (List.mem_append_left _ (by k_mem)) hN₆
          have hcv := hci.length
          k_steps
          all_goals exact ⟨_, _, _, rfl, trivial, rfl⟩
        case zfin =>
          intro Dd C hh tkk m' dv kd ds CD hds hdl _
          refine CD.named (env := envOfC _ _ _ _ _) (by rfl) (by rfl) F₆ N₆ hq₆ hL₆ hN₆ fun h₇ tk₇ F₇ N₇ hlt₇ => ?_
          have hdl0 : (l0 : Nat) < Dd := hlt₇ _ (List.mem_append_left _ (by k_mem))
          have hdll : (ll : Nat) < Dd := hlt₇ (ll, _) (List.mem_append_left _ (by k_mem))
          have hdI : (I : Nat) < Dd := hlt₇ (I, _) (List.mem_append_right _ hoI)
          dsimp only [List.nil_append, List.cons_append] at N₇
          have hdvl := hds.length
          have hsg : 0 ≤ 1 + W * U := by omega
          clear CD hlt₇ hst hk₆ W6 hn6 F₆ N₆ hN₆ hL₆ hq₆ hI2 hr
          refine wpC_norm (s := s) rfl fun tk => ?_
          refine wpC_execs_cons (wpC_any ?_)
          k_steps
          refine wpC_norm (s := s) rfl fun tk => ?_
          refine wpC_execs_cons (wpC_any ?_)
          k_steps
          unfold Halt
          (rename Fr _ _ _ _ => F)
          (rename News _ _ _ _ => N)
          refine append_N (pre := [_, _, _, _]) F N ?_ (off_of (I := I) (Nat.le_refl _) (by omega) (fun q => hlf _ (.tail _ (.tail _ (.tail _ (.head _)))) (List.mem_singleton.mpr q)) q1 q2 q6 hfar hof) ?_ ?_
          · repeat' first | exact List.forall_mem_nil _ | refine List.forall_mem_cons.mpr ⟨?_, ?_⟩ | (show (_ : Nat) ≠ _; omega)
          · have := hway.length
            simp only [List.size_toArray]
            rw [sizeLine_eq]; omega
          intro h₈ F₈ N₈
          rw [List.push_toArray] at N₈
          dsimp only [List.nil_append, List.cons_append] at N₈
          have hway' := IntsAre.snoc hway ((ds.getD (Int.toNat 0) 0 + 1).fmod 3) (tk + 1 + 1 + 1 + 1)
          generalize (tk + 1 + 1 + 1 + 1) = tkw at hway' N₈
          clear F N F₇ N₇
          refine wpC_norm (s := s) rfl fun tk => ?_
          refine wpC_execs_cons (wpC_Assign_ListComp (cl := []) ?hclos ?hkind ?hnames ?h ?hsw)
          case hclos => rfl
          case hkind => rfl
          case hnames => decide
          case hsw => rfl
          case h =>
            k_steps
            unfold Halt
            (rename Fr _ _ _ _ => F)
            (rename News _ _ _ _ => N)
            (rename IntsAre _ (List.take _ (List.drop _ _)) => hsl)
            (rename List.length (List.take _ (List.drop _ _)) = _ => hsn)
            have hsv := hsl.length
            refine list_start (by rfl) F N ⟨_, (N _ (.head _)).1, rfl, _, rfl⟩ fun I4 h₁₀ hI4 W4 hst F₁₀ N₁₀ hN₁₀ hL₁₀ hq₁₀ hk₁₀ => ?_
            refine compW_ints (RR := fun acc C => compEnd _ _ _ _ _ acc C) (fun _ x => 0 ≤ x ∧ x < 256) W4 (by intro _; rfl) (by decide) (by rfl) (by rfl) hst (fun i h hst => list_live hst) (by simp only [List.size_toArray]; omega) ?zs4 ?zf4
            case zs4 =>
              rintro Dd' C j v' m' acc kk hh tkk hj hP CD
              have Fc := CD.fr F₁₀ hq₁₀ hL₁₀
              have hnsC := CD.ns
              obtain ⟨x, t, rfl, _⟩ := IntsAre.at hsl (by simpa using hP)
              k_steps
              exact ⟨_, _, _, rfl, fmod_oct _, rfl⟩
            case zf4 =>
              intro Df C hh tkk m' fv kf fs CD hfs hfl hfo
              refine CD.named (env := envOfC _ _ _ _ _) (by rfl) (by rfl) F₁₀ N₁₀ hq₁₀ hL₁₀ hN₁₀ fun h₁₁ tk₁₁ F₁₁ N₁₁ hlt₁₁ => ?_
              dsimp only [List.nil_append, List.cons_append] at N₁₁
              have hdf0 : (Dd : Nat) < Df := hlt₁₁ (Dd, _) (.tail _ (.head _))
              have hfK : fs.length = K := by rw [hfl]; simp only [List.size_toArray]; omega
              replace N₁₁ : News s.heap L' h₁₁ _ := dropT2 N₁₁
              clear CD hlt₁₁ hst hk₁₀ W4 F₁₀ N₁₀ hN₁₀ hL₁₀ hq₁₀ hI4 F N
              refine wpC_norm (s := s) rfl fun tk => ?_
              clear hsl hsn hsv hfl
              refine wpC_execs_cons (wpC_Assign_ListComp (cl := []) ?hclos ?hkind ?hnames ?h ?hsw)
              case hclos => rfl
              case hkind => rfl
              case hnames => decide
              case hsw => rfl
              case h =>
                k_steps
                unfold Halt
                (rename Fr _ _ _ _ => F)
                (rename News _ _ _ _ => N)
                (rename IntsAre _ (List.drop _ _) => hsl)
                (rename List.length (List.drop _ _) = _ => hsn)
                have hsv := hsl.length
                refine list_start (by rfl) F N ⟨_, (N _ (.head _)).1, rfl, _, rfl⟩ fun I4 h₁₀ hI4 W4 hst F₁₀ N₁₀ hN₁₀ hL₁₀ hq₁₀ hk₁₀ => ?_
                refine compW_ints (RR := fun acc C => compEnd _ _ _ _ _ acc C) (fun _ x => 0 ≤ x ∧ x < 256) W4 (by intro _; rfl) (by decide) (by rfl) (by rfl) hst (fun i h hst => list_live hst) (by simp only [List.size_toArray]; omega) ?zs5 ?zf5
                case zs5 =>
                  rintro Dd' C j v' m' acc kk hh tkk hj hP CD
                  have Fc := CD.fr F₁₀ hq₁₀ hL₁₀
                  have hnsC := CD.ns
                  obtain ⟨x, t, rfl, _⟩ := IntsAre.at hsl (by simpa using hP)
                  k_steps
                  exact ⟨_, _, _, rfl, fmod_oct _, rfl⟩
                case zf5 =>
                  intro Dg C hh tkk m' gv kg gs CD hgs hgl hgo
                  refine CD.named (env := envOfC _ _ _ _ _) (by rfl) (by rfl) F₁₀ N₁₀ hq₁₀ hL₁₀ hN₁₀ fun h₁₁ tk₁₁ F₁₁ N₁₁ hlt₁₁ => ?_
                  dsimp only [List.nil_append, List.cons_append] at N₁₁
                  have hdg0 : (Df : Nat) < Dg := hlt₁₁ (Df, _) (.tail _ (.head _))
                  have hgK : gs.length = K := by rw [hgl]; simp only [List.size_toArray]; omega
                  replace N₁₁ : News s.heap L' h₁₁ _ := dropT2 N₁₁
                  clear CD hlt₁₁ hst hk₁₀ W4 F₁₀ N₁₀ hN₁₀ hL₁₀ hq₁₀ hI4 F N hsl hsn hsv hgl
                  refine wpC_norm (s := s) rfl fun tk => ?_
                  refine wpC_execs_cons (wpC_any ?_)
                  k_steps
                  unfold Halt
                  (rename Fr _ _ _ _ => F)
                  (rename News _ _ _ _ => N)
                  refine append_N (pre := [_, _, _]) F N ?_ ?_ ?_ ?_
                  · repeat' first | exact List.forall_mem_nil _ | refine List.forall_mem_cons.mpr ⟨?_, ?_⟩ | (show (_ : Nat) ≠ _; omega)
                  · refine List.forall_mem_cons.mpr ⟨(by show (l1 : Nat) ≠ l0; omega), List.forall_mem_cons.mpr ⟨(by show (l2 : Nat) ≠ l0; omega), List.forall_mem_cons.mpr ⟨(by show (wl : Nat) ≠ l0; omega), off_of (I := I) (Nat.le_of_lt q3) (by omega) (fun q => hlf _ (.head _) (List.mem_singleton.mpr q)) q1 q2 q6 hfar hof⟩⟩⟩
                  · have := hi0.vlen
                    simp only [List.size_toArray]
                    rw [sizeLine_eq]; omega
                  intro h₁₂ F₁₂ N₁₂
                  rw [List.push_toArray] at N₁₂
                  dsimp only [List.nil_append, List.cons_append] at N₁₂
                  clear F N
                  refine wpC_norm (s := s) rfl fun tk => ?_
                  refine wpC_execs_cons (wpC_any ?_)
                  k_steps
                  unfold Halt
                  (rename Fr _ _ _ _ => F)
                  (rename News _ _ _ _ => N)
                  refine append_N (pre := [_, _, _, _]) F N ?_ ?_ ?_ ?_
                  · repeat' first | exact List.forall_mem_nil _ | refine List.forall_mem_cons.mpr ⟨?_, ?_⟩ | (show (_ : Nat) ≠ _; omega)
                  · refine List.forall_mem_cons.mpr ⟨(by show (l2 : Nat) ≠ l1; omega), List.forall_mem_cons.mpr ⟨(by show (wl : Nat) ≠ l1; omega), off_of (I := I) (by omega) (by omega) (fun q => hlf _ (.tail _ (.head _)) (List.mem_singleton.mpr q)) q1 q2 q6 hfar hof⟩⟩
                  · have := hi1.vlen
                    simp only [List.size_toArray]
                    rw [sizeLine_eq]; omega
                  intro h₁₃ F₁₃ N₁₃
                  rw [List.push_toArray] at N₁₃
                  dsimp only [List.nil_append, List.cons_append] at N₁₃
                  clear F N
                  refine wpC_norm (s := s) rfl fun tk => ?_
                  refine wpC_execs_cons (wpC_Expr (wpC_append ?_))
                  k_steps
                  (rename Fr _ _ _ _ => F)
                  (rename News _ _ _ _ => N)
                  refine ⟨l2, rfl, ⟨_, (N (l2, _) (by k_mem)).1, rfl, rfl⟩, ?_⟩
                  refine' wpC_ListComp (cl := ?zzcl) ?hclos ?hkind ?hnames ?h
                  case hclos => rfl
                  case hkind => rfl
                  case hnames => decide
                  case h =>
                    k_steps
                    unfold Halt
                    refine zip_start2 F N ⟨_, (N (Df, _) (by k_mem)).1, rfl, _, rfl⟩ ⟨_, (N (Dg, _) (by k_mem)).1, rfl, _, rfl⟩ fun q h₁₄ Dz hst F₁₄ N₁₄ hlt₁₄ hN₁₄ hLq hL₁₄ hq₁₄ hk₁₄ => ?_
                    refine wpAny_pyIter_zip hst.1 ?_
                    have hfvl := hfs.length
                    have hgvl := hgs.length
                    have hmin : min fv.toArray.size gv.toArray.size = K := by simp only [List.size_toArray]; omega
                    have hw14 : ∀ b ∈ [q + 4, q + 3, q, q + 1], s.heap.get? b = none := fun b hb => hq₁₄ b (by
                      simp only [List.mem_cons, List.not_mem_nil, or_false] at hb ⊢
                      rcases hb with h | h | h | h <;> simp [h])
                    refine compZip_ints (RR := fun acc C => compEnd _ _ _ _ _ acc C) (fun j n => ∃ x y, fs[j]? = some x ∧ gs[j]? = some y ∧ n = (a * x + b * y).fmod 256) (by rfl) (WalksT.zip2 (by rfl) (q + 4) (q + 2) (q + 3) q (q + 1) Df Dg Dz fv.toArray gv.toArray) (P2 := fun i v0 v1 => fv.toArray[i]? = some v0 ∧ gv.toArray[i]? = some v1) ?h2 (by decide) (by rfl) (by rfl) (by rfl) hst (fun i h hst => zip_live i h hst) (by rw [hmin]; omega) ?zs8 ?zf8
                    case h2 => rintro i vals ⟨x, y, hx, hy, rfl⟩; exact ⟨x, y, rfl, hx, hy⟩
                    case zs8 =>
                      rintro D3 C j v' w' m' acc kk hh tkk hj ⟨hP, hP'⟩ CD
                      have Fc := CD.fr F₁₄ hw14 hL₁₄
                      have hnsC := CD.ns
                      have hc1 : hh.IsCell (L' + 1 + 1 + 1) (some (.int a t4)) := CD.cell N₁₄ (by k_mem) hN₁₄ d3
                      have hc2 : hh.IsCell (L' + 1 + 1 + 1 + 1) (some (.int b t5)) := CD.cell N₁₄ (by k_mem) hN₁₄ d2
                      obtain ⟨x, tx, rfl, hx⟩ := IntsAre.at hfs (by simpa using hP)
                      obtain ⟨y, ty', rfl, hy⟩ := IntsAre.at hgs (by simpa using hP')
                      k_steps
                      exact ⟨_, _, _, rfl, ⟨x, y, hx, hy, rfl⟩, rfl⟩
                    case zf8 =>
                      intro D3 C hh tkk m' nv kn ns CD hns hnl hno
                      have hnsM := mix_of hfK hgK (hnl.trans hmin) hno
                      refine CD.value F₁₄ N₁₄ hw14 hL₁₄ hN₁₄ fun h₁₅ F₁₅ N₁₅ hlt₁₅ => ?_
                      dsimp only [List.nil_append, List.cons_append] at N₁₅
                      have hd3 : (Dg : Nat) < D3 := hlt₁₅ (Dg, _) (by k_mem)
                      refine append_N (pre := [_, _, _, _, _, _]) F₁₅ N₁₅ ?_ ?_ ?_ ?_
                      · repeat' first | exact List.forall_mem_nil _ | refine List.forall_mem_cons.mpr ⟨?_, ?_⟩ | (show (_ : Nat) ≠ _; omega)
                      · refine List.forall_mem_cons.mpr ⟨(by show (wl : Nat) ≠ l2; omega), off_of (I := I) (by omega) (Nat.le_refl _) (fun q => hlf _ (.tail _ (.tail _ (.head _))) (List.mem_singleton.mpr q)) q1 q2 q6 hfar hof⟩
                      · have := hi2.vlen
                        rw [List.length_zipWith] at this
                        simp only [List.size_toArray]
                        rw [sizeLine_eq]; omega
                      intro h₁₆ F₁₆ N₁₆
                      rw [List.push_toArray] at N₁₆
                      dsimp only [List.nil_append, List.cons_append] at N₁₆
                      refine' wpC_execs_nil ⟨rfl, h₁₆, _, _, _, rfl, F₁₆, permJ (base := [_, _, _, _, _, _, _, _, _, _, _]) N₁₆, ?zzl, ?zzj⟩
                      case zzl =>
                        refine List.forall_mem_cons.mpr ⟨hlf (l0, PySem.W.listOf v0.toArray k0) (by k_mem), List.forall_mem_cons.mpr ⟨hlf (l1, PySem.W.listOf v1.toArray k1) (by k_mem), List.forall_mem_cons.mpr ⟨hlf (l2, PySem.W.listOf v2.toArray k2) (by k_mem), List.forall_mem_cons.mpr ⟨hlf (wl, PySem.W.listOf wv.toArray kw) (by k_mem), List.forall_mem_cons.mpr ⟨hlf (ll, _) (by k_mem), List.forall_mem_cons.mpr ⟨hlf (D, _) (by k_mem),
                          List.forall_mem_cons.mpr ⟨hlf (L' + 1 + 1 + 1 + 1 + 1, _) (by k_mem), List.forall_mem_cons.mpr ⟨hlf (L' + 1 + 1 + 1 + 1, _) (by k_mem), List.forall_mem_cons.mpr ⟨hlf (L' + 1 + 1 + 1, _) (by k_mem), List.forall_mem_cons.mpr ⟨hlf (L' + 1 + 1, _) (by k_mem), List.forall_mem_cons.mpr ⟨hlf (L' + 1, _) (by k_mem),
                          List.forall_mem_cons.mpr ⟨fun e => (show (D3 : Nat) ≠ I by omega) (List.mem_singleton.mp e), List.forall_mem_cons.mpr ⟨fun e => (show (Dg : Nat) ≠ I by omega) (List.mem_singleton.mp e), List.forall_mem_cons.mpr ⟨fun e => (show (Df : Nat) ≠ I by omega) (List.mem_singleton.mp e), fun p hp => hlf p (.tail _ (.tail _ (.tail _ (.tail _ (.tail _ (.tail _ (.tail _ (.tail _ (.tail _ (.tail _ (.tail _ hp)))))))))))⟩⟩⟩⟩⟩⟩⟩⟩⟩⟩⟩⟩⟩⟩
                      case zzj =>
                        refine' ⟨ws ++ [(ds.getD (Int.toNat 0) 0 + 1).fmod 3], r0 ++ [fs], r1 ++ [gs], wv ++ [.int ((ds.getD (Int.toNat 0) 0 + 1).fmod 3) tkw], v0 ++ [.ref Df], v1 ++ [.ref Dg], v2 ++ [.ref D3], k0 + 1, k1 + 1, k2 + 1, kw + 1, (D3, PySem.W.listOf nv.toArray kn) :: (Dg, PySem.W.listOf gv.toArray kg) :: (Df, PySem.W.listOf fv.toArray kf) :: rest, ?zzz⟩
                        case zzz =>
                            refine ⟨rfl, by with_unfolding_all rfl, ⟨an + ds.length, _, by with_unfolding_all rfl, by omega, by omega⟩, ⟨tw, by with_unfolding_all rfl⟩, hway', ?_, ?_, ?_, by rw [List.length_append, hnw]; rfl, by rw [List.length_append, hn0]; rfl, by rw [List.length_append, hn1]; rfl, ?_, ?_, ?_⟩
                            · exact RowsIn.snoc (vs := fv) (.tail _ (.tail _ (.head _))) rfl rfl hfs (hi0.mono fun p hp => .tail _ (.tail _ (.tail _ hp)))
                            · exact RowsIn.snoc (vs := gv) (.tail _ (.head _)) rfl rfl hgs (hi1.mono fun p hp => .tail _ (.tail _ (.tail _ hp)))
                            · rw [List.zipWith_append (by rw [hn0, hn1])]
                              exact RowsIn.snoc (vs := nv) (.head _) rfl rfl (hnsM ▸ hns) (hi2.mono fun p hp => .tail _ (.tail _ (.tail _ hp)))
                            · intro l hl
                              rcases List.mem_append.mp hl with hl | hl
                              · exact hok0 l hl
                              · rw [List.mem_singleton.mp hl]
                                exact ⟨hfK, fun x hx => by obtain ⟨j, hj⟩ := List.getElem?_of_mem hx; exact hfo j x hj⟩
                            · intro l hl
                              rcases List.mem_append.mp hl with hl | hl
                              · exact hok1 l hl
                              · rw [List.mem_singleton.mp hl]
                                exact ⟨hgK, fun x hx => by obtain ⟨j, hj⟩ := List.getElem?_of_mem hx; exact hgo j x hj⟩
                            · refine List.forall_mem_cons.mpr ⟨(by show (ll : Nat) < D3; omega), List.forall_mem_cons.mpr ⟨(by show (ll : Nat) < Dg; omega), List.forall_mem_cons.mpr ⟨(by show (ll : Nat) < Df; omega), hfar⟩⟩⟩
    case hR =>
      clear hst F₅ N₅ hN₅ hL₅ hq₅ hk₅ hr hI
      rintro h tk m₁ led F N ⟨ws, r0, r1, wv, v0, v1, v2, k0, k1, k2, kw, rest, J⟩
      obtain ⟨rfl, hlines, _, _, hway, hi0, hi1, hi2, hnw, hn0, hn1, hok0, hok1, hfar⟩ := J
      rw [bind_at hlines] at F
      clear hlines W5
      have hn : 1 ≤ (H - 0).toNat ∧ (H - 0).toNat ≤ 3 := by omega
      generalize (H - 0).toNat = n at hn hnw hn0 hn1
      refine' wpC_execs_cons (wpC_Assign_ListComp (cl := ?zzcn) ?hclos ?hkind ?hnames ?h ?hsw)
      case hclos => rfl
      case hkind => rfl
      case hnames => decide
      case hsw => rfl
      case h =>
        k_steps
        unfold Halt
        (rename Fr _ _ _ _ => F)
        (rename News _ _ _ _ => N)
        refine list_start (by rfl) F N ⟨_, (N (ll, _) (by k_mem)).1, rfl, _, rfl⟩ fun I4 h₁₀ hI4 W4 hst F₁₀ N₁₀ hN₁₀ hL₁₀ hq₁₀ hk₁₀ => ?_
        refine compW_core (RR := fun acc C => compEnd _ _ _ _ _ acc C) W4 (by intro _; rfl) (by decide) (by rfl) (by rfl) hst (fun i h hst => list_live hst)
          (fun i acc led => i ≤ 3 ∧ acc.size = i ∧ TabsIn led acc.toList ((List.take i [r0, r1, List.zipWith (Mix a b) r0 r1]).map (Told U K ws)) ∧ acc.toList.Pairwise (· ≠ ·)) ⟨by omega, rfl, .nil, .nil⟩ (fun i acc led h => by rw [sizeLine_eq]; omega) ?zs6 ?zf6
        case zs6 =>
          rintro Dt C j v' m' acc kk led hh tkk hj hP ⟨hj3, hacc, htab, hpw⟩ CD hlv
          have Fc := CD.fr F₁₀ hq₁₀ hL₁₀
          have hnsC := CD.ns
          have hc1 : hh.IsCell (L' + 1 + 1 + 1 + 1 + 1) (some (.ref wl)) := CD.cell N₁₀ (by k_mem) hN₁₀ d1
          have hc2 : hh.IsCell (L' + 1 + 1) (some (.int U t3)) := CD.cell N₁₀ (by k_mem) hN₁₀ d4
          have hwlst : hh.IsList wl wv.toArray := CD.list N₁₀ (by k_mem) hN₁₀
          have hrest : ∀ p ∈ rest, hh.get? p.1 = some p.2 := fun p hp => CD.old _ _ (hN₁₀ p (.tail _ (.tail _ (.tail _ (.tail _ (.tail _ (.tail _ (.tail _ (.tail _ (.tail _ (.tail _ (.tail _ hp)))))))))))) (N₁₀ p (.tail _ (.tail _ (.tail _ (.tail _ (.tail _ (.tail _ (.tail _ (.tail _ (.tail _ (.tail _ (.tail _ hp)))))))))))).1
          have key : ∃ (lj : Nat) (vj : List Value) (rj : List (List Int)), v' = .ref lj ∧ hh.IsList lj vj.toArray ∧ RowsAt hh vj rj ∧ RowsOk K rj ∧ rj.length = n ∧ [r0, r1, List.zipWith (Mix a b) r0 r1][j]? = some rj := by
            have hj' : j = 0 ∨ j = 1 ∨ j = 2 := by
              have : j < 3 := hj
              omega
            rcases hj' with rfl | rfl | rfl
            · exact ⟨l0, v0, r0, (Option.some.inj hP).symm, CD.list N₁₀ (by k_mem) hN₁₀, hi0.keep hrest, hok0, hn0, rfl⟩
            · exact ⟨l1, v1, r1, (Option.some.inj hP).symm, CD.list N₁₀ (by k_mem) hN₁₀, hi1.keep hrest, hok1, hn1, rfl⟩
            · exact ⟨l2, v2, List.zipWith (Mix a b) r0 r1, (Option.some.inj hP).symm, CD.list N₁₀ (by k_mem) hN₁₀, hi2.keep hrest, mix_ok hok0 hok1, by rw [List.length_zipWith, hn0, hn1, Nat.min_self], rfl⟩
          obtain ⟨lj, vj, rj, rfl, hlj, hrj, hokj, hnj, hgj⟩ := key
          refine wpC_Call_Name ?_
          k_steps
          refine wpC_callWith_fn rfl (wpC_args (wpC_spl (wpC_any ?_)))
          k_steps
          refine wpC_spl (wpC_any ?_)
          k_steps
          refine wpC_spl (wpC_any ?_)
          k_steps
          refine wpC_spl0 ?_
          refine ⟨⟨_, _, (X.keeps Fc.keep) _ _ (by k_is), rfl⟩, ?_⟩
          show wpC _ _ (call (.ref 35) [.ref wl, .int U t3, .ref lj]) _ _ _
          have hne : rj ≠ [] := fun e => by rw [e] at hnj; simp at hnj; omega
          refine undone_call (n := K) (h₀ := s.heap) (outer := []) (below_caller s.heap) Fc X T rfl (by decide) (by decide) hwlst hway hlj hrj hne (by omega) (fun l hl => (hokj l hl).2) (fun l hl => (hokj l hl).1) (by omega) (by omega) (by omega) (by omega) ?_
          intro h₁₁ tk₁₁ d vals' kd hk₁₁ hlim hd0 hd1 hrows hfresh
          replace hd0 : hh.get? d = none := hd0
          obtain ⟨rled, hrl, hrin⟩ := hrows.ledger (g := hh) hfresh
          have fresh2 : ∀ x, hh.get? x = none → h₁₀.get? x = none ∧ x ≠ Dt ∧ x ≠ C := by
            intro x hx
            refine ⟨?_, fun e => ?_, fun e => ?_⟩
            · cases e : h₁₀.get? x with
              | none => rfl
              | some o =>
                by_cases hm : x ∈ [I4]
                · exact absurd hx (hlv x hm)
                · have := CD.old x o hm e
                  rw [hx] at this; cases this
            · have := CD.lst
              rw [← e, hx] at this; cases this
            · obtain ⟨_, _, _, ho, _⟩ := CD.ns
              rw [← e, hx] at ho; cases ho
          refine ⟨h₁₁, tk₁₁, (d, { cls := .type "list", data := .seq vals'.toArray kd }) :: (rled ++ led), rfl, hk₁₁, ?_, hj, by rw [Array.size_push, hacc], ?_, ?_⟩
          · refine List.forall_mem_cons.mpr ⟨⟨hd1, fresh2 d hd0⟩, fun p hp => ?_⟩
            rcases List.mem_append.mp hp with hp | hp
            · exact ⟨(hrl p hp).1, fresh2 _ (hrl p hp).2⟩
            · exact ⟨hk₁₁ _ _ (CD.led p hp).1, (CD.led p hp).2⟩
          · rw [Array.toList_push, List.take_add_one, hgj, List.map_append]
            exact TabsIn.snoc (.head _) rfl rfl (hrin.mono fun p hp => .tail _ (List.mem_append_left _ hp)) (htab.mono fun p hp => .tail _ (List.mem_append_right _ hp))
          · rw [Array.toList_push]
            refine List.pairwise_append.mpr ⟨hpw, List.pairwise_singleton _ _, fun x hx y hy => ?_⟩
            rw [List.mem_singleton.mp hy]
            obtain ⟨e, o, rfl, hm⟩ := htab.mem x hx
            intro q
            cases q
            have := (CD.led _ hm).1
            rw [hd0] at this; cases this
        case zf6 =>
          intro Dt C hh tkk m' acc kk led CD hJ
          obtain ⟨_, hacc, htab, hpw⟩ := hJ
          have htab : TabsIn led acc.toList [Told U K ws r0, Told U K ws r1, Told U K ws (List.zipWith (Mix a b) r0 r1)] := htab
          obtain ⟨av, rfl⟩ : ∃ av, acc = List.toArray av := ⟨acc.toList, by rw [Array.toArray_toList]⟩
          have htab : TabsIn led av [Told U K ws r0, Told U K ws r1, Told U K ws (List.zipWith (Mix a b) r0 r1)] := htab
          have hpw : av.Pairwise (· ≠ ·) := hpw
          cases htab with | @cons e0 oe0 ve0 ke0 _ av _ m0 c0 g0 i0 htab =>
          cases htab with | @cons e1 oe1 ve1 ke1 _ av _ m1 c1 g1 i1 htab =>
          cases htab with | @cons e2 oe2 ve2 ke2 _ av _ m2 c2 g2 i2 htab =>
          cases htab
          have he20 : e0 ≠ e2 := fun q => by
            subst q
            exact (List.pairwise_cons.mp hpw).1 _ (.tail _ (.head _)) rfl
          have he21 : e1 ≠ e2 := fun q => by
            subst q
            exact (List.pairwise_cons.mp (List.pairwise_cons.mp hpw).2).1 _ (.head _) rfl
          have hoff : ∀ p ∈ led, p.1 ≠ Dt ∧ ∀ x o, h₁₀.get? x = some o → p.1 ≠ x := fun p hp => ⟨(CD.led p hp).2.2.1, fun x o e q => by
            have := (CD.led p hp).2.1
            rw [q] at this
            rw [show h₁₀.get? x = none from this] at e; cases e⟩
          refine CD.named (env := envOfC _ _ _ _ _) (by rfl) (by rfl) F₁₀ N₁₀ hq₁₀ hL₁₀ hN₁₀ fun h₁₁ tk₁₁ F₁₁ N₁₁ hlt₁₁ => ?_
          have N₁₂ : News s.heap L' h₁₁ ((Dt, PySem.W.listOf #[.ref e0, .ref e1, .ref e2] kk) :: (L' + 1 + 1 + 1 + 1, o2) :: (L' + 1 + 1 + 1, o3) :: led) :=
            List.forall_mem_cons.mpr ⟨N₁₁ _ (.head _), List.forall_mem_cons.mpr ⟨N₁₁ _ (.tail _ (List.mem_append_right _ (by k_mem))), List.forall_mem_cons.mpr ⟨N₁₁ _ (.tail _ (List.mem_append_right _ (by k_mem))), fun p hp => N₁₁ p (.tail _ (List.mem_append_left _ hp))⟩⟩⟩
          have hoc2 : ∀ p ∈ led, p.1 ≠ L' + 1 + 1 + 1 + 1 := fun p hp => (hoff p hp).2 _ _ (N₁₀ (L' + 1 + 1 + 1 + 1, o2) (by k_mem)).1
          have hoc3 : ∀ p ∈ led, p.1 ≠ L' + 1 + 1 + 1 := fun p hp => (hoff p hp).2 _ _ (N₁₀ (L' + 1 + 1 + 1, o3) (by k_mem)).1
          have hDt2 : (L' + 1 + 1 + 1 + 1 : Nat) < Dt := hlt₁₁ (L' + 1 + 1 + 1 + 1, o2) (by k_mem)
          replace hoff : ∀ p ∈ led, p.1 ≠ Dt := fun p hp => (hoff p hp).1
          clear CD hlt₁₁ N₁₁ hst hk₁₀ W4 F₁₀ N₁₀ hN₁₀ hL₁₀ hq₁₀ hI4 F N
          refine wpC_norm (s := s) rfl fun tk => ?_
          refine wpC_execs_cons (wpC_any ?_)
          k_steps
          refine wpC_norm (s := s) rfl fun tk => ?_
          (rename Fr _ _ _ _ => F)
          (rename News _ _ _ _ => N)
          rename _ ∧ _ => hdu
          refine wpC_execs_cons (wpC_For ?_)
          k_steps
          unfold Halt
          refine name_first N fun Du hDu => ?_
          subst hDu
          obtain ⟨hdu1, hdu2, hdu3, hdul⟩ := hdu
          replace hdul := AllLt.mem hdul
          obtain ⟨rl0, hrl0, j0⟩ := i0.sub
          obtain ⟨rl1, hrl1, j1⟩ := i1.sub
          obtain ⟨rl2, hrl2, j2⟩ := i2.sub
          have hT0 : Told U K ws r0 ≠ [] := fun q => by
            have := told_len U K ws r0
            rw [q, hn0] at this; simp at this; omega
          have hT1 : Told U K ws r1 ≠ [] := fun q => by
            have := told_len U K ws r1
            rw [q, hn1] at this; simp at this; omega
          have Nl : News s.heap L' _ led := fun p hp => N p (.tail _ (.tail _ (.tail _ (.tail _ hp))))
          have sub : ∀ p ∈ rl0 ++ rl1 ++ rl2, p ∈ led ∧ ∃ vs k row, p.2.data = .seq (List.toArray vs) k ∧ IntsAre vs row := fun p hp => by
            rcases List.mem_append.mp hp with hp | hp
            · rcases List.mem_append.mp hp with hp | hp
              · exact hrl0 p hp
              · exact hrl1 p hp
            · exact hrl2 p hp
          have far0 := rows_far Nl m0 g0 i0 hT0 sub
          have far1 := rows_far Nl m1 g1 i1 hT1 sub
          have N8 : News s.heap L' _ ((Du, PySem.W.listOf (List.toArray []) 0) :: (Dt, PySem.W.listOf #[.ref e0, .ref e1, .ref e2] kk) :: (L' + 1 + 1 + 1 + 1, o2) :: (L' + 1 + 1 + 1, o3) :: (e2, oe2) :: ((rl0 ++ rl1 ++ rl2) ++ [])) :=
            List.forall_mem_cons.mpr ⟨N _ (.head _), List.forall_mem_cons.mpr ⟨N _ (.tail _ (.head _)), List.forall_mem_cons.mpr ⟨N _ (.tail _ (.tail _ (.head _))), List.forall_mem_cons.mpr ⟨N _ (.tail _ (.tail _ (.tail _ (.head _)))), List.forall_mem_cons.mpr ⟨Nl _ m2, fun p hp => by
              rw [List.append_nil] at hp
              exact Nl p (sub p hp).1⟩⟩⟩⟩⟩
          have offE : ∀ (e : Nat) (oe : Obj), (e, oe) ∈ led → e ≠ e2 → (∀ p ∈ rl0 ++ rl1 ++ rl2, p.1 ≠ e) → ∀ p ∈ (Du, PySem.W.listOf (List.toArray []) 0) :: (Dt, PySem.W.listOf #[.ref e0, .ref e1, .ref e2] kk) :: (L' + 1 + 1 + 1 + 1, o2) :: (L' + 1 + 1 + 1, o3) :: (e2, oe2) :: ((rl0 ++ rl1 ++ rl2) ++ []), p.1 ≠ e :=
            fun e oe hm he hf => List.forall_mem_cons.mpr ⟨Nat.ne_of_gt (hdul _ hm), List.forall_mem_cons.mpr ⟨Ne.symm (hoff _ hm), List.forall_mem_cons.mpr ⟨Ne.symm (hoc2 _ hm), List.forall_mem_cons.mpr ⟨Ne.symm (hoc3 _ hm), List.forall_mem_cons.mpr ⟨Ne.symm he, fun p hp => hf p (by rw [List.append_nil] at hp; exact hp)⟩⟩⟩⟩⟩
          have off0 := offE e0 oe0 m0 he20 far0
          have off1 := offE e1 oe1 m1 he21 far1
          refine zip_start2 F N8 ⟨oe0, (Nl _ m0).1, c0, ke0, g0⟩ ⟨oe1, (Nl _ m1).1, c1, ke1, g1⟩ fun q h₁₄ Dz hst F₁₄ N₁₄ hlt₁₄ hN₁₄ hLq hL₁₄ hq₁₄ hk₁₄ => ?_
          refine wpAny_pyIter_zip hst.1 ?_
          have hw14 : ∀ b ∈ [q + 4, q + 3, q, q + 1], s.heap.get? b = none := fun b hb => hq₁₄ b (by
            simp only [List.mem_cons, List.not_mem_nil, or_false] at hb ⊢
            rcases hb with h | h | h | h <;> simp [h])
          have hfpn : ∀ b ∈ [q + 4, q + 2, q + 3, q, q + 1, e0, e1], s.heap.get? b = none := fun b hb => by
            by_cases h0 : b = e0
            · rw [h0]; exact (Nl _ m0).2.2
            by_cases h1 : b = e1
            · rw [h1]; exact (Nl _ m1).2.2
            refine hq₁₄ b ?_
            simp only [List.mem_cons, List.not_mem_nil, or_false] at hb ⊢
            rcases hb with h | h | h | h | h | h | h
            · exact .inl h
            · exact .inr (.inl h)
            · exact .inr (.inr (.inl h))
            · exact .inr (.inr (.inr (.inl h)))
            · exact .inr (.inr (.inr (.inr h)))
            · exact absurd h h0
            · exact absurd h h1
          refine codeC_forZip2 (s := s) (by rfl) (WalksT.zip2 (by rfl) (q + 4) (q + 2) (q + 3) q (q + 1) e0 e1 Dz ve0.toArray ve1.toArray) (P2 := fun i v0 v1 => ve0.toArray[i]? = some v0 ∧ ve1.toArray[i]? = some v1) ?h2 (by rfl) (by rfl) (by rfl) (fp7 hLq (Ne.symm (Nl _ m0).2.1) (Ne.symm (Nl _ m1).2.1)) hw14
            (DueJ a b (Told U K ws r0) (Told U K ws r1) Du Dt e0 e1 e2 L' kk o2 o3 oe2 (rl0 ++ rl1 ++ rl2)) ?step8 (fun i h hst => zip_live' i h hst) ?hR8 _ 0 h₁₄ _ _ _ rfl (Nat.zero_le _) hst F₁₄ N₁₄ (fun p hp => fp7 (hlt₁₄ p hp) (off0 p hp) (off1 p hp)) ?hJ8
          case h2 => rintro i vals ⟨x, y, hx, hy, rfl⟩; exact ⟨x, y, rfl, hx, hy⟩
          case hJ8 => exact ⟨[], 0, [], rfl, by with_unfolding_all rfl, by with_unfolding_all rfl, .nil, fun _ h => nomatch h⟩
          case step8 =>
            clear hst F₁₄ N₁₄ hlt₁₄ hN₁₄ hL₁₄ hq₁₄ hk₁₄ F N N8
            rintro i v0' v1' m₁ led₁ h tk own hi ⟨hP0, hP1⟩ ⟨dv, kd, restd, rfl, hmd, hmt, hrd, hfar⟩ hof hlf F N hown
            obtain ⟨x0, ox0, vx0, kx0, fs, rfl, hfi, mx0, cx0, dx0, hfs⟩ := j0.get (by simpa using hP0)
            obtain ⟨x1, ox1, vx1, kx1, gs, rfl, hgi, mx1, cx1, dx1, hgs⟩ := j1.get (by simpa using hP1)
            have hfo := told_ok (U := U) (ws := ws) hok0 fs (List.mem_of_getElem? hfi)
            have hgo := told_ok (U := U) (ws := ws) hok1 gs (List.mem_of_getElem? hgi)
            have hfvl := hfs.length
            have hgvl := hgs.length
            rw [bind_at3 hmd hmt hmt] at F
            clear hmd hmt
            refine wpC_execs_cons (wpC_Expr (wpC_append ?_))
            k_steps
            (rename Fr _ _ _ _ => F)
            (rename News _ _ _ _ => N)
            refine ⟨Du, rfl, ⟨_, (N (Du, _) (.head _)).1, rfl, rfl⟩, ?_⟩
            refine' wpC_ListComp (cl := ?zzcm) ?hclos ?hkind ?hnames ?h
            case hclos => rfl
            case hkind => rfl
            case hnames => decide
            case h =>
              k_steps
              unfold Halt
              (rename Fr _ _ _ _ => F)
              (rename News _ _ _ _ => N)
              refine zip_start2 F N ⟨ox0, (N (x0, ox0) (.tail _ (.tail _ (.tail _ (.tail _ (.tail _ (List.mem_append_left _ (List.mem_append_left _ (List.mem_append_left _ (List.mem_append_left _ mx0)))))))))).1, cx0, kx0, dx0⟩ ⟨ox1, (N (x1, ox1) (.tail _ (.tail _ (.tail _ (.tail _ (.tail _ (List.mem_append_left _ (List.mem_append_left _ (List.mem_append_left _ (List.mem_append_right _ mx1)))))))))).1, cx1, kx1, dx1⟩ fun q' h₁₄ Dz' hst F₁₄ N₁₄ hlt₁₄ hN₁₄ hLq' hL₁₄ hq₁₄ hk₁₄ => ?_
              refine wpAny_pyIter_zip hst.1 ?_
              have hfK := hfo.1
              have hgK := hgo.1
              have hmin : min vx0.toArray.size vx1.toArray.size = K := by simp only [List.size_toArray]; omega
              have hw15 : ∀ b ∈ [q' + 4, q' + 3, q', q' + 1], s.heap.get? b = none := fun b hb => hq₁₄ b (by
                simp only [List.mem_cons, List.not_mem_nil, or_false] at hb ⊢
                rcases hb with h | h | h | h <;> simp [h])
              refine compZip_ints (RR := fun acc C => compEnd _ _ _ _ _ acc C) (fun j n => ∃ x y, fs[j]? = some x ∧ gs[j]? = some y ∧ n = (a * x + b * y).fmod 256) (by rfl) (WalksT.zip2 (by rfl) (q' + 4) (q' + 2) (q' + 3) q' (q' + 1) x0 x1 Dz' vx0.toArray vx1.toArray) (P2 := fun i v0 v1 => vx0.toArray[i]? = some v0 ∧ vx1.toArray[i]? = some v1) ?h3 (by decide) (by rfl) (by rfl) (by rfl) hst (fun i h hst => zip_live i h hst) (by rw [hmin]; omega) ?zs9 ?zf9
              case h3 => rintro i vals ⟨x, y, hx, hy, rfl⟩; exact ⟨x, y, rfl, hx, hy⟩
              case zs9 =>
                rintro D3 C j v' w' m' acc kk' hh tkk hj ⟨hP, hP'⟩ CD
                have Fc := CD.fr F₁₄ hw15 hL₁₄
                have hnsC := CD.ns
                have hc1 : hh.IsCell (L' + 1 + 1 + 1) (some (.int a t4)) := CD.cell N₁₄ (by k_mem) hN₁₄ d3
                have hc2 : hh.IsCell (L' + 1 + 1 + 1 + 1) (some (.int b t5)) := CD.cell N₁₄ (by k_mem) hN₁₄ d2
                obtain ⟨x, tx, rfl, hx⟩ := IntsAre.at hfs (by simpa using hP)
                obtain ⟨y, ty', rfl, hy⟩ := IntsAre.at hgs (by simpa using hP')
                have hp1 := prod_oct hab (hfo.2 x (List.mem_of_getElem? hx))
                have hp2 := prod_oct hbb (hgo.2 y (List.mem_of_getElem? hy))
                have hxo := hfo.2 x (List.mem_of_getElem? hx)
                have hyo := hgo.2 y (List.mem_of_getElem? hy)
                k_steps
                exact ⟨_, _, _, rfl, ⟨x, y, hx, hy, rfl⟩, rfl⟩
              case zf9 =>
                intro D3 C hh tkk m' nv kn ns CD hns hnl hno
                have hnsM := mix_of hfK hgK (hnl.trans hmin) hno
                refine CD.value F₁₄ N₁₄ hw15 hL₁₄ hN₁₄ fun h₁₅ F₁₅ N₁₅ hlt₁₅ => ?_
                dsimp only [List.nil_append, List.cons_append] at N₁₅
                have hd3 : (Du : Nat) < D3 := hlt₁₅ (Du, _) (.head _)
                refine append_N (pre := [_]) F₁₅ N₁₅ ?_ ?_ ?_ ?_
                · exact List.forall_mem_singleton.mpr (Nat.ne_of_gt hd3)
                · refine List.forall_mem_cons.mpr ⟨Nat.ne_of_lt hdu1, List.forall_mem_cons.mpr ⟨Nat.ne_of_lt hdu2, List.forall_mem_cons.mpr ⟨Nat.ne_of_lt hdu3, List.forall_mem_cons.mpr ⟨Nat.ne_of_lt (hdul _ m2), fun p hp => ?_⟩⟩⟩⟩
                  rcases List.mem_append.mp hp with hp | hp
                  · rcases List.mem_append.mp hp with hp | hp
                    · exact Nat.ne_of_lt (hdul _ (sub p hp).1)
                    · exact Nat.ne_of_gt (hfar p hp)
                  · intro e
                    exact hlf _ (.head _) (e ▸ hof p hp)
                · have := hrd.vlen
                  rw [List.length_take, List.length_zipWith, told_len, told_len] at this
                  simp only [List.size_toArray]
                  rw [sizeLine_eq]; omega
                intro h₁₆ F₁₆ N₁₆
                rw [List.push_toArray] at N₁₆
                dsimp only [List.nil_append, List.cons_append] at N₁₆
                refine' wpC_execs_nil ⟨rfl, h₁₆, _, _, _, rfl, F₁₆, permD N₁₆, ?zzl, ?zzj⟩
                case zzl =>
                  have hd3f : D3 ∉ [q + 4, q + 2, q + 3, q, q + 1, e0, e1] := fun hm => by
                    obtain ⟨o, ho⟩ := hown D3 hm (hfpn D3 hm)
                    exact absurd (hlt₁₅ (D3, o) (.tail _ (.tail _ (.tail _ (.tail _ (.tail _ (List.mem_append_right _ ho))))))) (Nat.lt_irrefl _)
                  refine List.forall_mem_cons.mpr ⟨hlf (Du, PySem.W.listOf dv.toArray kd) (.head _), List.forall_mem_cons.mpr ⟨hlf (Dt, _) (.tail _ (.head _)), List.forall_mem_cons.mpr ⟨hlf (L' + 1 + 1 + 1 + 1, _) (.tail _ (.tail _ (.head _))), List.forall_mem_cons.mpr ⟨hlf (L' + 1 + 1 + 1, _) (.tail _ (.tail _ (.tail _ (.head _)))), List.forall_mem_cons.mpr ⟨hlf (e2, _) (.tail _ (.tail _ (.tail _ (.tail _ (.head _))))), fun p hp => ?_⟩⟩⟩⟩⟩
                  rcases List.mem_append.mp hp with hp | hp
                  · exact hlf p (.tail _ (.tail _ (.tail _ (.tail _ (.tail _ (List.mem_append_left _ hp))))))
                  · rcases List.mem_cons.mp hp with rfl | hp
                    · exact hd3f
                    · exact hlf p (.tail _ (.tail _ (.tail _ (.tail _ (.tail _ (List.mem_append_right _ hp))))))
                case zzj =>
                  refine ⟨dv ++ [.ref D3], kd + 1, (D3, PySem.W.listOf nv.toArray kn) :: restd, rfl, by with_unfolding_all rfl, by with_unfolding_all rfl, ?_, List.forall_mem_cons.mpr ⟨hd3, hfar⟩⟩
                  have hz : (List.zipWith (Mix a b) (Told U K ws r0) (Told U K ws r1))[i]? = some (Mix a b fs gs) := by
                    rw [List.getElem?_zipWith, hfi, hgi]
                  rw [List.take_add_one, hz]
                  exact RowsIn.snoc (vs := nv) (.head _) rfl rfl (hnsM ▸ hns) (hrd.mono fun p hp => .tail _ hp)
          case hR8 =>
            clear hst F₁₄ N₁₄ hlt₁₄ hN₁₄ hL₁₄ hq₁₄ hk₁₄ F N N8
            rintro h tk m₁ led' F N ⟨dv, kd, restd, rfl, hmd, hmt, hrd, hfar⟩
            rw [bind_at3 hmd hmt hmt] at F
            have hne0 := i0.vlen
            have hne1 := i1.vlen
            rw [told_len] at hne0 hne1
            have hmin : min ve0.toArray.size ve1.toArray.size = n := by simp only [List.size_toArray]; omega
            rw [hmin, List.take_of_length_le (by rw [List.length_zipWith, told_len, told_len]; omega)] at hrd
            refine wpC_any ?_
            k_steps
            unfold Halt
            (rename Fr _ _ _ _ => F)
            (rename News _ _ _ _ => N)
            refine eq_tables (va := ve2) (vb := dv) (rows := Told U K ws (List.zipWith (Mix a b) r0 r1)) ⟨oe2, (N (e2, oe2) (by k_mem)).1, c2, ke2, g2⟩ ?hr2 ⟨_, (N _ (.head _)).1, rfl, kd, rfl⟩ ?hrd (by ke_room) ?hq
            case hr2 => exact j2.keep fun p hp => (N p (.tail _ (.tail _ (.tail _ (.tail _ (.tail _ (List.mem_append_left _ (List.mem_append_right _ hp)))))))).1
            case hrd =>
              rw [told_mix hab hbb (hn0.trans hn1.symm) hok0 hok1]
              exact hrd.keep fun p hp => (N p (.tail _ (.tail _ (.tail _ (.tail _ (.tail _ (List.mem_append_right _ hp))))))).1
            case hq => exact ret _ _ fun b o e => F.keep b o e
  all_goals exact default
end Mine

set_option autoImplicit false
namespace Mine
open PySem PySem.W PyProof.Rows PySem.Calls PySem.Spec
set_option maxRecDepth 100000 in
set_option maxHeartbeats 8000000 in
theorem main : PySem.Challenge.rw_bf5020_01.Holds := Hz.hd (by
  k_fill
  intro w s₀ s₁ mg mb G Y a o pm cd doc dV kV ho hd hcd hD hmg hg args vals as hpre hlay hrd hwl hlo
  have KX := kIn_of Y
  refine Ground.open G ?_
  intro T B D TE TW
  have e40 := (mg_of KX T.g (by k_is) : mg (Str.ofString "law") = some (.ref 40))
  have ea : a = 40 := by
    have h := e40.symm.trans hmg
    exact (Value.ref.inj (Option.some.inj h)).symm
  subst ea
  clear hmg e40
  wrow_args hpre hlay hrd hwl hlo
  rename IntsAre _ _ => hI
  rename Heap.IsList _ _ _ => hL
  refine Hz.wp0_of (wpC_mono (law_call KX T hL hI (by omega) ?_) (fun _ _ h => h) fun _ _ h => h.elim)
  intro h' tk hk
  refine ⟨.inl ⟨_, .bool true, [], rfl, raisesW_false ?_, .bool _, ?_, fun _ => ⟨.nil, fun _ h => nomatch h⟩⟩, .of_keep hk, rfl, .of_eq hg⟩
  · wrow_none_raised
  · wrow_post)
end Mine

theorem PySem.Challenge.cw_bf5020_01_holds : PySem.Challenge.rw_bf5020_01.Holds := by
  exact Mine.main
