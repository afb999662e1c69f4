import PyProof.Rows.All
import Wide.All
import OpenK.AllK
import Wide.FinOn
import PySem.Challenge.RW_nb0242_01
set_option rowWalk.seconds 0
section
open PySem PySem.W PySem.Calls PyProof.Rows
set_option Elab.async false
set_option maxRecDepth 100000
namespace Mine
/-- codes that may hold a bytearray -/
noncomputable def badIds : List String := ["bytearray.__contains__", "bytearray.__mod__", "bytearray.__rmod__", "_struct.pack_into.held", "bytearray.find.held"] ++ Builtin.Bytes.decodersThatHold
noncomputable def bad : Code → Bool
  | .builtin id _ => badIds.contains id
  | _ => false
def CleanB (Γ : Ctx) : Prop := ∀ x ∈ Γ.below, bad x.1 = false
def Clean (Γ : Ctx) : Prop := bad Γ.code = false ∧ CleanB Γ
def wpC {α : Type} (M : Model) (A : Around) (t : Sem α) (Q : α → Shared → Prop) (E : Value → Shared → Prop) (s : Shared) : Prop :=
  ∀ Γ p, Γ.In A → Clean Γ → Sem.wp M Γ t (fun a _ s' => Q a s') (fun e _ s' => E e s') p s
def codeC (M : Model) (A : Around) (c : Code) (R : Result → Shared → Prop) (s : Shared) : Prop :=
  ∀ Γ p, Γ.code = c → Γ.Below A → CleanB Γ → wpCode M Γ R p s
section
variable {α β : Type} {M : Model} {A : Around} {E : Value → Shared → Prop} {s : Shared}
theorem wpC_of {t : Sem α} {Q : α → Shared → Prop} (h : wpAny M A t Q E s) : wpC M A t Q E s := fun Γ p hΓ _ => h Γ p hΓ
theorem codeC_of {c : Code} {R : Result → Shared → Prop} (h : codeAny M A c R s) : codeC M A c R s := fun Γ p hc hΓ _ => h Γ p hc hΓ
theorem wpC_mono {t : Sem α} {Q Q' : α → Shared → Prop} {E' : Value → Shared → Prop} (h : wpC M A t Q E s)
    (hQ : ∀ a s, Q a s → Q' a s) (hE : ∀ e s, E e s → E' e s) : wpC M A t Q' E' s :=
  fun Γ p hΓ hc => Sem.wp_mono M Γ t (fun a _ s => hQ a s) (fun e _ s => hE e s) p s (h Γ p hΓ hc)
theorem wpC_pure {a : α} {Q : α → Shared → Prop} (h : Q a s) : wpC M A (pure a) Q E s := fun _ _ _ _ => h
theorem wpC_bind {m : Sem α} {f : α → Sem β} {Q : β → Shared → Prop} (h : wpC M A m (fun a s' => wpC M A (f a) Q E s') E s) :
    wpC M A (m >>= f) Q E s := fun Γ p hΓ hc => by
  rw [Sem.wp_bind']
  exact Sem.wp_mono M Γ m (fun a p' s' h' => h' Γ p' hΓ hc) (fun _ _ _ h' => h') p s (h Γ p hΓ hc)
/-- the first step by the plain rules -/
theorem wpC_bindA {m : Sem α} {f : α → Sem β} {Q : β → Shared → Prop} (h : wpAny M A m (fun a s' => wpC M A (f a) Q E s') E s) :
    wpC M A (m >>= f) Q E s := wpC_bind (wpC_of h)
/-- the rest by the plain rules -/
theorem wpC_bindB {m : Sem α} {f : α → Sem β} {Q : β → Shared → Prop} (h : wpC M A m (fun a s' => wpAny M A (f a) Q E s') E s) :
    wpC M A (m >>= f) Q E s := wpC_bind (wpC_mono h (fun _ _ x => wpC_of x) fun _ _ x => x)
theorem wpC_holding {vs : List Value} {m : Sem α} {Q : α → Shared → Prop} (h : wpC M A m Q E s) : wpC M A (holding vs m) Q E s :=
  fun Γ p hΓ hc => by rw [Sem.wp_holding]; exact h Γ p hΓ hc
theorem wpC_onRaise {m : Sem α} {k : Value → Sem Unit} {Q : α → Shared → Prop}
    (h : wpC M A m Q (fun e s' => wpC M A (k e) (fun _ s'' => E e s'') E s') s) : wpC M A (m.onRaise k) Q E s := fun Γ p hΓ hc => by
  rw [Sem.wp_onRaise]
  exact Sem.wp_mono M Γ m (fun _ _ _ h' => h') (fun e p' s' h' => h' Γ p' hΓ hc) p s (h Γ p hΓ hc)
theorem wpC_standAt {pos : Pos} {Q : Unit → Shared → Prop} (h : Q () s) : wpC M A (standAt pos) Q E s := wpC_of (wpAny_standAt h)
theorem clean_enter {Γ : Ctx} (h : Clean Γ) (c : Code) (hd : Option Value) (p : Pos) : CleanB (Γ.enter c hd p) := by
  intro x hx
  rcases List.mem_cons.mp hx with rfl | hx
  · exact h.1
  · exact h.2 x hx
theorem wpC_run {c : Code} {h : Option Value} {Q : Flow → Shared → Prop}
    (hc : codeC M (A.mark h) c (fun r s' => match r with | .ok f => Q f s' | .error e => E e s') s) (hnb : h ≠ some byPass := by intro x; cases x) :
    wpC M A (run c h) Q E s :=
  fun Γ p hΓ hcl => by rw [Sem.wp_run]; exact hc _ p rfl (hΓ.enter c h p hnb) (clean_enter hcl c h p)
theorem wpC_runValue {c : Code} {Q : Value → Shared → Prop}
    (hc : codeC M A c (fun r s' => match r with | .ok (.ret v) => Q v s' | .ok _ => False | .error e => E e s') s) :
    wpC M A (runValue c) Q E s := fun Γ p hΓ hcl => by rw [Sem.wp_runValue]; exact hc _ p rfl (hΓ.enter c none p (by intro x; cases x)) (clean_enter hcl c none p)
theorem wpC_call {f : Value} {pos : List Value} {kw : List (Str × Value)} {Q : Value → Shared → Prop}
    (hc : codeC M A (.call f ⟨pos, kw⟩) (fun r s' => match r with | .ok (.ret v) => Q v s' | .ok _ => False | .error e => E e s') s) :
    wpC M A (call f pos kw) Q E s := wpC_runValue hc
theorem codeC_mono {c : Code} {R R' : Result → Shared → Prop} (h : codeC M A c R s) (hR : ∀ r s, R r s → R' r s) : codeC M A c R' s :=
  fun Γ p hc hΓ hcl => wpCode_mono hR (h Γ p hc hΓ hcl)
theorem codeC_of_tree {c : Code} {R : Result → Shared → Prop} (hb : bad c = false)
    (h : wpC M (A.under c) (M.den c) (fun fin s' => match fin with | .done f => R (.ok f) s' | .again c' => c'.quiet = true ∧ codeC M A c' R s')
      (fun e s' => R (.error e) s') s) : codeC M A c R s := fun Γ p hc hΓ hcl => by
  rw [wpCode_iff_wp, hc]
  refine Sem.wp_mono M Γ _ (fun fin p' s' h' => ?_) (fun _ _ _ h' => h') p s (h Γ p (hc ▸ hΓ.in) ⟨hc ▸ hb, hcl⟩)
  cases fin with
  | done f => exact h'
  | again c' => exact ⟨h'.1, h'.2 (Γ.goto c') p' rfl (hΓ.goto c') hcl⟩
theorem codeC_loop' {c : Code} {R : Result → Shared → Prop} (hb : bad c = false) (hq : c.quiet = true) (I : Nat → Shared → Prop)
    (turn : ∀ n s, I n s → wpC M (A.under c) (M.den c)
      (fun fin s' => match fin with | .done f => R (.ok f) s' | .again c' => (c' = c ∧ ∃ m, m < n ∧ I m s') ∨ (c'.quiet = true ∧ codeC M A c' R s')) (fun e s' => R (.error e) s') s)
    (n : Nat) (h : I n s) : codeC M A c R s := by
  induction n using Nat.strongRecOn generalizing s with
  | ind n ih =>
    refine codeC_of_tree hb (wpC_mono (turn n s h) (fun fin s' hf => ?_) fun _ _ h' => h')
    cases fin with
    | done f => exact hf
    | again c' =>
      rcases hf with ⟨rfl, m, hm, hI⟩ | hf
      · exact ⟨hq, ih m hm hI⟩
      · exact hf
end
theorem bad_exported (self : Value) {c : Code} (p : Pos) (h : bad c = false) : (match (c, p) with
    | (.builtin "bytearray.__contains__" ⟨v :: _, _⟩, _) | (.builtin "bytearray.__mod__" ⟨v :: _, _⟩, _)
    | (.builtin "bytearray.__rmod__" ⟨_ :: v :: _, _⟩, _) | (.builtin "_struct.pack_into.held" ⟨v :: _, _⟩, _) => Builtin.Bytes.sameRef v self
    | (.builtin "bytearray.find.held" ⟨_ :: _ :: held, _⟩, _) => held.any (Builtin.Bytes.sameRef self)
    | (.builtin id ⟨v :: _, _⟩, _) => Builtin.Bytes.sameRef v self && Builtin.Bytes.decodersThatHold.contains id
    | _ => false) = false := by
  cases c with
  | builtin id args =>
    have h' : badIds.contains id = false := h
    split <;> simp_all [badIds]
  | _ => rfl
theorem wpC_exported {M : Model} {A : Around} {E : Value → Shared → Prop} {s : Shared} {self : Value} {Q : Bool → Shared → Prop} (h : Q false s) : wpC M A (Builtin.Bytes.exported self) Q E s := fun Γ p _ hc => by
  show Q (((Γ.code, p) :: Γ.below).any _) s
  have : ∀ x ∈ ((Γ.code, p) :: Γ.below), bad x.1 = false := by
    intro x hx
    rcases List.mem_cons.mp hx with rfl | hx
    · exact hc.1
    · exact hc.2 x hx
  rw [List.any_eq_false.mpr ?_]
  · exact h
  · intro x hx
    have := bad_exported self x.2 (this x hx)
    rw [Bool.not_eq_true]
    exact this
end Mine
end
section
open PySem PySem.W PySem.Calls PyProof.Rows
namespace Mine
/-- the goal as a variable, while facts are taken apart -/
theorem hide {p : Prop} (h : ∀ G : Prop, (p → G) → G) : p := h p id
section
variable {M : Model} {A : Around} {s : Shared} {α : Type} {t : Sem α}
/-- what is to come as a variable -/
theorem hideQ {Q : α → Shared → Prop} {E : Value → Shared → Prop} (h : ∀ Q' : α → Shared → Prop, (∀ f s, Q f s → Q' f s) → wpAny M A t Q' E s) : wpAny M A t Q E s := h Q fun _ _ x => x
theorem hideC {Q : α → Shared → Prop} {E : Value → Shared → Prop} (h : ∀ Q' : α → Shared → Prop, (∀ f s, Q f s → Q' f s) → wpC M A t Q' E s) : wpC M A t Q E s := h Q fun _ _ x => x
end
end Mine
end
section
open PySem PySem.W PySem.W.X PySem.Calls PyProof.Rows
set_option Elab.async false
set_option maxRecDepth 100000
set_option maxHeartbeats 8000000
namespace Mine
theorem clean_caller : Clean (⟨.builtin "claim.caller" {}, none, none, [], none⟩ : Ctx) := ⟨by decide +kernel, fun _ h => nomatch h⟩
theorem endsC {prog : Program} {w : World} {t : Sem Fin} {s : Shared} {R : Result → Shared → Prop} (hreg : s.asleep)
    (h : wpC (model prog w) callerA t (fun fin s' => ∃ f, fin = .done f ∧ (R (.ok f) s' ∧ leftWithCleanup s'.gens = false)) (fun e s' => R (.error e) s' ∧ leftWithCleanup s'.gens = false) s) :
    ∃ n r s' s'', runN (denote table) prog w n s ⟨t, .builtin "claim.caller" {}, default, []⟩ = .halted (outcomeOf r) s' ∧
      schedN (denote table) prog w n (.single s ⟨t, .builtin "claim.caller" {}, default, []⟩) = .halted (outcomeOf r) s' ∧ s'.forget = s''.forget ∧ R r s'' := by
  have hw := h _ default caller_in clean_caller
  obtain ⟨n, r, s₁, s₂, hs, hn, hfo, hR⟩ := wp_halts_full (M := model prog w) (R := R) hreg (Sem.wp_mono _ _ _ (fun fin p' s' h' => by
    obtain ⟨f, rfl, hf⟩ := h'
    exact hf) (fun _ _ _ h' => h') _ _ hw)
  exact ⟨n, r, s₂, s₁, hn, hs, hfo, hR⟩
theorem callFromC {c : ClaimW} {tree : List Value → Sem Fin} {w : World} {s : Shared} {free : Addr → Prop} {gens : Prop} {kept : Heap → Prop} (hz : s.asleep) (hgens : s.gens = #[])
    (hspec : ∀ args, c.pre args = true → WData.layableAll args = true →
      ∀ ord : List DictEntry → List DictEntry, (∀ l, (ord l).Perm l) →
      ∃ vs s₁, layAllW c.records (classAt s.heap) w.params ord args s = some (vs, s₁) ∧
        wpC (model c.prog w) callerA (tree vs) (fun fin s' => ∃ f, fin = .done f ∧ (c.Ends s args vs s₁ (.ok f) s' ∧ s'.os = s.os ∧ AllBare s'.gens ∧ kept s'.heap))
          (fun e s' => c.Ends s args vs s₁ (.error e) s' ∧ s'.os = s.os ∧ AllBare s'.gens ∧ kept s'.heap) s₁) :
    c.CallFrom (fun vs => ⟨tree vs, .builtin "claim.caller" {}, default, []⟩) w free gens kept s := by
  intro args hpre hlay ord hord
  obtain ⟨vs, s₁, hlaid, hcode⟩ := hspec args hpre hlay ord hord
  have hal := layAllW_rest _ _ _ hlaid
  obtain ⟨k, r, s', s'', hrun, hsched, hfo, hcase, hos, hkp⟩ := endsC (prog := c.prog) (w := w) (t := tree vs) (s := s₁)
    (R := fun r s' => c.Ends s args vs s₁ r s' ∧ s'.os = s.os ∧ kept s'.heap)
    (Shared.asleep_of_life hal.2.2.2 hz)
    (wpC_mono hcode (by
      rintro fin s' ⟨f, e, h1, h2, h3, h4⟩
      exact ⟨f, e, ⟨h1, h2, h4⟩, leftWithCleanup_false_of_bare h3⟩) (by
      rintro e s' ⟨h1, h2, h3, h4⟩
      exact ⟨⟨h1, h2, h4⟩, leftWithCleanup_false_of_bare h3⟩))
  obtain ⟨eh, _, _, eo, _⟩ := Shared.forget_eq hfo
  have hcase := hcase.congr eh
  have hkp : kept s'.heap := by rw [eh]; exact hkp
  rw [← eo] at hos
  have hlife : s'.heap.life = s.heap.life := (runN_life _ _ _ hrun).trans hal.2.2.2
  refine ⟨vs, s₁, hlaid, k, _, s', hsched, ?_, (fun _ i x hx => by rw [hgens] at hx; simp at hx), hkp, by rw [hlife], Shared.rest_eq hos⟩
  rcases hcase with ⟨v, rfl, d1, d2, d3, d4, d5⟩ | ⟨e, ob, cls, rfl, d1, d2, d3, d4, d5⟩
  · exact .inl ⟨v, rfl, d1, d2, d3, fun b o y _ => d4 b o y, d5⟩
  · exact .inr ⟨e, ob, cls, rfl, d1, d2, d3, d4, fun b o y _ => d5 b o y⟩
abbrev WalkC (q : Program) (loose : List Str) (XP : (Str → Option Value) → Heap → Prop) (YP : World → Heap → Prop) (r : RowW) (d : DefRec) (kwd : List (Str × PySem.Expr)) : Prop :=
  ∀ (w : World) (s₀ s₁ : Shared) (mg mb : Str → Option Value), Ground q loose r.records XP w s₀ mg mb s₁.heap → YP w s₁.heap → ∀ (a : Addr) (o : Obj) (pm cd doc dV kV : Value), s₁.heap.get? a = some o →
    o.data = .func { docDef d.name d.params d.body d.scope pm cd doc with defaults := dV, kwdefaults := kV } → s₁.heap.CodeRec cd d.name → Dflts mg s₁.heap d.params kwd dV kV → mg d.name = some (.ref a) → s₁.gens = #[] →
    ∀ (args : List WData) (vals : List Value) (as : List Addr), r.claim.pre args = true → WData.layableAll args = true → ReadsAllW r.records (classAt s₀.heap) s₁.heap vals args as → WellAll w.params s₁.heap vals args → (∀ a ∈ as, (a == sysModules) = false) →
      wpC (model r.prog w) callerA (PySem.call (.ref a) vals) (fun v s' => GoodWG r.claim (classAt s₀.heap) (ExcName.means s₀.heap) args s₁ (.ok (.ret v)) s')
        (fun e s' => GoodWG r.claim (classAt s₀.heap) (ExcName.means s₀.heap) args s₁ (.error e) s') s₁
theorem PySem.W.holds_open {r : OpenRow} {q : Program} {loose : List Str} {Xt : Shared → Bool} {XP : (Str → Option Value) → Heap → Prop} {α : Type} {Yf : Shared → α} {Ya : World → α} {YP : World → Heap → Prop} {d : DefRec} {kwd : List (Str × PySem.Expr)} {N : Nat}
    (left : ∀ w : World, (openEnds treeTable r.prog w N).map (fun s => (openSeen q loose (importedModules r.prog.main.body) Xt true s, Yf s)) = some (openGood q loose, Ya w)) (hY : ∀ w s, Yf s = Ya w → YP w s.heap) (hYk : ∀ w h h', YP w h → (∀ b o, h.get? b = some o → h'.get? b = some o) → YP w h')
    (hX : ∀ s, Xt s = true → XP (s.heap.nsMap mainGlobals) s.heap) (hXk : ∀ mg h h', XP mg h → (∀ b o, h.get? b = some o → h'.get? b = some o) → XP mg h')
    (hdef : defOf q r.name = some (d, kwd)) (hp : r.prog.theDef r.name = some (d.params, d.body, d.scope)) (hk : kwWritten? d.params.kwonlyargs d.params.kw_defaults = some kwd) (hRf : ∀ s, Xt s = true → RecFacts r.records s.heap) (hwr : (!r.writes || r.records.isEmpty) = true)
    (k1 : r.wellSaid = true) (ok : (chainsOk q && opensWell r.prog && (frees r.toRowW && r.within.isEmpty)) = true) (hb : r.prog.bare) (hw : r.toRowW.promised)
    (call : WalkC q loose XP YP r.toRowW d kwd) : r.Holds := by
  refine ⟨k1, hw, ?_⟩
  obtain ⟨ok, k5⟩ := Bool.and_eq_true_iff.mp ok
  obtain ⟨hch, o1⟩ := Bool.and_eq_true_iff.mp ok
  have left : LeftO r.prog q loose Xt Yf Ya N := left
  obtain ⟨k5, k6⟩ := Bool.and_eq_true_iff.mp k5
  obtain ⟨hsame, hu, ha, hap, hm⟩ := frees_parts k5
  refine ⟨⟨hb, o1, by show r.makers.map _ = []; rw [hm]; rfl⟩, hw.witness, fun w => ⟨(left.behind hX hch w).1, fun s' hs' => ?_⟩⟩
  obtain ⟨s₀, hf, hg0, s, hT, hz, hgens, hg, G00, y⟩ := (left.behind (XP := fun mg h => XP mg h ∧ RecFacts r.records h) (fun s hs => ⟨hX s hs, hRf s hs⟩) hch w).2 s' hs'
  have G0 : Ground q loose [] XP w s (s.heap.nsMap mainGlobals) (s.heap.nsMap builtinsNs) s.heap := ⟨G00.T, G00.B, G00.D, G00.TE, G00.TD, G00.W, G00.X.1, G00.cls, G00.has, G00.apart, G00.once, G00.K⟩
  have RF := G00.X.2
  have hT' := hT
  refine ⟨s₀, hf, hg0, s, hT, ?_, RF.1, RF.2.1, ?_⟩
  · intro n hn
    obtain rfl : n = r.name := by split at hn <;> simp_all
    exact pinned_of_view hg G0 hdef hp hk
  have hgens : s.gens = #[] := Array.eq_empty_of_size_eq_zero (beq_iff_eq.mp hgens)
  have G : Ground q loose r.records XP w s _ _ s.heap := RF.ground G0
  refine callFromC (c := r.claim) hz hgens fun args hpre hlay ord hord => ?_
  obtain ⟨⟨vs, s₁⟩, hlaid⟩ := Option.isSome_iff_exists.mp (layAllW_isSome (P := w.params) (ord := ord) G.has args r.args s (pre_splitW hpre).1)
  have keeps := layAllW_keeps _ _ _ hlaid
  have hal := layAllW_rest _ _ _ hlaid
  obtain ⟨as, hrd, hin, hold⟩ := reads_layAllW hord _ _ _ hlaid hlay s₁.heap (fun _ _ e => e)
  have L : Laid r.records w s s₁ args vs as := ⟨⟨ord, hord, hlaid⟩, hrd, hin, hold, keeps, hal.1.trans hgens, hal.2.2.1⟩
  have G₁ := G.keeps hXk keeps
  obtain ⟨a, o, pm, cd, doc, dV, kV, h1, h2, h3, h4, h5⟩ := G₁.fn hdef
  have h := call w s s₁ _ _ G₁ (hYk _ _ _ (hY w s y) keeps) a o pm cd doc dV kV h2 h3 h4 h5 (defOf_name hdef ▸ h1) L.gens args vs as hpre hlay L.reads L.well (L.low G.low)
  have hi := ident_freeW hu ha hap
  have hwi : r.claim.within = [] := List.isEmpty_iff.mp k6
  refine ⟨vs, s₁, hlaid, ?_⟩
  refine wpC_bindA (wpAny_nsGet G₁.T.g ?_)
  rw [h1]
  refine wpC_bind (wpC_mono h (fun v s' g => wpC_pure ⟨_, rfl, have z := g.laid (c := r.claim) hsame hwi hi L; ⟨z.1, z.2.1, z.2.2, fun q => ⟨namesKept_of hT' hg _ keeps g.2.1.old, noTable hwr q⟩⟩⟩) fun e s' g => have z := g.laid (c := r.claim) hsame hwi hi L; ⟨z.1, z.2.1, z.2.2, fun q => ⟨namesKept_of hT' hg _ keeps g.2.1.old, noTable hwr q⟩⟩)
open_top hd for PySem.Challenge.rw_nb0242_01
end Mine
end
section
open PySem PySem.W PySem.Calls PyProof.Rows
set_option Elab.async false
set_option maxRecDepth 100000
namespace Mine
section
variable {M : Model} {A : Around} {E : Value → Shared → Prop} {s : Shared} {env : Env}
theorem wpC_eq {α : Type} {t t' : Sem α} {Q : α → Shared → Prop} (e : t = t') (h : wpC M A t' Q E s) : wpC M A t Q E s := e ▸ h
theorem wpC_execs_cons {st : Stmt} {rest : List Stmt} {Q : Flow → Shared → Prop}
    (h : wpC M A (exec st env) (fun f s' => match f with | .next => wpC M A (execs rest env) Q E s' | f => Q f s') E s) :
    wpC M A (execs (st :: rest) env) Q E s := by
  rw [execs_cons]
  refine wpC_bind (wpC_mono h (fun f s' h' => ?_) fun _ _ x => x)
  cases f <;> first | exact h' | exact wpC_pure h'
theorem wpC_Assign_Name {x : Str} {pos' pos : Pos} {value : PySem.Expr} {Q : Flow → Shared → Prop} (hs : swapsWith value (some (.Name x pos')) pos.line env = pure false)
    (h : wpC M A (eval value env) (fun v s' => wpAny M A (storeName env x v) (fun _ s'' => Q .next s'') E s') E s) : wpC M A (exec (.Assign [.Name x pos'] value pos) env) Q E s := by
  rw [exec_Assign_Name (hs := hs)]
  refine wpC_bindA (wpAny_standAt (wpC_bind (wpC_mono h (fun v s' h' => wpC_of ?_) fun _ _ x => x)))
  exact wpAny_bind (wpAny_standAt (wpAny_bind (wpAny_bindName (wpAny_mono h' (fun _ _ x => wpAny_pure x) fun _ _ x => x))))
theorem wpC_Call {func : PySem.Expr} {args : List PySem.Expr} {pos : Pos} {Q : Value → Shared → Prop}
    (h : wpAny M A (eval func env) (fun f s₁ => wpC M A (callWith pos f [] (backTo pos (starEach args env)) []) Q E s₁) E s)
    (he : eval (.Call func args [] pos) env = (do callWith pos (← eval func env) [] (backTo pos (starEach args env)) (backToKw pos (keywordEach [] env))) := by rfl) :
    wpC M A (eval (.Call func args [] pos) env) Q E s := by
  rw [he]; exact wpC_bindA h
theorem wpC_spliced_nil {Q : List Value → Shared → Prop} (h : Q [] s) : wpC M A (spliced []) Q E s := wpC_pure h
theorem wpC_spliced_cons {x : Sem Value} {rest : List (Bool × Sem Value)} {Q : List Value → Shared → Prop}
    (h : wpC M A x (fun v s₁ => wpC M A (spliced rest) (fun vs s₂ => Q (v :: vs) s₂) E s₁) E s) : wpC M A (spliced ((false, x) :: rest)) Q E s := by
  rw [spliced]
  refine wpC_bind (wpC_mono h (fun v s₁ h₁ => ?_) fun _ _ x => x)
  simp only [Bool.false_eq_true, if_false]
  exact wpC_bind (wpC_pure (wpC_bind (wpC_holding (wpC_mono h₁ (fun vs s₂ h₂ => wpC_pure h₂) fun _ _ x => x))))
theorem wpC_evalArgs {f : Value} {x : Sem Value} {rest : List (Bool × Sem Value)} {Q : Args → Shared → Prop}
    (h : wpC M A (spliced ((false, x) :: rest)) (fun vs s' => Q ⟨vs, []⟩ s') E s) : wpC M A (evalArgs f true ((false, x) :: rest) []) Q E s := by
  unfold evalArgs
  show wpC M A (spliced ((false, x) :: rest) >>= _) Q E s
  refine wpC_bind (wpC_mono h (fun vs s' h' => ?_) fun _ _ x => x)
  refine wpC_of (wpAny_holding ?_)
  exact wpAny_bind (wpAny_pure (wpAny_bind (wpAny_pure (wpAny_pure h'))))
theorem wpC_callWith_type {pos : Pos} {T : String} {x : Sem Value} {rest : List (Bool × Sem Value)} {Q : Value → Shared → Prop}
    (hplain : ((false, x) :: rest).any (·.1) = false)
    (h : wpC M A (spliced ((false, x) :: rest)) (fun vs s₁ => wpC M A (call (.type T) vs) Q E s₁) E s) :
    wpC M A (callWith pos (.type T) [] ((false, x) :: rest) []) Q E s := by
  unfold callWith
  refine wpC_bind (wpC_holding ?_)
  refine wpC_mono (wpC_evalArgs (Q := fun a s₁ => wpC M A (call (.type T) a.pos a.kw) Q E s₁) h) (fun a s₁ h₁ => wpC_bindA (wpAny_standAt ?_)) fun _ _ x => x
  simp only [hplain, List.any_nil, Bool.or_false]
  refine wpC_bindA (wpAny_pure ?_)
  exact wpC_bind (wpC_mono h₁ (fun r s₂ hr => wpC_of (wpAny_bind (wpAny_holding (wpAny_point (wpAny_pure hr))))) fun _ _ x => x)
theorem wpC_keep {α : Type} {vs : List Value} {m : Sem α} {Q : α → Shared → Prop} (h : wpC M A m Q E s) : wpC M A (m.keep vs) Q E s :=
  fun Γ p hΓ hc => by rw [Sem.wp_keep]; exact h Γ p hΓ hc
theorem wpC_callWith_function {pos : Pos} {a : Addr} {o : Obj} {fd : FuncData} {x : Sem Value} {rest : List (Bool × Sem Value)} {Q : Value → Shared → Prop}
    (hplain : ((false, x) :: rest).any (·.1) = false)
    (h : wpC M A (spliced ((false, x) :: rest)) (fun vs s₁ => (s₁.heap.get? a = some o ∧ o.data = .func fd) ∧ wpC M A (call (.ref a) vs) Q E s₁) E s) :
    wpC M A (callWith pos (.ref a) [] ((false, x) :: rest) []) Q E s := by
  unfold callWith
  refine wpC_bind (wpC_holding ?_)
  refine wpC_mono (wpC_evalArgs (Q := fun x s₁ => (s₁.heap.get? a = some o ∧ o.data = .func fd) ∧ wpC M A (call (.ref a) x.pos x.kw) Q E s₁) h) (fun x s₁ h₁ => wpC_bindA (wpAny_standAt ?_)) fun _ _ x => x
  have tail : ∀ {t : Sem Value}, wpC M A t Q E s₁ → wpC M A (t >>= fun r => holding [r] point >>= fun _ => pure r) Q E s₁ :=
    fun ht => wpC_bind (wpC_mono ht (fun r s₂ hr => wpC_of (wpAny_bind (wpAny_holding (wpAny_point (wpAny_pure hr))))) fun _ _ x => x)
  simp only [hplain, List.any_nil, Bool.or_false]
  refine wpC_bindA (m := keeperOf (.ref a)) ?_
  unfold keeperOf
  refine wpAny_bind (wpAny_load h₁.1.1 ?_)
  rw [h₁.1.2]
  refine wpAny_pure ?_
  dsimp only
  split
  · exact tail h₁.2
  · exact tail (by unfold callMarked; exact wpC_keep h₁.2)
end
section
variable {prog : Program} {w : World} {A : Around} {E : Value → Shared → Prop} {s : Shared} {R : Result → Shared → Prop}
theorem codeC_func {body : List Stmt} {env : Env}
    (h : wpC (model prog w) (A.deeper env) (execs body env) (fun f s' => R (.ok (.ret (match f with | .ret v => v | _ => .none))) s')
      (fun e s' => wpAny (model prog w) (A.deeper env) (leaving env e) (fun _ s'' => R (.error e) s'') (fun e' s'' => R (.error e') s'') s') s) :
    codeC (model prog w) A (.func body env) R s := by
  refine codeC_of_tree rfl ?_
  show wpC _ (A.deeper env) (do point; match ← (execs body env).onRaise (leaving env) with | .ret v => ret v | _ => ret .none) _ _ s
  refine wpC_bindA (wpAny_point (wpC_bind (wpC_onRaise (wpC_mono h (fun f s' h' => ?_) fun _ _ h' => wpC_of h'))))
  cases f <;> exact wpC_pure h'
theorem codeC_call_def {a : Addr} {o : Obj} {fd : FuncData} {body : List Stmt} {args : Args} {binds : List (Str × Value)}
    (hroom : A.depth < recursionLimit) (ho : s.heap.get? a = some o) (hdata : o.data = .func fd) (hlim : s.heap.NoLimit) (hcd : s.heap.CodeRec fd.code fd.qualname)
    (hbody : fd.body = .stmts body) (hbind : BindsTo s fd args binds)
    (hcell : ∀ x ∈ fd.scope.names, x.2 ≠ .cell) (hloc : ∀ x ∈ binds, fd.scope.names.lookup x.1 = some .local)
    (h : ∀ h₀, h₀.Ns s.heap.objs.size (fun x => binds.reverse.lookup x) → (∀ b o, s.heap.get? b = some o → h₀.get? b = some o) →
      wpC (model prog w) (A.deeper (callEnv fd s.heap.objs.size a)) (execs body (callEnv fd s.heap.objs.size a)) (fun f s' => R (.ok (.ret (match f with | .ret v => v | _ => .none))) s')
        (fun e s' => wpAny (model prog w) (A.deeper (callEnv fd s.heap.objs.size a)) (leaving (callEnv fd s.heap.objs.size a) e) (fun _ s'' => R (.error e) s'') (fun e' s'' => R (.error e') s'') s')
        { s with heap := h₀, toks := s.toks + binds.length })
    (hco : fd.scope.isCoroutine = false := by rfl) (hgen : fd.scope.isGenerator = false := by rfl) (hk : fd.scope.kind = .function := by rfl) :
    codeC (model prog w) A (.call (.ref a) args) R s := by
  refine codeC_of_tree rfl ?_
  show wpC _ A.in1 (callAny (.ref a) args) _ _ s
  simp only [callAny]
  refine wpC_bindA (wpAny_load ho ?_)
  obtain ⟨c, oc, vs, tq, hc, hoc, hdc, hq⟩ := hcd
  simp only [hdata, callFunction, hco, hgen, hbody, hc]
  refine wpC_bindA (m := field (.ref c) 1) (wpAny_field hoc hdc hq (wpC_bindA (wpAny_pure ?_)))
  refine wpC_bindA (hbind _ _ _ _ ?_)
  rw [← hc]
  refine wpC_bindA (wpAny_newFunctionEnv hcell hloc (fun h₀ hns₀ hsb₀ => ?_) hk)
  refine wpC_bindA (wpAny_enterFrame (hlim.fresh _ hsb₀) hroom (wpC_pure ⟨rfl, codeC_func (h h₀ hns₀ fun b o e => ?_)⟩))
  exact hsb₀.extBut b o (Nat.ne_of_lt (Heap.lt_size e)) (Heap.get?_push_of_some _ e)
end
end Mine
end
section
open PySem PySem.W PySem.W.X PySem.Calls PyProof.Rows
set_option Elab.async false
set_option maxRecDepth 100000
namespace Mine
section
variable {prog : Program} {w : World} {A : Around} {E : Value → Shared → Prop} {s : Shared} {env : Env} {h₀ : Heap} {x : Str} {body : List Stmt} {Q : Flow → Shared → Prop}
theorem unr_mono {L I : Addr} {it : Obj} {s₁ s₂ : Shared} {f : Flow} {r r' : (Str → Option Value) → List (Addr × Obj) → Prop} (hr : ∀ m n, r m n → r' m n) (h : UnrPost h₀ L s₁ I it r Q f s₂) : UnrPost h₀ L s₁ I it r' Q f s₂ := by
  cases f with
  | ret v => exact h
  | brk => exact h
  | next => obtain ⟨h', tk, m', news', a, b, c, d, e⟩ := h; exact ⟨h', tk, m', news', a, b, c, d, hr _ _ e⟩
  | cont => obtain ⟨h', tk, m', news', a, b, c, d, e⟩ := h; exact ⟨h', tk, m', news', a, b, c, d, hr _ _ e⟩
/-- a loop over a range by an invariant over the turn's number, the frame's map and the ledger -/
theorem range_inv {r : Addr} {a₀ b₀ c : Int} {t₀ u₀ v₀ : Tok} {n : Nat} {m₀ : Str → Option Value} {news : List (Addr × Obj)} (Inv : Nat → (Str → Option Value) → List (Addr × Obj) → Prop)
    (hh : A.handled = none) (hr : IsRange s.heap r a₀ b₀ c t₀ u₀ v₀) (hsmall : Builtin.Range.small a₀ b₀ c = true) (hn : Builtin.Range.rangeSize a₀ b₀ c = (n : Int)) (F : Fr h₀ env.locals s.heap m₀) (N : News h₀ env.locals s.heap news)
    (h0 : Inv 0 m₀ news)
    (step : ∀ I i m₁ news₁ t h tk, (∀ p ∈ news, p.1 < I) → i < n → Inv i m₁ news₁ → Fr h₀ env.locals h (fun y => if y = x then some (.int (a₀ + (i : Int) * c) t) else m₁ y) →
      News h₀ env.locals h ((I, krsIt (a₀ + ((i + 1 : Nat) : Int) * c) ((n : Int) - ((i + 1 : Nat) : Int)) c) :: news₁) →
      wpAny (model prog w) A (execs body env) (UnrPost h₀ env.locals { s with heap := h, toks := tk } I (krsIt (a₀ + ((i + 1 : Nat) : Int) * c) ((n : Int) - ((i + 1 : Nat) : Int)) c) (Inv (i + 1)) Q) E { s with heap := h, toks := tk })
    (done : ∀ m₁ news₁ h tk, Inv n m₁ news₁ → Fr h₀ env.locals h m₁ → News h₀ env.locals h news₁ → Q .next { s with heap := h, toks := tk }) :
    wpAny (model prog w) A (pyIter (.ref r)) (fun it s₂ => LoopAtV prog w A h₀ env x body Q E it s₂) E s := by
  refine krs_iter (n := n) hh hr hsmall hn F N fun I hI => ?_
  have key : ∀ k i m₁ news₁, i + k = n → Inv i m₁ news₁ → KrsRest prog w A E h₀ env x body Q s I a₀ c n k i m₁ news₁ := by
    intro k
    induction k with
    | zero =>
      intro i m₁ news₁ hk hi
      have : i = n := by omega
      subst this
      exact KrsRest.zero fun h tk F' N' => done m₁ news₁ h tk hi F' N'
    | succ k ih =>
      intro i m₁ news₁ hk hi
      refine KrsRest.succ rfl fun t h tk F' N' => ?_
      exact wpAny_mono (step I i m₁ news₁ t h tk hI (by omega) hi F' N') (fun f s₂ p => unr_mono (fun m' n' q => ih (i + 1) m' n' (by omega) q) p) fun _ _ e => e
  exact key n 0 m₀ news (by omega) h0
theorem walks_strong {I l : Addr} {lo : Obj} {n : Nat} {P : Nat → Value → Prop} {St : Nat → Heap → Prop} (W : Walks prog w A I [I, l] [I] n P St) (hne : l ≠ I) :
    Walks prog w A I [I, l] [I] n P (fun i h => St i h ∧ h.get? l = some lo) where
  sub := W.sub
  frame := fun i h h' st hk => ⟨W.frame i h h' st.1 hk, hk l (by simp) _ st.2⟩
  item := fun i s Q E hi st hQ => W.item i s Q E hi st.1 fun v h' tk hP hst hk => hQ v h' tk hP ⟨hst, hk l _ (by simpa using hne) st.2⟩ hk
  done := fun s Q E st hQ => W.done s Q E st.1 hQ
  self := fun i s Q E st hQ => W.self i s Q E st.1 hQ
/-- the same over a walk whose iterator is written out and that reads one object -/
theorem loopAt_of {s₂ : Shared} {I l : Addr} {lo : Obj} {n : Nat} {P : Nat → Value → Prop} {icls : Value} {St : Nat → Heap → Prop} {m₀ : Str → Option Value} {news : List (Addr × Obj)} (Inv : Nat → (Str → Option Value) → List (Addr × Obj) → Prop)
    (W : Walks prog w A I [I, l] [I] n P St) (hIt : ∀ i h, St i h → ∃ o, h.get? I = some o ∧ o.cls = icls) (hli : l ≠ I) (hlo : s₂.heap.get? l = some lo) (hst : St 0 s₂.heap)
    (F : Fr h₀ env.locals s₂.heap m₀) (N : News h₀ env.locals s₂.heap news) (hnI : h₀.get? I = none) (hIL : I ≠ env.locals) (hlL : l ≠ env.locals) (hnews : ∀ p ∈ news, p.1 ≠ I) (hk : h₀.get? l = some lo ∨ (l, lo) ∈ news)
    (h0 : Inv 0 m₀ news)
    (step : ∀ i v m₁ news₁ h tk oI, i < n → P i v → Inv i m₁ news₁ → (∀ p ∈ news₁, p.1 ≠ I) → h.get? l = some lo → oI.cls = icls → Fr h₀ env.locals h (fun y => if y = x then some v else m₁ y) → News h₀ env.locals h ((I, oI) :: news₁) →
      wpAny (model prog w) A (execs body env) (UnrPost h₀ env.locals { s₂ with heap := h, toks := tk } I oI (fun m' n' => Inv (i + 1) m' n' ∧ (h₀.get? l = some lo ∨ (l, lo) ∈ n')) Q) E { s₂ with heap := h, toks := tk })
    (done : ∀ m₁ news₁ h tk, Inv n m₁ news₁ → Fr h₀ env.locals h m₁ → News h₀ env.locals h news₁ → Q .next { s₂ with heap := h, toks := tk }) :
    LoopAtV prog w A h₀ env x body Q E (.ref I) s₂ := by
  refine ⟨I, [I, l], [I], n, P, fun i h => St i h ∧ h.get? l = some lo, m₀, news, fun i m' n' => Inv i m' n' ∧ (h₀.get? l = some lo ∨ (l, lo) ∈ n'), rfl, walks_strong W hli, ?_, ?_, ?_, ⟨hst, hlo⟩, F, N, ⟨h0, hk⟩, ?_, ?_⟩
  · intro hm
    rcases List.mem_cons.mp hm with e | hm
    · exact hIL e.symm
    · exact hlL (List.mem_singleton.mp hm).symm
  · intro b hb; rw [List.mem_singleton.mp hb]; exact hnI
  · intro p hp hI; exact hnews p hp (List.mem_singleton.mp hI)
  · intro i v m₁ news₁ s₁ own hp1 hin hP hp2 hoff hown hget hall hst' F₁ N₁
    refine hide fun G' back' => ?_
    obtain ⟨h, tk, rfl⟩ := hp1
    obtain ⟨hJ, hkl⟩ := hp2
    refine back' ?_
    clear back' G'
    obtain ⟨oI, hIg, hIc⟩ := hIt _ _ hst'.1
    have hIg : h.get? I = some oI := hIg
    have hlg : h.get? l = some lo := hst'.2
    have hmem := hall I (List.mem_cons_self ..) hnI _ hIg
    have N₂ : News h₀ env.locals h ((I, oI) :: news₁) := fun p hp => by
      rcases List.mem_cons.mp hp with rfl | hp
      · exact N₁ _ (List.mem_append_left _ hmem)
      · exact N₁ _ (List.mem_append_right _ hp)
    have hoff' : ∀ p ∈ news₁, p.1 ≠ I := fun p hp e => hoff p hp (List.mem_singleton.mpr e)
    refine wpAny_mono (step i v m₁ news₁ h tk oI hin hP hJ hoff' hlg hIc F₁ N₂) (fun f s₃ p => ?_) fun _ _ e => e
    have fin : UnrEnd h₀ env.locals { s₂ with heap := h, toks := tk } I oI (fun m' n' => Inv (i + 1) m' n' ∧ (h₀.get? l = some lo ∨ (l, lo) ∈ n')) s₃ →
        LoopStepU h₀ env.locals [I] own (fun m' n' => Inv (i + 1) m' n' ∧ (h₀.get? l = some lo ∨ (l, lo) ∈ n')) { s₂ with heap := h, toks := tk } .next s₃ := by
      intro hp1
      refine hide fun G' back' => ?_
      obtain ⟨h', tk', m', news', e, F', N', ho, r⟩ := hp1
      refine back' ?_
      clear back' G'
      refine ⟨rfl, h', tk', m', news', e, F', fun p hp => ?_, fun p hp hI => ho p hp (List.mem_singleton.mp hI), r⟩
      rcases List.mem_append.mp hp with hp | hp
      · have hg : h.get? p.1 = some p.2 := hget p hp
        rcases List.mem_cons.mp (hown p hp) with e1 | e1
        · have : p = (I, oI) := by
            rw [e1, hIg] at hg
            exact Prod.ext e1 (Option.some.inj hg).symm
          rw [this]; exact N' _ (List.mem_cons_self ..)
        · have e1 := List.mem_singleton.mp e1
          have hp2 : p = (l, lo) := by
            rw [e1, hlg] at hg
            exact Prod.ext e1 (Option.some.inj hg).symm
          rcases r.2 with q | q
          · have := (N₁ p (List.mem_append_left _ hp)).2.2
            rw [hp2] at this
            rw [show h₀.get? l = none from this] at q; cases q
          · rw [hp2]; exact N' _ (List.mem_cons_of_mem _ q)
      · exact N' _ (List.mem_cons_of_mem _ hp)
    cases f with
    | ret v => exact .ret p
    | brk => exact .brk p
    | next => exact .next (fin p)
    | cont => exact .cont (fin p)
  · rintro h' tk m' news' F' N' _ ⟨hJ, _⟩
    exact done m' news' h' tk hJ F' N'
theorem list_inv {l : Addr} {items : Array Value} {ep : Nat} {m₀ : Str → Option Value} {news : List (Addr × Obj)} (Inv : Nat → (Str → Option Value) → List (Addr × Obj) → Prop)
    (hh : A.handled = none) (hlo : s.heap.get? l = some { cls := .type "list", data := .seq items ep }) (hlL : l ≠ env.locals) (F : Fr h₀ env.locals s.heap m₀) (N : News h₀ env.locals s.heap news)
    (hk : h₀.get? l = some { cls := .type "list", data := .seq items ep } ∨ (l, ({ cls := .type "list", data := .seq items ep } : Obj)) ∈ news)
    (h0 : Inv 0 m₀ news)
    (step : ∀ I i v m₁ news₁ h tk oI, i < items.size → items[i]? = some v → Inv i m₁ news₁ → (∀ p ∈ news₁, p.1 ≠ I) → h.get? l = some { cls := .type "list", data := .seq items ep } → oI.cls = .type "list_iterator" → Fr h₀ env.locals h (fun y => if y = x then some v else m₁ y) → News h₀ env.locals h ((I, oI) :: news₁) →
      wpAny (model prog w) A (execs body env) (UnrPost h₀ env.locals { s with heap := h, toks := tk } I oI (fun m' n' => Inv (i + 1) m' n' ∧ (h₀.get? l = some { cls := .type "list", data := .seq items ep } ∨ (l, ({ cls := .type "list", data := .seq items ep } : Obj)) ∈ n')) Q) E { s with heap := h, toks := tk })
    (done : ∀ m₁ news₁ h tk, Inv items.size m₁ news₁ → Fr h₀ env.locals h m₁ → News h₀ env.locals h news₁ → Q .next { s with heap := h, toks := tk }) :
    wpAny (model prog w) A (pyIter (.ref l)) (fun it s₂ => LoopAtV prog w A h₀ env x body Q E it s₂) E s := by
  have hls : s.heap.IsList l items := ⟨_, hlo, rfl, ep, rfl⟩
  refine wpAny_pyIter_list hls ?_
  have hlt : l < s.heap.objs.size := Heap.lt_size hlo
  refine loopAt_of (icls := .type "list_iterator") Inv (Walks.list hh s.heap.objs.size l (Nat.ne_of_lt hlt) items) (fun i h st => ?_) (Nat.ne_of_lt hlt) (Heap.get?_push_of_some _ hlo) ⟨⟨_, Heap.get?_push_size _ rfl, rfl, rfl⟩, hls.push _⟩ (F.push _) (N.pushKeep _) F.fresh (Nat.ne_of_gt F.ns.lt) hlL (N.apart) hk h0 ?_ ?_
  · obtain ⟨o, ho, hc, _⟩ := st.1
    exact ⟨o, ho, hc⟩
  · intro i v m₁ news₁ h tk oI a b c d e f g j
    exact step _ i v m₁ news₁ h tk oI a b c d e f g j
  · exact done
theorem tup_inv {l : Addr} {items : Array Value} {ep : Nat} {m₀ : Str → Option Value} {news : List (Addr × Obj)} (Inv : Nat → (Str → Option Value) → List (Addr × Obj) → Prop)
    (hh : A.handled = none) (hlo : s.heap.get? l = some { cls := .type "tuple", data := .seq items ep }) (hlL : l ≠ env.locals) (F : Fr h₀ env.locals s.heap m₀) (N : News h₀ env.locals s.heap news)
    (hk : h₀.get? l = some { cls := .type "tuple", data := .seq items ep } ∨ (l, ({ cls := .type "tuple", data := .seq items ep } : Obj)) ∈ news)
    (h0 : Inv 0 m₀ news)
    (step : ∀ I i v m₁ news₁ h tk oI, i < items.size → items[i]? = some v → Inv i m₁ news₁ → (∀ p ∈ news₁, p.1 ≠ I) → h.get? l = some { cls := .type "tuple", data := .seq items ep } → oI.cls = .type "tuple_iterator" → Fr h₀ env.locals h (fun y => if y = x then some v else m₁ y) → News h₀ env.locals h ((I, oI) :: news₁) →
      wpAny (model prog w) A (execs body env) (UnrPost h₀ env.locals { s with heap := h, toks := tk } I oI (fun m' n' => Inv (i + 1) m' n' ∧ (h₀.get? l = some { cls := .type "tuple", data := .seq items ep } ∨ (l, ({ cls := .type "tuple", data := .seq items ep } : Obj)) ∈ n')) Q) E { s with heap := h, toks := tk })
    (done : ∀ m₁ news₁ h tk, Inv items.size m₁ news₁ → Fr h₀ env.locals h m₁ → News h₀ env.locals h news₁ → Q .next { s with heap := h, toks := tk }) :
    wpAny (model prog w) A (pyIter (.ref l)) (fun it s₂ => LoopAtV prog w A h₀ env x body Q E it s₂) E s := by
  have hls : s.heap.IsTuple l items := ⟨_, hlo, rfl, ep, rfl⟩
  refine wpAny_pyIter_tuple hls ?_
  have hlt : l < s.heap.objs.size := Heap.lt_size hlo
  refine loopAt_of (icls := .type "tuple_iterator") Inv (Walks.tuple hh s.heap.objs.size l (Nat.ne_of_lt hlt) items) (fun i h st => ?_) (Nat.ne_of_lt hlt) (Heap.get?_push_of_some _ hlo) ⟨⟨_, Heap.get?_push_size _ rfl, rfl, rfl⟩, hls.at fun o e => Heap.get?_push_of_some _ e⟩ (F.push _) (N.pushKeep _) F.fresh (Nat.ne_of_gt F.ns.lt) hlL (N.apart) hk h0 ?_ ?_
  · obtain ⟨o, ho, hc, _⟩ := st.1
    exact ⟨o, ho, hc⟩
  · intro i v m₁ news₁ h tk oI a b c d e f g j
    exact step _ i v m₁ news₁ h tk oI a b c d e f g j
  · exact done
noncomputable abbrev listO (items : Array Value) (n : Nat) : Obj := { cls := .type "list", data := .seq items n }
noncomputable abbrev tupO (items : Array Value) (n : Nat) : Obj := { cls := .type "tuple", data := .seq items n }
noncomputable abbrev listIt (l : Addr) (i : Nat) : Obj := { cls := .type "list_iterator", data := .fields #[.ref l, .int i 0] }
end
end Mine
end
section
open PySem PySem.W PySem.W.X PySem.Calls PyProof.Rows
set_option Elab.async false
set_option maxRecDepth 100000
namespace Mine
/-- where the walk is to stop -/
def Stop (p : Prop) : Prop := p
theorem stop_in {p : Prop} (h : Stop p) : p := h
theorem Stop.out {p : Prop} (h : p) : Stop p := h
/-- a turn's end under while_inv -/
def WEnd (h₀ : Heap) (L : Addr) (Inv : Nat → (Str → Option Value) → List (Addr × Obj) → Prop) (n : Nat) (s s₃ : Shared) : Prop :=
  ∃ n' m' news' h' tk', n' < n ∧ s₃ = { s with heap := h', toks := tk' } ∧ Fr h₀ L h' m' ∧ News h₀ L h' news' ∧ Inv n' m' news'
section
variable {prog : Program} {w : World} {A : Around} {E : Value → Shared → Prop} {s : Shared} {env : Env} {h₀ : Heap} {Q : Flow → Shared → Prop}
/-- a while loop that raises nothing, by an invariant with a measure -/
theorem while_inv {test : PySem.Expr} {body : List Stmt} {pos : Pos} {L : Addr} (Inv : Nat → (Str → Option Value) → List (Addr × Obj) → Prop) (n : Nat) {m₀ : Str → Option Value} {news : List (Addr × Obj)}
    (F : Fr h₀ L s.heap m₀) (N : News h₀ L s.heap news) (h0 : Inv n m₀ news)
    (step : ∀ n m₁ news₁ h tk, Inv n m₁ news₁ → Fr h₀ L h m₁ → News h₀ L h news₁ →
      wpAny (model prog w) A (isTrue test env (eval test env)) (fun b s₂ =>
        if b then wpAny (model prog w) A (execs body env) (fun f s₃ => match f with
            | .next | .cont => WEnd h₀ L Inv n s s₃
            | .brk => Q .next s₃
            | .ret v => Q (.ret v) s₃) (fun _ _ => False) s₂
        else Q .next s₂) (fun _ _ => False) { s with heap := h, toks := tk }) :
    wpAny (model prog w) A (exec (.While test body [] pos) env) Q E s := by
  refine wpAny_While (codeAny_whileLoop (fun k s' => ∃ h' tk m' news', s' = { s with heap := h', toks := tk } ∧ Fr h₀ L h' m' ∧ News h₀ L h' news' ∧ Inv k m' news') ?_ n ⟨s.heap, s.toks, m₀, news, rfl, F, N, h0⟩)
  rintro k s' ⟨h', tk, m', news', rfl, F', N', hI⟩
  refine wpAny_mono (step k m' news' h' tk hI F' N') (fun b s₂ h₂ => ?_) fun _ _ x => x.elim
  cases b with
  | false => exact wpAny_execs_nil h₂
  | true =>
    refine wpAny_mono h₂ (fun f s₃ h₃ => ?_) fun _ _ x => x.elim
    cases f with
    | ret v => exact h₃
    | brk => exact h₃
    | next => obtain ⟨n', m1, news1, h1, tk1, hn, e, F1, N1, I1⟩ := h₃; exact ⟨n', hn, h1, tk1, m1, news1, e, F1, N1, I1⟩
    | cont => obtain ⟨n', m1, news1, h1, tk1, hn, e, F1, N1, I1⟩ := h₃; exact ⟨n', hn, h1, tk1, m1, news1, e, F1, N1, I1⟩
end
section
variable {prog : Program} {w : World} {A : Around} {E : Value → Shared → Prop} {s : Shared} {env : Env} {h₀ : Heap} {Q : Flow → Shared → Prop}
/-- a while loop by an invariant with a measure, a turn's end as a variable -/
theorem while_invW {test : PySem.Expr} {body : List Stmt} {pos : Pos} {L : Addr} (Inv : Nat → (Str → Option Value) → List (Addr × Obj) → Prop) (n : Nat) {m₀ : Str → Option Value} {news : List (Addr × Obj)}
    (F : Fr h₀ L s.heap m₀) (N : News h₀ L s.heap news) (h0 : Inv n m₀ news)
    (step : ∀ (W : Shared → Prop) n m₁ news₁ h tk, (∀ n' m' news' h' tk', n' < n → Fr h₀ L h' m' → Inv n' m' news' → News h₀ L h' news' → W { s with heap := h', toks := tk' }) → Inv n m₁ news₁ → Fr h₀ L h m₁ → News h₀ L h news₁ →
      wpAny (model prog w) A (isTrue test env (eval test env)) (fun b s₂ =>
        if b then wpAny (model prog w) A (execs body env) (fun f s₃ => match f with
            | .next | .cont => W s₃
            | .brk => Q .next s₃
            | .ret v => Q (.ret v) s₃) (fun _ _ => False) s₂
        else Q .next s₂) (fun _ _ => False) { s with heap := h, toks := tk }) :
    wpAny (model prog w) A (exec (.While test body [] pos) env) Q E s :=
  while_inv Inv n F N h0 fun n m₁ news₁ h tk hI F₁ N₁ => step (WEnd h₀ L Inv n s) n m₁ news₁ h tk (fun n' m' news' h' tk' hn F' hI' N' => ⟨n', m', news', h', tk', hn, rfl, F', N', hI'⟩) hI F₁ N₁
end
end Mine
end
section
namespace Mine
/-- the place whose octet comes to place p when pieces of w are read from their ends -/
noncomputable def sg (w p : Nat) : Nat := p / w * w + (w - 1 - p % w)
def Done (w n : Nat) (data : Array UInt8) (q j : Nat) (arr : Array UInt8) : Prop :=
  arr.size = n ∧ ∀ p, p < n → (p / w < q ∨ (p / w = q ∧ w - j ≤ p % w)) → arr[p]? = data[sg w p]?
theorem dm {w q r : Nat} (hr : r < w) : (q * w + r) / w = q ∧ (q * w + r) % w = r := by
  constructor
  · rw [Nat.add_comm, Nat.add_mul_div_right _ _ (by omega), Nat.div_eq_of_lt hr]; omega
  · rw [Nat.add_comm, Nat.add_mul_mod_self_right, Nat.mod_eq_of_lt hr]
theorem Done.step {w n : Nat} {data arr : Array UInt8} {q j : Nat} {v : UInt8} (hj : j < w) (h : Done w n data q j arr) (hv : data[q * w + j]? = some v) (hlt : q * w + (w - 1 - j) < n) :
    Done w n data q (j + 1) (arr.setIfInBounds (q * w + (w - 1 - j)) v) := by
  refine ⟨by rw [Array.size_setIfInBounds]; exact h.1, fun p hp hc => ?_⟩
  rw [Array.getElem?_setIfInBounds]
  by_cases e : q * w + (w - 1 - j) = p
  · rw [if_pos e]
    have hlt' : q * w + (w - 1 - j) < arr.size := by rw [h.1]; exact hlt
    rw [if_pos hlt']
    have hd := dm (w := w) (q := q) (r := w - 1 - j) (by omega)
    have : sg w p = q * w + j := by
      unfold sg; rw [← e, hd.1, hd.2]; omega
    rw [this, hv]
  · rw [if_neg e]
    refine h.2 p hp ?_
    rcases hc with hc | ⟨h1, h2⟩
    · exact .inl hc
    · refine .inr ⟨h1, ?_⟩
      have hp' : p = q * w + p % w := by
        have := Nat.div_add_mod p w
        rw [h1, Nat.mul_comm] at this; omega
      have : p % w ≠ w - 1 - j := fun z => e (by rw [hp', z])
      omega
theorem Done.next {w n : Nat} {data arr : Array UInt8} {q : Nat} (h : Done w n data q w arr) : Done w n data (q + 1) 0 arr :=
  ⟨h.1, fun p hp hc => h.2 p hp (by
    rcases hc with hc | ⟨h1, h2⟩
    · rcases Nat.lt_or_eq_of_le (Nat.le_of_lt_succ hc) with z | z
      · exact .inl z
      · exact .inr ⟨z, by omega⟩
    · exfalso
      have hw : 0 < w ∨ w = 0 := by omega
      rcases hw with hw | hw
      · have := Nat.mod_lt p hw; omega
      · subst hw; simp at h1)⟩
theorem Done.start {w n : Nat} {data : Array UInt8} (hw : 0 < w) : Done w n data 0 0 (Array.replicate n 0) := ⟨by simp, fun p _ hc => by
  rcases hc with hc | ⟨h1, h2⟩
  · exact absurd hc (Nat.not_lt_zero _)
  · have := Nat.mod_lt p hw
    exfalso; omega⟩
theorem Done.all {w n : Nat} {data arr : Array UInt8} (hw : 0 < w) (hn : n % w = 0) (h : Done w n data (n / w) 0 arr) : ∀ p, p < n → arr[p]? = data[sg w p]? := fun p hp => h.2 p hp (.inl (by
  rw [Nat.div_lt_iff_lt_mul hw]
  have := Nat.div_add_mod n w
  rw [hn, Nat.mul_comm] at this; omega))
theorem sg_lt {w n p : Nat} (hw : 0 < w) (hn : n % w = 0) (hp : p < n) : sg w p < n := by
  unfold sg
  have h1 : p / w < n / w := by
    rw [Nat.div_lt_iff_lt_mul hw]
    have := Nat.div_add_mod n w
    rw [hn, Nat.mul_comm] at this; omega
  have h2 : (p / w + 1) * w ≤ n / w * w := Nat.mul_le_mul_right _ h1
  have h3 : n / w * w = n := by have := Nat.div_add_mod n w; rw [hn, Nat.mul_comm] at this; omega
  rw [Nat.add_mul] at h2
  omega
end Mine
end
section
open PySem PySem.W PySem.W.X PySem.Calls PyProof.Rows
set_option Elab.async false
set_option maxRecDepth 100000
set_option maxHeartbeats 1000000
namespace Mine
local macro_rules | `(tactic| walk_at "eval Name") => `(tactic| (k_dflt (refine' ld ?k1 ?k2 ?_; (case k1 => k_asm); (case k2 => first | exact rfl | assumption); k_whole)))
local macro_rules | `(tactic| walk_at "exec") => `(tactic| ((with_reducible show wpAny _ _ (exec (Stmt.While _ _ _ _) _) _ _ _); refine stop_in ?_))
local macro_rules | `(tactic| walk_at "exec While Compare cons nil") => `(tactic| ((with_reducible show wpAny _ _ (exec (Stmt.While _ _ _ _) _) _ _ _); refine stop_in ?_))
local macro_rules | `(tactic| walk_at "subscriptTail Name Slice ref ref") => `(tactic| refine stop_in ?_)
local macro_rules | `(tactic| walk_at "subscriptTail") => `(tactic| ((with_reducible show wpAny _ _ (subscriptTail _ _ (Value.ref _) (Value.ref _)) _ _ _); refine stop_in ?_))
local macro_rules | `(tactic| walk_at "binaryOp Add ref ref") => `(tactic| refine stop_in ?_)
local macro_rules | `(tactic| walk_at "unpackItems ref") => `(tactic| refine stop_in ?_)
local macro_rules | `(tactic| walk_at "compareOp NotEq ref ref") => `(tactic| refine stop_in ?_)
theorem isList_of {h : Heap} {a : Addr} {its : List Value} {n : Nat} (e : h.get? a = some (W.listOf its.toArray n)) : h.IsList a its.toArray := ⟨_, e, rfl, n, rfl⟩
theorem inB {h₀ h : Heap} {L a : Addr} {o : Obj} {m : Str → Option Value} {news : List (Addr × Obj)} (F : Fr h₀ L h m) (N : News h₀ L h news) (k : h₀.get? a = some o ∨ (a, o) ∈ news) : h.get? a = some o := k.elim (F.keep a o) N.get
theorem inC {h₀ : Heap} {a : Addr} {o : Obj} {news : List (Addr × Obj)} {q : Addr × Obj} (k : h₀.get? a = some o ∨ (a, o) ∈ news) : h₀.get? a = some o ∨ (a, o) ∈ q :: news := k.imp id (List.mem_cons_of_mem _)
theorem blk' {w n q : Nat} (hw : 0 < w) (hn : n % w = 0) (hq : q * w < n) : q * w + w ≤ n := by
  have h3 : n = n / w * w := by have := Nat.div_add_mod n w; rw [hn, Nat.mul_comm] at this; omega
  have h1 : q < n / w := by
    rcases Nat.lt_or_ge q (n / w) with z | z
    · exact z
    · have := Nat.mul_le_mul_right w z; omega
  have := Nat.mul_le_mul_right w (Nat.succ_le_of_lt h1)
  rw [Nat.succ_mul] at this; omega
theorem turn_step {ns ms ps : List Int} {q wd : Nat} (hw : 0 < wd) (h : q * wd + wd ≤ ns.length) (hms : ms.length = q * wd) (hps : ps = ns.drop (q * wd)) (H : ∀ p, p < q * wd → ms[p]? = ns[sg wd p]?) :
    (ms ++ (ps.take wd).reverse).length = (q + 1) * wd ∧ ps.drop wd = ns.drop ((q + 1) * wd) ∧ ∀ p, p < (q + 1) * wd → (ms ++ (ps.take wd).reverse)[p]? = ns[sg wd p]? := by
  have hl : (ps.take wd).length = wd := by rw [List.length_take, hps, List.length_drop]; omega
  refine ⟨by rw [List.length_append, List.length_reverse, hl, hms, Nat.add_mul]; omega, by rw [hps, List.drop_drop, Nat.add_mul, Nat.one_mul], fun p hp => ?_⟩
  rw [Nat.add_mul] at hp
  rcases Nat.lt_or_ge p (q * wd) with z | z
  · rw [List.getElem?_append_left (by omega)]; exact H p z
  · rw [List.getElem?_append_right (by omega), hms]
    have hr : p - q * wd < wd := by omega
    rw [List.getElem?_reverse (by omega), hl, List.getElem?_take, if_pos (by omega), hps, List.getElem?_drop]
    have hd := dm (w := wd) (q := q) (r := p - q * wd) hr
    have e : p = q * wd + (p - q * wd) := by omega
    congr 1
    unfold sg
    rw [e, hd.1, hd.2]; omega
theorem turned_call {w : World} {A : Around} {s : Shared} {mean : ExcName → Option Value} {mg mb : Str → Option Value} {Q E : Value → Shared → Prop}
    {l : Addr} {items : Array Value} {ep : Nat} {ns : List Int} {wd : Nat} {t1 : Tok} (hsz : ns.length ≤ 20) (hwn : ns.length % wd = 0) (hw : 0 < wd) (hw2 : wd ≤ 20) (hh : A.handled = none)
    (hl : s.heap.get? l = some { cls := .type "list", data := .seq items ep }) (hi : IntsAre items.toList ns)
    (X : Frag.In (Mine.hd.heap_39 w.params) s.heap) (T : Top Mine.hd.view_39 (looseW Mine.hd.view_39 [Str.ofString "_NodeInfo"]) mean mg mb s.heap)
    (hdp : A.depth + 20 < recursionLimit) (hun : A.units + 200 < cLine)
    (ret : ∀ h' tk a its n ms, s.heap.StaysIn h' → s.heap.get? a = none → h'.get? a = some { cls := .type "list", data := .seq its n } → IntsAre its.toList ms → ms.length = ns.length → (∀ p, p < ns.length → ms[p]? = ns[sg wd p]?) → Q (.ref a) { s with heap := h', toks := tk }) :
    wpAny (model PySem.Challenge.rw_nb0242_01.row.prog w) A (call (.ref 162) [.ref l, .int wd t1]) Q E s := by
  revert X T; w_top off; k_fill; intro X T
  refine wpAny_call ?_
  refine codeAny_call_def (binds := [(Str.ofString "places", .ref l), (Str.ofString "width", .int wd t1)]) (by omega) (X 162 _ (by k_is)) rfl T.nolimit (codeRec_of X (by k_is)) rfl (BindsTo.of_eq rfl) (by decide) (locs rfl) (fun h₁ hns keep => ?_) rfl rfl rfl
  have F : Fr s.heap s.heap.objs.size h₁ _ := ⟨hns, keep, Nat.le_refl _⟩
  have N : News s.heap s.heap.objs.size h₁ [] := News.nil
  have hL : s.heap.IsList l items.toList.toArray := ⟨_, hl, rfl, ep, rfl⟩
  k_steps
  refine Stop.out ?_
  rename Fr _ _ _ _ => F₁
  rename News _ _ _ _ => N₁
  refine while_invW (fun k m news => ∃ tl pl its1 n1 its2 n2 ms ps, m (Str.ofString "turned") = some (.ref tl) ∧ m (Str.ofString "places") = some (.ref pl) ∧ m (Str.ofString "width") = some (.int wd t1) ∧
    IntsAre its1 ms ∧ IntsAre its2 ps ∧ k = ps.length ∧ (∃ q, ms.length = q * wd ∧ ps = ns.drop (q * wd) ∧ q * wd ≤ ns.length ∧ ∀ p, p < q * wd → ms[p]? = ns[sg wd p]?) ∧ (tl, W.listOf its1.toArray n1) ∈ news ∧ (s.heap.get? pl = some (W.listOf its2.toArray n2) ∨ (pl, W.listOf its2.toArray n2) ∈ news)) ns.length F₁ N₁ ?_ ?_
  · refine ⟨_, l, [], 0, items.toList, ep, [], ns, rfl, rfl, rfl, .nil, hi, rfl, ⟨0, by simp, by simp, by simp, by simp⟩, List.mem_cons_self .., .inl ?_⟩
    simpa using hl
  · intro WW k m₁ news₁ h tk backW hp1 F N
    refine hide fun G' back' => ?_
    obtain ⟨tl, pl, its1, n1, its2, n2, ms, ps, hm1, hm2, hm3, hi1, hi2, rfl, ⟨q, hq1, hq2, hq3, hq4⟩, hk1, hk2⟩ := hp1
    refine back' ?_
    clear back' G'
    have z1 : ms.length ≤ 20 := by omega
    have z2 : ps.length ≤ 20 := by rw [hq2, List.length_drop]; omega
    k_steps
    rename Fr _ _ _ _ => F₂
    rename News _ _ _ _ => N₂
    refine Stop.out ?_
    refine ne_intsK (isList_of (inB F₂ N₂ (inC hk2))) hi2 (N₂.isList (List.mem_cons_self ..)) .nil (by show A.units + 3 + 64 < _; omega) ?_
    k_steps
    · rename decide (ps = []) = true => he
      have he : ps = [] := of_decide_eq_true he
      have hfull : q * wd = ns.length := by
        have := congrArg List.length (hq2.symm.trans he)
        rw [List.length_drop, List.length_nil] at this; omega
      rename Fr _ _ _ _ => F₃
      rename News _ _ _ _ => N₃
      exact ret _ _ tl its1.toArray n1 ms F₃.keep (N₃.fresh (List.mem_cons_of_mem _ hk1)) (N₃.get (List.mem_cons_of_mem _ hk1)) hi1 (by omega) (by rw [← hfull]; exact hq4)
    · rename decide (ps = []) = false => he
      have he : ps ≠ [] := of_decide_eq_false he
      rename Fr _ _ _ _ => F₃
      rename News _ _ _ _ => N₃
      refine Stop.out ?_
      refine kmk_slice_ints F₃ N₃ (isList_of (inB F₃ N₃ (inC hk2))) .none (.int _ _) hi2 (kmk_upto hi2 (by omega)) rfl (fun D1 ws1 h1 F4 N4 l4 hI4 _ _ => ?_) (by with_unfolding_all rfl) (by intro _; with_unfolding_all rfl) (kmk_sz hi2 (by rw [sizeLine_eq]; omega))
      k_steps
      refine Stop.out ?_
      refine kba_turn (value' := PySem.Expr.Name (PySem.Str.ofString "x") ⟨0, 0, 0, 0⟩) (fun _ => rfl) ?_
      refine krv_ints F4 N4 (N4.isList (List.mem_cons_self ..)) (.int _ _) hI4 (fun D2 ws2 h2 F5 N5 l5 hI5 _ => ?_) (by with_unfolding_all rfl) (by intro _; with_unfolding_all rfl) (kmk_sz hI4 (by rw [sizeLine_eq, List.length_take]; omega))
      k_steps
      refine Stop.out ?_
      refine add_lists_ints F5 N5 (N5.isList (List.mem_cons_of_mem _ (List.mem_cons_of_mem _ (List.mem_cons_of_mem _ hk1)))) (N5.isList (List.mem_cons_self ..)) hi1 hI5 (fun h3 F6 N6 hI6 => ?_) (by rw [sizeLine_eq, List.length_reverse, List.length_take]; omega)
      k_steps
      rename Fr _ _ _ _ => F7
      rename News _ _ _ _ => N7
      refine Stop.out ?_
      refine kmk_slice_ints F7 N7 (isList_of (inB F7 N7 (inC (inC (inC (inC hk2)))))) (.int _ _) .none hi2 (kmk_from hi2 (by omega)) rfl (fun D3 ws3 h4 F8 N8 l8 hI8 _ _ => ?_) (by with_unfolding_all rfl) (by intro _; with_unfolding_all rfl) (kmk_sz hi2 (by rw [sizeLine_eq]; omega))
      k_steps
      rename Fr _ _ _ _ => F9
      rename News _ _ _ _ => N9
      refine Stop.out ?_
      refine unpackItemsN_ F9 N9 (N9.isTup (List.mem_cons_self ..)) hh rfl (fun h5 Fa Na => ?_)
      clear F9 N9
      k_steps
      rename Fr _ _ _ _ => Fb
      rename News _ _ _ _ => Nb
      have hlt : q * wd + wd ≤ ns.length := by
        have h1 : q * wd < ns.length := by
          rcases Nat.lt_or_ge (q * wd) ns.length with z | z
          · exact z
          · exact absurd (by rw [hq2, List.drop_eq_nil_iff]; exact z) he
        exact blk' hw hwn h1
      obtain ⟨t1', t2', t3'⟩ := turn_step hw hlt hq1 hq2 hq4
      exact backW _ _ _ _ _ (by rw [Int.toNat_natCast, List.length_drop, hq2, List.length_drop]; omega) Fb ⟨_, _, its1 ++ ws2, 0, ws3, 0, _, _, rfl, rfl, hm3, hI6, hI8, rfl, ⟨q + 1, t1', t2', by rw [Nat.add_mul]; omega, t3'⟩, by simp, .inr (by simp)⟩ Nb
end Mine
end
section
open PySem PySem.W PySem.W.X PySem.Calls PyProof.Rows PySem.SeqAt
set_option Elab.async false
set_option maxRecDepth 100000
namespace Mine
section
variable {prog : Program} {w : World} {A : Around} {E : Value → Shared → Prop} {s : Shared} {h₀ : Heap} {L : Addr} {m : Str → Option Value} {news : List (Addr × Obj)}
theorem meth {a : Addr} {o : Obj} {T : String} {name : Str} {id : String} {pl : Sem Bool} {Q : Value × List Value → Shared → Prop} (ho : s.heap.get? a = some o) (pa : PlainAttrs T) (slot : Slot T name id) (hty : typeOf (.builtin id) = pure (.type "method_descriptor"))
    (h : Q (.builtin id, [.ref a]) s) (hc : o.cls = .type T := by rfl) (hd : o.dict = none := by rfl) : wpAny (model prog w) A (getMethod (.ref a) name pl) Q E s :=
  getMethod_builtin ⟨o, ho, hc⟩ pa slot hty (fun b e => by cases e; exact ⟨o, ho, hd⟩) h
theorem index_ints {l : Addr} {vs : List Value} {ns : List Int} {k : Int} {t : Tok} {Q : Value → Shared → Prop} (hl : s.heap.IsList l vs.toArray) (hi : IntsAre vs ns) (hz : ns.length ≤ 1000) (hk : k ∈ ns)
    (h : ∀ t' k', Q (.int (ns.idxOf k : Nat) t') { s with toks := k' }) : wpAny (model prog w) A (call (.builtin "list.index") [.ref l, .int k t]) Q E s := by
  obtain ⟨⟨cls, dd, data, sl⟩, ho, hc, n, hd⟩ := id hl
  simp only at hc hd
  subst hc hd
  have hlen := hi.length
  have hj : ns.idxOf k < ns.length := List.idxOf_lt_length_iff.mpr hk
  refine call_meets PySem.F.slot_list_index ⟨_, ho, rfl⟩ PySem.F.entry_list_index (PySem.F.args_list_index_2 _ _)
    (list_indexAt l vs.toArray n dd sl (.int k t) (isInt k) (ns.idxOf k) (by simpa [hlen] using hj) (by omega) ?_ ?_) ⟨ho, fun y hy => (eq_isInt k t hi y (by simpa using hy)).at _ _, h _ _⟩
  · show isInt k vs[ns.idxOf k] = true
    rw [isInt_at k hi _ (by omega) hj]
    simpa using List.getElem_idxOf hj
  · intro j hjs hlt
    show isInt k vs[j] = false
    rw [isInt_at k hi j (by simpa using hjs) (by omega)]
    exact ne_of_lt_idxOf hlt _
/-- an object of the ledger is set anew -/
theorem news_put {h h' : Heap} {pre post : List (Addr × Obj)} {d : Addr} {o o' : Obj} (F : Fr h₀ L h m) (N : News h₀ L h (pre ++ (d, o) :: post)) (h1 : ∀ p ∈ pre, p.1 ≠ d) (h2 : ∀ p ∈ post, p.1 ≠ d) (hs : Heap.SameBut d h h') (ho : h'.get? d = some o') :
    Fr h₀ L h' m ∧ News h₀ L h' (pre ++ (d, o') :: post) := by
  have z := N (d, o) (List.mem_append_right _ (.head _))
  exact ⟨F.change hs z.2.1 z.2.2, News.setAt N h1 h2 hs ho⟩
theorem append1 {D : Addr} {its : List Value} {n : Nat} {x : Value} {Q : Value → Shared → Prop} {post : List (Addr × Obj)} (F : Fr h₀ L s.heap m) (N : News h₀ L s.heap ((D, W.listOf its.toArray n) :: post)) (h2 : ∀ p ∈ post, p.1 ≠ D) (hz : its.length ≤ 1000)
    (h : ∀ h', Fr h₀ L h' m → News h₀ L h' ((D, W.listOf (its ++ [x]).toArray (n + 1)) :: post) → Q .none { s with heap := h' }) : wpAny (model prog w) A (call (.builtin "list.append") [.ref D, x]) Q E s := by
  have z := N (D, _) (.head _)
  refine append_at (hsz := by rw [sizeLine_eq, List.size_toArray]; omega) z.1 fun h' hs ho' => ?_
  have e : its.toArray.push x = (its ++ [x]).toArray := by simp
  rw [e] at ho'
  obtain ⟨F', N'⟩ := news_put (pre := []) F N (fun _ hp => nomatch hp) h2 hs ho'
  exact h h' F' N'
end
end Mine
end
section
open PySem PySem.W PySem.W.X PySem.Calls PyProof.Rows
set_option Elab.async false
set_option maxRecDepth 100000
set_option maxHeartbeats 1000000
namespace Mine
/-- objects that stand in h and not in g -/
def NB (g h : Heap) (news : List (Addr × Obj)) : Prop := ∀ p ∈ news, h.get? p.1 = some p.2 ∧ g.get? p.1 = none
theorem NB.news {g h h₁ : Heap} {L : Addr} {news : List (Addr × Obj)} (N : NB g h news) (hk : ∀ b o, h.get? b = some o → h₁.get? b = some o) (hL : L = h.objs.size) : News g L h₁ news :=
  fun p hp => ⟨hk _ _ (N p hp).1, by rw [hL]; exact Nat.ne_of_lt (Heap.lt_size (N p hp).1), (N p hp).2⟩
theorem NB.of {g h : Heap} {L : Addr} {news : List (Addr × Obj)} (N : News g L h news) : NB g h news := fun p hp => ⟨(N p hp).1, (N p hp).2.2⟩
theorem NB.perm {g h : Heap} {a b : List (Addr × Obj)} (N : NB g h a) (hs : ∀ p ∈ b, p ∈ a) : NB g h b := fun p hp => N p (hs p hp)
theorem nb_mem {g h : Heap} {L : Addr} {news : List (Addr × Obj)} {p : Addr × Obj} (N : News g L h news) (hm : p ∈ news) : h.get? p.1 = some p.2 ∧ g.get? p.1 = none := ⟨(N _ hm).1, (N _ hm).2.2⟩
theorem nb_cons {g h : Heap} {news : List (Addr × Obj)} {p : Addr × Obj} (a : h.get? p.1 = some p.2 ∧ g.get? p.1 = none) (N : NB g h news) : NB g h (p :: news) := List.forall_mem_cons.mpr ⟨a, N⟩
theorem nb_nil {g h : Heap} : NB g h [] := fun _ hp => nomatch hp
/-- back behind a call that turns the objects own -/
theorem back {h₀ h h' : Heap} {L : Addr} {m : Str → Option Value} {own own' oth : List (Addr × Obj)} (F : Fr h₀ L h m) (N : News h₀ L h (own ++ oth)) (hd : ∀ p ∈ oth, p.1 ∉ own.map (·.1))
    (st : (hideAll h (own.map (·.1))).StaysIn h') (N' : NB (hideAll h (own.map (·.1))) h' own') : Fr h₀ L h' m ∧ News h₀ L h' (own' ++ oth) := by
  have old : ∀ b o, h₀.get? b = some o → (hideAll h (own.map (·.1))).get? b = some o := fun b o e => hideAll_get _ (F.keep b o e) fun q => by
    obtain ⟨p, hp, rfl⟩ := List.mem_map.mp q
    have := (N p (List.mem_append_left _ hp)).2.2
    rw [this] at e; cases e
  refine hide fun G' back' => ?_
  obtain ⟨oL, es, ep, hL, r⟩ := F.ns
  refine back' ?_
  clear back' G'
  have hLg : (hideAll h (own.map (·.1))).get? L = some oL := hideAll_get _ hL fun q => by
    obtain ⟨p, hp, e⟩ := List.mem_map.mp q
    exact (N p (List.mem_append_left _ hp)).2.1 e
  refine ⟨⟨⟨oL, es, ep, st _ _ hLg, r⟩, fun b o e => st _ _ (old b o e), F.above⟩, fun p hp => ?_⟩
  rcases List.mem_append.mp hp with hp | hp
  · have z := N' p hp
    refine ⟨z.1, fun e => ?_, ?_⟩
    · rw [e, hLg] at z; cases z.2
    · cases q : h₀.get? p.1 with
      | none => rfl
      | some o => rw [old _ _ q] at z; cases z.2
  · have z := N p (List.mem_append_right _ hp)
    exact ⟨st _ _ (hideAll_get _ z.1 (hd p hp)), z.2⟩
noncomputable abbrev at0 (P : Params) (nd : Addr) (rv pv fv : Value) (t1 t2 t3 t4 : Tok) : Obj :=
  dictOf [⟨PyData.keyHash P (Str.ofString "_node2info"), .str (Str.ofString "_node2info") t1, .ref nd⟩, ⟨PyData.keyHash P (Str.ofString "_ready_nodes"), .str (Str.ofString "_ready_nodes") t2, rv⟩,
    ⟨PyData.keyHash P (Str.ofString "_npassedout"), .str (Str.ofString "_npassedout") t3, pv⟩, ⟨PyData.keyHash P (Str.ofString "_nfinished"), .str (Str.ofString "_nfinished") t4, fv⟩] 4
local macro_rules | `(tactic| walk_at "eval Name") => `(tactic| (k_dflt (refine' ld ?k1 ?k2 ?_; (case k1 => k_asm); (case k2 => first | exact rfl | assumption); k_whole)))
local macro_rules | `(tactic| k_room) => `(tactic| ((try simp only [depth_under_make, depth_under_kw, depth_in1, depth_deeper, depth_caller]); dsimp only [recursionLimit] at *; omega))
local macro_rules | `(tactic| walk_at "call builtin:dict.get") => `(tactic| refine stop_in ?_)
local macro_rules | `(tactic| walk_at "getMethod ref") => `(tactic| ((with_reducible show wpAny _ _ (getMethod _ (Str.ofString "get") _) _ _ _); refine stop_in ?_))
local macro_rules | `(tactic| walk_at "setItem ref int") => `(tactic| refine stop_in ?_)
theorem getinfo_call {w : World} {A : Around} {s : Shared} {mean : ExcName → Option Value} {mg mb : Str → Option Value} {Q E : Value → Shared → Prop} {base g : Heap} {outer : List Env}
    {sa dx nd : Addr} {od : Obj} {rv pv fv : Value} {t1 t2 t3 t4 : Tok} {kvs : List (Int × Value)} {k : Int} {tk : Tok}
    (hh : A.handled = none) (B : Below A base outer g) (X : Frag.In (Mine.hd.heap_39 w.params) g) (T : Top Mine.hd.view_39 (looseW Mine.hd.view_39 [Str.ofString "_NodeInfo"]) mean mg mb g) (st : g.StaysIn s.heap) (hgs : g.objs.size ≤ s.heap.objs.size)
    (N : NB g s.heap [(sa, instObj 144 dx), (dx, at0 w.params nd rv pv fv t1 t2 t3 t4), (nd, od)]) (hd : od.IsDictOf (intKind PySem.Challenge.rw_nb0242_01.row.prog w) kvs) (hsm : (nd == sysModules) = false) (hnx : nd ≠ dx) (hns' : nd ≠ sa) (hsx : sa ≠ dx)
    (hdp : A.depth + 20 < 1000) (hun : A.units + 200 < 9900)
    (hlen : kvs.length ≤ 1000) (hrefs : ∀ v, valueAt kvs k = some v → ∃ ia, v = .ref ia)
    (old : ∀ ia, valueAt kvs k = some (.ref ia) → ∀ h' tk', g.StaysIn h' → NB g h' [(sa, instObj 144 dx), (dx, at0 w.params nd rv pv fv t1 t2 t3 t4), (nd, od)] → Q (.ref ia) { s with heap := h', toks := tk' })
    (new : valueAt kvs k = none → ∀ h' tk' ia ida la od' nt, g.StaysIn h' → od'.IsDictOf (intKind PySem.Challenge.rw_nb0242_01.row.prog w) (stored kvs k (.ref ia)) →
      NB g h' [(sa, instObj 144 dx), (dx, at0 w.params nd rv pv fv t1 t2 t3 t4), (nd, od'), (ia, { cls := .ref 47, dict := some ida, data := .plain, slots := #[some (.int k tk), some (.int 0 nt), some (.ref la)] }), (ida, dictOf [] 0), (la, W.listOf #[] 0)] →
      [sa, dx, nd, ia, ida, la].Nodup → Q (.ref ia) { s with heap := h', toks := tk' }) :
    wpAny (model PySem.Challenge.rw_nb0242_01.row.prog w) A (call (.ref 87) [.ref sa, .int k tk]) Q E s := by
  revert X T; w_top off; k_fill; intro X T
  refine hide fun G' back' => ?_
  obtain ⟨hd, dp, fr, gd, un⟩ := A
  refine back' ?_
  clear back' G'
  have e1 : fr = some outer := B.stack
  have e2 : hd = none := hh
  subst e1 e2
  refine wpAny_call ?_
  refine codeAny_call_def (binds := [(Str.ofString "self", .ref sa), (Str.ofString "node", .int k tk)]) (by dsimp only [recursionLimit] at *; omega) ((X.keeps st) 87 _ (by k_is)) rfl (T.nolimit.keeps st) (codeRec_of (X.keeps st) (by k_is)) rfl (BindsTo.of_eq rfl) (by decide) (locs rfl) (fun h₁ hns keep => ?_) rfl rfl rfl
  have F : Fr g s.heap.objs.size h₁ _ := ⟨hns, fun b o e => keep b o (st b o e), hgs⟩
  have N₁ := N.news keep rfl
  clear N
  have hI : (intKind PySem.Challenge.rw_nb0242_01.row.prog w).is k (.int k tk) = true := intKind_is _ _ _ _
  have hmem : (nd, od) ∈ [(sa, instObj 144 dx), (dx, at0 w.params nd rv pv fv t1 t2 t3 t4), (nd, od)] := by simp
  k_steps
  refine Stop.out (kdg_method N₁ hmem hd ?_)
  k_steps
  cases hv : valueAt kvs k with
  | some v =>
    obtain ⟨ia, rfl⟩ := hrefs v hv
    refine Stop.out (kdg_get1 N₁ hmem hd hsm hI _ hv ?_)
    dsimp only [Option.getD_some]
    k_steps
    rename Fr _ _ _ _ => F'
    rename News _ _ _ _ => N'
    exact old ia hv _ _ F'.keep (NB.of N')
  | none =>
    refine Stop.out (kdg_get1 N₁ hmem hd hsm hI _ hv ?_)
    dsimp only [Option.getD_none]
    k_steps
    rename News g s.heap.objs.size _ _ => Nk
    rename Fr g s.heap.objs.size _ _ => Fk
    dsimp only at Nk Fk ⊢
    rename sa < _ ∧ dx < _ ∧ nd < _ => q1
    rename _ < _ ∧ _ < _ ∧ sa < _ ∧ dx < _ ∧ nd < _ => q3
    rename (@LT.lt Nat _ _ _) => q2
    refine Stop.out (kda_set Fk Nk (.tail ?_ (.tail ?_ (.tail ?_ (.tail ?_ (.tail ?_ (.head (fun _ hp => nomatch hp))))))) hd hI (by rw [sizeLine_eq]; omega) fun h' o' F' N' hd' => ?_)
    · exact Nat.ne_of_gt q3.2.2.2.2
    · exact Nat.ne_of_gt (Nat.lt_trans q1.2.2 q2)
    · exact Nat.ne_of_gt q1.2.2
    · exact Ne.symm hns'
    · exact Ne.symm hnx
    clear Fk Nk
    k_steps
    rename Fr g s.heap.objs.size _ _ => Fz
    rename News g s.heap.objs.size _ _ => Nz
    refine new hv _ _ _ _ _ o' _ Fz.keep hd' (nb_cons (nb_mem Nz (.tail _ (.tail _ (.tail _ (.head _))))) (nb_cons (nb_mem Nz (.tail _ (.tail _ (.tail _ (.tail _ (.head _)))))) (nb_cons (nb_mem Nz (.tail _ (.tail _ (.tail _ (.tail _ (.tail _ (.head _))))))) (nb_cons (nb_mem Nz (.tail _ (.head _))) (nb_cons (nb_mem Nz (.tail _ (.tail _ (.head _)))) (nb_cons (nb_mem Nz (.head _)) nb_nil)))))) ?_
    obtain ⟨a1, a2, a3⟩ := q1
    refine hide fun G' back' => ?_
    obtain ⟨b1, b2, b3, b4, b5⟩ := q3
    refine back' ?_
    clear back' G'
    simp only [List.nodup_cons, List.mem_cons, List.not_mem_nil, or_false, not_or, not_false_eq_true, List.nodup_nil, and_true]
    refine ⟨⟨hsx, Ne.symm hns', ?_, ?_, ?_⟩, ⟨Ne.symm hnx, ?_, ?_, ?_⟩, ⟨?_, ?_, ?_⟩, ⟨?_, ?_⟩, ?_⟩
    all_goals first | exact Nat.ne_of_lt (by assumption) | exact Nat.ne_of_gt (by assumption) | exact Nat.ne_of_lt (Nat.lt_trans (by assumption) q2)
end Mine
end
section
open PySem PySem.W PySem.W.X PySem.Calls PyProof.Rows
set_option Elab.async false
set_option maxRecDepth 100000
set_option maxHeartbeats 1000000
namespace Mine
/-- one node of a sorter, as it lies -/
structure NR where
  key : Int
  kt : Tok
  ia : Addr
  ida : Addr
  la : Addr
  np : Int
  nt : Tok
  sv : List Value
  sn : Nat
  ss : List Int
noncomputable abbrev NR.info (r : NR) : Obj := { cls := .ref 47, dict := some r.ida, data := .plain, slots := #[some (.int r.key r.kt), some (.int r.np r.nt), some (.ref r.la)] }
noncomputable abbrev NR.lst (r : NR) : Obj := W.listOf r.sv.toArray r.sn
noncomputable def NR.led (r : NR) : List (Addr × Obj) := [(r.ia, r.info), (r.ida, dictOf [] 0), (r.la, r.lst)]
noncomputable def recsN (rs : List NR) : List (Addr × Obj) := rs.flatMap NR.led
noncomputable def kv (rs : List NR) : List (Int × Value) := rs.map fun r => (r.key, Value.ref r.ia)
noncomputable def absG (rs : List NR) : List (Int × Int × List Int) := rs.map fun r => (r.key, r.np, r.ss)
noncomputable def getP (g : List (Int × Int × List Int)) (k : Int) : List (Int × Int × List Int) := if k ∈ g.map (·.1) then g else g ++ [(k, 0, [])]
noncomputable def incP (g : List (Int × Int × List Int)) (k d : Int) : List (Int × Int × List Int) := g.map fun x => if x.1 = k then (x.1, x.2.1 + d, x.2.2) else x
noncomputable def sucP (g : List (Int × Int × List Int)) (p n : Int) : List (Int × Int × List Int) := g.map fun x => if x.1 = p then (x.1, x.2.1, x.2.2 ++ [n]) else x
noncomputable def addP (g : List (Int × Int × List Int)) (k : Int) (ps : List Int) : List (Int × Int × List Int) := ps.foldl (fun g p => sucP (getP g p) p k) (incP (getP g k) k ps.length)
noncomputable abbrev own3 (sa dx nd : Addr) (at' od : Obj) : List (Addr × Obj) := [(sa, instObj 144 dx), (dx, at'), (nd, od)]
structure WF (sa dx nd : Addr) (ext : List (Addr × Obj)) (rs : List NR) : Prop where
  adr : (sa :: dx :: nd :: ((recsN rs ++ ext).map (·.1))).Nodup
  keys : (rs.map (·.key)).Nodup
  isInts : ∀ r ∈ rs, IntsAre r.sv r.ss
  size : ∀ r ∈ rs, r.ss.length ≤ 500
theorem recsN_app (a b : List NR) : recsN (a ++ b) = recsN a ++ recsN b := by simp [recsN]
theorem recsN_cons (r : NR) (b : List NR) : recsN (r :: b) = r.led ++ recsN b := by simp [recsN]
theorem valueAt_kv {rs : List NR} {k : Int} {v : Value} (h : valueAt (kv rs) k = some v) : ∃ pre r post, rs = pre ++ r :: post ∧ r.key = k ∧ v = .ref r.ia := by
  unfold valueAt kv at h
  rw [List.find?_map] at h
  simp only [Option.map_map] at h
  obtain ⟨r, hr, rfl⟩ := Option.map_eq_some_iff.mp h
  obtain ⟨pre, post, e⟩ := List.append_of_mem (List.mem_of_find?_eq_some hr)
  have := List.find?_some hr
  exact ⟨pre, r, post, e, by simpa using this, rfl⟩
theorem valueAt_none {rs : List NR} {k : Int} (h : valueAt (kv rs) k = none) : ∀ r ∈ rs, r.key ≠ k := by
  unfold valueAt kv at h
  rw [Option.map_eq_none_iff, List.find?_eq_none] at h
  intro r hr e
  exact h (r.key, .ref r.ia) (List.mem_map.mpr ⟨r, hr, rfl⟩) (by simpa using e)
theorem valueAt_some {rs : List NR} {k : Int} (h : valueAt (kv rs) k ≠ none) : k ∈ rs.map (·.key) := by
  cases e : valueAt (kv rs) k with
  | none => exact absurd e h
  | some v => obtain ⟨pre, r, post, rfl, hk, _⟩ := valueAt_kv e; subst hk; simp
theorem stored_kv {rs : List NR} {k : Int} {n : NR} (h : valueAt (kv rs) k = none) (hk : n.key = k) : stored (kv rs) k (.ref n.ia) = kv (rs ++ [n]) := by
  have hn := valueAt_none h
  unfold stored
  rw [if_neg]
  · subst hk; simp [kv]
  · rw [List.any_eq_true]
    rintro ⟨x, hx, e⟩
    obtain ⟨r, hr, rfl⟩ := List.mem_map.mp hx
    exact hn r hr (by simpa using e)
theorem abs_keys (rs : List NR) : (absG rs).map (·.1) = rs.map (·.key) := by simp [absG]
section
variable {w : World} {mean : ExcName → Option Value} {mg mb : Str → Option Value}
theorem getinfo_in {A₀ A : Around} {s : Shared} {Q E : Value → Shared → Prop} {base g : Heap} {outer : List Env} {env : Env} {L : Addr} {m : Str → Option Value}
    {sa dx nd : Addr} {od : Obj} {rv pv fv : Value} {t1 t2 t3 t4 : Tok} {rs : List NR} {ext : List (Addr × Obj)} {k : Int} {tk : Tok}
    (hh : A.handled = none) (B : Below A₀ base outer g) (F : Fr g L s.heap m) (hA : A.frames = some (env :: outer)) (hf : env.frame = some L) (hke : env.scope.kind = .function)
    (X : Frag.In (Mine.hd.heap_39 w.params) g) (T : Top Mine.hd.view_39 (looseW Mine.hd.view_39 [Str.ofString "_NodeInfo"]) mean mg mb g)
    (N : News g L s.heap (own3 sa dx nd (at0 w.params nd rv pv fv t1 t2 t3 t4) od ++ (recsN rs ++ ext))) (hd : od.IsDictOf (intKind PySem.Challenge.rw_nb0242_01.row.prog w) (kv rs)) (hsm : (nd == sysModules) = false) (wf : WF sa dx nd ext rs)
    (hdp : A.depth + 20 < 1000) (hun : A.units + 200 < 9900) (hlen : rs.length ≤ 900)
    (ret : ∀ h' tk' od' rs' pre r post, rs' = pre ++ r :: post → r.key = k → absG rs' = getP (absG rs) k → rs'.length ≤ rs.length + 1 → Fr g L h' m → News g L h' (own3 sa dx nd (at0 w.params nd rv pv fv t1 t2 t3 t4) od' ++ (recsN rs' ++ ext)) → od'.IsDictOf (intKind PySem.Challenge.rw_nb0242_01.row.prog w) (kv rs') → WF sa dx nd ext rs' → Q (.ref r.ia) { s with heap := h', toks := tk' }) :
    wpAny (model PySem.Challenge.rw_nb0242_01.row.prog w) A (call (.ref 87) [.ref sa, .int k tk]) Q E s := by
  have N3 : News g L s.heap (own3 sa dx nd (at0 w.params nd rv pv fv t1 t2 t3 t4) od) := fun p hp => N p (List.mem_append_left _ hp)
  obtain ⟨FG, BG, st, _⟩ := groundX (R := fun _ _ => True) B F N3 hA hf hke
  have hnd := wf.adr
  simp only [List.nodup_cons, List.mem_cons, not_or] at hnd
  obtain ⟨⟨n1, n2, n3⟩, ⟨n4, n5⟩, n6, n7⟩ := hnd
  have hoth : ∀ p ∈ recsN rs ++ ext, p.1 ∉ (own3 sa dx nd (at0 w.params nd rv pv fv t1 t2 t3 t4) od).map (·.1) := by
    intro p hp q
    have hp' : p.1 ∈ (recsN rs ++ ext).map (·.1) := List.mem_map_of_mem hp
    simp only [own3, List.map_cons, List.map_nil, List.mem_cons, List.not_mem_nil, or_false] at q
    rcases q with q | q | q
    · exact n3 (q ▸ hp')
    · exact n5 (q ▸ hp')
    · exact n6 (q ▸ hp')
  refine getinfo_call hh BG (X.keeps st) (T.keeps st) (fun b o e => of_hideAll _ e) (Nat.le_of_eq (hideAll_size _ _)) (fun p hp => ⟨(N3 p hp).1, hideAll_none _ (List.mem_map_of_mem hp)⟩) hd hsm (Ne.symm n4) (Ne.symm n2) n1 hdp hun (by simpa [kv] using by omega) (fun v hv => ?_) ?_ ?_
  · obtain ⟨_, r, _, _, _, rfl⟩ := valueAt_kv hv
    exact ⟨_, rfl⟩
  · intro ia hv h' tk' st' N'
    obtain ⟨pre, r, post, e, hk, ei⟩ := valueAt_kv hv
    obtain ⟨F', N''⟩ := back F N hoth st' N'
    cases ei
    refine ret h' tk' od rs pre r post e hk ?_ (Nat.le_succ _) F' N'' hd wf
    unfold getP
    rw [if_pos (by rw [abs_keys]; exact valueAt_some (by rw [hv]; exact fun z => nomatch z))]
  · intro hv h' tk' ia ida la od' nt st' hd' N' hnd6
    obtain ⟨F', N''⟩ := back F N hoth st' N'
    let n : NR := ⟨k, tk, ia, ida, la, 0, nt, [], 0, []⟩
    have hkeys := valueAt_none hv
    have hnew : ∀ b ∈ [ia, ida, la], b ∉ (recsN rs ++ ext).map (·.1) := by
      intro b hb q
      obtain ⟨p, hp, rfl⟩ := List.mem_map.mp q
      have hg : (hideAll s.heap ((own3 sa dx nd (at0 w.params nd rv pv fv t1 t2 t3 t4) od).map (·.1))).get? p.1 = some p.2 := hideAll_get _ (N p (List.mem_append_right _ hp)).1 (hoth p hp)
      simp only [List.mem_cons, List.not_mem_nil, or_false] at hb
      rcases hb with hb | hb | hb
      · have := (N' (ia, _) (.tail _ (.tail _ (.tail _ (.head _))))).2
        rw [hb] at hg; rw [hg] at this; cases this
      · have := (N' (ida, _) (.tail _ (.tail _ (.tail _ (.tail _ (.head _)))))).2
        rw [hb] at hg; rw [hg] at this; cases this
      · have := (N' (la, _) (.tail _ (.tail _ (.tail _ (.tail _ (.tail _ (.head _))))))).2
        rw [hb] at hg; rw [hg] at this; cases this
    refine ret h' tk' od' (rs ++ [n]) rs n [] rfl rfl ?_ (by simp) F' (fun p hp => N'' p ?_) (stored_kv (n := n) hv rfl ▸ hd') ?_
    · unfold getP
      rw [if_neg (by rw [abs_keys]; exact fun q => by obtain ⟨r, hr, e⟩ := List.mem_map.mp q; exact hkeys r hr e)]
      simp [absG, n]
    · show p ∈ (own3 sa dx nd (at0 w.params nd rv pv fv t1 t2 t3 t4) od' ++ n.led) ++ (recsN rs ++ ext)
      rw [recsN_app, recsN_cons] at hp
      rcases List.mem_append.mp hp with hp | hp
      · exact List.mem_append_left _ (List.mem_append_left _ hp)
      · rcases List.mem_append.mp hp with hp | hp
        · rcases List.mem_append.mp hp with hp | hp
          · exact List.mem_append_right _ (List.mem_append_left _ hp)
          · rcases List.mem_append.mp hp with hp | hp
            · exact List.mem_append_left _ (List.mem_append_right _ hp)
            · exact nomatch hp
        · exact List.mem_append_right _ (List.mem_append_right _ hp)
    · refine ⟨?_, ?_, ?_, ?_⟩
      · have hperm : (sa :: dx :: nd :: ((recsN (rs ++ [n]) ++ ext).map (·.1))).Perm ([sa, dx, nd, ia, ida, la] ++ (recsN rs ++ ext).map (·.1)) := by
          rw [recsN_app, recsN_cons]
          show (sa :: dx :: nd :: _).Perm (sa :: dx :: nd :: ([ia, ida, la] ++ (recsN rs ++ ext).map (fun x : Addr × Obj => x.1)))
          refine .cons _ (.cons _ (.cons _ ?_))
          simp only [List.map_append]
          show ((recsN rs).map (fun x : Addr × Obj => x.1) ++ ([ia, ida, la] ++ []) ++ ext.map (fun x : Addr × Obj => x.1)).Perm ([ia, ida, la] ++ ((recsN rs).map (fun x : Addr × Obj => x.1) ++ ext.map (fun x : Addr × Obj => x.1)))
          rw [List.append_nil, ← List.append_assoc]
          exact List.Perm.append_right _ List.perm_append_comm
        rw [hperm.nodup_iff, List.nodup_append]
        refine ⟨hnd6, n7, fun a ha b hb e => ?_⟩
        subst e
        simp only [List.mem_cons, List.not_mem_nil, or_false] at ha
        rcases ha with rfl | rfl | rfl | ha
        · exact n3 hb
        · exact n5 hb
        · exact n6 hb
        · exact hnew a (by simpa using ha) hb
      · rw [List.map_append, List.nodup_append]
        refine ⟨wf.keys, by simp, fun a ha b hb e => ?_⟩
        obtain ⟨r, hr, rfl⟩ := List.mem_map.mp ha
        simp only [List.map_cons, List.map_nil, List.mem_singleton] at hb
        exact hkeys r hr (e.trans hb)
      · intro r hr
        rcases List.mem_append.mp hr with hr | hr
        · exact wf.isInts r hr
        · rw [List.mem_singleton.mp hr]; exact .nil
      · intro r hr
        rcases List.mem_append.mp hr with hr | hr
        · exact wf.size r hr
        · rw [List.mem_singleton.mp hr]; show (0 : Nat) ≤ 500; omega
end
end Mine
end
section
open PySem PySem.W PySem.W.X PySem.Calls PyProof.Rows
set_option Elab.async false
set_option maxRecDepth 100000
set_option maxHeartbeats 1000000
namespace Mine
local macro_rules | `(tactic| walk_at "no such key") => `(tactic| fail)
theorem call_star {prog : Program} {w : World} {A : Around} {s : Shared} {R : Result → Shared → Prop} {a : Addr} {o : Obj} {fd : FuncData} {body : List Stmt} {args : Args} {pv : List Value} {binds : Value → List (Str × Value)}
    (hroom : A.depth < recursionLimit) (ho : s.heap.get? a = some o) (hdata : o.data = .func fd) (hlim : s.heap.NoLimit) (hcd : s.heap.CodeRec fd.code fd.qualname)
    (hbody : fd.body = .stmts body) (hb : bindArgs fd args = (newTuple pv >>= fun tv => pure (binds tv))) (hpv : pv.length ≤ 1000)
    (hcell : ∀ x ∈ fd.scope.names, x.2 ≠ .cell) (hloc : ∀ tv, ∀ x ∈ binds tv, fd.scope.names.lookup x.1 = some .local)
    (h : ∀ h₀, h₀.Ns (s.heap.objs.size + 1) (fun x => (binds (.ref s.heap.objs.size)).reverse.lookup x) → (∀ b o, s.heap.get? b = some o → h₀.get? b = some o) → h₀.get? s.heap.objs.size = some { cls := .type "tuple", data := .seq pv.toArray } →
      wpAny (model prog w) (A.deeper (callEnv fd (s.heap.objs.size + 1) a)) (execs body (callEnv fd (s.heap.objs.size + 1) a)) (fun f s' => R (.ok (.ret (match f with | .ret v => v | _ => .none))) s')
        (fun e s' => wpAny (model prog w) (A.deeper (callEnv fd (s.heap.objs.size + 1) a)) (leaving (callEnv fd (s.heap.objs.size + 1) a) e) (fun _ s'' => R (.error e) s'') (fun e' s'' => R (.error e') s'') s')
        { s with heap := h₀, toks := s.toks + (binds (.ref s.heap.objs.size)).length })
    (hco : fd.scope.isCoroutine = false := by rfl) (hgen : fd.scope.isGenerator = false := by rfl) (hk : fd.scope.kind = .function := by rfl) :
    codeAny (model prog w) A (.call (.ref a) args) R s := by
  refine codeAny_call_function hroom ho hdata hco hgen hbody hcd ?_
  rw [hb]
  refine wpAny_bind (wpAny_newObj_type ?_ (by show pv.toArray.size ≤ sizeLine; rw [List.size_toArray, sizeLine_eq]; omega))
  refine wpAny_pure ?_
  have hsz : (s.heap.push { cls := .type "tuple", data := .seq pv.toArray }).objs.size = s.heap.objs.size + 1 := Heap.size_push _ _
  refine wpAny_newFunctionEnv hcell (hloc _) (fun h₀ hns₀ hsb₀ => ⟨(hlim.keeps fun b o e => Heap.get?_push_of_some _ e).fresh _ hsb₀, ?_⟩) hk
  dsimp only at hns₀ hsb₀ ⊢
  rw [hsz] at hns₀ hsb₀ ⊢
  refine codeAny_func (h h₀ hns₀ (fun b o e => ?_) ?_)
  · exact hsb₀.extBut b o (Nat.ne_of_lt (Nat.lt_succ_of_lt (Heap.lt_size e))) (Heap.get?_push_of_some _ (Heap.get?_push_of_some _ e))
  · exact hsb₀.extBut _ _ (Nat.ne_of_lt (Nat.lt_succ_self _)) (Heap.get?_push_of_some _ (Heap.get?_push_size _ rfl))
noncomputable abbrev restN (sa dx nd : Addr) (at' od : Obj) (ext : List (Addr × Obj)) (pre post : List NR) : List (Addr × Obj) := own3 sa dx nd at' od ++ (recsN pre ++ (recsN post ++ ext))
theorem led_split {g h : Heap} {L sa dx nd : Addr} {at' od : Obj} {ext : List (Addr × Obj)} {pre post : List NR} {r : NR} (N : News g L h (own3 sa dx nd at' od ++ (recsN (pre ++ r :: post) ++ ext))) :
    News g L h ((r.ia, r.info) :: (r.ida, dictOf [] 0) :: (r.la, r.lst) :: restN sa dx nd at' od ext pre post) := fun p hp => N p (by
  rw [recsN_app, recsN_cons]
  have hp : p ∈ r.led ++ (own3 sa dx nd at' od ++ (recsN pre ++ (recsN post ++ ext))) := hp
  simp only [List.mem_append] at hp ⊢
  rcases hp with h | h | h | h | h
  · exact .inr (.inl (.inr (.inl h)))
  · exact .inl h
  · exact .inr (.inl (.inl h))
  · exact .inr (.inl (.inr (.inr h)))
  · exact .inr (.inr h))
theorem led_join {g h : Heap} {L sa dx nd : Addr} {at' od : Obj} {ext : List (Addr × Obj)} {pre post : List NR} {r : NR} (N : News g L h ((r.ia, r.info) :: (r.ida, dictOf [] 0) :: (r.la, r.lst) :: restN sa dx nd at' od ext pre post)) :
    News g L h (own3 sa dx nd at' od ++ (recsN (pre ++ r :: post) ++ ext)) := fun p hp => N p (by
  rw [recsN_app, recsN_cons] at hp
  show p ∈ r.led ++ (own3 sa dx nd at' od ++ (recsN pre ++ (recsN post ++ ext)))
  simp only [List.mem_append] at hp ⊢
  rcases hp with h | (h | h | h) | h
  · exact .inr (.inl h)
  · exact .inr (.inr (.inl h))
  · exact .inl h
  · exact .inr (.inr (.inr (.inl h)))
  · exact .inr (.inr (.inr (.inr h))))
theorem wf_nodup {sa dx nd : Addr} {at' od : Obj} {ext : List (Addr × Obj)} {pre post : List NR} {r : NR} (wf : WF sa dx nd ext (pre ++ r :: post)) :
    (r.ia :: r.ida :: r.la :: (restN sa dx nd at' od ext pre post).map (fun x : Addr × Obj => x.1)).Nodup := by
  have h := wf.adr
  rw [recsN_app, recsN_cons] at h
  refine List.Perm.nodup ?_ h
  simp only [List.map_append]
  show ([sa, dx, nd] ++ ((recsN pre).map _ ++ ([r.ia, r.ida, r.la] ++ (recsN post).map _) ++ ext.map _)).Perm ([r.ia, r.ida, r.la] ++ ([sa, dx, nd] ++ ((recsN pre).map _ ++ ((recsN post).map _ ++ ext.map _))))
  generalize (recsN pre).map (fun x : Addr × Obj => x.1) = a
  generalize (recsN post).map (fun x : Addr × Obj => x.1) = b
  generalize ext.map (fun x : Addr × Obj => x.1) = c
  generalize [sa, dx, nd] = d
  generalize [r.ia, r.ida, r.la] = e
  have h1 : (d ++ (a ++ (e ++ b) ++ c)).Perm ((d ++ a) ++ (e ++ (b ++ c))) := by simp only [List.append_assoc]; exact .refl _
  have h2 : ((d ++ a) ++ (e ++ (b ++ c))).Perm (e ++ ((d ++ a) ++ (b ++ c))) := by
    have h3 : (((d ++ a) ++ e) ++ (b ++ c)).Perm ((e ++ (d ++ a)) ++ (b ++ c)) := List.Perm.append_right _ List.perm_append_comm
    simp only [List.append_assoc] at h3 ⊢
    exact h3
  exact h1.trans (h2.trans (by simp only [List.append_assoc]; exact .refl _))
theorem nodup_ne {a : Addr} {l : List (Addr × Obj)} (h : a ∉ l.map (fun x : Addr × Obj => x.1)) : ∀ p ∈ l, p.1 ≠ a := fun p hp e => h (e ▸ List.mem_map_of_mem hp)
/-- a node turned, its places kept -/
theorem wf_set {sa dx nd : Addr} {ext : List (Addr × Obj)} {pre post : List NR} {r r' : NR} (wf : WF sa dx nd ext (pre ++ r :: post)) (h1 : r'.key = r.key) (h2 : r'.ia = r.ia) (h3 : r'.ida = r.ida) (h4 : r'.la = r.la) (h5 : IntsAre r'.sv r'.ss) (h6 : r'.ss.length ≤ 500) : WF sa dx nd ext (pre ++ r' :: post) := by
  refine ⟨?_, ?_, ?_, ?_⟩
  · have h := wf.adr
    rw [recsN_app, recsN_cons] at h ⊢
    simp only [List.map_append] at h ⊢
    have e : r'.led.map (fun x : Addr × Obj => x.1) = r.led.map (fun x : Addr × Obj => x.1) := by simp [NR.led, h2, h3, h4]
    rw [e]; exact h
  · have h := wf.keys
    rw [List.map_append, List.map_cons] at h ⊢
    rw [h1]; exact h
  · intro q hq
    rcases List.mem_append.mp hq with hq | hq
    · exact wf.isInts q (List.mem_append_left _ hq)
    · rcases List.mem_cons.mp hq with rfl | hq
      · exact h5
      · exact wf.isInts q (List.mem_append_right _ (List.mem_cons_of_mem _ hq))
  · intro q hq
    rcases List.mem_append.mp hq with hq | hq
    · exact wf.size q (List.mem_append_left _ hq)
    · rcases List.mem_cons.mp hq with rfl | hq
      · exact h6
      · exact wf.size q (List.mem_append_right _ (List.mem_cons_of_mem _ hq))
theorem kv_set {pre post : List NR} {r r' : NR} (h1 : r'.key = r.key) (h2 : r'.ia = r.ia) : kv (pre ++ r' :: post) = kv (pre ++ r :: post) := by simp [kv, h1, h2]
theorem map_at {f : Int × Int × List Int → Int × Int × List Int} {pre post : List NR} {r r' : NR} {k : Int} (hk : r.key = k) (hkeys : ((pre ++ r :: post).map (·.key)).Nodup)
    (hf : ∀ x, x.1 ≠ k → f x = x) (hr : f (r.key, r.np, r.ss) = (r'.key, r'.np, r'.ss)) : absG (pre ++ r' :: post) = (absG (pre ++ r :: post)).map f := by
  have hn : ∀ q ∈ pre ++ post, q.key ≠ k := by
    intro q hq e
    rw [List.map_append, List.map_cons, List.nodup_append] at hkeys
    obtain ⟨a, b, c⟩ := hkeys
    rw [List.nodup_cons] at b
    rcases List.mem_append.mp hq with hq | hq
    · exact c q.key (List.mem_map_of_mem hq) r.key (List.mem_cons_self ..) (e.trans hk.symm)
    · exact b.1 (by rw [hk, ← e]; exact List.mem_map_of_mem hq)
  simp only [absG, List.map_append, List.map_cons, List.map_map]
  rw [hr]
  congr 1
  · apply List.map_congr_left
    intro q hq
    exact (hf _ (hn q (List.mem_append_left _ hq))).symm
  · congr 1
    apply List.map_congr_left
    intro q hq
    exact (hf _ (hn q (List.mem_append_right _ hq))).symm
theorem wf_ext {sa dx nd D : Addr} {at' od o : Obj} {rs : List NR} (wf : WF sa dx nd [] rs) (h : ∀ p ∈ own3 sa dx nd at' od ++ recsN rs, p.1 < D) : WF sa dx nd [(D, o)] rs := by
  refine ⟨?_, wf.keys, wf.isInts, wf.size⟩
  have h1 := wf.adr
  rw [List.append_nil] at h1
  rw [List.map_append, ← List.cons_append, ← List.cons_append, ← List.cons_append, List.nodup_append]
  refine ⟨h1, by simp, fun a ha b hb e => ?_⟩
  simp only [List.map_cons, List.map_nil, List.mem_singleton] at hb
  have : a < D := by
    have : a ∈ (own3 sa dx nd at' od ++ recsN rs).map (·.1) := by simpa using ha
    obtain ⟨p, hp, rfl⟩ := List.mem_map.mp this
    exact h p hp
  rw [e, hb] at this
  exact Nat.lt_irrefl _ this
theorem ints_at {vs : List Value} {ns : List Int} (h : IntsAre vs ns) : ∀ {i : Nat} {v : Value}, vs[i]? = some v → ∃ n t, ns[i]? = some n ∧ v = .int n t := by
  induction h with
  | nil => intro i v h; simp at h
  | cons n t _ ih =>
    intro i v h
    cases i with
    | zero => simp only [List.getElem?_cons_zero, Option.some.injEq] at h; exact ⟨_, _, by simp, h.symm⟩
    | succ i => rw [List.getElem?_cons_succ] at h; obtain ⟨a, b, c, d⟩ := ih h; exact ⟨a, b, by rw [List.getElem?_cons_succ]; exact c, d⟩
theorem led_inc {g h : Heap} {L sa dx nd : Addr} {at' od : Obj} {ext : List (Addr × Obj)} {pre post : List NR} {r : NR} {np : Int} {nt : Tok}
    (N : News g L h ((r.ia, { cls := .ref 47, dict := some r.ida, data := .plain, slots := #[some (.int r.key r.kt), some (.int np nt), some (.ref r.la)] }) :: (r.ida, dictOf [] 0) :: (r.la, W.listOf r.sv.toArray r.sn) :: restN sa dx nd at' od ext pre post)) :
    ∃ r' : NR, r'.key = r.key ∧ r'.ia = r.ia ∧ r'.ida = r.ida ∧ r'.la = r.la ∧ r'.sv = r.sv ∧ r'.ss = r.ss ∧ r'.np = np ∧ News g L h (own3 sa dx nd at' od ++ (recsN (pre ++ r' :: post) ++ ext)) :=
  ⟨{ r with np := np, nt := nt }, rfl, rfl, rfl, rfl, rfl, rfl, rfl, led_join (r := { r with np := np, nt := nt }) N⟩
theorem appendAt {prog : Program} {w : World} {A : Around} {E : Value → Shared → Prop} {s : Shared} {h₀ : Heap} {L : Addr} {m : Str → Option Value} {D : Addr} {its : List Value} {n : Nat} {x : Value} {Q : Value → Shared → Prop} {pre post : List (Addr × Obj)} (F : Fr h₀ L s.heap m) (N : News h₀ L s.heap (pre ++ (D, W.listOf its.toArray n) :: post)) (h1 : ∀ p ∈ pre, p.1 ≠ D) (h2 : ∀ p ∈ post, p.1 ≠ D) (hz : its.length ≤ 1000)
    (h : ∀ h', Fr h₀ L h' m → News h₀ L h' (pre ++ (D, W.listOf (its ++ [x]).toArray (n + 1)) :: post) → Q .none { s with heap := h' }) : wpAny (model prog w) A (call (.builtin "list.append") [.ref D, x]) Q E s := by
  have z := N (D, _) (List.mem_append_right _ (.head _))
  refine append_at (hsz := by rw [sizeLine_eq, List.size_toArray]; omega) z.1 fun h' hs ho' => ?_
  have e : its.toArray.push x = (its ++ [x]).toArray := by simp
  rw [e] at ho'
  obtain ⟨F', N'⟩ := news_put F N h1 h2 hs ho'
  exact h h' F' N'
theorem ints_snoc {vs : List Value} {ns : List Int} (h : IntsAre vs ns) (n : Int) (t : Tok) : IntsAre (vs ++ [.int n t]) (ns ++ [n]) := h.append (.cons _ _ .nil)
noncomputable def sucs (k : Int) (g : List (Int × Int × List Int)) (l : List Int) : List (Int × Int × List Int) := l.foldl (fun g p => sucP (getP g p) p k) g
theorem sucs_take {k : Int} {g : List (Int × Int × List Int)} {ps : List Int} {i : Nat} {p : Int} (h : ps[i]? = some p) : sucs k g (ps.take (i + 1)) = sucP (getP (sucs k g (ps.take i)) p) p k := by
  rw [List.take_add_one, h]
  simp [sucs, List.foldl_append]
theorem getP_len {g : List (Int × Int × List Int)} {k : Int} {B : Nat} (h : ∀ x ∈ g, x.2.2.length ≤ B) : ∀ x ∈ getP g k, x.2.2.length ≤ B := by
  unfold getP
  split
  · exact h
  · intro x hx
    rcases List.mem_append.mp hx with hx | hx
    · exact h x hx
    · rw [List.mem_singleton.mp hx]; exact Nat.zero_le _
theorem incP_len {g : List (Int × Int × List Int)} {k d : Int} {B : Nat} (h : ∀ x ∈ g, x.2.2.length ≤ B) : ∀ x ∈ incP g k d, x.2.2.length ≤ B := by
  intro x hx
  obtain ⟨y, hy, rfl⟩ := List.mem_map.mp hx
  have := h y hy
  split <;> exact this
theorem sucP_len {g : List (Int × Int × List Int)} {p n : Int} {B : Nat} (h : ∀ x ∈ g, x.2.2.length ≤ B) : ∀ x ∈ sucP g p n, x.2.2.length ≤ B + 1 := by
  intro x hx
  obtain ⟨y, hy, rfl⟩ := List.mem_map.mp hx
  have := h y hy
  split
  · simp only [List.length_append, List.length_cons, List.length_nil]; omega
  · omega
theorem sucs_len {k : Int} : ∀ (l : List Int) {g : List (Int × Int × List Int)} {B : Nat}, (∀ x ∈ g, x.2.2.length ≤ B) → ∀ x ∈ sucs k g l, x.2.2.length ≤ B + l.length := by
  intro l
  induction l with
  | nil => intro g B h; exact h
  | cons p l ih =>
    intro g B h x hx
    have := ih (sucP_len (p := p) (n := k) (getP_len (k := p) h)) x hx
    simp only [List.length_cons]; omega
theorem abs_len {rs : List NR} {B : Nat} (h : ∀ x ∈ absG rs, x.2.2.length ≤ B) : ∀ r ∈ rs, r.ss.length ≤ B := fun r hr => h (r.key, r.np, r.ss) (List.mem_map.mpr ⟨r, hr, rfl⟩)
theorem wf_more {sa dx nd I : Addr} {at' od oI : Obj} {ext : List (Addr × Obj)} {rs : List NR} (wf : WF sa dx nd ext rs) (h : ∀ p ∈ own3 sa dx nd at' od ++ (recsN rs ++ ext), p.1 ≠ I) : WF sa dx nd ((I, oI) :: ext) rs := by
  refine ⟨?_, wf.keys, wf.isInts, wf.size⟩
  have h1 := wf.adr
  have hI : I ∉ sa :: dx :: nd :: ((recsN rs ++ ext).map (·.1)) := by
    intro q
    have : I ∈ (own3 sa dx nd at' od ++ (recsN rs ++ ext)).map (·.1) := q
    obtain ⟨p, hp, e⟩ := List.mem_map.mp this
    exact h p hp e
  have h2 := List.nodup_cons.mpr ⟨hI, h1⟩
  refine List.Perm.nodup ?_ h2
  rw [List.map_append, List.map_append, List.map_cons]
  refine List.Perm.trans ?_ (.cons _ (.cons _ (.cons _ (List.perm_middle.symm))))
  exact ((List.Perm.swap ..).trans (.cons _ ((List.Perm.swap ..).trans (.cons _ (List.Perm.swap ..)))))
theorem wf_less {sa dx nd I : Addr} {oI : Obj} {ext : List (Addr × Obj)} {rs : List NR} (wf : WF sa dx nd ((I, oI) :: ext) rs) : WF sa dx nd ext rs ∧ ∀ at' od, ∀ p ∈ own3 sa dx nd at' od ++ (recsN rs ++ ext), p.1 ≠ I := by
  have h1 := wf.adr
  rw [List.map_append, List.map_cons] at h1
  have h2 : (I :: sa :: dx :: nd :: ((recsN rs).map (·.1) ++ ext.map (·.1))).Nodup := by
    refine List.Perm.nodup ?_ h1
    refine List.Perm.trans (.cons _ (.cons _ (.cons _ (List.perm_middle)))) ?_
    exact ((List.Perm.swap ..).trans (.cons _ ((List.Perm.swap ..).trans (.cons _ (List.Perm.swap ..))))).symm
  rw [List.nodup_cons] at h2
  refine ⟨⟨by rw [List.map_append]; exact h2.2, wf.keys, wf.isInts, wf.size⟩, fun at' od p hp e => h2.1 ?_⟩
  have : p.1 ∈ (own3 sa dx nd at' od ++ (recsN rs ++ ext)).map (·.1) := List.mem_map_of_mem hp
  rw [e, List.map_append, List.map_append] at this
  exact this
theorem led_in {g h : Heap} {L sa dx nd I : Addr} {at' od oI : Obj} {ext : List (Addr × Obj)} {rs : List NR} (N : News g L h ((I, oI) :: (own3 sa dx nd at' od ++ (recsN rs ++ ext)))) : News g L h (own3 sa dx nd at' od ++ (recsN rs ++ ((I, oI) :: ext))) := fun p hp => N p (by
  simp only [List.mem_append, List.mem_cons] at hp ⊢
  rcases hp with h | h | h | h
  · exact .inr (.inl h)
  · exact .inr (.inr (.inl h))
  · exact .inl h
  · exact .inr (.inr (.inr h)))
theorem led_out {g h : Heap} {L sa dx nd I : Addr} {at' od oI : Obj} {ext : List (Addr × Obj)} {rs : List NR} (N : News g L h (own3 sa dx nd at' od ++ (recsN rs ++ ((I, oI) :: ext)))) : News g L h ((I, oI) :: (own3 sa dx nd at' od ++ (recsN rs ++ ext))) := fun p hp => N p (by
  simp only [List.mem_append, List.mem_cons] at hp ⊢
  rcases hp with h | h | h | h
  · exact .inr (.inr (.inl h))
  · exact .inl h
  · exact .inr (.inl h)
  · exact .inr (.inr (.inr h)))
local macro_rules | `(tactic| walk_at "eval Name") => `(tactic| (k_dflt (refine' ld ?k1 ?k2 ?_; (case k1 => k_asm); (case k2 => first | exact rfl | assumption); k_whole)))
local macro_rules | `(tactic| k_room) => `(tactic| ((try simp only [depth_under_make, depth_under_kw, depth_in1, depth_deeper, depth_caller]); dsimp only [recursionLimit] at *; omega))
local macro_rules | `(tactic| walk_at "call ref") => `(tactic| ((with_reducible show wpAny _ _ (call (Value.ref _) _) _ _ _); refine stop_in ?_))
local macro_rules | `(tactic| k_all) => `(tactic| assumption)
local macro_rules | `(tactic| walk_at "getMethod ref") => `(tactic| ((with_reducible show wpAny _ _ (getMethod _ (Str.ofString "append") _) _ _ _); refine stop_in ?_))
local macro_rules | `(tactic| walk_at "call builtin:list.append") => `(tactic| refine stop_in ?_)
theorem add_call {w : World} {A : Around} {s : Shared} {mean : ExcName → Option Value} {mg mb : Str → Option Value} {Q E : Value → Shared → Prop} {base g : Heap} {outer : List Env}
    {sa dx nd : Addr} {od : Obj} {pv' fv : Value} {t1 t2 t3 t4 : Tok} {rs : List NR} {k : Int} {tkk : Tok} {pv : List Value} {ps : List Int}
    (hh : A.handled = none) (B : Below A base outer g) (X : Frag.In (Mine.hd.heap_39 w.params) g) (T : Top Mine.hd.view_39 (looseW Mine.hd.view_39 [Str.ofString "_NodeInfo"]) mean mg mb g) (st : g.StaysIn s.heap) (hgs : g.objs.size ≤ s.heap.objs.size)
    (N : NB g s.heap (own3 sa dx nd (at0 w.params nd .none pv' fv t1 t2 t3 t4) od ++ recsN rs)) (hd : od.IsDictOf (intKind PySem.Challenge.rw_nb0242_01.row.prog w) (kv rs)) (hsm : (nd == sysModules) = false) (wf : WF sa dx nd [] rs)
    (hdp : A.depth + 40 < 1000) (hun : A.units + 400 < 9900) (hlen : rs.length ≤ 800) (hpi : IntsAre pv ps) (hpl : ps.length ≤ 10) (hss : ∀ x ∈ absG rs, x.2.2.length ≤ 400)
    (hb : ∀ fd, (∃ o, (Mine.hd.heap_39 w.params).lookup 94 = some o ∧ o.data = .func fd) → bindArgs fd ⟨.ref sa :: .int k tkk :: pv, []⟩ = (newTuple pv >>= fun tv => pure [(Str.ofString "self", .ref sa), (Str.ofString "node", .int k tkk), (Str.ofString "predecessors", tv)]))
    (ret : ∀ h' tk' od' rs', absG rs' = addP (absG rs) k ps → rs'.length ≤ rs.length + 1 + ps.length → g.StaysIn h' → NB g h' (own3 sa dx nd (at0 w.params nd .none pv' fv t1 t2 t3 t4) od' ++ recsN rs') → od'.IsDictOf (intKind PySem.Challenge.rw_nb0242_01.row.prog w) (kv rs') → WF sa dx nd [] rs' → Q .none { s with heap := h', toks := tk' }) :
    wpAny (model PySem.Challenge.rw_nb0242_01.row.prog w) A (call (.ref 94) (.ref sa :: .int k tkk :: pv)) Q E s := by
  have X0 := X; have T0 := T
  revert X T; w_top off; k_fill; intro X T
  refine hide fun G' back' => ?_
  obtain ⟨hd', dp, fr, gd, un⟩ := A
  refine back' ?_
  clear back' G'
  have e1 : fr = some outer := B.stack
  have e2 : hd' = none := hh
  subst e1 e2
  refine wpAny_call ?_
  refine call_star (pv := pv) (binds := fun tv => [(Str.ofString "self", .ref sa), (Str.ofString "node", .int k tkk), (Str.ofString "predecessors", tv)]) (by dsimp only [recursionLimit] at *; omega) ((X.keeps st) 94 _ (by k_is)) rfl (T.nolimit.keeps st) (codeRec_of (X.keeps st) (by k_is)) rfl (hb _ ⟨_, by k_is, rfl⟩) (by rw [hpi.length]; omega) (by decide) (fun _ => locs rfl) (fun h₁ hns keep htup => ?_) rfl rfl rfl
  have F : Fr g (s.heap.objs.size + 1) h₁ _ := ⟨hns, fun b o e => keep b o (st b o e), Nat.le_succ_of_le hgs⟩
  have hgD : g.get? s.heap.objs.size = none := by
    cases e : g.get? s.heap.objs.size with
    | none => rfl
    | some o => exact absurd (Heap.lt_size e) (Nat.not_lt.mpr hgs)
  have hltN : ∀ p ∈ own3 sa dx nd (at0 w.params nd .none pv' fv t1 t2 t3 t4) od ++ recsN rs, p.1 < s.heap.objs.size := fun p hp => Heap.lt_size (N p hp).1
  have N₁ : News g (s.heap.objs.size + 1) h₁ (own3 sa dx nd (at0 w.params nd .none pv' fv t1 t2 t3 t4) od ++ (recsN rs ++ [(s.heap.objs.size, { cls := .type "tuple", data := .seq pv.toArray })])) := by
    intro p hp
    rw [← List.append_assoc] at hp
    rcases List.mem_append.mp hp with hp | hp
    · exact ⟨keep _ _ (N p hp).1, Nat.ne_of_lt (Nat.lt_succ_of_lt (hltN p hp)), (N p hp).2⟩
    · rw [List.mem_singleton.mp hp]
      exact ⟨htup, Nat.ne_of_lt (Nat.lt_succ_self _), hgD⟩
  have wf₁ : WF sa dx nd [(s.heap.objs.size, { cls := .type "tuple", data := .seq pv.toArray })] rs := wf_ext wf hltN
  clear N
  have hpx : ∀ (i : Nat) (v : Value), pv[i]? = some v → ∃ n t, ps[i]? = some n ∧ v = Value.int n t := fun i v h => ints_at hpi h
  have hplen := hpi.length
  generalize hDx : s.heap.objs.size = D at *
  k_steps
  refine Stop.out (getinfo_in rfl B F rfl rfl rfl X0 T0 N₁ hd hsm wf₁ (by simp only [depth_deeper] at *; omega) (by simp only [Around.deeper_units] at *; omega) (by omega) fun h₂ tk₂ od₂ rs₂ pre r post e₂ hk₂ ha₂ hl₂ F₂ N₂ hd₂ wf₂ => ?_)
  subst e₂
  have N₂' := led_split N₂
  have nd₂ := wf_nodup (at' := at0 w.params nd .none pv' fv t1 t2 t3 t4) (od := od₂) wf₂
  simp only [List.nodup_cons, List.mem_cons, not_or] at nd₂
  refine hide fun G' back' => ?_
  obtain ⟨⟨a1, a2, a3⟩, ⟨a4, a5⟩, a6, a7⟩ := nd₂
  refine back' ?_
  clear back' G'
  have b1 : ∀ p ∈ (r.ida, dictOf [] 0) :: (r.la, W.listOf r.sv.toArray r.sn) :: restN sa dx nd (at0 w.params nd .none pv' fv t1 t2 t3 t4) od₂ [(D, { cls := .type "tuple", data := .seq pv.toArray })] pre post, p.1 ≠ r.ia := List.forall_mem_cons.mpr ⟨Ne.symm a1, List.forall_mem_cons.mpr ⟨Ne.symm a2, nodup_ne a3⟩⟩
  have b2 := nodup_ne a5
  have b3 := nodup_ne a6
  clear N₁ F N₂
  dsimp only [NR.info, NR.lst] at N₂'
  k_steps
  rename Fr _ _ _ _ => F₃
  rename News _ _ _ _ => N₃
  have ht₃ := N₃.get (a := D) (o := { cls := .type "tuple", data := .seq pv.toArray }) (by simp)
  refine kun_lenT ⟨_, ht₃, rfl, 0, rfl⟩ (k := (ps.length : Nat)) (by simp [hpi.length]) (by omega) ?_
  dsimp only
  k_steps
  rename Fr _ _ _ _ => F₄
  rename News _ _ _ _ => N₄
  clear ht₃
  refine hide fun G' back' => ?_
  obtain ⟨r₁, ec1, ec2, ec3, ec4, ec5, ec6, ec7, N₅⟩ := led_inc N₄
  refine back' ?_
  clear back' G'
  have wf₅ : WF sa dx nd _ (pre ++ r₁ :: post) := wf_set wf₂ ec1 ec2 ec3 ec4 (by rw [ec5, ec6]; exact wf₂.isInts r (by simp)) (by rw [ec6]; exact wf₂.size r (by simp))
  have hd₅ : od₂.IsDictOf (intKind PySem.Challenge.rw_nb0242_01.row.prog w) (kv (pre ++ r₁ :: post)) := by rw [kv_set (r := r) (r' := r₁) ec1 ec2]; exact hd₂
  have ha₅ : absG (pre ++ r₁ :: post) = incP (getP (absG rs) k) k ps.length := by
    rw [← ha₂]
    exact map_at hk₂ wf₂.keys (fun x hx => if_neg hx) (by simp [ec1, ec6, ec7, hk₂])
  have hl₅ : (pre ++ r₁ :: post).length ≤ rs.length + 1 := by simpa using hl₂
  generalize pre ++ r₁ :: post = rs₅ at N₅ wf₅ hd₅ ha₅ hl₅
  clear N₄ wf₂ hd₂ ha₂ hl₂ a1 a2 a3 a4 a5 a6 a7 b1 b2 b3
  have hb₅ : ∀ x ∈ absG rs₅, x.2.2.length ≤ 400 := by rw [ha₅]; exact incP_len (getP_len hss)
  refine tup_inv (fun i m news => ∃ od' rs', m (Str.ofString "self") = some (.ref sa) ∧ m (Str.ofString "node") = some (.int k tkk) ∧ news = own3 sa dx nd (at0 w.params nd .none pv' fv t1 t2 t3 t4) od' ++ (recsN rs' ++ [(D, { cls := .type "tuple", data := .seq pv.toArray })]) ∧ od'.IsDictOf (intKind PySem.Challenge.rw_nb0242_01.row.prog w) (kv rs') ∧ WF sa dx nd [(D, { cls := .type "tuple", data := .seq pv.toArray })] rs' ∧ absG rs' = sucs k (absG rs₅) (ps.take i) ∧ rs'.length ≤ rs.length + 1 + i)
    rfl (N₅.get (List.mem_append_right _ (List.mem_append_right _ (.head _)))) (Nat.ne_of_lt (Nat.lt_succ_self _)) F₄ N₅ (.inr (List.mem_append_right _ (List.mem_append_right _ (.head _)))) ⟨_, _, rfl, rfl, rfl, hd₅, wf₅, rfl, hl₅⟩ ?_ ?_
  · intro I i v m₁ news₁ h tk' oI hi hv hp1 hoff hlo hoc F₆ N₆
    refine hide fun G' back' => ?_
    obtain ⟨od₆, rs₆, hm1, hm2, rfl, hd₆, wf₆, ha₆, hl₆⟩ := hp1
    refine back' ?_
    clear back' G'
    refine hideQ fun Q₃ back₃ => ?_
    simp only [List.size_toArray] at hi
    refine hide fun G' back' => ?_
    obtain ⟨p, tp, hp, rfl⟩ := hpx i v (by simpa using hv)
    refine back' ?_
    clear back' G'
    have hb₆ : ∀ x ∈ absG rs₆, x.2.2.length ≤ 400 + i := by
      rw [ha₆]; intro x hx
      have := sucs_len _ hb₅ x hx
      rw [List.length_take] at this; omega
    have wf₇ := wf_more (oI := oI) wf₆ hoff
    have N₇ := led_in N₆
    k_steps
    refine Stop.out (getinfo_in rfl B F₆ rfl rfl rfl X0 T0 N₇ hd₆ hsm wf₇ (by simp only [depth_deeper] at *; omega) (by simp only [Around.deeper_units] at *; omega) (by omega) fun h₂ tk₂ od₂ rs₂ pre r post e₂ hk₂ ha₂ hl₂ F₂ N₂ hd₂ wf₂ => ?_)
    subst e₂
    have N₂' := led_split N₂
    have nd₂ := wf_nodup (at' := at0 w.params nd .none pv' fv t1 t2 t3 t4) (od := od₂) wf₂
    simp only [List.nodup_cons, List.mem_cons, not_or] at nd₂
    refine hide fun G' back' => ?_
    obtain ⟨⟨a1, a2, a3⟩, ⟨a4, a5⟩, a6, a7⟩ := nd₂
    refine back' ?_
    clear back' G'
    have hnp := abs_len (rs := pre ++ r :: post) (B := 400 + i) (by rw [ha₂]; exact getP_len hb₆) r (by simp)
    have hir := wf₂.isInts r (by simp)
    clear N₆ N₇ F₆ N₂
    dsimp only [NR.info, NR.lst] at N₂'
    k_steps
    rename Fr _ _ _ _ => F₈
    rename News _ _ _ _ => N₈
    refine Stop.out (meth (N₈.get (.tail _ (.tail _ (.head _)))) PySem.F.plainAttrs_list PySem.F.slot_list_append PySem.F.type_list_append ?_)
    k_steps
    refine Stop.out (appendAt (pre := [_, _]) F₈ N₈ ?_ (nodup_ne a6) (by rw [hir.length]; omega) fun h₉ F₉ N₉ => ?_)
    · intro q hq
      rcases List.mem_cons.mp hq with rfl | hq
      · exact a2
      · rw [List.mem_singleton.mp hq]; exact a4
    clear F₈ N₈
    dsimp only
    k_steps
    rename Fr _ _ _ _ => Fx
    rename News _ _ _ _ => Nx
    let r₁ : NR := { r with sv := r.sv ++ [.int k tkk], sn := r.sn + 1, ss := r.ss ++ [k] }
    have Ny := led_join (r := r₁) Nx
    have wfy : WF sa dx nd _ (pre ++ r₁ :: post) := wf_set wf₂ rfl rfl rfl rfl (ints_snoc hir k tkk) (by show (r.ss ++ [k]).length ≤ 500; rw [List.length_append]; show _ + 1 ≤ 500; omega)
    have hdy : od₂.IsDictOf (intKind PySem.Challenge.rw_nb0242_01.row.prog w) (kv (pre ++ r₁ :: post)) := by rw [kv_set (r := r) (r' := r₁) rfl rfl]; exact hd₂
    have hay : absG (pre ++ r₁ :: post) = sucP (getP (absG rs₆) p) p k := by
      rw [← ha₂]
      exact map_at hk₂ wf₂.keys (fun x hx => if_neg hx) (by simp [r₁, hk₂])
    obtain ⟨wfz, hoz⟩ := wf_less wfy
    have hlz : (pre ++ r₁ :: post).length = (pre ++ r :: post).length := by simp
    refine back₃ _ _ ?_
    exact ⟨_, _, _, _, rfl, Fx, led_out Ny, hoz _ _, ⟨od₂, pre ++ r₁ :: post, hm1, hm2, rfl, hdy, wfz, by rw [hay, ha₆, sucs_take hp], by omega⟩, .inr (List.mem_append_right _ (List.mem_append_right _ (.head _)))⟩
  · intro m₁ news₁ h tk' hp1 F₆ N₆
    refine hide fun G' back' => ?_
    obtain ⟨od₆, rs₆, hm1, hm2, rfl, hd₆, wf₆, ha₆, hl₆⟩ := hp1
    refine back' ?_
    clear back' G'
    k_steps
    have hsz : ps.take pv.toArray.size = ps := by rw [List.size_toArray, hplen, List.take_length]
    rw [hsz] at ha₆
    refine ret _ _ od₆ rs₆ (by rw [ha₆, ha₅]; rfl) (by rw [List.size_toArray] at hl₆; omega) F₆.keep (NB.of fun p hp => N₆ p ?_) hd₆ ?_
    · rcases List.mem_append.mp hp with hp | hp
      · exact List.mem_append_left _ hp
      · exact List.mem_append_right _ (List.mem_append_left _ hp)
    · exact (wf_less wf₆).1
end Mine
end
section
open PySem PySem.W PySem.Calls PyProof.Rows
set_option Elab.async false
set_option maxRecDepth 100000
namespace Mine
namespace F
theorem ba_mro : mroOf (.type "bytearray") = pure [.type "bytearray", .type "object"] := by rw [mroOf_type]; kernel_rfl
theorem ba_lookup_new : typeLookup (.type "bytearray") "__new__" = pure (some (.builtin "bytearray.__new__")) := by rw [typeLookup_type, builtinLookup_eq_fast]; kernel_rfl
theorem ba_slot_init : Slot "bytearray" "__init__" "bytearray.__init__" :=
  .of (owner := "bytearray") (n := "__init__") (by rw [typeLookup_type, builtinLookup_eq_fast]; kernel_rfl) (by decide +kernel) (by decide +kernel) (by decide +kernel)
    (by first | exact .inl (by decide +kernel) | exact .inr (by decide +kernel)) (by rw [isSubtype_type]; kernel_rfl)
theorem ba_called : TypeCalled "bytearray" "bytearray.__new__" "bytearray.__init__" :=
  ⟨by decide +kernel, by decide +kernel, ⟨_, _, ba_mro⟩, madeBy_type ba_mro ba_lookup_new (by decide +kernel), by decide +kernel, by rw [isSubtype_type]; kernel_rfl, ba_slot_init⟩
theorem ba_typeCall (a : Value) : checkTypeCall "bytearray" ⟨[a], []⟩ = pure () := by kernel_rfl
theorem ba_newCall (a : Value) : checkBuiltinCall "bytearray.__new__" ⟨[.type "bytearray", a], []⟩ = pure () := by kernel_rfl
theorem ba_entry_new : entryFor table "bytearray.__new__" = some Builtin.«list.__new__» := entryFor_alias (id' := "list.__new__") (by kernel_rfl) rfl (by decide +kernel) (by kernel_rfl)
theorem ba_plain_new : plainId "bytearray.__new__" = true := by decide +kernel
theorem ba_entry_init : entryFor table "bytearray.__init__" = some Builtin.«bytearray.__init__» := entryFor_of_tree (by kernel_rfl)
theorem ba_args_init (a b : Value) : argsOk "bytearray.__init__" ⟨[a, b], []⟩ := by unfold argsOk; kernel_rfl
theorem ba_sub : isSubtype (.type "bytearray") (.type "bytearray") = pure true := by rw [isSubtype_type]; kernel_rfl
end F
set_option maxRecDepth 1000000 in
set_option maxHeartbeats 4000000 in
theorem owner_ba_new : ("bytearray.__new__".splitOn ".__new__").headD "" = "bytearray" := by simp +decide [String.splitOn, String.splitOnAux]
section
variable {prog : Program} {w : World} {A : Around} {E : Value → Shared → Prop} {s : Shared}
theorem code_ba_new (a : Value) {Q₁ : Value → Shared → Prop}
    (h : Q₁ (.ref s.heap.objs.size) { s with heap := s.heap.push { cls := .type "bytearray", data := .bytearray #[] } }) :
    codeAny (model prog w) A (.call (.builtin "bytearray.__new__") ⟨[.type "bytearray", a], []⟩) (wants Q₁ E) s := by
  refine codeAny_of_tree ?_
  show wpAny _ A.in1 (do checkBuiltinCall "bytearray.__new__" ⟨[.type "bytearray", a], []⟩; again (.builtin "bytearray.__new__" ⟨[.type "bytearray", a], []⟩)) _ _ s
  refine wpAny_bind (wpAny_of_eq (F.ba_newCall a) (wpAny_pure ⟨plainId_quiet F.ba_plain_new _, codeAny_builtin_stack F.ba_entry_new rfl fun p st => ?_⟩))
  rw [Around.under_plainId F.ba_plain_new _]
  have hsub := F.ba_sub
  have hown := owner_ba_new
  obtain ⟨hp, g, d, tk, os⟩ := s
  simp only [hown]
  wp_walk
  exact h
end
end Mine
end
section
open PySem PySem.W PySem.Calls PyProof.Rows
set_option Elab.async false
set_option maxRecDepth 100000
namespace Mine
section
variable {prog : Program} {w : World} {A : Around} {E : Value → Shared → Prop} {s : Shared}
theorem codeC_builtin {id : String} {args : Args} {b : Builtin} {R : Result → Shared → Prop} (hbad : badIds.contains id = false) (hb : entryFor table id = some b)
    (h : wpC (model prog w) (A.under (.builtin id args)) (b args)
      (fun fin s' => match fin with | .done f => R (.ok f) s' | .again c' => c'.quiet = true ∧ codeC (model prog w) A c' R s') (fun e s' => R (.error e) s') s) :
    codeC (model prog w) A (.builtin id args) R s := by
  refine codeC_of_tree hbad ?_
  have hden : (model prog w).den (.builtin id args) = b args := by
    show (match entryFor table id with | some b => b args | none => unsupported ((withoutEnding? id "#data").getD id)) = _
    rw [hb]
  rw [hden]; exact h
theorem ba_lk_release : typeLookup (.type "bytearray") "__release_buffer__" = pure (some (.builtin "bytearray.__release_buffer__")) := by rw [typeLookup_type, builtinLookup_eq_fast]; kernel_rfl
theorem ba_own {S : Addr} {Q : Bool → Shared → Prop} (hT : s.TypeIs (.ref S) "bytearray") (h : Q false s) : wpAny (model prog w) A (Builtin.Bytes.ownRelease (.ref S)) Q E s := by
  unfold Builtin.Bytes.ownRelease
  refine wpAny_bind ?_
  unfold Builtin.Bytes.slotIsOwn
  refine wpAny_bind (wpAny_specialOf hT ba_lk_release ?_)
  dsimp only
  rw [if_neg (by decide +kernel)]
  rw [show ("bytearray.__release_buffer__".dropRight ("__release_buffer__".length + 1)) = "bytearray" by decide +kernel]
  exact wpAny_isInstance hT F.ba_sub (wpAny_pure h)
theorem ba_bind (v : Value) : Builtin.Bytes.bindOptional "bytearray.__init__" "bytearray" ["source", "encoding", "errors"] [v] [] = pure [some v, none, none] := by kernel_rfl
theorem ba_int_index : typeLookup (.type "int") "__index__" = pure (some (.builtin "int.__index__")) := by rw [typeLookup_type, builtinLookup_eq_fast]; kernel_rfl
theorem ba_write {S : Addr} {arr : Array UInt8} {f : Array UInt8 → Array UInt8} {Q : Unit → Shared → Prop} (hS : s.heap.get? S = some { cls := .type "bytearray", data := .bytearray arr }) (hz : (f arr).size ≤ sizeLine)
    (h : ∀ h', h'.get? S = some { cls := .type "bytearray", data := .bytearray (f arr) } → Heap.SameBut S s.heap h' → Q () { s with heap := h' }) : wpAny (model prog w) A (Builtin.Bytes.write (.ref S) f) Q E s := by
  show wpAny _ _ (updateBytearray S f) _ _ _
  unfold updateBytearray
  refine wpAny_bind (wpAny_load hS ?_)
  show wpAny _ _ (update S (Obj.mapBytearray f) >>= fun _ => lookBehind S) _ _ _
  refine wpAny_bind (wpAny_update hS ?_)
  have hS₂ : (s.heap.update S (Obj.mapBytearray f)).get? S = some { cls := .type "bytearray", data := .bytearray (f arr) } := Heap.get?_update_self (Obj.mapBytearray f) hS rfl
  refine wpAny_lookBehind hS₂ ?_ ?_
  · show (if (f arr).size > sizeLine then some "bytearray:memory" else none) = none
    rw [if_neg (Nat.not_lt.mpr hz)]
  · exact h _ hS₂ (Heap.SameBut.update ..)
theorem ba_initC {n : Nat} {t : Tok} {S : Addr} {Q : PySem.Fin → Shared → Prop} (hn : n ≤ 1000) (hS : s.heap.get? S = some { cls := .type "bytearray", data := .bytearray #[] })
    (hQ : ∀ h', (∀ b o, b ≠ S → s.heap.get? b = some o → h'.get? b = some o) → h'.get? S = some { cls := .type "bytearray", data := .bytearray (Array.replicate n 0) } → Q (.done (.ret .none)) { s with heap := h' }) :
    wpC (model prog w) A (Builtin.«bytearray.__init__» ⟨[.ref S, .int n t], []⟩) Q E s := by
  have hT : s.TypeIs (.ref S) "bytearray" := ⟨_, hS, rfl⟩
  unfold Builtin.«bytearray.__init__»
  refine wpC_bindA (ba_own hT ?_)
  show wpC _ _ (Builtin.Bytes.bindOptional _ _ _ _ _ >>= _) _ _ _
  refine wpC_bindA (wpAny_of_eq (ba_bind _) ?_)
  dsimp only
  refine wpC_bindA (wpAny_of_eq (a := ()) rfl ?_)
  refine wpC_bindA (wpAny_of_eq (a := ()) rfl ?_)
  refine wpC_bind ?_
  refine wpC_bind (wpC_exported ?_)
  refine wpC_of ?_
  show wpAny _ _ (Builtin.Bytes.exportsOf (.ref S) >>= _) _ _ _
  unfold Builtin.Bytes.exportsOf
  refine wpAny_bind (wpAny_bind (wpAny_load hS ?_))
  refine wpAny_pure (wpAny_pure ?_)
  rw [if_neg (by simp)]
  refine wpC_of ?_
  refine wpAny_bind (ba_write hS (by exact Nat.zero_le _) fun h₁ hS₁ hs₁ => ?_)
  have ea : asStr? (Value.int (n : Int) t) = pure none := rfl
  refine wpAny_bind ?_
  rw [ea]
  refine wpAny_pure ?_
  simp only [Option.isSome_none, Bool.false_eq_true, if_false]
  with_reducible refine wpAny_bind ?_
  refine wpAny_pure ?_
  with_reducible refine wpAny_bind ?_
  have et : typeOf (Value.int (n : Int) t) = pure (.type "int") := rfl
  have ei : asIndex (Value.int (n : Int) t) = pure (n : Int) := rfl
  have el := ba_int_index
  with_reducible refine wpAny_specialOf_val et el ?_
  simp only [Option.isSome_some, if_true]
  with_reducible refine wpAny_bind ?_
  with_reducible refine wpAny_attempt ?_
  with_reducible refine wpAny_of_eq ei ?_
  dsimp only
  have f1 : (!Builtin.Bytes.fitsIndex (n : Int)) = false := by
    unfold Builtin.Bytes.fitsIndex
    rw [decide_eq_true (show -(2 ^ 63 : Int) ≤ (n : Int) by omega), decide_eq_true (show (n : Int) < 2 ^ 63 by omega)]; rfl
  have f2 : ¬ (((n : Int) == 2 ^ 63 - 1) = true) := by rw [beq_iff_eq]; omega
  have f3 : Builtin.Bytes.tooLong (n : Int).toNat = false := by
    unfold Builtin.Bytes.tooLong
    exact decide_eq_false (by rw [sizeLine_eq]; omega)
  rw [if_neg (by rw [f1]; decide), if_neg (by omega), if_neg f2, if_neg (by rw [f3]; decide)]
  with_reducible refine wpAny_bind ?_
  with_reducible refine wpAny_rule ?_
  by_cases h0 : (n : Int) > 0
  · rw [if_pos h0]
    refine wpAny_bind (ba_write hS₁ (by rw [Array.size_replicate, sizeLine_eq]; omega) fun h₂ hS₂ hs₂ => ?_)
    refine wpAny_pure (hQ h₂ (fun b o hb e => hs₂.extBut b o hb (hs₁.extBut b o hb e)) ?_)
    simpa using hS₂
  · rw [if_neg h0]
    have : n = 0 := by omega
    subst this
    exact wpAny_pure (hQ h₁ (fun b o hb e => hs₁.extBut b o hb e) hS₁)
theorem call_baC {n : Nat} {t : Tok} {Q : Value → Shared → Prop} (hn : n ≤ 1000)
    (hQ : ∀ h', (∀ b o, s.heap.get? b = some o → h'.get? b = some o) → h'.get? s.heap.objs.size = some { cls := .type "bytearray", data := .bytearray (Array.replicate n 0) } → Q (.ref s.heap.objs.size) { s with heap := h' }) :
    wpC (model prog w) A (call (.type "bytearray") [.int n t]) Q E s := by
  refine wpC_call (codeC_of_tree rfl ?_)
  show wpC _ _ (pure (Fin.again (.builtin "type.__call__" ⟨[.type "bytearray", .int n t], []⟩))) _ _ _
  refine wpC_pure ⟨Code.quiet_builtin _ (by decide +kernel), codeC_builtin (by decide +kernel) F.entry_type_call ?_⟩
  rw [Around.under_plain (weight_type_call_type "bytearray" [.int n t] []) rfl]
  have ft := F.ba_called
  obtain ⟨c, tl, hmro⟩ := ft.mro
  have hmade := ft.made
  have hsub := ft.sub
  have h1 := ft.notType
  have h2 := ft.canCreate
  have hct := F.ba_typeCall (.int n t)
  unfold Builtin.«type.__call__»
  dsimp only
  simp only [h1, h2, Bool.false_eq_true, if_false]
  refine wpC_bindA (wpAny_of_eq hct ?_)
  refine wpC_bindA (wpAny_of_eq hmro ?_)
  simp only [List.isEmpty_cons, Bool.false_eq_true, if_false]
  refine wpC_bindA (wpAny_of_eq hmade ?_)
  dsimp only
  refine wpC_bindA (wpAny_pure ?_)
  refine wpC_bindA (wpAny_holding (wpAny_call (code_ba_new _ ?_)))
  have hS : (s.heap.push { cls := .type "bytearray", data := .bytearray #[] }).get? s.heap.objs.size = some { cls := .type "bytearray", data := .bytearray #[] } := Heap.get?_push_size _ rfl
  have hT : ({ s with heap := s.heap.push { cls := .type "bytearray", data := .bytearray #[] } } : Shared).TypeIs (.ref s.heap.objs.size) "bytearray" := ⟨_, hS, rfl⟩
  refine wpC_bindA (wpAny_isInstance hT hsub ?_)
  simp only [Bool.not_true, Bool.false_eq_true, if_false]
  refine wpC_bind (wpC_holding ?_)
  simp only [callSpecial?]
  refine wpC_bindA (wpAny_specialOf hT ft.init.lookup ?_)
  simp only [ft.init.bind]
  refine wpC_holding (wpC_bind (wpC_pure (wpC_bind (wpC_call (codeC_of_tree rfl ?_)))))
  show wpC _ _ (do checkBuiltinCall "bytearray.__init__" ⟨[.ref s.heap.objs.size, .int n t], []⟩; again (.builtin "bytearray.__init__" ⟨[.ref s.heap.objs.size, .int n t], []⟩)) _ _ _
  refine wpC_bindA (ft.init.check _ _ _ _ _ _ _ _ hT (F.ba_args_init _ _) ?_)
  refine wpC_pure ⟨plainId_quiet ft.init.plain _, codeC_builtin (by decide +kernel) F.ba_entry_init ?_⟩
  rw [Around.under_plainId ft.init.plain _]
  refine ba_initC hn hS fun h' hk hh => ?_
  refine wpC_pure ?_
  dsimp only
  simp only [bne_self_eq_false, Bool.false_eq_true, if_false]
  exact wpC_pure (hQ h' (fun b o e => hk b o (Nat.ne_of_lt (Heap.lt_size e)) (Heap.get?_push_of_some _ e)) hh)
end
end Mine
end
section
open PySem PySem.W PySem.Calls PyProof.Rows
set_option Elab.async false
set_option maxRecDepth 100000
namespace Mine
namespace F
theorem ba_slot_set : Slot "bytearray" "__setitem__" "bytearray.__setitem__" :=
  .of (owner := "bytearray") (n := "__setitem__") (by rw [typeLookup_type, builtinLookup_eq_fast]; kernel_rfl) (by decide +kernel) (by decide +kernel) (by decide +kernel)
    (by first | exact .inl (by decide +kernel) | exact .inr (by decide +kernel)) (by rw [isSubtype_type]; kernel_rfl)
theorem ba_entry_set : entryFor table "bytearray.__setitem__" = some Builtin.«bytearray.__setitem__» := entryFor_of_tree (by kernel_rfl)
theorem ba_args_set (a b c : Value) : argsOk "bytearray.__setitem__" ⟨[a, b, c], []⟩ := by unfold argsOk; kernel_rfl
theorem ba_lk_bytes : typeLookup (.type "bytearray") "__bytes__" = pure none := by rw [typeLookup_type, builtinLookup_eq_fast]; kernel_rfl
theorem ba_lk_index : typeLookup (.type "bytearray") "__index__" = pure none := by rw [typeLookup_type, builtinLookup_eq_fast]; kernel_rfl
theorem ba_lk_buffer : typeLookup (.type "bytearray") "__buffer__" = pure (some (.builtin "bytearray.__buffer__")) := by rw [typeLookup_type, builtinLookup_eq_fast]; kernel_rfl
end F
section
variable {prog : Program} {w : World} {A : Around} {E : Value → Shared → Prop} {s : Shared}
theorem ba_subscript {k : Int} {t : Tok} {Q : Option Int → Shared → Prop} (h0 : 0 ≤ k) (h1 : k < 1000) (h : Q (some k) s) : wpAny (model prog w) A (Builtin.Bytes.subscript? (.int k t)) Q E s := by
  unfold Builtin.Bytes.subscript?
  have et : typeOf (Value.int k t) = pure (.type "int") := rfl
  have ei : asIndex (Value.int k t) = pure k := rfl
  have f1 : (!Builtin.Bytes.fitsIndex k) = false := by
    unfold Builtin.Bytes.fitsIndex
    rw [decide_eq_true (show -(2 ^ 63 : Int) ≤ k by omega), decide_eq_true (show k < 2 ^ 63 by omega)]; rfl
  with_reducible refine wpAny_bind ?_
  with_reducible refine wpAny_specialOf_val et ba_int_index ?_
  simp only [Option.isNone_some, Bool.false_eq_true, if_false]
  with_reducible refine wpAny_bind ?_
  with_reducible refine wpAny_of_eq ei ?_
  simp only [f1, Bool.false_eq_true, if_false]
  exact wpAny_pure h
theorem setItem_ba {S : Addr} {arr : Array UInt8} {k v : Int} {t u : Tok} {Q : Unit → Shared → Prop} (hS : s.heap.get? S = some { cls := .type "bytearray", data := .bytearray arr }) (h0 : 0 ≤ k) (h1 : k < (arr.size : Int)) (hsz : arr.size ≤ 1000)
    (v0 : 0 ≤ v) (v1 : v < 256)
    (hQ : ∀ h', h'.get? S = some { cls := .type "bytearray", data := .bytearray (arr.setIfInBounds k.toNat v.toNat.toUInt8) } → Heap.SameBut S s.heap h' → Q () { s with heap := h' }) :
    wpAny (model prog w) A (setItem (.ref S) (.int k t) (.int v u)) Q E s := by
  have hT : s.TypeIs (.ref S) "bytearray" := ⟨_, hS, rfl⟩
  unfold setItem
  refine wpAny_holding ?_
  refine wpAny_bind (wpAny_sequenceKey hT (by decide) ?_)
  refine wpAny_bind (wpAny_callSpecial?_slot (name := Str.ofString "__setitem__") hT F.ba_slot_set (wpAny_call_entry F.ba_slot_set hT F.ba_entry_set ?_ (F.ba_args_set _ _ _)))
  unfold Builtin.«bytearray.__setitem__»
  simp only [List.isEmpty_nil, Bool.not_true, Bool.false_eq_true, if_false]
  refine wpAny_bind (ba_subscript h0 (by omega) ?_)
  dsimp only
  unfold Builtin.Bytes.byteValue
  have ei : asIndex (Value.int v u) = pure v := rfl
  refine wpAny_bind (wpAny_bind (wpAny_of_eq ei ?_))
  have hr : (decide (v < 0) || decide (v ≥ 256)) = false := by simp; omega
  simp only [hr, Bool.false_eq_true, if_false]
  refine wpAny_pure ?_
  refine wpAny_bind ?_
  unfold Builtin.Bytes.payload Builtin.Bytes.payload?
  refine wpAny_bind (wpAny_bind (wpAny_load hS ?_))
  refine wpAny_pure (wpAny_pure ?_)
  have hi : seqIndex? k arr.size = some k.toNat := by
    unfold seqIndex?
    simp only [if_neg (show ¬ k < 0 by omega)]
    rw [if_pos (by simp; omega)]
  rw [hi]
  dsimp only
  refine wpAny_bind (ba_write hS (by rw [Array.size_setIfInBounds, sizeLine_eq]; omega) fun h' hh hs => ?_)
  exact wpAny_pure ⟨_, rfl, wpAny_pure (hQ h' hh hs)⟩
theorem ba_slotown {S : Addr} {Q : Bool → Shared → Prop} (hT : s.TypeIs (.ref S) "bytearray") (h : Q true s) : wpAny (model prog w) A (Builtin.Bytes.slotIsOwn (.ref S) "__buffer__") Q E s := by
  unfold Builtin.Bytes.slotIsOwn
  refine wpAny_bind (wpAny_specialOf hT F.ba_lk_buffer ?_)
  dsimp only
  rw [if_neg (by decide +kernel)]
  rw [show ("bytearray.__buffer__".dropRight ("__buffer__".length + 1)) = "bytearray" by decide +kernel]
  exact wpAny_isInstance hT F.ba_sub h
theorem call_bytes_ba {S : Addr} {arr : Array UInt8} {Q : Value → Shared → Prop} (hS : s.heap.get? S = some { cls := .type "bytearray", data := .bytearray arr }) (hsz : arr.size ≤ 1000)
    (hQ : ∀ t k, Q (.bytes arr t) { s with toks := k }) : wpAny (model prog w) A (call (.type "bytes") [.ref S]) Q E s := by
  have hT : s.TypeIs (.ref S) "bytearray" := ⟨_, hS, rfl⟩
  refine callType_codes (Q₁ := fun obj s₁ => s₁.TypeIs obj "bytes" ∧ Q obj s₁) PySem.F.bm_called (PySem.F.bm_typeCall _) PySem.F.entry_object_init ?_ fun obj s₁ h₁ =>
    ⟨h₁.1, PySem.F.args_object_init_2 obj _, object_init_meets PySem.F.bm_called.init.lookup PySem.F.bm_called.made (by decide) prog w A.in1 _ s₁ ⟨h₁.1, rfl, h₁.2⟩⟩
  refine codeAny_of_tree ?_
  show wpAny _ _ (do checkBuiltinCall "bytes.__new__" ⟨[.type "bytes", .ref S], []⟩; again (.builtin "bytes.__new__" ⟨[.type "bytes", .ref S], []⟩)) _ _ s
  refine wpAny_bind (wpAny_of_eq (PySem.F.bm_newCall _) (wpAny_pure ⟨plainId_quiet PySem.F.bm_plain _, codeAny_builtin PySem.F.bm_entry ?_⟩))
  rw [Around.under_plainId PySem.F.bm_plain _]
  unfold Builtin.«bytes.__new__»
  refine wpAny_bind (wpAny_of_eq (a := true) rfl ?_)
  refine bm_if_false rfl ?_
  refine wpAny_bind (wpAny_of_eq PySem.F.bm_sub ?_)
  refine bm_if_false rfl ?_
  refine wpAny_bind (wpAny_of_eq (PySem.F.bm_bind _) ?_)
  refine wpAny_bind (wpAny_of_eq (a := ()) rfl ?_)
  refine wpAny_bind (wpAny_of_eq (a := ()) rfl ?_)
  refine bm_if_false rfl ?_
  refine wpAny_bind (wpAny_specialOf hT F.ba_lk_bytes ?_)
  refine wpAny_bind (wpAny_bind ?_)
  show wpAny _ _ (load S >>= _) _ _ _
  refine wpAny_bind (wpAny_load hS ?_)
  refine wpAny_pure (wpAny_pure ?_)
  refine bm_if_false rfl ?_
  refine wpAny_bind (wpAny_specialOf hT F.ba_lk_index ?_)
  refine bm_if_true rfl ?_
  first
    | show wpAny _ _ (Builtin.Bytes.buffer? "bytes.__new__" (.ref S) true >>= _) _ _ _
    | (refine wpAny_bind ?_; show wpAny _ _ (Builtin.Bytes.buffer? "bytes.__new__" (.ref S) true >>= _) _ _ _)
  refine wpAny_bind ?_
  unfold Builtin.Bytes.buffer?
  refine wpAny_bind (wpAny_specialOf hT F.ba_lk_buffer ?_)
  dsimp only
  refine wpAny_bind (ba_slotown hT ?_)
  simp only [Bool.not_true, Bool.false_eq_true, if_false]
  refine wpAny_bind (wpAny_specialOf hT F.ba_lk_buffer ?_)
  show wpAny _ _ (Builtin.Bytes.ownRelease (.ref S) >>= _) _ _ _
  refine wpAny_bind (ba_own hT ?_)
  simp only [Bool.false_eq_true, if_false]
  refine wpAny_bind ?_
  unfold Builtin.Bytes.payload Builtin.Bytes.payload?
  refine wpAny_bind (wpAny_bind (wpAny_load hS ?_))
  refine wpAny_pure (wpAny_pure (wpAny_pure ?_))
  refine wpAny_bind (wpAny_rule ?_)
  refine wpAny_bind ?_
  refine wpAny_mkBytes ?_ (by rw [sizeLine_eq]; omega)
  show wpAny _ _ (if (Value.type "bytes" == Value.type "bytes") = true then _ else _) _ _ _
  refine bm_if_true (by decide) ?_
  first
    | exact wpAny_pure ⟨PySem.W.typeIs_bytes _ _ _, hQ _ _⟩
    | exact wpAny_bind (wpAny_pure (wpAny_pure ⟨PySem.W.typeIs_bytes _ _ _, hQ _ _⟩))
end
end Mine
end
section
open PySem PySem.W PySem.W.X PySem.Calls PyProof.Rows
set_option Elab.async false
set_option maxRecDepth 100000
set_option maxHeartbeats 1000000
namespace Mine
theorem len_bytes' {prog : Program} {w : World} {A : Around} {E : Value → Shared → Prop} {s : Shared} {b : Array UInt8} {t : Tok} {Q : Value → Shared → Prop} (hfit : b.size ≤ 20) (h : ∀ t' k, Q (.int (b.size : Nat) t') { s with toks := k }) : wpAny (model prog w) A (call (.builtin "len") [.bytes b t]) Q E s :=
  len_bytes (by omega) (h _ _)
local macro_rules | `(tactic| walk_at "call builtin:len") => `(tactic| ((with_reducible show wpAny _ _ (call (Value.builtin "len") [Value.bytes _ _]) _ _ _); (refine len_bytes' (by assumption) (fun t' k' => ?_))))
local macro_rules | `(tactic| walk_at "eval Name") => `(tactic| (k_dflt (refine' ld ?k1 ?k2 ?_; (case k1 => k_asm); (case k2 => first | exact rfl | assumption); k_whole)))
theorem small_le {b : Nat} {c : Nat} (hb : b ≤ 20) (hc : c ≤ 20) : Builtin.Range.small 0 b c = true := by
  have h : ∀ b : _root_.Fin 21, ∀ c : _root_.Fin 21, Builtin.Range.small 0 (b.1 : Int) (c.1 : Int) = true := by decide +kernel
  exact h ⟨b, by omega⟩ ⟨c, by omega⟩
theorem size_one (n : Nat) : Builtin.Range.rangeSize 0 n 1 = (n : Int) := by
  unfold Builtin.Range.rangeSize
  rw [if_pos (by decide)]
  split <;> omega
theorem blk {w n q : Nat} (hw : 0 < w) (hn : n % w = 0) (hq : q < n / w) : q * w + w ≤ n := by
  have h2 : (q + 1) * w ≤ n / w * w := Nat.mul_le_mul_right _ hq
  have h3 : n / w * w = n := by have := Nat.div_add_mod n w; rw [hn, Nat.mul_comm] at this; omega
  rw [Nat.add_mul] at h2
  omega
theorem size_blk {w n : Nat} (hw : 0 < w) (hw2 : w ≤ 20) (hn2 : n ≤ 20) (hn : n % w = 0) : Builtin.Range.rangeSize 0 n w = ((n / w : Nat) : Int) := by
  have h : ∀ n : _root_.Fin 21, ∀ w : _root_.Fin 21, 0 < w.1 → n.1 % w.1 = 0 → Builtin.Range.rangeSize 0 (n.1 : Int) (w.1 : Int) = ((n.1 / w.1 : Nat) : Int) := by decide +kernel
  exact h ⟨n, by omega⟩ ⟨w, by omega⟩ hw hn
theorem item_bytes' {prog : Program} {w : World} {A : Around} {E : Value → Shared → Prop} {s : Shared} {value slice : PySem.Expr} {b : Array UInt8} {t ui : Tok} {i : Int} {c : UInt8} {Q : Value → Shared → Prop} (hfit : b.size ≤ 20) (h0 : 0 ≤ i) (hc : b[i.toNat]? = some c)
    (h : ∀ t' k, Q (.int (c.toNat : Nat) t') { s with toks := k })
    (hs : subscripted slice false (.bytes b t) (.int i ui) = operate [.bytes b t, .int i ui] (getItem (.bytes b t) (.int i ui)) := by with_unfolding_all rfl)
    (ht : ∀ r, letTemporaryGo value (.bytes b t) r = pure () := by intro _; with_unfolding_all rfl) : wpAny (model prog w) A (subscriptTail value slice (.bytes b t) (.int i ui)) Q E s := by
  have hlt : i.toNat < b.size := (Array.getElem?_eq_some_iff.mp hc).1
  refine KBw.item_K rfl (by rw [KBw.ints_length]; omega) h0 (by rw [KBw.ints_length]; omega) (fun t' k _ _ => ?_) hs ht
  have : (KBw.bInts b).getD i.toNat 0 = (c.toNat : Int) := by
    rw [List.getD_eq_getElem?_getD, KBw.ints_get hc]; rfl
  rw [this]; exact h t' k
theorem swap_call {w : World} {A : Around} {s : Shared} {mean : ExcName → Option Value} {mg mb : Str → Option Value} {Q E : Value → Shared → Prop}
    {data : Array UInt8} {wd : Nat} {t1 t2 : Tok} (hsz : data.size ≤ 20) (hw : 0 < wd) (hw2 : wd ≤ 20) (hwn : data.size % wd = 0) (hh : A.handled = none)
    (X : Frag.In (Mine.hd.heap_39 w.params) s.heap) (T : Top Mine.hd.view_39 (looseW Mine.hd.view_39 [Str.ofString "_NodeInfo"]) mean mg mb s.heap)
    (hdp : A.depth + 10 < recursionLimit) (hun : A.units + 100 < cLine)
    (ret : ∀ h' tk r tr, s.heap.StaysIn h' → r.size = data.size → (∀ p, p < data.size → r[p]? = data[sg wd p]?) → Q (.bytes r tr) { s with heap := h', toks := tk }) :
    wpC (model PySem.Challenge.rw_nb0242_01.row.prog w) A (call (.ref 28) [.bytes data t1, .int wd t2]) Q E s := by
  revert X T; w_top off; k_fill; intro X T
  refine wpC_call ?_
  refine codeC_call_def (binds := [(Str.ofString "data", .bytes data t1), (Str.ofString "width", .int wd t2)]) (by omega) (X 28 _ (by k_is)) rfl T.nolimit (codeRec_of X (by k_is)) rfl (BindsTo.of_eq rfl) (by decide) (locs rfl) (fun h₁ hns keep => ?_) rfl rfl rfl
  have F : Fr s.heap s.heap.objs.size h₁ _ := ⟨hns, keep, Nat.le_refl _⟩
  have N : News s.heap s.heap.objs.size h₁ [] := News.nil
  refine wpC_execs_cons (wpC_Assign_Name rfl (wpC_Call ?_))
  k_steps
  refine wpC_callWith_type (x := eval _ _) (rest := []) rfl ?_
  refine wpC_spliced_cons (wpC_of ?_)
  k_steps
  refine wpC_spliced_nil ?_
  refine call_baC (by omega) fun h₂ hk₂ hS => ?_
  dsimp only at hk₂ hS ⊢
  have F₂ : Fr s.heap s.heap.objs.size h₂ _ := Fr.keeps (by assumption) hk₂
  have N₂ : News s.heap s.heap.objs.size h₂ [(h₁.objs.size, _)] := List.forall_mem_singleton.mpr ⟨hS, Nat.ne_of_gt (Fr.ns (by assumption)).lt, Fr.fresh (by assumption)⟩
  generalize hSS : h₁.objs.size = S at *
  clear hk₂
  k_steps
  refine wpC_of ?_
  k_steps
  rename_i hr F' N' hk'
  refine range_inv (n := data.size / wd) (fun q m news => ∃ arr, news = [(S, { cls := .type "bytearray", data := .bytearray arr })] ∧ Done wd data.size data q 0 arr ∧ m (Str.ofString "data") = some (.bytes data t1) ∧ m (Str.ofString "width") = some (.int wd t2) ∧ m (Str.ofString "swapped_data") = some (.ref S))
    hh hr (small_le (by omega) (by omega)) (size_blk hw hw2 hsz hwn) F' N' ⟨_, rfl, Done.start hw, rfl, rfl, rfl⟩ ?_ ?_
  · intro I q m₁ news₁ t h tk hI hq hp1 F₁ N₁
    refine hide fun G' back' => ?_
    obtain ⟨arr, rfl, hD, hm1, hm2, hm3⟩ := hp1
    refine back' ?_
    clear back' G'
    k_steps
    rename_i hr2 F2 N2 hk2
    have hqw : q * wd + wd ≤ data.size := blk hw hwn hq
    refine range_inv (n := wd) (fun j m news => ∃ arr, news = [(I, krsIt (0 + ((q + 1 : Nat) : Int) * wd) (((data.size / wd : Nat) : Int) - ((q + 1 : Nat) : Int)) wd), (S, { cls := .type "bytearray", data := .bytearray arr })] ∧ Done wd data.size data q j arr ∧ m (Str.ofString "data") = some (.bytes data t1) ∧ m (Str.ofString "width") = some (.int wd t2) ∧ m (Str.ofString "swapped_data") = some (.ref S) ∧ m (Str.ofString "i") = some (.int (0 + (q : Int) * wd) t))
      hh hr2 (small_le (c := 1) (by omega) (by omega)) (size_one _) F2 N2 ⟨_, rfl, hD, hm1, hm2, hm3, rfl⟩ ?_ ?_
    · intro I2 j m₂ news₂ t3 h2 tk2 hI2 hj hp1 F₂ N₂
      refine hide fun G' back' => ?_
      obtain ⟨arr2, rfl, hD2, k1, k2, k3, k4⟩ := hp1
      refine back' ?_
      clear back' G'
      refine hideQ fun Q₃ back₃ => ?_
      k_steps
      have hlt : q * wd + j < data.size := by omega
      obtain ⟨c, hc⟩ : ∃ c, data[q * wd + j]? = some c := ⟨data[q * wd + j], Array.getElem?_eq_getElem hlt⟩
      refine item_bytes' (c := c) (by omega) (by omega) (by have e : (0 + (q : Int) * wd + (0 + (j : Int) * 1)).toNat = q * wd + j := by omega
                                                            rw [e]; exact hc) (fun t' k' => ?_)
      k_steps
      have hmem : (S, ({ cls := .type "bytearray", data := .bytearray arr2 } : Obj)) ∈ [(I2, krsIt (0 + ((j + 1 : Nat) : Int) * 1) ((wd : Int) - ((j + 1 : Nat) : Int)) 1), (I, krsIt (0 + ((q + 1 : Nat) : Int) * wd) (((data.size / wd : Nat) : Int) - ((q + 1 : Nat) : Int)) wd), (S, { cls := .type "bytearray", data := .bytearray arr2 })] := by simp
      refine setItem_ba (N₂.get hmem) (by omega) (by rw [hD2.1]; omega) (by rw [hD2.1]; omega) (by omega) (by have := c.toNat_lt; omega) fun h3 hS3 hs3 => ?_
      have F3 := F₂.update N₂ hmem hs3
      have N3 := News.setAt (own := [(I2, krsIt (0 + ((j + 1 : Nat) : Int) * 1) ((wd : Int) - ((j + 1 : Nat) : Int)) 1), (I, krsIt (0 + ((q + 1 : Nat) : Int) * wd) (((data.size / wd : Nat) : Int) - ((q + 1 : Nat) : Int)) wd)]) (rest := []) N₂
        (by
          intro p hp
          refine N₂.ne_of_cls (q := p) (p := (S, _)) (List.mem_append_left _ hp) hmem ?_
          rcases List.mem_cons.mp hp with rfl | hp
          · show Value.type "range_iterator" ≠ Value.type "bytearray"; decide
          · rw [List.mem_singleton.mp hp]; show Value.type "range_iterator" ≠ Value.type "bytearray"; decide) (fun _ hp => nomatch hp) hs3 hS3
      have hd3 := hD2.step hj hc (by omega)
      have ei : (0 + (q : Int) * wd + wd - 1 - (0 + (j : Int) * 1)).toNat = q * wd + (wd - 1 - j) := by omega
      have ev : ((c.toNat : Int)).toNat.toUInt8 = c := by simp
      rw [ei, ev] at N3
      simp only [List.cons_append, List.nil_append] at N3
      clear hs3 hS3 N₂ F₂
      k_steps
      refine back₃ _ _ ?_
      refine ⟨_, _, _, _, rfl, F3, N3, ?_, _, rfl, hd3, k1, k2, k3, k4⟩
      intro p hp
      rcases List.mem_cons.mp hp with rfl | hp
      · exact Nat.ne_of_lt (hI2 (I, _) (List.mem_cons_self ..))
      · rw [List.mem_singleton.mp hp]; exact Nat.ne_of_lt (show S < I2 from hI2 (S, { cls := .type "bytearray", data := .bytearray arr }) (List.mem_cons_of_mem _ (List.mem_singleton.mpr rfl)))
    · intro m₂ news₂ h2 tk2 hp1 F₂ N₂
      refine hide fun G' back' => ?_
      obtain ⟨arr2, rfl, hD2, k1, k2, k3, k4⟩ := hp1
      refine back' ?_
      clear back' G'
      k_steps
      exact hD2.next
  · intro m₁ news₁ h tk hp1 F₁ N₁
    refine hide fun G' back' => ?_
    obtain ⟨arr, rfl, hD, hm1, hm2, hm3⟩ := hp1
    refine back' ?_
    clear back' G'
    k_steps
    refine call_bytes_ba (N₁.get (List.mem_singleton.mpr rfl)) (by rw [hD.1]; omega) fun tr tk' => ?_
    exact ret _ _ _ _ F₁.keep hD.1 (hD.all hw hwn)
end Mine
end
section
open PySem PySem.W PySem.W.X PySem.Calls PyProof.Rows
set_option Elab.async false
set_option maxRecDepth 100000
set_option maxHeartbeats 1000000
namespace Mine
local macro_rules | `(tactic| walk_at "no such key") => `(tactic| fail)
abbrev Gr := List (Int × Int × List Int)
/-- the objects of a sorter -/
def SoL (w : World) (sa : Addr) (rv pv fv : Value) (gr : Gr) (own : List (Addr × Obj)) : Prop :=
  ∃ dx nd od t1 t2 t3 t4 rs, own = own3 sa dx nd (at0 w.params nd rv pv fv t1 t2 t3 t4) od ++ recsN rs ∧ od.IsDictOf (intKind PySem.Challenge.rw_nb0242_01.row.prog w) (kv rs) ∧ (nd == sysModules) = false ∧ WF sa dx nd [] rs ∧ absG rs = gr
abbrev Off (own ext : List (Addr × Obj)) : Prop := ∀ p ∈ ext, p.1 ∉ own.map (fun x : Addr × Obj => x.1)
theorem off_new {h h' : Heap} {own own' ext : List (Addr × Obj)} (hE : ∀ p ∈ ext, h.get? p.1 = some p.2) (ho : Off own ext) (N' : NB (hideAll h (own.map (fun x : Addr × Obj => x.1))) h' own') : Off own' ext := by
  intro p hp q
  obtain ⟨p', hp', e⟩ := List.mem_map.mp q
  have h1 := (N' p' hp').2
  have h2 := hideAll_get (own.map (fun x : Addr × Obj => x.1)) (hE p hp) (ho p hp)
  rw [e, h2] at h1; cases h1
theorem add_in {w : World} {mean : ExcName → Option Value} {mg mb : Str → Option Value} {A₀ A : Around} {s : Shared} {Q E : Value → Shared → Prop} {base g : Heap} {outer : List Env} {env : Env} {L : Addr} {m : Str → Option Value}
    {sa : Addr} {pv' fv : Value} {gr : Gr} {own ext : List (Addr × Obj)} {k : Int} {tk : Tok} {pv : List Value} {ps : List Int}
    (hh : A.handled = none) (B : Below A₀ base outer g) (F : Fr g L s.heap m) (hA : A.frames = some (env :: outer)) (hf : env.frame = some L) (hke : env.scope.kind = .function)
    (X : Frag.In (Mine.hd.heap_39 w.params) g) (T : Top Mine.hd.view_39 (looseW Mine.hd.view_39 [Str.ofString "_NodeInfo"]) mean mg mb g)
    (N : News g L s.heap (own ++ ext)) (S : SoL w sa .none pv' fv gr own) (off : Off own ext)
    (hdp : A.depth + 40 < 1000) (hun : A.units + 400 < 9900) (hlen : gr.length ≤ 800) (hss : ∀ x ∈ gr, x.2.2.length ≤ 400) (hpi : IntsAre pv ps) (hpl : ps.length ≤ 10)
    (hb : ∀ fd, (∃ o, (Mine.hd.heap_39 w.params).lookup 94 = some o ∧ o.data = .func fd) → bindArgs fd ⟨.ref sa :: .int k tk :: pv, []⟩ = (newTuple pv >>= fun tv => pure [(Str.ofString "self", .ref sa), (Str.ofString "node", .int k tk), (Str.ofString "predecessors", tv)]))
    (ret : ∀ h' tk' own', SoL w sa .none pv' fv (addP gr k ps) own' → Off own' ext → Fr g L h' m → News g L h' (own' ++ ext) → Q .none { s with heap := h', toks := tk' }) :
    wpAny (model PySem.Challenge.rw_nb0242_01.row.prog w) A (call (.ref 94) (.ref sa :: .int k tk :: pv)) Q E s := by
  refine hide fun G' back' => ?_
  obtain ⟨dx, nd, od, t1, t2, t3, t4, rs, rfl, hd, hsm, wf, rfl⟩ := S
  refine back' ?_
  clear back' G'
  have N3 : News g L s.heap (own3 sa dx nd (at0 w.params nd .none pv' fv t1 t2 t3 t4) od ++ recsN rs) := fun p hp => N p (List.mem_append_left _ hp)
  refine hide fun G' back' => ?_
  obtain ⟨FG, BG, st, _⟩ := groundX (R := fun _ _ => True) B F N3 hA hf hke
  refine back' ?_
  clear back' G'
  refine add_call hh BG (X.keeps st) (T.keeps st) (fun b o e => of_hideAll _ e) (Nat.le_of_eq (hideAll_size _ _)) (fun p hp => ⟨(N3 p hp).1, hideAll_none _ (List.mem_map_of_mem hp)⟩) hd hsm wf hdp hun (by simpa [absG] using hlen) hpi hpl hss hb ?_
  intro h' tk' od' rs' ha hl st' N' hd' wf'
  obtain ⟨F', N''⟩ := back F N off st' N'
  exact ret h' tk' _ ⟨dx, nd, od', t1, t2, t3, t4, rs', rfl, hd', hsm, wf', ha⟩ (off_new (fun p hp => (N p (List.mem_append_right _ hp)).1) off N') F' N''
section
variable {prog : Program} {w : World} {A : Around} {E : Value → Shared → Prop} {s : Shared} {env : Env} {h₀ : Heap} {x : Str} {body : List Stmt} {Q : Flow → Shared → Prop}
theorem unr_mono' {L I : Addr} {it : Obj} {s₁ s₂ : Shared} {f : Flow} {r r' : (Str → Option Value) → List (Addr × Obj) → Prop} (hr : ∀ m n, (∀ p ∈ n, p.1 ≠ I) → r m n → r' m n) (h : UnrPost h₀ L s₁ I it r Q f s₂) : UnrPost h₀ L s₁ I it r' Q f s₂ := by
  cases f with
  | ret v => exact h
  | brk => exact h
  | next => obtain ⟨h', tk, m', news', a, b, c, d, e⟩ := h; exact ⟨h', tk, m', news', a, b, c, d, hr _ _ d e⟩
  | cont => obtain ⟨h', tk, m', news', a, b, c, d, e⟩ := h; exact ⟨h', tk, m', news', a, b, c, d, hr _ _ d e⟩
/-- ints that can be walked: a range, a list, a tuple -/
inductive Places (h : Heap) (l : Addr) (ns : List Int) : Prop
  | range {n : Nat} {t u v : Tok} : IsRange h l 0 n 1 t u v → n ≤ 20 → ns = (List.range n).map (fun i : Nat => (i : Int)) → Places h l ns
  | list {items : Array Value} {ep : Nat} : h.get? l = some { cls := .type "list", data := .seq items ep } → IntsAre items.toList ns → Places h l ns
  | tuple {items : Array Value} {ep : Nat} : h.get? l = some { cls := .type "tuple", data := .seq items ep } → IntsAre items.toList ns → Places h l ns
theorem places_inv {l : Addr} {ns : List Int} {m₀ : Str → Option Value} {news : List (Addr × Obj)} (Inv : Nat → (Str → Option Value) → List (Addr × Obj) → Prop)
    (hh : A.handled = none) (P : Places h₀ l ns) (hlL : l ≠ env.locals) (F : Fr h₀ env.locals s.heap m₀) (N : News h₀ env.locals s.heap news) (h0 : Inv 0 m₀ news)
    (step : ∀ I i n t m₁ news₁ h tk oI, ns[i]? = some n → Inv i m₁ news₁ → (∀ p ∈ news₁, p.1 ≠ I) → Fr h₀ env.locals h (fun y => if y = x then some (.int n t) else m₁ y) → News h₀ env.locals h ((I, oI) :: news₁) →
      wpAny (model prog w) A (execs body env) (UnrPost h₀ env.locals { s with heap := h, toks := tk } I oI (Inv (i + 1)) Q) E { s with heap := h, toks := tk })
    (done : ∀ m₁ news₁ h tk, Inv ns.length m₁ news₁ → Fr h₀ env.locals h m₁ → News h₀ env.locals h news₁ → Q .next { s with heap := h, toks := tk }) :
    wpAny (model prog w) A (pyIter (.ref l)) (fun it s₂ => LoopAtV prog w A h₀ env x body Q E it s₂) E s := by
  cases P with
  | @range n t u v hr hn e =>
    refine krs_iter (n := n) hh (F.keep _ _ hr) (small_le (c := 1) hn (by omega)) (size_one _) F N fun I hI => ?_
    have hlen : ns.length = n := by rw [e]; simp
    have key : ∀ k i m₁ news₁, i + k = n → Inv i m₁ news₁ → (∀ p ∈ news₁, p.1 ≠ I) → KrsRest prog w A E h₀ env x body Q s I 0 1 n k i m₁ news₁ := by
      intro k
      induction k with
      | zero =>
        intro i m₁ news₁ hk hi _
        have : i = ns.length := by omega
        subst this
        exact KrsRest.zero fun h tk F' N' => done m₁ news₁ h tk hi F' N'
      | succ k ih =>
        intro i m₁ news₁ hk hi ho
        refine KrsRest.succ (v := (i : Int)) (by omega) fun t h tk F' N' => ?_
        exact wpAny_mono (step I i (i : Int) t m₁ news₁ h tk _ (by rw [e, List.getElem?_map, List.getElem?_range (by omega)]; rfl) hi ho F' N') (fun f s₂ p => unr_mono' (fun m' n' o q => ih (i + 1) m' n' (by omega) q o) p) fun _ _ e => e
    exact key n 0 m₀ news (by omega) h0 fun p hp => Nat.ne_of_lt (hI p hp)
  | @list items ep hl hi =>
    refine list_inv Inv hh (F.keep _ _ hl) hlL F N (.inl hl) h0 ?_ ?_
    · intro I i v m₁ news₁ h tk oI hlt hv hI ho _ _ F' N'
      refine hide fun G' back' => ?_
      obtain ⟨n, t, hn, rfl⟩ := ints_at hi (by simpa using hv)
      refine back' ?_
      clear back' G'
      exact wpAny_mono (step I i n t m₁ news₁ h tk oI hn hI ho F' N') (fun f s₂ p => unr_mono (fun m' n' q => ⟨q, .inl hl⟩) p) fun _ _ e => e
    · intro m₁ news₁ h tk hI F' N'
      have e : items.size = ns.length := by have := hi.length; simpa using this
      exact done m₁ news₁ h tk (e ▸ hI) F' N'
  | @tuple items ep hl hi =>
    refine tup_inv Inv hh (F.keep _ _ hl) hlL F N (.inl hl) h0 ?_ ?_
    · intro I i v m₁ news₁ h tk oI hlt hv hI ho _ _ F' N'
      refine hide fun G' back' => ?_
      obtain ⟨n, t, hn, rfl⟩ := ints_at hi (by simpa using hv)
      refine back' ?_
      clear back' G'
      exact wpAny_mono (step I i n t m₁ news₁ h tk oI hn hI ho F' N') (fun f s₂ p => unr_mono (fun m' n' q => ⟨q, .inl hl⟩) p) fun _ _ e => e
    · intro m₁ news₁ h tk hI F' N'
      have e : items.size = ns.length := by have := hi.length; simpa using this
      exact done m₁ news₁ h tk (e ▸ hI) F' N'
end
theorem sol_new {w : World} {g h : Heap} {L sa dx nd : Addr} {od : Obj} {pv fv : Value} {t1 t2 t3 t4 : Tok} (N : News g L h [(nd, od), (sa, instObj 144 dx), (dx, at0 w.params nd .none pv fv t1 t2 t3 t4)]) (hd : od.IsDictOf (intKind PySem.Challenge.rw_nb0242_01.row.prog w) []) (hsm : (nd == sysModules) = false) (q : sa < nd ∧ dx < nd) :
    ∃ own, SoL w sa .none pv fv [] own ∧ News g L h (own ++ []) := by
  have hne : sa ≠ dx := N.ne_of_cls (q := (sa, _)) (p := (dx, _)) (.tail _ (.head _)) (.tail _ (.tail _ (.head _))) (by show Value.ref 144 ≠ Value.type "dict"; decide)
  refine ⟨_, ⟨dx, nd, od, t1, t2, t3, t4, [], rfl, hd, hsm, ⟨?_, List.nodup_nil, (fun _ h => nomatch h), (fun _ h => nomatch h)⟩, rfl⟩, ?_⟩
  · show [sa, dx, nd].Nodup
    simp only [List.nodup_cons, List.mem_cons, List.not_mem_nil, or_false, not_or, not_false_eq_true, List.nodup_nil, and_true]
    exact ⟨⟨hne, Nat.ne_of_lt q.1⟩, Nat.ne_of_lt q.2⟩
  · intro p hp
    have hp : p ∈ [(sa, instObj 144 dx), (dx, at0 w.params nd .none pv fv t1 t2 t3 t4), (nd, od)] := hp
    refine N p ?_
    simp only [List.mem_cons, List.not_mem_nil, or_false] at hp ⊢
    rcases hp with h | h | h
    · exact .inr (.inl h)
    · exact .inr (.inr h)
    · exact .inl h
noncomputable def stepP (cs : List Int) (g : Gr) (p : Int) : Gr := if cs.getD p.toNat 0 = p then addP g p [-1, -1] else addP g p [-1, cs.getD p.toNat 0, -1]
noncomputable def sortP (cs : List Int) (ps : List Int) : Gr := ps.foldl (stepP cs) (addP [] (-1) [])
theorem addP_len {g : Gr} {k : Int} {ps : List Int} {B : Nat} (h : ∀ x ∈ g, x.2.2.length ≤ B) : ∀ x ∈ addP g k ps, x.2.2.length ≤ B + ps.length := sucs_len ps (incP_len (getP_len h))
theorem getP_size (g : Gr) (k : Int) : (getP g k).length ≤ g.length + 1 := by
  unfold getP
  split
  · omega
  · simp
theorem sucs_size {k : Int} : ∀ (l : List Int) (g : Gr), (sucs k g l).length ≤ g.length + l.length := by
  intro l
  induction l with
  | nil => intro g; exact Nat.le_refl _
  | cons p l ih =>
    intro g
    have h1 := ih (sucP (getP g p) p k)
    have h2 := getP_size g p
    have h3 : (sucP (getP g p) p k).length = (getP g p).length := by simp [sucP]
    show (sucs k (sucP (getP g p) p k) l).length ≤ _
    simp only [List.length_cons]; omega
theorem addP_size (g : Gr) (k : Int) (ps : List Int) : (addP g k ps).length ≤ g.length + 1 + ps.length := by
  have h1 := sucs_size (k := k) ps (incP (getP g k) k ps.length)
  have h2 := getP_size g k
  have h3 : (incP (getP g k) k ps.length).length = (getP g k).length := by simp [incP]
  show (sucs k (incP (getP g k) k ps.length) ps).length ≤ _
  omega
theorem stepP_len {cs : List Int} {g : Gr} {p : Int} {B : Nat} (h : ∀ x ∈ g, x.2.2.length ≤ B) : ∀ x ∈ stepP cs g p, x.2.2.length ≤ B + 3 := by
  unfold stepP
  split
  · intro x hx; have := addP_len h x hx; simp only [List.length_cons, List.length_nil] at this; omega
  · intro x hx; have := addP_len h x hx; simp only [List.length_cons, List.length_nil] at this; omega
theorem stepP_size (cs : List Int) (g : Gr) (p : Int) : (stepP cs g p).length ≤ g.length + 4 := by
  unfold stepP
  split
  · have := addP_size g p [-1, -1]; simp only [List.length_cons, List.length_nil] at this; omega
  · have := addP_size g p [-1, cs.getD p.toNat 0, -1]; simp only [List.length_cons, List.length_nil] at this; omega
theorem fold_len {cs : List Int} : ∀ (l : List Int) (g : Gr) (B : Nat), (∀ x ∈ g, x.2.2.length ≤ B) → (∀ x ∈ l.foldl (stepP cs) g, x.2.2.length ≤ B + 3 * l.length) ∧ (l.foldl (stepP cs) g).length ≤ g.length + 4 * l.length := by
  intro l
  induction l with
  | nil => intro g B h; exact ⟨h, Nat.le_refl _⟩
  | cons p l ih =>
    intro g B h
    obtain ⟨h1, h2⟩ := ih (stepP cs g p) (B + 3) (stepP_len h)
    have h3 := stepP_size cs g p
    refine ⟨fun x hx => ?_, ?_⟩
    · have := h1 x hx; simp only [List.length_cons]; omega
    · show (l.foldl (stepP cs) (stepP cs g p)).length ≤ _
      simp only [List.length_cons]; omega
theorem sort_len {cs ns : List Int} (i : Nat) (hi : ns.length ≤ 20) : (∀ x ∈ (ns.take i).foldl (stepP cs) (addP [] (-1) []), x.2.2.length ≤ 60) ∧ ((ns.take i).foldl (stepP cs) (addP [] (-1) [])).length ≤ 81 := by
  obtain ⟨h1, h2⟩ := fold_len (cs := cs) (ns.take i) (addP [] (-1) []) 0 (by decide)
  have h3 : (ns.take i).length ≤ 20 := by rw [List.length_take]; omega
  have h4 : (addP [] (-1) []).length = 1 := by decide
  exact ⟨fun x hx => by have := h1 x hx; omega, by omega⟩
theorem fold_take {cs ns : List Int} {g : Gr} {i : Nat} {n : Int} (h : ns[i]? = some n) : (ns.take (i + 1)).foldl (stepP cs) g = stepP cs ((ns.take i).foldl (stepP cs) g) n := by
  rw [List.take_add_one, h]
  simp [List.foldl_append]
local macro_rules | `(tactic| walk_at "eval Name") => `(tactic| (k_dflt (refine' ld ?k1 ?k2 ?_; (case k1 => k_asm); (case k2 => first | exact rfl | assumption); k_whole)))
local macro_rules | `(tactic| k_room) => `(tactic| ((try simp only [depth_under_make, depth_under_kw, depth_in1, depth_deeper, depth_caller]); dsimp only [recursionLimit] at *; omega))
local macro_rules | `(tactic| walk_at "call ref") => `(tactic| ((with_reducible show wpAny _ _ (call (Value.ref _) (Value.ref _ :: _)) _ _ _); refine stop_in ?_))
theorem sorter_call {w : World} {A : Around} {s : Shared} {mean : ExcName → Option Value} {mg mb : Str → Option Value} {Q E : Value → Shared → Prop} {base : Heap} {outer : List Env} {c l : Addr}
    (hh : A.handled = none) (B : Below A base outer s.heap)
    (X : Frag.In (Mine.hd.heap_39 w.params) s.heap) (T : Top Mine.hd.view_39 (looseW Mine.hd.view_39 [Str.ofString "_NodeInfo"]) mean mg mb s.heap)
    {items : Array Value} {ep : Nat} {cs ns : List Int} (hc : s.heap.get? c = some { cls := .type "list", data := .seq items ep }) (hi : IntsAre items.toList cs) (P : Places s.heap l ns) (hcz : cs.length ≤ 20) (hns : ∀ n ∈ ns, 0 ≤ n ∧ n < cs.length) (hnl : ns.length ≤ 20)
    (hdp : A.depth + 60 < 1000) (hun : A.units + 600 < 9900)
    (ret : ∀ h' tk sa p f t1 t2 own, s.heap.StaysIn h' → NB s.heap h' own → SoL w sa .none (.int p t1) (.int f t2) (sortP cs ns) own → Q (.ref sa) { s with heap := h', toks := tk }) :
    wpAny (model PySem.Challenge.rw_nb0242_01.row.prog w) A (call (.ref 169) [.ref c, .ref l]) Q E s := by
  have X0 := X; have T0 := T
  revert X T; w_top off; k_fill; intro X T
  refine hide fun G' back' => ?_
  obtain ⟨hd, dp, fr, gd, un⟩ := A
  refine back' ?_
  clear back' G'
  have e1 : fr = some outer := B.stack
  have e2 : hd = none := hh
  subst e1 e2
  refine wpAny_call ?_
  refine codeAny_call_def (binds := [(Str.ofString "came", .ref c), (Str.ofString "places", .ref l)]) (by dsimp only [recursionLimit] at *; omega) (X 169 _ (by k_is)) rfl T.nolimit (codeRec_of X (by k_is)) rfl (BindsTo.of_eq rfl) (by decide) (locs rfl) (fun h₁ hns' keep => ?_) rfl rfl rfl
  have F : Fr s.heap s.heap.objs.size h₁ _ := ⟨hns', keep, Nat.le_refl _⟩
  have N : News s.heap s.heap.objs.size h₁ [] := News.nil
  k_steps
  rename News s.heap s.heap.objs.size _ _ => N₁
  rename Fr s.heap s.heap.objs.size _ _ => F₁
  rename Obj.IsDictOf (intKind _ _) _ _ => hdz
  rename (_ == sysModules) = false => hsm
  rename _ < _ ∧ _ < _ => q1
  rename Nat => tk₀
  obtain ⟨own₁, S₁, N₁'⟩ := sol_new N₁ hdz hsm q1
  refine Stop.out (add_in (pv := []) (ps := []) (ext := []) rfl B F₁ rfl rfl rfl X0 T0 N₁' S₁ (fun _ h => nomatch h) (by simp only [depth_deeper] at *; omega) (by simp only [Around.deeper_units] at *; omega) (by simp) (fun _ h => nomatch h) .nil (by simp) ?_ fun h₂ tk₂ own₂ S₂ off₂ F₂ N₂ => ?_)
  · rintro fd ⟨o, ho, hf⟩
    have hl := (fun (o' : Obj) (e : (Mine.hd.heap_39 w.params).lookup 94 = some o') => e) _ (by k_is)
    rw [hl] at ho; cases ho; cases hf; rfl
  clear N₁ F₁ N₁' S₁ own₁ hdz hsm q1
  dsimp only at S₂ ⊢
  have hsB := fun i => sort_len (cs := cs) i hnl
  generalize hg0 : addP [] (-1) [] = g0 at S₂ hsB
  k_steps
  rename Fr s.heap s.heap.objs.size _ _ => F₅
  rename News s.heap s.heap.objs.size _ _ => N₅
  refine places_inv (fun i m news => ∃ sa p f t1 t2, m (Str.ofString "sorter") = some (.ref sa) ∧ m (Str.ofString "came") = some (.ref c) ∧ SoL w sa .none (.int p t1) (.int f t2) ((ns.take i).foldl (stepP cs) g0) news) rfl P ?_ F₅ N₅ ⟨_, _, _, _, _, rfl, rfl, by rw [List.append_nil]; exact S₂⟩ ?_ ?_
  · cases P with
    | range h _ _ => exact Nat.ne_of_lt (Heap.lt_size h)
    | list h _ => exact Nat.ne_of_lt (Heap.lt_size h)
    | tuple h _ => exact Nat.ne_of_lt (Heap.lt_size h)
  · intro I i n t m₁ news₁ h tk' oI hn hp1 hoff F₃ N₃
    refine hide fun G' back' => ?_
    obtain ⟨sa, p, f, t1, t2, hm1, hm2, S₃⟩ := hp1
    refine back' ?_
    clear back' G'
    refine hideQ fun Q₃ back₃ => ?_
    have hoff' : Off news₁ [(I, oI)] := by
      intro q hq z
      rw [List.mem_singleton.mp hq] at z
      obtain ⟨q', hq', e⟩ := List.mem_map.mp z
      exact hoff q' hq' e
    have N₄ : News s.heap s.heap.objs.size h (news₁ ++ [(I, oI)]) := fun q hq => N₃ q (by
      rcases List.mem_append.mp hq with hq | hq
      · exact .tail _ hq
      · rw [List.mem_singleton.mp hq]; exact .head _)
    obtain ⟨hn0, hn1⟩ := hns n (List.mem_of_getElem? hn)
    have hi20 : i ≤ 20 := by
      have := (List.getElem?_eq_some_iff.mp hn).1
      omega
    have hcl : s.heap.IsList c items.toList.toArray := ⟨_, hc, rfl, ep, rfl⟩
    have S₃' := S₃
    refine hide fun G' back' => ?_
    obtain ⟨dx, nd, od, u1, u2, u3, u4, rs, rfl, hd₃, hsm₃, wf₃, ha₃⟩ := S₃
    refine back' ?_
    clear back' G'
    clear N₃
    k_steps
    · rename _ = n => hcn
      refine Stop.out (add_in (ps := [-1, -1]) rfl B F₃ rfl rfl rfl X0 T0 N₄ S₃' hoff' (by simp only [depth_deeper] at *; omega) (by simp only [Around.deeper_units] at *; omega) (by have := (hsB i).2; omega) (fun x hx => by have := (hsB i).1 x hx; omega) (.cons _ _ (.cons _ _ .nil)) (by simp) ?_ fun h₂ tk₂ own₂ S₂ off₂ F₂ N₂ => ?_)
      · rintro fd ⟨o, ho, hf⟩
        have hl := (fun (o' : Obj) (e : (Mine.hd.heap_39 w.params).lookup 94 = some o') => e) _ (by k_is)
        rw [hl] at ho; cases ho; cases hf; rfl
      clear N₄ F₃
      k_steps
      rename Fr s.heap s.heap.objs.size _ _ => F₅
      rename News s.heap s.heap.objs.size _ _ => N₅
      refine back₃ _ _ ?_
      refine ⟨_, _, _, own₂, rfl, F₅, fun q hq => N₅ q ?_, ?_, sa, p, f, t1, t2, hm1, hm2, ?_⟩
      · rcases List.mem_cons.mp hq with rfl | hq
        · exact List.mem_append_right _ (.head _)
        · exact List.mem_append_left _ hq
      · intro q hq e
        exact off₂ (I, oI) (.head _) (List.mem_map.mpr ⟨q, hq, e⟩)
      · rw [fold_take hn]
        unfold stepP
        rw [if_pos hcn]
        exact S₂
    · rename _ ≠ n => hcn
      refine Stop.out (add_in (ps := [-1, cs.getD n.toNat 0, -1]) rfl B F₃ rfl rfl rfl X0 T0 N₄ S₃' hoff' (by simp only [depth_deeper] at *; omega) (by simp only [Around.deeper_units] at *; omega) (by have := (hsB i).2; omega) (fun x hx => by have := (hsB i).1 x hx; omega) (.cons _ _ (.cons _ _ (.cons _ _ .nil))) (by simp) ?_ fun h₂ tk₂ own₂ S₂ off₂ F₂ N₂ => ?_)
      · rintro fd ⟨o, ho, hf⟩
        have hl := (fun (o' : Obj) (e : (Mine.hd.heap_39 w.params).lookup 94 = some o') => e) _ (by k_is)
        rw [hl] at ho; cases ho; cases hf; rfl
      clear N₄ F₃
      k_steps
      rename Fr s.heap s.heap.objs.size _ _ => F₅
      rename News s.heap s.heap.objs.size _ _ => N₅
      refine back₃ _ _ ?_
      refine ⟨_, _, _, own₂, rfl, F₅, fun q hq => N₅ q ?_, ?_, sa, p, f, t1, t2, hm1, hm2, ?_⟩
      · rcases List.mem_cons.mp hq with rfl | hq
        · exact List.mem_append_right _ (.head _)
        · exact List.mem_append_left _ hq
      · intro q hq e
        exact off₂ (I, oI) (.head _) (List.mem_map.mpr ⟨q, hq, e⟩)
      · rw [fold_take hn]
        unfold stepP
        rw [if_neg hcn]
        exact S₂
  · intro m₁ news₁ h tk' hp1 F₃ N₃
    refine hide fun G' back' => ?_
    obtain ⟨sa, p, f, t1, t2, hm1, hm2, S₃⟩ := hp1
    refine back' ?_
    clear back' G'
    k_steps
    rw [List.take_length] at S₃
    subst hg0
    exact ret _ _ sa p f t1 t2 news₁ F₃.keep (NB.of N₃) S₃
end Mine
end
section
open PySem PySem.W PySem.W.X PySem.Calls PyProof.Rows
set_option Elab.async false
set_option maxRecDepth 100000
set_option maxHeartbeats 1000000
namespace Mine
theorem slot_li_ga : Slot "list_iterator" "__getattribute__" "object.__getattribute__" :=
  .of (owner := "object") (n := "__getattribute__") (by rw [typeLookup_type, builtinLookup_eq_fast]; kernel_rfl) (by decide +kernel) (by decide +kernel) (by decide +kernel)
    (by first | exact .inl (by decide +kernel) | exact .inr (by decide +kernel)) (by rw [isSubtype_type]; kernel_rfl)
theorem args_li_ga (a b : Value) : argsOk "object.__getattribute__" ⟨[a, b], []⟩ := by unfold argsOk; kernel_rfl
theorem entry_li_ga : entryFor table "object.__getattribute__" = some Builtin.«object.__getattribute__» := entryFor_of_tree (by kernel_rfl)
theorem lk_li_next : typeLookup (.type "list_iterator") "__next__" = pure (some (.builtin "list_iterator.__next__")) := by rw [typeLookup_type, builtinLookup_eq_fast]; kernel_rfl
theorem typeOf_li_next : typeOf (.builtin "list_iterator.__next__") = pure (.type "wrapper_descriptor") := by show builtinType _ = _; rw [builtinType_eq_fast]; kernel_rfl
theorem slot_wd_get : Slot "wrapper_descriptor" "__get__" "wrapper_descriptor.__get__" :=
  .of (owner := "wrapper_descriptor") (n := "__get__") (by rw [typeLookup_type, builtinLookup_eq_fast]; kernel_rfl) (by decide +kernel) (by decide +kernel) (by decide +kernel)
    (by first | exact .inl (by decide +kernel) | exact .inr (by decide +kernel)) (by rw [isSubtype_type]; kernel_rfl)
theorem nowd_set : typeLookup (.type "wrapper_descriptor") "__set__" = pure none := by rw [typeLookup_type, builtinLookup_eq_fast]; kernel_rfl
theorem nowd_del : typeLookup (.type "wrapper_descriptor") "__delete__" = pure none := by rw [typeLookup_type, builtinLookup_eq_fast]; kernel_rfl
theorem entry_wd_get : entryFor table "wrapper_descriptor.__get__" = some Builtin.«wrapper_descriptor.__get__» := entryFor_of_tree (by kernel_rfl)
theorem entry_wd_get_obj : entryFor table ("wrapper_descriptor.__get__" ++ "#obj") = some Builtin.«wrapper_descriptor.__get__#obj» := entryFor_of_tree (by kernel_rfl)
theorem args_wd_get (a b c : Value) : argsOk "wrapper_descriptor.__get__" ⟨[a, b, c], []⟩ := by unfold argsOk; kernel_rfl
theorem owner_li_next : ".".intercalate ("list_iterator.__next__".cutAt '.').dropLast = "list_iterator" := by decide +kernel
theorem sub_li : isSubtype (.type "list_iterator") (.type (".".intercalate ("list_iterator.__next__".cutAt '.').dropLast)) = pure true := by rw [owner_li_next, isSubtype_type]; kernel_rfl
section
variable {prog : Program} {w : World} {A : Around} {E : Value → Shared → Prop} {h : Heap} {g : Array GenState} {d : Drawn} {t : Nat} {os : OsState} {a : Addr} {o : Obj}
noncomputable abbrev bnd (a : Addr) : Obj := { cls := .type "method-wrapper", data := .fields #[.builtin "list_iterator.__next__", .ref a] }
theorem next_get {R : Result → Shared → Prop} (hx : h.get? a = some o) (hc : o.cls = .type "list_iterator") (hq : R (.ok (.ret (.ref h.objs.size))) ⟨h.push (bnd a), g, d, t, os⟩) :
    codeAny (model prog w) A (.call (.builtin "wrapper_descriptor.__get__") ⟨[.builtin "list_iterator.__next__", .ref a, .type "list_iterator"], []⟩) R ⟨h, g, d, t, os⟩ := by
  have hT : (⟨h, g, d, t, os⟩ : Shared).TypeIs (.ref a) "list_iterator" := ⟨_, hx, hc⟩
  have hT5 : (⟨h, g, d, t, os⟩ : Shared).TypeIs (.builtin "list_iterator.__next__") "wrapper_descriptor" := typeOf_li_next
  have f8 := sub_li
  refine codeAny_call_builtin slot_wd_get.plain entry_wd_get (slot_wd_get.check _ _ _ _ _ _ _ _ hT5 (args_wd_get _ _ _) ?_)
  unfold Builtin.«wrapper_descriptor.__get__»
  repeat (any_goals (first | assumption | wp_step))
theorem next_entry {tk : Tok} {Q : Fin → Shared → Prop} (hx : h.get? a = some o) (hc : o.cls = .type "list_iterator") {vs : Array Value} (hdn : o.dict = none) (hdat : o.data = .fields vs) (hq : Q (.done (.ret (.ref h.objs.size))) ⟨h.push (bnd a), g, d, t, os⟩) :
    wpAny (model prog w) A (Builtin.«object.__getattribute__» ⟨[.ref a, .str "__next__" tk], []⟩) Q E ⟨h, g, d, t, os⟩ := by
  have hT : (⟨h, g, d, t, os⟩ : Shared).TypeIs (.ref a) "list_iterator" := ⟨_, hx, hc⟩
  have hT5 : (⟨h, g, d, t, os⟩ : Shared).TypeIs (.builtin "list_iterator.__next__") "wrapper_descriptor" := typeOf_li_next
  have f4 := lk_li_next
  have f5 := typeOf_li_next
  have f6 := slot_wd_get.lookup
  have f7 := nowd_set
  have f9 := nowd_del
  obtain ⟨c, dct, dat, sl⟩ := o
  simp only at hc hdn hdat
  subst hc hdn hdat
  repeat (any_goals (first | assumption | wp_step))
  refine next_get hx rfl ?_
  repeat (any_goals (first | assumption | wp_step))
theorem next_call {tk : Tok} {R : Result → Shared → Prop} (hx : h.get? a = some o) (hc : o.cls = .type "list_iterator") {vs : Array Value} (hdn : o.dict = none) (hdat : o.data = .fields vs) (hq : R (.ok (.ret (.ref h.objs.size))) ⟨h.push (bnd a), g, d, t, os⟩) :
    codeAny (model prog w) A (.call (.builtin "object.__getattribute__") ⟨[.ref a, .str "__next__" tk], []⟩) R ⟨h, g, d, t, os⟩ :=
  codeAny_call_builtin slot_li_ga.plain entry_li_ga (slot_li_ga.check _ _ _ _ _ _ _ _ (show (⟨h, g, d, t, os⟩ : Shared).TypeIs (.ref a) "list_iterator" from ⟨_, hx, hc⟩) (args_li_ga _ _) (next_entry hx hc hdn hdat hq))
theorem next_by {tk : Tok} {Q : Value → Shared → Prop} (hx : h.get? a = some o) (hc : o.cls = .type "list_iterator") {vs : Array Value} (hdn : o.dict = none) (hdat : o.data = .fields vs) (hq : Q (.ref h.objs.size) ⟨h.push (bnd a), g, d, t, os⟩) : wpAny (model prog w) A (getAttrBy (.ref a) (.str "__next__" tk) true true) Q E ⟨h, g, d, t, os⟩ := by
  have hT : (⟨h, g, d, t, os⟩ : Shared).TypeIs (.ref a) "list_iterator" := ⟨_, hx, hc⟩
  have f2 := slot_li_ga.lookup
  have f3 := slot_li_ga.bind (.ref a)
  repeat (any_goals (first | assumption | wp_step))
  refine next_call hx hc hdn hdat ?_
  repeat (any_goals (first | assumption | wp_step))
theorem next_attr {s : Shared} {Q : Value → Shared → Prop} (hx : s.heap.get? a = some o) (hc : o.cls = .type "list_iterator") {vs : Array Value} (hdn : o.dict = none) (hdat : o.data = .fields vs) (hq : ∀ tk, Q (.ref s.heap.objs.size) { s with heap := s.heap.push (bnd a), toks := tk }) : wpAny (model prog w) A (getAttr (.ref a) (Str.ofString "__next__") true) Q E s := by
  unfold getAttr
  obtain ⟨h, g, d, t, os⟩ := s
  refine wpAny_bind (wpAny_mkText ?_)
  exact next_by hx hc hdn hdat (hq _)
end
end Mine
end
section
open PySem PySem.W PySem.W.X PySem.Calls PyProof.Rows
set_option Elab.async false
set_option maxRecDepth 100000
set_option maxHeartbeats 1000000
namespace Mine
/-- an exception of a built-in class, made behind h -/
structure ExcNew (h h' : Heap) (e : Addr) (X : String) : Prop where
  keeps : ∀ b o, h.get? b = some o → h'.get? b = some o
  new : h.get? e = none
  there : ∃ oe vs a0, h'.get? e = some oe ∧ oe.cls = .type X ∧ oe.data = .fields vs ∧ vs[0]? = some a0 ∧ vs[1]? = some .none
section
variable {M : Model} {A : Around} {E : Value → Shared → Prop} {s : Shared}
theorem noteFrame_firstW {base : Heap} {env : Env} {outer : List Env} {L e : Addr} {oe : Obj} {vs : Array Value} {a0 : Value} {Q : Unit → Shared → Prop}
    (hfr : A.frames = some (env :: outer)) (hl : s.heap.FunFrames base (env :: outer)) (hf : env.frame = some L)
    (he : s.heap.get? e = some oe) (hkb : base.StaysIn s.heap) (hen : base.get? e = none) (hd : oe.data = .fields vs) (h1 : vs[1]? = some .none) (h0 : vs[0]? = some a0)
    (h : ∀ h', Heap.NotedW base (env :: outer) e oe.cls a0 (rawInt L) s.heap h' → Q () { s with heap := h' }) : wpAny M A (noteFrame (.ref e) env) Q E s := by
  unfold noteFrame
  simp only [hf]
  refine wpAny_bind (wpAny_field he hd h1 ?_)
  rw [if_neg (by decide)]
  exact wpAny_entryW hfr hl hf he hkb hen hd (Array.getElem?_eq_some_iff.mp h1).1 h0 h
end
section
variable {prog : Program} {w : World} {A₀ : Around} {E : Value → Shared → Prop} {s' : Shared} {base g g₀ h : Heap} {outer : List Env} {L a e : Addr} {m : Str → Option Value} {name : Str} {scope : Scope} {cd : Value}
  {b₀ : Stmt} {suite : List Stmt} {pos np : Pos} {rest : List ExceptHandler} {Q : Flow → Shared → Prop} {news : List (Addr × Obj)} {KF : Frag}
  {p : Program} {loose : List Str} {mean : ExcName → Option Value} {mg mb : Str → Option Value} {x : Str} {X T' : String}
/-- an exception raised in the frame itself is caught there -/
theorem caught_new (K : Below A₀ base outer g) (hx : ExcNew h s'.heap e X) (F : Fr g L h m) (N : News g L h news) (XB : KF.In base) (TB : Top p loose mean mg mb base)
    (D : KtsDicts (outer.filterMap (·.frame)) g) (T0 : KtsTurn (outer.filterMap (·.frame)) g₀ g)
    (ex : nsIn KF mainGlobals x = some none) (hv : bootBuiltins x = some (.type T')) (hn' : x ≠ "__name__")
    (hexc : isSubtype (.type T') (.type "BaseException") = pure true) (hnt : isSubtype (.type ((Manifest.find? T').elim "type" fun y => y.metatype)) (.type "tuple") = pure false) (hsub : isSubtype (.type X) (.type T') = pure true)
    (k : ∀ h' g', KtsTurn (outer.filterMap (·.frame)) g₀ g' → Fr g' L h' m → News g' L h' news → Below A₀ base outer g' → KF.In g' → Top p loose mean mg mb g' → KtsDicts (outer.filterMap (·.frame)) g' →
      wpAny (model prog w) ((A₀.deeper (envOf name scope L a cd)).mark (some (.ref e))) (execs (b₀ :: suite) (envOf name scope L a cd)) Q E { s' with heap := h' })
    (hk : scope.kind = .function := by rfl) (hx' : (envOf name scope L a cd).kindOf x = some .globalImplicit := by rfl) (hd : (x == ("__debug__" : Str)) = false := by decide)
    (hE : PassesOwnAt (model prog w) ((A₀.deeper (envOf name scope L a cd)).mark (some (.ref e))) (A₀.deeper (envOf name scope L a cd)) (envOf name scope L a cd) E := by passes_own) :
    wpAny (model prog w) (A₀.deeper (envOf name scope L a cd)) (noteFrame (.ref e) (envOf name scope L a cd))
      (fun _ s₂ => wpAny (model prog w) (A₀.deeper (envOf name scope L a cd)) (setFlight (.ref e) none) (fun _ s₃ =>
        wpAny (model prog w) (A₀.deeper (envOf name scope L a cd)) (handleBy (.ref e) (envOf name scope L a cd) (.ExceptHandler (some (.Name x np)) none (b₀ :: suite) pos :: rest)) Q E s₃) E s₂) E s' := by
  have K' := K.push (name := name) (a := a) (cd := cd) F hk
  have hin : ∀ env ∈ (envOf name scope L a cd :: outer), ∀ b, env.frame = some b → b ∈ (envOf name scope L a cd :: outer).filterMap (·.frame) := fun env he b hb => List.mem_filterMap.mpr ⟨env, he, hb⟩
  have hl : ∀ q ∈ news, (hideAll h ((envOf name scope L a cd :: outer).filterMap (·.frame))).get? q.1 = some q.2 ∧ g.get? q.1 = none := fun q hq => by
    refine ⟨hideAll_get _ (N q hq).1 fun hm => ?_, (N q hq).2.2⟩
    obtain ⟨env, he, hf⟩ := List.mem_filterMap.mp hm
    rcases List.mem_cons.mp he with rfl | he
    · exact (N q hq).2.1 (Option.some.inj hf).symm
    · obtain ⟨o, ho, _⟩ := (K.frames.mem (List.mem_filterMap.mpr ⟨env, he, hf⟩)).2
      rw [(N q hq).2.2] at ho; cases ho
  obtain ⟨oe, vs, a0, he, hcls, hdat, h0, h1⟩ := hx.there
  have hen : (hideAll h ((envOf name scope L a cd :: outer).filterMap (·.frame))).get? e = none := by
    cases q : (hideAll h ((envOf name scope L a cd :: outer).filterMap (·.frame))).get? e with
    | none => rfl
    | some o => have := of_hideAll _ q; rw [hx.new] at this; cases this
  have hBG : ∀ b o, h.get? b = some o → b ∉ (envOf name scope L a cd :: outer).filterMap (·.frame) → (hideAll h ((envOf name scope L a cd :: outer).filterMap (·.frame))).get? b = some o := fun b o q nm => hideAll_get _ q nm
  have hL : (hideAll h ((envOf name scope L a cd :: outer).filterMap (·.frame))).get? L = none := hideAll_none _ (List.mem_filterMap.mpr ⟨_, .head _, rfl⟩)
  refine noteFrame_firstW (base := hideAll h ((envOf name scope L a cd :: outer).filterMap (·.frame))) K'.stack ((funFrames_hide K'.frames hin).of_keeps fun b o hb _ => ⟨o, hx.keeps b o hb, rfl⟩) rfl he (fun b o hb => hx.keeps b o (of_hideAll _ hb)) hen hdat h1 h0 fun h₄ hN => ?_
  obtain ⟨k1, k2, k3, hsm₄⟩ := hN
  have hheld₄ : Heap.HeldW (hideAll h ((envOf name scope L a cd :: outer).filterMap (·.frame))) (envOf name scope L a cd :: outer) e (.type X) a0 L h₄ := ⟨k1, hen, k2, by rw [← hcls]; exact k3⟩
  have hsm : h.UpToSlots s'.heap := .of_keeps hx.keeps
  refine wpAny_landsW hheld₄ fun h₅ hheld hsm₅' => ?_
  have hsm₅ : s'.heap.UpToSlots h₅ := Heap.UpToSlots.trans hsm₄ hsm₅'
  obtain ⟨g₅, T₅, F₅, K₅⟩ := kts_ground K F hBG hheld.1 (hsm.trans hsm₅)
  have X₅ : KF.In g₅ := XB.keeps K₅.stays
  have P₅ : TopRead p loose mg mb g₅ := topRead_of (TB.keeps K₅.stays)
  obtain ⟨ob, hob, hobc⟩ := hheld.there
  refine wpAny_handleBy_builtin (X := X) (T := T') (b := true) hexc hnt hsub (name_B F₅ X₅ P₅ ex hv hn' ⟨rfl, ⟨ob, hob, hobc⟩, ?_⟩ hk hx' hd)
  refine lands_againW hheld fun h₆ hfl₆ hsm₆ => ?_
  obtain ⟨g₆, T₆, F₆, K₆⟩ := kts_ground K F hBG hfl₆.1 ((hsm.trans hsm₅).trans hsm₆)
  have Nl : News g₆ L h₆ news := fun q hq => ⟨hfl₆.1 _ _ (hl q hq).1, (fun z => by have := (hl q hq).1; rw [z, hL] at this; cases this), T₆.none_ _ (hl q hq).2⟩
  exact wpAny_passesOwnAt hE (k h₆ g₆ (T0.trans T₆) F₆ Nl K₆ (XB.keeps K₆.stays) (TB.keeps K₆.stays) (D.turn T₆))
end
/-- back behind a call that turned the frames below it -/
theorem reground {A₀ : Around} {base h₀ h h' g' : Heap} {outer : List Env} {L a : Addr} {m : Str → Option Value} {cn : Str} {cs : Scope} {ccd : Value} {news : List (Addr × Obj)}
    (B : Below A₀ base outer h₀) (F : Fr h₀ L h m) (N : News h₀ L h news) (T : KtsTurn ((envOf cn cs L a ccd :: outer).filterMap (·.frame)) h g') (st : g'.StaysIn h') :
    ∃ h₀', KtsTurn (outer.filterMap (·.frame)) h₀ h₀' ∧ Fr h₀' L h' m ∧ News h₀' L h' news ∧ Below A₀ base outer h₀' := by
  have nL : h₀.get? L = none := kts_self F
  obtain ⟨T₁, S₁⟩ := kts_turn_at (h := h') (fs := outer.filterMap (·.frame)) (g := h₀)
    (fun b hb => by
      obtain ⟨_, o, ho, _⟩ := B.frames.mem hb
      exact ⟨o, ho⟩)
    (fun b o e nm => st _ _ (T.other b o (F.keep b o e) fun q => by
      rcases kts_mem q with z | z
      · rw [z, nL] at e; cases e
      · exact nm z))
    (fun b o e hm => by
      obtain ⟨sl, hs⟩ := T.up (F.keep b o e)
      exact ⟨sl, st _ _ hs⟩)
  obtain ⟨oL, es, ep, hL, hLd, hLk, hLf⟩ := F.ns
  obtain ⟨sl, hs⟩ := T.up hL
  refine ⟨_, T₁, ⟨⟨_, es, ep, st _ _ hs, hLd, hLk, hLf⟩, S₁, by rw [T₁.size]; exact F.above⟩, fun q hq => ⟨st _ _ (T.other _ _ (N q hq).1 fun z => ?_), (N q hq).2.1, T₁.none_ _ (N q hq).2.2⟩, ⟨B.stack, fun b o e => T₁.other b o (B.stays b o e) (fun hm => by
    rw [(B.frames.mem hm).1] at e
    cases e), B.frames.of_keeps fun b o e _ => by
    obtain ⟨sl', hs'⟩ := T₁.up e
    exact ⟨_, hs', rfl⟩⟩⟩
  rcases kts_mem z with z | z
  · exact (N q hq).2.1 z
  · obtain ⟨o, ho, _⟩ := (B.frames.mem z).2
    rw [(N q hq).2.2] at ho; cases ho
end Mine
end
section
open PySem PySem.W PySem.W.X PySem.Calls PyProof.Rows
set_option Elab.async false
set_option maxRecDepth 100000
set_option maxHeartbeats 1000000
namespace Mine
theorem check_next (a : Addr) : checkBoundCall "list_iterator.__next__" ⟨[.ref a], []⟩ = pure () := by first | kernel_rfl | rfl
theorem quiet_next (args : Args) : (Code.builtin "list_iterator.__next__" args).quiet = true := Code.quiet_builtin _ (by decide +kernel)
section
variable {prog : Program} {w : World} {A : Around} {E : Value → Shared → Prop} {s : Shared} {b it l : Addr} {i : Nat} {items : Array Value} {Q : Value → Shared → Prop}
theorem bnd_run (ho : s.heap.get? b = some (bnd it))
    (h : wpAny (model prog w) (A.under (.builtin "list_iterator.__next__" ⟨[.ref it], []⟩)) (Builtin.«list_iterator.__next__» ⟨[.ref it], []⟩) (fun fin s' => match fin with | .done f => (∃ v, f = .ret v ∧ Q v s') | .again _ => False) E s) : wpAny (model prog w) A (call (.ref b) []) Q E s := by
  refine wpAny_call (codeAny_of_tree ?_)
  show wpAny _ A.in1 (callAny (.ref b) ⟨[], []⟩) _ _ s
  simp only [callAny]
  refine wpAny_bind (wpAny_load ho ?_)
  simp only [show (Value.type "method-wrapper" == Value.type "method" || Value.type "method-wrapper" == Value.type "builtin_function_or_method" || Value.type "method-wrapper" == Value.type "method-wrapper") = true by decide, if_true]
  show wpAny _ _ (if (Value.type "method-wrapper" != Value.type "method") = true then _ else _) _ _ _
  rw [if_pos (by decide)]
  refine wpAny_bind (wpAny_of_eq (a := ()) (check_next it) (wpAny_pure ⟨quiet_next _, codeAny_builtin entry_listiter_next (wpAny_mono h (fun fin s' hf => ?_) fun _ _ x => x)⟩))
  cases fin with
  | done f => obtain ⟨v, rfl, hv⟩ := hf; exact hv
  | again c => exact hf.elim
theorem bnd_item {o : Obj} {x : Value} (ho : s.heap.get? b = some (bnd it)) (hit : s.heap.get? it = some (listIt l i)) (hl : s.heap.get? l = some o) {n : Nat} (hdl : o.data = .seq items n) (hx : items[i]? = some x)
    (hQ : ∀ h', h'.get? it = some (listIt l (i + 1)) → Heap.SameBut it s.heap h' → Q x { s with heap := h' }) : wpAny (model prog w) A (call (.ref b) []) Q E s := by
  refine bnd_run ho ?_
  show wpAny _ _ (field (.ref it) 0 >>= _) _ _ s
  refine wpAny_bind (wpAny_field hit rfl (x := .ref l) rfl ?_)
  show wpAny _ _ (if (Value.ref l == Value.none) = true then _ else _) _ _ s
  rw [if_neg (show ¬ ((Value.ref l == Value.none) = true) from Bool.false_ne_true)]
  show wpAny _ _ (field (.ref it) 1 >>= _) _ _ s
  refine wpAny_bind (wpAny_field hit rfl (x := .int i 0) rfl ?_)
  show wpAny _ _ (seqItems? (.ref l) >>= _) _ _ s
  refine wpAny_bind (wpAny_seqItems hl hdl ?_)
  simp only [Int.toNat_natCast, hx]
  refine wpAny_bind (wpAny_setField hit rfl (by simp) (wpAny_pure ⟨x, rfl, hQ _ ?_ (Heap.SameBut.update ..)⟩))
  have z := Heap.get?_update_self (Obj.mapFields (·.setIfInBounds 1 (rawInt ((i : Int) + 1)))) hit (Obj.isFreed_of_fields (Obj.data_mapFields rfl _))
  rw [z]
  simp [Obj.mapFields, rawInt]
theorem bnd_end {o : Obj} (hh : A.handled = none) (ho : s.heap.get? b = some (bnd it)) (hit : s.heap.get? it = some (listIt l i)) (hl : s.heap.get? l = some o) {n : Nat} (hdl : o.data = .seq items n) (hx : items[i]? = none)
    (hE : ∀ h₁ h' e, Heap.SameBut it s.heap h₁ → ExcNew h₁ h' e "StopIteration" → E (.ref e) { s with heap := h' }) : wpAny (model prog w) A (call (.ref b) []) Q E s := by
  refine bnd_run ho ?_
  show wpAny _ _ (field (.ref it) 0 >>= _) _ _ s
  refine wpAny_bind (wpAny_field hit rfl (x := .ref l) rfl ?_)
  show wpAny _ _ (if (Value.ref l == Value.none) = true then _ else _) _ _ s
  rw [if_neg (show ¬ ((Value.ref l == Value.none) = true) from Bool.false_ne_true)]
  show wpAny _ _ (field (.ref it) 1 >>= _) _ _ s
  refine wpAny_bind (wpAny_field hit rfl (x := .int i 0) rfl ?_)
  show wpAny _ _ (seqItems? (.ref l) >>= _) _ _ s
  refine wpAny_bind (wpAny_seqItems hl hdl ?_)
  simp only [Int.toNat_natCast, hx]
  refine wpAny_bind (wpAny_rule (wpAny_bind (wpAny_setField hit rfl (by simp) ?_)))
  show wpAny _ _ (newExc (.type "StopIteration") [] >>= _) _ _ _
  refine wpAny_bind ?_
  simp only [newExc, newTuple]
  refine wpAny_bind (wpAny_newObj_type ?_ (by size_fits))
  refine wpAny_bind (m := firstArgMember _ _) (wpAny_of_eq (a := Value.none) (by first | rfl | (simp only [firstArgMember]; rfl)) ?_)
  refine wpAny_newObj_type ?_ (by size_fits)
  simp only [raiseNew]
  refine wpAny_bind (wpAny_handled ?_)
  rw [show (A.under (.builtin "list_iterator.__next__" ⟨[.ref it], []⟩)).handled = none from hh]
  refine wpAny_bind (wpAny_pure (wpAny_throw ?_))
  refine hE (s.heap.update it (Obj.mapFields (·.setIfInBounds 0 .none))) _ _ (Heap.SameBut.update ..) ⟨fun b o e => Heap.get?_push_of_some _ (Heap.get?_push_of_some _ e), Heap.get?_none_of_le (by simp), ⟨_, _, Value.ref (s.heap.update it (Obj.mapFields (·.setIfInBounds 0 .none))).objs.size, Heap.get?_push_size _ rfl, rfl, rfl, by first | rfl | simp, by first | rfl | simp⟩⟩
end
end Mine
end
section
open PySem PySem.W PySem.W.X PySem.Calls PyProof.Rows
set_option Elab.async false
set_option maxRecDepth 100000
set_option maxHeartbeats 1000000
namespace Mine
noncomputable def sucOf (gr : Gr) (k : Int) : List Int := ((gr.find? fun x => decide (x.1 = k)).map (·.2.2)).getD []
noncomputable def popGo (gr : Gr) : List (Int × Nat) → Option (Int × List (Int × Nat))
  | [] => none
  | (n, k) :: r => match (sucOf gr n)[k]? with
    | some v => some (v, (n, k + 1) :: r)
    | none => popGo gr r
noncomputable def dfs (gr : Gr) : Nat → Int → List (Int × Nat) → List Int → Option (Sum (List Int) (List Int))
  | 0, _, _, _ => none
  | f + 1, v, st, seen =>
    if v ∈ seen then
      if v ∈ st.map (·.1) then some (.inl (((st.map (·.1)).reverse.drop ((st.map (·.1)).reverse.idxOf v)) ++ [v]))
      else match popGo gr st with
        | none => some (.inr seen)
        | some (v', st') => dfs gr f v' st' seen
    else if v ∈ gr.map (·.1) ∧ seen.length ≤ 200 ∧ st.length ≤ 200 then
      match popGo gr ((v, 0) :: st) with
      | none => some (.inr (v :: seen))
      | some (v', st') => dfs gr f v' st' (v :: seen)
    else none
noncomputable def findGo (gr : Gr) (fuel : Nat) : List Int → List Int → Option (Option (List Int))
  | [], _ => some none
  | k :: ks, seen => if k ∈ seen then findGo gr fuel ks seen else match dfs gr fuel k [] seen with
    | none => none
    | some (.inl r) => some (some r)
    | some (.inr seen') => findGo gr fuel ks seen'
noncomputable def findP (gr : Gr) (fuel : Nat) : Option (Option (List Int)) := findGo gr fuel (gr.map (·.1)) []
/-- an open node: its bound iterator -/
structure Fe where
  node : Int
  pos : Nat
  b : Addr
  I : Addr
  la : Addr
noncomputable def fled (fs : List Fe) : List (Addr × Obj) := fs.flatMap fun f => [(f.b, bnd f.I), (f.I, listIt f.la f.pos)]
noncomputable def stOf (fs : List Fe) : List (Int × Nat) := fs.map fun f => (f.node, f.pos)
noncomputable abbrev ikO (fs : List Fe) (a : Nat) : Obj := W.listOf (fs.reverse.map fun f => Value.ref f.b).toArray a
noncomputable abbrev ledF (dn se ik sk : Addr) (no so : Obj) (fs : List Fe) (a b : Nat) (vs : List Value) (ext : List (Addr × Obj)) : List (Addr × Obj) :=
  (dn, no) :: (se, so) :: (ik, ikO fs a) :: (sk, W.listOf vs.toArray b) :: (fled fs ++ ext)
def KV (kvs : List (Int × Value)) (ns : List Int) : Prop := kvs.map (·.1) = ns ∧ ∀ (j : Nat) (kv : Int × Value), kvs[j]? = some kv → ∃ t, kv.2 = Value.int (j : Nat) t
structure FS (w : World) (rs : List NR) (dn se ik sk : Addr) (no so : Obj) (fs : List Fe) (seen : List Int) (vs : List Value) (ext : List (Addr × Obj)) : Prop where
  nd : (dn :: se :: ik :: sk :: (fled fs ++ ext).map (fun x : Addr × Obj => x.1)).Nodup
  dict : ∃ kvs, no.IsDictOf (intKind PySem.Challenge.rw_nb0242_01.row.prog w) kvs ∧ KV kvs (fs.reverse.map (·.node))
  isInts : IntsAre vs (fs.reverse.map (·.node))
  isSet : ∃ n, so.SetObjOf (intKind PySem.Challenge.rw_nb0242_01.row.prog w) (fun k => decide (k ∈ seen)) n ∧ n ≤ seen.length
  recs : ∀ f ∈ fs, ∃ r ∈ rs, r.key = f.node ∧ r.la = f.la
  sm : (dn == sysModules) = false
  inSeen : ∀ f ∈ fs, f.node ∈ seen
  nodes : (fs.map (·.node)).Nodup
  slen : seen.length ≤ 201
  flen : fs.length ≤ 201
theorem nd_split {pre post : List (Addr × Obj)} {d : Addr} {o : Obj} (h : ((pre ++ (d, o) :: post).map (fun x : Addr × Obj => x.1)).Nodup) : (∀ p ∈ pre, p.1 ≠ d) ∧ (∀ p ∈ post, p.1 ≠ d) := by
  rw [List.map_append, List.map_cons, List.nodup_append] at h
  obtain ⟨_, h2, h3⟩ := h
  rw [List.nodup_cons] at h2
  refine ⟨fun p hp e => h3 p.1 (List.mem_map_of_mem hp) d (.head _) e, fun p hp e => h2.1 (List.mem_map.mpr ⟨p, hp, e⟩)⟩
theorem find_idx {k : Int} : ∀ (kvs : List (Int × Value)), k ∈ kvs.map (·.1) → ∃ kv, kvs.find? (fun kv => decide (kv.1 = k)) = some kv ∧ kvs[(kvs.map (·.1)).idxOf k]? = some kv := by
  intro kvs
  induction kvs with
  | nil => intro h; simp at h
  | cons x r ih =>
    intro h
    by_cases e : x.1 = k
    · refine ⟨x, by rw [List.find?_cons_of_pos (by simpa using e)], ?_⟩
      rw [List.map_cons, List.idxOf_cons, e]; simp
    · have h' : k ∈ r.map (·.1) := by
        rw [List.map_cons] at h
        rcases List.mem_cons.mp h with q | q
        · exact absurd q.symm e
        · exact q
      obtain ⟨kv, h1, h2⟩ := ih h'
      refine ⟨kv, by rw [List.find?_cons_of_neg (by simpa using e)]; exact h1, ?_⟩
      rw [List.map_cons, List.idxOf_cons, show (x.1 == k) = false from by simpa using e]
      simpa using h2
/-- a key found in KV -/
theorem kv_at {kvs : List (Int × Value)} {ns : List Int} (h : KV kvs ns) {k : Int} (hk : k ∈ ns) : ∃ t, valueAt kvs k = some (.int (ns.idxOf k : Nat) t) := by
  obtain ⟨h1, h2⟩ := h
  subst h1
  obtain ⟨kv, h3, h4⟩ := find_idx kvs hk
  obtain ⟨t, ht⟩ := h2 _ _ h4
  refine ⟨t, ?_⟩
  unfold valueAt
  rw [h3, Option.map_some, ht]
theorem kv_no {kvs : List (Int × Value)} {ns : List Int} (h : KV kvs ns) {k : Int} (hk : k ∉ ns) : valueAt kvs k = none := by
  unfold valueAt
  rw [Option.map_eq_none_iff, List.find?_eq_none]
  intro x hx e
  exact hk (h.1 ▸ List.mem_map.mpr ⟨x, hx, by simpa using e⟩)
theorem kv_push {kvs : List (Int × Value)} {ns : List Int} (h : KV kvs ns) {k : Int} (hk : k ∉ ns) (t : Tok) : KV (stored kvs k (.int (ns.length : Nat) t)) (ns ++ [k]) := by
  have e : stored kvs k (.int (ns.length : Nat) t) = kvs ++ [(k, .int (ns.length : Nat) t)] := by
    unfold stored
    rw [if_neg]
    rw [List.any_eq_true]
    rintro ⟨x, hx, e⟩
    exact hk (h.1 ▸ List.mem_map.mpr ⟨x, hx, by simpa using e⟩)
  have hl : kvs.length = ns.length := by rw [← h.1, List.length_map]
  rw [e]
  refine ⟨by rw [List.map_append, h.1]; rfl, fun j kv hj => ?_⟩
  by_cases hlt : j < kvs.length
  · rw [List.getElem?_append_left hlt] at hj
    exact h.2 j kv hj
  · rw [List.getElem?_append_right (by omega)] at hj
    have : j - kvs.length = 0 := by
      cases q : j - kvs.length with
      | zero => rfl
      | succ n => rw [q] at hj; simp at hj
    rw [this] at hj
    simp only [List.getElem?_cons_zero, Option.some.injEq] at hj
    refine ⟨t, ?_⟩
    subst hj
    have : j = ns.length := by omega
    subst this; rfl
theorem kv_pop {kvs : List (Int × Value)} {ns : List Int} {k : Int} (h : KV kvs (ns ++ [k])) (hn : (ns ++ [k]).Nodup) : KV (without kvs k) ns := by
  obtain ⟨h1, h2⟩ := h
  obtain ⟨l1, l2, rfl, e1, e2⟩ := List.map_eq_append_iff.mp h1
  obtain ⟨x, l3, rfl, hx, e3⟩ := List.map_eq_cons_iff.mp e2
  have e4 : l3 = [] := List.map_eq_nil_iff.mp e3
  subst e4 e1 hx
  have e : without (l1 ++ [x]) x.1 = l1 := by
    unfold without
    rw [List.filter_append]
    have h3 : l1.filter (fun kv => decide (kv.1 ≠ x.1)) = l1 := by
      rw [List.filter_eq_self]
      intro y hy
      rw [List.nodup_append] at hn
      exact decide_eq_true (hn.2.2 y.1 (List.mem_map_of_mem hy) x.1 (.head _))
    rw [h3]
    simp
  rw [e]
  refine ⟨rfl, fun j kv hj => h2 j kv ?_⟩
  rw [List.getElem?_append_left (List.getElem?_eq_some_iff.mp hj).1]; exact hj
end Mine
end
section
open PySem PySem.W PySem.W.X PySem.Calls PyProof.Rows
set_option Elab.async false
set_option maxRecDepth 100000
set_option maxHeartbeats 1000000
namespace Mine
theorem boot_stop : bootBuiltins (Str.ofString "StopIteration") = some (.type "StopIteration") := by decide +kernel
theorem stop_exc : isSubtype (.type "StopIteration") (.type "BaseException") = pure true := by rw [isSubtype_type]; kernel_rfl
theorem stop_nt : isSubtype (.type ((Manifest.find? "StopIteration").elim "type" fun y => y.metatype)) (.type "tuple") = pure false := by
  rw [show ((Manifest.find? "StopIteration").elim "type" fun y => y.metatype) = "type" by decide +kernel, isSubtype_type]; kernel_rfl
theorem stop_sub : isSubtype (.type "StopIteration") (.type "StopIteration") = pure true := by rw [isSubtype_type]; kernel_rfl
section
variable {M : Model} {A : Around} {E : Value → Shared → Prop} {s : Shared} {env : Env} {pos : Pos} {Q : Value → Shared → Prop}
theorem callWith_bnd {b it : Addr} (ho : s.heap.get? b = some (bnd it)) (h : wpAny M A (call (.ref b) []) Q E s) : wpAny M A (callWith pos (.ref b) [] (backTo pos (starEach [] env)) []) Q E s :=
  callWith_of (P := fun h => h.get? b = some (bnd it)) rfl (fun h X => ⟨.machine, .inr (.inl rfl), (Looks.ld (part := none) X).andThen (by
    simp only [show (Value.type "method-wrapper" != Value.type "method") = true by decide, show (Value.type "method-wrapper" == Value.type "builtin_function_or_method" || Value.type "method-wrapper" == Value.type "method-wrapper") = true by decide, if_true]
    exact .now)⟩) (evalArgs_nil3 ⟨ho, h⟩)
end
section
variable {prog : Program} {w : World} {A : Around} {E : Value → Shared → Prop} {s : Shared} {h₀ : Heap} {L d : Addr} {m : Str → Option Value} {own rest : List (Addr × Obj)} {kvs : List (Int × Value)} {o : Obj} {k : Int} {key : Value}
theorem del_dict {knd : KeyKind prog w Int} {Q : Unit → Shared → Prop} (hkey : knd.is k key = true)
    (F : Fr h₀ L s.heap m) (N : News h₀ L s.heap (own ++ (d, o) :: rest)) (h1 : ∀ p ∈ own, p.1 ≠ d) (h2 : ∀ p ∈ rest, p.1 ≠ d) (hd : o.IsDictOf knd kvs)
    (hl : (valueAt kvs k).isSome = true) (hsz : kvs.length ≤ 1000)
    (h : ∀ h' o', Fr h₀ L h' m → News h₀ L h' (own ++ (d, o') :: rest) → o'.IsDictOf knd (without kvs k) → Q () { s with heap := h', toks := s.toks + 1 }) :
    wpAny (model prog w) A (delItem (.ref d) key) Q E s := by
  have hm := N (d, o) (List.mem_append_right _ (.head _))
  have hD : s.heap.DictOf knd d kvs := Heap.dictOf_iff.mpr ⟨o, hm.1, hd⟩
  unfold delItem
  refine wpAny_holding ?_
  refine wpAny_bind (wpAny_sequenceKey hD.typeIs (by decide) ?_)
  refine wpAny_bind (wpAny_callSpecial?_slot (name := Str.ofString "__delitem__") hD.typeIs PySem.F.slot_dict_delitem
    (call_meetsIn PySem.F.slot_dict_delitem hD.typeIs PySem.F.entry_dict_delitem (PySem.F.args_dict_delitem_2 _ _) (meets_dict_delitem_pairs knd d hkey) ⟨kvs, hD, (by rw [sizeLine_eq]; omega), hl, fun h' hmm hs => ?_⟩))
  obtain ⟨o', ho', hd'⟩ := Heap.dictOf_iff.mp hmm
  obtain ⟨F', N'⟩ := news_put F N h1 h2 hs ho'
  exact wpAny_pure (h h' o' F' N' hd')
theorem popAt {D : Addr} {its : List Value} {n : Nat} {y : Value} {Q : Value → Shared → Prop} {pre post : List (Addr × Obj)} (F : Fr h₀ L s.heap m) (N : News h₀ L s.heap (pre ++ (D, W.listOf (its ++ [y]).toArray n) :: post)) (h1 : ∀ p ∈ pre, p.1 ≠ D) (h2 : ∀ p ∈ post, p.1 ≠ D) (hz : its.length ≤ 1000)
    (h : ∀ h', Fr h₀ L h' m → News h₀ L h' (pre ++ (D, W.listOf its.toArray (n + 1)) :: post) → Q y { s with heap := h' }) : wpAny (model prog w) A (call (.builtin "list.pop") [.ref D]) Q E s := by
  have z := N (D, _) (List.mem_append_right _ (.head _))
  refine PyProof.Rows.Copied.pop_at (hsz := by rw [sizeLine_eq, List.size_toArray]; simp; omega) z.1 (y := y) (by simp) fun h' hs ho' => ?_
  have e : (its ++ [y]).toArray.pop = its.toArray := by simp
  rw [e] at ho'
  obtain ⟨F', N'⟩ := news_put F N h1 h2 hs ho'
  exact h h' F' N'
end
theorem suc_of {rs : List NR} (hk : (rs.map (·.key)).Nodup) {r : NR} (hr : r ∈ rs) : sucOf (absG rs) r.key = r.ss := by
  unfold sucOf absG
  rw [List.find?_map, Option.map_map]
  have : rs.find? ((fun x => decide (x.1 = r.key)) ∘ fun r : NR => (r.key, r.np, r.ss)) = some r := by
    induction rs with
    | nil => exact nomatch hr
    | cons x l ih =>
      rw [List.map_cons, List.nodup_cons] at hk
      rcases List.mem_cons.mp hr with e | e
      · subst e; rw [List.find?_cons_of_pos (by simp)]
      · rw [List.find?_cons_of_neg, ih hk.2 e]
        simp only [Function.comp, decide_eq_true_eq]
        intro q
        exact hk.1 (q ▸ List.mem_map_of_mem e)
  rw [this]; rfl
theorem ints_get {vs : List Value} {ns : List Int} (h : IntsAre vs ns) {i : Nat} {n : Int} (hn : ns[i]? = some n) : ∃ t, vs[i]? = some (.int n t) := by
  have hl := h.length
  have hlt : i < vs.length := by rw [hl]; exact (List.getElem?_eq_some_iff.mp hn).1
  obtain ⟨n', t, h1, h2⟩ := ints_at h (List.getElem?_eq_getElem hlt)
  rw [hn] at h1; cases h1
  exact ⟨t, by rw [List.getElem?_eq_getElem hlt, h2]⟩
theorem ints_unsnoc : ∀ {ns : List Int} {vs : List Value} {n : Int}, IntsAre vs (ns ++ [n]) → ∃ vs' t, vs = vs' ++ [Value.int n t] ∧ IntsAre vs' ns := by
  intro ns
  induction ns with
  | nil =>
    intro vs n h
    cases h with
    | cons _ t h' => cases h'; exact ⟨[], t, rfl, .nil⟩
  | cons x ns ih =>
    intro vs n h
    cases h with
    | cons _ t h' =>
      obtain ⟨vs', t', rfl, h2⟩ := ih h'
      exact ⟨_, t', rfl, .cons _ _ h2⟩
theorem fs_step {w : World} {rs : List NR} {dn se ik sk : Addr} {no so : Obj} {f : Fe} {fs : List Fe} {seen : List Int} {vs : List Value} {ext : List (Addr × Obj)} (k : Nat) (h : FS w rs dn se ik sk no so (f :: fs) seen vs ext) : FS w rs dn se ik sk no so ({ f with pos := k } :: fs) seen vs ext := by
  obtain ⟨x1, x2, x3, x4, x5, x6, x7, x8, x9, x10⟩ := h
  refine ⟨by simpa [fled] using x1, by simpa using x2, by simpa using x3, x4, ?_, x6, ?_, by simpa using x8, x9, by simpa using x10⟩
  · intro q hq
    rcases List.mem_cons.mp hq with rfl | hq
    · exact x5 f (.head _)
    · exact x5 q (.tail _ hq)
  · intro q hq
    rcases List.mem_cons.mp hq with rfl | hq
    · exact x7 f (.head _)
    · exact x7 q (.tail _ hq)
theorem fs_drop {w : World} {rs : List NR} {dn se ik sk : Addr} {no no' so : Obj} {f : Fe} {fs : List Fe} {seen : List Int} {vs vs' : List Value} {ext : List (Addr × Obj)} (h : FS w rs dn se ik sk no so (f :: fs) seen vs ext)
    (h2 : ∃ kvs, no'.IsDictOf (intKind PySem.Challenge.rw_nb0242_01.row.prog w) kvs ∧ KV kvs (fs.reverse.map (·.node))) (h3 : IntsAre vs' (fs.reverse.map (·.node))) : FS w rs dn se ik sk no' so fs seen vs' ext := by
  obtain ⟨x1, x2, x3, x4, x5, x6, x7, x8, x9, x10⟩ := h
  refine ⟨?_, h2, h3, x4, fun q hq => x5 q (.tail _ hq), x6, fun q hq => x7 q (.tail _ hq), (List.nodup_cons.mp x8).2, x9, by rw [List.length_cons] at x10; omega⟩
  refine List.Nodup.sublist ?_ x1
  show ([dn, se, ik, sk] ++ (fled fs ++ ext).map (fun x : Addr × Obj => x.1)).Sublist ([dn, se, ik, sk] ++ ([f.b, f.I] ++ (fled fs ++ ext).map (fun x : Addr × Obj => x.1)))
  exact List.Sublist.append_left (List.sublist_append_right _ _) _
theorem led_step {g h : Heap} {L dn se ik sk : Addr} {no so : Obj} {f : Fe} {fs : List Fe} {a b k : Nat} {vs : List Value} {ext : List (Addr × Obj)}
    (N : News g L h ([(dn, no), (se, so), (ik, ikO (f :: fs) a), (sk, W.listOf vs.toArray b), (f.b, bnd f.I)] ++ (f.I, listIt f.la k) :: (fled fs ++ ext))) : News g L h (ledF dn se ik sk no so ({ f with pos := k } :: fs) a b vs ext) := by
  have e : ikO ({ f with pos := k } :: fs) a = ikO (f :: fs) a := by simp [ikO]
  rw [ledF, e]; exact N
end Mine
end
section
open PySem PySem.W PySem.W.X PySem.Calls PyProof.Rows
set_option Elab.async false
set_option maxRecDepth 100000
set_option maxHeartbeats 1000000
namespace Mine
noncomputable abbrev frs (outer : List Env) : List Addr := outer.filterMap (·.frame)
def Vars (m : Str → Option Value) (nd dn se ik sk : Addr) : Prop :=
  m (Str.ofString "n2i") = some (.ref nd) ∧ m (Str.ofString "node2stacki") = some (.ref dn) ∧ m (Str.ofString "seen") = some (.ref se) ∧ m (Str.ofString "itstack") = some (.ref ik) ∧ m (Str.ofString "stack") = some (.ref sk)
inductive FSt (w : World) (A : Around) (base : Heap) (outer : List Env) (g₀ : Heap) (L : Addr) (rs : List NR) (nd dn se ik sk : Addr) (ext : List (Addr × Obj)) (h : Heap) (m : Str → Option Value) (fs : List Fe) (seen : List Int) : Prop
  | mk (g : _) (no : _) (so : _) (vs : _) (a : _) (b : _) (x0 : KtsTurn (frs outer) g₀ g) (x1 : Below A base outer g) (x2 : Fr g L h m) (x3 : News g L h (ledF dn se ik sk no so fs a b vs ext)) (x4 : FS w rs dn se ik sk no so fs seen vs ext) (x5 : Vars m nd dn se ik sk) : FSt w A base outer g₀ L rs nd dn se ik sk ext h m fs seen
/-- the next turn of a loop -/
def NextTurn (I : Nat → Shared → Prop) (n : Nat) (s : Shared) : Prop := ∃ m, m < n ∧ I m s
section
variable {prog : Program} {w : World} {A : Around} {s : Shared} {R : Result → Shared → Prop}
theorem forLoop_w {target : PySem.Expr} {it : Value} {body orelse : List Stmt} {env : Env} (I : Nat → Shared → Prop)
    (turn : ∀ n s, I n s → wpAny (model prog w) A (pyNext it) (fun r s₁ => match r with
      | none => wpAny (model prog w) A (execs orelse env) (fun f s₃ => R (.ok f) s₃) (notedBy (model prog w) A env fun e s' => R (.error e) s') s₁
      | some v => wpAny (model prog w) A (assign target env v) (fun _ s₂ => wpAny (model prog w) A (execs body env) (fun f s₃ => match f with
          | .next | .cont => NextTurn I n s₃
          | .brk => R (.ok .next) s₃
          | .ret v => R (.ok (.ret v)) s₃) (notedBy (model prog w) A env fun e s' => R (.error e) s') s₂) (notedBy (model prog w) A env fun e s' => R (.error e) s') s₁) (notedBy (model prog w) A env fun e s' => R (.error e) s') s)
    (n : Nat) (h : I n s) (ht : ∀ v, letOwnedTupleGo target it v = pure () := by intro _; rfl) : codeAny (model prog w) A (.forLoop target it body orelse env) R s :=
  codeAny_forLoop I turn n h ht
theorem whileLoop_w {test : PySem.Expr} {body orelse : List Stmt} {env : Env} (I : Nat → Shared → Prop)
    (turn : ∀ n s, I n s →
      wpAny (model prog w) A (isTrue test env (eval test env)) (fun b s₂ =>
        if b then wpAny (model prog w) A (execs body env) (fun f s₃ => match f with
            | .next | .cont => NextTurn I n s₃
            | .brk => R (.ok .next) s₃
            | .ret v => R (.ok (.ret v)) s₃) (notedBy (model prog w) A env fun e s' => R (.error e) s') s₂
        else wpAny (model prog w) A (execs orelse env) (fun f s₃ => R (.ok f) s₃) (notedBy (model prog w) A env fun e s' => R (.error e) s') s₂)
        (notedBy (model prog w) A env fun e s' => R (.error e) s') s)
    (n : Nat) (h : I n s) : codeAny (model prog w) A (.whileLoop test body orelse env) R s :=
  codeAny_whileLoop I turn n h
end
inductive ForSt (w : World) (A : Around) (base : Heap) (outer : List Env) (g₀ : Heap) (s : Shared) (rs : List NR) (nd dn se ik sk It : Addr) (ep : Nat) (own : List (Addr × Obj)) (fuel : Nat) (res : Option (List Int)) (k : Nat) (s' : Shared) : Prop
  | mk (i : _) (oI : _) (h : _) (tk : _) (m : _) (seen : _) (x0 : s' = { s with heap := h, toks := tk }) (x1 : i + k = (kv rs).length) (x2 : FSt w A base outer g₀ s.heap.objs.size rs nd dn se ik sk (own ++ [(It, oI)]) h m [] seen) (x3 : (oI.cls = .type "dict_keyiterator" ∧ oI.data = .fields #[.ref nd, .int (i : Nat) 0, .int ((kv rs).length : Nat) 0, .int ep 0])) (x4 : findGo (absG rs) fuel (((absG rs).map (·.1)).drop i) seen = some res) : ForSt w A base outer g₀ s rs nd dn se ik sk It ep own fuel res k s'
inductive WhSt (w : World) (A : Around) (base : Heap) (outer : List Env) (g₀ : Heap) (s : Shared) (rs : List NR) (nd dn se ik sk : Addr) (ext : List (Addr × Obj)) (d : Sum (List Int) (List Int)) (k : Nat) (s' : Shared) : Prop
  | mk (h : _) (tk : _) (m : _) (fs : _) (seen : _) (v : _) (t : _) (x0 : s' = { s with heap := h, toks := tk }) (x1 : FSt w A base outer g₀ s.heap.objs.size rs nd dn se ik sk ext h m fs seen) (x2 : m (Str.ofString "node") = some (.int v t)) (x3 : dfs (absG rs) k v (stOf fs) seen = some d) : WhSt w A base outer g₀ s rs nd dn se ik sk ext d k s'
/-- the inner loop: the top of the stack is tried, emptied ones go -/
inductive InSt (w : World) (A : Around) (base : Heap) (outer : List Env) (g₀ : Heap) (s : Shared) (rs : List NR) (nd dn se ik sk : Addr) (ext : List (Addr × Obj)) (seen : List Int) (p : Option (Int × List (Int × Nat))) (k : Nat) (s' : Shared) : Prop
  | mk (h : _) (tk : _) (m : _) (fs : _) (x0 : s' = { s with heap := h, toks := tk }) (x1 : FSt w A base outer g₀ s.heap.objs.size rs nd dn se ik sk ext h m fs seen) (x2 : k = fs.length) (x3 : popGo (absG rs) (stOf fs) = p) : InSt w A base outer g₀ s rs nd dn se ik sk ext seen p k s'
/-- between the node's step and the inner loop -/
inductive MidSt (w : World) (A : Around) (base : Heap) (outer : List Env) (g₀ : Heap) (s : Shared) (rs : List NR) (nd dn se ik sk : Addr) (ext : List (Addr × Obj)) (d : Sum (List Int) (List Int)) (k : Nat) (s' : Shared) : Prop
  | mk (h : _) (tk : _) (m : _) (fs : _) (seen : _) (x0 : s' = { s with heap := h, toks := tk }) (x1 : FSt w A base outer g₀ s.heap.objs.size rs nd dn se ik sk ext h m fs seen) (x2 : (match popGo (absG rs) (stOf fs) with | none => some (.inr seen) | some (v', st') => dfs (absG rs) k v' st' seen) = some d) : MidSt w A base outer g₀ s rs nd dn se ik sk ext d k s'
/-- the ring is found -/
inductive EndSt (w : World) (A : Around) (base : Heap) (outer : List Env) (g₀ : Heap) (s : Shared) (ext : List (Addr × Obj)) (d : Sum (List Int) (List Int)) (v : Value) (s' : Shared) : Prop
  | mk (h : _) (tk : _) (g : _) (r : _) (a : _) (its : _) (n : _) (x0 : s' = { s with heap := h, toks := tk }) (x1 : d = .inl r) (x2 : KtsTurn (frs outer) g₀ g) (x3 : g.StaysIn h) (x4 : NB g h ext) (x5 : v = .ref a) (x6 : h.get? a = some (W.listOf its n)) (x7 : IntsAre its.toList r) (x8 : g.get? a = none) (x9 : (∀ p ∈ ext, p.1 ≠ a)) : EndSt w A base outer g₀ s ext d v s'
def MidP (w : World) (A : Around) (base : Heap) (outer : List Env) (g₀ : Heap) (s : Shared) (rs : List NR) (nd dn se ik sk : Addr) (ext : List (Addr × Obj)) (d : Sum (List Int) (List Int)) (k : Nat) (f : Flow) (s' : Shared) : Prop :=
  (f = .next ∧ MidSt w A base outer g₀ s rs nd dn se ik sk ext d k s') ∨ (∃ v, f = .ret v ∧ EndSt w A base outer g₀ s ext d v s')
theorem fr_but {g h h' : Heap} {L : Addr} {m : Str → Option Value} {d : Addr} (F : Fr g L h m) (hd : g.get? d = none) (hL : L ≠ d) (k : ∀ b o, b ≠ d → h.get? b = some o → h'.get? b = some o) : Fr g L h' m := by
  obtain ⟨oL, es, ep, h1, r⟩ := F.ns
  exact ⟨⟨oL, es, ep, k _ _ hL h1, r⟩, fun b o e => k b o (fun q => by rw [q, hd] at e; cases e) (F.keep b o e), F.above⟩
theorem news_but {g h h' : Heap} {L : Addr} {pre post : List (Addr × Obj)} {d : Addr} {o o' : Obj} (N : News g L h (pre ++ (d, o) :: post)) (h1 : ∀ p ∈ pre, p.1 ≠ d) (h2 : ∀ p ∈ post, p.1 ≠ d) (k : ∀ b o, b ≠ d → h.get? b = some o → h'.get? b = some o) (ho : h'.get? d = some o') :
    News g L h' (pre ++ (d, o') :: post) := by
  intro p hp
  rcases List.mem_append.mp hp with hp | hp
  · have z := N p (List.mem_append_left _ hp)
    exact ⟨k _ _ (h1 p hp) z.1, z.2⟩
  · rcases List.mem_cons.mp hp with rfl | hp
    · exact ⟨ho, (N (d, o) (List.mem_append_right _ (.head _))).2⟩
    · have z := N p (List.mem_append_right _ (.tail _ hp))
      exact ⟨k _ _ (h2 p hp) z.1, z.2⟩
theorem start_st {w : World} {A : Around} {base g h : Heap} {outer : List Env} {L : Addr} {m : Str → Option Value} {rs : List NR} {nd dn se ik sk sa dx : Addr} {no so at' od : Obj} {a b : Nat}
    (B : Below A base outer g) (F : Fr g L h m) (N : News g L h ((dn, no) :: (se, so) :: (ik, W.listOf #[] a) :: (sk, W.listOf #[] b) :: (own3 sa dx nd at' od ++ recsN rs)))
    (hdn : no.IsDictOf (intKind PySem.Challenge.rw_nb0242_01.row.prog w) []) (hso : so.SetObjOf (intKind PySem.Challenge.rw_nb0242_01.row.prog w) (fun _ => false) 0) (hsm : (dn == sysModules) = false) (wf : WF sa dx nd [] rs)
    (l1 : se < dn ∧ ik < dn ∧ sk < dn ∧ AllLt dn (own3 sa dx nd at' od ++ recsN rs)) (l2 : ik < se ∧ sk < se ∧ AllLt se (own3 sa dx nd at' od ++ recsN rs)) (l3 : sk < ik ∧ AllLt ik (own3 sa dx nd at' od ++ recsN rs)) (l4 : ∀ p ∈ own3 sa dx nd at' od ++ recsN rs, p.1 < sk)
    (hv : Vars m nd dn se ik sk) {oI : Obj} (hI : oI.isFreed = false) :
    FSt w A base outer g L rs nd dn se ik sk ((own3 sa dx nd at' od ++ recsN rs) ++ [(h.objs.size, oI)]) (h.push oI) m [] [] := by
  have hlt : ∀ p ∈ (dn, no) :: (se, so) :: (ik, W.listOf #[] a) :: (sk, W.listOf #[] b) :: (own3 sa dx nd at' od ++ recsN rs), p.1 < h.objs.size := fun p hp => Heap.lt_size (N p hp).1
  have hfr : g.get? h.objs.size = none := F.fresh
  have hLI : L < h.objs.size := F.ns.lt
  refine ⟨g, no, so, [], a, b, .refl, B, F.push oI, ?_, ⟨?_, ⟨[], hdn, rfl, fun j kv hj => by simp at hj⟩, .nil, ⟨0, by simpa using hso, Nat.le_refl _⟩, (fun _ h => nomatch h), hsm, (fun _ h => nomatch h), List.nodup_nil, Nat.zero_le _, Nat.zero_le _⟩, hv⟩
  · intro p hp
    have hp' : p ∈ ((dn, no) :: (se, so) :: (ik, W.listOf #[] a) :: (sk, W.listOf #[] b) :: (own3 sa dx nd at' od ++ recsN rs)) ++ [(h.objs.size, oI)] := hp
    rcases List.mem_append.mp hp' with hp | hp
    · exact ⟨Heap.get?_push_of_some _ (N p hp).1, (N p hp).2⟩
    · rw [List.mem_singleton.mp hp]
      exact ⟨Heap.get?_push_size _ hI, Nat.ne_of_gt hLI, hfr⟩
  · have h0 : ((own3 sa dx nd at' od ++ recsN rs).map (fun x : Addr × Obj => x.1)).Nodup := by
      have := wf.adr
      rw [List.append_nil] at this
      exact this
    show (dn :: se :: ik :: sk :: (((own3 sa dx nd at' od ++ recsN rs) ++ [(h.objs.size, oI)]).map (fun x : Addr × Obj => x.1))).Nodup
    have h5 : ∀ x ∈ ((own3 sa dx nd at' od ++ recsN rs) ++ [(h.objs.size, oI)]).map (fun x : Addr × Obj => x.1), x < sk ∨ x = h.objs.size := by
      intro x hx
      obtain ⟨p, hp, rfl⟩ := List.mem_map.mp hx
      rcases List.mem_append.mp hp with hp | hp
      · exact .inl (l4 p hp)
      · rw [List.mem_singleton.mp hp]; exact .inr rfl
    have h6 : ∀ d : Addr, sk ≤ d → d < h.objs.size → d ∉ ((own3 sa dx nd at' od ++ recsN rs) ++ [(h.objs.size, oI)]).map (fun x : Addr × Obj => x.1) := by
      intro d h1 h2 hm
      rcases h5 d hm with q | q
      · exact absurd q (Nat.not_lt.mpr h1)
      · exact absurd q (Nat.ne_of_lt h2)
    have g1 := hlt (dn, no) (.head _)
    have g2 := hlt (se, so) (.tail _ (.head _))
    have g3 := hlt (ik, _) (.tail _ (.tail _ (.head _)))
    have g4 := hlt (sk, _) (.tail _ (.tail _ (.tail _ (.head _))))
    have h7 : (((own3 sa dx nd at' od ++ recsN rs) ++ [(h.objs.size, oI)]).map (fun x : Addr × Obj => x.1)).Nodup := by
      rw [List.map_append, List.nodup_append]
      refine ⟨h0, by simp, fun x hx y hy e => ?_⟩
      obtain ⟨p, hp, rfl⟩ := List.mem_map.mp hx
      have hy : y = h.objs.size := by simpa using hy
      have z := Heap.lt_size (N p (.tail _ (.tail _ (.tail _ (.tail _ hp))))).1
      rw [e, hy] at z
      exact Nat.lt_irrefl _ z
    simp only [List.nodup_cons, List.mem_cons, not_or]
    exact ⟨⟨Nat.ne_of_gt l1.1, Nat.ne_of_gt l1.2.1, Nat.ne_of_gt l1.2.2.1, h6 dn (Nat.le_of_lt l1.2.2.1) g1⟩, ⟨Nat.ne_of_gt l2.1, Nat.ne_of_gt l2.2.1, h6 se (Nat.le_of_lt l2.2.1) g2⟩, ⟨Nat.ne_of_gt l3.1, h6 ik (Nat.le_of_lt l3.1) g3⟩, h6 sk (Nat.le_refl _) g4, h7⟩
theorem fs_it {w : World} {rs : List NR} {dn se ik sk It : Addr} {no so oI : Obj} {fs : List Fe} {seen : List Int} {vs : List Value} {own : List (Addr × Obj)} {a b : Nat} (h : FS w rs dn se ik sk no so fs seen vs (own ++ [(It, oI)])) : ∀ p ∈ ledF dn se ik sk no so fs a b vs own, p.1 ≠ It := by
  have h1 := h.nd
  have h2 : ((ledF dn se ik sk no so fs a b vs own ++ (It, oI) :: []).map (fun x : Addr × Obj => x.1)).Nodup := by
    have e : ledF dn se ik sk no so fs a b vs own ++ (It, oI) :: [] = (dn, no) :: (se, so) :: (ik, ikO fs a) :: (sk, W.listOf vs.toArray b) :: (fled fs ++ (own ++ [(It, oI)])) := by simp [ledF]
    rw [e]; exact h1
  exact (nd_split h2).1
theorem led_it {dn se ik sk It : Addr} {no so oI : Obj} {fs : List Fe} {vs : List Value} {own : List (Addr × Obj)} {a b : Nat} : ledF dn se ik sk no so fs a b vs (own ++ [(It, oI)]) = ledF dn se ik sk no so fs a b vs own ++ (It, oI) :: [] := by simp [ledF]
theorem key_inj : ∀ {rs : List NR}, (rs.map (·.key)).Nodup → ∀ {r r' : NR}, r ∈ rs → r' ∈ rs → r.key = r'.key → r = r' := by
  intro rs
  induction rs with
  | nil => intro _ r r' h; exact nomatch h
  | cons x l ih =>
    intro hn r r' h h' e
    rw [List.map_cons, List.nodup_cons] at hn
    rcases List.mem_cons.mp h with h1 | h1
    · rcases List.mem_cons.mp h' with h2 | h2
      · rw [h1, h2]
      · exact absurd (List.mem_map.mpr ⟨r', h2, by rw [← e, h1]⟩) hn.1
    · rcases List.mem_cons.mp h' with h2 | h2
      · exact absurd (List.mem_map.mpr ⟨r, h1, by rw [e, h2]⟩) hn.1
      · exact ih hn.2 h1 h2 e
theorem push_led {g h : Heap} {L dn se ik sk I bb la : Addr} {no so oi os : Obj} {fs : List Fe} {ext : List (Addr × Obj)} {v : Int} (N : News g L h ((bb, bnd I) :: (I, listIt la 0) :: ([(dn, no)] ++ (se, so) :: (ik, oi) :: (sk, os) :: (fled fs ++ ext)))) :
    News g L h ((dn, no) :: (se, so) :: (ik, oi) :: (sk, os) :: (fled ((⟨v, 0, bb, I, la⟩ : Fe) :: fs) ++ ext)) := fun p hp => N p (by
  have hp : p ∈ (dn, no) :: (se, so) :: (ik, oi) :: (sk, os) :: (bb, bnd I) :: (I, listIt la 0) :: (fled fs ++ ext) := hp
  simp only [List.mem_cons, List.cons_append, List.nil_append] at hp ⊢
  rcases hp with h | h | h | h | h | h | h
  · exact .inr (.inr (.inl h))
  · exact .inr (.inr (.inr (.inl h)))
  · exact .inr (.inr (.inr (.inr (.inl h))))
  · exact .inr (.inr (.inr (.inr (.inr (.inl h)))))
  · exact .inl h
  · exact .inr (.inl h)
  · exact .inr (.inr (.inr (.inr (.inr (.inr h))))))
theorem push_nd {dn se ik sk I bb la : Addr} {fs : List Fe} {ext : List (Addr × Obj)} {v : Int} (h : (dn :: se :: ik :: sk :: (fled fs ++ ext).map (fun x : Addr × Obj => x.1)).Nodup)
    (h1 : ∀ x ∈ dn :: se :: ik :: sk :: (fled fs ++ ext).map (fun x : Addr × Obj => x.1), x < I) (h2 : ∀ x ∈ I :: dn :: se :: ik :: sk :: (fled fs ++ ext).map (fun x : Addr × Obj => x.1), x < bb) :
    (dn :: se :: ik :: sk :: (fled ((⟨v, 0, bb, I, la⟩ : Fe) :: fs) ++ ext).map (fun x : Addr × Obj => x.1)).Nodup := by
  have h3 : (bb :: I :: dn :: se :: ik :: sk :: (fled fs ++ ext).map (fun x : Addr × Obj => x.1)).Nodup :=
    List.nodup_cons.mpr ⟨fun q => Nat.lt_irrefl _ (h2 _ q), List.nodup_cons.mpr ⟨fun q => Nat.lt_irrefl _ (h1 _ q), h⟩⟩
  refine List.Perm.nodup ?_ h3
  show ([bb, I] ++ ([dn, se, ik, sk] ++ (fled fs ++ ext).map (fun x : Addr × Obj => x.1))).Perm ([dn, se, ik, sk] ++ ([bb, I] ++ (fled fs ++ ext).map (fun x : Addr × Obj => x.1)))
  rw [← List.append_assoc, ← List.append_assoc]
  exact List.Perm.append_right _ List.perm_append_comm
theorem iter_list {prog : Program} {w : World} {A : Around} {E : Value → Shared → Prop} {s : Shared} {h₀ : Heap} {L l : Addr} {m : Str → Option Value} {news : List (Addr × Obj)} {items : Array Value} {n : Nat} {Q : Value → Shared → Prop} (F : Fr h₀ L s.heap m) (N : News h₀ L s.heap news) (hp : (l, W.listOf items n) ∈ news)
    (h : ∀ (I : Addr) h', Fr h₀ L h' m → News h₀ L h' ((I, listIt l 0) :: news) → (∀ p ∈ news, p.1 < I) → Q (.ref I) { s with heap := h' }) : wpAny (model prog w) A (call (.builtin "iter") [.ref l]) Q E s := by
  refine call_function_entry (by decide +kernel) (by decide +kernel) kdk_entry_iter (kdk_args_iter _) ?_
  unfold Builtin.«iter»
  refine wpAny_bind (m := someArgs "iter" 1 2 _) (wpAny_of_eq (a := [Value.ref l]) (by first | rfl | kernel_rfl!) ?_)
  show wpAny _ _ (pyIter (.ref l) >>= _) _ _ _
  refine wpAny_bind (wpAny_pyIter_list ⟨_, (N _ hp).1, rfl, n, rfl⟩ ?_)
  exact wpAny_pure ⟨_, rfl, h _ _ (F.push _) (News.push F N _ rfl) (fun q hq => Heap.lt_size (N q hq).1)⟩
theorem next_news {prog : Program} {w : World} {A : Around} {E : Value → Shared → Prop} {s : Shared} {h₀ : Heap} {L I l : Addr} {i : Nat} {m : Str → Option Value} {news : List (Addr × Obj)} {Q : Value → Shared → Prop} (F : Fr h₀ L s.heap m) (N : News h₀ L s.heap news) (hp : (I, listIt l i) ∈ news)
    (h : ∀ (b : Addr) h' tk, Fr h₀ L h' m → News h₀ L h' ((b, bnd I) :: news) → (∀ p ∈ news, p.1 < b) → Q (.ref b) { s with heap := h', toks := tk }) : wpAny (model prog w) A (getAttr (.ref I) (Str.ofString "__next__") true) Q E s :=
  next_attr (N _ hp).1 rfl rfl rfl fun tk => h _ _ tk (F.push _) (News.push F N _ rfl) (fun q hq => Heap.lt_size (N q hq).1)
theorem st_mem {fs : List Fe} {v : Int} : v ∈ (stOf fs).map (·.1) ↔ v ∈ fs.reverse.map (·.node) := by simp [stOf]
local macro_rules | `(tactic| walk_at "eval Name") => `(tactic| (k_dflt (refine' ld ?k1 ?k2 ?_; (case k1 => k_asm); (case k2 => first | exact rfl | assumption); k_whole)))
local macro_rules | `(tactic| k_room) => `(tactic| ((try simp only [depth_under_make, depth_under_kw, depth_in1, depth_deeper, depth_caller]); dsimp only [recursionLimit] at *; omega))
local macro_rules | `(tactic| walk_at "exec For Name Name cons nil") => `(tactic| refine stop_in ?_)
local macro_rules | `(tactic| walk_at "exec While Constant cons nil") => `(tactic| refine stop_in ?_)
local macro_rules | `(tactic| walk_at "compareOp In int ref") => `(tactic| refine stop_in ?_)
local macro_rules | `(tactic| walk_at "execs cons") => `(tactic| ((with_reducible show wpAny _ _ (execs (Stmt.If _ _ (_ :: _) _ :: Stmt.While _ _ _ _ :: []) _) _ _ _); refine stop_in ?_))
local macro_rules | `(tactic| walk_at "getMethod ref") => `(tactic| refine stop_in ?_)
local macro_rules | `(tactic| walk_at "call builtin:set.add") => `(tactic| refine stop_in ?_)
local macro_rules | `(tactic| walk_at "call builtin:list.append") => `(tactic| refine stop_in ?_)
local macro_rules | `(tactic| walk_at "call builtin:list.pop") => `(tactic| refine stop_in ?_)
local macro_rules | `(tactic| walk_at "setItem ref int") => `(tactic| refine stop_in ?_)
local macro_rules | `(tactic| walk_at "delItem ref int") => `(tactic| refine stop_in ?_)
local macro_rules | `(tactic| walk_at "subscriptTail") => `(tactic| refine stop_in ?_)
local macro_rules | `(tactic| walk_at "getAttr ref") => `(tactic| ((with_reducible show wpAny _ _ (getAttr _ (Str.ofString "successors") _) _ _ _); refine stop_in ?_))
local macro_rules | `(tactic| walk_at "getAttr ref") => `(tactic| ((with_reducible show wpAny _ _ (getAttr _ (Str.ofString "__next__") _) _ _ _); refine stop_in ?_))
local macro_rules | `(tactic| walk_at "binaryOp Add ref ref") => `(tactic| refine stop_in ?_)
local macro_rules | `(tactic| walk_at "call builtin:iter") => `(tactic| refine stop_in ?_)
local macro_rules | `(tactic| walk_at "call builtin:len") => `(tactic| refine stop_in ?_)
local macro_rules | `(tactic| walk_at "truthy ref") => `(tactic| refine stop_in ?_)
theorem find_call {w : World} {A : Around} {s : Shared} {mean : ExcName → Option Value} {mg mb : Str → Option Value} {Q E : Value → Shared → Prop} {base g : Heap} {outer : List Env} {sa : Addr}
    (hh : A.handled = none) (B : Below A base outer g) (XB : Frag.In (Mine.hd.heap_39 w.params) base) (TB : Top Mine.hd.view_39 (looseW Mine.hd.view_39 [Str.ofString "_NodeInfo"]) mean mg mb base) (D : KtsDicts (frs outer) g) (st : g.StaysIn s.heap) (hgs : g.objs.size ≤ s.heap.objs.size)
    {rv pv fv : Value} {gr : Gr} {own : List (Addr × Obj)} (N : NB g s.heap own) (S : SoL w sa rv pv fv gr own) {fuel : Nat} {res : Option (List Int)} (hfind : findP gr fuel = some res) (hgl : gr.length ≤ 100)
    (hdp : A.depth + 60 < 1000) (hun : A.units + 600 < 9900)
    (ret0 : res = none → ∀ h' tk g', KtsTurn (frs outer) g g' → g'.StaysIn h' → NB g' h' own → Q .none { s with heap := h', toks := tk })
    (ret1 : ∀ r, res = some r → ∀ h' tk g' a its n, KtsTurn (frs outer) g g' → g'.StaysIn h' → NB g' h' own → h'.get? a = some (W.listOf its n) → IntsAre its.toList r → g'.get? a = none → (∀ p ∈ own, p.1 ≠ a) → Q (.ref a) { s with heap := h', toks := tk }) :
    wpAny (model PySem.Challenge.rw_nb0242_01.row.prog w) A (call (.ref 134) [.ref sa]) Q E s := by
  refine hide fun G' back' => ?_
  obtain ⟨dx, nd, od, t1, t2, t3, t4, rs, rfl, hd, hsm, wf, rfl⟩ := S
  refine back' ?_
  clear back' G'
  have X : Frag.In (Mine.hd.heap_39 w.params) g := XB.keeps B.stays
  have T : Top Mine.hd.view_39 (looseW Mine.hd.view_39 [Str.ofString "_NodeInfo"]) mean mg mb g := TB.keeps B.stays
  revert X T; w_top off; k_fill; intro X T
  refine hide fun G' back' => ?_
  obtain ⟨hd', dp, fr, gd, un⟩ := A
  refine back' ?_
  clear back' G'
  have e1 : fr = some outer := B.stack
  have e2 : hd' = none := hh
  subst e1 e2
  refine wpAny_call ?_
  refine codeAny_call_def (binds := [(Str.ofString "self", .ref sa)]) (by dsimp only [recursionLimit] at *; omega) ((X.keeps st) 134 _ (by k_is)) rfl (T.nolimit.keeps st) (codeRec_of (X.keeps st) (by k_is)) rfl (BindsTo.of_eq rfl) (by decide) (locs rfl) (fun h₁ hns' keep => ?_) rfl rfl rfl
  have F : Fr g s.heap.objs.size h₁ _ := ⟨hns', fun b o e => keep b o (st b o e), hgs⟩
  have N₁ := N.news keep rfl
  clear N hns'
  k_steps
  rename Fr _ _ _ _ => F₁
  rename News _ _ _ _ => N₂
  rename Obj.IsDictOf (intKind _ _) _ [] => hdn
  rename Obj.SetObjOf (intKind _ _) _ _ _ => hse
  rename (@Eq Bool (_ == sysModules) false) => hsmn
  rename _ < _ ∧ _ < _ ∧ _ < _ ∧ AllLt _ _ => q1
  rename _ < _ ∧ _ < _ ∧ AllLt _ _ => q2
  rename _ < _ ∧ AllLt _ _ => q3
  rename ∀ p, p ∈ own3 _ _ _ _ _ ++ recsN _ → p.1 < _ => q4
  have hnd := N₂.get (a := nd) (o := od) (.tail _ (.tail _ (.tail _ (.tail _ (.tail _ (.tail _ (.head _)))))))
  obtain ⟨es, ep, hD⟩ := id hd
  refine Stop.out (wpAny_For ?_)
  k_steps
  refine wpAny_pyIter_dict (knd := intKind _ _) (kvs := kv rs) (ep := ep) hsm ⟨od, es, hnd, hD⟩ ?_
  have S₀ := start_st B F₁ N₂ hdn hse hsmn wf q1 q2 q3 q4 ⟨rfl, rfl, rfl, rfl, rfl⟩ (oI := { cls := .type "dict_keyiterator", data := .fields #[.ref nd, .int 0 0, .int (kv rs).length 0, .int ep 0] }) rfl
  rename_i sk x1 x2 x3 ik x4 x5 se x6 led x7 x8 dn x9 no x10 x11 x12 hp
  have hltI : nd < hp.objs.size := Heap.lt_size hnd
  have hgI : ∀ b, hp.objs.size ≤ b → g.get? b = none := fun b hb => Heap.get?_none_of_le (Nat.le_trans (Nat.le_trans F₁.above (Nat.le_of_lt F₁.ns.lt)) hb)
  have hLI : s.heap.objs.size < hp.objs.size := F₁.ns.lt
  clear F₁ N₂ hnd hdn hse hsmn q1 q2 q3 q4
  generalize hIt : hp.objs.size = It at S₀ hltI hgI hLI ⊢
  generalize hp.push _ = hq at S₀ ⊢
  have hin : (nd, od) ∈ own3 sa dx nd (at0 w.params nd rv pv fv t1 t2 t3 t4) od ++ recsN rs := .tail _ (.tail _ (.head _))
  have hkl : (kv rs).length = rs.length := by simp [kv]
  have hkm : (kv rs).map (·.1) = (absG rs).map (·.1) := by simp [kv, absG]
  generalize hown : own3 sa dx nd (at0 w.params nd rv pv fv t1 t2 t3 t4) od ++ recsN rs = own at *
  refine forLoop_w (ForSt w { depth := dp, frames := some outer, guards := gd, units := un } base outer g s rs nd dn se ik sk It ep own fuel res) ?_ (kv rs).length ⟨0, _, hq, _, _, [], rfl, Nat.zero_add _, S₀, ⟨rfl, rfl⟩, hfind⟩
  intro k s' hp1
  refine hide fun G' back' => ?_
  obtain ⟨i, oI, h, tk, m, seen, rfl, hik, ⟨g', no', so, vs, a, b, KT, B', F, N, fs, hv⟩, ⟨hoc, hod⟩, hf⟩ := hp1
  refine back' ?_
  clear back' G'
  have hmI : (It, oI) ∈ ledF dn se ik sk no' so [] a b vs (own ++ [(It, oI)]) := .tail _ (.tail _ (.tail _ (.tail _ (List.mem_append_right _ (List.mem_append_right _ (.head _))))))
  have stW : h.IsKeyIter It nd i (kv rs).length ep ∧ h.DictAt (intKind PySem.Challenge.rw_nb0242_01.row.prog w) nd (kv rs) ep := ⟨⟨oI, N.get hmI, hoc, hod⟩, ⟨od, es, N.get (.tail _ (.tail _ (.tail _ (.tail _ (List.mem_append_right _ (List.mem_append_left _ hin)))))), hD⟩⟩
  have X' : Frag.In (Mine.hd.heap_39 w.params) g' := XB.keeps B'.stays
  have T' : Top Mine.hd.view_39 (looseW Mine.hd.view_39 [Str.ofString "_NodeInfo"]) mean mg mb g' := TB.keeps B'.stays
  cases k with
  | zero =>
    obtain rfl : i = (kv rs).length := by omega
    refine (Walks.dictKeys (knd := intKind _ _) (by rfl) It nd (Nat.ne_of_lt hltI) (kv rs) ep).done _ _ _ stW fun h' tk' hk => ?_
    have hres : res = none := by
      rw [List.drop_of_length_le (by simp [absG, kv])] at hf
      exact (Option.some.inj hf).symm
    have hnI := N (It, oI) hmI
    have F' : Fr g' s.heap.objs.size h' m := fr_but F hnI.2.2 (Ne.symm hnI.2.1) fun b o hb e => hk b o (by simpa using hb) e
    have hIn := fs_it (a := a) (b := b) fs
    k_steps
    subst hres
    exact ret0 rfl _ _ g' KT F'.keep fun p hp => ⟨hk _ _ (by simpa using hIn p (.tail _ (.tail _ (.tail _ (.tail _ (List.mem_append_right _ hp)))))) (N p (.tail _ (.tail _ (.tail _ (.tail _ (List.mem_append_right _ (List.mem_append_left _ hp))))))).1, (N p (.tail _ (.tail _ (.tail _ (.tail _ (List.mem_append_right _ (List.mem_append_left _ hp))))))).2.2⟩
  | succ k =>
    refine (Walks.dictKeys (knd := intKind _ _) (by rfl) It nd (Nat.ne_of_lt hltI) (kv rs) ep).item i _ _ _ (by omega) stW ?_
    intro v h' tk' hp1 hp2 hk
    refine hide fun G' back' => ?_
    obtain ⟨kx, vx, hkv, hkey⟩ := hp1
    obtain ⟨⟨oI', hoI', hoc', hod'⟩, _⟩ := hp2
    refine back' ?_
    clear back' G'
    obtain ⟨t, rfl⟩ := Value.isInt_shape hkey
    have hnI := N (It, oI) hmI
    have F' : Fr g' s.heap.objs.size h' m := fr_but F hnI.2.2 (Ne.symm hnI.2.1) fun b o hb e => hk b o (by simpa using hb) e
    have hIn := fs_it (a := a) (b := b) fs
    have N' : News g' s.heap.objs.size h' (ledF dn se ik sk no' so [] a b vs (own ++ [(It, oI')])) := by
      rw [led_it] at N ⊢
      exact news_but N hIn (fun _ h => nomatch h) (fun b o hb e => hk b o (by simpa using hb) e) hoI'
    have fs' : FS w rs dn se ik sk no' so [] seen vs (own ++ [(It, oI')]) := by
      refine hide fun G' back' => ?_
      obtain ⟨x1, x2, x3, x4, x5, x6, x7, x8, x9, x10⟩ := fs
      refine back' ?_
      clear back' G'
      exact ⟨by simpa using x1, x2, x3, x4, x5, x6, x7, x8, x9, x10⟩
    have hkx : ((absG rs).map (·.1)).drop i = kx :: ((absG rs).map (·.1)).drop (i + 1) := by
      have h1 : ((absG rs).map (·.1))[i]? = some kx := by rw [← hkm, List.getElem?_map, hkv]; rfl
      obtain ⟨hlt, e⟩ := List.getElem?_eq_some_iff.mp h1
      rw [List.drop_eq_getElem_cons hlt, e]
    rw [hkx] at hf
    clear F N fs stW hnI hIn hmI hk hoc hod
    generalize hext : own ++ [(It, oI')] = ext at N' fs'
    refine hide fun G' back' => ?_
    obtain ⟨hv1, hv2, hv3, hv4, hv5⟩ := hv
    refine back' ?_
    clear back' G'
    obtain ⟨sn, hso, hsn⟩ := fs'.isSet
    have hsb : sn < scanBound := by have := fs'.slen; unfold scanBound; omega
    refine wpAny_assign_Name ?_
    k_steps
    rename Fr _ _ _ _ => F₂
    rename News _ _ _ _ => N₂
    refine Stop.out (in_sl1 (own := [_]) N₂ hso hsb hkey rfl ?_)
    by_cases hks : kx ∈ seen
    · rw [decide_eq_true hks]
      unfold findGo at hf
      rw [if_pos hks] at hf
      k_steps
      rename Fr _ _ _ _ => F₃
      rename News _ _ _ _ => N₃
      subst hext
      exact ⟨k, Nat.lt_succ_self _, i + 1, oI', _, _, _, seen, rfl, by omega, ⟨g', no', so, vs, a, b, KT, B', F₃, N₃, fs', hv1, hv2, hv3, hv4, hv5⟩, ⟨hoc', hod'⟩, hf⟩
    · rw [decide_eq_false hks]
      unfold findGo at hf
      rw [if_neg hks] at hf
      k_steps
      rename Fr _ _ _ _ => F₃
      rename News _ _ _ _ => N₃
      cases hdf : dfs (absG rs) fuel kx [] seen with
      | none => rw [hdf] at hf; cases hf
      | some d =>
        rw [hdf] at hf
        refine Stop.out (wpAny_While (whileLoop_w (WhSt w { depth := dp, frames := some outer, guards := gd, units := un } base outer g s rs nd dn se ik sk ext d) ?_ fuel ⟨_, _, _, [], seen, kx, t, rfl, ⟨g', no', so, vs, a, b, KT, B', F₃, N₃, fs', hv1, hv2, hv3, hv4, hv5⟩, rfl, hdf⟩))
        clear F₃ N₃ fs' X' T' KT B' hso hsb hv1 hv2 hv3 hv4 hv5
        clear hdf hks hkey hkv hkx
        intro q s' hp1
        refine hide fun G' back' => ?_
        obtain ⟨h, tk, m, fs, seen, v, t, rfl, ⟨g', no, so, vs, a, b, KT, B', F, N, fst, hv⟩, hnode, hdq⟩ := hp1
        refine back' ?_
        clear back' G'
        have X' : Frag.In (Mine.hd.heap_39 w.params) g' := XB.keeps B'.stays
        have T' : Top Mine.hd.view_39 (looseW Mine.hd.view_39 [Str.ofString "_NodeInfo"]) mean mg mb g' := TB.keeps B'.stays
        cases q with
        | zero => cases hdq
        | succ q =>
          refine hide fun G' back' => ?_
          obtain ⟨hv1, hv2, hv3, hv4, hv5⟩ := hv
          refine back' ?_
          clear back' G'
          obtain ⟨sn, hso, hsn⟩ := fst.isSet
          obtain ⟨kvs, hkd, hkv⟩ := fst.dict
          have hsb : sn + 1 < scanBound := by have := fst.slen; unfold scanBound; omega
          k_steps
          refine Stop.out (wpAny_execs_cons (wpAny_mono (Q := MidP w { depth := dp, frames := some outer, guards := gd, units := un } base outer g s rs nd dn se ik sk ext d q) (E := fun _ _ => False) ?_ ?_ fun _ _ x => x.elim))
          · k_steps
            refine Stop.out (in_sl1 (own := [_]) N hso (by omega) (intKind_is _ _ _ _) rfl ?_)
            by_cases hvs : v ∈ seen
            · rw [decide_eq_true hvs]
              unfold dfs at hdq
              rw [if_pos hvs] at hdq
              k_steps
              by_cases hvn : v ∈ (stOf fs).map (·.1)
              · rw [if_pos hvn] at hdq
                have hvn' := st_mem.mp hvn
                obtain ⟨ti, hti⟩ := kv_at hkv hvn'
                refine Stop.out (kda_in N (.head _) hkd fst.sm (intKind_is _ _ _ _) true (by rw [hti]; rfl) ?_)
                k_steps
                refine Stop.out (kda_item N (.head _) hkd (intKind_is _ _ _ _) hti ?_)
                k_steps
                have hli := fst.isInts
                have hfl := fst.flen
                have hnl : (fs.reverse.map (·.node)).length ≤ 201 := by simp; omega
                refine Stop.out ?_
                refine kmk_slice_ints F N (isList_of (N.get (a := sk) (o := W.listOf vs.toArray b) (.tail _ (.tail _ (.tail _ (.head _)))))) (.int _ _) .none hli (kmk_from hli (by omega)) rfl (fun D1 ws1 h1 F4 N4 l4 hI4 _ _ => ?_) (by with_unfolding_all rfl) (by intro _; with_unfolding_all rfl) (kmk_sz hli (by rw [sizeLine_eq]; omega))
                k_steps
                rename Fr _ _ _ _ => F5
                rename News _ _ _ _ => N5
                refine Stop.out ?_
                refine add_lists_ints F5 N5 (N5.isList (.tail _ (.head _))) (N5.isList (.head _)) hI4 (.cons _ _ .nil) (fun h3 F6 N6 hI6 => ?_) (by rw [sizeLine_eq, List.length_drop]; simp; omega)
                k_steps
                have e1 : (stOf fs).map (·.1) = fs.map (·.node) := by simp [stOf]
                refine .inr ⟨_, rfl, _, _, g', _, _, (ws1 ++ [Value.int v t]).toArray, 0, rfl, (Option.some.inj hdq).symm, KT, F6.keep, fun p hp => nb_mem N6 (.tail _ (.tail _ (.tail _ (.tail _ (.tail _ (.tail _ (.tail _ (List.mem_append_right _ hp)))))))), rfl, N6.get (.head _), ?_, N6.fresh (.head _), fun p hp => Nat.ne_of_lt (Heap.lt_size (N5 p (.tail _ (.tail _ (.tail _ (.tail _ (.tail _ (.tail _ (List.mem_append_right _ hp)))))))).1)⟩
                rw [e1, ← List.map_reverse]
                simpa using hI6
              · rw [if_neg hvn] at hdq
                refine Stop.out (kda_in N (.head _) hkd fst.sm (intKind_is _ _ _ _) false (by rw [kv_no hkv fun q => hvn (st_mem.mpr q)]; rfl) ?_)
                k_steps
                exact .inl ⟨rfl, _, _, m, fs, seen, rfl, ⟨g', no, so, vs, a, b, KT, B', F, N, fst, hv1, hv2, hv3, hv4, hv5⟩, hdq⟩
            · rw [decide_eq_false hvs]
              unfold dfs at hdq
              rw [if_neg hvs] at hdq
              have ndL : ((ledF dn se ik sk no so fs a b vs ext).map (fun x : Addr × Obj => x.1)).Nodup := fst.nd
              by_cases hck : v ∈ (absG rs).map (·.1) ∧ seen.length ≤ 200 ∧ (stOf fs).length ≤ 200
              · rw [if_pos hck] at hdq
                obtain ⟨hck1, hck2, hck3⟩ := hck
                obtain ⟨pr, r, po, hrs, hrk⟩ : ∃ pr r po, rs = pr ++ r :: po ∧ r.key = v := by
                  rw [abs_keys] at hck1
                  obtain ⟨r, hr, e⟩ := List.mem_map.mp hck1
                  obtain ⟨pr, po, e'⟩ := List.append_of_mem hr
                  exact ⟨pr, r, po, e', e⟩
                have hrv : valueAt (kv rs) v = some (.ref r.ia) := by
                  cases e : valueAt (kv rs) v with
                  | none => exact absurd hrk (valueAt_none e r (by rw [hrs]; simp))
                  | some x =>
                    refine hide fun G' back' => ?_
                    obtain ⟨pr', r', po', hrs', hrk', rfl⟩ := valueAt_kv e
                    refine back' ?_
                    clear back' G'
                    have : r' = r := key_inj wf.keys (by rw [hrs']; simp) (by rw [hrs]; simp) (hrk'.trans hrk.symm)
                    rw [this]
                have hmr : ∀ q ∈ r.led, q ∈ ext := by
                  intro q hq
                  rw [← hext, ← hown, hrs, recsN_app, recsN_cons]
                  exact List.mem_append_left _ (List.mem_append_right _ (List.mem_append_right _ (List.mem_append_left _ hq)))
                have hmn : (nd, od) ∈ ext := by rw [← hext]; exact List.mem_append_left _ hin
                k_steps
                refine Stop.out (getMethod_add_sl1 (own := [_]) N hso (by omega) ?_)
                k_steps
                obtain ⟨p1, p2⟩ := nd_split (pre := [(dn, no)]) (d := se) ndL
                refine Stop.out (add_sl1 (own := [_]) F N p1 p2 hso hsb (intKind_is _ _ _ _) rfl fun h₁ so₁ F₁ N₁ hso₁ => ?_)
                clear F N
                k_steps
                refine Stop.out (kl_method N₁ (D := ik) (.tail _ (.tail _ (.head _))) PySem.F.slot_list_append PySem.F.type_list_append ?_)
                k_steps
                refine Stop.out (kda_item N₁ (.tail _ (.tail _ (.tail _ (.tail _ (List.mem_append_right _ hmn))))) hd (intKind_is _ _ _ _) hrv ?_)
                k_steps
                have hI₁ : InstAt h₁ r.ia r.info 47 (some (dictOf [] 0)) := InstAt.of_news N₁ (.tail _ (.tail _ (.tail _ (.tail _ (List.mem_append_right _ (hmr _ (.head _))))))) (.tail _ (.tail _ (.tail _ (.tail _ (List.mem_append_right _ (hmr _ (.tail _ (.head _))))))))
                refine Stop.out ?_
                refine' get_slot F₁ X' hI₁ ?k4 ?k5 ?k6 ?k7 ?k8 ?k9 ?k10 ?k11 ?_
                case k4 => k_is
                case k5 => k_is
                case k6 => k_is
                case k7 => k_is
                case k8 => k_is
                case k9 => k_is
                case k10 => k_slotget
                case k11 => k_handed
                k_steps
                refine Stop.out (iter_list F₁ N₁ (l := r.la) (items := r.sv.toArray) (n := r.sn) (.tail _ (.tail _ (.tail _ (.tail _ (List.mem_append_right _ (hmr _ (.tail _ (.tail _ (.head _)))))))))  fun I h₂ F₂ N₂ hI₂ => ?_)
                clear F₁ N₁ hI₁
                k_steps
                refine Stop.out (next_news F₂ N₂ (.head _) fun bb h₃ tk₃ F₃ N₃ hb₃ => ?_)
                clear F₂ N₂
                k_steps
                have N₄ := push_led (v := v) N₃
                have nd₄ := push_nd (v := v) (la := r.la) fst.nd (fun x hx => by
                  have hx' : x ∈ ([(dn, no)] ++ (se, so₁) :: (ik, ikO fs a) :: (sk, W.listOf vs.toArray b) :: (fled fs ++ ext)).map (fun x : Addr × Obj => x.1) := hx
                  obtain ⟨q, hq, rfl⟩ := List.mem_map.mp hx'
                  exact hI₂ q hq) (fun x hx => by
                  have hx' : x ∈ ((I, listIt r.la 0) :: ([(dn, no)] ++ (se, so₁) :: (ik, ikO fs a) :: (sk, W.listOf vs.toArray b) :: (fled fs ++ ext))).map (fun x : Addr × Obj => x.1) := hx
                  obtain ⟨q, hq, rfl⟩ := List.mem_map.mp hx'
                  exact hb₃ q hq)
                clear N₃
                have hfl := fst.flen
                obtain ⟨p3, p4⟩ := nd_split (pre := [(dn, no), (se, so₁)]) (d := ik) (o := ikO fs a) (post := (sk, W.listOf vs.toArray b) :: (fled ((⟨v, 0, bb, I, r.la⟩ : Fe) :: fs) ++ ext)) nd₄
                refine Stop.out (appendAt (pre := [_, _]) F₃ N₄ p3 p4 (by simp; omega) fun h₅ F₅ N₅ => ?_)
                clear F₃ N₄
                dsimp only
                k_steps
                have hvl : vs.length = fs.length := by rw [fst.isInts.length]; simp
                refine Stop.out (kun_lenL (isList_of (N₅.get (a := sk) (o := W.listOf vs.toArray b) (.tail _ (.tail _ (.tail _ (.head _)))))) (k := ((fs.reverse.map (·.node)).length : Nat)) (by simp [hvl]) (by simp; omega) ?_)
                k_steps
                have N₅' : News g' s.heap.objs.size h₅ ((dn, no) :: (se, so₁) :: (ik, W.listOf (List.map (fun f => Value.ref f.b) fs.reverse ++ [Value.ref bb]).toArray (a + 1)) :: (sk, W.listOf vs.toArray b) :: (fled ((⟨v, 0, bb, I, r.la⟩ : Fe) :: fs) ++ ext)) := N₅
                clear N₅
                obtain ⟨p5, p6⟩ := nd_split (pre := []) (d := dn) (o := no) (post := (se, so₁) :: (ik, W.listOf (List.map (fun f => Value.ref f.b) fs.reverse ++ [Value.ref bb]).toArray (a + 1)) :: (sk, W.listOf vs.toArray b) :: (fled ((⟨v, 0, bb, I, r.la⟩ : Fe) :: fs) ++ ext)) nd₄
                have hkl' : kvs.length = fs.length := by have := congrArg List.length hkv.1; simpa using this
                refine Stop.out (kda_set F₅ N₅' (UpdF.head p6) hkd (intKind_is _ _ _ _) (by rw [sizeLine_eq]; omega) fun h₆ no₆ F₆ N₆ hkd₆ => ?_)
                clear F₅ N₅'
                dsimp only
                k_steps
                refine Stop.out (kl_method N₆ (D := sk) (.tail _ (.tail _ (.tail _ (.head _)))) PySem.F.slot_list_append PySem.F.type_list_append ?_)
                k_steps
                obtain ⟨p7, p8⟩ := nd_split (pre := [(dn, no₆), (se, so₁), (ik, W.listOf (List.map (fun f => Value.ref f.b) fs.reverse ++ [Value.ref bb]).toArray (a + 1))]) (d := sk) (o := W.listOf vs.toArray b) (post := (fled ((⟨v, 0, bb, I, r.la⟩ : Fe) :: fs) ++ ext)) nd₄
                refine Stop.out (appendAt (pre := [_, _, _]) F₆ N₆ p7 p8 (by omega) fun h₇ F₇ N₇ => ?_)
                clear F₆ N₆
                dsimp only
                k_steps
                rename Fr _ _ _ _ => F₈
                rename News _ _ _ _ => N₈
                have hvnn : v ∉ fs.reverse.map (·.node) := fun q => by
                  obtain ⟨f, hf, e⟩ := List.mem_map.mp q
                  exact hvs (e ▸ fst.inSeen f (List.mem_reverse.mp hf))
                have e1 : ((⟨v, 0, bb, I, r.la⟩ : Fe) :: fs).reverse.map (·.node) = fs.reverse.map (·.node) ++ [v] := by simp
                have e2 : ((⟨v, 0, bb, I, r.la⟩ : Fe) :: fs).reverse.map (fun f => Value.ref f.b) = fs.reverse.map (fun f => Value.ref f.b) ++ [Value.ref bb] := by simp
                have hst : stOf ((⟨v, 0, bb, I, r.la⟩ : Fe) :: fs) = (v, 0) :: stOf fs := rfl
                refine .inl ⟨rfl, _, _, m, (⟨v, 0, bb, I, r.la⟩ : Fe) :: fs, v :: seen, rfl, ⟨g', no₆, so₁, vs ++ [.int v t], a + 1, b + 1, KT, B', F₈, ?_, ⟨nd₄, ⟨_, hkd₆, ?_⟩, ?_, ⟨sn + 1, ?_, by simp; omega⟩, ?_, fst.sm, ?_, ?_, by simp; omega, by simp [stOf] at hck3; simp; omega⟩, hv1, hv2, hv3, hv4, hv5⟩, by rw [hst]; exact hdq⟩
                · rw [ledF, ikO, e2]; exact N₈
                · rw [e1]; exact kv_push hkv hvnn _
                · rw [e1]; exact ints_snoc fst.isInts v t
                · have hfun : (fun k' => decide (k' ∈ seen) || decide (k' = v)) = fun k => decide (k ∈ v :: seen) := by
                    funext k
                    by_cases h1 : k ∈ seen <;> by_cases h2 : k = v <;> simp [h1, h2]
                  rw [hfun, if_neg (by simpa using hvs)] at hso₁
                  exact hso₁
                · intro f hf
                  rcases List.mem_cons.mp hf with rfl | hf
                  · exact ⟨r, by rw [hrs]; simp, hrk, rfl⟩
                  · exact fst.recs f hf
                · intro f hf
                  rcases List.mem_cons.mp hf with rfl | hf
                  · exact .head _
                  · exact .tail _ (fst.inSeen f hf)
                · rw [List.map_cons, List.nodup_cons]
                  exact ⟨fun q => hvnn (by simpa using q), fst.nodes⟩
              · rw [if_neg hck] at hdq; cases hdq
          · rintro f s' (⟨rfl, Mid⟩ | ⟨v, rfl, End⟩)
            · dsimp only
              clear F N fst hkd hkv hso hsb X' T' KT B' hv1 hv2 hv3 hv4 hv5 hnode hdq hsn
              refine hide fun G' back' => ?_
              obtain ⟨h, tk, m, fs, seen, rfl, St, hpd⟩ := Mid
              refine back' ?_
              clear back' G'
              refine wpAny_execs_cons (wpAny_While (whileLoop_w (InSt w { depth := dp, frames := some outer, guards := gd, units := un } base outer g s rs nd dn se ik sk ext seen (popGo (absG rs) (stOf fs))) ?_ fs.length ⟨h, tk, m, fs, rfl, St, rfl, rfl⟩))
              clear St
              generalize popGo (absG rs) (stOf fs) = pg at hpd ⊢
              intro j s' hp1
              refine hide fun G' back' => ?_
              obtain ⟨h, tk, m, fs, rfl, ⟨g', no, so, vs, a, b, KT, B', F, N, fst, hv1, hv2, hv3, hv4, hv5⟩, rfl, hpg⟩ := hp1
              refine back' ?_
              clear back' G'
              have X' : Frag.In (Mine.hd.heap_39 w.params) g' := XB.keeps B'.stays
              have T' : Top Mine.hd.view_39 (looseW Mine.hd.view_39 [Str.ofString "_NodeInfo"]) mean mg mb g' := TB.keeps B'.stays
              have hvl : vs.length = fs.length := by rw [fst.isInts.length]; simp
              have hfl := fst.flen
              k_steps
              refine Stop.out (kgr_truthy (a := sk) N (.tail _ (.tail _ (.tail _ (.head _)))) rfl rfl (by omega) ?_)
              cases fs with
              | nil =>
                have hvn : vs = [] := List.length_eq_zero_iff.mp hvl
                subst hvn
                rw [show (!([] : List Value).isEmpty) = false from rfl]
                k_steps
                have hpn : pg = none := hpg.symm
                subst hpn
                have hd' : d = .inr seen := (Option.some.inj hpd).symm
                subst hd' hext
                exact ⟨k, Nat.lt_succ_self _, i + 1, oI', _, _, _, seen, rfl, by omega, ⟨g', no, so, [], a, b, KT, B', F, N, fst, hv1, hv2, hv3, hv4, hv5⟩, ⟨hoc', hod'⟩, hf⟩
              | cons f fs =>
                have hvn : (!vs.isEmpty) = true := by
                  cases vs with
                  | nil => simp at hvl
                  | cons _ _ => rfl
                rw [hvn]
                k_steps
                refine wpAny_Try_except ?_
                k_steps
                have eik : (List.map (fun f => Value.ref f.b) (f :: fs).reverse) = List.map (fun f => Value.ref f.b) fs.reverse ++ [Value.ref f.b] := by simp
                refine Stop.out (item_last (vi := List.map (fun f => Value.ref f.b) fs.reverse) (v := Value.ref f.b) (by rw [← eik]; exact isList_of (N.get (a := ik) (o := ikO (f :: fs) a) (.tail _ (.tail _ (.head _))))) ?_)
                have ndL : ((ledF dn se ik sk no so (f :: fs) a b vs ext).map (fun x : Addr × Obj => x.1)).Nodup := fst.nd
                have hmb : (f.b, bnd f.I) ∈ ledF dn se ik sk no so (f :: fs) a b vs ext := .tail _ (.tail _ (.tail _ (.tail _ (.head _))))
                have hmi : (f.I, listIt f.la f.pos) ∈ ledF dn se ik sk no so (f :: fs) a b vs ext := .tail _ (.tail _ (.tail _ (.tail _ (.tail _ (.head _)))))
                refine callWith_bnd (N.get hmb) ?_
                refine hide fun G' back' => ?_
                obtain ⟨r, hr, hrk, hrl⟩ := fst.recs f (.head _)
                refine back' ?_
                clear back' G'
                have hmr : ∀ q ∈ r.led, q ∈ ext := by
                  intro q hq
                  obtain ⟨pr, po, e'⟩ := List.append_of_mem hr
                  rw [← hext, ← hown, e', recsN_app, recsN_cons]
                  exact List.mem_append_left _ (List.mem_append_right _ (List.mem_append_right _ (List.mem_append_left _ hq)))
                have hla : h.get? f.la = some (W.listOf r.sv.toArray r.sn) := by
                  rw [← hrl]
                  exact N.get (.tail _ (.tail _ (.tail _ (.tail _ (.tail _ (.tail _ (List.mem_append_right _ (hmr (r.la, r.lst) (.tail _ (.tail _ (.head _)))))))))))
                have hsu : sucOf (absG rs) f.node = r.ss := by rw [← hrk]; exact suc_of wf.keys hr
                have hir := wf.isInts r hr
                have hpg' : (match r.ss[f.pos]? with | some v => some (v, (f.node, f.pos + 1) :: stOf fs) | none => popGo (absG rs) (stOf fs)) = pg := by rw [← hpg, ← hsu]; rfl
                obtain ⟨w1, w2⟩ := nd_split (pre := [(dn, no), (se, so), (ik, ikO (f :: fs) a), (sk, W.listOf vs.toArray b), (f.b, bnd f.I)]) (d := f.I) (o := listIt f.la f.pos) (post := fled fs ++ ext) ndL
                cases hsp : r.ss[f.pos]? with
                | some v' =>
                  rw [hsp] at hpg'
                  obtain ⟨tv, htv⟩ := ints_get hir hsp
                  refine bnd_item (N.get hmb) (N.get hmi) hla rfl (by rw [List.getElem?_toArray]; exact htv) fun h₁ hi₁ hs₁ => ?_
                  obtain ⟨F₁, N₁⟩ := news_put (pre := [(dn, no), (se, so), (ik, ikO (f :: fs) a), (sk, W.listOf vs.toArray b), (f.b, bnd f.I)]) F N w1 w2 hs₁ hi₁
                  clear F N hs₁ hi₁
                  k_steps
                  rename Fr _ _ _ _ => F₂
                  rename News _ _ _ _ => N₂
                  subst hpg'
                  have N₃ := led_step N₂
                  exact ⟨q, Nat.lt_succ_self _, _, _, _, { f with pos := f.pos + 1 } :: fs, seen, v', tv, rfl, ⟨g', no, so, vs, a, b, KT, B', F₂, N₃, fs_step _ fst, hv1, hv2, hv3, hv4, hv5⟩, rfl, hpd⟩
                | none =>
                  rw [hsp] at hpg'
                  refine bnd_end rfl (N.get hmb) (N.get hmi) hla rfl (by rw [List.getElem?_toArray]; exact List.getElem?_eq_none (by rw [hir.length]; exact List.getElem?_eq_none_iff.mp hsp)) fun h₁ h₂ e hs₁ hx₁ => ?_
                  have F₁ : Fr g' s.heap.objs.size h₁ m := F.change hs₁ (N _ hmi).2.1 (N _ hmi).2.2
                  have N₁ : News g' s.heap.objs.size h₁ ((dn, no) :: (se, so) :: (ik, ikO (f :: fs) a) :: (sk, W.listOf vs.toArray b) :: (fled fs ++ ext)) := by
                    intro p hp
                    have hp1 : p.1 ≠ f.I := by
                      have : p ∈ [(dn, no), (se, so), (ik, ikO (f :: fs) a), (sk, W.listOf vs.toArray b)] ++ (fled fs ++ ext) := hp
                      rcases List.mem_append.mp this with q | q
                      · exact w1 p (List.mem_append_left [(f.b, bnd f.I)] q)
                      · exact w2 p q
                    have hp2 : p ∈ ledF dn se ik sk no so (f :: fs) a b vs ext := by
                      have : p ∈ [(dn, no), (se, so), (ik, ikO (f :: fs) a), (sk, W.listOf vs.toArray b)] ++ (fled fs ++ ext) := hp
                      rcases List.mem_append.mp this with q | q
                      · exact List.mem_append_left ([(f.b, bnd f.I), (f.I, listIt f.la f.pos)] ++ (fled fs ++ ext)) q
                      · exact .tail _ (.tail _ (.tail _ (.tail _ (.tail _ (.tail _ q)))))
                    have z := N p hp2
                    exact ⟨(hs₁.2 p.1 hp1).trans z.1, z.2⟩
                  dsimp only at hx₁ ⊢
                  refine caught_new (KF := Mine.hd.heap_39 w.params) (x := Str.ofString "StopIteration") B' (X := "StopIteration") (T' := "StopIteration") hx₁ F₁ N₁ XB TB (D.turn KT) KT (by k_is) boot_stop (by decide) stop_exc stop_nt stop_sub (fun h₃ g₃ KT₃ F₃ N₃ B₃ X₃ T₃ D₃ => ?_)
                  obtain ⟨kvs, hkd, hkv⟩ := fst.dict
                  have er : (f :: fs).reverse.map (·.node) = fs.reverse.map (·.node) ++ [f.node] := by simp
                  have hisv := fst.isInts
                  rw [er] at hisv hkv
                  refine hide fun G' back' => ?_
                  obtain ⟨vs', tf, rfl, hiv'⟩ := ints_unsnoc hisv
                  refine back' ?_
                  clear back' G'
                  clear F N F₁ N₁ hx₁ hs₁ w1 w2 hmb hmi
                  have hnn : (fs.reverse.map (·.node) ++ [f.node]).Nodup := by
                    rw [← er, List.map_reverse]
                    exact (List.reverse_perm _).symm.nodup fst.nodes
                  obtain ⟨ti, hti⟩ := kv_at hkv (k := f.node) (by simp)
                  have hkvp := kv_pop hkv hnn
                  have hkl' : kvs.length = fs.length + 1 := by have := congrArg List.length hkv.1; simpa using this
                  have nd₃ : ((dn :: se :: ik :: sk :: (fled fs ++ ext).map (fun x : Addr × Obj => x.1))).Nodup := by
                    refine List.Nodup.sublist ?_ fst.nd
                    show ([dn, se, ik, sk] ++ (fled fs ++ ext).map (fun x : Addr × Obj => x.1)).Sublist ([dn, se, ik, sk] ++ ([f.b, f.I] ++ (fled fs ++ ext).map (fun x : Addr × Obj => x.1)))
                    exact List.Sublist.append_left (List.sublist_append_right _ _) _
                  rw [List.length_cons] at hfl
                  have hvl' : vs'.length = fs.length := by rw [hiv'.length]; simp
                  have N₄ : News g₃ s.heap.objs.size h₃ ((dn, no) :: (se, so) :: (ik, W.listOf (List.map (fun f => Value.ref f.b) fs.reverse ++ [Value.ref f.b]).toArray a) :: (sk, W.listOf (vs' ++ [Value.int f.node tf]).toArray b) :: (fled fs ++ ext)) := by
                    rw [← eik]; exact N₃
                  clear N₃
                  k_steps
                  refine Stop.out (kl_method N₄ (D := sk) (.tail _ (.tail _ (.tail _ (.head _)))) PySem.F.slot_list_pop PySem.F.type_list_pop ?_)
                  k_steps
                  obtain ⟨p7, p8⟩ := nd_split (pre := [(dn, no), (se, so), (ik, W.listOf (List.map (fun f => Value.ref f.b) fs.reverse ++ [Value.ref f.b]).toArray a)]) (d := sk) (o := W.listOf (vs' ++ [Value.int f.node tf]).toArray b) (post := fled fs ++ ext) nd₃
                  refine Stop.out (popAt (pre := [_, _, _]) F₃ N₄ p7 p8 (by omega) fun h₄ F₄ N₅ => ?_)
                  clear F₃ N₄
                  k_steps
                  have N₅' : News g₃ s.heap.objs.size h₄ ((dn, no) :: (se, so) :: (ik, W.listOf (List.map (fun f => Value.ref f.b) fs.reverse ++ [Value.ref f.b]).toArray a) :: (sk, W.listOf vs'.toArray (b + 1)) :: (fled fs ++ ext)) := N₅
                  clear N₅
                  obtain ⟨p5, p6⟩ := nd_split (pre := []) (d := dn) (o := no) (post := (se, so) :: (ik, W.listOf (List.map (fun f => Value.ref f.b) fs.reverse ++ [Value.ref f.b]).toArray a) :: (sk, W.listOf vs'.toArray (b + 1)) :: (fled fs ++ ext)) nd₃
                  refine Stop.out (del_dict (own := []) (intKind_is _ _ _ _) F₄ N₅' p5 p6 hkd (by rw [hti]; rfl) (by omega) fun h₅ no₅ F₅ N₆ hkd₅ => ?_)
                  clear F₄ N₅'
                  k_steps
                  refine Stop.out (kl_method N₆ (D := ik) (.tail _ (.tail _ (.head _))) PySem.F.slot_list_pop PySem.F.type_list_pop ?_)
                  k_steps
                  obtain ⟨p3, p4⟩ := nd_split (pre := [(dn, no₅), (se, so)]) (d := ik) (o := W.listOf (List.map (fun f => Value.ref f.b) fs.reverse ++ [Value.ref f.b]).toArray a) (post := (sk, W.listOf vs'.toArray (b + 1)) :: (fled fs ++ ext)) nd₃
                  refine Stop.out (popAt (pre := [_, _]) F₅ N₆ p3 p4 (by simp; omega) fun h₆ F₆ N₇ => ?_)
                  clear F₅ N₆
                  k_steps
                  exact ⟨fs.length, Nat.lt_succ_self _, _, _, m, fs, rfl, ⟨g₃, no₅, so, vs', a + 1, b + 1, KT₃, B₃, F₆, N₇, fs_drop fst ⟨_, hkd₅, hkvp⟩ hiv', hv1, hv2, hv3, hv4, hv5⟩, rfl, hpg'⟩
            · dsimp only
              refine hide fun G' back' => ?_
              obtain ⟨h, tk, g', r, a, its, n, rfl, rfl, KT, st', nb, rfl, ha, hi, hga, hoa⟩ := End
              refine back' ?_
              clear back' G'
              have hres : res = some r := (Option.some.inj hf).symm
              subst hext
              exact ret1 r hres h tk g' a its n KT st' (fun p hp => nb p (List.mem_append_left _ hp)) ha hi hga fun p hp => hoa p (List.mem_append_left _ hp)
end Mine
end
section
open PySem PySem.W PySem.W.X PySem.Calls PyProof.Rows
set_option Elab.async false
set_option maxRecDepth 100000
set_option maxHeartbeats 1000000
namespace Mine
theorem find_in {w : World} {mean : ExcName → Option Value} {mg mb : Str → Option Value} {A₀ A : Around} {s : Shared} {Q E : Value → Shared → Prop} {base g : Heap} {outer : List Env} {L a : Addr} {m : Str → Option Value} {cn : Str} {cs : Scope} {ccd : Value}
    {sa : Addr} {rv pv fv : Value} {gr : Gr} {own ext : List (Addr × Obj)}
    (hh : A.handled = none) (B : Below A₀ base outer g) (F : Fr g L s.heap m) (hA : A.frames = some (envOf cn cs L a ccd :: outer)) (hck : cs.kind = .function)
    (XB : Frag.In (Mine.hd.heap_39 w.params) base) (TB : Top Mine.hd.view_39 (looseW Mine.hd.view_39 [Str.ofString "_NodeInfo"]) mean mg mb base) (D : KtsDicts (frs outer) g)
    (N : News g L s.heap (own ++ ext)) (S : SoL w sa rv pv fv gr own) (off : Off own ext) {fuel : Nat} {res : Option (List Int)} (hfind : findP gr fuel = some res) (hgl : gr.length ≤ 100)
    (hdp : A.depth + 60 < 1000) (hun : A.units + 600 < 9900)
    (ret0 : res = none → ∀ h' tk g', KtsTurn (frs outer) g g' → Fr g' L h' m → News g' L h' (own ++ ext) → Below A₀ base outer g' → Q .none { s with heap := h', toks := tk })
    (ret1 : ∀ r, res = some r → ∀ h' tk g' c its n, KtsTurn (frs outer) g g' → Fr g' L h' m → News g' L h' ((c, W.listOf its n) :: (own ++ ext)) → Below A₀ base outer g' → IntsAre its.toList r → (∀ p ∈ own ++ ext, p.1 ≠ c) → Q (.ref c) { s with heap := h', toks := tk }) :
    wpAny (model PySem.Challenge.rw_nb0242_01.row.prog w) A (call (.ref 134) [.ref sa]) Q E s := by
  have No : News g L s.heap own := fun p hp => N p (List.mem_append_left _ hp)
  have Ne : News g L s.heap ext := fun p hp => N p (List.mem_append_right _ hp)
  obtain ⟨oL, es, ep, hLg, hLd, hN, hNs, st, B₂⟩ := kts_enter B F No hA hck
  have FG : Fr g L (hideAll s.heap (own.map (·.1))) m := ⟨hN _ hLg, st, F.above⟩
  have NG : News g L (hideAll s.heap (own.map (·.1))) ext := fun p hp => ⟨hideAll_get _ (Ne p hp).1 (off p hp), (Ne p hp).2⟩
  have DG : KtsDicts (frs (envOf cn cs L a ccd :: outer)) (hideAll s.heap (own.map (·.1))) := fun b hb => by
    rcases kts_mem hb with rfl | z
    · exact ⟨oL, es, ep, hLg, hLd⟩
    · obtain ⟨o, es', n, ho, hd⟩ := D b z
      exact ⟨o, es', n, st _ _ ho, hd⟩
  have back : ∀ {h' g' : Heap}, KtsTurn (frs (envOf cn cs L a ccd :: outer)) (hideAll s.heap (own.map (·.1))) g' → g'.StaysIn h' → NB g' h' own → ∃ h₀', KtsTurn (frs outer) g h₀' ∧ Fr h₀' L h' m ∧ News h₀' L h' (own ++ ext) ∧ Below A₀ base outer h₀' := by
    intro h' g' KT st' nb
    obtain ⟨h₀', T₁, F₁, N₁, B₁⟩ := reground B FG NG KT st'
    refine ⟨h₀', T₁, F₁, fun p hp => ?_, B₁⟩
    rcases List.mem_append.mp hp with hp | hp
    · exact ⟨(nb p hp).1, (No p hp).2.1, T₁.none_ _ (No p hp).2.2⟩
    · exact N₁ p hp
  refine find_call hh B₂ XB TB DG (fun b o e => of_hideAll _ e) (Nat.le_of_eq (hideAll_size _ _)) (fun p hp => ⟨(No p hp).1, hideAll_none _ (List.mem_map_of_mem hp)⟩) S hfind hgl hdp hun ?_ ?_
  · intro hr h' tk g' KT st' nb
    obtain ⟨h₀', T₁, F₁, N₁, B₁⟩ := back KT st' nb
    exact ret0 hr h' tk h₀' T₁ F₁ N₁ B₁
  · intro r hr h' tk g' c its n KT st' nb hc hi hgc hoc
    obtain ⟨h₀', T₁, F₁, N₁, B₁⟩ := back KT st' nb
    have hcn : ∀ b o, (hideAll s.heap (own.map (·.1))).get? b = some o → b ≠ c := fun b o e q => by
      obtain ⟨sl, hs⟩ := KT.up e
      rw [q, hgc] at hs; cases hs
    refine ret1 r hr h' tk h₀' c its n T₁ F₁ (fun p hp => ?_) B₁ hi fun p hp => ?_
    · rcases List.mem_cons.mp hp with rfl | hp
      · refine ⟨hc, fun q => hcn L oL hLg q.symm, ?_⟩
        cases e : h₀'.get? c with
        | none => rfl
        | some o =>
          cases e₂ : g.get? c with
          | none => rw [T₁.none_ _ e₂] at e; cases e
          | some o₂ => exact absurd rfl (hcn c o₂ (st _ _ e₂))
      · exact N₁ p hp
    · rcases List.mem_append.mp hp with hp | hp
      · exact hoc p hp
      · exact hcn _ _ (NG p hp).1
end Mine
end
section
open PySem PySem.W PySem.W.X PySem.Calls PyProof.Rows
set_option Elab.async false
set_option maxRecDepth 100000
set_option maxHeartbeats 1000000
namespace Mine
section
variable {g h₂ h₃ : Heap} {L I C : Addr} {m m₃ : Str → Option Value} {news : List (Addr × Obj)}
theorem quiet_fr (F : Fr g L h₂ m) (N : News g L h₂ news) (hIL : L ≠ I) (hIg : g.get? I = none) (off : ∀ p ∈ news, p.1 ≠ I) (hC : h₂.objs.size ≤ C) (hn : h₃.Ns C m₃) (hk : ∀ b o, b ∉ [I] → h₂.get? b = some o → h₃.get? b = some o) :
    ∃ oC, LCg.NsObj oC m₃ ∧ Fr g L h₃ m ∧ News g L h₃ ((C, oC) :: news) := by
  obtain ⟨oC, ho, hno⟩ := LCg.ns_obj hn
  have F₃ : Fr g L h₃ m := LCg.fr_but F hk hIL hIg
  have hlt : ∀ b o, h₂.get? b = some o → b ≠ C := fun b o e q => Nat.lt_irrefl _ (Nat.lt_of_lt_of_le (Heap.lt_size e) (q ▸ hC))
  obtain ⟨oL, _, _, hL, _⟩ := F.ns
  refine ⟨oC, hno, F₃, fun p hp => ?_⟩
  rcases List.mem_cons.mp hp with rfl | hp
  · refine ⟨ho, fun q => hlt L oL hL q.symm, ?_⟩
    cases e : g.get? C with
    | none => rfl
    | some o => exact absurd rfl (hlt C o (F.keep _ _ e))
  · exact LCg.news_but N hk off p hp
theorem comp_fr {D : Addr} {ys : Array Value} (F : Fr g L h₂ m) (N : News g L h₂ news) (hIL : L ≠ I) (hIg : g.get? I = none) (off : ∀ p ∈ news, p.1 ≠ I) (hD : h₂.get? D = none) (hl : h₃.PlainList D ys) (hk : ∀ b o, b ∉ [I] → h₂.get? b = some o → h₃.get? b = some o) :
    ∃ n, Fr g L h₃ m ∧ News g L h₃ ((D, W.listOf ys n) :: news) ∧ ∀ p ∈ news, p.1 ≠ D := by
  obtain ⟨n, ho⟩ := hl
  have F₃ : Fr g L h₃ m := LCg.fr_but F hk hIL hIg
  have hne : ∀ b o, h₂.get? b = some o → b ≠ D := fun b o e q => by rw [q, hD] at e; cases e
  obtain ⟨oL, _, _, hL, _⟩ := F.ns
  refine ⟨n, F₃, fun p hp => ?_, fun p hp => hne _ _ (N p hp).1⟩
  rcases List.mem_cons.mp hp with rfl | hp
  · refine ⟨ho, fun q => hne L oL hL q.symm, ?_⟩
    cases e : g.get? D with
    | none => rfl
    | some o => exact absurd rfl (hne D o (F.keep _ _ e))
  · exact LCg.news_but N hk off p hp
theorem comp_frA {D : Addr} {ys : Array Value} {m' : Str → Option Value} (F : Fr g L h₂ m) (N : News g L h₂ news) (hIL : L ≠ I) (hIg : g.get? I = none) (off : ∀ p ∈ news, p.1 ≠ I) (hD : h₂.get? D = none) (hl : h₃.PlainList D ys) (hns : h₃.Ns L m') (hk : ∀ b o, b ≠ L → b ∉ [I] → h₂.get? b = some o → h₃.get? b = some o) :
    ∃ n, Fr g L h₃ m' ∧ News g L h₃ ((D, W.listOf ys n) :: news) ∧ ∀ p ∈ news, p.1 ≠ D := by
  obtain ⟨n, ho⟩ := hl
  have hgL : ∀ b o, g.get? b = some o → b ≠ L ∧ b ∉ [I] := fun b o e => ⟨fun q => by
    have := Heap.lt_size e
    rw [q] at this
    exact Nat.lt_irrefl _ (Nat.lt_of_lt_of_le this F.above), fun q => by rw [List.mem_singleton.mp q, hIg] at e; cases e⟩
  have F₃ : Fr g L h₃ m' := ⟨hns, fun b o e => hk b o (hgL b o e).1 (hgL b o e).2 (F.keep b o e), F.above⟩
  have hne : ∀ b o, h₂.get? b = some o → b ≠ D := fun b o e q => by rw [q, hD] at e; cases e
  obtain ⟨oL, _, _, hL, _⟩ := F.ns
  refine ⟨n, F₃, fun p hp => ?_, fun p hp => hne _ _ (N p hp).1⟩
  rcases List.mem_cons.mp hp with rfl | hp
  · refine ⟨ho, fun q => hne L oL hL q.symm, ?_⟩
    cases e : g.get? D with
    | none => rfl
    | some o => exact absurd rfl (hne D o (F.keep _ _ e))
  · exact ⟨hk _ _ (N p hp).2.1 (by simpa using off p hp) (N p hp).1, (N p hp).2⟩
end
end Mine
end
section
open PySem PySem.W PySem.W.X PySem.Calls PyProof.Rows
set_option Elab.async false
set_option maxRecDepth 100000
set_option maxHeartbeats 1000000
namespace Mine
noncomputable def readyP (gr : Gr) : List Int := (gr.filter fun x => decide (x.2.1 = 0)).map (·.1)
local macro_rules | `(tactic| walk_at "eval Name") => `(tactic| (k_dflt (refine' ld ?k1 ?k2 ?_; (case k1 => k_asm); (case k2 => first | exact rfl | assumption); k_whole)))
local macro_rules | `(tactic| k_room) => `(tactic| ((try simp only [depth_under_make, depth_under_kw, depth_in1, depth_deeper, depth_caller]); dsimp only [recursionLimit] at *; omega))
local macro_rules | `(tactic| walk_at "call ref") => `(tactic| ((with_reducible show wpAny _ _ (call (Value.ref _) _) _ _ _); refine stop_in ?_))
local macro_rules | `(tactic| walk_at "truthy ref") => `(tactic| refine stop_in ?_)
local macro_rules | `(tactic| k_all) => `(tactic| assumption)
local macro_rules | `(tactic| walk_at "eval ListComp") => `(tactic| refine stop_in ?_)
local macro_rules | `(tactic| walk_at "pyIter ref") => `(tactic| refine stop_in ?_)
local macro_rules | `(tactic| walk_at "getAttr ref") => `(tactic| ((with_reducible show wpAny _ _ (getAttr _ (Str.ofString "npredecessors") _) _ _ _); refine stop_in ?_))
local macro_rules | `(tactic| walk_at "getAttr ref") => `(tactic| ((with_reducible show wpAny _ _ (getAttr _ (Str.ofString "node") _) _ _ _); refine stop_in ?_))
local macro_rules | `(tactic| walk_at "call builtin:dict.values") => `(tactic| refine stop_in ?_)
local macro_rules | `(tactic| walk_at "getMethod ref") => `(tactic| ((with_reducible show wpAny _ _ (getMethod _ (Str.ofString "values") _) _ _ _); refine stop_in ?_))
noncomputable def isRdy (rs : List NR) (v : Value) : Bool := rs.any fun r => decide (r.np = 0) && (match v with | .ref a => a == r.ia | _ => false)
theorem rdy_at {rs : List NR} {sa dx nd : Addr} {ext : List (Addr × Obj)} (wf : WF sa dx nd ext rs) {r : NR} (hr : r ∈ rs) : isRdy rs (.ref r.ia) = decide (r.np = 0) := by
  have inj : ∀ r' ∈ rs, r'.ia = r.ia → r' = r := by
    intro r' hr' e
    obtain ⟨pre, post, rfl⟩ := List.append_of_mem hr
    have h := wf_nodup (at' := dictOf [] 0) (od := dictOf [] 0) wf
    rcases List.mem_append.mp hr' with q | q
    · exfalso
      refine (List.nodup_cons.mp h).1 (.tail _ (.tail _ (List.mem_map.mpr ⟨(r'.ia, r'.info), List.mem_append_right _ (List.mem_append_left _ (List.mem_flatMap.mpr ⟨r', q, .head _⟩)), e⟩)))
    · rcases List.mem_cons.mp q with q | q
      · exact q
      · exfalso
        refine (List.nodup_cons.mp h).1 (.tail _ (.tail _ (List.mem_map.mpr ⟨(r'.ia, r'.info), List.mem_append_right _ (List.mem_append_right _ (List.mem_append_left _ (List.mem_flatMap.mpr ⟨r', q, .head _⟩))), e⟩)))
  unfold isRdy
  cases hb : decide (r.np = 0) with
  | true =>
    rw [List.any_eq_true]
    exact ⟨r, hr, by simp [hb]⟩
  | false =>
    rw [List.any_eq_false]
    intro r' hr' q
    simp only [Bool.and_eq_true, beq_iff_eq] at q
    rw [inj r' hr' q.2.symm] at q
    rw [hb] at q; exact nomatch q.1
theorem paired_rdy {rs rs₀ : List NR} {sa dx nd : Addr} {ext : List (Addr × Obj)} (wf : WF sa dx nd ext rs₀) (hs : ∀ r ∈ rs, r ∈ rs₀) {ys : List Value} (h : Paired (fun v y => ∃ r ∈ rs₀, v = Value.ref r.ia ∧ y = Value.int r.key r.kt) ((rs.map fun r => Value.ref r.ia).filter (isRdy rs₀)) ys) : IntsAre ys (readyP (absG rs)) := by
  induction rs generalizing ys with
  | nil => cases h; exact .nil
  | cons r l ih =>
    have hr := hs r (.head _)
    rw [List.map_cons, List.filter_cons, rdy_at wf hr] at h
    by_cases e : r.np = 0
    · rw [if_pos (decide_eq_true e)] at h
      cases h with
      | cons a b =>
        refine hide fun G' back' => ?_
        obtain ⟨r', hr', e1, rfl⟩ := a
        refine back' ?_
        clear back' G'
        have : r'.key = r.key := by
          have i1 : isRdy rs₀ (.ref r.ia) = isRdy rs₀ (.ref r'.ia) := by rw [Value.ref.inj e1]
          obtain ⟨pre, post, e3⟩ := List.append_of_mem hr
          have h := wf_nodup (at' := dictOf [] 0) (od := dictOf [] 0) (e3 ▸ wf)
          rw [e3] at hr'
          rcases List.mem_append.mp hr' with q | q
          · exfalso
            refine (List.nodup_cons.mp h).1 (.tail _ (.tail _ (List.mem_map.mpr ⟨(r'.ia, r'.info), List.mem_append_right _ (List.mem_append_left _ (List.mem_flatMap.mpr ⟨r', q, .head _⟩)), (Value.ref.inj e1).symm⟩)))
          · rcases List.mem_cons.mp q with q | q
            · rw [q]
            · exfalso
              refine (List.nodup_cons.mp h).1 (.tail _ (.tail _ (List.mem_map.mpr ⟨(r'.ia, r'.info), List.mem_append_right _ (List.mem_append_right _ (List.mem_append_left _ (List.mem_flatMap.mpr ⟨r', q, .head _⟩))), (Value.ref.inj e1).symm⟩)))
        have z := ih (fun r hr => hs r (.tail _ hr)) b
        have e4 : readyP (absG (r :: l)) = r.key :: readyP (absG l) := by simp [readyP, absG, e]
        rw [e4, this]
        exact .cons _ _ z
    · rw [if_neg (by simpa using e)] at h
      have e4 : readyP (absG (r :: l)) = readyP (absG l) := by simp [readyP, absG, e]
      rw [e4]
      exact ih (fun r hr => hs r (.tail _ hr)) h
theorem dfs_ne {gr : Gr} : ∀ (f : Nat) (v : Int) (st : List (Int × Nat)) (seen : List Int) {r : List Int}, dfs gr f v st seen = some (.inl r) → r ≠ [] := by
  intro f
  induction f with
  | zero => intro v st seen r h; exact nomatch h
  | succ f ih =>
    intro v st seen r h
    unfold dfs at h
    split at h
    · split at h
      · cases h; simp
      · split at h
        · cases h
        · exact ih _ _ _ h
    · split at h
      · split at h
        · cases h
        · exact ih _ _ _ h
      · cases h
theorem findGo_ne {gr : Gr} {fuel : Nat} : ∀ (ks seen : List Int) {r : List Int}, findGo gr fuel ks seen = some (some r) → r ≠ [] := by
  intro ks
  induction ks with
  | nil => intro seen r h; exact nomatch h
  | cons k ks ih =>
    intro seen r h
    unfold findGo at h
    split at h
    · exact ih _ h
    · split at h
      · cases h
      · cases h; rename_i e; exact dfs_ne _ _ _ _ e
      · exact ih _ h
theorem findP_ne {gr : Gr} {fuel : Nat} {r : List Int} (h : findP gr fuel = some (some r)) : r ≠ [] := findGo_ne _ _ h
theorem raised_back {base g g' h : Heap} {outer : List Env} {e t : Addr} {cls : Value} {vs : List Value} {news news' : List (Addr × Obj)} (KT : KtsTurn (frs outer) g g') (R : RaisedS base g' outer e cls t vs news h) (hs : ∀ p ∈ news', p ∈ news) : RaisedS base g outer e cls t vs news' h := by
  refine hide fun G' back' => ?_
  obtain ⟨⟨B, h1, h2, h3, h4, h5⟩, h6⟩ := R
  refine back' ?_
  clear back' G'
  refine ⟨⟨B, h1, fun b o e nm => h2 b o (KT.other b o e nm) nm, fun q hq => ⟨(h3 q (hs q hq)).1, ?_, (h3 q (hs q hq)).2.2⟩, h4, h5⟩, h6⟩
  cases e : g.get? q.1 with
  | none => rfl
  | some o =>
    obtain ⟨sl, z⟩ := KT.up e
    rw [(h3 q (hs q hq)).2.1] at z; cases z
theorem slots_back {g g' h : Heap} {fs : List Addr} (KT : KtsTurn fs g g') (U : g'.UpToSlots h) : g.UpToSlots h := fun b o e hd => by
  obtain ⟨sl, z⟩ := KT.up e
  obtain ⟨sl', z'⟩ := U b { o with slots := sl } z hd
  exact ⟨sl', z'⟩
theorem prepare_call {w : World} {A : Around} {s : Shared} {mean : ExcName → Option Value} {mg mb : Str → Option Value} {Q E : Value → Shared → Prop} {base g : Heap} {outer : List Env} {sa : Addr}
    (hh : A.handled = none) (B : Below A base outer g) (XB : Frag.In (Mine.hd.heap_39 w.params) base) (TB : Top Mine.hd.view_39 (looseW Mine.hd.view_39 [Str.ofString "_NodeInfo"]) mean mg mb base) (D : KtsDicts (frs outer) g) (st : g.StaysIn s.heap) (hgs : g.objs.size ≤ s.heap.objs.size)
    {pv fv : Value} {gr : Gr} {own : List (Addr × Obj)} (N : NB g s.heap own) (S : SoL w sa .none pv fv gr own) {fuel : Nat} {res : Option (List Int)} (hfind : findP gr fuel = some res) (hgl : gr.length ≤ 100) (hrl : ∀ r, res = some r → r.length ≤ 1000)
    (hdp : A.depth + 80 < 1000) (hun : A.units + 800 < 9900)
    (ret0 : res = none → ∀ h' tk g' ra own' its n, KtsTurn (frs outer) g g' → g'.StaysIn h' → NB g' h' (own' ++ [(ra, W.listOf its n)]) → SoL w sa (.ref ra) pv fv gr own' → Off own' [(ra, W.listOf its n)] → IntsAre its.toList (readyP gr) → Q .none { s with heap := h', toks := tk })
    (ret1 : ∀ r, res = some r → ∀ e h' tk t vs ra own' its n, RaisedS base g outer e (.ref 62) t vs (own' ++ [(ra, W.listOf its n)]) h' → g.UpToSlots h' → SoL w sa (.ref ra) pv fv gr own' → Off own' [(ra, W.listOf its n)] → IntsAre its.toList (readyP gr) → E (.ref e) { s with heap := h', toks := tk }) :
    wpAny (model PySem.Challenge.rw_nb0242_01.row.prog w) A (call (.ref 99) [.ref sa]) Q E s := by
  refine hide fun G' back' => ?_
  obtain ⟨dx, nd, od, t1, t2, t3, t4, rs, rfl, hd, hsm, wf, rfl⟩ := S
  refine back' ?_
  clear back' G'
  have X : Frag.In (Mine.hd.heap_39 w.params) g := XB.keeps B.stays
  have T : Top Mine.hd.view_39 (looseW Mine.hd.view_39 [Str.ofString "_NodeInfo"]) mean mg mb g := TB.keeps B.stays
  revert X T; w_top off; k_fill; intro X T
  refine hide fun G' back' => ?_
  obtain ⟨hd', dp, fr, gd, un⟩ := A
  refine back' ?_
  clear back' G'
  have e1 : fr = some outer := B.stack
  have e2 : hd' = none := hh
  subst e1 e2
  refine wpAny_call ?_
  refine codeAny_call_def (binds := [(Str.ofString "self", .ref sa)]) (by dsimp only [recursionLimit] at *; omega) ((X.keeps st) 99 _ (by k_is)) rfl (T.nolimit.keeps st) (codeRec_of (X.keeps st) (by k_is)) rfl (BindsTo.of_eq rfl) (by decide) (locs rfl) (fun h₁ hns' keep => ?_) rfl rfl rfl
  have F : Fr g s.heap.objs.size h₁ _ := ⟨hns', fun b o e => keep b o (st b o e), hgs⟩
  have N₁ := N.news keep rfl
  clear N hns'
  k_steps
  refine Stop.out (wpAny_ListComp_free (cl := []) (isRdy rs) (fun v y => ∃ r ∈ rs, v = .ref r.ia ∧ y = .int r.key r.kt) rfl (by decide) rfl (by decide) rfl ?_)
  k_steps
  have hmd : (nd, od) ∈ own3 sa dx nd (at0 w.params nd .none pv fv t1 t2 t3 t4) od ++ recsN rs := .tail _ (.tail _ (.head _))
  have hDict : h₁.DictOf (intKind PySem.Challenge.rw_nb0242_01.row.prog w) nd (kv rs) := Heap.dictOf_iff.mpr ⟨od, N₁.get hmd, hd⟩
  refine Stop.out (getMethod_builtin (by exact Heap.DictOf.typeIs hDict) PySem.F.plainAttrs_dict PySem.F.slot_dict_values PySem.F.type_dict_values (by exact hDict.mapOf.noDict) ?_)
  k_steps
  refine Stop.out (call_meetsIn PySem.F.slot_dict_values (by exact Heap.DictOf.typeIs hDict) PySem.F.entry_dict_values (PySem.F.args_dict_values_1 _) (meets_dict_values (intKind _ _) nd hsm) ⟨⟨_, hDict⟩, ?_⟩)
  dsimp only
  have F₂ := F.push ({ cls := .type "dict_values", data := .fields #[.ref nd] } : Obj)
  have N₂ := N₁.pushKeep ({ cls := .type "dict_values", data := .fields #[.ref nd] } : Obj)
  have hview : (h₁.push { cls := .type "dict_values", data := .fields #[.ref nd] }).IsValuesView h₁.objs.size nd := ⟨_, Heap.get?_push_size _ rfl, rfl, rfl⟩
  generalize h₁.push { cls := .type "dict_values", data := .fields #[.ref nd] } = h₂ at *
  obtain ⟨es, ep, hD⟩ := id hd
  have hDA : h₂.DictAt (intKind PySem.Challenge.rw_nb0242_01.row.prog w) nd (kv rs) ep := ⟨od, es, N₂.get hmd, hD⟩
  refine wpAny_pyIter_values hview hDA ?_
  dsimp only
  have F₃ := F₂.push ({ cls := .type "dict_valueiterator", data := .fields #[.ref nd, .int 0 0, .int (kv rs).length 0, .int ep 0] } : Obj)
  have N₃ := N₂.pushKeep ({ cls := .type "dict_valueiterator", data := .fields #[.ref nd, .int 0 0, .int (kv rs).length 0, .int ep 0] } : Obj)
  have hit : (h₂.push { cls := .type "dict_valueiterator", data := .fields #[.ref nd, .int 0 0, .int (kv rs).length 0, .int ep 0] }).IsValIter h₂.objs.size nd 0 (kv rs).length ep := ⟨_, Heap.get?_push_size _ rfl, rfl, rfl⟩
  have hIg : g.get? h₂.objs.size = none := F₂.fresh
  have hIL : s.heap.objs.size ≠ h₂.objs.size := Nat.ne_of_lt F₂.ns.lt
  have hoff := N₂.apart
  have hndI : nd < h₂.objs.size := Heap.lt_size (N₂.get hmd)
  have hszI : h₂.objs.size < (h₂.push { cls := .type "dict_valueiterator", data := .fields #[.ref nd, .int 0 0, .int (kv rs).length 0, .int ep 0] }).objs.size := by rw [Heap.size_push]; exact Nat.lt_succ_self _
  generalize hI : h₂.objs.size = I at *
  have hDA₃ : (h₂.push { cls := .type "dict_valueiterator", data := .fields #[.ref nd, .int 0 0, .int (kv rs).length 0, .int ep 0] }).DictAt (intKind PySem.Challenge.rw_nb0242_01.row.prog w) nd (kv rs) ep := ⟨od, es, N₃.get hmd, hD⟩
  generalize h₂.push { cls := .type "dict_valueiterator", data := .fields #[.ref nd, .int 0 0, .int (kv rs).length 0, .int ep 0] } = h₃ at *
  clear F₂ N₂ hview hDA F N₁ hDict
  have hkl : (kv rs).length = rs.length := by simp [kv]
  have hgl' : rs.length ≤ 100 := by simpa [absG] using hgl
  refine ⟨I, _, _, _, _, _, rfl, Walks.dictValues (knd := intKind _ _) (by rfl) I nd (Nat.ne_of_lt hndI) (kv rs) ep, by rw [sizeLine_eq]; omega, ⟨hit, hDA₃⟩, ?_, ⟨?_, ?_⟩, ?_⟩
  · intro b hb
    rcases List.mem_cons.mp hb with rfl | hb
    · exact hszI
    · rw [List.mem_singleton.mp hb]; exact Nat.lt_trans hndI hszI
  · rintro C i v s₃ m₃ E' hC ⟨k, hk⟩ hn hx hkeep -
    refine hide fun G' back' => ?_
    obtain ⟨oC, hoC, F₄, N₄⟩ := quiet_fr F₃ N₃ hIL hIg hoff hC hn hkeep
    refine back' ?_
    clear back' G'
    obtain ⟨r, hr, rfl⟩ : ∃ r ∈ rs, v = .ref r.ia := by
      simp only [kv, List.getElem?_map, Option.map_eq_some_iff] at hk
      obtain ⟨r, hr, e⟩ := hk
      exact ⟨r, List.mem_of_getElem? hr, (Prod.mk.inj e).2.symm⟩
    have hmr : ∀ q ∈ r.led, q ∈ own3 sa dx nd (at0 w.params nd .none pv fv t1 t2 t3 t4) od ++ recsN rs := fun q hq => List.mem_append_right _ (List.mem_flatMap.mpr ⟨r, hr, hq⟩)
    refine wpAny_tests_one ?_
    refine hide fun G' back' => ?_
    obtain ⟨hp₃, gn₃, dr₃, tk₃, os₃⟩ := s₃
    refine back' ?_
    clear back' G'
    dsimp only at *
    k_steps
    have hI₁ : InstAt hp₃ r.ia r.info 47 (some (dictOf [] 0)) := InstAt.of_news N₄ (.tail _ (hmr _ (.head _))) (.tail _ (hmr _ (.tail _ (.head _))))
    refine Stop.out ?_
    refine' get_slot F₄ X hI₁ ?k4 ?k5 ?k6 ?k7 ?k8 ?k9 ?k10 ?k11 ?_
    case k4 => k_is
    case k5 => k_is
    case k6 => k_is
    case k7 => k_is
    case k8 => k_is
    case k9 => k_is
    case k10 => k_slotget
    case k11 => k_handed
    k_steps
    · rw [rdy_at wf hr]; rfl
    · exact ⟨_, _, rfl, fun _ _ e => e⟩
  · rintro C i v s₃ m₃ E' hC ⟨k, hk⟩ hpv hn hx hkeep -
    refine hide fun G' back' => ?_
    obtain ⟨oC, hoC, F₄, N₄⟩ := quiet_fr F₃ N₃ hIL hIg hoff hC hn hkeep
    refine back' ?_
    clear back' G'
    obtain ⟨r, hr, rfl⟩ : ∃ r ∈ rs, v = .ref r.ia := by
      simp only [kv, List.getElem?_map, Option.map_eq_some_iff] at hk
      obtain ⟨r, hr, e⟩ := hk
      exact ⟨r, List.mem_of_getElem? hr, (Prod.mk.inj e).2.symm⟩
    have hmr : ∀ q ∈ r.led, q ∈ own3 sa dx nd (at0 w.params nd .none pv fv t1 t2 t3 t4) od ++ recsN rs := fun q hq => List.mem_append_right _ (List.mem_flatMap.mpr ⟨r, hr, hq⟩)
    refine hide fun G' back' => ?_
    obtain ⟨hp₃, gn₃, dr₃, tk₃, os₃⟩ := s₃
    refine back' ?_
    clear back' G'
    dsimp only at *
    k_steps
    have hI₁ : InstAt hp₃ r.ia r.info 47 (some (dictOf [] 0)) := InstAt.of_news N₄ (.tail _ (hmr _ (.head _))) (.tail _ (hmr _ (.tail _ (.head _))))
    refine Stop.out ?_
    refine' get_slot F₄ X hI₁ ?k4 ?k5 ?k6 ?k7 ?k8 ?k9 ?k10 ?k11 ?_
    case k4 => k_is
    case k5 => k_is
    case k6 => k_is
    case k7 => k_is
    case k8 => k_is
    case k9 => k_is
    case k10 => k_slotget
    case k11 => k_handed
    exact ⟨⟨r, hr, rfl, rfl⟩, _, _, rfl, fun _ _ e => e⟩
  · intro Dl h' tk ys vs hDn _ hpl hvl hvP hpair hkeep
    refine hide fun G' back' => ?_
    obtain ⟨n, F₄, N₄, hoffD⟩ := comp_fr F₃ N₃ hIL hIg hoff hDn hpl hkeep
    refine back' ?_
    clear back' G'
    have hvs : vs = rs.map fun r => Value.ref r.ia := by
      apply List.ext_getElem?
      intro j
      by_cases hj : j < vs.length
      · obtain ⟨k, hk⟩ := hvP j vs[j] (List.getElem?_eq_getElem hj)
        rw [List.getElem?_eq_getElem hj]
        simp only [kv, List.getElem?_map, Option.map_eq_some_iff] at hk
        obtain ⟨r, hr, e⟩ := hk
        rw [List.getElem?_map, hr]
        exact congrArg some (Prod.mk.inj e).2.symm
      · rw [List.getElem?_eq_none (by omega), List.getElem?_eq_none (by simp; omega)]
    subst hvs
    have hri := paired_rdy wf (fun _ h => h) hpair
    clear hpair hvP hkeep hDn hpl hvl
    have hadr := wf.adr
    rw [List.append_nil] at hadr
    simp only [List.nodup_cons, List.mem_cons, not_or] at hadr
    refine hide fun G' back' => ?_
    obtain ⟨⟨a1, a2, a3⟩, ⟨a4, a5⟩, a6, a7⟩ := hadr
    refine back' ?_
    clear back' G'
    have N₅ : News g s.heap.objs.size h' ((Dl, W.listOf ys n) :: (sa, instObj 144 dx) :: (dx, at0 w.params nd .none pv fv t1 t2 t3 t4) :: (nd, od) :: recsN rs) := N₄
    have b1 : ∀ p ∈ (nd, od) :: recsN rs, p.1 ≠ dx := List.forall_mem_cons.mpr ⟨Ne.symm a4, nodup_ne a5⟩
    have b2 : Dl ≠ dx := Ne.symm (hoffD (dx, _) (.tail _ (.head _)))
    clear N₄
    k_steps
    rename Fr _ _ _ _ => F₆
    rename News _ _ _ _ => N₆
    have S₆ : SoL w sa (.ref Dl) pv fv (absG rs) (own3 sa dx nd (at0 w.params nd (.ref Dl) pv fv t1 t2 t3 t4) od ++ recsN rs) := ⟨dx, nd, od, t1, t2, t3, t4, rs, rfl, hd, hsm, wf, rfl⟩
    have off₆ : Off (own3 sa dx nd (at0 w.params nd (.ref Dl) pv fv t1 t2 t3 t4) od ++ recsN rs) [(Dl, W.listOf ys n)] := by
      intro p hp q
      rw [List.mem_singleton.mp hp] at q
      have q' : Dl ∈ (own3 sa dx nd (at0 w.params nd .none pv fv t1 t2 t3 t4) od ++ recsN rs).map (fun x : Addr × Obj => x.1) := q
      obtain ⟨p', hp', e⟩ := List.mem_map.mp q'
      exact hoffD p' hp' e
    have N₇ : News g s.heap.objs.size _ ((own3 sa dx nd (at0 w.params nd (.ref Dl) pv fv t1 t2 t3 t4) od ++ recsN rs) ++ [(Dl, W.listOf ys n)]) := fun p hp => N₆ p (by
      rcases List.mem_append.mp hp with hp | hp
      · exact .tail _ hp
      · rw [List.mem_singleton.mp hp]; exact .head _)
    generalize hown : own3 sa dx nd (at0 w.params nd (.ref Dl) pv fv t1 t2 t3 t4) od ++ recsN rs = own at S₆ off₆ N₇
    refine Stop.out (find_in (ext := [(Dl, W.listOf ys n)]) rfl B F₆ rfl rfl XB TB D N₇ S₆ off₆ hfind hgl (by simp only [depth_deeper] at *; omega) (by simp only [Around.deeper_units] at *; omega) ?_ ?_)
    · intro hr h₈ tk₈ g₈ KT₈ F₈ N₈ B₈
      clear F₆ N₆ N₇
      have X₈ : Frag.In (Mine.hd.heap_39 w.params) g₈ := XB.keeps B₈.stays
      have T₈ : Top Mine.hd.view_39 (looseW Mine.hd.view_39 [Str.ofString "_NodeInfo"]) mean mg mb g₈ := TB.keeps B₈.stays
      clear X T
      k_steps
      rename Fr _ _ _ _ => F₉
      rename News _ _ _ _ => N₉
      exact ret0 hr _ _ g₈ Dl _ ys n KT₈ F₉.keep (NB.of N₉) S₆ off₆ hri
    · intro r hr h₈ tk₈ g₈ c its n' KT₈ F₈ N₈ B₈ hi hoc
      clear F₆ N₆ N₇
      have X₈ : Frag.In (Mine.hd.heap_39 w.params) g₈ := XB.keeps B₈.stays
      have T₈ : Top Mine.hd.view_39 (looseW Mine.hd.view_39 [Str.ofString "_NodeInfo"]) mean mg mb g₈ := TB.keeps B₈.stays
      clear X T
      have hne : r ≠ [] := findP_ne (hr ▸ hfind)
      k_steps
      refine Stop.out (kgr_truthy (vs := its.toList) (n := n') (a := c) (by assumption) (.head _) rfl rfl (by have := hrl r hr; rw [hi.length]; omega) ?_)
      have hvn : (!its.toList.isEmpty) = true := by
        cases e : its.toList with
        | nil => rw [e] at hi; cases hi; exact absurd rfl hne
        | cons _ _ => rfl
      rw [hvn]
      k_steps
      rename RaisedS _ _ _ _ _ _ _ _ _ => R₉
      rename Heap.UpToSlots _ _ => U₉
      exact ret1 r hr _ _ _ _ _ Dl _ ys n (raised_back KT₈ R₉ fun p hp => .tail _ hp) (slots_back KT₈ U₉) S₆ off₆ hri
end Mine
end
section
open PySem PySem.W PySem.W.X PySem.Calls PyProof.Rows
set_option Elab.async false
set_option maxRecDepth 100000
set_option maxHeartbeats 1000000
namespace Mine
noncomputable def setP (g : Gr) (k d : Int) : Gr := g.map fun x => if x.1 = k then (x.1, d, x.2.2) else x
noncomputable def outP (g : Gr) (l : List Int) : Gr := l.foldl (fun g k => setP g k (-1)) g
theorem outP_take {g : Gr} {l : List Int} {i : Nat} {k : Int} (h : l[i]? = some k) : outP g (l.take (i + 1)) = setP (outP g (l.take i)) k (-1) := by
  rw [List.take_add_one, h]
  simp [outP, List.foldl_append]
theorem setP_keys (g : Gr) (k d : Int) : (setP g k d).map (·.1) = g.map (·.1) := by
  unfold setP
  rw [List.map_map]
  apply List.map_congr_left
  intro x _
  simp only [Function.comp]
  split <;> rfl
theorem outP_keys : ∀ (l : List Int) (g : Gr), (outP g l).map (·.1) = g.map (·.1) := by
  intro l
  induction l with
  | nil => intro g; rfl
  | cons k l ih => intro g; exact (ih _).trans (setP_keys g k (-1))
theorem rec_at {rs : List NR} {sa dx nd : Addr} {ext : List (Addr × Obj)} (wf : WF sa dx nd ext rs) {k : Int} (hk : k ∈ (absG rs).map (·.1)) : ∃ pre r post, rs = pre ++ r :: post ∧ r.key = k ∧ valueAt (kv rs) k = some (.ref r.ia) := by
  rw [abs_keys] at hk
  obtain ⟨r, hr, e⟩ := List.mem_map.mp hk
  cases e' : valueAt (kv rs) k with
  | none => exact absurd e (valueAt_none e' r hr)
  | some v =>
    refine hide fun G' back' => ?_
    obtain ⟨pre, r', post, h1, h2, rfl⟩ := valueAt_kv e'
    refine back' ?_
    clear back' G'
    exact ⟨pre, r', post, h1, h2, rfl⟩
theorem clearAt {prog : Program} {w : World} {A : Around} {E : Value → Shared → Prop} {s : Shared} {h₀ : Heap} {L : Addr} {m : Str → Option Value} {D : Addr} {its : Array Value} {n : Nat} {Q : Value → Shared → Prop} {pre post : List (Addr × Obj)} (F : Fr h₀ L s.heap m) (N : News h₀ L s.heap (pre ++ (D, W.listOf its n) :: post)) (h1 : ∀ p ∈ pre, p.1 ≠ D) (h2 : ∀ p ∈ post, p.1 ≠ D) (hz : its.size ≤ 1000)
    (h : ∀ h' n', Fr h₀ L h' m → News h₀ L h' (pre ++ (D, W.listOf #[] n') :: post) → Q .none { s with heap := h' }) : wpAny (model prog w) A (call (.builtin "list.clear") [.ref D]) Q E s := by
  have z := N (D, _) (List.mem_append_right _ (.head _))
  refine call_meets PySem.F.slot_list_clear ⟨_, z.1, rfl⟩ PySem.F.entry_list_clear (PySem.F.args_list_clear_1 _) (PySem.AutoSeq1.list_clear_list_0 D its n (by rw [sizeLine_eq]; omega)) ⟨z.1, ?_⟩
  have ho := PySem.IsL.update z.1 (fun _ => #[])
  obtain ⟨F', N'⟩ := news_put F N h1 h2 (Heap.SameBut.update ..) ho
  exact h _ _ F' N'
noncomputable abbrev tupV (vs : List Value) : Obj := { cls := .type "tuple", data := .seq vs.toArray }
local macro_rules | `(tactic| walk_at "eval Name") => `(tactic| (k_dflt (refine' ld ?k1 ?k2 ?_; (case k1 => k_asm); (case k2 => first | exact rfl | assumption); k_whole)))
local macro_rules | `(tactic| k_room) => `(tactic| ((try simp only [depth_under_make, depth_under_kw, depth_in1, depth_deeper, depth_caller]); dsimp only [recursionLimit] at *; omega))
local macro_rules | `(tactic| k_all) => `(tactic| assumption)
local macro_rules | `(tactic| walk_at "call type:tuple") => `(tactic| refine stop_in ?_)
local macro_rules | `(tactic| walk_at "exec For Name Name cons nil") => `(tactic| ((rename Fr _ _ _ _ => lF'); (with_unfolding_all refine' For_invVF lF' ?k1 ?k2 ?_; (case k1 => exact rfl); (case k2 => exact rfl); k_whole)))
local macro_rules | `(tactic| walk_at "pyIter ref") => `(tactic| refine stop_in ?_)
local macro_rules | `(tactic| walk_at "subscriptTail") => `(tactic| refine stop_in ?_)
local macro_rules | `(tactic| walk_at "call builtin:list.clear") => `(tactic| refine stop_in ?_)
local macro_rules | `(tactic| walk_at "call builtin:len") => `(tactic| refine stop_in ?_)
local macro_rules | `(tactic| walk_at "getMethod ref") => `(tactic| ((with_reducible show wpAny _ _ (getMethod _ (Str.ofString "clear") _) _ _ _); refine stop_in ?_))
theorem ready_call {w : World} {A : Around} {s : Shared} {mean : ExcName → Option Value} {mg mb : Str → Option Value} {Q E : Value → Shared → Prop} {base g : Heap} {outer : List Env} {sa ra : Addr}
    (hh : A.handled = none) (B : Below A base outer g) (X : Frag.In (Mine.hd.heap_39 w.params) g) (T : Top Mine.hd.view_39 (looseW Mine.hd.view_39 [Str.ofString "_NodeInfo"]) mean mg mb g) (st : g.StaysIn s.heap) (hgs : g.objs.size ≤ s.heap.objs.size)
    {p : Int} {pt : Tok} {fv : Value} {gr : Gr} {own : List (Addr × Obj)} {its : Array Value} {n : Nat} {ns : List Int} (N : NB g s.heap (own ++ [(ra, W.listOf its n)])) (S : SoL w sa (.ref ra) (.int p pt) fv gr own) (off : Off own [(ra, W.listOf its n)])
    (hi : IntsAre its.toList ns) (hns : ∀ k ∈ ns, k ∈ gr.map (·.1)) (hnl : ns.length ≤ 100)
    (hdp : A.depth + 80 < 1000) (hun : A.units + 800 < 9900)
    (ret : ∀ h' tk ta vs n' own' pt', g.StaysIn h' → NB g h' (own' ++ [(ra, W.listOf #[] n'), (ta, tupV vs)]) → SoL w sa (.ref ra) (.int (p + ns.length) pt') fv (outP gr ns) own' → Off own' [(ra, W.listOf #[] n'), (ta, tupV vs)] → ta ≠ ra → IntsAre vs ns → Q (.ref ta) { s with heap := h', toks := tk }) :
    wpAny (model PySem.Challenge.rw_nb0242_01.row.prog w) A (call (.ref 106) [.ref sa]) Q E s := by
  refine hide fun G' back' => ?_
  obtain ⟨dx, nd, od, t1, t2, t3, t4, rs, rfl, hd, hsm, wf, rfl⟩ := S
  refine back' ?_
  clear back' G'
  revert X T; w_top off; k_fill; intro X T
  refine hide fun G' back' => ?_
  obtain ⟨hd', dp, fr, gd, un⟩ := A
  refine back' ?_
  clear back' G'
  have e1 : fr = some outer := B.stack
  have e2 : hd' = none := hh
  subst e1 e2
  refine wpAny_call ?_
  refine codeAny_call_def (binds := [(Str.ofString "self", .ref sa)]) (by dsimp only [recursionLimit] at *; omega) ((X.keeps st) 106 _ (by k_is)) rfl (T.nolimit.keeps st) (codeRec_of (X.keeps st) (by k_is)) rfl (BindsTo.of_eq rfl) (by decide) (locs rfl) (fun h₁ hns' keep => ?_) rfl rfl rfl
  have F : Fr g s.heap.objs.size h₁ _ := ⟨hns', fun b o e => keep b o (st b o e), hgs⟩
  have N₁ := N.news keep rfl
  clear N hns'
  have hra : ∀ q ∈ own3 sa dx nd (at0 w.params nd (.ref ra) (.int p pt) fv t1 t2 t3 t4) od ++ recsN rs, q.1 ≠ ra := fun q hq e => off (ra, _) (.head _) (List.mem_map.mpr ⟨q, hq, e⟩)
  have wf₁ : WF sa dx nd [(ra, W.listOf its n)] rs := wf_more (at' := at0 w.params nd (.ref ra) (.int p pt) fv t1 t2 t3 t4) (od := od) wf (by rw [List.append_nil]; exact hra)
  have N₂ : News g s.heap.objs.size h₁ (own3 sa dx nd (at0 w.params nd (.ref ra) (.int p pt) fv t1 t2 t3 t4) od ++ (recsN rs ++ [(ra, W.listOf its n)])) := by rw [← List.append_assoc]; exact N₁
  clear N₁
  k_steps
  refine Stop.out (kde_tupleOf F N₂ (zs := its.toList) ⟨_, N₂.get (List.mem_append_right _ (List.mem_append_right _ (.head _))), rfl, n, rfl⟩ (by have := hi.length; simp at this; omega) rfl fun ta h₂ F₂ N₃ hta => ?_)
  clear F N₂
  k_steps
  rename Fr _ _ _ _ => F₃
  rename News _ _ _ _ => N₄
  have wf₂ : WF sa dx nd [(ta, tupV its.toList), (ra, W.listOf its n)] rs := wf_more (at' := at0 w.params nd (.ref ra) (.int p pt) fv t1 t2 t3 t4) (od := od) wf₁ fun q hq => Nat.ne_of_lt (hta q hq)
  have N₅ := led_in N₄
  clear N₄
  refine Stop.out (tup_inv (fun i m news => ∃ rs', m (Str.ofString "self") = some (.ref sa) ∧ m (Str.ofString "n2i") = some (.ref nd) ∧ m (Str.ofString "result") = some (.ref ta) ∧ news = own3 sa dx nd (at0 w.params nd (.ref ra) (.int p pt) fv t1 t2 t3 t4) od ++ (recsN rs' ++ [(ta, tupV its.toList), (ra, W.listOf its n)]) ∧ kv rs' = kv rs ∧ WF sa dx nd [(ta, tupV its.toList), (ra, W.listOf its n)] rs' ∧ absG rs' = outP (absG rs) (ns.take i))
    rfl (N₅.get (List.mem_append_right _ (List.mem_append_right _ (.head _)))) (fun e => (N₅ (ta, _) (List.mem_append_right _ (List.mem_append_right _ (.head _)))).2.1 e) F₃ N₅ (.inr (List.mem_append_right _ (List.mem_append_right _ (.head _)))) ⟨rs, rfl, rfl, rfl, rfl, rfl, wf₂, rfl⟩ ?_ ?_)
  · intro I i v m₁ news₁ h tk' oI hi' hv hp1 hoff hlo hoc F₆ N₆
    refine hide fun G' back' => ?_
    obtain ⟨rs₆, hm1, hm2, hm3, rfl, hk₆, wf₆, ha₆⟩ := hp1
    refine back' ?_
    clear back' G'
    refine hideQ fun Q₃ back₃ => ?_
    refine hide fun G' back' => ?_
    obtain ⟨k, tk, hk, rfl⟩ := ints_at hi (by simpa using hv)
    refine back' ?_
    clear back' G'
    have wf₇ := wf_more (oI := oI) wf₆ hoff
    have N₇ := led_in N₆
    refine hide fun G' back' => ?_
    obtain ⟨pre, r, post, rfl, hrk, hrv⟩ := rec_at wf₇ (k := k) (by rw [ha₆, outP_keys]; exact hns k (List.mem_of_getElem? hk))
    refine back' ?_
    clear back' G'
    clear N₆
    have N₈ := led_split N₇
    have nd₂ := wf_nodup (at' := at0 w.params nd (.ref ra) (.int p pt) fv t1 t2 t3 t4) (od := od) wf₇
    simp only [List.nodup_cons, List.mem_cons, not_or] at nd₂
    refine hide fun G' back' => ?_
    obtain ⟨⟨a1, a2, a3⟩, ⟨a4, a5⟩, a6, a7⟩ := nd₂
    refine back' ?_
    clear back' G'
    have hd₆ : od.IsDictOf (intKind PySem.Challenge.rw_nb0242_01.row.prog w) (kv (pre ++ r :: post)) := by rw [hk₆]; exact hd
    have b1 : ∀ q ∈ (r.ida, dictOf [] 0) :: (r.la, W.listOf r.sv.toArray r.sn) :: restN sa dx nd (at0 w.params nd (.ref ra) (.int p pt) fv t1 t2 t3 t4) od [(I, oI), (ta, tupV its.toList), (ra, W.listOf its n)] pre post, q.1 ≠ r.ia := List.forall_mem_cons.mpr ⟨Ne.symm a1, List.forall_mem_cons.mpr ⟨Ne.symm a2, nodup_ne a3⟩⟩
    clear N₇
    dsimp only [NR.info, NR.lst] at N₈
    k_steps
    refine Stop.out (kda_item N₈ (.tail _ (.tail _ (.tail _ (List.mem_append_left _ (.tail _ (.tail _ (.head _))))))) hd₆ (intKind_is _ _ _ _) hrv ?_)
    k_steps
    rename Fr _ _ _ _ => F₉
    rename News _ _ _ _ => N₉
    refine hide fun G' back' => ?_
    obtain ⟨r₁, ec1, ec2, ec3, ec4, ec5, ec6, ec7, Nx⟩ := led_inc N₉
    refine back' ?_
    clear back' G'
    have wfx : WF sa dx nd _ (pre ++ r₁ :: post) := wf_set wf₇ ec1 ec2 ec3 ec4 (by rw [ec5, ec6]; exact wf₇.isInts r (by simp)) (by rw [ec6]; exact wf₇.size r (by simp))
    have hax : absG (pre ++ r₁ :: post) = setP (absG (pre ++ r :: post)) k (-1) := map_at hrk wf₇.keys (fun x hx => if_neg hx) (by simp [ec1, ec6, ec7, hrk])
    obtain ⟨wfy, hoy⟩ := wf_less wfx
    refine back₃ _ _ ?_
    exact ⟨_, _, _, _, rfl, F₉, led_out Nx, hoy _ _, ⟨_, hm1, hm2, hm3, rfl, by rw [kv_set (r := r) (r' := r₁) ec1 ec2]; exact hk₆, wfy, by rw [hax, ha₆, outP_take hk]⟩, .inr (List.mem_append_right _ (List.mem_append_right _ (.head _)))⟩
  · intro m₁ news₁ h tk' hp1 F₆ N₆
    refine hide fun G' back' => ?_
    obtain ⟨rs₆, hm1, hm2, hm3, rfl, hk₆, wf₆, ha₆⟩ := hp1
    refine back' ?_
    clear back' G'
    k_steps
    have hsz : ns.take its.toList.toArray.size = ns := by
      have := hi.length
      rw [List.size_toArray, this, List.take_length]
    rw [hsz] at ha₆
    have hadr := wf₆.adr
    have hN₆ : News g s.heap.objs.size h ((own3 sa dx nd (at0 w.params nd (.ref ra) (.int p pt) fv t1 t2 t3 t4) od ++ (recsN rs₆ ++ [(ta, tupV its.toList)])) ++ (ra, W.listOf its n) :: []) := by
      intro q hq; exact N₆ q (by simpa using hq)
    have hadr' : (((own3 sa dx nd (at0 w.params nd (.ref ra) (.int p pt) fv t1 t2 t3 t4) od ++ (recsN rs₆ ++ [(ta, tupV its.toList)])) ++ (ra, W.listOf its n) :: []).map (fun x : Addr × Obj => x.1)).Nodup := by
      simpa using hadr
    obtain ⟨c1, c2⟩ := nd_split hadr'
    refine Stop.out (kl_method N₆ (D := ra) (List.mem_append_right _ (List.mem_append_right _ (.tail _ (.head _)))) PySem.F.slot_list_clear PySem.F.type_list_clear ?_)
    k_steps
    refine Stop.out (clearAt F₆ hN₆ c1 c2 (by have := hi.length; simp at this; omega) fun h₇ n₇ F₇ N₇ => ?_)
    clear F₆ N₆ hN₆
    have N₈ : News g s.heap.objs.size h₇ ((sa, instObj 144 dx) :: (dx, at0 w.params nd (.ref ra) (.int p pt) fv t1 t2 t3 t4) :: (nd, od) :: (recsN rs₆ ++ [(ta, tupV its.toList), (ra, W.listOf #[] n₇)])) := by
      intro q hq; exact N₇ q (by simpa using hq)
    clear N₇
    have hadr2 : (sa :: dx :: nd :: (recsN rs₆ ++ [(ta, tupV its.toList), (ra, W.listOf #[] n₇)]).map (fun x : Addr × Obj => x.1)).Nodup := by simpa using hadr
    simp only [List.nodup_cons, List.mem_cons, not_or] at hadr2
    refine hide fun G' back' => ?_
    obtain ⟨⟨a1, a2, a3⟩, ⟨a4, a5⟩, a6, a7⟩ := hadr2
    refine back' ?_
    clear back' G'
    have b1 : ∀ q ∈ (nd, od) :: (recsN rs₆ ++ [(ta, tupV its.toList), (ra, W.listOf #[] n₇)]), q.1 ≠ dx := List.forall_mem_cons.mpr ⟨Ne.symm a4, nodup_ne a5⟩
    k_steps
    refine Stop.out (kun_lenT ⟨_, N₈.get (a := ta) (o := tupV its.toList) (.tail _ (.tail _ (.tail _ (List.mem_append_right _ (.head _))))), rfl, 0, rfl⟩ (k := (ns.length : Nat)) (by simp [← hi.length]) (by omega) ?_)
    k_steps
    rename Fr _ _ _ _ => F₉
    rename News _ _ _ _ => N₉
    obtain ⟨pt', Nq⟩ : ∃ pt', News g s.heap.objs.size _ ((sa, instObj 144 dx) :: (dx, at0 w.params nd (.ref ra) (.int (p + ns.length) pt') fv t1 t2 t3 t4) :: (nd, od) :: (recsN rs₆ ++ [(ta, tupV its.toList), (ra, W.listOf #[] n₇)])) := ⟨_, N₉⟩
    refine ret _ _ ta its.toList n₇ (own3 sa dx nd (at0 w.params nd (.ref ra) (.int (p + ns.length) pt') fv t1 t2 t3 t4) od ++ recsN rs₆) pt' F₉.keep (NB.of fun q hq => Nq q ?_) ⟨dx, nd, od, t1, t2, t3, t4, rs₆, rfl, by rw [hk₆]; exact hd, hsm, (wf_less (wf_less wf₆).1).1, ha₆⟩ ?_ ?_ hi
    · have hq' : q ∈ [(sa, instObj 144 dx), (dx, at0 w.params nd (.ref ra) (.int (p + ns.length) pt') fv t1 t2 t3 t4), (nd, od)] ++ (recsN rs₆ ++ ([(ra, W.listOf #[] n₇)] ++ [(ta, tupV its.toList)])) := by rw [← List.append_assoc]; exact hq
      show q ∈ [(sa, instObj 144 dx), (dx, _), (nd, od)] ++ (recsN rs₆ ++ ([(ta, tupV its.toList)] ++ [(ra, W.listOf #[] n₇)]))
      simp only [List.mem_append] at hq' ⊢
      rcases hq' with h | h | h | h
      · exact .inl h
      · exact .inr (.inl h)
      · exact .inr (.inr (.inr h))
      · exact .inr (.inr (.inl h))
    · intro q hq z
      have z' : q.1 ∈ sa :: dx :: nd :: (recsN rs₆).map (fun x : Addr × Obj => x.1) := by simpa using z
      have hnd2 : ((sa :: dx :: nd :: (recsN rs₆).map (fun x : Addr × Obj => x.1)) ++ [ta, ra]).Nodup := by simpa using hadr
      rw [List.nodup_append] at hnd2
      refine hnd2.2.2 q.1 z' q.1 ?_ rfl
      simp only [List.mem_cons, List.not_mem_nil, or_false] at hq ⊢
      rcases hq with rfl | rfl
      · exact .inr rfl
      · exact .inl rfl
    · exact c1 (ta, tupV its.toList) (List.mem_append_right _ (List.mem_append_right _ (.head _)))
end Mine
end
section
open PySem PySem.W PySem.W.X PySem.Calls PyProof.Rows
set_option Elab.async false
set_option maxRecDepth 100000
set_option maxHeartbeats 1000000


namespace Mine
local macro_rules | `(tactic| walk_at "no such key") => `(tactic| fail)
noncomputable def npOf (g : Gr) (k : Int) : Int := ((g.find? fun x => decide (x.1 = k)).map (·.2.1)).getD 0
noncomputable def decP (st : Gr × List Int) (k : Int) : Gr × List Int := if npOf (incP st.1 k (-1)) k = 0 then (incP st.1 k (-1), st.2 ++ [k]) else (incP st.1 k (-1), st.2)
noncomputable def doneP (g : Gr) (k : Int) (rdy : List Int) : Gr × List Int := (sucOf g k).foldl decP (setP g k (-2), rdy)
theorem np_of {rs : List NR} (hk : (rs.map (·.key)).Nodup) {r : NR} (hr : r ∈ rs) : npOf (absG rs) r.key = r.np := by
  unfold npOf absG
  rw [List.find?_map, Option.map_map]
  have : rs.find? ((fun x => decide (x.1 = r.key)) ∘ fun r : NR => (r.key, r.np, r.ss)) = some r := by
    induction rs with
    | nil => exact nomatch hr
    | cons x l ih =>
      rw [List.map_cons, List.nodup_cons] at hk
      rcases List.mem_cons.mp hr with e | e
      · subst e; rw [List.find?_cons_of_pos (by simp)]
      · rw [List.find?_cons_of_neg, ih hk.2 e]
        simp only [Function.comp, decide_eq_true_eq]
        intro q
        exact hk.1 (q ▸ List.mem_map_of_mem e)
  rw [this]; rfl
theorem incP_keys (g : Gr) (k d : Int) : (incP g k d).map (·.1) = g.map (·.1) := by
  unfold incP
  rw [List.map_map]
  apply List.map_congr_left
  intro x _
  simp only [Function.comp]
  split <;> rfl
theorem decP_keys (st : Gr × List Int) (k : Int) : (decP st k).1.map (·.1) = st.1.map (·.1) := by
  unfold decP
  split <;> exact incP_keys _ _ _
theorem fold_keys : ∀ (l : List Int) (st : Gr × List Int), (l.foldl decP st).1.map (·.1) = st.1.map (·.1) := by
  intro l
  induction l with
  | nil => intro st; rfl
  | cons k l ih => intro st; exact (ih _).trans (decP_keys st k)
theorem decP_len (st : Gr × List Int) (k : Int) : (decP st k).2.length ≤ st.2.length + 1 := by
  unfold decP
  split
  · simp
  · exact Nat.le_succ _
theorem dfold_len : ∀ (l : List Int) (st : Gr × List Int), (l.foldl decP st).2.length ≤ st.2.length + l.length := by
  intro l
  induction l with
  | nil => intro st; exact Nat.le_refl _
  | cons k l ih =>
    intro st
    have h1 := ih (decP st k)
    have h2 := decP_len st k
    show (l.foldl decP (decP st k)).2.length ≤ _
    simp only [List.length_cons]; omega
theorem dfold_take {l : List Int} {st : Gr × List Int} {i : Nat} {k : Int} (h : l[i]? = some k) : (l.take (i + 1)).foldl decP st = decP ((l.take i).foldl decP st) k := by
  rw [List.take_add_one, h]
  simp [List.foldl_append]
theorem led_inc2 {g h : Heap} {L sa dx nd : Addr} {at' od : Obj} {ext : List (Addr × Obj)} {pre post : List NR} {r : NR} {np : Int} {nt : Tok}
    (N : News g L h ((r.ia, { cls := .ref 47, dict := some r.ida, data := .plain, slots := #[some (.int r.key r.kt), some (.int np nt), some (.ref r.la)] }) :: (r.ida, dictOf [] 0) :: (r.la, W.listOf r.sv.toArray r.sn) :: restN sa dx nd at' od ext pre post)) :
    ∃ r' : NR, r'.key = r.key ∧ r'.ia = r.ia ∧ r'.ida = r.ida ∧ r'.la = r.la ∧ r'.sv = r.sv ∧ r'.ss = r.ss ∧ r'.np = np ∧ r'.sn = r.sn ∧ News g L h (own3 sa dx nd at' od ++ (recsN (pre ++ r' :: post) ++ ext)) :=
  ⟨{ r with np := np, nt := nt }, rfl, rfl, rfl, rfl, rfl, rfl, rfl, rfl, led_join (r := { r with np := np, nt := nt }) N⟩
/-- a node whose list stays -/
def Has (rs : List NR) (la : Addr) (sv : List Value) (sn : Nat) : Prop := ∃ r ∈ rs, r.la = la ∧ r.sv = sv ∧ r.sn = sn
theorem Has.mem {rs : List NR} {la : Addr} {sv : List Value} {sn : Nat} (h : Has rs la sv sn) : (la, W.listOf sv.toArray sn) ∈ recsN rs := by
  refine hide fun G' back' => ?_
  obtain ⟨r, hr, rfl, rfl, rfl⟩ := h
  refine back' ?_
  clear back' G'
  exact List.mem_flatMap.mpr ⟨r, hr, .tail _ (.tail _ (.head _))⟩
theorem Has.set {pre post : List NR} {r r' : NR} {la : Addr} {sv : List Value} {sn : Nat} (h : Has (pre ++ r :: post) la sv sn) (h1 : r'.la = r.la) (h2 : r'.sv = r.sv) (h3 : r'.sn = r.sn) : Has (pre ++ r' :: post) la sv sn := by
  refine hide fun G' back' => ?_
  obtain ⟨q, hq, e1, e2, e3⟩ := h
  refine back' ?_
  clear back' G'
  rcases List.mem_append.mp hq with hq | hq
  · exact ⟨q, List.mem_append_left _ hq, e1, e2, e3⟩
  · rcases List.mem_cons.mp hq with rfl | hq
    · exact ⟨r', List.mem_append_right _ (.head _), h1.trans e1, h2.trans e2, h3.trans e3⟩
    · exact ⟨q, List.mem_append_right _ (.tail _ hq), e1, e2, e3⟩
theorem wf_obj {sa dx nd : Addr} {ext ext' : List (Addr × Obj)} {rs : List NR} (wf : WF sa dx nd ext rs) (h : ext'.map (fun x : Addr × Obj => x.1) = ext.map (fun x : Addr × Obj => x.1)) : WF sa dx nd ext' rs := by
  refine ⟨?_, wf.keys, wf.isInts, wf.size⟩
  have := wf.adr
  rw [List.map_append] at this ⊢
  rw [h]; exact this
local macro_rules | `(tactic| walk_at "eval Name") => `(tactic| (k_dflt (refine' ld ?k1 ?k2 ?_; (case k1 => k_asm); (case k2 => first | exact rfl | assumption); k_whole)))
local macro_rules | `(tactic| k_room) => `(tactic| ((try simp only [depth_under_make, depth_under_kw, depth_in1, depth_deeper, depth_caller]); dsimp only [recursionLimit] at *; omega))
local macro_rules | `(tactic| k_all) => `(tactic| assumption)
local macro_rules | `(tactic| walk_at "exec For Name Name cons nil") => `(tactic| ((rename Fr _ _ _ _ => lF'); (with_unfolding_all refine' For_invVF lF' ?k1 ?k2 ?_; (case k1 => exact rfl); (case k2 => exact rfl); k_whole)))
local macro_rules | `(tactic| walk_at "exec For Name Attribute cons nil") => `(tactic| ((rename Fr _ _ _ _ => lF'); (with_unfolding_all refine' For_invVF lF' ?k1 ?k2 ?_; (case k1 => exact rfl); (case k2 => exact rfl); k_whole)))
local macro_rules | `(tactic| walk_at "pyIter ref") => `(tactic| refine stop_in ?_)
local macro_rules | `(tactic| walk_at "subscriptTail") => `(tactic| refine stop_in ?_)
local macro_rules | `(tactic| walk_at "call builtin:dict.get") => `(tactic| refine stop_in ?_)
local macro_rules | `(tactic| walk_at "call builtin:list.append") => `(tactic| refine stop_in ?_)
local macro_rules | `(tactic| walk_at "getMethod ref") => `(tactic| refine stop_in ?_)
theorem done_call {w : World} {A : Around} {s : Shared} {mean : ExcName → Option Value} {mg mb : Str → Option Value} {Q E : Value → Shared → Prop} {base g : Heap} {outer : List Env} {sa ra : Addr}
    (hh : A.handled = none) (B : Below A base outer g) (X : Frag.In (Mine.hd.heap_39 w.params) g) (T : Top Mine.hd.view_39 (looseW Mine.hd.view_39 [Str.ofString "_NodeInfo"]) mean mg mb g) (st : g.StaysIn s.heap) (hgs : g.objs.size ≤ s.heap.objs.size)
    {pv : Value} {f : Int} {ft : Tok} {gr : Gr} {own : List (Addr × Obj)} {its : List Value} {n : Nat} {ns : List Int} {k : Int} {kt : Tok} (N : NB g s.heap (own ++ [(ra, W.listOf its.toArray n)])) (S : SoL w sa (.ref ra) pv (.int f ft) gr own) (off : Off own [(ra, W.listOf its.toArray n)])
    (hi : IntsAre its ns) (hnl : ns.length ≤ 100) (hk : k ∈ gr.map (·.1)) (hnp : npOf gr k = -1) (hsu : ∀ j ∈ sucOf gr k, j ∈ gr.map (·.1)) (hsl : (sucOf gr k).length ≤ 100)
    (hdp : A.depth + 80 < 1000) (hun : A.units + 800 < 9900)
    (ret : ∀ h' tk its' n' own' ft', g.StaysIn h' → NB g h' (own' ++ [(ra, W.listOf its'.toArray n')]) → SoL w sa (.ref ra) pv (.int (f + 1) ft') (doneP gr k ns).1 own' → Off own' [(ra, W.listOf its'.toArray n')] → IntsAre its' (doneP gr k ns).2 → Q .none { s with heap := h', toks := tk }) :
    wpAny (model PySem.Challenge.rw_nb0242_01.row.prog w) A (call (.ref 127) [.ref sa, .int k kt]) Q E s := by
  refine hide fun G' back' => ?_
  obtain ⟨dx, nd, od, t1, t2, t3, t4, rs, rfl, hd, hsm, wf, rfl⟩ := S
  refine back' ?_
  clear back' G'
  revert X T; w_top off; k_fill; intro X T
  refine hide fun G' back' => ?_
  obtain ⟨hd', dp, fr, gd, un⟩ := A
  refine back' ?_
  clear back' G'
  have e1 : fr = some outer := B.stack
  have e2 : hd' = none := hh
  subst e1 e2
  refine wpAny_call ?_
  refine call_star (pv := [.int k kt]) (binds := fun tv => [(Str.ofString "self", .ref sa), (Str.ofString "nodes", tv)]) (by dsimp only [recursionLimit] at *; omega) ((X.keeps st) 127 _ (by k_is)) rfl (T.nolimit.keeps st) (codeRec_of (X.keeps st) (by k_is)) rfl rfl (by simp) (by decide) (fun _ => locs rfl) (fun h₁ hns keep htup => ?_) rfl rfl rfl
  have F : Fr g (s.heap.objs.size + 1) h₁ _ := ⟨hns, fun b o e => keep b o (st b o e), Nat.le_succ_of_le hgs⟩
  have hgD : g.get? s.heap.objs.size = none := by
    cases e : g.get? s.heap.objs.size with
    | none => rfl
    | some o => exact absurd (Heap.lt_size e) (Nat.not_lt.mpr hgs)
  have hltN : ∀ p ∈ (own3 sa dx nd (at0 w.params nd (.ref ra) pv (.int f ft) t1 t2 t3 t4) od ++ recsN rs) ++ [(ra, W.listOf its.toArray n)], p.1 < s.heap.objs.size := fun p hp => Heap.lt_size (N p hp).1
  have hra : ∀ q ∈ own3 sa dx nd (at0 w.params nd (.ref ra) pv (.int f ft) t1 t2 t3 t4) od ++ recsN rs, q.1 ≠ ra := fun q hq e => off (ra, _) (.head _) (List.mem_map.mpr ⟨q, hq, e⟩)
  have wf₁ : WF sa dx nd [(ra, W.listOf its.toArray n)] rs := wf_more (at' := at0 w.params nd (.ref ra) pv (.int f ft) t1 t2 t3 t4) (od := od) wf (by rw [List.append_nil]; exact hra)
  have wf₂ : WF sa dx nd [(s.heap.objs.size, tupV [.int k kt]), (ra, W.listOf its.toArray n)] rs := wf_more (at' := at0 w.params nd (.ref ra) pv (.int f ft) t1 t2 t3 t4) (od := od) wf₁ fun q hq => Nat.ne_of_lt (hltN q (by rw [List.append_assoc]; exact hq))
  have N₁ : News g (s.heap.objs.size + 1) h₁ (own3 sa dx nd (at0 w.params nd (.ref ra) pv (.int f ft) t1 t2 t3 t4) od ++ (recsN rs ++ [(s.heap.objs.size, tupV [.int k kt]), (ra, W.listOf its.toArray n)])) := by
    intro p hp
    have hp' : p ∈ ((own3 sa dx nd (at0 w.params nd (.ref ra) pv (.int f ft) t1 t2 t3 t4) od ++ recsN rs) ++ [(ra, W.listOf its.toArray n)]) ∨ p = (s.heap.objs.size, tupV [.int k kt]) := by
      simp only [List.mem_append, List.mem_cons, List.not_mem_nil, or_false] at hp ⊢
      rcases hp with h | h | h | h
      · exact .inl (.inl (.inl h))
      · exact .inl (.inl (.inr h))
      · exact .inr h
      · exact .inl (.inr h)
    rcases hp' with hp | rfl
    · exact ⟨keep _ _ (N p hp).1, Nat.ne_of_lt (Nat.lt_succ_of_lt (hltN p hp)), (N p hp).2⟩
    · exact ⟨htup, Nat.ne_of_lt (Nat.lt_succ_self _), hgD⟩
  clear N hltN
  generalize hDx : s.heap.objs.size = D at *
  k_steps
  rename Fr _ _ _ _ => F₃
  rename News _ _ _ _ => N₄
  refine Stop.out (tup_inv (fun i m news => ∃ rs' its' n' f' ft' ns', m (Str.ofString "self") = some (.ref sa) ∧ m (Str.ofString "n2i") = some (.ref nd) ∧ news = own3 sa dx nd (at0 w.params nd (.ref ra) pv (.int f' ft') t1 t2 t3 t4) od ++ (recsN rs' ++ [(D, tupV [.int k kt]), (ra, W.listOf its'.toArray n')]) ∧ kv rs' = kv rs ∧ WF sa dx nd [(D, tupV [.int k kt]), (ra, W.listOf its'.toArray n')] rs' ∧ IntsAre its' ns' ∧ (absG rs', ns', f') = if i = 0 then (absG rs, ns, f) else ((doneP (absG rs) k ns).1, (doneP (absG rs) k ns).2, f + 1))
    rfl (N₄.get (List.mem_append_right _ (List.mem_append_right _ (.head _)))) (Nat.ne_of_lt (Nat.lt_succ_self _)) F₃ N₄ (.inr (List.mem_append_right _ (List.mem_append_right _ (.head _)))) ⟨rs, its, n, f, ft, ns, rfl, rfl, rfl, rfl, wf₂, hi, by rw [if_pos rfl]⟩ ?_ ?_)
  · intro I i v m₁ news₁ h tk' oI hi' hv hp1 hoff hlo hoc F₆ N₆
    refine hide fun G' back' => ?_
    obtain ⟨rs₆, its₆, n₆, f₆, ft₆, ns₆, hm1, hm2, rfl, hk₆, wf₆, hi₆, hst₆⟩ := hp1
    refine back' ?_
    clear back' G'
    refine hideQ fun Q₃ back₃ => ?_
    have hi0 : i = 0 := by simp at hi'; omega
    subst hi0
    rw [if_pos rfl] at hst₆
    obtain ⟨ha₆, e⟩ := Prod.mk.inj hst₆
    obtain ⟨rfl, rfl⟩ := Prod.mk.inj e
    have hv' : v = .int k kt := by simpa using hv.symm
    subst hv'
    have wf₇ := wf_more (oI := oI) wf₆ hoff
    have N₇ := led_in N₆
    refine hide fun G' back' => ?_
    obtain ⟨pre, r, post, rfl, hrk, hrv⟩ := rec_at wf₇ (k := k) (by rw [ha₆]; exact hk)
    refine back' ?_
    clear back' G'
    clear N₆ F₃ N₄
    have N₈ := led_split N₇
    have nd₂ := wf_nodup (at' := at0 w.params nd (.ref ra) pv (.int f₆ ft₆) t1 t2 t3 t4) (od := od) wf₇
    simp only [List.nodup_cons, List.mem_cons, not_or] at nd₂
    refine hide fun G' back' => ?_
    obtain ⟨⟨a1, a2, a3⟩, ⟨a4, a5⟩, a6, a7⟩ := nd₂
    refine back' ?_
    clear back' G'
    have hd₆ : od.IsDictOf (intKind PySem.Challenge.rw_nb0242_01.row.prog w) (kv (pre ++ r :: post)) := by rw [hk₆]; exact hd
    have b1 : ∀ q ∈ (r.ida, dictOf [] 0) :: (r.la, W.listOf r.sv.toArray r.sn) :: restN sa dx nd (at0 w.params nd (.ref ra) pv (.int f₆ ft₆) t1 t2 t3 t4) od [(I, oI), (D, tupV [.int k kt]), (ra, W.listOf its₆.toArray n₆)] pre post, q.1 ≠ r.ia := List.forall_mem_cons.mpr ⟨Ne.symm a1, List.forall_mem_cons.mpr ⟨Ne.symm a2, nodup_ne a3⟩⟩
    have hrnp : r.np = -1 := by rw [← np_of wf₇.keys (r := r) (by simp), hrk, ha₆]; exact hnp
    have hrss : sucOf (absG rs) k = r.ss := by rw [← ha₆, ← hrk]; exact suc_of wf₇.keys (by simp)
    clear N₇
    dsimp only [NR.info, NR.lst] at N₈
    rw [hrnp] at N₈
    k_steps
    refine Stop.out (kdg_method N₈ (.tail _ (.tail _ (.tail _ (List.mem_append_left _ (.tail _ (.tail _ (.head _))))))) hd₆ ?_)
    k_steps
    refine Stop.out (kdg_get1 N₈ (.tail _ (.tail _ (.tail _ (List.mem_append_left _ (.tail _ (.tail _ (.head _))))))) hd₆ hsm (intKind_is _ _ _ _) _ hrv ?_)
    dsimp only [Option.getD_some]
    k_steps
    rename Fr _ _ _ _ => F₉
    rename News _ _ _ _ => N₉
    refine hide fun G' back' => ?_
    obtain ⟨r₁, ec1, ec2, ec3, ec4, ec5, ec6, ec7, ec8, Nx⟩ := led_inc2 N₉
    refine back' ?_
    clear back' G'
    have wfx : WF sa dx nd _ (pre ++ r₁ :: post) := wf_set wf₇ ec1 ec2 ec3 ec4 (by rw [ec5, ec6]; exact wf₇.isInts r (by simp)) (by rw [ec6]; exact wf₇.size r (by simp))
    have hax : absG (pre ++ r₁ :: post) = setP (absG rs) k (-2) := by
      rw [← ha₆]
      exact map_at hrk wf₇.keys (fun x hx => if_neg hx) (by simp [ec1, ec6, ec7, hrk])
    have hkx : kv (pre ++ r₁ :: post) = kv rs := by rw [kv_set (r := r) (r' := r₁) ec1 ec2]; exact hk₆
    have hasx : Has (pre ++ r₁ :: post) r.la r.sv r.sn := ⟨r₁, by simp, ec4, ec5, ec8⟩
    have hir := wf₇.isInts r (by simp)
    clear N₉ N₈ b1 a1 a2 a3 a4 a5 a6 a7
    generalize hrsx : pre ++ r₁ :: post = rsx at *
    refine Stop.out (list_inv (l := r.la) (items := r.sv.toArray) (ep := r.sn) (fun j m news => ∃ rs' its' n' ns', m (Str.ofString "self") = some (.ref sa) ∧ m (Str.ofString "n2i") = some (.ref nd) ∧ news = own3 sa dx nd (at0 w.params nd (.ref ra) pv (.int f₆ ft₆) t1 t2 t3 t4) od ++ (recsN rs' ++ [(I, oI), (D, tupV [.int k kt]), (ra, W.listOf its'.toArray n')]) ∧ kv rs' = kv rs ∧ WF sa dx nd [(I, oI), (D, tupV [.int k kt]), (ra, W.listOf its'.toArray n')] rs' ∧ IntsAre its' ns' ∧ Has rs' r.la r.sv r.sn ∧ (absG rs', ns') = (r.ss.take j).foldl decP (setP (absG rs) k (-2), ns₆))
      rfl (Nx.get (List.mem_append_right _ (List.mem_append_left _ hasx.mem))) (fun e => (Nx (r.la, _) (List.mem_append_right _ (List.mem_append_left _ hasx.mem))).2.1 e) F₉ Nx (.inr (List.mem_append_right _ (List.mem_append_left _ hasx.mem))) ⟨rsx, its₆, n₆, ns₆, hm1, hm2, rfl, hkx, wfx, hi₆, hasx, by rw [List.take_zero, List.foldl_nil, hax]⟩ ?_ ?_)
    · clear F₉ Nx wfx hax hkx hasx
      intro I2 j v m₂ news₂ h2 tk2 oI2 hj hv2 hp1 hoff₈ hlo₈ hoc₈ F₈ N₈
      refine hide fun G' back' => ?_
      obtain ⟨rs₈, its₈, n₈, ns₈, hm1', hm2', rfl, hk₈, wf₈, hi₈, has₈, hst₈⟩ := hp1
      refine back' ?_
      clear back' G'
      refine hideQ fun Q₄ back₄ => ?_
      refine hide fun G' back' => ?_
      obtain ⟨sc, tsc, hsc, rfl⟩ := ints_at hir (by simpa using hv2)
      refine back' ?_
      clear back' G'
      have wf₉ := wf_more (oI := oI2) wf₈ hoff₈
      have N₉ := led_in N₈
      clear N₈
      have hst8a : absG rs₈ = ((r.ss.take j).foldl decP (setP (absG rs) k (-2), ns₆)).1 := by rw [← hst₈]
      have hst8b : ns₈ = ((r.ss.take j).foldl decP (setP (absG rs) k (-2), ns₆)).2 := by rw [← hst₈]
      refine hide fun G' back' => ?_
      obtain ⟨pr, q, po, rfl, hqk, hqv⟩ := rec_at wf₉ (k := sc) (by rw [hst8a, fold_keys, setP_keys]; exact hsu sc (by rw [hrss]; exact List.mem_of_getElem? hsc))
      refine back' ?_
      clear back' G'
      have Na := led_split N₉
      have nd₂ := wf_nodup (at' := at0 w.params nd (.ref ra) pv (.int f₆ ft₆) t1 t2 t3 t4) (od := od) wf₉
      simp only [List.nodup_cons, List.mem_cons, not_or] at nd₂
      refine hide fun G' back' => ?_
      obtain ⟨⟨a1, a2, a3⟩, ⟨a4, a5⟩, a6, a7⟩ := nd₂
      refine back' ?_
      clear back' G'
      have hd₈ : od.IsDictOf (intKind PySem.Challenge.rw_nb0242_01.row.prog w) (kv (pr ++ q :: po)) := by rw [hk₈]; exact hd
      have b1 : ∀ z ∈ (q.ida, dictOf [] 0) :: (q.la, W.listOf q.sv.toArray q.sn) :: restN sa dx nd (at0 w.params nd (.ref ra) pv (.int f₆ ft₆) t1 t2 t3 t4) od [(I2, oI2), (I, oI), (D, tupV [.int k kt]), (ra, W.listOf its₈.toArray n₈)] pr po, z.1 ≠ q.ia := List.forall_mem_cons.mpr ⟨Ne.symm a1, List.forall_mem_cons.mpr ⟨Ne.symm a2, nodup_ne a3⟩⟩
      clear N₉
      dsimp only [NR.info, NR.lst] at Na
      k_steps
      refine Stop.out (kda_item Na (.tail _ (.tail _ (.tail _ (List.mem_append_left _ (.tail _ (.tail _ (.head _))))))) hd₈ (intKind_is _ _ _ _) hqv ?_)
      k_steps
      · rename q.np - 1 = 0 => hz
        rename Fr _ _ _ _ => Fb
        rename News _ _ _ _ => Nb
        refine hide fun G' back' => ?_
        obtain ⟨q₁, g1, g2, g3, g4, g5, g6, g7, g8, Nc⟩ := led_inc2 Nb
        refine back' ?_
        clear back' G'
        have wfc : WF sa dx nd _ (pr ++ q₁ :: po) := wf_set wf₉ g1 g2 g3 g4 (by rw [g5, g6]; exact wf₉.isInts q (by simp)) (by rw [g6]; exact wf₉.size q (by simp))
        have hac : absG (pr ++ q₁ :: po) = incP (absG (pr ++ q :: po)) sc (-1) := map_at hqk wf₉.keys (fun x hx => if_neg hx) (by simp [g1, g6, g7, hqk, Int.sub_eq_add_neg])
        have hkc : kv (pr ++ q₁ :: po) = kv rs := by rw [kv_set (r := q) (r' := q₁) g1 g2]; exact hk₈
        have hasc := has₈.set (r' := q₁) g4 g5 g8
        have hnpc : npOf (incP (absG (pr ++ q :: po)) sc (-1)) sc = q.np - 1 := by
          rw [← hac, ← hqk, ← g1, np_of wfc.keys (by simp), g7]
        clear Nb
        have hadr : (((own3 sa dx nd (at0 w.params nd (.ref ra) pv (.int f₆ ft₆) t1 t2 t3 t4) od ++ (recsN (pr ++ q₁ :: po) ++ [(I2, oI2), (I, oI), (D, tupV [.int k kt])])) ++ (ra, W.listOf its₈.toArray n₈) :: []).map (fun x : Addr × Obj => x.1)).Nodup := by
          have := wfc.adr
          simpa using this
        obtain ⟨c1, c2⟩ := nd_split hadr
        have Nd : News g (D + 1) _ ((own3 sa dx nd (at0 w.params nd (.ref ra) pv (.int f₆ ft₆) t1 t2 t3 t4) od ++ (recsN (pr ++ q₁ :: po) ++ [(I2, oI2), (I, oI), (D, tupV [.int k kt])])) ++ (ra, W.listOf its₈.toArray n₈) :: []) := fun z hz' => Nc z (by simpa using hz')
        refine Stop.out (kl_method Nd (D := ra) (List.mem_append_right _ (.head _)) PySem.F.slot_list_append PySem.F.type_list_append ?_)
        k_steps
        have hnl₈ : ns₈.length ≤ 300 := by
          have h1 := dfold_len (r.ss.take j) (setP (absG rs) k (-2), ns₆)
          have h2 : (r.ss.take j).length ≤ 100 := by rw [List.length_take]; rw [hrss] at hsl; omega
          rw [hst8b]
          exact Nat.le_trans h1 (by dsimp only; omega)
        refine Stop.out (appendAt Fb Nd c1 c2 (by rw [hi₈.length]; omega) fun h₉ Fe Ne => ?_)
        clear Fb Nc Nd
        k_steps
        rename Fr _ _ _ _ => Fe
        have wfd : WF sa dx nd [(I2, oI2), (I, oI), (D, tupV [.int k kt]), (ra, W.listOf (its₈ ++ [Value.int sc tsc]).toArray (n₈ + 1))] (pr ++ q₁ :: po) := wf_obj wfc rfl
        obtain ⟨wfe, hoe⟩ := wf_less wfd
        refine back₄ _ _ ?_
        refine ⟨_, _, _, own3 sa dx nd (at0 w.params nd (.ref ra) pv (.int f₆ ft₆) t1 t2 t3 t4) od ++ (recsN (pr ++ q₁ :: po) ++ [(I, oI), (D, tupV [.int k kt]), (ra, W.listOf (its₈ ++ [Value.int sc tsc]).toArray (n₈ + 1))]), rfl, Fe, fun z hz' => Ne z ?_, hoe _ _, ⟨pr ++ q₁ :: po, its₈ ++ [Value.int sc tsc], n₈ + 1, ns₈ ++ [sc], hm1', hm2', rfl, hkc, wfe, ints_snoc hi₈ sc tsc, hasc, ?_⟩, .inr (List.mem_append_right _ (List.mem_append_left _ hasc.mem))⟩
        · simp only [List.mem_append, List.mem_cons, List.not_mem_nil, or_false] at hz' ⊢
          rcases hz' with z1 | z1 | z1 | z1 | z1 | z1
          · exact .inl (.inr (.inr (.inl z1)))
          · exact .inl (.inl z1)
          · exact .inl (.inr (.inl z1))
          · exact .inl (.inr (.inr (.inr (.inl z1))))
          · exact .inl (.inr (.inr (.inr (.inr z1))))
          · exact .inr z1
        · rw [dfold_take hsc, ← hst₈]
          unfold decP
          dsimp only
          rw [if_pos (by rw [hnpc]; exact hz), hac]
      · rename q.np - 1 ≠ 0 => hz
        rename Fr _ _ _ _ => Fb
        rename News _ _ _ _ => Nb
        refine hide fun G' back' => ?_
        obtain ⟨q₁, g1, g2, g3, g4, g5, g6, g7, g8, Nc⟩ := led_inc2 Nb
        refine back' ?_
        clear back' G'
        have wfc : WF sa dx nd _ (pr ++ q₁ :: po) := wf_set wf₉ g1 g2 g3 g4 (by rw [g5, g6]; exact wf₉.isInts q (by simp)) (by rw [g6]; exact wf₉.size q (by simp))
        have hac : absG (pr ++ q₁ :: po) = incP (absG (pr ++ q :: po)) sc (-1) := map_at hqk wf₉.keys (fun x hx => if_neg hx) (by simp [g1, g6, g7, hqk, Int.sub_eq_add_neg])
        have hkc : kv (pr ++ q₁ :: po) = kv rs := by rw [kv_set (r := q) (r' := q₁) g1 g2]; exact hk₈
        have hasc := has₈.set (r' := q₁) g4 g5 g8
        have hnpc : npOf (incP (absG (pr ++ q :: po)) sc (-1)) sc = q.np - 1 := by
          rw [← hac, ← hqk, ← g1, np_of wfc.keys (by simp), g7]
        clear Nb
        obtain ⟨wfe, hoe⟩ := wf_less wfc
        refine back₄ _ _ ?_
        refine ⟨_, _, _, own3 sa dx nd (at0 w.params nd (.ref ra) pv (.int f₆ ft₆) t1 t2 t3 t4) od ++ (recsN (pr ++ q₁ :: po) ++ [(I, oI), (D, tupV [.int k kt]), (ra, W.listOf its₈.toArray n₈)]), rfl, Fb, led_out Nc, hoe _ _, ⟨pr ++ q₁ :: po, its₈, n₈, ns₈, hm1', hm2', rfl, hkc, wfe, hi₈, hasc, ?_⟩, .inr (List.mem_append_right _ (List.mem_append_left _ hasc.mem))⟩
        rw [dfold_take hsc, ← hst₈]
        unfold decP
        dsimp only
        rw [if_neg (by rw [hnpc]; exact hz), hac]
    · clear F₉ Nx wfx hax hkx hasx
      intro m₂ news₂ h2 tk2 hp1 F₈ N₈
      refine hide fun G' back' => ?_
      obtain ⟨rs₈, its₈, n₈, ns₈, hm1', hm2', rfl, hk₈, wf₈, hi₈, has₈, hst₈⟩ := hp1
      refine back' ?_
      clear back' G'
      have hadr2 := wf₈.adr
      simp only [List.nodup_cons, List.mem_cons, not_or] at hadr2
      refine hide fun G' back' => ?_
      obtain ⟨⟨a1, a2, a3⟩, ⟨a4, a5⟩, a6, a7⟩ := hadr2
      refine back' ?_
      clear back' G'
      have b1 : ∀ z ∈ (nd, od) :: (recsN rs₈ ++ [(I, oI), (D, tupV [.int k kt]), (ra, W.listOf its₈.toArray n₈)]), z.1 ≠ dx := List.forall_mem_cons.mpr ⟨Ne.symm a4, nodup_ne a5⟩
      have N₉ : News g (D + 1) h2 ((sa, instObj 144 dx) :: (dx, at0 w.params nd (.ref ra) pv (.int f₆ ft₆) t1 t2 t3 t4) :: (nd, od) :: (recsN rs₈ ++ [(I, oI), (D, tupV [.int k kt]), (ra, W.listOf its₈.toArray n₈)])) := N₈
      clear N₈
      k_steps
      rename Fr _ _ _ _ => Fz
      rename News _ _ _ _ => Nz
      obtain ⟨ft', Nq⟩ : ∃ ft', News g (D + 1) _ (own3 sa dx nd (at0 w.params nd (.ref ra) pv (.int (f₆ + 1) ft') t1 t2 t3 t4) od ++ (recsN rs₈ ++ [(I, oI), (D, tupV [.int k kt]), (ra, W.listOf its₈.toArray n₈)])) := ⟨_, Nz⟩
      obtain ⟨wfe, hoe⟩ := wf_less wf₈
      refine back₃ _ _ ?_
      refine ⟨_, _, _, _, rfl, Fz, led_out Nq, hoe _ _, ⟨rs₈, its₈, n₈, f₆ + 1, ft', ns₈, hm1', hm2', rfl, hk₈, wfe, hi₈, ?_⟩, .inr (List.mem_append_right _ (List.mem_append_right _ (.head _)))⟩
      rw [if_neg (by simp)]
      unfold doneP
      rw [hrss]
      have e : r.ss.take r.sv.toArray.size = r.ss := by rw [List.size_toArray, hir.length, List.take_length]
      rw [e] at hst₈
      rw [← hst₈]
  · intro m₁ news₁ h tk' hp1 F₆ N₆
    refine hide fun G' back' => ?_
    obtain ⟨rs₆, its₆, n₆, f₆, ft₆, ns₆, hm1, hm2, rfl, hk₆, wf₆, hi₆, hst₆⟩ := hp1
    refine back' ?_
    clear back' G'
    k_steps
    rw [if_neg (by simp)] at hst₆
    obtain ⟨ha₆, e⟩ := Prod.mk.inj hst₆
    obtain ⟨rfl, rfl⟩ := Prod.mk.inj e
    obtain ⟨wf₇, ho₇⟩ := wf_less wf₆
    obtain ⟨wf₈, ho₈⟩ := wf_less wf₇
    refine ret _ _ its₆ n₆ _ ft₆ F₆.keep (NB.of fun q hq => N₆ q ?_) ⟨dx, nd, od, t1, t2, t3, t4, rs₆, rfl, by rw [hk₆]; exact hd, hsm, wf₈, ha₆⟩ ?_ hi₆
    · simp only [List.mem_append, List.mem_cons, List.not_mem_nil, or_false] at hq ⊢
      rcases hq with (h | h) | h
      · exact .inl h
      · exact .inr (.inl h)
      · exact .inr (.inr (.inr h))
    · intro q hq z
      rw [List.mem_singleton.mp hq] at z
      obtain ⟨q', hq', e⟩ := List.mem_map.mp z
      exact ho₈ _ _ q' (by rw [List.append_nil]; exact hq') e
end Mine
end
section
open PySem PySem.W PySem.W.X PySem.Calls PyProof.Rows
set_option Elab.async false
set_option maxRecDepth 100000
set_option maxHeartbeats 1000000
namespace Mine
section
variable {w : World} {mean : ExcName → Option Value} {mg mb : Str → Option Value} {A₀ A : Around} {s : Shared} {Q E : Value → Shared → Prop} {base g : Heap} {outer : List Env} {L a : Addr} {m : Str → Option Value} {cn : Str} {cs : Scope} {ccd : Value}
    {sa ra : Addr} {rv pv fv : Value} {gr : Gr} {own ext : List (Addr × Obj)}
theorem off_app {a b ext : List (Addr × Obj)} (h1 : Off a ext) (h2 : Off b ext) : Off (a ++ b) ext := fun p hp q => by
  rw [List.map_append] at q
  rcases List.mem_append.mp q with q | q
  · exact h1 p hp q
  · exact h2 p hp q
theorem off_cons {a ext : List (Addr × Obj)} {p : Addr × Obj} (h1 : Off a [p]) (h2 : Off a ext) : Off a (p :: ext) := fun q hq => by
  rcases List.mem_cons.mp hq with rfl | hq
  · exact h1 _ (.head _)
  · exact h2 q hq
theorem prepare_in (hh : A.handled = none) (B : Below A₀ base outer g) (F : Fr g L s.heap m) (hA : A.frames = some (envOf cn cs L a ccd :: outer)) (hck : cs.kind = .function)
    (XB : Frag.In (Mine.hd.heap_39 w.params) base) (TB : Top Mine.hd.view_39 (looseW Mine.hd.view_39 [Str.ofString "_NodeInfo"]) mean mg mb base) (D : KtsDicts (frs outer) g)
    (N : News g L s.heap (own ++ ext)) (S : SoL w sa .none pv fv gr own) (off : Off own ext) {fuel : Nat} {res : Option (List Int)} (hfind : findP gr fuel = some res) (hgl : gr.length ≤ 100) (hrl : ∀ r, res = some r → r.length ≤ 1000)
    (hdp : A.depth + 80 < 1000) (hun : A.units + 800 < 9900)
    (ret0 : res = none → ∀ h' tk g' ra own' its n, KtsTurn (frs outer) g g' → Fr g' L h' m → News g' L h' ((own' ++ [(ra, W.listOf its n)]) ++ ext) → Below A₀ base outer g' → SoL w sa (.ref ra) pv fv gr own' → Off own' [(ra, W.listOf its n)] → Off (own' ++ [(ra, W.listOf its n)]) ext → IntsAre its.toList (readyP gr) → Q .none { s with heap := h', toks := tk })
    (ret1 : ∀ r, res = some r → ∀ e h' tk t vs ra own' its n G₂, RaisedS base G₂ (envOf cn cs L a ccd :: outer) e (.ref 62) t vs ((own' ++ [(ra, W.listOf its n)]) ++ ext) h' → G₂.UpToSlots h' → Fr g L G₂ m → SoL w sa (.ref ra) pv fv gr own' → Off own' [(ra, W.listOf its n)] → Off (own' ++ [(ra, W.listOf its n)]) ext → IntsAre its.toList (readyP gr) → E (.ref e) { s with heap := h', toks := tk }) :
    wpAny (model PySem.Challenge.rw_nb0242_01.row.prog w) A (call (.ref 99) [.ref sa]) Q E s := by
  have No : News g L s.heap own := fun p hp => N p (List.mem_append_left _ hp)
  have Ne : News g L s.heap ext := fun p hp => N p (List.mem_append_right _ hp)
  obtain ⟨oL, es, ep, hLg, hLd, hN, hNs, st, B₂⟩ := kts_enter B F No hA hck
  have FG : Fr g L (hideAll s.heap (own.map (·.1))) m := ⟨hN _ hLg, st, F.above⟩
  have NG : News g L (hideAll s.heap (own.map (·.1))) ext := fun p hp => ⟨hideAll_get _ (Ne p hp).1 (off p hp), (Ne p hp).2⟩
  have DG : KtsDicts (frs (envOf cn cs L a ccd :: outer)) (hideAll s.heap (own.map (·.1))) := fun b hb => by
    rcases kts_mem hb with rfl | z
    · exact ⟨oL, es, ep, hLg, hLd⟩
    · obtain ⟨o, es', n, ho, hd⟩ := D b z
      exact ⟨o, es', n, st _ _ ho, hd⟩
  refine prepare_call hh B₂ XB TB DG (fun b o e => of_hideAll _ e) (Nat.le_of_eq (hideAll_size _ _)) (fun p hp => ⟨(No p hp).1, hideAll_none _ (List.mem_map_of_mem hp)⟩) S hfind hgl hrl hdp hun ?_ ?_
  · intro hr h' tk g' ra own' its n KT st' nb S' off' hi
    obtain ⟨h₀', T₁, F₁, N₁, B₁⟩ := reground B FG NG KT st'
    have hgn : ∀ q ∈ own' ++ [(ra, W.listOf its n)], (hideAll s.heap (own.map (·.1))).get? q.1 = none := fun q hq => by
      cases e : (hideAll s.heap (own.map (·.1))).get? q.1 with
      | none => rfl
      | some o =>
        obtain ⟨sl, z⟩ := KT.up e
        rw [(nb q hq).2] at z; cases z
    refine ret0 hr h' tk h₀' ra own' its n T₁ F₁ (fun p hp => ?_) B₁ S' off' (fun p hp q => ?_) hi
    · rcases List.mem_append.mp hp with hp | hp
      · refine ⟨(nb p hp).1, fun z => ?_, ?_⟩
        · have := hgn p hp
          rw [z, hLg] at this; cases this
        · cases e : h₀'.get? p.1 with
          | none => rfl
          | some o =>
            cases e₂ : g.get? p.1 with
            | none => rw [T₁.none_ _ e₂] at e; cases e
            | some o₂ => have := hgn p hp; rw [st _ _ e₂] at this; cases this
      · exact N₁ p hp
    · obtain ⟨p', hp', e⟩ := List.mem_map.mp q
      have := hgn p' hp'
      rw [e, (NG p hp).1] at this; cases this
  · intro r hr e h' tk t vs ra own' its n R U S' off' hi
    have hgn : ∀ q ∈ own' ++ [(ra, W.listOf its n)], (hideAll s.heap (own.map (·.1))).get? q.1 = none := fun q hq => by
      obtain ⟨⟨B, _, _, h3, _⟩, _⟩ := R
      exact (h3 q hq).2.1
    have offE : Off (own' ++ [(ra, W.listOf its n)]) ext := fun p hp q => by
      obtain ⟨p', hp', e⟩ := List.mem_map.mp q
      have := hgn p' hp'
      rw [e, (NG p hp).1] at this; cases this
    have hLe : L ∉ ext.map (fun x : Addr × Obj => x.1) := fun q => by
      obtain ⟨p, hp, e⟩ := List.mem_map.mp q
      exact (Ne p hp).2.1 e
    refine ret1 r hr e h' tk t vs ra own' its n (hideAll (hideAll s.heap (own.map (·.1))) (ext.map (fun x : Addr × Obj => x.1))) ?_ ?_ ?_ S' off' offE hi
    · obtain ⟨⟨B', h1, h2, h3, h4, h5⟩, h6⟩ := R
      refine ⟨⟨B', h1, fun b o e nm => h2 b o (of_hideAll _ e) nm, fun q hq => ?_, h4, h5⟩, h6⟩
      rcases List.mem_append.mp hq with hq | hq
      · refine ⟨(h3 q hq).1, ?_, (h3 q hq).2.2⟩
        cases e : (hideAll (hideAll s.heap (own.map (·.1))) (ext.map (fun x : Addr × Obj => x.1))).get? q.1 with
        | none => rfl
        | some o => have := of_hideAll _ e; rw [(h3 q hq).2.1] at this; cases this
      · refine ⟨h2 _ _ (NG q hq).1 fun hm => ?_, hideAll_none _ (List.mem_map_of_mem hq), ?_⟩
        · rcases kts_mem hm with z | z
          · exact (Ne q hq).2.1 z
          · obtain ⟨o, ho, _⟩ := (B.frames.mem z).2
            rw [(Ne q hq).2.2] at ho; cases ho
        · cases e : base.get? q.1 with
          | none => rfl
          | some o => have := B.stays _ _ e; rw [(Ne q hq).2.2] at this; cases this
    · intro b o e hd
      exact U b o (of_hideAll _ e) hd
    · refine ⟨hN _ (hideAll_get _ hLg hLe), fun b o e => hideAll_get _ (st _ _ e) fun q => ?_, F.above⟩
      obtain ⟨p, hp, rfl⟩ := List.mem_map.mp q
      rw [(Ne p hp).2.2] at e; cases e
theorem ready_in {env : Env} {p : Int} {pt : Tok} {its : Array Value} {n : Nat} {ns : List Int} (hh : A.handled = none) (B : Below A₀ base outer g) (F : Fr g L s.heap m) (hA : A.frames = some (env :: outer)) (hf : env.frame = some L) (hke : env.scope.kind = .function)
    (X : Frag.In (Mine.hd.heap_39 w.params) g) (T : Top Mine.hd.view_39 (looseW Mine.hd.view_39 [Str.ofString "_NodeInfo"]) mean mg mb g)
    (N : News g L s.heap ((own ++ [(ra, W.listOf its n)]) ++ ext)) (S : SoL w sa (.ref ra) (.int p pt) fv gr own) (off : Off own [(ra, W.listOf its n)]) (offE : Off (own ++ [(ra, W.listOf its n)]) ext)
    (hi : IntsAre its.toList ns) (hns : ∀ k ∈ ns, k ∈ gr.map (·.1)) (hnl : ns.length ≤ 100)
    (hdp : A.depth + 80 < 1000) (hun : A.units + 800 < 9900)
    (ret : ∀ h' tk ta vs n' own' pt', Fr g L h' m → News g L h' ((own' ++ [(ra, W.listOf #[] n')]) ++ ((ta, tupV vs) :: ext)) → SoL w sa (.ref ra) (.int (p + ns.length) pt') fv (outP gr ns) own' → Off own' [(ra, W.listOf #[] n')] → Off (own' ++ [(ra, W.listOf #[] n')]) ((ta, tupV vs) :: ext) → (∀ q ∈ ext, q.1 ≠ ta) → IntsAre vs ns → Q (.ref ta) { s with heap := h', toks := tk }) :
    wpAny (model PySem.Challenge.rw_nb0242_01.row.prog w) A (call (.ref 106) [.ref sa]) Q E s := by
  have No : News g L s.heap (own ++ [(ra, W.listOf its n)]) := fun p hp => N p (List.mem_append_left _ hp)
  obtain ⟨FG, BG, st, _⟩ := groundX (R := fun _ _ => True) B F No hA hf hke
  refine ready_call hh BG (X.keeps st) (T.keeps st) (fun b o e => of_hideAll _ e) (Nat.le_of_eq (hideAll_size _ _)) (fun p hp => ⟨(No p hp).1, hideAll_none _ (List.mem_map_of_mem hp)⟩) S off hi hns hnl hdp hun ?_
  intro h' tk ta vs n' own' pt' st' N' S' off' hne hi'
  obtain ⟨F', N''⟩ := back F N offE st' N'
  have offN := off_new (fun p hp => (N p (List.mem_append_right _ hp)).1) offE N'
  have o1 : Off own' [(ra, W.listOf #[] n')] := fun q hq => off' q (by rw [List.mem_singleton.mp hq]; exact .head _)
  have o2 : Off (own' ++ [(ra, W.listOf #[] n')]) [(ta, tupV vs)] := off_app (fun q hq => off' q (by rw [List.mem_singleton.mp hq]; exact .tail _ (.head _))) fun q hq z => by
    rw [List.mem_singleton.mp hq] at z
    exact hne (by simpa using z)
  have o3 : Off (own' ++ [(ra, W.listOf #[] n')]) ext := fun q hq z => offN q hq (by
    rw [List.map_append] at z ⊢
    rcases List.mem_append.mp z with z | z
    · exact List.mem_append_left _ z
    · exact List.mem_append_right _ (by simp only [List.map_cons, List.map_nil, List.mem_cons, List.not_mem_nil, or_false] at z ⊢; exact .inl z))
  refine ret h' tk ta vs n' own' pt' F' (fun q hq => N'' q ?_) S' o1 (off_cons o2 o3) (fun q hq z => offN q hq (by rw [z]; simp)) hi'
  simp only [List.mem_append, List.mem_cons, List.not_mem_nil, or_false] at hq ⊢
  rcases hq with (h | h) | h | h
  · exact .inl (.inl h)
  · exact .inl (.inr (.inl h))
  · exact .inl (.inr (.inr h))
  · exact .inr h
theorem done_in {env : Env} {f : Int} {ft : Tok} {its : List Value} {n : Nat} {ns : List Int} {k : Int} {kt : Tok} (hh : A.handled = none) (B : Below A₀ base outer g) (F : Fr g L s.heap m) (hA : A.frames = some (env :: outer)) (hf : env.frame = some L) (hke : env.scope.kind = .function)
    (X : Frag.In (Mine.hd.heap_39 w.params) g) (T : Top Mine.hd.view_39 (looseW Mine.hd.view_39 [Str.ofString "_NodeInfo"]) mean mg mb g)
    (N : News g L s.heap ((own ++ [(ra, W.listOf its.toArray n)]) ++ ext)) (S : SoL w sa (.ref ra) pv (.int f ft) gr own) (off : Off own [(ra, W.listOf its.toArray n)]) (offE : Off (own ++ [(ra, W.listOf its.toArray n)]) ext)
    (hi : IntsAre its ns) (hnl : ns.length ≤ 100) (hk : k ∈ gr.map (·.1)) (hnp : npOf gr k = -1) (hsu : ∀ j ∈ sucOf gr k, j ∈ gr.map (·.1)) (hsl : (sucOf gr k).length ≤ 100)
    (hdp : A.depth + 80 < 1000) (hun : A.units + 800 < 9900)
    (ret : ∀ h' tk its' n' own' ft', Fr g L h' m → News g L h' ((own' ++ [(ra, W.listOf its'.toArray n')]) ++ ext) → SoL w sa (.ref ra) pv (.int (f + 1) ft') (doneP gr k ns).1 own' → Off own' [(ra, W.listOf its'.toArray n')] → Off (own' ++ [(ra, W.listOf its'.toArray n')]) ext → IntsAre its' (doneP gr k ns).2 → Q .none { s with heap := h', toks := tk }) :
    wpAny (model PySem.Challenge.rw_nb0242_01.row.prog w) A (call (.ref 127) [.ref sa, .int k kt]) Q E s := by
  have No : News g L s.heap (own ++ [(ra, W.listOf its.toArray n)]) := fun p hp => N p (List.mem_append_left _ hp)
  obtain ⟨FG, BG, st, _⟩ := groundX (R := fun _ _ => True) B F No hA hf hke
  refine done_call hh BG (X.keeps st) (T.keeps st) (fun b o e => of_hideAll _ e) (Nat.le_of_eq (hideAll_size _ _)) (fun p hp => ⟨(No p hp).1, hideAll_none _ (List.mem_map_of_mem hp)⟩) S off hi hnl hk hnp hsu hsl hdp hun ?_
  intro h' tk its' n' own' ft' st' N' S' off' hi'
  obtain ⟨F', N''⟩ := back F N offE st' N'
  exact ret h' tk its' n' own' ft' F' N'' S' off' (off_new (fun p hp => (N p (List.mem_append_right _ hp)).1) offE N') hi'
end
end Mine
end
section
open PySem PySem.W PySem.W.X PySem.Calls PyProof.Rows
set_option Elab.async false
set_option maxRecDepth 100000
set_option maxHeartbeats 1000000
namespace Mine
theorem ready_keys {gr : Gr} : ∀ k ∈ readyP gr, k ∈ gr.map (·.1) := by
  intro k hk
  obtain ⟨x, hx, e⟩ := List.mem_map.mp hk
  exact List.mem_map.mpr ⟨x, (List.mem_filter.mp hx).1, e⟩
/-- what is told of the ring -/
def RingR (res : Option (List Int)) (ringV : Value) (ext : List (Addr × Obj)) : Prop :=
  (res = none ∧ ringV = .none ∧ ext = []) ∨ ∃ r c its n, res = some r ∧ ringV = .ref c ∧ ext = [(c, W.listOf its n)] ∧ IntsAre its.toList r
noncomputable def refOf (res : Option (List Int)) : Value := if res.isSome then .bool true else .none
def ToldMid (w : World) (A : Around) (base : Heap) (outer : List Env) (g₀ : Heap) (L sa : Addr) (p f : Int) (gr : Gr) (res : Option (List Int)) (s : Shared) (fl : Flow) (s' : Shared) : Prop :=
  fl = .next ∧ ∃ h tk g m ra own ext its n pt ft ringV, s' = { s with heap := h, toks := tk } ∧ KtsTurn (frs outer) g₀ g ∧ Below A base outer g ∧ Fr g L h m ∧ News g L h ((own ++ [(ra, W.listOf its n)]) ++ ext) ∧ SoL w sa (.ref ra) (.int p pt) (.int f ft) gr own ∧ Off own [(ra, W.listOf its n)] ∧ Off (own ++ [(ra, W.listOf its n)]) ext ∧ IntsAre its.toList (readyP gr) ∧
    m (Str.ofString "sorter") = some (.ref sa) ∧ m (Str.ofString "ring") = some ringV ∧ m (Str.ofString "refused") = some (refOf res) ∧ RingR res ringV ext
local macro_rules | `(tactic| walk_at "eval Name") => `(tactic| (k_dflt (refine' ld ?k1 ?k2 ?_; (case k1 => k_asm); (case k2 => first | exact rfl | assumption); k_whole)))
local macro_rules | `(tactic| k_room) => `(tactic| ((try simp only [depth_under_make, depth_under_kw, depth_in1, depth_deeper, depth_caller]); dsimp only [recursionLimit] at *; omega))
local macro_rules | `(tactic| k_all) => `(tactic| assumption)
local macro_rules | `(tactic| walk_at "call ref") => `(tactic| ((with_reducible show wpAny _ _ (call (Value.ref _) _) _ _ _); refine stop_in ?_))
local macro_rules | `(tactic| walk_at "execs cons") => `(tactic| ((with_reducible show wpAny _ _ (execs (Stmt.Try _ _ _ _ _ :: _) _) _ _ _); refine stop_in ?_))
theorem told_call {w : World} {A : Around} {s : Shared} {mean : ExcName → Option Value} {mg mb : Str → Option Value} {Q E : Value → Shared → Prop} {base g : Heap} {outer : List Env} {sa : Addr}
    (hh : A.handled = none) (B : Below A base outer g) (XB : Frag.In (Mine.hd.heap_39 w.params) base) (TB : Top Mine.hd.view_39 (looseW Mine.hd.view_39 [Str.ofString "_NodeInfo"]) mean mg mb base) (D : KtsDicts (frs outer) g) (st : g.StaysIn s.heap) (hgs : g.objs.size ≤ s.heap.objs.size)
    {p f : Int} {pt ft : Tok} {gr : Gr} {own : List (Addr × Obj)} (N : NB g s.heap own) (S : SoL w sa .none (.int p pt) (.int f ft) gr own) {fuel : Nat} {res : Option (List Int)} (hfind : findP gr fuel = some res) (hgl : gr.length ≤ 100) (hrl : ∀ r, res = some r → r.length ≤ 1000)
    (hk : -1 ∈ gr.map (·.1)) (hrn : (readyP gr).length ≤ 100) (hnp : npOf (outP gr (readyP gr)) (-1) = -1) (hsu : ∀ j ∈ sucOf (outP gr (readyP gr)) (-1), j ∈ gr.map (·.1)) (hsl : (sucOf (outP gr (readyP gr)) (-1)).length ≤ 100)
    {ns₂ : List Int} (hd2 : (doneP (outP gr (readyP gr)) (-1) []).2 = ns₂) (hd3 : ∀ k ∈ ns₂, k ∈ gr.map (·.1)) (hd4 : ns₂.length ≤ 100)
    (hdp : A.depth + 100 < 1000) (hun : A.units + 1000 < 9900)
    (ret : ∀ h' tk g' la ringV ta vs tb us ext, KtsTurn (frs outer) g g' → g'.StaysIn h' → NB g' h' ((la, W.listOf #[ringV, refOf res, .ref ta, .ref tb] 0) :: (tb, tupV us) :: (ta, tupV vs) :: ext) → IntsAre vs (readyP gr) → IntsAre us ns₂ → RingR res ringV ext → Q (.ref la) { s with heap := h', toks := tk }) :
    wpAny (model PySem.Challenge.rw_nb0242_01.row.prog w) A (call (.ref 176) [.ref sa]) Q E s := by
  have X : Frag.In (Mine.hd.heap_39 w.params) g := XB.keeps B.stays
  have T : Top Mine.hd.view_39 (looseW Mine.hd.view_39 [Str.ofString "_NodeInfo"]) mean mg mb g := TB.keeps B.stays
  revert X T; w_top off; k_fill; intro X T
  refine hide fun G' back' => ?_
  obtain ⟨hd', dp, fr, gd, un⟩ := A
  refine back' ?_
  clear back' G'
  have e1 : fr = some outer := B.stack
  have e2 : hd' = none := hh
  subst e1 e2
  refine wpAny_call ?_
  refine codeAny_call_def (binds := [(Str.ofString "sorter", .ref sa)]) (by dsimp only [recursionLimit] at *; omega) ((X.keeps st) 176 _ (by k_is)) rfl (T.nolimit.keeps st) (codeRec_of (X.keeps st) (by k_is)) rfl (BindsTo.of_eq rfl) (by decide) (locs rfl) (fun h₁ hns' keep => ?_) rfl rfl rfl
  have F : Fr g s.heap.objs.size h₁ _ := ⟨hns', fun b o e => keep b o (st b o e), hgs⟩
  have N₁ : News g s.heap.objs.size h₁ (own ++ []) := by rw [List.append_nil]; exact N.news keep rfl
  clear N hns'
  have S' := S
  refine hide fun G' back' => ?_
  obtain ⟨dx, nd, od, t1, t2, t3, t4, rs, hown, -, -, -, -⟩ := S'
  refine back' ?_
  clear back' G'
  rw [hown] at N₁
  k_steps
  rw [← hown] at N₁
  refine Stop.out (find_in (ext := []) rfl B F rfl rfl XB TB D N₁ S (fun _ h => nomatch h) hfind hgl (by simp only [depth_deeper] at *; omega) (by simp only [Around.deeper_units] at *; omega) ?_ ?_)
  · intro hr h₂ tk₂ g₂ KT₂ F₂ N₂ B₂
    have X₂ : Frag.In (Mine.hd.heap_39 w.params) g₂ := XB.keeps B₂.stays
    have T₂ : Top Mine.hd.view_39 (looseW Mine.hd.view_39 [Str.ofString "_NodeInfo"]) mean mg mb g₂ := TB.keeps B₂.stays
    clear F N₁ X T
    k_steps
    refine Stop.out (wpAny_execs_cons (wpAny_mono (Q := ToldMid w { depth := dp, frames := some outer, guards := gd, units := un } base outer g s.heap.objs.size sa p f gr res s) (E := fun _ _ => False) ?_ ?_ fun _ _ x => x.elim))
    · refine wpAny_Try_except ?_
      rename Fr _ _ _ _ => F₃
      rename News _ _ _ _ => N₃
      rw [hown] at N₃
      k_steps
      rw [← hown] at N₃
      refine Stop.out (prepare_in (ext := []) rfl B₂ F₃ rfl rfl XB TB (D.turn KT₂) N₃ S (fun _ h => nomatch h) hfind hgl hrl (by simp only [depth_deeper] at *; omega) (by simp only [Around.deeper_units] at *; omega) ?_ ?_)
      · intro hr' h₄ tk₄ g₄ ra own' its n KT₄ F₄ N₄ B₄ S₄ off₄ offE₄ hi₄
        clear F₃ N₃
        k_steps
        rename Fr _ _ _ _ => F₅
        rename News _ _ _ _ => N₅
        exact ⟨rfl, _, _, g₄, _, ra, own', [], its, n, pt, ft, .none, rfl, KT₂.trans KT₄, B₄, F₅, N₅, S₄, off₄, offE₄, hi₄, rfl, rfl, by rw [hr]; rfl, .inl ⟨hr, rfl, rfl⟩⟩
      · intro r hr'
        rw [hr] at hr'; cases hr'
    · rintro fl s' ⟨rfl, TM⟩
      dsimp only
      clear hown
      clear S
      refine hide fun G' back' => ?_
      obtain ⟨h₃, tk₃, g₃, m₃, ra, own', ext, its, n, pt', ft', ringV, rfl, KT₃, B₃, F₃, N₃, S₃, off₃, offE₃, hi₃, hm1, hm2, hm3, hRR⟩ := TM
      refine back' ?_
      clear back' G'
      have X₃ : Frag.In (Mine.hd.heap_39 w.params) g₃ := XB.keeps B₃.stays
      have T₃ : Top Mine.hd.view_39 (looseW Mine.hd.view_39 [Str.ofString "_NodeInfo"]) mean mg mb g₃ := TB.keeps B₃.stays
      have hS₃ := S₃
      refine hide fun G' back' => ?_
      obtain ⟨dx₃, nd₃, od₃, v1, v2, v3, v4, rs₃, hown₃, -, -, -, -⟩ := hS₃
      refine back' ?_
      clear back' G'
      rw [hown₃] at N₃
      k_steps
      rw [← hown₃] at N₃
      refine Stop.out (ready_in rfl B₃ F₃ rfl rfl rfl X₃ T₃ N₃ S₃ off₃ offE₃ hi₃ ready_keys hrn (by simp only [depth_deeper] at *; omega) (by simp only [Around.deeper_units] at *; omega) fun h₄ tk₄ ta vs n₄ own₄ pt₄ F₄ N₄ S₄ off₄ offE₄ hxa hvs => ?_)
      clear F₃ N₃ hown₃
      have hS₄ := S₄
      refine hide fun G' back' => ?_
      obtain ⟨dx₄, nd₄, od₄, w1, w2, w3, w4, rs₄, hown₄, -, -, -, -⟩ := hS₄
      refine back' ?_
      clear back' G'
      rw [hown₄] at N₄
      k_steps
      rename Fr _ _ _ _ => F₅
      rename News _ _ _ _ => N₅
      rw [← hown₄] at N₅
      refine Stop.out (done_in (its := []) (ns := []) rfl B₃ F₅ rfl rfl rfl X₃ T₃ N₅ S₄ off₄ offE₄ .nil (by simp) (by rw [outP_keys]; exact hk) hnp (by rw [outP_keys]; exact hsu) hsl (by simp only [depth_deeper] at *; omega) (by simp only [Around.deeper_units] at *; omega) fun h₆ tk₆ its₆ n₆ own₆ ft₆ F₆ N₆ S₆ off₆ offE₆ hi₆ => ?_)
      clear F₅ N₅ hown₄
      have hS₆ := S₆
      refine hide fun G' back' => ?_
      obtain ⟨dx₆, nd₆, od₆, x1, x2, x3, x4, rs₆, hown₆, -, -, -, -⟩ := hS₆
      refine back' ?_
      clear back' G'
      rw [hown₆] at N₆
      k_steps
      rw [← hown₆] at N₆
      rw [hd2] at hi₆
      refine Stop.out (ready_in rfl B₃ F₆ rfl rfl rfl X₃ T₃ N₆ S₆ off₆ offE₆ hi₆ (by unfold doneP; rw [fold_keys, setP_keys, outP_keys]; exact hd3) hd4 (by simp only [depth_deeper] at *; omega) (by simp only [Around.deeper_units] at *; omega) fun h₇ tk₇ tb us n₇ own₇ pt₇ F₇ N₇ S₇ off₇ offE₇ hxb hus => ?_)
      clear F₆ N₆ hown₆
      k_steps
      rename Fr _ _ _ _ => F₈
      rename News _ _ _ _ => N₈
      refine ret _ _ g₃ _ ringV ta vs tb us ext KT₃ F₈.keep (NB.of fun q hq => N₈ q ?_) hvs hus hRR
      rcases List.mem_cons.mp hq with h | h
      · rw [h]; exact .head _
      · exact .tail _ (List.mem_append_right _ h)
  · intro r hr h₂ tk₂ g₂ c its₂ n₂ KT₂ F₂ N₂ B₂ hi₂ hoc
    have X₂ : Frag.In (Mine.hd.heap_39 w.params) g₂ := XB.keeps B₂.stays
    have T₂ : Top Mine.hd.view_39 (looseW Mine.hd.view_39 [Str.ofString "_NodeInfo"]) mean mg mb g₂ := TB.keeps B₂.stays
    clear F N₁ X T
    k_steps
    refine Stop.out (wpAny_execs_cons (wpAny_mono (Q := ToldMid w { depth := dp, frames := some outer, guards := gd, units := un } base outer g s.heap.objs.size sa p f gr res s) (E := fun _ _ => False) ?_ ?_ fun _ _ x => x.elim))
    · refine wpAny_Try_except ?_
      rename Fr _ _ _ _ => F₃
      rename News _ _ _ _ => N₃
      rw [hown] at N₃
      k_steps
      rw [← hown] at N₃
      have N₄ : News g₂ s.heap.objs.size _ (own ++ [(c, W.listOf its₂ n₂)]) := fun q hq => N₃ q (by
        rcases List.mem_append.mp hq with hq | hq
        · exact .tail _ (List.mem_append_left _ hq)
        · rw [List.mem_singleton.mp hq]; exact .head _)
      have offc : Off own [(c, W.listOf its₂ n₂)] := fun q hq z => by
        rw [List.mem_singleton.mp hq] at z
        obtain ⟨q', hq', e⟩ := List.mem_map.mp z
        exact hoc q' (List.mem_append_left _ hq') e
      refine Stop.out (prepare_in (ext := [(c, W.listOf its₂ n₂)]) rfl B₂ F₃ rfl rfl XB TB (D.turn KT₂) N₄ S offc hfind hgl hrl (by simp only [depth_deeper] at *; omega) (by simp only [Around.deeper_units] at *; omega) ?_ ?_)
      · intro hr'
        rw [hr] at hr'; cases hr'
      · intro r' hr' e h₄ tk₄ t vs ra own' its n G₂ R₄ U₄ FG₄ S₄ off₄ offE₄ hi₄
        dsimp only at R₄ U₄ ⊢
        refine caught_SO0 (KF := Mine.hd.heap_39 w.params) (x := Str.ofString "CycleError") (C := 62) R₄ FG₄ B₂ U₄ XB TB (D.turn KT₂) KT₂ (by k_is) (by kts_isx) (fun h₅ g₅ news₅ KT₅ F₅ N₅ _ N₆ B₅ X₅ T₅ D₅ => ?_)
        clear F₃ N₃ N₄ X₂ T₂
        k_steps
        rename Fr _ _ _ _ => F₇
        rename News _ _ _ _ => N₇
        exact ⟨rfl, _, _, g₅, _, ra, own', [(c, W.listOf its₂ n₂)], its, n, pt, ft, .ref c, rfl, KT₅, B₅, F₇, N₇, S₄, off₄, offE₄, hi₄, rfl, rfl, by rw [hr]; rfl, .inr ⟨r, c, its₂, n₂, hr, rfl, rfl, hi₂⟩⟩
    · rintro fl s' ⟨rfl, TM⟩
      dsimp only
      clear hown
      clear S
      refine hide fun G' back' => ?_
      obtain ⟨h₃, tk₃, g₃, m₃, ra, own', ext, its, n, pt', ft', ringV, rfl, KT₃, B₃, F₃, N₃, S₃, off₃, offE₃, hi₃, hm1, hm2, hm3, hRR⟩ := TM
      refine back' ?_
      clear back' G'
      have X₃ : Frag.In (Mine.hd.heap_39 w.params) g₃ := XB.keeps B₃.stays
      have T₃ : Top Mine.hd.view_39 (looseW Mine.hd.view_39 [Str.ofString "_NodeInfo"]) mean mg mb g₃ := TB.keeps B₃.stays
      have hS₃ := S₃
      refine hide fun G' back' => ?_
      obtain ⟨dx₃, nd₃, od₃, v1, v2, v3, v4, rs₃, hown₃, -, -, -, -⟩ := hS₃
      refine back' ?_
      clear back' G'
      rw [hown₃] at N₃
      k_steps
      rw [← hown₃] at N₃
      refine Stop.out (ready_in rfl B₃ F₃ rfl rfl rfl X₃ T₃ N₃ S₃ off₃ offE₃ hi₃ ready_keys hrn (by simp only [depth_deeper] at *; omega) (by simp only [Around.deeper_units] at *; omega) fun h₄ tk₄ ta vs n₄ own₄ pt₄ F₄ N₄ S₄ off₄ offE₄ hxa hvs => ?_)
      clear F₃ N₃ hown₃
      have hS₄ := S₄
      refine hide fun G' back' => ?_
      obtain ⟨dx₄, nd₄, od₄, w1, w2, w3, w4, rs₄, hown₄, -, -, -, -⟩ := hS₄
      refine back' ?_
      clear back' G'
      rw [hown₄] at N₄
      k_steps
      rename Fr _ _ _ _ => F₅
      rename News _ _ _ _ => N₅
      rw [← hown₄] at N₅
      refine Stop.out (done_in (its := []) (ns := []) rfl B₃ F₅ rfl rfl rfl X₃ T₃ N₅ S₄ off₄ offE₄ .nil (by simp) (by rw [outP_keys]; exact hk) hnp (by rw [outP_keys]; exact hsu) hsl (by simp only [depth_deeper] at *; omega) (by simp only [Around.deeper_units] at *; omega) fun h₆ tk₆ its₆ n₆ own₆ ft₆ F₆ N₆ S₆ off₆ offE₆ hi₆ => ?_)
      clear F₅ N₅ hown₄
      have hS₆ := S₆
      refine hide fun G' back' => ?_
      obtain ⟨dx₆, nd₆, od₆, x1, x2, x3, x4, rs₆, hown₆, -, -, -, -⟩ := hS₆
      refine back' ?_
      clear back' G'
      rw [hown₆] at N₆
      k_steps
      rw [← hown₆] at N₆
      rw [hd2] at hi₆
      refine Stop.out (ready_in rfl B₃ F₆ rfl rfl rfl X₃ T₃ N₆ S₆ off₆ offE₆ hi₆ (by unfold doneP; rw [fold_keys, setP_keys, outP_keys]; exact hd3) hd4 (by simp only [depth_deeper] at *; omega) (by simp only [Around.deeper_units] at *; omega) fun h₇ tk₇ tb us n₇ own₇ pt₇ F₇ N₇ S₇ off₇ offE₇ hxb hus => ?_)
      clear F₆ N₆ hown₆
      k_steps
      rename Fr _ _ _ _ => F₈
      rename News _ _ _ _ => N₈
      refine ret _ _ g₃ _ ringV ta vs tb us ext KT₃ F₈.keep (NB.of fun q hq => N₈ q ?_) hvs hus hRR
      rcases List.mem_cons.mp hq with h | h
      · rw [h]; exact .head _
      · exact .tail _ (List.mem_append_right _ h)
end Mine
end
section
open PySem PySem.W PySem.W.X PySem.Calls PyProof.Rows
set_option Elab.async false
set_option maxRecDepth 100000
set_option maxHeartbeats 1000000
namespace Mine
local macro_rules | `(tactic| walk_at "eval Name") => `(tactic| (k_dflt (refine' ld ?k1 ?k2 ?_; (case k1 => k_asm); (case k2 => first | exact rfl | assumption); k_whole)))
local macro_rules | `(tactic| walk_at "exec While Compare cons nil") => `(tactic| ((with_reducible show wpAny _ _ (exec (Stmt.While _ _ _ _) _) _ _ _); refine stop_in ?_))
local macro_rules | `(tactic| walk_at "getMethod ref") => `(tactic| refine stop_in ?_)
local macro_rules | `(tactic| walk_at "call builtin:list.index") => `(tactic| refine stop_in ?_)
local macro_rules | `(tactic| walk_at "call builtin:list.append") => `(tactic| refine stop_in ?_)
local macro_rules | `(tactic| walk_at "subscriptTail") => `(tactic| refine stop_in ?_)
/-- the ring from a place on, as long as the place it came from is known -/
noncomputable def ringGo (cs : List Int) (p : Int) : Nat → List Int → Option (List Int)
  | 0, _ => none
  | k + 1, r => match r.getLast? with
    | none => none
    | some x => if x = p then some r else if x ∈ cs then ringGo cs p k (r ++ [(cs.idxOf x : Int)]) else none
theorem ring_call {w : World} {A : Around} {s : Shared} {mean : ExcName → Option Value} {mg mb : Str → Option Value} {Q E : Value → Shared → Prop}
    {l : Addr} {items : Array Value} {ep : Nat} {cs rs : List Int} {p : Int} {fuel : Nat} {t1 : Tok} (hsz : cs.length ≤ 20) (hfu : fuel ≤ 100) (hh : A.handled = none) (hp : p ∈ cs) (hr : ringGo cs p fuel [p, (cs.idxOf p : Int)] = some rs)
    (hl : s.heap.get? l = some { cls := .type "list", data := .seq items ep }) (hi : IntsAre items.toList cs)
    (X : Frag.In (Mine.hd.heap_39 w.params) s.heap) (T : Top Mine.hd.view_39 (looseW Mine.hd.view_39 [Str.ofString "_NodeInfo"]) mean mg mb s.heap)
    (hdp : A.depth + 20 < recursionLimit) (hun : A.units + 200 < cLine)
    (ret : ∀ h' tk a its n, s.heap.StaysIn h' → s.heap.get? a = none → h'.get? a = some { cls := .type "list", data := .seq its n } → IntsAre its.toList rs → Q (.ref a) { s with heap := h', toks := tk }) :
    wpAny (model PySem.Challenge.rw_nb0242_01.row.prog w) A (call (.ref 183) [.int p t1, .ref l]) Q E s := by
  revert X T; w_top off; k_fill; intro X T
  refine wpAny_call ?_
  refine codeAny_call_def (binds := [(Str.ofString "place", .int p t1), (Str.ofString "came", .ref l)]) (by omega) (X 183 _ (by k_is)) rfl T.nolimit (codeRec_of X (by k_is)) rfl (BindsTo.of_eq rfl) (by decide) (locs rfl) (fun h₁ hns keep => ?_) rfl rfl rfl
  have F : Fr s.heap s.heap.objs.size h₁ _ := ⟨hns, keep, Nat.le_refl _⟩
  have N : News s.heap s.heap.objs.size h₁ [] := News.nil
  have hL : s.heap.IsList l items.toList.toArray := ⟨_, hl, rfl, ep, rfl⟩
  k_steps
  rename Fr _ _ _ _ => F₁
  rename News _ _ _ _ => N₁
  refine Stop.out (meth (F₁.keep _ _ hl) PySem.F.plainAttrs_list PySem.F.slot_list_index PySem.F.type_list_index ?_)
  k_steps
  refine Stop.out (index_ints (F₁.lst hL) hi (by omega) hp fun t' k' => ?_)
  k_steps
  rename Fr _ _ _ _ => F₂
  rename News _ _ _ _ => N₂
  refine Stop.out ?_
  refine while_invW (fun k m news => ∃ rl its n rs', m (Str.ofString "place") = some (.int p t1) ∧ m (Str.ofString "came") = some (.ref l) ∧ m (Str.ofString "ring") = some (.ref rl) ∧ news = [(rl, W.listOf its.toArray n)] ∧ IntsAre its rs' ∧ ringGo cs p k rs' = some rs ∧ rs'.length + k ≤ 102 ∧ 0 < rs'.length) fuel F₂ N₂ ?_ ?_
  · refine ⟨_, [_, _], 0, [p, (cs.idxOf p : Int)], rfl, rfl, rfl, rfl, .cons _ _ (.cons _ _ .nil), hr, by simp; omega, by simp⟩
  · intro WW k m₁ news₁ h tk backW hp1 F N
    refine hide fun G' back' => ?_
    obtain ⟨rl, its, n, rs', hm1, hm2, hm3, rfl, hI, hgo, hlen, hpos⟩ := hp1
    refine back' ?_
    clear back' G'
    obtain ⟨x, hx⟩ : ∃ x, rs'.getLast? = some x := by
      cases e : rs'.getLast? with
      | some x => exact ⟨x, rfl⟩
      | none => rw [List.getLast?_eq_none_iff] at e; subst e; simp at hpos
    have hlast : rs'.getD (-1 + (rs'.length : Int)).toNat 0 = x := by
      have e : (-1 + (rs'.length : Int)).toNat = rs'.length - 1 := by omega
      rw [e, List.getD_eq_getElem?_getD, ← List.getLast?_eq_getElem?, hx]; rfl
    obtain ⟨k, rfl⟩ : ∃ j, k = j + 1 := by
      cases k with
      | zero => exact nomatch hgo
      | succ j => exact ⟨j, rfl⟩
    unfold ringGo at hgo
    rw [hx] at hgo
    dsimp only at hgo
    k_steps
    · rename ¬ _ = _ => hne
      rw [hlast] at hne
      rw [if_neg hne] at hgo
      by_cases hxc : x ∈ cs
      · rw [if_pos hxc] at hgo
        refine Stop.out (meth (N.get (List.mem_cons_self ..)) PySem.F.plainAttrs_list PySem.F.slot_list_append PySem.F.type_list_append ?_)
        k_steps
        refine Stop.out (meth (F.keep _ _ hl) PySem.F.plainAttrs_list PySem.F.slot_list_index PySem.F.type_list_index ?_)
        k_steps
        rw [hlast]
        refine Stop.out (index_ints (F.lst hL) hi (by omega) hxc fun t' k' => ?_)
        k_steps
        refine Stop.out (append1 F N (fun _ hp => nomatch hp) (by rw [hI.length]; omega) fun h' F' N' => ?_)
        clear F N
        k_steps
        rename Fr _ _ _ _ => F
        rename News _ _ _ _ => N
        exact backW k _ _ _ _ (Nat.lt_succ_self _) F ⟨rl, _, _, _, hm1, hm2, hm3, rfl, hI.append (.cons _ _ .nil), hgo, by simp; omega, by simp⟩ N
      · rw [if_neg hxc] at hgo; cases hgo
    · rename _ = p => heq
      rw [hlast] at heq
      rw [if_pos heq] at hgo
      cases hgo
      exact ret _ _ rl its.toArray n F.keep (N.fresh (List.mem_cons_self ..)) (N.get (List.mem_cons_self ..)) hI
end Mine
end
section
open PySem PySem.W PySem.W.X PySem.Calls PyProof.Rows
set_option Elab.async false
set_option maxRecDepth 100000
namespace Mine
section
variable {prog : Program} {w : World} {A : Around} {s : Shared} {env : Env} {h₀ : Heap}
theorem codeC_forLoop {R : Result → Shared → Prop} {target : PySem.Expr} {it : Value} {body : List Stmt} (I : Nat → Shared → Prop)
    (turn : ∀ n s, I n s → wpAny (model prog w) A (pyNext it) (fun r s₁ => match r with
      | none => R (.ok .next) s₁
      | some v => wpAny (model prog w) A (assign target env v) (fun _ s₂ => wpC (model prog w) A (execs body env) (fun f s₃ => match f with
          | .next | .cont => ∃ m, m < n ∧ I m s₃
          | .brk => R (.ok .next) s₃
          | .ret v => R (.ok (.ret v)) s₃) (fun _ _ => False) s₂) (fun _ _ => False) s₁) (fun _ _ => False) s)
    (n : Nat) (h : I n s) (ht : ∀ v, letOwnedTupleGo target it v = pure () := by intro _; rfl) : codeC (model prog w) A (.forLoop target it body [] env) R s := by
  refine codeC_loop' rfl rfl I (fun n s hI => ?_) n h
  show wpC _ _ ((forTurn target it body [] env).onRaise (fun x => do noteFrame x env; theTreesLotGoes x)) _ _ s
  refine wpC_onRaise (wpC_mono (E := fun _ _ => False) ?_ (fun _ _ x => x) (fun _ _ x => x.elim))
  simp only [forTurn]
  refine wpC_bindA (wpAny_standAt ?_)
  refine wpC_bind (wpC_of (wpAny_onRaise (wpAny_mono (turn n s hI) (fun r s₁ h₁ => ?_) fun _ _ h' => h'.elim)))
  cases r with
  | none => exact wpC_pure (.inr ⟨rfl, codeC_of (codeAny_block (wpAny_execs_nil h₁))⟩)
  | some v =>
    refine wpC_bindA (wpAny_of_eq (ht v) ?_)
    refine wpC_bind (wpC_of (wpAny_mono h₁ (fun _ s₂ h₂ => wpC_bind (wpC_mono h₂ (fun f s₃ h₃ => ?_) fun _ _ h' => h')) fun _ _ h' => h'))
    cases f with
    | next => exact wpC_pure (.inl ⟨rfl, h₃⟩)
    | cont => exact wpC_pure (.inl ⟨rfl, h₃⟩)
    | brk => exact wpC_pure h₃
    | ret v => exact wpC_pure h₃
theorem wpC_runOwn {c : Code} {Q : Flow → Shared → Prop} {E : Value → Shared → Prop}
    (hc : codeC (model prog w) A c (fun r s' => match r with | .ok f => Q f s' | .error _ => False) s) :
    wpC (model prog w) A (runOwn c env) Q E s := by
  unfold runOwn
  refine wpC_onRaise (wpC_run (codeC_mono hc fun r s' hr => ?_))
  cases r with
  | ok f => exact hr
  | error e => exact hr.elim
theorem wpC_For {target iter : PySem.Expr} {body : List Stmt} {pos : Pos} {Q : Flow → Shared → Prop} {E : Value → Shared → Prop}
    (h : wpAny (model prog w) A (eval iter env) (fun x s₁ => wpAny (model prog w) A (pyIter x) (fun it s₂ =>
      codeC (model prog w) A (.forLoop target it body [] env) (fun r s' => match r with | .ok f => Q f s' | .error _ => False) s₂) E s₁) E s)
    (hs : ∀ x, foldedSetIterable iter env x = pure x := by intro _; rfl) :
    wpC (model prog w) A (exec (.For target iter body [] pos) env) Q E s := by
  rw [exec_For]
  refine wpC_bindA (wpAny_standAt (wpC_bindA (wpAny_mono h (fun x s₁ h₁ => wpC_bindA (wpAny_of_eq (hs x) (wpC_bindA (wpAny_standAt (wpC_bindA (wpAny_holding
    (wpAny_mono h₁ (fun it s₂ h₂ => wpC_runOwn h₂) fun _ _ h' => h'))))))) fun _ _ h' => h')))
/-- a loop in the clean layer over a written walk, by an invariant -/
theorem loopC {Q : Flow → Shared → Prop} {x : Str} {px : Pos} {body : List Stmt} {I l : Addr} {lo : Obj} {fp : List Addr} {n : Nat} {P : Nat → Value → Prop} {icls : Value} {St : Nat → Heap → Prop} {m₀ : Str → Option Value} {news : List (Addr × Obj)} (Inv : Nat → (Str → Option Value) → List (Addr × Obj) → Prop)
    (W : Walks prog w A I fp [I] n P St) (hx : env.kindOf x = some .local) (hp : (env.scope.kind == .class || (env.scope.kind == .module && env.locals != env.globals)) = false)
    (hfp : ∀ b ∈ fp, b = I ∨ b = l) (hIt : ∀ i h, St i h → ∃ o, h.get? I = some o ∧ o.cls = icls) (hlo : s.heap.get? l = some lo) (hst : St 0 s.heap) (hli : l ≠ I)
    (F : Fr h₀ env.locals s.heap m₀) (N : News h₀ env.locals s.heap news) (hnI : h₀.get? I = none) (hIL : I ≠ env.locals) (hlL : l ≠ env.locals) (hnews : ∀ p ∈ news, p.1 ≠ I) (hk : h₀.get? l = some lo ∨ (l, lo) ∈ news)
    (h0 : Inv 0 m₀ news)
    (step : ∀ i v m₁ news₁ h tk oI, i < n → P i v → Inv i m₁ news₁ → (∀ p ∈ news₁, p.1 ≠ I) → h.get? l = some lo → oI.cls = icls → Fr h₀ env.locals h (fun y => if y = x then some v else m₁ y) → News h₀ env.locals h ((I, oI) :: news₁) →
      wpC (model prog w) A (execs body env) (UnrPost h₀ env.locals { s with heap := h, toks := tk } I oI (fun m' n' => Inv (i + 1) m' n' ∧ (h₀.get? l = some lo ∨ (l, lo) ∈ n')) Q) (fun _ _ => False) { s with heap := h, toks := tk })
    (done : ∀ m₁ news₁ h tk, Inv n m₁ news₁ → Fr h₀ env.locals h m₁ → News h₀ env.locals h news₁ → Q .next { s with heap := h, toks := tk }) :
    codeC (model prog w) A (.forLoop (.Name x px) (.ref I) body [] env) (fun r s' => match r with | .ok f => Q f s' | .error _ => False) s := by
  have old : ∀ b o, h₀.get? b = some o → b ≠ I := fun b o e hb => by rw [hb, hnI] at e; cases e
  refine codeC_forLoop
    (fun k s' => ∃ h' tk m' news' i, s' = { s with heap := h', toks := tk } ∧ St i h' ∧ h'.get? l = some lo ∧ Fr h₀ env.locals h' m' ∧ News h₀ env.locals h' news' ∧ (∀ p ∈ news', p.1 ≠ I) ∧ Inv i m' news' ∧ (h₀.get? l = some lo ∨ (l, lo) ∈ news') ∧ i ≤ n ∧ k = n + 1 - i) ?_ (n + 1)
    ⟨s.heap, s.toks, m₀, news, 0, rfl, hst, hlo, F, N, hnews, h0, hk, Nat.zero_le _, rfl⟩
  intro k s' hp1
  refine hide fun G' back' => ?_
  obtain ⟨h', tk, m', news', i, rfl, hst', hlo', F', N', hnw', hJ, hkl, hi, rfl⟩ := hp1
  refine back' ?_
  clear back' G'
  have next : ∀ h₁ : Heap, (∀ b o, b ∉ [I] → h'.get? b = some o → h₁.get? b = some o) → Fr h₀ env.locals h₁ m' ∧ News h₀ env.locals h₁ news' := fun h₁ hk₁ =>
    ⟨⟨F'.ns.at' fun o e => hk₁ _ o (fun q => hIL (List.mem_singleton.mp q).symm) e, fun b o e => hk₁ b o (fun q => old b o e (List.mem_singleton.mp q)) (F'.keep b o e), F'.above⟩, fun p hp => ⟨hk₁ _ _ (fun q => hnw' p hp (List.mem_singleton.mp q)) (N' p hp).1, (N' p hp).2⟩⟩
  by_cases hlt : i < n
  · refine W.item i _ _ _ hlt hst' fun v h₁ tk₁ hP hst₁ hk₁ => ?_
    obtain ⟨F₁, N₁⟩ := next h₁ hk₁
    have hl₁ : h₁.get? l = some lo := hk₁ l lo (fun q => hli (List.mem_singleton.mp q)) hlo'
    refine wpAny_assign_Name (wpAny_storeName_local hx F₁.ns (fun h₂ hn₂ hs₂ => ?_) hp)
    have F₂ := F₁.set hn₂ hs₂
    have hl₂ : h₂.get? l = some lo := (hs₂.2 l hlL).trans hl₁
    have hst₂ : St (i + 1) h₂ := W.frame _ _ _ hst₁ fun b hb o e => (hs₂.2 b fun q => by
      rcases hfp b hb with z | z
      · exact hIL (z.symm.trans q)
      · exact hlL (z.symm.trans q)).trans e
    obtain ⟨oI, hoI, hcI⟩ := hIt _ _ hst₂
    have N₂ : News h₀ env.locals h₂ ((I, oI) :: news') := fun p hp => by
      rcases List.mem_cons.mp hp with rfl | hp
      · exact ⟨hoI, hIL, hnI⟩
      · exact (N₁.set hs₂) p hp
    refine wpC_mono (step i v m' news' h₂ _ oI hlt hP hJ hnw' hl₂ hcI F₂ N₂) (fun f s₃ h₃ => ?_) fun _ _ e => e
    have fin : UnrEnd h₀ env.locals { s with heap := h₂, toks := tk₁ + 1 } I oI (fun m' n' => Inv (i + 1) m' n' ∧ (h₀.get? l = some lo ∨ (l, lo) ∈ n')) s₃ →
        ∃ m, m < n + 1 - i ∧ ∃ h' tk m' news' i, s₃ = { s with heap := h', toks := tk } ∧ St i h' ∧ h'.get? l = some lo ∧ Fr h₀ env.locals h' m' ∧ News h₀ env.locals h' news' ∧ (∀ p ∈ news', p.1 ≠ I) ∧ Inv i m' news' ∧ (h₀.get? l = some lo ∨ (l, lo) ∈ news') ∧ i ≤ n ∧ m = n + 1 - i := by
      intro hp1
      refine hide fun G' back' => ?_
      obtain ⟨g₃, tk₃, m₂, news₂, rfl, F₃, N₃, ho, hr, hkl₃⟩ := hp1
      refine back' ?_
      clear back' G'
      have hl₃ : g₃.get? l = some lo := by
        rcases hkl₃ with q | q
        · exact F₃.keep l lo q
        · exact (N₃ _ (List.mem_cons_of_mem _ q)).1
      refine ⟨n + 1 - (i + 1), by omega, g₃, tk₃, m₂, news₂, i + 1, rfl, ?_, hl₃, F₃, fun p hp => N₃ p (List.mem_cons_of_mem _ hp), ho, hr, hkl₃, hlt, rfl⟩
      refine W.frame _ _ _ hst₂ fun b hb o e => ?_
      rcases hfp b hb with z | z
      · subst z
        have : o = oI := Option.some.inj (e.symm.trans hoI)
        subst this
        exact (N₃ _ (List.mem_cons_self ..)).1
      · subst z
        have : o = lo := Option.some.inj (e.symm.trans hl₂)
        subst this
        exact hl₃
    cases f with
    | ret v => exact h₃
    | brk => exact h₃
    | next => exact fin h₃
    | cont => exact fin h₃
  · have hin : i = n := by omega
    subst hin
    refine W.done _ _ _ hst' fun h₁ tk₁ hk₁ => ?_
    obtain ⟨F₁, N₁⟩ := next h₁ hk₁
    exact done m' news' h₁ tk₁ hJ F₁ N₁
end
end Mine
end
section
open PySem PySem.W PySem.W.X PySem.Calls PyProof.Rows
set_option Elab.async false
set_option maxRecDepth 100000
set_option maxHeartbeats 1000000
namespace Mine
local macro_rules | `(tactic| walk_at "eval Name") => `(tactic| (k_dflt (refine' ld ?k1 ?k2 ?_; (case k1 => k_asm); (case k2 => first | exact rfl | assumption); k_whole)))
theorem src_lt {n : Nat} {ws : List Nat} (hw : ∀ w ∈ ws, 0 < w ∧ w ≤ 20 ∧ n % w = 0) {p : Nat} (hp : p < n) : ws.foldr sg p < n := by
  induction ws with
  | nil => exact hp
  | cons w ws ih => exact sg_lt (hw w (List.mem_cons_self ..)).1 (hw w (List.mem_cons_self ..)).2.2 (ih fun v hv => hw v (List.mem_cons_of_mem _ hv))
theorem round_call {w : World} {A : Around} {s : Shared} {mean : ExcName → Option Value} {mg mb : Str → Option Value} {Q E : Value → Shared → Prop}
    {data : Array UInt8} {l : Addr} {items : Array Value} {ep : Nat} {ws : List Nat} {t1 : Tok} (hsz : data.size ≤ 20) (hh : A.handled = none)
    (hl : s.heap.get? l = some { cls := .type "list", data := .seq items ep }) (hi : IntsAre items.toList (ws.map fun (k : Nat) => (k : Int))) (hw : ∀ v ∈ ws, 0 < v ∧ v ≤ 20 ∧ data.size % v = 0)
    (X : Frag.In (Mine.hd.heap_39 w.params) s.heap) (T : Top Mine.hd.view_39 (looseW Mine.hd.view_39 [Str.ofString "_NodeInfo"]) mean mg mb s.heap)
    (hdp : A.depth + 20 < recursionLimit) (hun : A.units + 200 < cLine)
    (ret : ∀ h' tk r tr, s.heap.StaysIn h' → r.size = data.size → (∀ p, p < data.size → r[p]? = data[ws.foldr sg p]?) → Q (.bytes r tr) { s with heap := h', toks := tk }) :
    wpC (model PySem.Challenge.rw_nb0242_01.row.prog w) A (call (.ref 155) [.bytes data t1, .ref l]) Q E s := by
  revert X T; w_top off; k_fill; intro X T
  obtain ⟨of, fdf, hof, hdf⟩ : ∃ o fd, s.heap.get? 28 = some o ∧ o.data = .func fd := ⟨_, _, X 28 _ (by k_is), rfl⟩
  refine wpC_call ?_
  refine codeC_call_def (binds := [(Str.ofString "row", .bytes data t1), (Str.ofString "widths", .ref l)]) (by omega) (X 155 _ (by k_is)) rfl T.nolimit (codeRec_of X (by k_is)) rfl (BindsTo.of_eq rfl) (by decide) (locs rfl) (fun h₁ hns keep => ?_) rfl rfl rfl
  have F : Fr s.heap s.heap.objs.size h₁ _ := ⟨hns, keep, Nat.le_refl _⟩
  have N : News s.heap s.heap.objs.size h₁ [] := News.nil
  have hlt : l < s.heap.objs.size := Heap.lt_size hl
  refine wpC_execs_cons (wpC_For ?_)
  k_steps
  rename Fr _ _ _ _ => F
  have hl₁ := F.keep _ _ hl
  have hlt₁ : l < h₁.objs.size := Heap.lt_size hl₁
  refine wpAny_pyIter_list ⟨_, hl₁, rfl, ep, rfl⟩ ?_
  dsimp only
  refine loopC (fp := [h₁.objs.size, l]) (l := l) (icls := .type "list_iterator") (fun i m news => ∃ r tr, news = [] ∧ m (Str.ofString "row") = some (.bytes r tr) ∧ r.size = data.size ∧ ∀ p, p < data.size → r[p]? = data[(ws.take i).foldr sg p]?)
    (Walks.list (A := A.deeper _) hh h₁.objs.size l (Nat.ne_of_lt hlt₁) items) rfl rfl (fun b hb => by simpa using hb) (fun i h st => ?_) (Heap.get?_push_of_some _ hl₁) ⟨⟨_, Heap.get?_push_size _ rfl, rfl, rfl⟩, ⟨_, Heap.get?_push_of_some _ hl₁, rfl, ep, rfl⟩⟩ (Nat.ne_of_lt hlt₁)
    (F.push _) (N.pushKeep _) F.fresh (Nat.ne_of_gt F.ns.lt) (Nat.ne_of_lt hlt) (fun _ hp => nomatch hp) (.inl hl) ⟨_, _, rfl, rfl, rfl, fun p _ => rfl⟩ ?_ ?_
  · obtain ⟨o, ho, hc, _⟩ := st.1
    exact ⟨o, ho, hc⟩
  · intro i v m₁ news₁ h tk oI hin hv hp1 hoff hlh hcls F₁ N₁
    refine hide fun G' back' => ?_
    obtain ⟨r, tr, rfl, hr1, hr2, hr3⟩ := hp1
    refine back' ?_
    clear back' G'
    refine hideC fun Q₃ back₃ => ?_
    refine hide fun G' back' => ?_
    obtain ⟨k, tkk, rfl, hk⟩ := IntsAre.at hi i v (by simpa using hv)
    refine back' ?_
    clear back' G'
    rw [List.getElem?_map] at hk
    obtain ⟨wd, hwd, rfl⟩ := Option.map_eq_some_iff.mp hk
    have hwm := hw wd (List.mem_of_getElem? hwd)
    refine wpC_execs_cons (wpC_Assign_Name rfl (wpC_Call ?_))
    k_steps
    refine wpC_callWith_function (o := of) (fd := fdf) (x := eval _ _) (rest := [(false, eval _ _)]) rfl ?_
    refine wpC_spliced_cons (wpC_of ?_)
    k_steps
    refine wpC_spliced_cons (wpC_of ?_)
    k_steps
    rename Fr _ _ _ _ => F₂
    rename News _ _ _ _ => N₂
    have X₂ : Frag.In (Mine.hd.heap_39 w.params) h := X.keeps F₂.keep
    have T₂ : Top Mine.hd.view_39 (looseW Mine.hd.view_39 [Str.ofString "_NodeInfo"]) mean mg mb h := T.keeps F₂.keep
    refine wpC_spliced_nil ⟨⟨F₂.keep _ _ hof, hdf⟩, ?_⟩
    refine swap_call (by omega) hwm.1 hwm.2.1 (by rw [hr2]; exact hwm.2.2) hh X₂ T₂ (by show A.depth + 1 + 10 < _; omega) (by show A.units + 3 + 100 < _; omega) fun h' tk' r' tr' st hs1 hs2 => ?_
    have F₃ := F₂.keeps st
    have N₃ := N₂.keeps st
    clear F₂ N₂
    k_steps
    rename Fr _ _ _ _ => F₄
    rename News _ _ _ _ => N₄
    refine wpC_of (wpAny_execs_nil ?_)
    refine back₃ _ _ ?_
    refine ⟨_, _, _, [], rfl, F₄, N₄, (fun _ hp => nomatch hp), ⟨r', tr', rfl, rfl, by rw [hs1, hr2], fun p hp => ?_⟩, .inl hl⟩
    have hp' : p < r.size := by rw [hr2]; exact hp
    rw [hs2 p hp', hr3 _ (by rw [← hr2]; exact sg_lt hwm.1 (by rw [hr2]; exact hwm.2.2) hp'), List.take_add_one, hwd]
    simp
  · intro m₁ news₁ h tk hp1 F₁ N₁
    refine hide fun G' back' => ?_
    obtain ⟨r, tr, rfl, hr1, hr2, hr3⟩ := hp1
    refine back' ?_
    clear back' G'
    refine wpC_of ?_
    k_steps
    rename Fr _ _ _ _ => F₂
    have hlen : items.size = ws.length := by have := hi.length; simpa using this
    rw [hlen, List.take_length] at hr3
    exact ret _ _ _ _ F₂.keep hr2 hr3
end Mine
end
section
open PySem PySem.W PySem.W.X PySem.Calls PyProof.Rows
set_option Elab.async false
set_option maxRecDepth 100000
set_option maxHeartbeats 1000000
namespace Mine
section
variable {prog : Program} {w : World} {A : Around} {E : Value → Shared → Prop} {s : Shared} {R : Result → Shared → Prop}
theorem codeC_call_cells {a : Addr} {o : Obj} {fd : FuncData} {body : List Stmt} {vals : List Value} {binds : List (Str × Value)}
    (hroom : A.depth < recursionLimit) (ho : s.heap.get? a = some o) (hdata : o.data = .func fd) (hlim : s.heap.NoLimit) (hcd : s.heap.CodeRec fd.code fd.qualname)
    (hbody : fd.body = .stmts body) (hbind : bindArgs fd ⟨vals, []⟩ = pure binds) (hclo : fd.closure = [])
    (hkind : ∀ x ∈ binds, fd.scope.names.lookup x.1 = some .local ∨ (fd.scope.names.lookup x.1 = some .cell ∧ ((cellsFrom (s.heap.objs.size + 1) fd.scope.names []).lookup x.1).isSome = true))
    (hnd : ((cellsFrom 0 fd.scope.names []).map (·.1)).Nodup)
    (h : ∀ h₁ tk cells, Fr s.heap s.heap.objs.size h₁ (bindL (callEnvC fd s.heap.objs.size a).kindOf binds fun _ => none) → News s.heap s.heap.objs.size h₁ cells →
      CellsAre (bindC (callEnvC fd s.heap.objs.size a).kindOf binds fun _ => none) (cellsFrom (s.heap.objs.size + 1) fd.scope.names []) cells →
      wpC (model prog w) (A.deeper (callEnvC fd s.heap.objs.size a)) (execs body (callEnvC fd s.heap.objs.size a)) (fun f s' => R (.ok (.ret (match f with | .ret v => v | _ => .none))) s') (fun _ _ => False) { s with heap := h₁, toks := tk })
    (hco : fd.scope.isCoroutine = false := by rfl) (hgen : fd.scope.isGenerator = false := by rfl) (hk : fd.scope.kind = .function := by rfl) :
    codeC (model prog w) A (.call (.ref a) ⟨vals, []⟩) R s := by
  refine codeC_of_tree rfl ?_
  show wpC _ A.in1 (callAny (.ref a) ⟨vals, []⟩) _ _ s
  simp only [callAny]
  refine wpC_bindA (wpAny_load ho ?_)
  obtain ⟨c, oc, vs, tq, hc, hoc, hdc, hq⟩ := hcd
  simp only [hdata, callFunction, hco, hgen, hbody, hc]
  refine wpC_bindA (m := field (.ref c) 1) (wpAny_field hoc hdc hq (wpC_bindA (wpAny_pure ?_)))
  refine wpC_bindA ?_
  rw [hbind]
  refine wpAny_pure ?_
  rw [← hc, hclo]
  refine wpC_bindA (wpAny_newFunctionEnv_cells hk hkind fun env he s' x => ?_)
  subst he
  obtain ⟨h₁, tk, rfl, _⟩ := x.done
  obtain ⟨cells, N, Y⟩ := Cl.news (h₀ := s.heap) (h := h₁) (L := s.heap.objs.size) (Nat.le_refl _) fun n c hm => ⟨x.cell n c (lookup_of_mem_nodup (cellsFrom_names fd.scope.names 0 (s.heap.objs.size + 1) [] [] rfl ▸ hnd) hm), x.above n c hm⟩
  refine wpC_bindA (wpAny_enterFrame (hlim.keeps x.toInCall.keep) hroom (wpC_pure ⟨rfl, codeC_func (wpC_mono (h h₁ tk cells ⟨x.toInCall.ns, x.toInCall.keep, x.toInCall.fresh⟩ N Y) (fun _ _ z => z) fun _ _ z => z.elim)⟩))
end
end Mine
end
section
open PySem PySem.W PySem.W.X PySem.Calls PyProof.Rows
set_option Elab.async false
set_option maxRecDepth 100000
set_option maxHeartbeats 1000000
namespace Mine
section
variable {H h h' G : Heap} {L : Addr} {m : Str → Option Value} {env : Env} {own ext news : List (Addr × Obj)}
theorem frs_one {b : Addr} (hf : env.frame = some L) (hb : b ∈ frs [env]) : b = L := by
  obtain ⟨e, he, hfe⟩ := List.mem_filterMap.mp hb
  rw [List.mem_singleton.mp he, hf] at hfe
  exact (Option.some.inj hfe).symm
/-- objects made behind s.heap stand beside the frame -/
theorem news_nb (F : Fr H L h m) (N : NB h h' own) : News H L h' own := fun p hp => by
  obtain ⟨oL, _, _, hL, _⟩ := F.ns
  refine ⟨(N p hp).1, fun e => ?_, ?_⟩
  · have := (N p hp).2
    rw [e, hL] at this; cases this
  · cases e : H.get? p.1 with
    | none => rfl
    | some o => have := F.keep _ _ e; rw [(N p hp).2] at this; cases this
theorem news_app (N₁ : News H L h own) (N₂ : News H L h ext) : News H L h (own ++ ext) := fun p hp => (List.mem_append.mp hp).elim (N₁ p) (N₂ p)
theorem off_nb (N : NB h h' own) (hE : ∀ p ∈ ext, h.get? p.1 = some p.2) : Off own ext := fun p hp q => by
  obtain ⟨p', hp', e⟩ := List.mem_map.mp q
  have := (N p' hp').2
  rw [e, hE p hp] at this; cases this
theorem reground1 (hf : env.frame = some L) (F : Fr H L G m) (N : News H L G ext) {g' : Heap} (T : KtsTurn (frs [env]) G g') (st : g'.StaysIn h') : Fr H L h' m ∧ News H L h' ext := by
  obtain ⟨oL, es, ep, hL, hLd, hLk, hLf⟩ := F.ns
  obtain ⟨sl, hs⟩ := T.up hL
  have hH : H.get? L = none := kts_self F
  refine ⟨⟨⟨_, es, ep, st _ _ hs, hLd, hLk, hLf⟩, fun b o e => st _ _ (T.other _ _ (F.keep b o e) fun q => ?_), F.above⟩, fun p hp => ⟨st _ _ (T.other _ _ (N p hp).1 fun q => (N p hp).2.1 (frs_one hf q)), (N p hp).2⟩⟩
  rw [frs_one hf q, hH] at e; cases e
end
section
variable {w : World} {mean : ExcName → Option Value} {mg mb : Str → Option Value} {A : Around} {s : Shared} {Q E : Value → Shared → Prop} {H : Heap} {L : Addr} {m : Str → Option Value} {env : Env}
    {sa : Addr} {rv pv fv : Value} {gr : Gr} {own ext : List (Addr × Obj)}
theorem find_law (hh : A.handled = none) (B : Below callerA H [] H) (F : Fr H L s.heap m) (hA : A.frames = some [env]) (hf : env.frame = some L) (hke : env.scope.kind = .function)
    (X : Frag.In (Mine.hd.heap_39 w.params) H) (T : Top Mine.hd.view_39 (looseW Mine.hd.view_39 [Str.ofString "_NodeInfo"]) mean mg mb H)
    (N : News H L s.heap (own ++ ext)) (S : SoL w sa rv pv fv gr own) (off : Off own ext) {fuel : Nat} {res : Option (List Int)} (hfind : findP gr fuel = some res) (hgl : gr.length ≤ 100)
    (hdp : A.depth + 60 < 1000) (hun : A.units + 600 < 9900)
    (ret0 : res = none → ∀ h' tk, Fr H L h' m → News H L h' ext → Q .none { s with heap := h', toks := tk })
    (ret1 : ∀ r, res = some r → ∀ h' tk c its n, Fr H L h' m → News H L h' ((c, W.listOf its n) :: ext) → IntsAre its.toList r → (∀ p ∈ ext, p.1 ≠ c) → Q (.ref c) { s with heap := h', toks := tk }) :
    wpAny (model PySem.Challenge.rw_nb0242_01.row.prog w) A (call (.ref 134) [.ref sa]) Q E s := by
  have No : News H L s.heap own := fun p hp => N p (List.mem_append_left _ hp)
  have Ne : News H L s.heap ext := fun p hp => N p (List.mem_append_right _ hp)
  obtain ⟨FG, BG, st, _⟩ := groundX (R := fun _ _ => True) B F No hA hf hke
  have NG : News H L (hideAll s.heap (own.map (·.1))) ext := fun p hp => ⟨hideAll_get _ (Ne p hp).1 (off p hp), (Ne p hp).2⟩
  obtain ⟨oL, es, ep, hL, hLd, hLk, hLf⟩ := id FG.ns
  have DG : KtsDicts (frs [env]) (hideAll s.heap (own.map (·.1))) := fun b hb => by
    rw [frs_one hf hb]
    exact ⟨oL, es, ep, hL, hLd⟩
  refine find_call hh BG X T DG (fun b o e => of_hideAll _ e) (Nat.le_of_eq (hideAll_size _ _)) (fun p hp => ⟨(No p hp).1, hideAll_none _ (List.mem_map_of_mem hp)⟩) S hfind hgl hdp hun ?_ ?_
  · intro hr h' tk g' KT st' nb
    obtain ⟨F₁, N₁⟩ := reground1 hf FG NG KT st'
    exact ret0 hr h' tk F₁ N₁
  · intro r hr h' tk g' c its n KT st' nb hc hi hgc hoc
    obtain ⟨F₁, N₁⟩ := reground1 hf FG NG KT st'
    have hcn : ∀ b o, (hideAll s.heap (own.map (·.1))).get? b = some o → b ≠ c := fun b o e q => by
      obtain ⟨sl, hs⟩ := KT.up e
      rw [q, hgc] at hs; cases hs
    refine ret1 r hr h' tk c its n F₁ (fun p hp => ?_) hi fun p hp => hcn _ _ (NG p hp).1
    rcases List.mem_cons.mp hp with rfl | hp
    · refine ⟨hc, fun q => hcn L oL hL q.symm, ?_⟩
      cases e : H.get? c with
      | none => rfl
      | some o => exact absurd rfl (hcn c o (FG.keep _ _ e))
    · exact N₁ p hp
theorem told_law {p f : Int} {pt ft : Tok} (hh : A.handled = none) (B : Below callerA H [] H) (F : Fr H L s.heap m) (hA : A.frames = some [env]) (hf : env.frame = some L) (hke : env.scope.kind = .function)
    (X : Frag.In (Mine.hd.heap_39 w.params) H) (T : Top Mine.hd.view_39 (looseW Mine.hd.view_39 [Str.ofString "_NodeInfo"]) mean mg mb H)
    (N : News H L s.heap (own ++ ext)) (S : SoL w sa .none (.int p pt) (.int f ft) gr own) (off : Off own ext) {fuel : Nat} {res : Option (List Int)} (hfind : findP gr fuel = some res) (hgl : gr.length ≤ 100) (hrl : ∀ r, res = some r → r.length ≤ 1000)
    (hk : -1 ∈ gr.map (·.1)) (hrn : (readyP gr).length ≤ 100) (hnp : npOf (outP gr (readyP gr)) (-1) = -1) (hsu : ∀ j ∈ sucOf (outP gr (readyP gr)) (-1), j ∈ gr.map (·.1)) (hsl : (sucOf (outP gr (readyP gr)) (-1)).length ≤ 100)
    {ns₂ : List Int} (hd2 : (doneP (outP gr (readyP gr)) (-1) []).2 = ns₂) (hd3 : ∀ k ∈ ns₂, k ∈ gr.map (·.1)) (hd4 : ns₂.length ≤ 100)
    (hdp : A.depth + 100 < 1000) (hun : A.units + 1000 < 9900)
    (ret : ∀ h' tk la ringV ta vs tb us rx, Fr H L h' m → News H L h' (((la, W.listOf #[ringV, refOf res, .ref ta, .ref tb] 0) :: (tb, tupV us) :: (ta, tupV vs) :: rx) ++ ext) → IntsAre vs (readyP gr) → IntsAre us ns₂ → RingR res ringV rx → Q (.ref la) { s with heap := h', toks := tk }) :
    wpAny (model PySem.Challenge.rw_nb0242_01.row.prog w) A (call (.ref 176) [.ref sa]) Q E s := by
  have No : News H L s.heap own := fun p hp => N p (List.mem_append_left _ hp)
  have Ne : News H L s.heap ext := fun p hp => N p (List.mem_append_right _ hp)
  obtain ⟨FG, BG, st, _⟩ := groundX (R := fun _ _ => True) B F No hA hf hke
  have NG : News H L (hideAll s.heap (own.map (·.1))) ext := fun p hp => ⟨hideAll_get _ (Ne p hp).1 (off p hp), (Ne p hp).2⟩
  obtain ⟨oL, es, ep, hL, hLd, hLk, hLf⟩ := id FG.ns
  have DG : KtsDicts (frs [env]) (hideAll s.heap (own.map (·.1))) := fun b hb => by
    rw [frs_one hf hb]
    exact ⟨oL, es, ep, hL, hLd⟩
  refine told_call hh BG X T DG (fun b o e => of_hideAll _ e) (Nat.le_of_eq (hideAll_size _ _)) (fun p hp => ⟨(No p hp).1, hideAll_none _ (List.mem_map_of_mem hp)⟩) S hfind hgl hrl hk hrn hnp hsu hsl hd2 hd3 hd4 hdp hun ?_
  intro h' tk g' la ringV ta vs tb us rx KT st' nb hvs hus hRR
  obtain ⟨F₁, N₁⟩ := reground1 hf FG NG KT st'
  refine ret h' tk la ringV ta vs tb us rx F₁ (news_app (fun p hp => ⟨(nb p hp).1, fun q => ?_, ?_⟩) N₁) hvs hus hRR
  · obtain ⟨sl, hs⟩ := KT.up hL
    have := (nb p hp).2
    rw [q, hs] at this; cases this
  · cases e : H.get? p.1 with
    | none => rfl
    | some o =>
      obtain ⟨sl, hs⟩ := KT.up (FG.keep _ _ e)
      have := (nb p hp).2
      rw [hs] at this; cases this
end
end Mine
end
section
open PySem PySem.W PySem.W.X PySem.Calls PyProof.Rows
set_option Elab.async false
set_option maxRecDepth 100000
set_option maxHeartbeats 1000000
namespace Mine
/-- ints that a comprehension can take -/
inductive Src (h : Heap) : Value → List Int → Prop
  | range {r : Addr} {a b : Int} {n : Nat} {t u v : Tok} : IsRange h r a b 1 t u v → Builtin.Range.small a b 1 = true → Builtin.Range.rangeSize a b 1 = (n : Int) → Src h (.ref r) ((List.range n).map fun i : Nat => a + (i : Int))
  | list {l : Addr} {vs : List Value} {xs : List Int} : h.IsList l vs.toArray → IntsAre vs xs → Src h (.ref l) xs
  | bytes {b : Array UInt8} {t : Tok} : Src h (.bytes b t) (KBw.bInts b)
theorem ints_at' {vs : List Value} {ns : List Int} (h : IntsAre vs ns) : ∀ {i : Nat} {v : Value}, vs[i]? = some v → ∃ n t, ns[i]? = some n ∧ v = .int n t := by
  induction h with
  | nil => intro i v h; simp at h
  | cons n t _ ih =>
    intro i v h
    cases i with
    | zero => simp only [List.getElem?_cons_zero, Option.some.injEq] at h; exact ⟨_, _, by simp, h.symm⟩
    | succ i => rw [List.getElem?_cons_succ] at h; obtain ⟨a, b, c, d⟩ := ih h; exact ⟨a, b, by rw [List.getElem?_cons_succ]; exact c, d⟩
section
variable {prog : Program} {w : World} {A : Around} {E : Value → Shared → Prop} {s : Shared}
theorem src_iter {xv : Value} {xs : List Int} {Q : Value → Shared → Prop} (hh : A.handled = none) (S : Src s.heap xv xs)
    (h : ∀ oI fp St, Walks prog w A s.heap.objs.size fp [s.heap.objs.size] xs.length (fun i v => ∃ x t, xs[i]? = some x ∧ v = .int x t) St → St 0 (s.heap.push oI) → (∀ b ∈ fp, b < (s.heap.push oI).objs.size) → Q (.ref s.heap.objs.size) { s with heap := s.heap.push oI }) :
    wpAny (model prog w) A (pyIter xv) Q E s := by
  have hz : ∀ o : Obj, (s.heap.push o).objs.size = s.heap.objs.size + 1 := fun o => Heap.size_push _ _
  cases S with
  | @range r a b n t u v hr hsm hn =>
    refine wpAny_pyIter_range hr hsm ?_
    have W := LCg.range_walks (prog := prog) (w := w) (A := A) (I := s.heap.objs.size) hh a n
    refine h _ [s.heap.objs.size] (fun i h => IsRangeIter h s.heap.objs.size (a + (i : Nat) * 1) ((n : Int) - (i : Nat)) 1) ?_ (by show IsRangeIter _ _ _ _ _; rw [hn]; simpa using Heap.get?_push_size _ rfl) (fun b hb => by rw [List.mem_singleton.mp hb, hz]; exact Nat.lt_succ_self _)
    have hl : ((List.range n).map fun i : Nat => a + (i : Int)).length = n := by simp
    rw [hl]
    exact { sub := W.sub, frame := W.frame, done := W.done, self := W.self, item := fun i s Q E hi st hQ => W.item i s Q E hi st fun v h' tk hP => hQ v h' tk (by
      obtain ⟨t, rfl⟩ := hP
      exact ⟨_, t, by rw [List.getElem?_map, List.getElem?_range hi]; rfl, rfl⟩) }
  | @list l vs xs hl hi =>
    refine wpAny_pyIter_list hl ?_
    have hlt : l < s.heap.objs.size := by obtain ⟨_, e, _⟩ := hl; exact Heap.lt_size e
    have W := Walks.list (prog := prog) (w := w) hh s.heap.objs.size l (Nat.ne_of_lt hlt) vs.toArray
    refine h _ [s.heap.objs.size, l] (fun i h => h.IsListIter s.heap.objs.size l i ∧ h.IsList l vs.toArray) ?_ ⟨⟨_, Heap.get?_push_size _ rfl, rfl, rfl⟩, hl.push _⟩ (fun b hb => ?_)
    · have hlen : vs.toArray.size = xs.length := by rw [List.size_toArray, hi.length]
      rw [← hlen]
      exact { sub := W.sub, frame := W.frame, done := W.done, self := W.self, item := fun i s Q E hi' st hQ => W.item i s Q E hi' st fun v h' tk hP => hQ v h' tk (by
        have hP : vs.toArray[i]? = some v := hP
        obtain ⟨x, t, h1, h2⟩ := ints_at' hi (by simpa using hP)
        exact ⟨x, t, h1, h2⟩) }
    · rw [hz]
      rcases List.mem_cons.mp hb with rfl | hb
      · exact Nat.lt_succ_self _
      · rw [List.mem_singleton.mp hb]; exact Nat.lt_succ_of_lt hlt
  | @bytes b t =>
    refine KBw.pyIter_bytes ?_
    have W := KBw.walks (prog := prog) (w := w) (A := A) hh s.heap.objs.size b t
    refine h _ [s.heap.objs.size] (fun i h => KBw.IsBytesIter h s.heap.objs.size b t i) ?_ ⟨_, Heap.get?_push_size _ rfl, rfl, rfl⟩ (fun b hb => by rw [List.mem_singleton.mp hb, hz]; exact Nat.lt_succ_self _)
    rw [KBw.ints_length]
    exact { sub := W.sub, frame := W.frame, done := W.done, self := W.self, item := fun i s Q E hi st hQ => W.item i s Q E hi st fun v h' tk hP => hQ v h' tk (by
      obtain ⟨c, u, h1, h2⟩ := hP
      exact ⟨_, u, KBw.ints_get h1, h2⟩) }
end
noncomputable def pOf (pz : Int → Bool) (v : Value) : Bool := match v with | .int x _ => pz x | _ => false
def fOf (fz : Int → Int) (v y : Value) : Prop := ∃ x t u, v = .int x t ∧ y = .int (fz x) u
theorem pair_ints {pz : Int → Bool} {fz : Int → Int} : ∀ {vs ys : List Value} {xs : List Int}, IntsAre vs xs → Paired (fOf fz) (vs.filter (pOf pz)) ys → IntsAre ys ((xs.filter pz).map fz) := by
  intro vs ys xs h
  induction h generalizing ys with
  | nil => intro p; cases p; exact .nil
  | cons n t _ ih =>
    intro p
    rw [List.filter_cons] at p
    rw [List.filter_cons]
    have e : pOf pz (.int n t) = pz n := rfl
    rw [e] at p
    cases hb : pz n with
    | true =>
      rw [hb, if_pos rfl] at p
      cases p with
      | cons a b =>
        obtain ⟨x, t', u, e1, rfl⟩ := a
        cases e1
        rw [if_pos rfl, List.map_cons]
        exact .cons _ _ (ih b)
    | false =>
      rw [hb, if_neg (by decide)] at p
      rw [if_neg (by decide)]
      exact ih p
theorem ints_of {xs : List Int} : ∀ {vs : List Value}, vs.length = xs.length → (∀ (j : Nat) (v : Value), vs[j]? = some v → ∃ x t, xs[j]? = some x ∧ v = Value.int x t) → IntsAre vs xs := by
  induction xs with
  | nil => intro vs h _; rw [List.length_eq_zero_iff.mp h]; exact .nil
  | cons x xs ih =>
    intro vs h hv
    cases vs with
    | nil => cases h
    | cons v vs =>
      obtain ⟨x', t, h1, rfl⟩ := hv 0 v rfl
      cases h1
      exact .cons _ _ (ih (by simpa using h) fun j v hj => hv (j + 1) v hj)
section
variable {prog : Program} {w : World} {A : Around} {E : Value → Shared → Prop} {s : Shared} {g : Heap} {L : Addr} {m : Str → Option Value} {env : Env} {news : List (Addr × Obj)} {scope : Scope} {cl : List (Str × Addr)} {x : Str} {ifs : List PySem.Expr} {elt : PySem.Expr} {xv : Value} {xs : List Int}
/-- the element and the test in the block's frame -/
def Quiet (prog : Program) (w : World) (A : Around) (g : Heap) (L : Addr) (m : Str → Option Value) (news : List (Addr × Obj)) (env : Env) (scope : Scope) (cl : List (Str × Addr)) (x : Str) (ifs : List PySem.Expr) (elt : PySem.Expr) (xs : List Int) (pz : Int → Bool) (fz : Int → Int) : Prop :=
  ∀ C oC m₃ (i : Nat) (k : Int) t hp gn dr tk os E', xs[i]? = some k → LCg.NsObj oC m₃ → m₃ x = some (.int k t) → Fr g L hp m → News g L hp ((C, oC) :: news) →
    wpAny (model prog w) A (forIn ifs true fun c r => if r = true then do let ok ← isTrue c (compEnvC scope cl C env) (eval c (compEnvC scope cl C env)); pure (ForInStep.yield ok) else pure (ForInStep.yield r)) (fun ok s₄ => ok = pz k ∧ Keeps ⟨hp, gn, dr, tk, os⟩ s₄) E' ⟨hp, gn, dr, tk, os⟩ ∧
    (pz k = true → wpAny (model prog w) A (eval elt (compEnvC scope cl C env)) (fun y s₄ => (∃ u, y = .int (fz k) u) ∧ Keeps ⟨hp, gn, dr, tk, os⟩ s₄) E' ⟨hp, gn, dr, tk, os⟩)
theorem comp_src {Q : Value → Shared → Prop} (pz : Int → Bool) (fz : Int → Int) (hh : A.handled = none) (S : Src s.heap xv xs) (hlen : xs.length ≤ 1000) (F : Fr g L s.heap m) (N : News g L s.heap news)
    (q : Quiet prog w A g L m news env scope cl x ifs elt xs pz fz)
    (fin : ∀ D h tk ys n, Fr g L h m → News g L h ((D, W.listOf ys n) :: news) → (∀ p ∈ news, p.1 ≠ D) → IntsAre ys.toList ((xs.filter pz).map fz) → Q (.ref D) { s with heap := h, toks := tk }) :
    wpAny (model prog w) A (pyIter xv) (fun it s₂ => ∃ I fp wr n P St, it = .ref I ∧ Walks prog w A I fp wr n P St ∧ n ≤ sizeLine ∧ St 0 s₂.heap ∧ (∀ b ∈ fp, b < s₂.heap.objs.size) ∧
      QuietOnC prog w A env scope cl x ifs elt wr P (pOf pz) (fOf fz) s₂ ∧
      (∀ D h' tk ys (vs : List Value), s₂.heap.get? D = none → h'.IsList D ys → h'.PlainList D ys → vs.length = n → (∀ j v, vs[j]? = some v → P j v) → Paired (fOf fz) (vs.filter (pOf pz)) ys.toList →
        (∀ b o, b ∉ wr → s₂.heap.get? b = some o → h'.get? b = some o) → Q (.ref D) { s₂ with heap := h', toks := tk })) E s := by
  refine src_iter hh S fun oI fp St W hst hfp => ?_
  have F₂ := F.push oI
  have N₂ := N.pushKeep oI
  have hIg : g.get? s.heap.objs.size = none := F.fresh
  have hIL : L ≠ s.heap.objs.size := Nat.ne_of_lt F.ns.lt
  refine ⟨_, fp, _, _, _, St, rfl, W, by rw [sizeLine_eq]; omega, hst, hfp, ⟨?_, ?_⟩, ?_⟩
  · rintro C i v s₃ m₃ E' hC ⟨k, t, hk, rfl⟩ hn hx hkeep -
    obtain ⟨oC, hoC, F₃, N₃⟩ := quiet_fr F₂ N₂ hIL hIg N.apart hC hn hkeep
    exact (q C oC m₃ i k t s₃.heap s₃.gens s₃.drawn s₃.toks s₃.os E' hk hoC hx F₃ N₃).1
  · rintro C i v s₃ m₃ E' hC ⟨k, t, hk, rfl⟩ hpv hn hx hkeep -
    obtain ⟨oC, hoC, F₃, N₃⟩ := quiet_fr F₂ N₂ hIL hIg N.apart hC hn hkeep
    refine wpAny_mono ((q C oC m₃ i k t s₃.heap s₃.gens s₃.drawn s₃.toks s₃.os E' hk hoC hx F₃ N₃).2 hpv) (fun y s₄ h => ⟨?_, h.2⟩) fun _ _ e => e
    obtain ⟨u, rfl⟩ := h.1
    exact ⟨k, t, u, rfl, rfl⟩
  · intro D h' tk ys vs hDn _ hpl hvl hvP hpair hkeep
    obtain ⟨n, F₃, N₃, hoD⟩ := comp_fr F₂ N₂ hIL hIg N.apart hDn hpl hkeep
    exact fin D h' tk ys n F₃ N₃ hoD (pair_ints (ints_of hvl hvP) hpair)
theorem comp_srcA {y : Str} {Q : Flow → Shared → Prop} (pz : Int → Bool) (fz : Int → Int) (hh : A.handled = none) (hLe : env.locals = L) (S : Src s.heap xv xs) (hlen : xs.length ≤ 1000) (F : Fr g L s.heap m) (N : News g L s.heap news)
    (q : Quiet prog w A g L m news env scope cl x ifs elt xs pz fz)
    (fin : ∀ D h tk ys n, Fr g L h (fun z => if z = y then some (.ref D) else m z) → News g L h ((D, W.listOf ys n) :: news) → (∀ p ∈ news, p.1 ≠ D) → IntsAre ys.toList ((xs.filter pz).map fz) → Q .next { s with heap := h, toks := tk }) :
    wpAny (model prog w) A (pyIter xv) (fun it s₂ => ∃ I fp wr n P St m, it = .ref I ∧ Walks prog w A I fp wr n P St ∧ n ≤ sizeLine ∧ St 0 s₂.heap ∧ (∀ b ∈ fp, b < s₂.heap.objs.size) ∧
      env.locals ∉ wr ∧ s₂.heap.Ns env.locals m ∧ QuietOnC prog w A env scope cl x ifs elt wr P (pOf pz) (fOf fz) s₂ ∧
      (∀ D h' tk ys (vs : List Value), s₂.heap.get? D = none → h'.IsList D ys → h'.PlainList D ys → vs.length = n → (∀ j v, vs[j]? = some v → P j v) → Paired (fOf fz) (vs.filter (pOf pz)) ys.toList →
        h'.Ns env.locals (fun z => if z = y then some (.ref D) else m z) → (∀ b o, b ≠ env.locals → b ∉ wr → s₂.heap.get? b = some o → h'.get? b = some o) → Q .next { s₂ with heap := h', toks := tk })) E s := by
  subst hLe
  refine src_iter hh S fun oI fp St W hst hfp => ?_
  have F₂ := F.push oI
  have N₂ := N.pushKeep oI
  have hIg : g.get? s.heap.objs.size = none := F.fresh
  have hIL : env.locals ≠ s.heap.objs.size := Nat.ne_of_lt F.ns.lt
  refine ⟨_, fp, _, _, _, St, m, rfl, W, by rw [sizeLine_eq]; omega, hst, hfp, by simpa using hIL, F₂.ns, ⟨?_, ?_⟩, ?_⟩
  · rintro C i v s₃ m₃ E' hC ⟨k, t, hk, rfl⟩ hn hx hkeep -
    obtain ⟨oC, hoC, F₃, N₃⟩ := quiet_fr F₂ N₂ hIL hIg N.apart hC hn hkeep
    exact (q C oC m₃ i k t s₃.heap s₃.gens s₃.drawn s₃.toks s₃.os E' hk hoC hx F₃ N₃).1
  · rintro C i v s₃ m₃ E' hC ⟨k, t, hk, rfl⟩ hpv hn hx hkeep -
    obtain ⟨oC, hoC, F₃, N₃⟩ := quiet_fr F₂ N₂ hIL hIg N.apart hC hn hkeep
    refine wpAny_mono ((q C oC m₃ i k t s₃.heap s₃.gens s₃.drawn s₃.toks s₃.os E' hk hoC hx F₃ N₃).2 hpv) (fun y s₄ h => ⟨?_, h.2⟩) fun _ _ e => e
    obtain ⟨u, rfl⟩ := h.1
    exact ⟨k, t, u, rfl, rfl⟩
  · intro D h' tk ys vs hDn _ hpl hvl hvP hpair hns hkeep
    obtain ⟨n, F₃, N₃, hoD⟩ := comp_frA F₂ N₂ hIL hIg N.apart hDn hpl hns hkeep
    exact fin D h' tk ys n F₃ N₃ hoD (pair_ints (ints_of hvl hvP) hpair)
end
end Mine
end
section
namespace Mine
noncomputable def sizeN (ns : List Int) : Nat := [20, 12, 15, 6].getD (((ns ++ [0]).getD 0 0) % 4).toNat 20
noncomputable def partsN (n : Nat) : List Nat := (List.range (n + 1)).filter fun w => decide (0 < w) && decide (n % w = 0)
noncomputable def widthsN (ns : List Int) : List Nat := ([((partsN (sizeN ns)).length / 2 : Int), ((partsN (sizeN ns)).length / 2 : Int) - 1] ++ (ns.drop 1).take 2).map fun x => (partsN (sizeN ns)).getD (x % ((partsN (sizeN ns)).length : Int)).toNat 0
noncomputable def srcN (ws : List Nat) (p : Nat) : Nat := ws.foldr sg p
noncomputable def cameN (n : Nat) (ws : List Nat) : List Int := (List.range n).map fun p => (srcN ws p : Int)
noncomputable def rangeI (n : Nat) : List Int := (List.range n).map fun i : Nat => (i : Int)
noncomputable def leftN (n : Nat) (cs : List Int) : List Int := (rangeI n).filter fun p => decide (cs.getD p.toNat 0 ≠ p)
noncomputable def keptN (n : Nat) (cs : List Int) : List Int := (rangeI n).filter fun p => decide (cs.getD p.toNat 0 = p)
noncomputable def ringN (cs : List Int) (p : Int) : Option (List Int) := ringGo cs p 30 [p, (cs.idxOf p : Int)]
noncomputable def multN (r d : Nat) : List Nat := (((List.range d).map (· + 1)).map (r * ·)).filter fun x => decide (x % d = 0)
noncomputable def minN (l : List Nat) : Nat := l.foldl min (l.headD 0)
noncomputable def loopP (cs : List Int) : Nat → List Int → Nat → Option Nat
  | _, [], r => some r
  | 0, _ :: _, _ => none
  | f + 1, p :: l, r => match ringN cs p with
    | none => none
    | some ring => if findP (sortP cs (p :: l)) 300 = some (some ring) ∧ p ∈ ring ∧ p ∈ cs ∧ ring.length ≤ 30 ∧ 2 ≤ ring.length ∧ 0 < r ∧ r ≤ 10000 then loopP cs f ((p :: l).filter fun q => decide (q ∉ ring)) (minN (multN r (ring.length - 1))) else none
noncomputable def iterN (ws : List Nat) : Nat → Nat → Nat
  | 0, p => p
  | k + 1, p => iterN ws k (srcN ws p)
noncomputable def isId (n : Nat) (ws : List Nat) (k : Nat) : Bool := (List.range n).all fun p => iterN ws k p == p
noncomputable def dueN (n : Nat) (cs : List Int) : Option (Option (List Int)) := match leftN n cs with
  | [] => some none
  | p :: _ => (ringN cs p).map some
noncomputable def okTold (n : Nat) (cs : List Int) : Bool :=
  let gr := sortP cs (rangeI n)
  match dueN n cs with
  | none => false
  | some res => decide (findP gr 300 = some res) && decide (gr.length ≤ 100) && decide (readyP gr = [-1]) && decide (npOf (outP gr [-1]) (-1) = -1) && decide (-1 ∈ gr.map (·.1)) &&
      (sucOf (outP gr [-1]) (-1)).all (fun j => decide (j ∈ gr.map (·.1))) && decide ((sucOf (outP gr [-1]) (-1)).length ≤ 100) && decide ((doneP (outP gr [-1]) (-1) []).2 = keptN n cs) && (keptN n cs).all (fun j => decide (j ∈ gr.map (·.1)))
noncomputable def okLoop (n : Nat) (ws : List Nat) (cs : List Int) : Bool :=
  match loopP cs 21 (leftN n cs) 1 with
  | none => false
  | some r => decide (0 < r) && decide (r ≤ 1000) && (List.range r).all fun k => isId n ws (k + 1) == decide (k + 1 = r)
noncomputable def okShape (n : Nat) (ws : List Nat) : Bool := okTold n (cameN n ws) && okLoop n ws (cameN n ws) && decide (findP (sortP (cameN n ws) (keptN n (cameN n ws))) 300 = some none)
noncomputable def extraN (n : Nat) : List (List Nat) := [[]] ++ (partsN n).map (fun a => [a]) ++ (partsN n).flatMap fun a => (partsN n).map fun b => [a, b]
noncomputable def baseN (n : Nat) : List Nat := [(partsN n).getD ((partsN n).length / 2) 0, (partsN n).getD ((partsN n).length / 2 - 1) 0]
noncomputable def shapesN (n : Nat) : List (List Nat) := (extraN n).map fun e => baseN n ++ e



end Mine
end
section
open PySem PySem.W PySem.W.X PySem.Calls PyProof.Rows
set_option Elab.async false
set_option maxRecDepth 100000
set_option maxHeartbeats 1000000
namespace Mine
section
variable {prog : Program} {w : World} {A : Around} {E : Value → Shared → Prop} {s : Shared}
theorem hint_bytes {b : Array UInt8} {t : Tok} {Q : Bool → Shared → Prop} (h : Q false s) : wpAny (model prog w) A (Builtin.List.listLengthHint (.bytes b t)) Q E s := by
  unfold Builtin.List.listLengthHint
  refine wpAny_bind (wpAny_specialOf (typeIs_bytes s b t) FB.slot_bytes_len.lookup ?_)
  generalize hid : ("bytes.__len__" : String) = id0
  wp_delta
  rw [show splitId id0 = some ("bytes", "__len__") from by subst hid; decide +kernel]
  subst hid
  refine wpAny_bind (wpAny_isInstance (T := "bytes") (b := true) (typeIs_bytes s b t) (by rw [isSubtype_type]; kernel_rfl) ?_)
  refine wpAny_ite_split (fun hab => absurd hab (by decide)) (fun _ => ?_)
  refine wpAny_ite_split (fun _ => ?_) (fun hab => absurd (by decide +kernel) hab)
  refine wpAny_bind (wpAny_typeOf (typeIs_bytes s b t) ?_)
  exact wpAny_pure h
theorem init_bytes {R : Result → Shared → Prop} (hh : A.handled = none) (x : Array UInt8) (t : Tok) (S : Addr) (hS : s.heap.get? S = some { cls := .type "list", data := .seq #[] })
    (hR : ∀ h' tk acc' c', (∀ b o, b ≠ S → s.heap.get? b = some o → h'.get? b = some o) → h'.get? S = some { cls := .type "list", dict := none, data := .seq acc' c', slots := #[] } →
      ItemsOf (fun i v => ∃ c u, x[i]? = some c ∧ v = .int (c.toNat : Int) u) acc' x.size → R (.ok (.ret .none)) { s with heap := h', toks := tk }) (hn : x.size ≤ sizeLine) :
    wpAny (model prog w) A.in1 (Builtin.«list.__init__» ⟨[.ref S, .bytes x t], []⟩)
      (fun fin s' => match fin with | .done f => R (.ok f) s' | .again c' => c'.quiet = true ∧ codeAny (model prog w) A c' R s') (fun e s' => R (.error e) s') s := by
  show wpAny _ _ (do let old ← Builtin.List.listItems (.ref S); Builtin.List.listUpdate (.ref S) (fun _ => #[]); letGo old.toList.reverse; Builtin.List.listExtendWith (.ref S) (.bytes x t) .none) _ _ s
  refine wpAny_bind ?_
  unfold Builtin.List.listItems
  refine wpAny_bind (wpAny_seqItems hS rfl (wpAny_pure ?_))
  show wpAny _ _ (updateSeq S (fun _ => #[]) >>= fun _ => letGo (#[] : Array Value).toList.reverse >>= fun _ => Builtin.List.listExtendWith (.ref S) (.bytes x t) .none) _ _ s
  refine wpAny_bind (wpAny_updateSeq hS rfl ?_)
  have hS₂ := Heap.get?_update_self (Obj.mapSeq (fun _ => (#[] : Array Value))) hS rfl
  have oth : ∀ b o, b ≠ S → s.heap.get? b = some o → (s.heap.update S (Obj.mapSeq (fun _ => (#[] : Array Value)))).get? b = some o :=
    fun b o hb e => (Heap.get?_update_other _ _ (Ne.symm hb)).trans e
  refine wpAny_bind (wpAny_letGo ?_)
  generalize hH : s.heap.update S (Obj.mapSeq (fun _ => (#[] : Array Value))) = H at hS₂ oth ⊢
  have hS₂ : H.get? S = some { cls := .type "list", data := .seq #[] 0 } := hS₂
  have hSI : S ≠ H.objs.size := Nat.ne_of_lt (Heap.lt_size hS₂)
  have hSf : S ∉ [H.objs.size] := fun hm => hSI (List.mem_singleton.mp hm)
  unfold Builtin.List.listExtendWith
  refine wpAny_bind (wpAny_typeOf (T := "bytes") (typeIs_bytes _ x t) ?_)
  have h1 : Builtin.List.listSameRef (.ref S) (.bytes x t) = false := rfl
  have h2 : (Value.type "bytes" == Value.type "list") = false := by decide
  have h3 : (Value.type "bytes" == Value.type "tuple") = false := by decide
  simp only [h1, h2, h3, Bool.or_false, Bool.false_eq_true, if_false]
  refine wpAny_bind (KBw.pyIter_bytes ?_)
  refine wpAny_bind (wpAny_holding (hint_bytes ?_))
  rw [if_neg (by decide)]
  refine wpAny_pure ⟨plainId_quiet PySem.F.plain_extend_loop _, codeAny_extend_loopS (KBw.walks (A := A.in1) hh H.objs.size x t).toS hn _ hSf _ x.size 0 _ _ _ rfl (Nat.zero_le _) ⟨_, Heap.get?_push_size _ rfl, rfl, rfl⟩ (Heap.get?_push_of_some _ hS₂) (ItemsOf.nil _) fun s' acc' c' hm hS' hacc => ?_⟩
  rw [Moved.eq_with hm]
  refine hR s'.heap s'.toks acc' c' (fun b ob hb e => hm.heap b ob (fun hmem => ?_) (Heap.get?_push_of_some _ (oth b ob hb e))) hS' hacc
  rcases List.mem_cons.mp hmem with e' | hmem
  · exact hb e'
  · exact absurd (Heap.lt_size (oth b ob hb e)) (by rw [List.mem_singleton.mp hmem]; exact Nat.lt_irrefl _)
theorem call_list_bytes {x : Array UInt8} {t : Tok} {Q : Value → Shared → Prop} (hh : A.handled = none) (hn : x.size ≤ 1000)
    (hQ : ∀ h' tk (vs : List Value) c', (∀ b o, s.heap.get? b = some o → h'.get? b = some o) → h'.get? s.heap.objs.size = some (W.listOf vs.toArray c') → IntsAre vs (KBw.bInts x) → Q (.ref s.heap.objs.size) { s with heap := h', toks := tk }) :
    wpAny (model prog w) A (call (.type "list") [.bytes x t]) Q E s := by
  refine callType_codes (Q₁ := fun obj s₁ => obj = .ref s.heap.objs.size ∧ s₁ = { s with heap := s.heap.push { cls := .type "list", data := .seq #[] } }) PySem.F.called_list (PySem.F.typeCall_list_1 _) PySem.F.entry_list_init
    (code_list_new _ ⟨rfl, rfl⟩) fun obj s₁ h₁ => ?_
  obtain ⟨rfl, rfl⟩ := h₁
  have hS : (s.heap.push { cls := .type "list", data := .seq #[] }).get? s.heap.objs.size = some { cls := .type "list", data := .seq #[] } := Heap.get?_push_size _ rfl
  refine ⟨⟨_, hS, rfl⟩, PySem.F.args_list_init_2 _ _, init_bytes (A := A.in1) hh x t _ hS (fun h' tk acc' c' hk hS' hacc => ?_) (by rw [sizeLine_eq]; omega)⟩
  refine ⟨rfl, hQ h' tk acc'.toList c' (fun b o e => hk b o (Nat.ne_of_lt (Heap.lt_size e)) (Heap.get?_push_of_some _ e)) (by rw [Array.toArray_toList]; exact hS') ?_⟩
  refine ints_of (by rw [Array.length_toList, KBw.ints_length]; exact hacc.1) fun j v e => ?_
  obtain ⟨c, u, h1, h2⟩ := hacc.2 j v (by rw [← Array.getElem?_toList]; exact e)
  exact ⟨_, u, KBw.ints_get h1, h2⟩
/-- list(range(n)) -/
theorem call_list_rng {r : Addr} {n : Nat} {t u v : Tok} {Q : Value → Shared → Prop} (hh : A.handled = none) (hr : IsRange s.heap r 0 n 1 t u v) (hn : n ≤ 20)
    (hQ : ∀ h' tk (vs : List Value) c', (∀ b o, s.heap.get? b = some o → h'.get? b = some o) → h'.get? s.heap.objs.size = some (W.listOf vs.toArray c') → IntsAre vs ((List.range n).map fun i : Nat => (i : Int)) → Q (.ref s.heap.objs.size) { s with heap := h', toks := tk }) :
    wpAny (model prog w) A (call (.type "list") [.ref r]) Q E s := by
  refine call_list_range (n := n) hh hr (small_le (c := 1) hn (by omega)) (size_one n) (by omega) fun h' tk acc' c' hk hD hacc => ?_
  refine hQ h' tk acc'.toList c' hk (by rw [Array.toArray_toList]; exact hD) ?_
  refine ints_of (by rw [Array.length_toList, List.length_map, List.length_range]; exact hacc.1) fun j v e => ?_
  have hj : j < n := by
    have := (List.getElem?_eq_some_iff.mp e).1
    rw [Array.length_toList, hacc.1] at this; exact this
  obtain ⟨t, rfl⟩ := hacc.2 j v (by rw [← Array.getElem?_toList]; exact e)
  exact ⟨(j : Int), t, by rw [List.getElem?_map, List.getElem?_range hj]; rfl, by rw [Int.mul_one, Int.zero_add]⟩
end
end Mine
end
section
open PySem PySem.W PySem.W.X PySem.Calls PyProof.Rows
set_option Elab.async false
set_option maxRecDepth 100000
set_option maxHeartbeats 1000000
namespace Mine
section
variable {prog : Program} {w : World} {A : Around} {s : Shared} {env : Env} {h₀ : Heap}
/-- a loop in the clean layer whose target is bound by hand -/
theorem loopC2 {Q : Flow → Shared → Prop} {target : PySem.Expr} {body : List Stmt} {I l : Addr} {lo : Obj} {fp : List Addr} {n : Nat} {P : Nat → Value → Prop} {icls : Value} {St : Nat → Heap → Prop} {m₀ : Str → Option Value} {news : List (Addr × Obj)} (Inv : Nat → (Str → Option Value) → List (Addr × Obj) → Prop)
    (W : Walks prog w A I fp [I] n P St) (ht : ∀ v, letOwnedTupleGo target (.ref I) v = pure ())
    (hfp : ∀ b ∈ fp, b = I ∨ b = l) (hIt : ∀ i h, St i h → ∃ o, h.get? I = some o ∧ o.cls = icls) (hlo : s.heap.get? l = some lo) (hst : St 0 s.heap) (hli : l ≠ I)
    (F : Fr h₀ env.locals s.heap m₀) (N : News h₀ env.locals s.heap news) (hnI : h₀.get? I = none) (hIL : I ≠ env.locals) (hnews : ∀ p ∈ news, p.1 ≠ I) (hk : h₀.get? l = some lo ∨ (l, lo) ∈ news)
    (h0 : Inv 0 m₀ news)
    (step : ∀ i v m₁ news₁ h tk oI, i < n → P i v → Inv i m₁ news₁ → (∀ p ∈ news₁, p.1 ≠ I) → (h₀.get? l = some lo ∨ (l, lo) ∈ news₁) → h.get? l = some lo → oI.cls = icls → Fr h₀ env.locals h m₁ → News h₀ env.locals h ((I, oI) :: news₁) →
      wpAny (model prog w) A (assign target env v) (fun _ s₂ => wpC (model prog w) A (execs body env) (UnrPost h₀ env.locals { s with heap := h, toks := tk } I oI (fun m' n' => Inv (i + 1) m' n' ∧ (h₀.get? l = some lo ∨ (l, lo) ∈ n')) Q) (fun _ _ => False) s₂) (fun _ _ => False) { s with heap := h, toks := tk })
    (done : ∀ m₁ news₁ h tk, Inv n m₁ news₁ → Fr h₀ env.locals h m₁ → News h₀ env.locals h news₁ → Q .next { s with heap := h, toks := tk }) :
    codeC (model prog w) A (.forLoop target (.ref I) body [] env) (fun r s' => match r with | .ok f => Q f s' | .error _ => False) s := by
  have old : ∀ b o, h₀.get? b = some o → b ≠ I := fun b o e hb => by rw [hb, hnI] at e; cases e
  refine codeC_forLoop
    (fun k s' => ∃ h' tk m' news' i, s' = { s with heap := h', toks := tk } ∧ St i h' ∧ h'.get? l = some lo ∧ Fr h₀ env.locals h' m' ∧ News h₀ env.locals h' news' ∧ (∀ p ∈ news', p.1 ≠ I) ∧ Inv i m' news' ∧ (h₀.get? l = some lo ∨ (l, lo) ∈ news') ∧ i ≤ n ∧ k = n + 1 - i) ?_ (n + 1)
    ⟨s.heap, s.toks, m₀, news, 0, rfl, hst, hlo, F, N, hnews, h0, hk, Nat.zero_le _, rfl⟩ ht
  intro k s' hp1
  refine hide fun G' back' => ?_
  obtain ⟨h', tk, m', news', i, rfl, hst', hlo', F', N', hnw', hJ, hkl, hi, rfl⟩ := hp1
  refine back' ?_
  clear back' G'
  have next : ∀ h₁ : Heap, (∀ b o, b ∉ [I] → h'.get? b = some o → h₁.get? b = some o) → Fr h₀ env.locals h₁ m' ∧ News h₀ env.locals h₁ news' := fun h₁ hk₁ =>
    ⟨⟨F'.ns.at' fun o e => hk₁ _ o (fun q => hIL (List.mem_singleton.mp q).symm) e, fun b o e => hk₁ b o (fun q => old b o e (List.mem_singleton.mp q)) (F'.keep b o e), F'.above⟩, fun p hp => ⟨hk₁ _ _ (fun q => hnw' p hp (List.mem_singleton.mp q)) (N' p hp).1, (N' p hp).2⟩⟩
  by_cases hlt : i < n
  · refine W.item i _ _ _ hlt hst' fun v h₁ tk₁ hP hst₁ hk₁ => ?_
    obtain ⟨F₁, N₁⟩ := next h₁ hk₁
    have hl₁ : h₁.get? l = some lo := hk₁ l lo (fun q => hli (List.mem_singleton.mp q)) hlo'
    obtain ⟨oI, hoI, hcI⟩ := hIt _ _ hst₁
    have N₂ : News h₀ env.locals h₁ ((I, oI) :: news') := fun p hp => by
      rcases List.mem_cons.mp hp with rfl | hp
      · exact ⟨hoI, hIL, hnI⟩
      · exact N₁ p hp
    refine wpAny_mono (step i v m' news' h₁ tk₁ oI hlt hP hJ hnw' hkl hl₁ hcI F₁ N₂) (fun _ s₂ hC => wpC_mono hC (fun f s₃ h₃ => ?_) fun _ _ e => e) fun _ _ e => e
    have fin : UnrEnd h₀ env.locals { s with heap := h₁, toks := tk₁ } I oI (fun m' n' => Inv (i + 1) m' n' ∧ (h₀.get? l = some lo ∨ (l, lo) ∈ n')) s₃ →
        ∃ m, m < n + 1 - i ∧ ∃ h' tk m' news' i, s₃ = { s with heap := h', toks := tk } ∧ St i h' ∧ h'.get? l = some lo ∧ Fr h₀ env.locals h' m' ∧ News h₀ env.locals h' news' ∧ (∀ p ∈ news', p.1 ≠ I) ∧ Inv i m' news' ∧ (h₀.get? l = some lo ∨ (l, lo) ∈ news') ∧ i ≤ n ∧ m = n + 1 - i := by
      intro hp1
      refine hide fun G' back' => ?_
      obtain ⟨g₃, tk₃, m₂, news₂, rfl, F₃, N₃, ho, hr, hkl₃⟩ := hp1
      refine back' ?_
      clear back' G'
      have hl₃ : g₃.get? l = some lo := by
        rcases hkl₃ with q | q
        · exact F₃.keep l lo q
        · exact (N₃ _ (List.mem_cons_of_mem _ q)).1
      refine ⟨n + 1 - (i + 1), by omega, g₃, tk₃, m₂, news₂, i + 1, rfl, ?_, hl₃, F₃, fun p hp => N₃ p (List.mem_cons_of_mem _ hp), ho, hr, hkl₃, hlt, rfl⟩
      refine W.frame _ _ _ hst₁ fun b hb o e => ?_
      rcases hfp b hb with z | z
      · subst z
        have : o = oI := Option.some.inj (e.symm.trans hoI)
        subst this
        exact (N₃ _ (List.mem_cons_self ..)).1
      · subst z
        have : o = lo := Option.some.inj (e.symm.trans hl₁)
        subst this
        exact hl₃
    cases f with
    | ret v => exact h₃
    | brk => exact h₃
    | next => exact fin h₃
    | cont => exact fin h₃
  · have hin : i = n := by omega
    subst hin
    refine W.done _ _ _ hst' fun h₁ tk₁ hk₁ => ?_
    obtain ⟨F₁, N₁⟩ := next h₁ hk₁
    exact done m' news' h₁ tk₁ hJ F₁ N₁
end
section
variable {M : Model} {A : Around} {E : Value → Shared → Prop} {s : Shared} {env : Env}
/-- if l op r: the left side in the clean layer, the rest by the plain rules -/
theorem wpC_If_cmp {l r : PySem.Expr} {op : CmpOp} {cp pos : Pos} {body orelse : List Stmt} {Q : Flow → Shared → Prop}
    (h : wpC M A (eval l env) (fun a s₁ => wpAny M A (eval r env) (fun b s₂ => wpAny M A (compareOp op a b) (fun c s₃ => wpAny M A (truthy c) (fun t s₄ => wpC M A (if t then execs body env else execs orelse env) Q E s₄) E s₃) E s₂) E s₁) E s)
    (hm : ∀ t, markedBehindIn op r t = t := by intro _; rfl) : wpC M A (exec (.If (.Compare l [op] [r] cp) body orelse pos) env) Q E s := by
  rw [exec_If, isTrue_Compare1]
  refine wpC_bindA (wpAny_standAt ?_)
  refine wpC_bind (wpC_bind (wpC_mono h (fun a s₁ h₁ => ?_) fun _ _ x => x))
  rw [hm]
  refine wpC_of ?_
  refine wpAny_bind (wpAny_holding (wpAny_mono h₁ (fun b s₂ h₂ => ?_) fun _ _ x => x))
  refine wpAny_bind (wpAny_standAt (wpAny_bind (wpAny_operateT (wpAny_mono h₂ (fun c s₃ h₃ => ?_) fun _ _ x => x))))
  exact wpAny_holding (wpAny_mono h₃ (fun t s₄ h₄ => by cases t <;> exact h₄) fun _ _ x => x)
end
end Mine
end
section
open PySem PySem.W PySem.W.X PySem.Calls PyProof.Rows
set_option Elab.async false
set_option maxRecDepth 100000
set_option maxHeartbeats 1000000
namespace Mine
section
variable {M : Model} {A : Around} {E : Value → Shared → Prop} {s : Shared} {env : Env}
theorem comp_first {e : PySem.Expr} {scope : Scope} {pos : Pos} {newAcc first : Sem Value} {use : Option (Value → Sem Unit)} : comprehension e scope env pos newAcc false first use = (first >>= fun x => comprehension e scope env pos newAcc false (pure x) use) := by
  unfold comprehension
  simp only [pure_bind]
theorem wpC_Assign_comp {elt iter : PySem.Expr} {x y : Str} {px py : Pos} {ifs : List PySem.Expr} {scope : Scope} {pos spos : Pos} {Q : Flow → Shared → Prop}
    (hsw : swapsWith (.ListComp elt [⟨.Name x px, iter, ifs, 0⟩] scope pos) (some (.Name y py)) spos.line env = pure true)
    (h : wpC M A (eval iter env) (fun xv s₁ => wpAny M A (comprehension (.ListComp elt [⟨.Name x px, iter, ifs, 0⟩] scope pos) scope env (firstIterPos [⟨.Name x px, iter, ifs, 0⟩] pos) (newList []) false (pure xv) (some (assign (.Name y py) env))) (fun _ s' => Q .next s') E s₁) E s) :
    wpC M A (exec (.Assign [.Name y py] (.ListComp elt [⟨.Name x px, iter, ifs, 0⟩] scope pos) spos) env) Q E s := by
  rw [exec_Assign_Name_used _ _ _ _ hsw]
  refine wpC_bindA (wpAny_standAt ?_)
  refine wpC_bind ?_
  show wpC _ A (do let _ ← comprehension (.ListComp elt [⟨.Name x px, iter, ifs, 0⟩] scope pos) scope env _ (newList []) false (eval iter env) (some (assign (.Name y py) env))) _ _ s
  refine wpC_bind ?_
  rw [comp_first]
  refine wpC_bind (wpC_mono h (fun xv s₁ h₁ => wpC_of (wpAny_mono h₁ (fun _ s' hq => ?_) fun _ _ e => e)) fun _ _ e => e)
  exact wpC_pure (wpC_pure hq)
end
section
variable {prog : Program} {w : World} {A : Around} {E : Value → Shared → Prop} {env : Env}
theorem comp_pure_use {s : Shared} {elt iter : PySem.Expr} {x y : Str} {px py : Pos} {ifs : List PySem.Expr} {scope : Scope} {cl : List (Str × Addr)} {pos cp : Pos} {Q : Flow → Shared → Prop} {xv : Value}
    (p : Value → Bool) (F : Value → Value → Prop)
    (hclos : closureFor scope env = pure cl) (hcell : ∀ z ∈ scope.names, z.2 ≠ .cell) (hkind : scope.kind = .function)
    (hnames : ∀ z ∈ scope.names, z.2 = .local → scope.names.lookup z.1 = some .local) (hx : scope.names.lookup x = some .local)
    (hy : env.kindOf y = some .local) (hp : (env.scope.kind == .class || (env.scope.kind == .module && env.locals != env.globals)) = false)
    (h : wpAny (model prog w) A (pyIter xv) (fun it s₂ => ∃ I fp wr n P St m, it = .ref I ∧ Walks prog w A I fp wr n P St ∧ n ≤ sizeLine ∧ St 0 s₂.heap ∧ (∀ b ∈ fp, b < s₂.heap.objs.size) ∧
      env.locals ∉ wr ∧ s₂.heap.Ns env.locals m ∧ QuietOnC prog w A env scope cl x ifs elt wr P p F s₂ ∧
      (∀ D h' tk ys (vs : List Value), s₂.heap.get? D = none → h'.IsList D ys → h'.PlainList D ys → vs.length = n → (∀ j v, vs[j]? = some v → P j v) → Paired F (vs.filter p) ys.toList →
        h'.Ns env.locals (fun z => if z = y then some (.ref D) else m z) → (∀ b o, b ≠ env.locals → b ∉ wr → s₂.heap.get? b = some o → h'.get? b = some o) → Q .next { s₂ with heap := h', toks := tk })) E s)
    (hs : ∀ x, foldedSetIterable iter env x = pure x := by intro _; rfl) :
    wpAny (model prog w) A (comprehension (.ListComp elt [⟨.Name x px, iter, ifs, 0⟩] scope pos) scope env cp (newList []) false (pure xv) (some (assign (.Name y py) env))) (fun _ s' => Q .next s') E s := by
  refine wpAny_comprehension_free (use := some (assign (.Name y py) env)) (Q := fun _ s' => Q .next s') rfl hs hclos hkind hnames (wpAny_pure (wpAny_mono h (fun it s₂ h₂ => ?_) fun _ _ e => e))
  obtain ⟨I, fp, wr, n, P, St, m, rfl, W, hsz, hst, hfp, hLf, hn, hq, hQ⟩ := h₂
  refine comp_block_walkC (RR := fun acc C => compPost (model prog w) A E (some (assign (.Name y py) env)) (fun _ s' => Q .next s') acc C) W hsz p F hcell hkind hx hst hfp hq ?_
  intro D C h' tk m' ys vs hD hC hDC hnC hlD hplD hlen hP hF hk
  have hLC : env.locals ≠ C := by rintro rfl; obtain ⟨o, _, _, ho, _⟩ := hn; rw [hC] at ho; cases ho
  have hLD : env.locals ≠ D := by rintro rfl; obtain ⟨o, _, _, ho, _⟩ := hn; rw [hD] at ho; cases ho
  show wpAny _ A (assign (.Name y py) env (.ref D)) _ _ _
  refine wpAny_assign_Name (wpAny_storeName_local hy (hn.at' fun o e => hk _ o hLf e) (fun h₂ hn₂ hs₂ => ?_) hp)
  refine ⟨m', hnC.sameBut hs₂ (Ne.symm hLC), fun h₃ hs₃ => ?_⟩
  exact hQ D h₃ _ ys vs hD ((hlD.extBut hs₂.extBut (Ne.symm hLD)).extBut hs₃.extBut hDC) ((hplD.extBut hs₂.extBut (Ne.symm hLD)).extBut hs₃.extBut hDC) hlen hP hF (hn₂.sameBut hs₃ hLC) fun b o hbL hbf e =>
    hs₃.extBut b o (by rintro rfl; rw [hC] at e; cases e) (hs₂.extBut b o hbL (hk b o hbf e))
end
end Mine
end
section
namespace Mine
structure ShapeF (n : Nat) (ws : List Nat) (res : Option (List Int)) (rr : Nat) : Prop where
  due : dueN n (cameN n ws) = some res
  find : findP (sortP (cameN n ws) (rangeI n)) 300 = some res
  len : (sortP (cameN n ws) (rangeI n)).length ≤ 100
  ready : readyP (sortP (cameN n ws) (rangeI n)) = [-1]
  np : npOf (outP (sortP (cameN n ws) (rangeI n)) [-1]) (-1) = -1
  mem : -1 ∈ (sortP (cameN n ws) (rangeI n)).map (·.1)
  suc : ∀ j ∈ sucOf (outP (sortP (cameN n ws) (rangeI n)) [-1]) (-1), j ∈ (sortP (cameN n ws) (rangeI n)).map (·.1)
  sucl : (sucOf (outP (sortP (cameN n ws) (rangeI n)) [-1]) (-1)).length ≤ 100
  done : (doneP (outP (sortP (cameN n ws) (rangeI n)) [-1]) (-1) []).2 = keptN n (cameN n ws)
  keptIn : ∀ j ∈ keptN n (cameN n ws), j ∈ (sortP (cameN n ws) (rangeI n)).map (·.1)
  loop : loopP (cameN n ws) 21 (leftN n (cameN n ws)) 1 = some rr
  pos : 0 < rr
  le : rr ≤ 1000
  last : ∀ k, k < rr → isId n ws (k + 1) = decide (k + 1 = rr)
  kept : findP (sortP (cameN n ws) (keptN n (cameN n ws))) 300 = some none
theorem shape_f {n : Nat} {ws : List Nat} (h : okShape n ws = true) : ∃ res rr, ShapeF n ws res rr := by
  unfold okShape at h
  rw [Bool.and_eq_true, Bool.and_eq_true] at h
  obtain ⟨⟨h1, h2⟩, h3⟩ := h
  unfold okTold at h1
  unfold okLoop at h2
  dsimp only at h1
  split at h1
  · cases h1
  · rename_i res hdue
    split at h2
    · cases h2
    · rename_i rr hloop
      simp only [Bool.and_eq_true, decide_eq_true_eq, List.all_eq_true] at h1 h2 h3
      obtain ⟨⟨⟨⟨⟨⟨⟨⟨a1, a2⟩, a3⟩, a4⟩, a5⟩, a6⟩, a7⟩, a8⟩, a9⟩ := h1
      obtain ⟨⟨b1, b2⟩, b3⟩ := h2
      exact ⟨res, rr, ⟨hdue, a1, a2, a3, a4, a5, a6, a7, a8, a9, hloop, b1, b2, fun k hk => by simpa using b3 k (List.mem_range.mpr hk), h3⟩⟩
end Mine
end
section
open PySem PySem.W PySem.W.X PySem.Calls PyProof.Rows
set_option Elab.async false
set_option maxRecDepth 100000
set_option maxHeartbeats 4000000
namespace Mine
def EndL (s₁ : Shared) (r : Result) (s' : Shared) : Prop := r = .ok (.ret (.bool true)) ∧ ∃ h tk L m, s' = { s₁ with heap := h, toks := tk } ∧ Fr s₁.heap L h m
noncomputable abbrev celL (L : Addr) (o1 o2 o3 o4 o5 o6 o7 o8 : Obj) (rest : List (Addr × Obj)) : List (Addr × Obj) := (L + 1 + 1 + 1 + 1 + 1 + 1 + 1 + 1, o8) :: (L + 1 + 1 + 1 + 1 + 1 + 1 + 1, o7) :: (L + 1 + 1 + 1 + 1 + 1 + 1, o6) :: (L + 1 + 1 + 1 + 1 + 1, o5) :: (L + 1 + 1 + 1 + 1, o4) :: (L + 1 + 1 + 1, o3) :: (L + 1 + 1, o2) :: (L + 1, o1) :: rest
/-- the cells of law's frame (script, size, parts, row, came, octets, rounds, ring) and the rest of the ledger -/
def CV (L : Addr) (v1 v2 v3 v4 v5 v6 v7 v8 : Option Value) (rest news : List (Addr × Obj)) : Prop :=
  ∃ o1 o2 o3 o4 o5 o6 o7 o8, news = celL L o1 o2 o3 o4 o5 o6 o7 o8 rest ∧ o1.data = .cell v1 ∧ o2.data = .cell v2 ∧ o3.data = .cell v3 ∧ o4.data = .cell v4 ∧ o5.data = .cell v5 ∧ o6.data = .cell v6 ∧ o7.data = .cell v7 ∧ o8.data = .cell v8
section
variable {M : Model} {A : Around} {E : Value → Shared → Prop} {s : Shared} {name : Str} {scope : Scope} {L a : Addr} {cd : Value} {H : Heap} {m : Str → Option Value} {rest : List (Addr × Obj)} {o1 o2 o3 o4 o5 o6 o7 o8 : Obj} {x : Str} {v : Value} {v₀ : Option Value} {Q : Unit → Shared → Prop}
/-- no cell -/
def NoCell (c : Addr) (rest : List (Addr × Obj)) : Prop := ∀ p ∈ rest, p.1 ≠ c ∨ ∀ u, p.2.data ≠ .cell u
theorem st3 (F : Fr H L s.heap m) (N : News H L s.heap (celL L o1 o2 o3 o4 o5 o6 o7 o8 rest)) (hd : o3.data = .cell v₀) (hr : NoCell (L + 1 + 1 + 1) rest)
    (h : ∀ h' o', Fr H L h' m → News H L h' (celL L o1 o2 o' o4 o5 o6 o7 o8 rest) → o'.data = .cell (some v) → Q () { s with heap := h' })
    (hc : (cellsFrom (L + 1) scope.names []).lookup x = some (L + 1 + 1 + 1)) (hk : scope.kind = .function) (hl : (envOfC name scope L a cd).kindOf x = some .cell) : wpAny M A (storeName (envOfC name scope L a cd) x v) Q E s := by
  refine stCN (own := [(L + 1 + 1 + 1 + 1 + 1 + 1 + 1 + 1, o8), (L + 1 + 1 + 1 + 1 + 1 + 1 + 1, o7), (L + 1 + 1 + 1 + 1 + 1 + 1, o6), (L + 1 + 1 + 1 + 1 + 1, o5), (L + 1 + 1 + 1 + 1, o4)]) (rest := [(L + 1 + 1, o2), (L + 1, o1)] ++ rest) F N hc hd ?_ ?_ (fun h' o' F' N' d' => h h' o' F' N' d') hk hl
  · intro p hp
    simp only [List.mem_cons, List.not_mem_nil, or_false] at hp
    rcases hp with rfl | rfl | rfl | rfl | rfl
    all_goals (show (@Ne Nat _ _); dsimp only; omega)
  · intro p hp
    rcases List.mem_append.mp hp with hp | hp
    · simp only [List.mem_cons, List.not_mem_nil, or_false] at hp
      rcases hp with rfl | rfl
      all_goals (show (@Ne Nat _ _); dsimp only; omega)
    · intro e
      have z := (N p (.tail _ (.tail _ (.tail _ (.tail _ (.tail _ (.tail _ (.tail _ (.tail _ (hp)))))))))).1
      have z2 := (N (L + 1 + 1 + 1, o3) (.tail _ (.tail _ (.tail _ (.tail _ (.tail _ (.head _))))))).1
      rw [e] at z
      have z3 : p.2 = o3 := Option.some.inj (z.symm.trans z2)
      exact (hr p hp).elim (fun z4 => z4 e) fun z4 => z4 v₀ (by rw [z3]; exact hd)
theorem st4 (F : Fr H L s.heap m) (N : News H L s.heap (celL L o1 o2 o3 o4 o5 o6 o7 o8 rest)) (hd : o4.data = .cell v₀) (hr : NoCell (L + 1 + 1 + 1 + 1) rest)
    (h : ∀ h' o', Fr H L h' m → News H L h' (celL L o1 o2 o3 o' o5 o6 o7 o8 rest) → o'.data = .cell (some v) → Q () { s with heap := h' })
    (hc : (cellsFrom (L + 1) scope.names []).lookup x = some (L + 1 + 1 + 1 + 1)) (hk : scope.kind = .function) (hl : (envOfC name scope L a cd).kindOf x = some .cell) : wpAny M A (storeName (envOfC name scope L a cd) x v) Q E s := by
  refine stCN (own := [(L + 1 + 1 + 1 + 1 + 1 + 1 + 1 + 1, o8), (L + 1 + 1 + 1 + 1 + 1 + 1 + 1, o7), (L + 1 + 1 + 1 + 1 + 1 + 1, o6), (L + 1 + 1 + 1 + 1 + 1, o5)]) (rest := [(L + 1 + 1 + 1, o3), (L + 1 + 1, o2), (L + 1, o1)] ++ rest) F N hc hd ?_ ?_ (fun h' o' F' N' d' => h h' o' F' N' d') hk hl
  · intro p hp
    simp only [List.mem_cons, List.not_mem_nil, or_false] at hp
    rcases hp with rfl | rfl | rfl | rfl
    all_goals (show (@Ne Nat _ _); dsimp only; omega)
  · intro p hp
    rcases List.mem_append.mp hp with hp | hp
    · simp only [List.mem_cons, List.not_mem_nil, or_false] at hp
      rcases hp with rfl | rfl | rfl
      all_goals (show (@Ne Nat _ _); dsimp only; omega)
    · intro e
      have z := (N p (.tail _ (.tail _ (.tail _ (.tail _ (.tail _ (.tail _ (.tail _ (.tail _ (hp)))))))))).1
      have z2 := (N (L + 1 + 1 + 1 + 1, o4) (.tail _ (.tail _ (.tail _ (.tail _ (.head _)))))).1
      rw [e] at z
      have z3 : p.2 = o4 := Option.some.inj (z.symm.trans z2)
      exact (hr p hp).elim (fun z4 => z4 e) fun z4 => z4 v₀ (by rw [z3]; exact hd)
theorem st5 (F : Fr H L s.heap m) (N : News H L s.heap (celL L o1 o2 o3 o4 o5 o6 o7 o8 rest)) (hd : o5.data = .cell v₀) (hr : NoCell (L + 1 + 1 + 1 + 1 + 1) rest)
    (h : ∀ h' o', Fr H L h' m → News H L h' (celL L o1 o2 o3 o4 o' o6 o7 o8 rest) → o'.data = .cell (some v) → Q () { s with heap := h' })
    (hc : (cellsFrom (L + 1) scope.names []).lookup x = some (L + 1 + 1 + 1 + 1 + 1)) (hk : scope.kind = .function) (hl : (envOfC name scope L a cd).kindOf x = some .cell) : wpAny M A (storeName (envOfC name scope L a cd) x v) Q E s := by
  refine stCN (own := [(L + 1 + 1 + 1 + 1 + 1 + 1 + 1 + 1, o8), (L + 1 + 1 + 1 + 1 + 1 + 1 + 1, o7), (L + 1 + 1 + 1 + 1 + 1 + 1, o6)]) (rest := [(L + 1 + 1 + 1 + 1, o4), (L + 1 + 1 + 1, o3), (L + 1 + 1, o2), (L + 1, o1)] ++ rest) F N hc hd ?_ ?_ (fun h' o' F' N' d' => h h' o' F' N' d') hk hl
  · intro p hp
    simp only [List.mem_cons, List.not_mem_nil, or_false] at hp
    rcases hp with rfl | rfl | rfl
    all_goals (show (@Ne Nat _ _); dsimp only; omega)
  · intro p hp
    rcases List.mem_append.mp hp with hp | hp
    · simp only [List.mem_cons, List.not_mem_nil, or_false] at hp
      rcases hp with rfl | rfl | rfl | rfl
      all_goals (show (@Ne Nat _ _); dsimp only; omega)
    · intro e
      have z := (N p (.tail _ (.tail _ (.tail _ (.tail _ (.tail _ (.tail _ (.tail _ (.tail _ (hp)))))))))).1
      have z2 := (N (L + 1 + 1 + 1 + 1 + 1, o5) (.tail _ (.tail _ (.tail _ (.head _))))).1
      rw [e] at z
      have z3 : p.2 = o5 := Option.some.inj (z.symm.trans z2)
      exact (hr p hp).elim (fun z4 => z4 e) fun z4 => z4 v₀ (by rw [z3]; exact hd)
theorem st6 (F : Fr H L s.heap m) (N : News H L s.heap (celL L o1 o2 o3 o4 o5 o6 o7 o8 rest)) (hd : o6.data = .cell v₀) (hr : NoCell (L + 1 + 1 + 1 + 1 + 1 + 1) rest)
    (h : ∀ h' o', Fr H L h' m → News H L h' (celL L o1 o2 o3 o4 o5 o' o7 o8 rest) → o'.data = .cell (some v) → Q () { s with heap := h' })
    (hc : (cellsFrom (L + 1) scope.names []).lookup x = some (L + 1 + 1 + 1 + 1 + 1 + 1)) (hk : scope.kind = .function) (hl : (envOfC name scope L a cd).kindOf x = some .cell) : wpAny M A (storeName (envOfC name scope L a cd) x v) Q E s := by
  refine stCN (own := [(L + 1 + 1 + 1 + 1 + 1 + 1 + 1 + 1, o8), (L + 1 + 1 + 1 + 1 + 1 + 1 + 1, o7)]) (rest := [(L + 1 + 1 + 1 + 1 + 1, o5), (L + 1 + 1 + 1 + 1, o4), (L + 1 + 1 + 1, o3), (L + 1 + 1, o2), (L + 1, o1)] ++ rest) F N hc hd ?_ ?_ (fun h' o' F' N' d' => h h' o' F' N' d') hk hl
  · intro p hp
    simp only [List.mem_cons, List.not_mem_nil, or_false] at hp
    rcases hp with rfl | rfl
    all_goals (show (@Ne Nat _ _); dsimp only; omega)
  · intro p hp
    rcases List.mem_append.mp hp with hp | hp
    · simp only [List.mem_cons, List.not_mem_nil, or_false] at hp
      rcases hp with rfl | rfl | rfl | rfl | rfl
      all_goals (show (@Ne Nat _ _); dsimp only; omega)
    · intro e
      have z := (N p (.tail _ (.tail _ (.tail _ (.tail _ (.tail _ (.tail _ (.tail _ (.tail _ (hp)))))))))).1
      have z2 := (N (L + 1 + 1 + 1 + 1 + 1 + 1, o6) (.tail _ (.tail _ (.head _)))).1
      rw [e] at z
      have z3 : p.2 = o6 := Option.some.inj (z.symm.trans z2)
      exact (hr p hp).elim (fun z4 => z4 e) fun z4 => z4 v₀ (by rw [z3]; exact hd)
theorem st7 (F : Fr H L s.heap m) (N : News H L s.heap (celL L o1 o2 o3 o4 o5 o6 o7 o8 rest)) (hd : o7.data = .cell v₀) (hr : NoCell (L + 1 + 1 + 1 + 1 + 1 + 1 + 1) rest)
    (h : ∀ h' o', Fr H L h' m → News H L h' (celL L o1 o2 o3 o4 o5 o6 o' o8 rest) → o'.data = .cell (some v) → Q () { s with heap := h' })
    (hc : (cellsFrom (L + 1) scope.names []).lookup x = some (L + 1 + 1 + 1 + 1 + 1 + 1 + 1)) (hk : scope.kind = .function) (hl : (envOfC name scope L a cd).kindOf x = some .cell) : wpAny M A (storeName (envOfC name scope L a cd) x v) Q E s := by
  refine stCN (own := [(L + 1 + 1 + 1 + 1 + 1 + 1 + 1 + 1, o8)]) (rest := [(L + 1 + 1 + 1 + 1 + 1 + 1, o6), (L + 1 + 1 + 1 + 1 + 1, o5), (L + 1 + 1 + 1 + 1, o4), (L + 1 + 1 + 1, o3), (L + 1 + 1, o2), (L + 1, o1)] ++ rest) F N hc hd ?_ ?_ (fun h' o' F' N' d' => h h' o' F' N' d') hk hl
  · intro p hp
    simp only [List.mem_cons, List.not_mem_nil, or_false] at hp
    rcases hp with rfl
    all_goals (show (@Ne Nat _ _); dsimp only; omega)
  · intro p hp
    rcases List.mem_append.mp hp with hp | hp
    · simp only [List.mem_cons, List.not_mem_nil, or_false] at hp
      rcases hp with rfl | rfl | rfl | rfl | rfl | rfl
      all_goals (show (@Ne Nat _ _); dsimp only; omega)
    · intro e
      have z := (N p (.tail _ (.tail _ (.tail _ (.tail _ (.tail _ (.tail _ (.tail _ (.tail _ (hp)))))))))).1
      have z2 := (N (L + 1 + 1 + 1 + 1 + 1 + 1 + 1, o7) (.tail _ (.head _))).1
      rw [e] at z
      have z3 : p.2 = o7 := Option.some.inj (z.symm.trans z2)
      exact (hr p hp).elim (fun z4 => z4 e) fun z4 => z4 v₀ (by rw [z3]; exact hd)
theorem st8 (F : Fr H L s.heap m) (N : News H L s.heap (celL L o1 o2 o3 o4 o5 o6 o7 o8 rest)) (hd : o8.data = .cell v₀) (hr : NoCell (L + 1 + 1 + 1 + 1 + 1 + 1 + 1 + 1) rest)
    (h : ∀ h' o', Fr H L h' m → News H L h' (celL L o1 o2 o3 o4 o5 o6 o7 o' rest) → o'.data = .cell (some v) → Q () { s with heap := h' })
    (hc : (cellsFrom (L + 1) scope.names []).lookup x = some (L + 1 + 1 + 1 + 1 + 1 + 1 + 1 + 1)) (hk : scope.kind = .function) (hl : (envOfC name scope L a cd).kindOf x = some .cell) : wpAny M A (storeName (envOfC name scope L a cd) x v) Q E s := by
  refine stCN (own := []) (rest := [(L + 1 + 1 + 1 + 1 + 1 + 1 + 1, o7), (L + 1 + 1 + 1 + 1 + 1 + 1, o6), (L + 1 + 1 + 1 + 1 + 1, o5), (L + 1 + 1 + 1 + 1, o4), (L + 1 + 1 + 1, o3), (L + 1 + 1, o2), (L + 1, o1)] ++ rest) F N hc hd ?_ ?_ (fun h' o' F' N' d' => h h' o' F' N' d') hk hl
  · intro p hp
    exact nomatch hp
  · intro p hp
    rcases List.mem_append.mp hp with hp | hp
    · simp only [List.mem_cons, List.not_mem_nil, or_false] at hp
      rcases hp with rfl | rfl | rfl | rfl | rfl | rfl | rfl
      all_goals (show (@Ne Nat _ _); dsimp only; omega)
    · intro e
      have z := (N p (.tail _ (.tail _ (.tail _ (.tail _ (.tail _ (.tail _ (.tail _ (.tail _ (hp)))))))))).1
      have z2 := (N (L + 1 + 1 + 1 + 1 + 1 + 1 + 1 + 1, o8) (.head _)).1
      rw [e] at z
      have z3 : p.2 = o8 := Option.some.inj (z.symm.trans z2)
      exact (hr p hp).elim (fun z4 => z4 e) fun z4 => z4 v₀ (by rw [z3]; exact hd)
end
theorem cel_in {H h : Heap} {L : Addr} {o1 o2 o3 o4 o5 o6 o7 o8 : Obj} {p : Addr × Obj} {rest : List (Addr × Obj)} (N : News H L h (p :: celL L o1 o2 o3 o4 o5 o6 o7 o8 rest)) : News H L h (celL L o1 o2 o3 o4 o5 o6 o7 o8 (p :: rest)) := fun q hq => N q (by
  simp only [celL, List.mem_cons] at hq ⊢
  rcases hq with h | h | h | h | h | h | h | h | h | h
  · exact .inr (.inl h)
  · exact .inr (.inr (.inl h))
  · exact .inr (.inr (.inr (.inl h)))
  · exact .inr (.inr (.inr (.inr (.inl h))))
  · exact .inr (.inr (.inr (.inr (.inr (.inl h)))))
  · exact .inr (.inr (.inr (.inr (.inr (.inr (.inl h))))))
  · exact .inr (.inr (.inr (.inr (.inr (.inr (.inr (.inl h)))))))
  · exact .inr (.inr (.inr (.inr (.inr (.inr (.inr (.inr (.inl h))))))))
  · exact .inl h
  · exact .inr (.inr (.inr (.inr (.inr (.inr (.inr (.inr (.inr h)))))))))
theorem cel_sub {H h : Heap} {L : Addr} {o1 o2 o3 o4 o5 o6 o7 o8 : Obj} {rest rest' : List (Addr × Obj)} (N : News H L h (celL L o1 o2 o3 o4 o5 o6 o7 o8 rest)) (hs : ∀ p ∈ rest', p ∈ rest) : News H L h (celL L o1 o2 o3 o4 o5 o6 o7 o8 rest') := fun q hq => N q (by
  have hq : q ∈ celL L o1 o2 o3 o4 o5 o6 o7 o8 [] ++ rest' := hq
  show q ∈ celL L o1 o2 o3 o4 o5 o6 o7 o8 [] ++ rest
  exact (List.mem_append.mp hq).elim (List.mem_append_left _) fun z => List.mem_append_right _ (hs q z))
theorem nc_nil {c : Addr} : NoCell c [] := fun _ h => nomatch h
theorem nc_list {c D : Addr} {ys : Array Value} {k : Nat} {rest : List (Addr × Obj)} (h : NoCell c rest) : NoCell c ((D, W.listOf ys k) :: rest) := fun p hp => by
  rcases List.mem_cons.mp hp with rfl | hp
  · exact .inr fun u e => nomatch e
  · exact h p hp
theorem nc_ne {c : Addr} {q : Addr × Obj} {rest : List (Addr × Obj)} (hq : q.1 ≠ c) (h : NoCell c rest) : NoCell c (q :: rest) := fun p hp => by
  rcases List.mem_cons.mp hp with rfl | hp
  · exact .inl hq
  · exact h p hp
theorem news_new {H h h' : Heap} {L a : Addr} {m : Str → Option Value} {news : List (Addr × Obj)} {o : Obj} (F : Fr H L h m) (N : News H L h news) (hk : h.StaysIn h') (hn : h.get? a = none) (ho : h'.get? a = some o) :
    Fr H L h' m ∧ News H L h' ((a, o) :: news) ∧ ∀ p ∈ news, p.1 ≠ a := by
  obtain ⟨oL, _, _, hL, _⟩ := F.ns
  refine ⟨F.keeps hk, fun p hp => ?_, fun p hp e => by have := (N p hp).1; rw [e, hn] at this; cases this⟩
  rcases List.mem_cons.mp hp with rfl | hp
  · refine ⟨ho, fun e => ?_, ?_⟩
    · have e : a = L := e
      rw [e, hL] at hn; cases hn
    · cases e : H.get? a with
      | none => rfl
      | some o => have := F.keep _ _ e; rw [hn] at this; cases this
  · exact ⟨hk _ _ (N p hp).1, (N p hp).2⟩
noncomputable def cameK (n : Nat) (ws : List Nat) (i : Nat) : List Int := (List.range n).map fun p => ((srcN (ws.take i) p : Nat) : Int)
theorem cameK_zero (n : Nat) (ws : List Nat) : cameK n ws 0 = rangeI n := by simp [cameK, rangeI, srcN]
theorem cameK_all (n : Nat) (ws : List Nat) : cameK n ws ws.length = cameN n ws := by simp [cameK, cameN]
theorem cameK_len (n : Nat) (ws : List Nat) (i : Nat) : (cameK n ws i).length = n := by simp [cameK]
theorem cameK_step {n : Nat} {ws : List Nat} {i wd : Nat} {ms : List Int} (hwd : ws[i]? = some wd) (hw : 0 < wd) (hn : n % wd = 0) (hl : ms.length = n) (h : ∀ p, p < n → ms[p]? = (cameK n ws i)[sg wd p]?) : ms = cameK n ws (i + 1) := by
  apply List.ext_getElem?
  intro p
  by_cases hp : p < n
  · rw [h p hp]
    unfold cameK
    rw [List.getElem?_map, List.getElem?_map, List.getElem?_range hp, List.getElem?_range (sg_lt hw hn hp)]
    simp only [Option.map_some, srcN]
    rw [List.take_add_one, hwd]
    simp
  · rw [List.getElem?_eq_none (by omega), List.getElem?_eq_none (by rw [cameK_len]; omega)]
def LM (s₁ : Shared) (L : Addr) (P : (Str → Option Value) → List (Addr × Obj) → Prop) (fl : Flow) (s' : Shared) : Prop :=
  fl = .next ∧ ∃ h tk m news, s' = { s₁ with heap := h, toks := tk } ∧ Fr s₁.heap L h m ∧ News s₁.heap L h news ∧ P m news
/-- a comprehension's new list -/
def CompD (s₁ : Shared) (L : Addr) (m : Str → Option Value) (news : List (Addr × Obj)) (xs : List Int) (v : Value) (s' : Shared) : Prop :=
  ∃ D h tk ys k, v = .ref D ∧ s' = { s₁ with heap := h, toks := tk } ∧ Fr s₁.heap L h m ∧ News s₁.heap L h ((D, W.listOf ys k) :: news) ∧ (∀ p ∈ news, p.1 ≠ D) ∧ IntsAre ys.toList xs
theorem size_of {ns : List Int} {k : Int} (h : ((ns ++ [0]).getD (Int.toNat 0) 0).fmod 4 = k) : sizeN ns = [20, 12, 15, 6].getD k.toNat 20 := by
  unfold sizeN
  rw [← h, Int.fmod_eq_emod_of_nonneg _ (by decide)]
  rfl
theorem size_cases (ns : List Int) : sizeN ns = 20 ∨ sizeN ns = 12 ∨ sizeN ns = 15 ∨ sizeN ns = 6 := by
  unfold sizeN
  have h1 : 0 ≤ ((ns ++ [0]).getD 0 0) % 4 := Int.emod_nonneg _ (by decide)
  have h2 : ((ns ++ [0]).getD 0 0) % 4 < 4 := Int.emod_lt_of_pos _ (by decide)
  generalize ((ns ++ [0]).getD 0 0) % 4 = k at h1 h2 ⊢
  have : k = 0 ∨ k = 1 ∨ k = 2 ∨ k = 3 := by omega
  rcases this with rfl | rfl | rfl | rfl <;> decide
theorem small_one {n : Nat} (h : n ≤ 1000) : Builtin.Range.small 1 ((n : Int) + 1) 1 = true := by
  have e : ∀ n : _root_.Fin 1001, Builtin.Range.small 1 ((n.1 : Int) + 1) 1 = true := by decide +kernel
  exact e ⟨n, by omega⟩
theorem size_one1 (n : Nat) : Builtin.Range.rangeSize 1 ((n : Int) + 1) 1 = (n : Int) := by
  unfold Builtin.Range.rangeSize
  rw [if_pos (by decide)]
  split <;> omega
theorem parts_of {n : Nat} (hn : n = 20 ∨ n = 12 ∨ n = 15 ∨ n = 6) : ((((List.range n).map fun i : Nat => (1 : Int) + (i : Int)).filter fun k => Int.fmod (n : Int) k == 0).map fun k => k) = (partsN n).map fun w : Nat => (w : Int) := by
  rcases hn with rfl | rfl | rfl | rfl <;> decide +kernel
theorem mem_up {a : Int} {n i : Nat} {k : Int} (h : ((List.range n).map fun i : Nat => a + (i : Int))[i]? = some k) : a ≤ k ∧ k < a + n := by
  rw [List.getElem?_map] at h
  obtain ⟨j, hj, rfl⟩ := Option.map_eq_some_iff.mp h
  have := List.mem_range.mp (List.mem_of_getElem? hj)
  omega
section
variable {M : Model} {A : Around} {E : Value → Shared → Prop} {s : Shared} {env : Env}
theorem asg {x : Str} {pos' pos : Pos} {value : PySem.Expr} {Q : Flow → Shared → Prop} (hs : swapsWith value (some (.Name x pos')) pos.line env = pure false)
    (h : wpAny M A (eval value env) (fun v s' => wpAny M A (storeName env x v) (fun _ s'' => Q .next s'') E s') E s) : wpAny M A (exec (.Assign [.Name x pos'] value pos) env) Q E s := by
  rw [exec_Assign_Name (hs := hs)]
  refine wpAny_bind (wpAny_standAt (wpAny_bind (wpAny_mono h (fun v s' h' => ?_) fun _ _ x => x)))
  exact wpAny_bind (wpAny_standAt (wpAny_bind (wpAny_bindName (wpAny_mono h' (fun _ _ x => wpAny_pure x) fun _ _ x => x))))
end
theorem widths_of {ns : List Int} {n : Nat} (hnn : sizeN ns = n) :
    ((([((partsN n).length : Int).fdiv 2, ((partsN n).length : Int).fdiv 2 - 1] ++ List.take (min (Int.toNat 3) ns.length - Int.toNat 1) (List.drop (Int.toNat 1) ns)).filter fun _ => true).map fun x => ((partsN n).map fun w : Nat => (w : Int)).getD (Int.fmod x ((partsN n).length : Int)).toNat 0) = (widthsN ns).map fun w : Nat => (w : Int) := by
  subst hnn
  have e1 : (min (Int.toNat 3) ns.length - Int.toNat 1) = min 2 (List.drop 1 ns).length := by simp; omega
  have e2 : List.take (min (Int.toNat 3) ns.length - Int.toNat 1) (List.drop (Int.toNat 1) ns) = (ns.drop 1).take 2 := by
    rw [e1]; exact kmk_take_min _ _
  have e3 : (((partsN (sizeN ns)).length : Int).fdiv 2) = ((partsN (sizeN ns)).length : Int) / 2 := Int.fdiv_eq_ediv_of_nonneg _ (by decide)
  rw [e2, e3]
  unfold widthsN
  rw [List.map_map, List.filter_eq_self.mpr (by simp)]
  apply List.map_congr_left
  intro x _
  simp only [Function.comp]
  rw [Int.fmod_eq_emod_of_nonneg _ (Int.natCast_nonneg _), List.getD_eq_getElem?_getD, List.getElem?_map, List.getD_eq_getElem?_getD]
  cases (partsN (sizeN ns))[(x % ((partsN (sizeN ns)).length : Int)).toNat]? <;> rfl
theorem fmod_in {x : Int} {k : Nat} (h : 1 ≤ k) : 0 ≤ Int.fmod x (k : Int) ∧ Int.fmod x (k : Int) < k := by
  rw [Int.fmod_eq_emod_of_nonneg _ (Int.natCast_nonneg _)]
  exact ⟨Int.emod_nonneg _ (by omega), Int.emod_lt_of_pos _ (by omega)⟩
theorem sum_keep {prog : Program} {w : World} {A : Around} {E : Value → Shared → Prop} {s : Shared} {l : Addr} {vs : List Value} {ns : List Int} {Q : Value → Shared → Prop} (hh : A.handled = none) (hl : s.heap.IsList l vs.toArray) (hi : IntsAre vs ns)
    (h : ∀ h' tk t', (∀ b o, s.heap.get? b = some o → h'.get? b = some o) → Q (.int ns.sum t') { s with heap := h', toks := tk }) : wpAny (model prog w) A (call (.builtin "sum") [.ref l]) Q E s := by
  obtain ⟨xs, hx⟩ := hi.allInts.items
  have hl' : s.heap.IsList l (intItems xs) := hx ▸ hl
  refine sum_intListG hh hl' fun h' tk t' hk => ?_
  have e1 : ns = xs.toList.map (·.1) := by
    rw [← nums_intItems, ← hx]
    exact (show numsOf vs.toArray.toList = ns from hi.numsOf).symm
  have e2 : preSum (numAt xs) xs.size = ns.sum := by
    rw [preSum_eq, List.take_of_length_le (by simp), e1]
  rw [e2]
  exact h h' tk t' hk
/-- the octets of the row -/
noncomputable def rowL (ns : List Int) (n : Nat) : List Int := (List.range n).map fun i : Nat => Int.fmod (ns.sum + 37 * (i : Int)) 256
theorem rowL_len (ns : List Int) (n : Nat) : (rowL ns n).length = n := by simp [rowL]
theorem row_in (ns : List Int) (n : Nat) : ∀ k ∈ rowL ns n, 0 ≤ k ∧ k < 256 := by
  intro k hk
  obtain ⟨i, _, rfl⟩ := List.mem_map.mp hk
  rw [Int.fmod_eq_emod_of_nonneg _ (by decide)]
  exact ⟨Int.emod_nonneg _ (by decide), Int.emod_lt_of_pos _ (by decide)⟩
theorem news_add {H h h' : Heap} {L : Addr} {m : Str → Option Value} {news : List (Addr × Obj)} {o : Obj} (F : Fr H L h m) (N : News H L h news) (hk : ∀ b o, h.get? b = some o → h'.get? b = some o) (ho : h'.get? h.objs.size = some o) :
    Fr H L h' m ∧ News H L h' ((h.objs.size, o) :: news) ∧ ∀ p ∈ news, p.1 < h.objs.size := by
  refine ⟨F.keeps hk, fun p hp => ?_, fun p hp => Heap.lt_size (N p hp).1⟩
  rcases List.mem_cons.mp hp with rfl | hp
  · exact ⟨ho, Nat.ne_of_gt F.ns.lt, F.fresh⟩
  · exact ⟨hk _ _ (N p hp).1, (N p hp).2⟩
theorem dpt {env : Env} {k : Nat} (hk : k ≤ 200) : (callerA.deeper env).depth + k < 1000 := by
  simp only [depth_deeper, depth_caller]; omega
theorem unt {env : Env} {k : Nat} (hk : k ≤ 2000) : (callerA.deeper env).units + k < 9900 := by
  have h : (callerA.deeper env).units ≤ 1000 := by
    first | decide | (simp only [Around.deeper_units]; decide) | (rw [Around.deeper_units]; decide)
  omega
theorem dptR {env : Env} {k : Nat} (hk : k ≤ 200) : (callerA.deeper env).depth + k < recursionLimit := dpt hk
theorem untR {env : Env} {k : Nat} (hk : k ≤ 2000) : (callerA.deeper env).units + k < cLine := by
  have h1 := unt (env := env) hk
  have h2 : 9900 ≤ cLine := by decide
  omega
theorem row_in6 (ns : List Int) (n : Nat) : ∀ k ∈ (rowL ns n).map fun k => Int.fdiv k 64, 0 ≤ k ∧ k < 256 := by
  intro k hk
  obtain ⟨j, hj, rfl⟩ := List.mem_map.mp hk
  obtain ⟨h1, h2⟩ := row_in ns n j hj
  rw [Int.fdiv_eq_ediv_of_nonneg _ (by decide)]
  omega
theorem round_eq {n : Nat} {ws : List Nat} {b r : Array UInt8} (hw : ∀ v ∈ ws, 0 < v ∧ v ≤ 20 ∧ n % v = 0) (hb : b.size = n) (hr : r.size = n) (h : ∀ p, p < n → r[p]? = b[srcN ws p]?) :
    KBw.bInts r = (((cameN n ws).filter fun _ => true).map fun k => (KBw.bInts b).getD k.toNat 0) := by
  rw [List.filter_eq_self.mpr (by simp)]
  apply List.ext_getElem?
  intro p
  by_cases hp : p < n
  · have hs : srcN ws p < n := src_lt hw hp
    unfold cameN
    rw [List.map_map, List.getElem?_map, List.getElem?_range hp]
    simp only [Option.map_some, Function.comp, Int.toNat_natCast]
    have h1 := h p hp
    have h2 : b[srcN ws p]? = some b[srcN ws p] := Array.getElem?_eq_getElem (by omega)
    rw [h2] at h1
    rw [KBw.ints_get h1, List.getD_eq_getElem?_getD, KBw.ints_get h2]
    rfl
  · rw [List.getElem?_eq_none (by rw [KBw.ints_length]; omega), List.getElem?_eq_none (by simp [cameN]; omega)]
theorem came_at {n : Nat} {ws : List Nat} {i : Nat} {k : Int} (hw : ∀ v ∈ ws, 0 < v ∧ v ≤ 20 ∧ n % v = 0) (h : (cameN n ws)[i]? = some k) : 0 ≤ k ∧ k < n := by
  unfold cameN at h
  rw [List.getElem?_map] at h
  obtain ⟨p, hp, rfl⟩ := Option.map_eq_some_iff.mp h
  have := src_lt hw (List.mem_range.mp (List.mem_of_getElem? hp))
  unfold srcN
  omega
theorem cameN_len (n : Nat) (ws : List Nat) : (cameN n ws).length = n := by simp [cameN]
theorem cel_out {H h : Heap} {L : Addr} {o1 o2 o3 o4 o5 o6 o7 o8 : Obj} {p : Addr × Obj} {rest : List (Addr × Obj)} (N : News H L h (celL L o1 o2 o3 o4 o5 o6 o7 o8 (p :: rest))) : News H L h (p :: celL L o1 o2 o3 o4 o5 o6 o7 o8 rest) := fun q hq => N q (by
  have hq : q ∈ p :: (celL L o1 o2 o3 o4 o5 o6 o7 o8 [] ++ rest) := hq
  show q ∈ celL L o1 o2 o3 o4 o5 o6 o7 o8 [] ++ p :: rest
  rcases List.mem_cons.mp hq with rfl | z
  · exact List.mem_append_right _ (.head _)
  · rcases List.mem_append.mp z with z | z
    · exact List.mem_append_left _ z
    · exact List.mem_append_right _ (.tail _ z))
theorem cel_off {L I : Addr} {o1 o2 o3 o4 o5 o6 o7 o8 p1 p2 p3 p4 p5 p6 p7 p8 : Obj} {rest rest' : List (Addr × Obj)} (h : ∀ p ∈ celL L o1 o2 o3 o4 o5 o6 o7 o8 rest, p.1 ≠ I) (hr : ∀ p ∈ rest', p.1 ≠ I) : ∀ p ∈ celL L p1 p2 p3 p4 p5 p6 p7 p8 rest', p.1 ≠ I := by
  intro p hp
  have hp : p ∈ celL L p1 p2 p3 p4 p5 p6 p7 p8 [] ++ rest' := hp
  rcases List.mem_append.mp hp with z | z
  · have : p.1 ∈ (celL L o1 o2 o3 o4 o5 o6 o7 o8 []).map (fun x : Addr × Obj => x.1) := by
      have := List.mem_map_of_mem (f := fun x : Addr × Obj => x.1) z
      exact this
    obtain ⟨q, hq, e⟩ := List.mem_map.mp this
    rw [← e]
    have hq : q ∈ celL L o1 o2 o3 o4 o5 o6 o7 o8 [] ++ rest := List.mem_append_left _ hq
    exact h q hq
  · exact hr p z
theorem cel_rest {L I : Addr} {o1 o2 o3 o4 o5 o6 o7 o8 : Obj} {rest : List (Addr × Obj)} (h : ∀ p ∈ celL L o1 o2 o3 o4 o5 o6 o7 o8 rest, p.1 ≠ I) : ∀ p ∈ rest, p.1 ≠ I := fun p hp => by
  have : p ∈ celL L o1 o2 o3 o4 o5 o6 o7 o8 [] ++ rest := List.mem_append_right _ hp
  exact h p this
theorem rowL_at (ns : List Int) {n p : Nat} (hp : p < n) : (rowL ns n)[p]? = some (Int.fmod (ns.sum + 37 * (p : Int)) 256) := by
  unfold rowL
  rw [List.getElem?_map, List.getElem?_range hp]; rfl
theorem rowL_inj {ns : List Int} {n p q : Nat} (hn : n ≤ 20) (hp : p < n) (hq : q < n) (h : Int.fmod (ns.sum + 37 * (p : Int)) 256 = Int.fmod (ns.sum + 37 * (q : Int)) 256) : p = q := by
  rw [Int.fmod_eq_emod_of_nonneg _ (by decide), Int.fmod_eq_emod_of_nonneg _ (by decide)] at h
  omega
theorem rowL_idx {ns : List Int} {n p : Nat} (hn : n ≤ 20) (hp : p < n) : (rowL ns n).idxOf (Int.fmod (ns.sum + 37 * (p : Int)) 256) = p := by
  have hm : Int.fmod (ns.sum + 37 * (p : Int)) 256 ∈ rowL ns n := List.mem_of_getElem? (rowL_at ns hp)
  have hlt := List.idxOf_lt_length_iff.mpr hm
  have h1 := List.getElem_idxOf hlt
  rw [rowL_len] at hlt
  have h2 := rowL_at ns hlt
  rw [List.getElem?_eq_getElem (by rw [rowL_len]; exact hlt), h1] at h2
  exact (rowL_inj hn hp hlt (Option.some.inj h2)).symm
theorem went_eq {ns : List Int} {n : Nat} {ws : List Nat} {r : Array UInt8} (hn : n ≤ 20) (hw : ∀ v ∈ ws, 0 < v ∧ v ≤ 20 ∧ n % v = 0) (hr : r.size = n) (h : ∀ p, p < n → r[p]? = (byteArr (rowL ns n))[srcN ws p]?) :
    (((KBw.bInts r).filter fun _ => true).map fun k => (((rowL ns n).idxOf k : Nat) : Int)) = cameN n ws := by
  have hb : (byteArr (rowL ns n)).size = n := by rw [byteArr_size, rowL_len]
  have hbi : KBw.bInts (byteArr (rowL ns n)) = rowL ns n := KBa.ints_make (row_in ns n)
  rw [List.filter_eq_self.mpr (by simp), round_eq hw hb hr h, hbi, List.filter_eq_self.mpr (by simp), List.map_map]
  unfold cameN
  rw [List.map_map]
  apply List.map_congr_left
  intro p hp
  have hs : srcN ws p < n := src_lt hw (List.mem_range.mp hp)
  simp only [Function.comp, Int.toNat_natCast, List.getD_eq_getElem?_getD]
  rw [rowL_at ns hs, Option.getD_some, rowL_idx hn hs]
theorem round_mem {ns : List Int} {n : Nat} {ws : List Nat} {r : Array UInt8} {i : Nat} {k : Int} (hw : ∀ v ∈ ws, 0 < v ∧ v ≤ 20 ∧ n % v = 0) (hr : r.size = n) (h : ∀ p, p < n → r[p]? = (byteArr (rowL ns n))[srcN ws p]?) (hk : (KBw.bInts r)[i]? = some k) : k ∈ rowL ns n := by
  have hb : (byteArr (rowL ns n)).size = n := by rw [byteArr_size, rowL_len]
  have hbi : KBw.bInts (byteArr (rowL ns n)) = rowL ns n := KBa.ints_make (row_in ns n)
  have hi : i < n := by
    have := (List.getElem?_eq_some_iff.mp hk).1
    rw [KBw.ints_length] at this; omega
  have hs : srcN ws i < n := src_lt hw hi
  have h1 := h i hi
  rw [Array.getElem?_eq_getElem (by omega : srcN ws i < (byteArr (rowL ns n)).size)] at h1
  have h2 := KBw.ints_get h1
  rw [hk] at h2
  have h3 := KBw.ints_get (b := byteArr (rowL ns n)) (i := srcN ws i) (Array.getElem?_eq_getElem (by omega))
  rw [hbi] at h3
  rw [← h2] at h3
  exact List.mem_of_getElem? h3
theorem ne_dec (a b : Int) : (a != b) = decide (a ≠ b) := by by_cases h : a = b <;> simp [h]
theorem eq_dec (a b : Int) : (a == b) = decide (a = b) := by by_cases h : a = b <;> simp [h]
theorem nc_tup {c D : Addr} {ys : Array Value} {k : Nat} {rest : List (Addr × Obj)} (h : NoCell c rest) : NoCell c ((D, ({ cls := .type "tuple", data := .seq ys k } : Obj)) :: rest) := fun p hp => by
  rcases List.mem_cons.mp hp with rfl | hp
  · exact .inr fun u e => nomatch e
  · exact h p hp
theorem kept_len (n : Nat) (cs : List Int) : (keptN n cs).length ≤ n := by
  unfold keptN rangeI
  exact Nat.le_trans (List.length_filter_le _ _) (by simp)
theorem left_len (n : Nat) (cs : List Int) : (leftN n cs).length ≤ n := by
  unfold leftN rangeI
  exact Nat.le_trans (List.length_filter_le _ _) (by simp)
/-- what is due -/
def DueR (res : Option (List Int)) (items : Array Value) (dx : List (Addr × Obj)) : Prop :=
  (res = none ∧ items = #[.none, .none] ∧ dx = []) ∨ ∃ r c its k, res = some r ∧ items = #[.ref c, .bool true] ∧ dx = [(c, W.listOf its k)] ∧ IntsAre its.toList r
theorem due_nil {n : Nat} {cs : List Int} {res : Option (List Int)} (h : dueN n cs = some res) (e : leftN n cs = []) : res = none := by
  unfold dueN at h; rw [e] at h; exact (Option.some.inj h).symm
theorem due_cons {n : Nat} {cs : List Int} {res : Option (List Int)} {p : Int} {t : List Int} (h : dueN n cs = some res) (e : leftN n cs = p :: t) : ∃ r, res = some r ∧ ringN cs p = some r := by
  unfold dueN at h; rw [e] at h
  dsimp only at h
  obtain ⟨r, h1, h2⟩ := Option.map_eq_some_iff.mp h
  exact ⟨r, h2.symm, h1⟩
theorem loop_step {cs : List Int} {f : Nat} {p : Int} {t : List Int} {r rr : Nat} (h : loopP cs (f + 1) (p :: t) r = some rr) :
    ∃ ring, ringN cs p = some ring ∧ findP (sortP cs (p :: t)) 300 = some (some ring) ∧ p ∈ ring ∧ p ∈ cs ∧ ring.length ≤ 30 ∧ 2 ≤ ring.length ∧ 0 < r ∧ r ≤ 10000 ∧ loopP cs f ((p :: t).filter fun q => decide (q ∉ ring)) (minN (multN r (ring.length - 1))) = some rr := by
  rw [loopP] at h
  split at h
  · cases h
  · rename_i ring hr
    split at h
    · rename_i hc
      obtain ⟨c1, c2, c3, c4, c5, c6, c7⟩ := hc
      exact ⟨ring, hr, c1, c2, c3, c4, c5, c6, c7, h⟩
    · cases h
theorem res_len {n : Nat} {ws : List Nat} {res : Option (List Int)} {rr : Nat} (sf : ShapeF n ws res rr) : ∀ r, res = some r → r.length ≤ 1000 := by
  intro r hr
  cases hlf : leftN n (cameN n ws) with
  | nil => rw [due_nil sf.due hlf] at hr; cases hr
  | cons p t =>
    obtain ⟨r', h1, h2⟩ := due_cons sf.due hlf
    have hlp := sf.loop
    rw [hlf] at hlp
    obtain ⟨ring, hr1, _, _, _, hr5, _, _, _, _⟩ := loop_step hlp
    rw [hr1] at h2
    cases h2
    rw [h1] at hr
    cases hr
    omega
theorem rangeI_in {n : Nat} {p : Int} (h : p ∈ rangeI n) : 0 ≤ p ∧ p < n := by
  obtain ⟨i, hi, rfl⟩ := List.mem_map.mp h
  have := List.mem_range.mp hi
  omega
end Mine
end
section
namespace Mine
set_option maxRecDepth 100000
theorem came_congr {n : Nat} {ws ws' : List Nat} (h : ∀ p, p < n → srcN ws p = srcN ws' p ∧ srcN ws p < n) : cameN n ws = cameN n ws' := by
  unfold cameN
  apply List.map_congr_left
  intro p hp
  rw [(h p (List.mem_range.mp hp)).1]
theorem iter_congr {n : Nat} {ws ws' : List Nat} (h : ∀ p, p < n → srcN ws p = srcN ws' p ∧ srcN ws p < n) : ∀ k p, p < n → iterN ws k p = iterN ws' k p := by
  intro k
  induction k with
  | zero => intro p _; rfl
  | succ k ih =>
    intro p hp
    show iterN ws k (srcN ws p) = iterN ws' k (srcN ws' p)
    rw [← (h p hp).1]
    exact ih _ (h p hp).2
theorem isId_congr {n : Nat} {ws ws' : List Nat} (h : ∀ p, p < n → srcN ws p = srcN ws' p ∧ srcN ws p < n) : isId n ws = isId n ws' := by
  funext k
  unfold isId
  rw [Bool.eq_iff_iff, List.all_eq_true, List.all_eq_true]
  constructor
  · intro a p hp
    rw [← iter_congr h k p (List.mem_range.mp hp)]; exact a p hp
  · intro a p hp
    rw [iter_congr h k p (List.mem_range.mp hp)]; exact a p hp
theorem ok_congr {n : Nat} {ws ws' : List Nat} (h : ∀ p, p < n → srcN ws p = srcN ws' p ∧ srcN ws p < n) : okShape n ws = okShape n ws' := by
  unfold okShape okLoop
  rw [came_congr h, isId_congr h]
noncomputable def sameS (n : Nat) (ws ws' : List Nat) : Bool := (List.range n).all fun p => decide (srcN ws p = srcN ws' p) && decide (srcN ws p < n)
theorem of_same {n : Nat} {ws ws' : List Nat} (h : sameS n ws ws' = true) : ∀ p, p < n → srcN ws p = srcN ws' p ∧ srcN ws p < n := by
  intro p hp
  have := List.all_eq_true.mp h p (List.mem_range.mpr hp)
  simpa using this
theorem ok_cover {n : Nat} {base : List Nat} {reps es : List (List Nat)} (hc : es.all (fun e => reps.any fun r => sameS n (base ++ e) (base ++ r)) = true) (hr : ∀ r ∈ reps, okShape n (base ++ r) = true) :
    ∀ e ∈ es, okShape n (base ++ e) = true := by
  intro e he
  obtain ⟨r, h1, h2⟩ := List.any_eq_true.mp (List.all_eq_true.mp hc e he)
  rw [ok_congr (of_same h2)]
  exact hr r h1
theorem ok20a0 : okShape 20 ([5, 4] ++ []) = true := by decide +kernel
theorem ok20a1 : okShape 20 ([5, 4] ++ [2]) = true := by decide +kernel
theorem ok20a2 : okShape 20 ([5, 4] ++ [4]) = true := by decide +kernel
theorem ok20a3 : okShape 20 ([5, 4] ++ [5]) = true := by decide +kernel
theorem ok20a4 : okShape 20 ([5, 4] ++ [10]) = true := by decide +kernel
theorem ok20a5 : okShape 20 ([5, 4] ++ [20]) = true := by decide +kernel
theorem ok20a6 : okShape 20 ([5, 4] ++ [2, 4]) = true := by decide +kernel
theorem ok20a7 : okShape 20 ([5, 4] ++ [2, 5]) = true := by decide +kernel
theorem ok20a8 : okShape 20 ([5, 4] ++ [2, 10]) = true := by decide +kernel
theorem ok20a9 : okShape 20 ([5, 4] ++ [2, 20]) = true := by decide +kernel
theorem ok20a10 : okShape 20 ([5, 4] ++ [4, 5]) = true := by decide +kernel
theorem ok20a11 : okShape 20 ([5, 4] ++ [4, 10]) = true := by decide +kernel
theorem ok20a12 : okShape 20 ([5, 4] ++ [4, 20]) = true := by decide +kernel
theorem ok20a13 : okShape 20 ([5, 4] ++ [5, 2]) = true := by decide +kernel
theorem ok20a14 : okShape 20 ([5, 4] ++ [5, 4]) = true := by decide +kernel
theorem ok20a15 : okShape 20 ([5, 4] ++ [5, 10]) = true := by decide +kernel
theorem ok20a16 : okShape 20 ([5, 4] ++ [5, 20]) = true := by decide +kernel
theorem ok20a17 : okShape 20 ([5, 4] ++ [10, 4]) = true := by decide +kernel
theorem ok20a18 : okShape 20 ([5, 4] ++ [10, 20]) = true := by decide +kernel
theorem cover20 : (extraN 20).all (fun e => ([[], [2], [4], [5], [10], [20], [2, 4], [2, 5], [2, 10], [2, 20], [4, 5], [4, 10], [4, 20], [5, 2], [5, 4], [5, 10], [5, 20], [10, 4], [10, 20]] : List (List Nat)).any fun r => sameS 20 ([5, 4] ++ e) ([5, 4] ++ r)) = true := by decide +kernel
theorem ok20 : ∀ e ∈ extraN 20, okShape 20 (baseN 20 ++ e) = true := by
  have hb : baseN 20 = [5, 4] := by decide +kernel
  rw [hb]
  refine ok_cover cover20 ?_
  intro r hr
  simp only [List.mem_cons, List.not_mem_nil, or_false] at hr
  rcases hr with rfl | rfl | rfl | rfl | rfl | rfl | rfl | rfl | rfl | rfl | rfl | rfl | rfl | rfl | rfl | rfl | rfl | rfl | rfl
  · exact ok20a0
  · exact ok20a1
  · exact ok20a2
  · exact ok20a3
  · exact ok20a4
  · exact ok20a5
  · exact ok20a6
  · exact ok20a7
  · exact ok20a8
  · exact ok20a9
  · exact ok20a10
  · exact ok20a11
  · exact ok20a12
  · exact ok20a13
  · exact ok20a14
  · exact ok20a15
  · exact ok20a16
  · exact ok20a17
  · exact ok20a18
theorem ok12a0 : okShape 12 ([4, 3] ++ []) = true := by decide +kernel
theorem ok12a1 : okShape 12 ([4, 3] ++ [2]) = true := by decide +kernel
theorem ok12a2 : okShape 12 ([4, 3] ++ [3]) = true := by decide +kernel
theorem ok12a3 : okShape 12 ([4, 3] ++ [4]) = true := by decide +kernel
theorem ok12a4 : okShape 12 ([4, 3] ++ [6]) = true := by decide +kernel
theorem ok12a5 : okShape 12 ([4, 3] ++ [12]) = true := by decide +kernel
theorem ok12a6 : okShape 12 ([4, 3] ++ [2, 3]) = true := by decide +kernel
theorem ok12a7 : okShape 12 ([4, 3] ++ [2, 4]) = true := by decide +kernel
theorem ok12a8 : okShape 12 ([4, 3] ++ [2, 6]) = true := by decide +kernel
theorem ok12a9 : okShape 12 ([4, 3] ++ [2, 12]) = true := by decide +kernel
theorem ok12a10 : okShape 12 ([4, 3] ++ [3, 2]) = true := by decide +kernel
theorem ok12a11 : okShape 12 ([4, 3] ++ [3, 4]) = true := by decide +kernel
theorem ok12a12 : okShape 12 ([4, 3] ++ [3, 6]) = true := by decide +kernel
theorem ok12a13 : okShape 12 ([4, 3] ++ [3, 12]) = true := by decide +kernel
theorem ok12a14 : okShape 12 ([4, 3] ++ [4, 3]) = true := by decide +kernel
theorem ok12a15 : okShape 12 ([4, 3] ++ [4, 6]) = true := by decide +kernel
theorem ok12a16 : okShape 12 ([4, 3] ++ [4, 12]) = true := by decide +kernel
theorem ok12a17 : okShape 12 ([4, 3] ++ [6, 4]) = true := by decide +kernel
theorem ok12a18 : okShape 12 ([4, 3] ++ [6, 12]) = true := by decide +kernel
theorem cover12 : (extraN 12).all (fun e => ([[], [2], [3], [4], [6], [12], [2, 3], [2, 4], [2, 6], [2, 12], [3, 2], [3, 4], [3, 6], [3, 12], [4, 3], [4, 6], [4, 12], [6, 4], [6, 12]] : List (List Nat)).any fun r => sameS 12 ([4, 3] ++ e) ([4, 3] ++ r)) = true := by decide +kernel
theorem ok12 : ∀ e ∈ extraN 12, okShape 12 (baseN 12 ++ e) = true := by
  have hb : baseN 12 = [4, 3] := by decide +kernel
  rw [hb]
  refine ok_cover cover12 ?_
  intro r hr
  simp only [List.mem_cons, List.not_mem_nil, or_false] at hr
  rcases hr with rfl | rfl | rfl | rfl | rfl | rfl | rfl | rfl | rfl | rfl | rfl | rfl | rfl | rfl | rfl | rfl | rfl | rfl | rfl
  · exact ok12a0
  · exact ok12a1
  · exact ok12a2
  · exact ok12a3
  · exact ok12a4
  · exact ok12a5
  · exact ok12a6
  · exact ok12a7
  · exact ok12a8
  · exact ok12a9
  · exact ok12a10
  · exact ok12a11
  · exact ok12a12
  · exact ok12a13
  · exact ok12a14
  · exact ok12a15
  · exact ok12a16
  · exact ok12a17
  · exact ok12a18
theorem ok15a0 : okShape 15 ([5, 3] ++ []) = true := by decide +kernel
theorem ok15a1 : okShape 15 ([5, 3] ++ [3]) = true := by decide +kernel
theorem ok15a2 : okShape 15 ([5, 3] ++ [5]) = true := by decide +kernel
theorem ok15a3 : okShape 15 ([5, 3] ++ [15]) = true := by decide +kernel
theorem ok15a4 : okShape 15 ([5, 3] ++ [3, 5]) = true := by decide +kernel
theorem ok15a5 : okShape 15 ([5, 3] ++ [3, 15]) = true := by decide +kernel
theorem ok15a6 : okShape 15 ([5, 3] ++ [5, 3]) = true := by decide +kernel
theorem ok15a7 : okShape 15 ([5, 3] ++ [5, 15]) = true := by decide +kernel
theorem cover15 : (extraN 15).all (fun e => ([[], [3], [5], [15], [3, 5], [3, 15], [5, 3], [5, 15]] : List (List Nat)).any fun r => sameS 15 ([5, 3] ++ e) ([5, 3] ++ r)) = true := by decide +kernel
theorem ok15 : ∀ e ∈ extraN 15, okShape 15 (baseN 15 ++ e) = true := by
  have hb : baseN 15 = [5, 3] := by decide +kernel
  rw [hb]
  refine ok_cover cover15 ?_
  intro r hr
  simp only [List.mem_cons, List.not_mem_nil, or_false] at hr
  rcases hr with rfl | rfl | rfl | rfl | rfl | rfl | rfl | rfl
  · exact ok15a0
  · exact ok15a1
  · exact ok15a2
  · exact ok15a3
  · exact ok15a4
  · exact ok15a5
  · exact ok15a6
  · exact ok15a7
theorem ok6a0 : okShape 6 ([3, 2] ++ []) = true := by decide +kernel
theorem ok6a1 : okShape 6 ([3, 2] ++ [2]) = true := by decide +kernel
theorem ok6a2 : okShape 6 ([3, 2] ++ [3]) = true := by decide +kernel
theorem ok6a3 : okShape 6 ([3, 2] ++ [6]) = true := by decide +kernel
theorem ok6a4 : okShape 6 ([3, 2] ++ [2, 3]) = true := by decide +kernel
theorem ok6a5 : okShape 6 ([3, 2] ++ [2, 6]) = true := by decide +kernel
theorem ok6a6 : okShape 6 ([3, 2] ++ [3, 2]) = true := by decide +kernel
theorem ok6a7 : okShape 6 ([3, 2] ++ [3, 6]) = true := by decide +kernel
theorem cover6 : (extraN 6).all (fun e => ([[], [2], [3], [6], [2, 3], [2, 6], [3, 2], [3, 6]] : List (List Nat)).any fun r => sameS 6 ([3, 2] ++ e) ([3, 2] ++ r)) = true := by decide +kernel
theorem ok6 : ∀ e ∈ extraN 6, okShape 6 (baseN 6 ++ e) = true := by
  have hb : baseN 6 = [3, 2] := by decide +kernel
  rw [hb]
  refine ok_cover cover6 ?_
  intro r hr
  simp only [List.mem_cons, List.not_mem_nil, or_false] at hr
  rcases hr with rfl | rfl | rfl | rfl | rfl | rfl | rfl | rfl
  · exact ok6a0
  · exact ok6a1
  · exact ok6a2
  · exact ok6a3
  · exact ok6a4
  · exact ok6a5
  · exact ok6a6
  · exact ok6a7
theorem parts_mem {n v : Nat} (h : v ∈ partsN n) (hn : 0 < n) : 0 < v ∧ v ≤ n ∧ n % v = 0 := by
  unfold partsN at h
  obtain ⟨h1, h2⟩ := List.mem_filter.mp h
  have h1 := List.mem_range.mp h1
  simp only [Bool.and_eq_true, decide_eq_true_eq] at h2
  exact ⟨h2.1, by omega, h2.2⟩
theorem widths_extra {ns : List Int} {n : Nat} (hn : sizeN ns = n) (h4 : n = 20 ∨ n = 12 ∨ n = 15 ∨ n = 6) : ∃ e ∈ extraN n, widthsN ns = baseN n ++ e ∧ ∀ v ∈ e, v ∈ partsN n := by
  have hl : 0 < (partsN n).length := by rcases h4 with rfl | rfl | rfl | rfl <;> decide
  have hf : ∀ x : Int, (partsN n).getD (x % ((partsN n).length : Int)).toNat 0 ∈ partsN n := by
    intro x
    have h1 := Int.emod_nonneg x (b := ((partsN n).length : Int)) (by omega)
    have h2 := Int.emod_lt_of_pos x (b := ((partsN n).length : Int)) (by omega)
    rw [List.getD_eq_getElem?_getD, List.getElem?_eq_getElem (by omega), Option.getD_some]
    exact List.getElem_mem _
  have hb : ([((partsN n).length / 2 : Int), ((partsN n).length / 2 : Int) - 1].map fun x => (partsN n).getD (x % ((partsN n).length : Int)).toNat 0) = baseN n := by
    rcases h4 with rfl | rfl | rfl | rfl <;> decide +kernel
  unfold widthsN
  rw [hn, List.map_append, hb]
  refine ⟨_, ?_, rfl, ?_⟩
  · unfold extraN
    cases ns.drop 1 with
    | nil => exact List.mem_append_left _ (List.mem_append_left _ (.head _))
    | cons x t =>
      cases t with
      | nil => exact List.mem_append_left _ (List.mem_append_right _ (List.mem_map.mpr ⟨_, hf x, rfl⟩))
      | cons y t => exact List.mem_append_right _ (List.mem_flatMap.mpr ⟨_, hf x, List.mem_map.mpr ⟨_, hf y, rfl⟩⟩)
  · intro v hv
    obtain ⟨x, _, rfl⟩ := List.mem_map.mp hv
    exact hf x
theorem base_mem {n : Nat} (h4 : n = 20 ∨ n = 12 ∨ n = 15 ∨ n = 6) : ∀ v ∈ baseN n, v ∈ partsN n := by
  rcases h4 with rfl | rfl | rfl | rfl <;> decide +kernel
theorem size_four (ns : List Int) : sizeN ns = 20 ∨ sizeN ns = 12 ∨ sizeN ns = 15 ∨ sizeN ns = 6 := by
  unfold sizeN
  have h1 : 0 ≤ ((ns ++ [0]).getD 0 0) % 4 := Int.emod_nonneg _ (by decide)
  have h2 : ((ns ++ [0]).getD 0 0) % 4 < 4 := Int.emod_lt_of_pos _ (by decide)
  generalize ((ns ++ [0]).getD 0 0) % 4 = k at h1 h2 ⊢
  have : k = 0 ∨ k = 1 ∨ k = 2 ∨ k = 3 := by omega
  rcases this with rfl | rfl | rfl | rfl <;> decide
theorem shape_ok (ns : List Int) : (∀ v ∈ widthsN ns, 0 < v ∧ v ≤ 20 ∧ sizeN ns % v = 0) ∧ okShape (sizeN ns) (widthsN ns) = true := by
  have h4 := size_four ns
  generalize hn : sizeN ns = n at h4
  obtain ⟨e, he, hw, hv⟩ := widths_extra hn h4
  rw [hw]
  constructor
  · intro v hm
    have hp : v ∈ partsN n := (List.mem_append.mp hm).elim (base_mem h4 v) (hv v)
    obtain ⟨h1, h2, h3⟩ := parts_mem hp (by omega)
    exact ⟨h1, by omega, h3⟩
  · rcases h4 with rfl | rfl | rfl | rfl
    · exact ok20 e he
    · exact ok12 e he
    · exact ok15 e he
    · exact ok6 e he
end Mine
end
section
open PySem PySem.W PySem.W.X PySem.Calls PyProof.Rows PySem.SeqAt
set_option maxRecDepth 100000
namespace Mine
section
noncomputable def ringD : Option (List Int) → PyData
  | none => .none
  | some r => .list (r.map PyData.int)
noncomputable def refD : Option (List Int) → PyData
  | none => .none
  | some _ => .bool true
noncomputable def toldD (res : Option (List Int)) (ks ms : List Int) : PyData := .list [ringD res, refD res, .tuple (ks.map PyData.int), .tuple (ms.map PyData.int)]
theorem ring_reads {h : Heap} {res : Option (List Int)} {rv : Value} {rx : List (Addr × Obj)} (R : RingR res rv rx) (hx : ∀ p ∈ rx, h.get? p.1 = some p.2) : ∃ as, Reads h rv (ringD res) as := by
  rcases R with ⟨rfl, rfl, _⟩ | ⟨r, c, its, n, rfl, rfl, rfl, hi⟩
  · exact ⟨_, .none⟩
  · exact ⟨_, reads_of_ints (vs := its.toList) ⟨_, hx _ (.head _), rfl, n, rfl⟩ hi⟩
theorem ref_reads {h : Heap} {res : Option (List Int)} : Reads h (refOf res) (refD res) [] := by
  cases res with
  | none => exact .none
  | some r => exact .bool true
theorem tup_reads {h : Heap} {a : Addr} {vs : List Value} {ks : List Int} (e : h.get? a = some (tupV vs)) (hi : IntsAre vs ks) : Reads h (.ref a) (.tuple (ks.map PyData.int)) [] :=
  Reads.tuple e rfl rfl (by simpa using readsAll_of_ints hi)
theorem told_reads {h : Heap} {la ta tb : Addr} {rv : Value} {res : Option (List Int)} {k : Nat} {va ua : List Value} {ks ms : List Int} {as : List Addr} {items : Array Value} (h1 : h.get? la = some (W.listOf items k)) (hit : items.toList = [rv, refOf res, .ref ta, .ref tb]) (h2 : h.get? ta = some (tupV va)) (h3 : h.get? tb = some (tupV ua)) (hv : IntsAre va ks) (hu : IntsAre ua ms) (R : Reads h rv (ringD res) as) : ∃ bs, Reads h (.ref la) (toldD res ks ms) bs :=
  ⟨_, Reads.list h1 rfl rfl (by rw [hit]; exact .cons R (.cons ref_reads (.cons (tup_reads h2 hv) (.cons (tup_reads h3 hu) .nil))))⟩
theorem due_items {res : Option (List Int)} {itd : Array Value} {dx : List (Addr × Obj)} (D : DueR res itd dx) : ∃ rv, RingR res rv dx ∧ itd.toList = [rv, refOf res] := by
  rcases D with ⟨rfl, rfl, rfl⟩ | ⟨r, c, its, n, rfl, rfl, rfl, hi⟩
  · exact ⟨_, .inl ⟨rfl, rfl, rfl⟩, rfl⟩
  · exact ⟨_, .inr ⟨r, c, its, n, rfl, rfl, rfl, hi⟩, rfl⟩
theorem shaped_told (res : Option (List Int)) (ks ms : List Int) : shaped (toldD res ks ms) = true := by
  have h1 := canLayAll0_ints ks
  have h2 := canLayAll0_ints ms
  have d1 := W.depthAll_ints ks
  have d2 := W.depthAll_ints ms
  cases res with
  | none =>
    simp only [shaped, toldD, ringD, refD, PyData.canLay0, PyData.canLayAll0, PyData.depth, PyData.depthAll, h1, h2, Bool.and_eq_true, decide_eq_true_eq, Bool.and_self, Bool.true_and]
    omega
  | some r =>
    have h3 := canLayAll0_ints r
    have d3 := W.depthAll_ints r
    simp only [shaped, toldD, ringD, refD, PyData.canLay0, PyData.canLayAll0, PyData.depth, PyData.depthAll, h1, h2, h3, Bool.and_eq_true, decide_eq_true_eq, Bool.and_self, Bool.true_and]
    omega
theorem ne_told {prog : Program} {w : World} {A : Around} {E : Value → Shared → Prop} {s : Shared} {Q : Value → Shared → Prop} {a b : Value} {res : Option (List Int)} {ks ms : List Int} {as bs : List Addr} (ra : Reads s.heap a (toldD res ks ms) as) (rb : Reads s.heap b (toldD res ks ms) bs) (hu : A.units + 64 < cLine) (h : Q (.bool false) s) : wpAny (model prog w) A (compareOp .NotEq a b) Q E s := by
  refine ne_dataH_same ra rb (shaped_told res ks ms) (shaped_told res ks ms) hu ?_ ?_
  · cases res <;> simp [toldD, ringD, refD, noMix, noMixAll, noMix_ints]
  · have e : PySem.Spec.same (toldD res ks ms) (toldD res ks ms) = true := by
      cases res <;> simp [toldD, ringD, refD, PySem.Spec.same, PySem.Spec.sameAll, same_ints]
    rw [e]; exact h
end
end Mine
end
section
namespace Mine
theorem foldl_min_le (l : List Nat) : ∀ x, l.foldl min x ≤ x ∧ ∀ a ∈ l, l.foldl min x ≤ a := by
  induction l with
  | nil => intro x; simp
  | cons b l ih =>
    intro x
    obtain ⟨h1, h2⟩ := ih (min x b)
    rw [List.foldl_cons]
    refine ⟨by omega, fun a ha => ?_⟩
    rcases List.mem_cons.mp ha with rfl | ha
    · omega
    · exact h2 a ha
theorem foldl_min_mem (l : List Nat) : ∀ x, l.foldl min x = x ∨ l.foldl min x ∈ l := by
  induction l with
  | nil => intro x; simp
  | cons b l ih =>
    intro x
    rw [List.foldl_cons]
    rcases ih (min x b) with h | h
    · rw [h]
      rcases Nat.le_total x b with z | z
      · exact .inl (Nat.min_eq_left z)
      · rw [Nat.min_eq_right z]; exact .inr (.head _)
    · exact .inr (.tail _ h)
theorem minN_of {l : List Nat} {M : Int} (h1 : M ∈ l.map fun x : Nat => (x : Int)) (h2 : ∀ a, a ∈ (l.map fun x : Nat => (x : Int)) → M ≤ a) : M = (minN l : Nat) := by
  obtain ⟨k, hk, rfl⟩ := List.mem_map.mp h1
  have hm : minN l ∈ l := by
    cases l with
    | nil => cases hk
    | cons b l =>
      unfold minN
      rcases foldl_min_mem (b :: l) ((b :: l).headD 0) with h | h
      · rw [h]; exact .head _
      · exact h
  have h3 : minN l ≤ k := (foldl_min_le l _).2 k hk
  have h4 := h2 _ (List.mem_map_of_mem hm)
  omega
theorem eq_nz (x : Nat) : ((x : Int) == 0) = decide (x = 0) := by
  by_cases z : x = 0
  · subst z; rfl
  · have : ¬ ((x : Int) = 0) := by omega
    simp [z]
theorem left_in {n : Nat} {cs : List Int} {p : Int} (h : p ∈ leftN n cs) : 0 ≤ p ∧ p < n := by
  unfold leftN at h
  obtain ⟨i, hi, rfl⟩ := List.mem_map.mp (List.mem_filter.mp h).1
  have := List.mem_range.mp hi
  omega
theorem mult_of (r d : Nat) : ((((List.range d).map fun i : Nat => (1 : Int) + (i : Int)).filter fun k => Int.fmod ((r : Int) * k) (d : Int) == 0).map fun k => (r : Int) * k) = (multN r d).map fun x : Nat => (x : Int) := by
  unfold multN
  rw [List.filter_map, List.map_map, List.map_map, List.filter_map, List.map_map]
  have e : (List.range d).filter ((fun k => Int.fmod ((r : Int) * k) (d : Int) == 0) ∘ fun i : Nat => (1 : Int) + (i : Int)) = (List.range d).filter ((fun x => decide (x % d = 0)) ∘ ((fun x => r * x) ∘ fun x => x + 1)) := by
    apply List.filter_congr
    intro i _
    simp only [Function.comp]
    have e1 : (r : Int) * ((1 : Int) + (i : Int)) = ((r * (i + 1) : Nat) : Int) := by rw [Int.natCast_mul]; congr 1; omega
    rw [e1, Int.fmod_eq_emod_of_nonneg _ (Int.natCast_nonneg _), ← Int.natCast_emod]
    exact eq_nz _
  rw [e]
  apply List.map_congr_left
  intro i _
  simp only [Function.comp]
  rw [Int.natCast_mul]; congr 1; omega
theorem mult_pos {r d : Nat} (hd : 1 ≤ d) : 0 < (multN r d).length := by
  apply List.length_pos_of_mem (a := r * d)
  unfold multN
  rw [List.mem_filter]
  refine ⟨List.mem_map.mpr ⟨d, List.mem_map.mpr ⟨d - 1, List.mem_range.mpr (by omega), by omega⟩, rfl⟩, ?_⟩
  rw [decide_eq_true_eq]
  exact Nat.mul_mod_left r d
theorem gcnt_get (g : List (Int × Int × List Int)) (k : Int) : (getP g k).length ≤ g.length + 1 := by
  unfold getP
  split
  · omega
  · simp
theorem gcnt_fold (k : Int) (ps : List Int) : ∀ g : List (Int × Int × List Int), (ps.foldl (fun g p => sucP (getP g p) p k) g).length ≤ g.length + ps.length := by
  induction ps with
  | nil => intro g; simp
  | cons p ps ih =>
    intro g
    rw [List.foldl_cons]
    have h1 := ih (sucP (getP g p) p k)
    have h2 := gcnt_get g p
    have h3 : (sucP (getP g p) p k).length = (getP g p).length := by simp [sucP]
    rw [List.length_cons]
    omega
theorem gcnt_add (g : List (Int × Int × List Int)) (k : Int) (ps : List Int) : (addP g k ps).length ≤ g.length + 1 + ps.length := by
  unfold addP
  have h1 := gcnt_fold k ps (incP (getP g k) k ps.length)
  have h2 := gcnt_get g k
  have h3 : (incP (getP g k) k ps.length).length = (getP g k).length := by simp [incP]
  omega
theorem gcnt_step (cs : List Int) (g : List (Int × Int × List Int)) (p : Int) : (stepP cs g p).length ≤ g.length + 4 := by
  unfold stepP
  split
  · have := gcnt_add g p [-1, -1]
    simp only [List.length_cons, List.length_nil] at this
    omega
  · have := gcnt_add g p [-1, cs.getD p.toNat 0, -1]
    simp only [List.length_cons, List.length_nil] at this
    omega
theorem gcnt_sort (cs ps : List Int) : (sortP cs ps).length ≤ 1 + 4 * ps.length := by
  unfold sortP
  have key : ∀ g : List (Int × Int × List Int), (ps.foldl (stepP cs) g).length ≤ g.length + 4 * ps.length := by
    induction ps with
    | nil => intro g; simp
    | cons p ps ih =>
      intro g
      rw [List.foldl_cons, List.length_cons]
      have h1 := ih (stepP cs g p)
      have h2 := gcnt_step cs g p
      omega
  have h1 := key (addP [] (-1) [])
  have h2 := gcnt_add [] (-1) []
  simp only [List.length_nil] at h2
  omega
end Mine
end
section
open PySem PySem.W PySem.W.X PySem.Calls PyProof.Rows PySem.SeqAt
set_option maxRecDepth 100000
namespace Mine
section
variable {prog : Program} {w : World} {A : Around} {E : Value → Shared → Prop} {s : Shared}
theorem any_isInt {k : Int} {vs : List Value} {ns : List Int} (h : IntsAre vs ns) : vs.any (isInt k) = decide (k ∈ ns) := by
  induction h with
  | nil => simp
  | cons n t _ ih =>
    rw [List.any_cons, ih]
    by_cases e : n = k
    · subst e; simp [isInt]
    · have : ¬ k = n := fun z => e z.symm
      simp [isInt, e, this]
theorem notIn_ints {l : Addr} {vs : List Value} {ns : List Int} {k : Int} {t : Tok} {Q : Value → Shared → Prop} (hl : s.heap.IsList l vs.toArray) (hi : IntsAre vs ns)
    (h : Q (.bool (decide (k ∉ ns))) s) : wpAny (model prog w) A (compareOp .NotIn (.int k t) (.ref l)) Q E s := by
  refine notIn_listAt (isInt k) hl (fun y hy => (eq_isInt k t hi y (by simpa using hy)).at _ _) ?_
  have e : (!vs.toArray.any (isInt k)) = decide (k ∉ ns) := by
    rw [List.any_toArray, any_isInt hi]
    by_cases z : k ∈ ns <;> simp [z]
  rw [e]; exact h
end
end Mine
end
section
open PySem PySem.W PySem.W.X PySem.Calls PyProof.Rows
set_option maxRecDepth 100000
namespace Mine
theorem iter_lt {n : Nat} {ws : List Nat} (hw : ∀ v ∈ ws, 0 < v ∧ v ≤ 20 ∧ n % v = 0) : ∀ (k p : Nat), p < n → iterN ws k p < n := by
  intro k
  induction k with
  | zero => intro p hp; exact hp
  | succ k ih => intro p hp; exact ih _ (src_lt hw hp)
theorem row_get {ns : List Int} {n p : Nat} (hp : p < n) : ∃ c, (byteArr (rowL ns n))[p]? = some c ∧ (c.toNat : Int) = Int.fmod (ns.sum + 37 * (p : Int)) 256 := by
  have hb : (byteArr (rowL ns n)).size = n := by rw [byteArr_size, rowL_len]
  have hbi : KBw.bInts (byteArr (rowL ns n)) = rowL ns n := KBa.ints_make (row_in ns n)
  have h1 : (byteArr (rowL ns n))[p]? = some (byteArr (rowL ns n))[p] := Array.getElem?_eq_getElem (by omega)
  refine ⟨_, h1, ?_⟩
  have h2 := KBw.ints_get h1
  rw [hbi, rowL_at ns hp] at h2
  exact (Option.some.inj h2).symm
theorem row_iter {ns : List Int} {n : Nat} {ws : List Nat} {b : Array UInt8} {k : Nat} (hn : n ≤ 20) (hw : ∀ v ∈ ws, 0 < v ∧ v ≤ 20 ∧ n % v = 0) (hb : b.size = n) (h : ∀ p, p < n → b[p]? = (byteArr (rowL ns n))[iterN ws k p]?) :
    (b.toList == (byteArr (rowL ns n)).toList) = isId n ws k := by
  have hbr : (byteArr (rowL ns n)).size = n := by rw [byteArr_size, rowL_len]
  rw [Bool.eq_iff_iff, beq_iff_eq]
  unfold isId
  rw [List.all_eq_true]
  constructor
  · intro e p hp
    have hp := List.mem_range.mp hp
    have hi := iter_lt hw k p hp
    have e1 : b[p]? = (byteArr (rowL ns n))[p]? := by rw [← Array.getElem?_toList, e, Array.getElem?_toList]
    rw [h p hp] at e1
    obtain ⟨c, hc, hc2⟩ := row_get (ns := ns) hp
    obtain ⟨d, hd, hd2⟩ := row_get (ns := ns) hi
    rw [hc, hd] at e1
    cases e1
    rw [hd2] at hc2
    rw [beq_iff_eq]
    exact rowL_inj hn hi hp hc2
  · intro e
    have : b = byteArr (rowL ns n) := by
      apply Array.ext_getElem?
      intro p
      by_cases hp : p < n
      · have := e p (List.mem_range.mpr hp)
        rw [beq_iff_eq] at this
        rw [h p hp, this]
      · rw [Array.getElem?_eq_none (by omega), Array.getElem?_eq_none (by omega)]
    rw [this]
theorem iter_step {ns : List Int} {n : Nat} {ws : List Nat} {b r : Array UInt8} {k : Nat} (hw : ∀ v ∈ ws, 0 < v ∧ v ≤ 20 ∧ n % v = 0) (h : ∀ p, p < n → b[p]? = (byteArr (rowL ns n))[iterN ws k p]?) (hr : ∀ p, p < n → r[p]? = b[ws.foldr sg p]?) : ∀ p, p < n → r[p]? = (byteArr (rowL ns n))[iterN ws (k + 1) p]? := by
  intro p hp
  rw [hr p hp, h _ (src_lt hw hp)]
  rfl
theorem cmp_rr (i rr : Nat) : ((1 + (i : Int)) == (rr : Int)) = decide (i + 1 = rr) := by
  by_cases h : i + 1 = rr
  · have : 1 + (i : Int) = (rr : Int) := by omega
    simp [h, this]
  · have : ¬ 1 + (i : Int) = (rr : Int) := by omega
    simp [h, this]
theorem kept_in {n : Nat} {cs : List Int} {p : Int} (h : p ∈ keptN n cs) : 0 ≤ p ∧ p < n := by
  unfold keptN at h
  exact rangeI_in (List.mem_filter.mp h).1
end Mine
end
section
open PySem PySem.W PySem.W.X PySem.Calls PyProof.Rows
set_option Elab.async false
set_option maxRecDepth 100000
set_option maxHeartbeats 1000000
namespace Mine
/-- the sorter's search, as a method -/
theorem meth_find {w : World} {mean : ExcName → Option Value} {mg mb : Str → Option Value} {A : Around} {s : Shared} {E : Value → Shared → Prop} {Q : Value × List Value → Shared → Prop} {H : Heap} {L : Addr} {m : Str → Option Value}
    {sa : Addr} {rv pv fv : Value} {gr : Gr} {own ext : List (Addr × Obj)} {pl : Sem Bool}
    (F : Fr H L s.heap m) (X : Frag.In (Mine.hd.heap_39 w.params) H) (T : Top Mine.hd.view_39 (looseW Mine.hd.view_39 [Str.ofString "_NodeInfo"]) mean mg mb H)
    (N : News H L s.heap (own ++ ext)) (S : SoL w sa rv pv fv gr own) (h : Q (.ref 134, [.ref sa]) s) :
    wpAny (model PySem.Challenge.rw_nb0242_01.row.prog w) A (getMethod (.ref sa) (Str.ofString "_find_cycle") pl) Q E s := by
  revert X T; w_top off; k_fill; intro X T
  obtain ⟨dx, nd, od, t1, t2, t3, t4, rs, rfl, -, -, -, -⟩ := S
  have I : InstAt s.heap sa (instObj 144 dx) 144 (some (at0 w.params nd rv pv fv t1 t2 t3 t4)) := ⟨(N (sa, instObj 144 dx) (.head _)).1, rfl, rfl, (N (dx, at0 w.params nd rv pv fv t1 t2 t3 t4) (.tail _ (.head _))).1⟩
  clear N
  refine method_inst F X I ?k4 ?k5 ?k6 ?k7 h
  case k4 => k_is
  case k5 => k_is
  case k6 => k_is
  case k7 => k_get
end Mine
end
section
open PySem PySem.W PySem.W.X PySem.Calls PyProof.Rows
set_option Elab.async false
set_option maxRecDepth 100000
namespace Mine
section
variable {prog : Program} {w : World} {A : Around} {E : Value → Shared → Prop} {s : Shared} {env : Env} {h₀ : Heap}
/-- a loop over range(1, k + 1) in the clean layer -/
theorem loop_rng {Q : Flow → Shared → Prop} {x : Str} {px : Pos} {body : List Stmt} {l r : Addr} {lo : Obj} {k : Nat} {t u v : Tok} {m₀ : Str → Option Value} {news : List (Addr × Obj)} (Inv : Nat → (Str → Option Value) → List (Addr × Obj) → Prop)
    (hh : A.handled = none) (hr : IsRange s.heap r 1 ((k : Int) + 1) 1 t u v) (hk1 : k ≤ 1000) (hx : env.kindOf x = some .local) (hp : (env.scope.kind == .class || (env.scope.kind == .module && env.locals != env.globals)) = false)
    (hlo : s.heap.get? l = some lo) (F : Fr h₀ env.locals s.heap m₀) (N : News h₀ env.locals s.heap news) (hlL : l ≠ env.locals) (hk : h₀.get? l = some lo ∨ (l, lo) ∈ news)
    (h0 : Inv 0 m₀ news)
    (step : ∀ I i t m₁ news₁ h tk oI, i < k → Inv i m₁ news₁ → (∀ p ∈ news₁, p.1 ≠ I) → h.get? l = some lo → Fr h₀ env.locals h (fun y => if y = x then some (.int (1 + (i : Int)) t) else m₁ y) → News h₀ env.locals h ((I, oI) :: news₁) →
      wpC (model prog w) A (execs body env) (UnrPost h₀ env.locals { s with heap := h, toks := tk } I oI (fun m' n' => Inv (i + 1) m' n' ∧ (h₀.get? l = some lo ∨ (l, lo) ∈ n')) Q) (fun _ _ => False) { s with heap := h, toks := tk })
    (done : ∀ m₁ news₁ h tk, Inv k m₁ news₁ → Fr h₀ env.locals h m₁ → News h₀ env.locals h news₁ → Q .next { s with heap := h, toks := tk }) :
    wpAny (model prog w) A (pyIter (.ref r)) (fun it s₂ => codeC (model prog w) A (.forLoop (.Name x px) it body [] env) (fun r s' => match r with | .ok f => Q f s' | .error _ => False) s₂) E s := by
  refine wpAny_pyIter_range hr (small_one hk1) ?_
  rw [size_one1]
  have hlt : l < s.heap.objs.size := Heap.lt_size hlo
  refine loopC (l := l) (lo := lo) (fp := [s.heap.objs.size]) (icls := .type "range_iterator") Inv (LCg.range_walks hh 1 k) hx hp (fun b hb => .inl (List.mem_singleton.mp hb)) (fun i h st => ⟨_, st, rfl⟩)
    (Heap.get?_push_of_some _ hlo) ?_ (Nat.ne_of_lt hlt) (F.push _) (N.pushKeep _) F.fresh (Nat.ne_of_gt F.ns.lt) hlL N.apart hk h0 ?_ done
  · show IsRangeIter _ _ _ _ _
    rw [show (1 : Int) + ((0 : Nat) : Int) * 1 = 1 from rfl, show (k : Int) - ((0 : Nat) : Int) = k from by omega]
    exact Heap.get?_push_size _ rfl
  · rintro i v m₁ news₁ h tk oI hi ⟨t, rfl⟩ hI hoff hlo' _ F₁ N₁
    exact step _ i t m₁ news₁ h tk oI hi hI hoff hlo' F₁ N₁
end
end Mine
end
section
open PySem PySem.W PySem.W.X PySem.Calls PyProof.Rows
set_option maxRecDepth 100000
namespace Mine
section
variable {s₁ : Shared} {L : Addr} {P : (Str → Option Value) → List (Addr × Obj) → Prop}
theorem LM.elim {f : Flow} {s' : Shared} {G : Flow → Shared → Prop} (x : LM s₁ L P f s') (k : ∀ h tk m news, Fr s₁.heap L h m → News s₁.heap L h news → P m news → G .next { s₁ with heap := h, toks := tk }) : G f s' := by
  obtain ⟨rfl, h, tk, m, news, rfl, F, N, hP⟩ := x
  exact k h tk m news F N hP
theorem LM.intro {h : Heap} {tk : Nat} {m : Str → Option Value} {news : List (Addr × Obj)} (F : Fr s₁.heap L h m) (hP : P m news) (N : News s₁.heap L h news) : LM s₁ L P .next { s₁ with heap := h, toks := tk } := ⟨rfl, h, tk, m, news, rfl, F, N, hP⟩
theorem CompD.elim {m : Str → Option Value} {news : List (Addr × Obj)} {xs : List Int} {v : Value} {s' : Shared} {G : Value → Shared → Prop} (x : CompD s₁ L m news xs v s')
    (k : ∀ D h tk ys n, Fr s₁.heap L h m → News s₁.heap L h ((D, W.listOf ys n) :: news) → (∀ p ∈ news, p.1 ≠ D) → IntsAre ys.toList xs → G (.ref D) { s₁ with heap := h, toks := tk }) : G v s' := by
  obtain ⟨D, h, tk, ys, n, rfl, rfl, F, N, ho, hy⟩ := x
  exact k D h tk ys n F N ho hy
theorem CompD.intro {m : Str → Option Value} {news : List (Addr × Obj)} {xs : List Int} {D : Addr} {h : Heap} {tk : Nat} {ys : Array Value} {n : Nat} (F : Fr s₁.heap L h m) (N : News s₁.heap L h ((D, W.listOf ys n) :: news)) (ho : ∀ p ∈ news, p.1 ≠ D) (hy : IntsAre ys.toList xs) :
    CompD s₁ L m news xs (.ref D) { s₁ with heap := h, toks := tk } := ⟨D, h, tk, ys, n, rfl, rfl, F, N, ho, hy⟩
end
section
variable {M : Model} {A : Around} {s : Shared} {t : Sem Flow} {u : Sem Value} {s₁ : Shared} {L : Addr}
theorem cutA {Q : Flow → Shared → Prop} (P : (Str → Option Value) → List (Addr × Obj) → Prop) (h1 : ∀ Q' : Flow → Shared → Prop, (∀ f s, LM s₁ L P f s → Q' f s) → wpAny M A t Q' (fun _ _ => False) s)
    (h2 : ∀ h tk m news, Fr s₁.heap L h m → News s₁.heap L h news → P m news → Q .next { s₁ with heap := h, toks := tk }) : wpAny M A t Q (fun _ _ => False) s :=
  wpAny_mono (h1 _ fun _ _ x => x) (fun _ _ x => LM.elim x h2) fun _ _ x => x
theorem cutC {Q : Flow → Shared → Prop} (P : (Str → Option Value) → List (Addr × Obj) → Prop) (h1 : ∀ Q' : Flow → Shared → Prop, (∀ f s, LM s₁ L P f s → Q' f s) → wpC M A t Q' (fun _ _ => False) s)
    (h2 : ∀ h tk m news, Fr s₁.heap L h m → News s₁.heap L h news → P m news → Q .next { s₁ with heap := h, toks := tk }) : wpC M A t Q (fun _ _ => False) s :=
  wpC_mono (h1 _ fun _ _ x => x) (fun _ _ x => LM.elim x h2) fun _ _ x => x
theorem cutD {Q : Value → Shared → Prop} (m : Str → Option Value) (news : List (Addr × Obj)) (xs : List Int) (h1 : ∀ Q' : Value → Shared → Prop, (∀ f s, CompD s₁ L m news xs f s → Q' f s) → wpAny M A u Q' (fun _ _ => False) s)
    (h2 : ∀ D h tk ys n, Fr s₁.heap L h m → News s₁.heap L h ((D, W.listOf ys n) :: news) → (∀ p ∈ news, p.1 ≠ D) → IntsAre ys.toList xs → Q (.ref D) { s₁ with heap := h, toks := tk }) : wpAny M A u Q (fun _ _ => False) s :=
  wpAny_mono (h1 _ fun _ _ x => x) (fun _ _ x => CompD.elim x h2) fun _ _ x => x
end
section
variable {H h : Heap} {L : Addr} {v1 v2 v3 v4 v5 v6 v7 v8 : Option Value} {rest news : List (Addr × Obj)}
theorem CV.elim {p : Prop} (x : CV L v1 v2 v3 v4 v5 v6 v7 v8 rest news) (N : News H L h news) (k : ∀ o1 o2 o3 o4 o5 o6 o7 o8, News H L h (celL L o1 o2 o3 o4 o5 o6 o7 o8 rest) → o1.data = .cell v1 → o2.data = .cell v2 → o3.data = .cell v3 → o4.data = .cell v4 → o5.data = .cell v5 → o6.data = .cell v6 → o7.data = .cell v7 → o8.data = .cell v8 → p) : p := by
  obtain ⟨o1, o2, o3, o4, o5, o6, o7, o8, rfl, d1, d2, d3, d4, d5, d6, d7, d8⟩ := x
  exact k o1 o2 o3 o4 o5 o6 o7 o8 N d1 d2 d3 d4 d5 d6 d7 d8
theorem CV.intro {o1 o2 o3 o4 o5 o6 o7 o8 : Obj} (d1 : o1.data = .cell v1) (d2 : o2.data = .cell v2) (d3 : o3.data = .cell v3) (d4 : o4.data = .cell v4) (d5 : o5.data = .cell v5) (d6 : o6.data = .cell v6) (d7 : o7.data = .cell v7) (d8 : o8.data = .cell v8) :
    CV L v1 v2 v3 v4 v5 v6 v7 v8 rest (celL L o1 o2 o3 o4 o5 o6 o7 o8 rest) := ⟨o1, o2, o3, o4, o5, o6, o7, o8, rfl, d1, d2, d3, d4, d5, d6, d7, d8⟩
end
end Mine
end
section
open PySem PySem.W PySem.W.X PySem.Calls PyProof.Rows
set_option Elab.async false
set_option maxRecDepth 100000
set_option maxHeartbeats 4000000
set_option pp.deepTerms false
set_option pp.deepTerms.threshold 4
namespace Mine
local macro_rules | `(tactic| walk_at "pyIter ref") => `(tactic| refine stop_in ?_)
local macro_rules | `(tactic| walk_at "subscriptTail Name Slice ref ref") => `(tactic| refine stop_in ?_)
local macro_rules | `(tactic| walk_at "subscriptTail") => `(tactic| ((with_reducible show wpAny _ _ (subscriptTail _ _ (Value.ref _) (Value.ref _)) _ _ _); refine stop_in ?_))
local macro_rules | `(tactic| walk_at "eval ListComp") => `(tactic| refine stop_in ?_)
local macro_rules | `(tactic| walk_at "call type:bytes") => `(tactic| refine stop_in ?_)
local macro_rules | `(tactic| walk_at "call type:list") => `(tactic| refine stop_in ?_)
local macro_rules | `(tactic| walk_at "unpackItems ref") => `(tactic| refine stop_in ?_)
local macro_rules | `(tactic| walk_at "storeName") => `(tactic| ((with_reducible show wpAny _ _ (storeName _ (Str.ofString "row") _) _ _ _); refine stop_in ?_))
local macro_rules | `(tactic| walk_at "storeName") => `(tactic| ((with_reducible show wpAny _ _ (storeName _ (Str.ofString "came") _) _ _ _); refine stop_in ?_))
local macro_rules | `(tactic| walk_at "call builtin:sum") => `(tactic| refine stop_in ?_)
local macro_rules | `(tactic| walk_at "exec For Name Name cons nil") => `(tactic| ((rename Fr _ _ _ _ => lF'); (with_unfolding_all refine' For_invVF lF' ?k1 ?k2 ?_; (case k1 => exact rfl); (case k2 => exact rfl); k_whole)))
local macro_rules | `(tactic| walk_at "call ref") => `(tactic| ((with_reducible show wpAny _ _ (call (Value.ref _) _) _ _ _); refine stop_in ?_))
local macro_rules | `(tactic| walk_at "eval Name") => `(tactic| (k_dflt (refine' nameX_L ?k1 ?k2 ?_; (case k1 => k_asm); (case k2 => first | exact rfl | assumption); k_whole)))
local macro_rules | `(tactic| walk_at "pyIter bytes") => `(tactic| refine stop_in ?_)
local macro_rules | `(tactic| walk_at "storeName") => `(tactic| ((with_reducible show wpAny _ _ (storeName _ (Str.ofString "octets") _) _ _ _); refine stop_in ?_))
local macro_rules | `(tactic| walk_at "subscriptTail") => `(tactic| ((with_reducible show wpAny _ _ (subscriptTail _ _ (Value.bytes _ _) (Value.int _ _)) _ _ _); refine stop_in ?_))
local macro_rules | `(tactic| walk_at "subscriptTail Name Name bytes int") => `(tactic| refine stop_in ?_)
local macro_rules | `(tactic| walk_at "compareOp NotEq ref ref") => `(tactic| refine stop_in ?_)
local macro_rules | `(tactic| walk_at "getMethod ref") => `(tactic| ((with_reducible show wpAny _ _ (getMethod _ (Str.ofString "index") _) _ _ _); refine stop_in ?_))
local macro_rules | `(tactic| walk_at "call builtin:list.index") => `(tactic| refine stop_in ?_)
local macro_rules | `(tactic| walk_at "storeName") => `(tactic| ((with_reducible show wpAny _ _ (storeName _ (Str.ofString "rounds") _) _ _ _); refine stop_in ?_))
local macro_rules | `(tactic| walk_at "storeName") => `(tactic| ((with_reducible show wpAny _ _ (storeName _ (Str.ofString "ring") _) _ _ _); refine stop_in ?_))
local macro_rules | `(tactic| walk_at "call type:tuple") => `(tactic| refine stop_in ?_)
local macro_rules | `(tactic| walk_at "compareOp Eq ref ref") => `(tactic| refine stop_in ?_)
local macro_rules | `(tactic| walk_at "call builtin:len") => `(tactic| refine stop_in ?_)
local macro_rules | `(tactic| walk_at "exec Assign cons ListComp") => `(tactic| refine stop_in ?_)
local macro_rules | `(tactic| walk_at "call builtin:min") => `(tactic| refine stop_in ?_)
local macro_rules | `(tactic| walk_at "compareOp NotIn int ref") => `(tactic| refine stop_in ?_)
local macro_rules | `(tactic| walk_at "getMethod ref") => `(tactic| ((with_reducible show wpAny _ _ (getMethod _ (Str.ofString "_find_cycle") _) _ _ _); refine stop_in ?_))
local macro_rules | `(tactic| k_in) => `(tactic| assumption)
set_option maxHeartbeats 4000000 in
theorem law_holds : PySem.Challenge.rw_nb0242_01.Holds := Mine.hd (by
  w_top off; k_fill
  intro w s₀ s₁ mg mb G Y fa o pm cd doc dV kV ho hd hcd hD hmg hg args vals as hpre hlay hrd hwl hlo
  have KX := kIn_of Y
  have X := (Ground.X G).1
  have V := (Ground.X G).2
  refine Ground.open G ?_
  intro T B D TE TW
  try (refine guard_noD D (by decide +kernel) ?_; clear D)
  obtain ⟨_, _, M⟩ := bmod_of_top T
  have TA := at_of_top T
  try (obtain ⟨_, _, he, B0⟩ := based_of_top T rfl hmg ho hd; have he' : cd = _ := he; subst he'; clear he)
  clear hmg
  wrow_args hpre hlay hrd hwl hlo
  rename List Int => ns
  rename IntsAre _ _ => hi
  rename Heap.IsList _ _ _ => hL
  rename List Value => vs
  rename Addr => l
  have hlen : ns.length ≤ 63 := by omega
  have hdV := Dflts.none hD rfl
  have hkV := Dflts.noKw hD
  subst hdV hkV
  refine wpC_call (codeC_mono (R := EndL s₁) ?_ (fun r s' he => ?_))
  · refine codeC_call_cells (binds := [(Str.ofString "script", .ref _)]) (by decide) ho hd T.nolimit hcd rfl rfl rfl (by dsimp only [docDef]; simp [cellsFrom]; first | done | decide) (by dsimp only [docDef]; decide) (fun h₁ tk cells F N CA => ?_) rfl rfl rfl
    refine hide fun G' back' => ?_
    change CellsAre _ (_ :: _ :: _ :: _ :: _ :: _ :: _ :: _ :: []) cells at CA
    cases CA with | @cons n1 c1 o1 _ _ d1 CA =>
    cases CA with | @cons n2 c2 o2 _ _ d2 CA =>
    cases CA with | @cons n3 c3 o3 _ _ d3 CA =>
    cases CA with | @cons n4 c4 o4 _ _ d4 CA =>
    cases CA with | @cons n5 c5 o5 _ _ d5 CA =>
    cases CA with | @cons n6 c6 o6 _ _ d6 CA =>
    cases CA with | @cons n7 c7 o7 _ _ d7 CA =>
    cases CA with | @cons n8 c8 o8 _ _ d8 CA =>
    cases CA
    refine back' ?_
    clear back' G'
    generalize hLL : s₁.heap.objs.size = L at *
    show wpC _ (callerA.deeper (envOfC _ _ L fa _)) (execs _ (envOfC _ _ L fa _)) _ _ _
    have N₁ : News s₁.heap L h₁ (celL L o8 o7 o6 o5 o4 o3 o2 o1 []) := N
    clear N
    have K0 : Below callerA s₁.heap [] s₁.heap := below_caller (Top.heap T)
    replace d1 : o1.data = .cell none := d1
    replace d2 : o2.data = .cell none := d2
    replace d3 : o3.data = .cell none := d3
    replace d4 : o4.data = .cell none := d4
    replace d5 : o5.data = .cell none := d5
    replace d6 : o6.data = .cell none := d6
    replace d7 : o7.data = .cell none := d7
    replace d8 : o8.data = .cell (some (.ref l)) := d8
    clear G Y V B TE TW M TA B0 hcd hD hd ho
    refine wpC_execs_cons ?_
    refine wpC_of ?_
    refine cutA (s₁ := s₁) (L := L) (fun m news => ∃ t, CV L (some (.ref l)) (some (.int (sizeN ns) t)) none none none none none none [] news) (fun Q' back => ?_) ?_
    · k_steps
      all_goals
        rename Fr _ _ _ _ => F'
        rename News _ _ _ _ => N'
        rename _ = Data.cell (some (Value.int _ _)) => dN
        rename Int.fmod _ _ = _ => kEq
        have hsz := size_of kEq
        refine back _ _ (LM.intro F' ⟨_, CV.intro d8 (by rw [hsz]; exact dN) d6 d5 d4 d3 d2 d1⟩ (fun q hq => N' q (.tail _ (.tail _ (.tail _ hq)))))
    clear F N₁ d1 d2 d3 d4 d5 d6 d7 d8
    intro h₂ tk₂ m₂ news₂ F N0 hP
    refine hide fun G' back' => ?_
    obtain ⟨tz, hCV⟩ := hP
    refine CV.elim hCV N0 (fun o1 o2 o3 o4 o5 o6 o7 o8 N d1 d2 d3 d4 d5 d6 d7 d8 => ?_)
    clear hCV N0
    refine back' ?_
    clear back' G'
    dsimp only
    have hn := size_cases ns
    generalize hnn : sizeN ns = n at *
    have hn20 : n ≤ 20 := by omega
    have hn6 : 6 ≤ n := by omega
    refine wpC_execs_cons ?_
    refine wpC_of ?_
    refine cutA (s₁ := s₁) (L := L) (fun m news => ∃ t pl its k, CV L (some (.ref l)) (some (.int n t)) (some (.ref pl)) none none none none none [(pl, W.listOf its k)] news ∧ IntsAre its.toList ((partsN n).map fun w : Nat => (w : Int))) (fun Q' back => ?_) ?_
    · refine asg rfl (cutD (s₁ := s₁) (L := L) m₂ (celL L o1 o2 o3 o4 o5 o6 o7 o8 []) ((partsN n).map fun w : Nat => (w : Int)) (fun Q₂ backD => ?_) ?_)
      · refine wpAny_ListComp_free (cl := [(Str.ofString "size", L + 1 + 1)]) (pOf fun k => Int.fmod (n : Int) k == 0) (fOf fun k => k) rfl (by decide) rfl (by decide) rfl ?_
        k_steps
        rename IsRange _ _ _ _ _ _ _ _ => hr
        rename Fr _ _ _ _ => F₃
        rename News _ _ _ _ => N₃
        refine Stop.out (comp_src (L := L) (m := m₂) (fun k => Int.fmod (n : Int) k == 0) (fun k => k) rfl (Src.range hr (small_one (by omega)) (size_one1 n)) (by simp; omega) F₃ N₃ ?_ ?_)
        · rintro C oC m₃ i k t hp₃ gn₃ dr₃ tk₃ os₃ E' hk hoC hx F₄ N₄
          obtain ⟨hk1, hk2⟩ := mem_up hk
          clear F₃ N₃
          dsimp only at *
          refine ⟨wpAny_tests_one ?_, fun _ => ?_⟩
          · k_steps
            exact ⟨_, _, rfl, fun _ _ e => e⟩
          · k_steps
            exact ⟨_, _, rfl, fun _ _ e => e⟩
        · intro D h tk ys k F₄ N₄ hoD hys
          rw [parts_of hn] at hys
          exact backD _ _ (CompD.intro F₄ N₄ hoD hys)
      · intro D h tk ys k F₄ N₄ hoD hys
        clear F N
        refine st3 F₄ (cel_in N₄) d3 (nc_list nc_nil) (fun h' o' F' N' d' => ?_) rfl rfl rfl
        exact back _ _ (LM.intro F' ⟨tz, D, ys, k, (CV.intro d1 d2 d' d4 d5 d6 d7 d8), hys⟩ N')
    clear F N d1 d2 d3 d4 d5 d6 d7 d8
    intro h₃ tk₃ m₃ news₃ F N0 hP
    refine hide fun G' back' => ?_
    obtain ⟨tz, pl, its, kp, hCV, hip⟩ := hP
    refine CV.elim hCV N0 (fun o1 o2 o3 o4 o5 o6 o7 o8 N d1 d2 d3 d4 d5 d6 d7 d8 => ?_)
    clear hCV N0
    refine back' ?_
    clear back' G'
    dsimp only
    refine wpC_execs_cons ?_
    refine wpC_of ?_
    refine cutA (s₁ := s₁) (L := L) (fun m news => ∃ t wl its k, CV L (some (.ref l)) (some (.int n t)) (some (.ref pl)) none none none none none [(wl, W.listOf its k)] news ∧ IntsAre its.toList ((widthsN ns).map fun w : Nat => (w : Int)) ∧ m (Str.ofString "widths") = some (.ref wl)) (fun Q' back => ?_) ?_
    · have hpl : (partsN n).length ≤ 20 ∧ 1 ≤ (partsN n).length := by rcases hn with rfl | rfl | rfl | rfl <;> decide
      refine wpAny_Assign_ListComp_free (cl := [(Str.ofString "parts", L + 1 + 1 + 1)]) (pOf fun _ => true) (fOf fun x => ((partsN n).map fun w : Nat => (w : Int)).getD (Int.fmod x ((partsN n).length : Int)).toNat 0) ?a1 ?a2 ?a3 ?a4 ?a5 ?a6 ?a7 ?a8 ?_
      case a1 => rfl
      case a2 => rfl
      case a3 => decide
      case a4 => rfl
      case a5 => decide
      case a6 => rfl
      case a7 => rfl
      case a8 => rfl
      have hisz : its.size = (partsN n).length := by have := hip.length; simpa using this
      have hpL : h₃.IsList pl its := ⟨_, N.get (.tail _ (.tail _ (.tail _ (.tail _ (.tail _ (.tail _ (.tail _ (.tail _ (.head _))))))))), rfl, kp, rfl⟩
      k_steps
      refine Stop.out (kun_lenL hpL (k := ((partsN n).length : Nat)) (by rw [hisz]) (by omega) ?_)
      k_steps
      refine Stop.out (kun_lenL hpL (k := ((partsN n).length : Nat)) (by rw [hisz]) (by omega) ?_)
      k_steps
      rename Fr _ _ _ _ => F₄
      rename News _ _ _ _ => N₄
      refine Stop.out ?_
      refine kmk_slice_ints F₄ N₄ (F₄.lst hL) (.int _ _) (.int _ _) hi (kmk_run hi (by omega) (by omega)) rfl (fun D1 ws1 h5 F₅ N₅ l5 hI5 _ _ => ?_) (by with_unfolding_all rfl) (by intro _; with_unfolding_all rfl) (kmk_sz hi (by rw [sizeLine_eq]; omega))
      clear F₄ N₄
      k_steps
      rename Fr _ _ _ _ => F₆
      rename News _ _ _ _ => N₆
      rename IntsAre _ _ => hI₆
      refine Stop.out ?_
      refine comp_srcA (L := L) (m := m₃) (fun _ => true) (fun x => ((partsN n).map fun w : Nat => (w : Int)).getD (Int.fmod x ((partsN n).length : Int)).toNat 0) rfl rfl (Src.list (N₆.isList (.head _)) hI₆) (by simp; omega) F₆ N₆ ?_ ?_
      · rintro C oC m₄ i k t hp₃ gn₃ dr₃ tk₃ os₃ E' hk hoC hx F₇ N₇
        clear F₆ N₆
        dsimp only at *
        refine ⟨wpAny_tests_nil ⟨rfl, _, _, rfl, fun _ _ e => e⟩, fun _ => ?_⟩
        obtain ⟨hb1, hb2⟩ := fmod_in (x := k) hpl.2
        have hpL' : hp₃.IsList pl its := ⟨_, N₇.get (.tail _ (.tail _ (.tail _ (.tail _ (.tail _ (.tail _ (.tail _ (.tail _ (.tail _ (.tail _ (.tail _ (.tail _ (.head _))))))))))))), rfl, kp, rfl⟩
        k_steps
        refine Stop.out (kun_lenL hpL' (k := ((partsN n).length : Nat)) (by rw [hisz]) (by omega) ?_)
        k_steps
        exact ⟨_, _, rfl, fun _ _ e => e⟩
      · intro D h tk ys k F₇ N₇ hoD hys
        rw [widths_of hnn] at hys
        exact back _ _ (LM.intro F₇ ⟨tz, D, ys, k, (CV.intro d1 d2 d3 d4 d5 d6 d7 d8), hys, rfl⟩ (cel_sub (cel_in (fun q hq => N₇ q (by
          rcases List.mem_cons.mp hq with h | h
          · rw [h]; exact .head _
          · exact .tail _ (.tail _ (.tail _ (.tail _ h)))))) (fun p hp => by rw [List.mem_singleton.mp hp]; exact .head _)))
    clear F N d1 d2 d3 d4 d5 d6 d7 d8 hip
    intro h₄ tk₄ m₄ news₄ F N0 hP
    refine hide fun G' back' => ?_
    obtain ⟨tz, wl, itw, kw, hCV, hiw, hmw⟩ := hP
    refine CV.elim hCV N0 (fun o1 o2 o3 o4 o5 o6 o7 o8 N d1 d2 d3 d4 d5 d6 d7 d8 => ?_)
    clear hCV N0
    refine back' ?_
    clear back' G'
    dsimp only
    refine wpC_execs_cons ?_
    refine wpC_of ?_
    refine cutA (s₁ := s₁) (L := L) (fun m news => ∃ t tr cl its k, CV L (some (.ref l)) (some (.int n t)) (some (.ref pl)) (some (.bytes (byteArr (rowL ns n)) tr)) (some (.ref cl)) none none none [(cl, W.listOf its k), (wl, W.listOf itw kw)] news ∧ IntsAre its.toList (rangeI n) ∧ m (Str.ofString "widths") = some (.ref wl)) (fun Q' back => ?_) ?_
    · k_steps
      refine Stop.out ?_
      refine cutD (s₁ := s₁) (L := L) m₄ (celL L o1 o2 o3 o4 o5 o6 o7 o8 [(wl, W.listOf itw kw)]) (rowL ns n) (fun Q₂ backD => ?_) ?_
      · refine wpAny_ListComp_free (cl := [(Str.ofString "script", L + 1)]) (pOf fun _ => true) (fOf fun k => Int.fmod (ns.sum + 37 * k) 256) ?a1 ?a2 ?a3 ?a4 ?a5 ?_
        case a1 => rfl
        case a2 => decide
        case a3 => rfl
        case a4 => decide
        case a5 => rfl
        k_steps
        rename IsRange _ _ _ _ _ _ _ _ => hr
        rename Fr _ _ _ _ => F₃
        rename News _ _ _ _ => N₃
        refine Stop.out ?_
        refine comp_src (L := L) (m := m₄) (fun _ => true) (fun k => Int.fmod (ns.sum + 37 * k) 256) rfl (Src.range hr (small_le (c := 1) (by omega) (by omega)) (size_one n)) (by simp; omega) F₃ N₃ ?_ ?_
        · rintro C oC m₃ i k t hp₃ gn₃ dr₃ tk₃ os₃ E' hk hoC hx F₄ N₄
          obtain ⟨hk1, hk2⟩ := mem_up hk
          clear F₃ N₃
          dsimp only at *
          refine ⟨wpAny_tests_nil ⟨rfl, _, _, rfl, fun _ _ e => e⟩, fun _ => ?_⟩
          k_steps
          refine Stop.out ?_
          refine sum_keep rfl (F₄.lst hL) hi fun h' tk' t' hk' => ?_
          have F₅ := F₄.keeps hk'
          have N₅ := N₄.keeps hk'
          clear F₄ N₄
          k_steps
          exact ⟨_, _, rfl, hk'⟩
        · intro D h tk ys k F₄ N₄ hoD hys
          refine backD _ _ (CompD.intro F₄ N₄ hoD ?_)
          have e : (((List.range n).map fun i : Nat => (0 : Int) + (i : Int)).filter fun _ => true).map (fun k => Int.fmod (ns.sum + 37 * k) 256) = rowL ns n := by
            rw [List.filter_eq_self.mpr (by simp), List.map_map]
            unfold rowL
            apply List.map_congr_left
            intro i _
            simp
          rw [e] at hys
          exact hys
      · intro D h tk ys k F₄ N₄ hoD hys
        clear F N
        k_steps
        refine Stop.out ?_
        refine KBa.make_K F₄ N₄ rfl (N₄.isList (.head _)) hys (row_in ns n) (by rw [rowL_len]; omega) fun h' t' k' F₅ N₅ _ => ?_
        clear F₄ N₄
        k_steps
        rename IsRange _ _ _ _ _ _ _ _ => hr
        rename Fr _ _ _ _ => F₆
        rename News _ _ _ _ => N₆
        refine Stop.out ?_
        refine call_list_rng rfl hr hn20 fun h₇ tk₇ vs₇ c₇ hk₇ hD₇ hi₇ => ?_
        have hx := news_add F₆ N₆ hk₇ hD₇
        have F₇ := hx.1
        have N₇ := hx.2.1
        have l₇ := hx.2.2
        clear hx
        clear F₆ N₆ hk₇ hD₇
        dsimp only at *
        generalize Heap.objs _ = hh₇ at N₇ l₇ ⊢
        k_steps
        rename Fr _ _ _ _ => F₈
        rename News _ _ _ _ => N₈
        have N₉ : News s₁.heap L _ (celL L o1 o2 o3 o4 o5 o6 o7 o8 [(hh₇.size, W.listOf vs₇.toArray c₇), (wl, W.listOf itw kw)]) := cel_in (fun q hq => N₈ q (by
          rcases List.mem_cons.mp hq with h | h
          · rw [h]; exact .tail _ (.head _)
          · exact .tail _ (.tail _ (.tail _ h))))
        clear N₈
        refine Stop.out ?_
        refine st4 F₈ N₉ d4 (nc_list (nc_list nc_nil)) (fun hx ox Fx Nx dx => ?_) rfl rfl rfl
        clear F₈ N₉
        k_steps
        refine Stop.out ?_
        refine st5 Fx Nx d5 (nc_list (nc_list nc_nil)) (fun hy oy Fy Ny dy => ?_) rfl rfl rfl
        clear Fx Nx
        k_steps
        exact back _ _ (LM.intro Fy ⟨tz, t', _, _, c₇, (CV.intro d1 d2 d3 dx dy d6 d7 d8), hi₇, hmw⟩ Ny)
    clear F N d1 d2 d3 d4 d5 d6 d7 d8
    intro h₅ tk₅ m₅ news₅ F N0 hP
    refine hide fun G' back' => ?_
    obtain ⟨tz, tr, cl, itc, kc, hCV, hic, hmw⟩ := hP
    refine CV.elim hCV N0 (fun o1 o2 o3 o4 o5 o6 o7 o8 N d1 d2 d3 d4 d5 d6 d7 d8 => ?_)
    clear hCV N0
    refine back' ?_
    clear back' G'
    dsimp only
    obtain ⟨hws, hok⟩ := shape_ok ns
    rw [hnn] at hws hok
    generalize widthsN ns = ws at hws hok hiw
    refine wpC_execs_cons ?_
    refine wpC_of ?_
    refine cutA (s₁ := s₁) (L := L) (fun m news => ∃ cl its k, CV L (some (.ref l)) (some (.int n tz)) (some (.ref pl)) (some (.bytes (byteArr (rowL ns n)) tr)) (some (.ref cl)) none none none [(cl, W.listOf its k), (wl, W.listOf itw kw)] news ∧ IntsAre its.toList (cameN n ws) ∧ m (Str.ofString "widths") = some (.ref wl)) (fun Q' back => ?_) ?_
    · k_steps
      rename Fr _ _ _ _ => F
      rename News _ _ _ _ => N
      have hlen5 : itw.size = ws.length := by have := hiw.length; simpa using this
      refine Stop.out ?_
      refine list_inv (l := wl) (items := itw) (ep := kw) (fun i m news => ∃ cl its k o5, m (Str.ofString "widths") = some (.ref wl) ∧ news = celL L o1 o2 o3 o4 o5 o6 o7 o8 [(cl, W.listOf its k), (wl, W.listOf itw kw)] ∧ o5.data = .cell (some (.ref cl)) ∧ IntsAre its.toList (cameK n ws i))
        rfl (N.get (.tail _ (.tail _ (.tail _ (.tail _ (.tail _ (.tail _ (.tail _ (.tail _ (.tail _ (.head _))))))))))) (fun e => (N (wl, W.listOf itw kw) (.tail _ (.tail _ (.tail _ (.tail _ (.tail _ (.tail _ (.tail _ (.tail _ (.tail _ (.head _))))))))))).2.1 e) F N (.inr (.tail _ (.tail _ (.tail _ (.tail _ (.tail _ (.tail _ (.tail _ (.tail _ (.tail _ (.head _))))))))))) ⟨cl, itc, kc, o5, hmw, rfl, d5, by rw [cameK_zero]; exact hic⟩ ?_ ?_
      · intro I i v m₁ news₁ h tk oI hil hiv hp1 hoff hlo hoc F₁ N₁
        refine hide fun G' back' => ?_
        obtain ⟨cl', its', k', o5', hm1, rfl, d5', hi'⟩ := hp1
        refine back' ?_
        clear back' G'
        refine hideQ fun Q₃ back₃ => ?_
        obtain ⟨wd', tw, hwd, rfl⟩ := ints_at hiw (by simpa using hiv)
        rw [List.getElem?_map] at hwd
        obtain ⟨wd, hwd2, rfl⟩ := Option.map_eq_some_iff.mp hwd
        obtain ⟨hw1, hw2, hw3⟩ := hws wd (List.mem_of_getElem? hwd2)
        clear F N d5
        k_steps
        have hcl : h.get? cl' = some { cls := .type "list", data := .seq its' k' } := N₁.get (.tail _ (.tail _ (.tail _ (.tail _ (.tail _ (.tail _ (.tail _ (.tail _ (.tail _ (.head _))))))))))
        refine Stop.out ?_
        refine turned_call (by rw [cameK_len]; omega) (by rw [cameK_len]; exact hw3) hw1 hw2 rfl hcl hi' (KX.keeps F₁.keep) (T.keeps F₁.keep) (dptR (by decide)) (untR (by decide)) ?_
        intro h₆ tk₆ a its₆ n₆ ms st₆ hn₆ ha₆ hi₆ hl₆ hp₆
        rw [cameK_len] at hl₆ hp₆
        have hms := cameK_step hwd2 hw1 hw3 hl₆ hp₆
        subst hms
        have hx := news_new F₁ N₁ st₆ hn₆ ha₆
        have F₇ := hx.1
        have N₇ := hx.2.1
        have ne₇ := hx.2.2
        clear hx
        clear F₁ N₁
        k_steps
        have N₈ : News s₁.heap L h₆ (celL L o1 o2 o3 o4 o5' o6 o7 o8 [(I, oI), (a, W.listOf its₆ n₆), (wl, W.listOf itw kw)]) := fun q hq => N₇ q (by
          have hq : q ∈ celL L o1 o2 o3 o4 o5' o6 o7 o8 [] ++ [(I, oI), (a, W.listOf its₆ n₆), (wl, W.listOf itw kw)] := hq
          show q ∈ (a, W.listOf its₆ n₆) :: (I, oI) :: (celL L o1 o2 o3 o4 o5' o6 o7 o8 [] ++ [(cl', W.listOf its' k'), (wl, W.listOf itw kw)])
          rcases List.mem_append.mp hq with z | z
          · exact .tail _ (.tail _ (List.mem_append_left _ z))
          · rcases List.mem_cons.mp z with rfl | z
            · exact .tail _ (.head _)
            · rcases List.mem_cons.mp z with rfl | z
              · exact .head _
              · exact .tail _ (.tail _ (List.mem_append_right _ (.tail _ z))))
        refine Stop.out ?_
        refine st5 F₇ N₈ d5' (nc_ne (Ne.symm (hoff (L + 1 + 1 + 1 + 1 + 1, o5') (.tail _ (.tail _ (.tail _ (.head _)))))) (nc_list (nc_list nc_nil))) (fun hy oy Fy Ny dy => ?_) rfl rfl rfl
        clear F₇ N₇ N₈
        k_steps
        refine back₃ _ _ ?_
        refine ⟨_, _, _, celL L o1 o2 o3 o4 oy o6 o7 o8 [(a, W.listOf its₆ n₆), (wl, W.listOf itw kw)], rfl, Fy, (fun q hq => Ny q ?_), ?_, ⟨a, its₆, n₆, oy, hm1, rfl, dy, hi₆⟩, .inr (.tail _ (.tail _ (.tail _ (.tail _ (.tail _ (.tail _ (.tail _ (.tail _ (.tail _ (.head _))))))))))⟩
        · have hq : q ∈ (I, oI) :: (celL L o1 o2 o3 o4 oy o6 o7 o8 [] ++ [(a, W.listOf its₆ n₆), (wl, W.listOf itw kw)]) := hq
          show q ∈ celL L o1 o2 o3 o4 oy o6 o7 o8 [] ++ [(I, oI), (a, W.listOf its₆ n₆), (wl, W.listOf itw kw)]
          rcases List.mem_cons.mp hq with rfl | z
          · exact List.mem_append_right _ (.head _)
          · rcases List.mem_append.mp z with z | z
            · exact List.mem_append_left _ z
            · exact List.mem_append_right _ (.tail _ z)
        · intro p hp
          have hp : p ∈ celL L o1 o2 o3 o4 oy o6 o7 o8 [] ++ [(a, W.listOf its₆ n₆), (wl, W.listOf itw kw)] := hp
          rcases List.mem_append.mp hp with z | z
          · have : p.1 ∈ (celL L o1 o2 o3 o4 o5' o6 o7 o8 []).map (fun x : Addr × Obj => x.1) := by
              have := List.mem_map_of_mem (f := fun x : Addr × Obj => x.1) z
              exact this
            obtain ⟨q, hq, e⟩ := List.mem_map.mp this
            rw [← e]
            have hq : q ∈ celL L o1 o2 o3 o4 o5' o6 o7 o8 [] ++ [(cl', W.listOf its' k'), (wl, W.listOf itw kw)] := List.mem_append_left _ hq
            exact hoff q hq
          · rcases List.mem_cons.mp z with rfl | z
            · exact Ne.symm (ne₇ (I, oI) (.head _))
            · have hq : p ∈ celL L o1 o2 o3 o4 o5' o6 o7 o8 [] ++ [(cl', W.listOf its' k'), (wl, W.listOf itw kw)] := List.mem_append_right _ (.tail _ z)
              exact hoff p hq
      · rintro m₁ news₁ h tk ⟨cl', its', k', o5', hm1, rfl, d5', hi'⟩ F₁ N₁
        rw [hlen5, cameK_all] at hi'
        exact back _ _ (LM.intro F₁ ⟨cl', its', k', (CV.intro d1 d2 d3 d4 d5' d6 d7 d8), hi', hm1⟩ N₁)
    clear F N d1 d2 d3 d4 d5 d6 d7 d8 hic
    intro h₆ tk₆ m₆ news₆ F N0 hP
    refine hide fun G' back' => ?_
    obtain ⟨cl, itc, kc, hCV, hic, hmw⟩ := hP
    refine CV.elim hCV N0 (fun o1 o2 o3 o4 o5 o6 o7 o8 N d1 d2 d3 d4 d5 d6 d7 d8 => ?_)
    clear hCV N0
    refine back' ?_
    clear back' G'
    dsimp only
    have hrz : (byteArr (rowL ns n)).size = n := by rw [byteArr_size, rowL_len]
    refine wpC_execs_cons ?_
    refine cutC (s₁ := s₁) (L := L) (fun m news => ∃ vo, CV L (some (.ref l)) (some (.int n tz)) (some (.ref pl)) (some (.bytes (byteArr (rowL ns n)) tr)) (some (.ref cl)) vo none none [(cl, W.listOf itc kc), (wl, W.listOf itw kw)] news ∧ m (Str.ofString "widths") = some (.ref wl)) (fun Q' back => ?_) ?_
    · refine wpC_For ?_
      k_steps
      refine Stop.out ?_
      refine cutD (s₁ := s₁) (L := L) m₆ (celL L o1 o2 o3 o4 o5 o6 o7 o8 [(cl, W.listOf itc kc), (wl, W.listOf itw kw)]) ((rowL ns n).map fun k => Int.fdiv k 64) (fun Q₂ backD => ?_) ?_
      · refine wpAny_ListComp_free (cl := []) (pOf fun _ => true) (fOf fun k => Int.fdiv k 64) ?a1 ?a2 ?a3 ?a4 ?a5 ?_
        case a1 => rfl
        case a2 => decide
        case a3 => rfl
        case a4 => decide
        case a5 => rfl
        k_steps
        refine Stop.out ?_
        have hbi : KBw.bInts (byteArr (rowL ns n)) = rowL ns n := KBa.ints_make (row_in ns n)
        refine comp_src (L := L) (m := m₆) (fun _ => true) (fun k => Int.fdiv k 64) rfl (hbi ▸ Src.bytes) (by rw [rowL_len]; omega) F N ?_ ?_
        · rintro C oC m₃ i k t hp₃ gn₃ dr₃ tk₃ os₃ E' hk hoC hx F₄ N₄
          clear F N
          dsimp only at *
          refine ⟨wpAny_tests_nil ⟨rfl, _, _, rfl, fun _ _ e => e⟩, fun _ => ?_⟩
          k_steps
          exact ⟨_, _, rfl, fun _ _ e => e⟩
        · intro D h tk ys k F₄ N₄ hoD hys
          rw [List.filter_eq_self.mpr (by simp)] at hys
          exact backD _ _ (CompD.intro F₄ N₄ hoD hys)
      · intro D h tk ys k F₄ N₄ hoD hys
        clear F N
        k_steps
        refine Stop.out ?_
        refine KBa.make_K F₄ N₄ rfl (N₄.isList (.head _)) hys (row_in6 ns n) (by simp [rowL_len]; omega) fun h' t' k' F₅ N₅ _ => ?_
        clear F₄ N₄
        k_steps
        rename Fr _ _ _ _ => F₆
        rename News _ _ _ _ => N₆
        rename_i dl h₇ l₇
        have hdl := N₆.get (.head _)
        have hdlt : dl < h₇.objs.size := Heap.lt_size hdl
        refine Stop.out ?_
        refine wpAny_pyIter_list ⟨_, hdl, rfl, 0, rfl⟩ ?_
        dsimp only
        have N₇ : News s₁.heap L h₇ (celL L o1 o2 o3 o4 o5 o6 o7 o8 [(dl, W.listOf #[.bytes (byteArr (rowL ns n)) tr, .bytes (byteArr ((rowL ns n).map fun k => Int.fdiv k 64)) t'] 0), (cl, W.listOf itc kc), (wl, W.listOf itw kw)]) := cel_in (fun q hq => N₆ q (by
          rcases List.mem_cons.mp hq with h | h
          · rw [h]; exact .head _
          · exact .tail _ (.tail _ h)))
        refine loopC2 (l := dl) (fp := [h₇.objs.size, dl]) (icls := .type "list_iterator") (fun i m news => ∃ o6 v6, o6.data = .cell v6 ∧ m (Str.ofString "widths") = some (.ref wl) ∧ news = celL L o1 o2 o3 o4 o5 o6 o7 o8 [(dl, W.listOf #[.bytes (byteArr (rowL ns n)) tr, .bytes (byteArr ((rowL ns n).map fun k => Int.fdiv k 64)) t'] 0), (cl, W.listOf itc kc), (wl, W.listOf itw kw)])
          (Walks.list (A := callerA.deeper _) rfl h₇.objs.size dl (Nat.ne_of_lt hdlt) #[.bytes (byteArr (rowL ns n)) tr, .bytes (byteArr ((rowL ns n).map fun k => Int.fdiv k 64)) t']) (fun _ => rfl) (fun b hb => by simpa using hb) (fun i h st => ?_) (Heap.get?_push_of_some _ hdl) ⟨⟨_, Heap.get?_push_size _ rfl, rfl, rfl⟩, ⟨_, Heap.get?_push_of_some _ hdl, rfl, 0, rfl⟩⟩ (Nat.ne_of_lt hdlt)
          (F₆.push _) (N₇.pushKeep _) F₆.fresh (Nat.ne_of_gt F₆.ns.lt) N₇.apart (.inr (.tail _ (.tail _ (.tail _ (.tail _ (.tail _ (.tail _ (.tail _ (.tail _ (.head _)))))))))) ⟨o6, _, d6, hmw, rfl⟩ ?_ ?_
        · obtain ⟨o, ho, hc, _⟩ := st.1
          exact ⟨o, ho, hc⟩
        · intro i v m₁ news₁ h tk oI hi2 hv hp1 hoff hkl hlh hcls F₈ N₈
          refine hide fun G' back' => ?_
          obtain ⟨o6', v6, d6', hm1, rfl⟩ := hp1
          refine back' ?_
          clear back' G'
          obtain ⟨b, tb, rfl, hb⟩ : ∃ b tb, v = .bytes b tb ∧ b.size = n := by
            have hi2 : i < 2 := hi2
            have : i = 0 ∨ i = 1 := by omega
            rcases this with rfl | rfl
            · cases hv; exact ⟨_, _, rfl, hrz⟩
            · cases hv; exact ⟨_, _, rfl, by rw [byteArr_size, List.length_map, rowL_len]⟩
          clear N₆ F₆ N₇
          refine wpAny_assign_Name ?_
          refine st6 F₈ (cel_in N₈) d6' (nc_ne (Ne.symm (hoff (L + 1 + 1 + 1 + 1 + 1 + 1, o6') (.tail _ (.tail _ (.head _))))) (nc_list (nc_list (nc_list nc_nil)))) (fun hx ox Fx Nx dx => ?_) rfl rfl rfl
          refine wpC_execs_cons ?_
          refine wpC_If_cmp ?_
          clear F₈ N₈
          obtain ⟨of, fdf, hof, hdf⟩ : ∃ o fd, s₁.heap.get? 155 = some o ∧ o.data = .func fd := ⟨_, _, KX 155 _ (by k_is), rfl⟩
          refine wpC_Call ?_
          k_steps
          refine wpC_callWith_type (x := eval _ _) (rest := []) rfl ?_
          refine wpC_spliced_cons ?_
          refine wpC_Call ?_
          k_steps
          refine wpC_callWith_function (o := of) (fd := fdf) (x := eval _ _) (rest := [(false, eval _ _)]) rfl ?_
          refine wpC_spliced_cons (wpC_of ?_)
          k_steps
          refine wpC_spliced_cons (wpC_of ?_)
          k_steps
          rename Fr _ _ _ _ => Fx
          rename News _ _ _ _ => Nx
          refine wpC_spliced_nil ⟨⟨Fx.keep _ _ hof, hdf⟩, ?_⟩
          have hwl : hx.get? wl = some { cls := .type "list", data := .seq itw kw } := Nx.get (.tail _ (.tail _ (.tail _ (.tail _ (.tail _ (.tail _ (.tail _ (.tail _ (.tail _ (.tail _ (.tail _ (.head _))))))))))))
          refine round_call (by omega) rfl hwl hiw (by rw [hb]; exact hws) (KX.keeps Fx.keep) (T.keeps Fx.keep) (dptR (by decide)) (untR (by decide)) ?_
          intro h₉ tk₉ r₉ tr₉ st₉ hs₉ hp₉
          rw [hb] at hs₉ hp₉
          have F₉ := Fx.keeps st₉
          have N₉ := Nx.keeps st₉
          clear Fx Nx
          refine wpC_spliced_nil ?_
          refine wpC_of ?_
          refine call_list_bytes rfl (by omega) fun ha tka vsa ca hka hDa hia => ?_
          have hx := news_add F₉ N₉ hka hDa
          have Fa := hx.1
          have Na := hx.2.1
          have la := hx.2.2
          clear hx
          clear F₉ N₉ hka hDa
          dsimp only at *
          generalize h₉.objs.size = da at *
          refine cutD (s₁ := s₁) (L := L) m₁ ((da, W.listOf vsa.toArray ca) :: celL L o1 o2 o3 o4 o5 ox o7 o8 [(h₇.objs.size, oI), (dl, W.listOf #[.bytes (byteArr (rowL ns n)) tr, .bytes (byteArr ((rowL ns n).map fun k => Int.fdiv k 64)) t'] 0), (cl, W.listOf itc kc), (wl, W.listOf itw kw)]) (KBw.bInts r₉) (fun Q₂ backD => ?_) ?_
          · refine wpAny_ListComp_free (cl := [(Str.ofString "octets", L + 1 + 1 + 1 + 1 + 1 + 1)]) (pOf fun _ => true) (fOf fun k => (KBw.bInts b).getD k.toNat 0) ?a1 ?a2 ?a3 ?a4 ?a5 ?_
            case a1 => rfl
            case a2 => decide
            case a3 => rfl
            case a4 => decide
            case a5 => rfl
            k_steps
            refine Stop.out ?_
            refine comp_src (L := L) (m := m₁) (fun _ => true) (fun k => (KBw.bInts b).getD k.toNat 0) rfl (Src.list (vs := itc.toList) ⟨_, Na.get (.tail _ (.tail _ (.tail _ (.tail _ (.tail _ (.tail _ (.tail _ (.tail _ (.tail _ (.tail _ (.tail _ (.head _)))))))))))), rfl, kc, rfl⟩ hic) (by rw [cameN_len]; omega) Fa Na ?_ ?_
            · rintro C oC m₃ i k t hp₃ gn₃ dr₃ tk₃ os₃ E' hk hoC hx' F₄ N₄
              obtain ⟨hk1, hk2⟩ := came_at hws hk
              clear Fa Na
              dsimp only at *
              refine ⟨wpAny_tests_nil ⟨rfl, _, _, rfl, fun _ _ e => e⟩, fun _ => ?_⟩
              k_steps
              refine Stop.out ?_
              refine KBw.item_K rfl (by rw [KBw.ints_length]; omega) hk1 (by rw [KBw.ints_length]; omega) (fun t'' k'' _ _ => ?_) (by with_unfolding_all rfl) (by intro _; with_unfolding_all rfl)
              exact ⟨⟨_, rfl⟩, _, _, rfl, fun _ _ e => e⟩
            · intro D' h' tk' ys' k' F₄ N₄ hoD' hys'
              rw [← round_eq hws hb hs₉ hp₉] at hys'
              exact backD _ _ (CompD.intro F₄ N₄ hoD' hys')
          · intro D' h' tk' ys' k' F₄ N₄ hoD' hys'
            clear Fa Na
            refine ne_intsK (isList_of (N₄.get (.tail _ (.head _)))) hia (N₄.isList (.head _)) hys' (untR (by decide)) ?_
            rw [decide_eq_true rfl]
            k_steps
            simp only [Bool.not_true, Bool.false_eq_true, if_false]
            refine wpC_of (wpAny_execs_nil ?_)
            dsimp only
            refine wpC_of (wpAny_execs_nil ?_)
            exact ⟨_, _, _, _, rfl, F₄, cel_out (fun q hq => N₄ q (.tail _ (.tail _ hq))), cel_off hoff (cel_rest hoff), ⟨ox, _, dx, hm1, rfl⟩, .inr (.tail _ (.tail _ (.tail _ (.tail _ (.tail _ (.tail _ (.tail _ (.tail _ (.head _)))))))))⟩
        · rintro m₁ news₁ h tk ⟨o6', v6, d6', hm1, rfl⟩ F₈ N₈
          exact back _ _ (LM.intro F₈ ⟨v6, (CV.intro d1 d2 d3 d4 d5 d6' d7 d8), hm1⟩ (cel_sub N₈ (fun p hp => .tail _ hp)))
    clear F N d1 d2 d3 d4 d5 d6 d7 d8
    intro h₇ tk₇ m₇ news₇ F N0 hP
    refine hide fun G' back' => ?_
    obtain ⟨vo, hCV, hmw⟩ := hP
    refine CV.elim hCV N0 (fun o1 o2 o3 o4 o5 o6 o7 o8 N d1 d2 d3 d4 d5 d6 d7 d8 => ?_)
    clear hCV N0
    refine back' ?_
    clear back' G'
    dsimp only
    refine wpC_execs_cons ?_
    refine cutC (s₁ := s₁) (L := L) (fun m news => ∃ wn its k, CV L (some (.ref l)) (some (.int n tz)) (some (.ref pl)) (some (.bytes (byteArr (rowL ns n)) tr)) (some (.ref cl)) vo none none [(wn, W.listOf its k), (cl, W.listOf itc kc), (wl, W.listOf itw kw)] news ∧ m (Str.ofString "widths") = some (.ref wl) ∧ m (Str.ofString "went") = some (.ref wn) ∧ IntsAre its.toList (cameN n ws)) (fun Q' back => ?_) ?_
    · refine wpC_Assign_comp rfl ?_
      obtain ⟨of, fdf, hof, hdf⟩ : ∃ o fd, s₁.heap.get? 155 = some o ∧ o.data = .func fd := ⟨_, _, KX 155 _ (by k_is), rfl⟩
      refine wpC_Call ?_
      k_steps
      refine wpC_callWith_function (o := of) (fd := fdf) (x := eval _ _) (rest := [(false, eval _ _)]) rfl ?_
      refine wpC_spliced_cons (wpC_of ?_)
      k_steps
      refine wpC_spliced_cons (wpC_of ?_)
      k_steps
      rename Fr _ _ _ _ => Fx
      rename News _ _ _ _ => Nx
      refine wpC_spliced_nil ⟨⟨Fx.keep _ _ hof, hdf⟩, ?_⟩
      have hwl : h₇.get? wl = some { cls := .type "list", data := .seq itw kw } := Nx.get (.tail _ (.tail _ (.tail _ (.tail _ (.tail _ (.tail _ (.tail _ (.tail _ (.tail _ (.head _))))))))))
      refine round_call (by omega) rfl hwl hiw (by rw [hrz]; exact hws) (KX.keeps Fx.keep) (T.keeps Fx.keep) (dptR (by decide)) (untR (by decide)) ?_
      intro h₉ tk₉ r₉ tr₉ st₉ hs₉ hp₉
      rw [hrz] at hs₉ hp₉
      have F₉ := Fx.keeps st₉
      have N₉ := Nx.keeps st₉
      clear Fx Nx
      refine comp_pure_use (cl := [(Str.ofString "row", L + 1 + 1 + 1 + 1)]) (pOf fun _ => true) (fOf fun k => (((rowL ns n).idxOf k : Nat) : Int)) ?a1 ?a2 ?a3 ?a4 ?a5 ?a6 ?a7 ?_
      case a1 => rfl
      case a2 => decide
      case a3 => rfl
      case a4 => decide
      case a5 => rfl
      case a6 => rfl
      case a7 => rfl
      refine comp_srcA (L := L) (m := m₇) (fun _ => true) (fun k => (((rowL ns n).idxOf k : Nat) : Int)) rfl rfl Src.bytes (by rw [KBw.ints_length]; omega) F₉ N₉ ?_ ?_
      · rintro C oC m₄ i k t hp₃ gn₃ dr₃ tk₃ os₃ E' hk hoC hx F₇ N₇
        have hkm := round_mem hws hs₉ hp₉ hk
        clear F₉ N₉
        dsimp only at *
        refine ⟨wpAny_tests_nil ⟨rfl, _, _, rfl, fun _ _ e => e⟩, fun _ => ?_⟩
        k_steps
        refine Stop.out ?_
        refine call_list_bytes rfl (by omega) fun ha tka vsa ca hka hDa hia => ?_
        rw [KBa.ints_make (row_in ns n)] at hia
        have hx := news_add F₇ N₇ hka hDa
        have Fa := hx.1
        have Na := hx.2.1
        have la := hx.2.2
        clear hx
        clear F₇ N₇
        dsimp only at *
        k_steps
        refine Stop.out ?_
        refine meth hDa PySem.F.plainAttrs_list PySem.F.slot_list_index PySem.F.type_list_index ?_
        k_steps
        refine Stop.out ?_
        refine index_ints ⟨_, hDa, rfl, ca, rfl⟩ hia (by rw [rowL_len]; omega) hkm fun t' k' => ?_
        exact ⟨⟨_, rfl⟩, _, _, rfl, hka⟩
      · intro D h tk ys k F₇ N₇ hoD hys
        rw [went_eq hn20 hws hs₉ hp₉] at hys
        exact back _ _ (LM.intro F₇ ⟨D, ys, k, (CV.intro d1 d2 d3 d4 d5 d6 d7 d8), hmw, rfl, hys⟩ (cel_in N₇))
    clear F N d1 d2 d3 d4 d5 d6 d7 d8 hmw
    intro h₈ tk₈ m₈ news₈ F N0 hP
    refine hide fun G' back' => ?_
    obtain ⟨wn, itn, kn, hCV, hmw, hmn, hin⟩ := hP
    refine CV.elim hCV N0 (fun o1 o2 o3 o4 o5 o6 o7 o8 N d1 d2 d3 d4 d5 d6 d7 d8 => ?_)
    clear hCV N0
    refine back' ?_
    clear back' G'
    dsimp only
    refine wpC_execs_cons ?_
    refine wpC_of ?_
    refine cutA (s₁ := s₁) (L := L) (fun m news => ∃ lf its k t1, CV L (some (.ref l)) (some (.int n tz)) (some (.ref pl)) (some (.bytes (byteArr (rowL ns n)) tr)) (some (.ref cl)) vo (some (.int 1 t1)) none [(lf, W.listOf its k), (wn, W.listOf itn kn), (cl, W.listOf itc kc), (wl, W.listOf itw kw)] news ∧ m (Str.ofString "widths") = some (.ref wl) ∧ m (Str.ofString "went") = some (.ref wn) ∧ m (Str.ofString "left") = some (.ref lf) ∧ IntsAre its.toList (leftN n (cameN n ws))) (fun Q' back => ?_) ?_
    · k_steps
      refine Stop.out ?_
      refine cutD (s₁ := s₁) (L := L) m₈ (celL L o1 o2 o3 o4 o5 o6 o7 o8 [(wn, W.listOf itn kn), (cl, W.listOf itc kc), (wl, W.listOf itw kw)]) (leftN n (cameN n ws)) (fun Q₂ backD => ?_) ?_
      · refine wpAny_ListComp_free (cl := [(Str.ofString "came", L + 1 + 1 + 1 + 1 + 1)]) (pOf fun k => decide ((cameN n ws).getD k.toNat 0 ≠ k)) (fOf fun k => k) ?a1 ?a2 ?a3 ?a4 ?a5 ?_
        case a1 => rfl
        case a2 => decide
        case a3 => rfl
        case a4 => decide
        case a5 => rfl
        k_steps
        rename IsRange _ _ _ _ _ _ _ _ => hr
        rename Fr _ _ _ _ => F₃
        rename News _ _ _ _ => N₃
        refine Stop.out ?_
        refine comp_src (L := L) (m := m₈) (fun k => decide ((cameN n ws).getD k.toNat 0 ≠ k)) (fun k => k) rfl (Src.range hr (small_le (c := 1) (by omega) (by omega)) (size_one n)) (by simp; omega) F₃ N₃ ?_ ?_
        · rintro C oC m₃ i k t hp₃ gn₃ dr₃ tk₃ os₃ E' hk hoC hx F₄ N₄
          obtain ⟨hk1, hk2⟩ := mem_up hk
          have hcl5 := cameN_len n ws
          clear F₃ N₃
          dsimp only at *
          refine ⟨wpAny_tests_one ?_, fun _ => ?_⟩
          · k_steps
            · exact ne_dec _ _
            · exact ⟨_, _, rfl, fun _ _ e => e⟩
          · k_steps
            exact ⟨_, _, rfl, fun _ _ e => e⟩
        · intro D h tk ys k F₄ N₄ hoD hys
          refine backD _ _ (CompD.intro F₄ N₄ hoD ?_)
          have e : ((((List.range n).map fun i : Nat => (0 : Int) + (i : Int)).filter fun k => decide ((cameN n ws).getD k.toNat 0 ≠ k)).map fun k => k) = leftN n (cameN n ws) := by
            unfold leftN rangeI
            simp
          rw [e] at hys
          exact hys
      · intro D h tk ys k F₄ N₄ hoD hys
        clear F N
        k_steps
        rename Fr _ _ _ _ => F₈
        rename News _ _ _ _ => N₈
        have N₉ : News s₁.heap L _ (celL L o1 o2 o3 o4 o5 o6 o7 o8 [(D, W.listOf ys k), (wn, W.listOf itn kn), (cl, W.listOf itc kc), (wl, W.listOf itw kw)]) := cel_in (fun q hq => N₈ q (.tail _ hq))
        clear N₈
        refine Stop.out ?_
        refine st7 F₈ N₉ d7 (nc_list (nc_list (nc_list (nc_list nc_nil)))) (fun hx ox Fx Nx dx => ?_) rfl rfl rfl
        clear F₈ N₉
        k_steps
        exact back _ _ (LM.intro Fx ⟨D, ys, k, _, (CV.intro d1 d2 d3 d4 d5 d6 dx d8), hmw, hmn, rfl, hys⟩ Nx)
    clear F N d1 d2 d3 d4 d5 d6 d7 d8 hmw hmn
    intro h₉ tk₉ m₉ news₉ F N0 hP
    refine hide fun G' back' => ?_
    obtain ⟨lf, itl, kl, t1, hCV, hmw, hmn, hml, hil⟩ := hP
    refine CV.elim hCV N0 (fun o1 o2 o3 o4 o5 o6 o7 o8 N d1 d2 d3 d4 d5 d6 d7 d8 => ?_)
    clear hCV N0
    refine back' ?_
    clear back' G'
    dsimp only
    refine wpC_execs_cons ?_
    refine wpC_of ?_
    refine cutA (s₁ := s₁) (L := L) (fun m news => ∃ kt vk, CV L (some (.ref l)) (some (.int n tz)) (some (.ref pl)) (some (.bytes (byteArr (rowL ns n)) tr)) (some (.ref cl)) vo (some (.int 1 t1)) none [(kt, tupV vk), (lf, W.listOf itl kl), (wn, W.listOf itn kn), (cl, W.listOf itc kc), (wl, W.listOf itw kw)] news ∧ m (Str.ofString "widths") = some (.ref wl) ∧ m (Str.ofString "went") = some (.ref wn) ∧ m (Str.ofString "left") = some (.ref lf) ∧ m (Str.ofString "kept") = some (.ref kt) ∧ IntsAre vk (keptN n (cameN n ws))) (fun Q' back => ?_) ?_
    · k_steps
      refine Stop.out ?_
      refine cutD (s₁ := s₁) (L := L) m₉ (celL L o1 o2 o3 o4 o5 o6 o7 o8 [(lf, W.listOf itl kl), (wn, W.listOf itn kn), (cl, W.listOf itc kc), (wl, W.listOf itw kw)]) (keptN n (cameN n ws)) (fun Q₂ backD => ?_) ?_
      · refine wpAny_ListComp_free (cl := [(Str.ofString "came", L + 1 + 1 + 1 + 1 + 1)]) (pOf fun k => decide ((cameN n ws).getD k.toNat 0 = k)) (fOf fun k => k) ?a1 ?a2 ?a3 ?a4 ?a5 ?_
        case a1 => rfl
        case a2 => decide
        case a3 => rfl
        case a4 => decide
        case a5 => rfl
        k_steps
        rename IsRange _ _ _ _ _ _ _ _ => hr
        rename Fr _ _ _ _ => F₃
        rename News _ _ _ _ => N₃
        refine Stop.out ?_
        refine comp_src (L := L) (m := m₉) (fun k => decide ((cameN n ws).getD k.toNat 0 = k)) (fun k => k) rfl (Src.range hr (small_le (c := 1) (by omega) (by omega)) (size_one n)) (by simp; omega) F₃ N₃ ?_ ?_
        · rintro C oC m₃ i k t hp₃ gn₃ dr₃ tk₃ os₃ E' hk hoC hx F₄ N₄
          obtain ⟨hk1, hk2⟩ := mem_up hk
          have hcl5 := cameN_len n ws
          clear F₃ N₃
          dsimp only at *
          refine ⟨wpAny_tests_one ?_, fun _ => ?_⟩
          · k_steps
            exact ⟨_, _, rfl, fun _ _ e => e⟩
          · k_steps
            exact ⟨_, _, rfl, fun _ _ e => e⟩
        · intro D h tk ys k F₄ N₄ hoD hys
          refine backD _ _ (CompD.intro F₄ N₄ hoD ?_)
          have e : ((((List.range n).map fun i : Nat => (0 : Int) + (i : Int)).filter fun k => decide ((cameN n ws).getD k.toNat 0 = k)).map fun k => k) = keptN n (cameN n ws) := by
            unfold keptN rangeI
            simp
          rw [e] at hys
          exact hys
      · intro D h tk ys k F₄ N₄ hoD hys
        clear F N
        k_steps
        refine Stop.out ?_
        refine kde_tupleOf F₄ N₄ (zs := ys.toList) ⟨_, N₄.get (.head _), rfl, k, rfl⟩ (by have h1 := hys.length; have h2 := kept_len n (cameN n ws); rw [Array.length_toList] at h1; omega) rfl fun ta h₅ F₅ N₅ hta => ?_
        clear F₄ N₄
        k_steps
        rename Fr _ _ _ _ => F₆
        rename News _ _ _ _ => N₆
        exact back _ _ (LM.intro F₆ ⟨ta, ys.toList, (CV.intro d1 d2 d3 d4 d5 d6 d7 d8), hmw, hmn, hml, rfl, hys⟩ (cel_in (fun q hq => N₆ q (by
          rcases List.mem_cons.mp hq with h | h
          · rw [h]; exact .head _
          · exact .tail _ (.tail _ h)))))
    clear F N d1 d2 d3 d4 d5 d6 d7 d8 hmw hmn hml
    intro hA tkA mA newsA F N0 hP
    refine hide fun G' back' => ?_
    obtain ⟨kt, vk, hCV, hmw, hmn, hml, hmk, hik⟩ := hP
    refine CV.elim hCV N0 (fun o1 o2 o3 o4 o5 o6 o7 o8 N d1 d2 d3 d4 d5 d6 d7 d8 => ?_)
    clear hCV N0
    refine back' ?_
    clear back' G'
    dsimp only
    obtain ⟨res, rr, sf⟩ := shape_f hok
    have hcl5 := cameN_len n ws
    have hll5 := left_len n (cameN n ws)
    refine wpC_execs_cons ?_
    refine wpC_of ?_
    refine cutA (s₁ := s₁) (L := L) (fun m news => ∃ du items dx k, CV L (some (.ref l)) (some (.int n tz)) (some (.ref pl)) (some (.bytes (byteArr (rowL ns n)) tr)) (some (.ref cl)) vo (some (.int 1 t1)) none ((du, W.listOf items k) :: (dx ++ [(kt, tupV vk), (lf, W.listOf itl kl), (wn, W.listOf itn kn), (cl, W.listOf itc kc), (wl, W.listOf itw kw)])) news ∧ m (Str.ofString "widths") = some (.ref wl) ∧ m (Str.ofString "went") = some (.ref wn) ∧ m (Str.ofString "left") = some (.ref lf) ∧ m (Str.ofString "kept") = some (.ref kt) ∧ m (Str.ofString "due") = some (.ref du) ∧ DueR res items dx) (fun Q' back => ?_) ?_
    · k_steps
      rename Fr _ _ _ _ => F₂
      rename News _ _ _ _ => N₂
      refine Stop.out ?_
      refine eq_intsK (vs := itl.toList) ⟨_, N₂.get (.tail _ (.tail _ (.tail _ (.tail _ (.tail _ (.tail _ (.tail _ (.tail _ (.tail _ (.tail _ (.head _))))))))))), rfl, kl, rfl⟩ hil (N₂.isList (.head _)) .nil (untR (by decide)) ?_
      cases hlf : leftN n (cameN n ws) with
      | nil =>
        rw [decide_eq_true rfl]
        have hres := due_nil sf.due hlf
        k_steps
        rename Fr _ _ _ _ => F₃
        rename News _ _ _ _ => N₃
        exact back _ _ (LM.intro F₃ ⟨_, _, [], 0, (CV.intro d1 d2 d3 d4 d5 d6 d7 d8), hmw, hmn, hml, hmk, rfl, .inl ⟨hres, rfl, rfl⟩⟩ (cel_in (fun q hq => N₃ q (by
          rcases List.mem_cons.mp hq with h | h
          · rw [h]; exact .head _
          · exact .tail _ (.tail _ h)))))
      | cons p t =>
        rw [decide_eq_false (by simp)]
        obtain ⟨r, hres, hring⟩ := due_cons sf.due hlf
        have hlp := sf.loop
        rw [hlf] at hlp hil hll5
        obtain ⟨ring, hr1, _, _, hpc, hr5, _, _, _, _⟩ := loop_step hlp
        k_steps
        rename Fr _ _ _ _ => F₃
        rename News _ _ _ _ => N₃
        rename_i hB _ _
        refine Stop.out ?_
        refine ring_call (p := p) (cs := cameN n ws) (rs := r) (fuel := 30) (items := itc) (ep := kc) (by omega) (by decide) rfl hpc hring (N₃.get (.tail _ (.tail _ (.tail _ (.tail _ (.tail _ (.tail _ (.tail _ (.tail _ (.tail _ (.tail _ (.tail _ (.tail _ (.head _)))))))))))))) hic (KX.keeps F₃.keep) (T.keeps F₃.keep) (dptR (by decide)) (untR (by decide)) ?_
        intro h₄ tk₄ a its₄ n₄ st₄ hn₄ ha₄ hi₄
        have hx := news_new F₃ N₃ st₄ hn₄ ha₄
        have F₄ := hx.1
        have N₄ := hx.2.1
        have ne₄ := hx.2.2
        clear hx
        clear F₃ N₃
        k_steps
        rename Fr _ _ _ _ => F₅
        rename News _ _ _ _ => N₅
        exact back _ _ (LM.intro F₅ ⟨_, _, [(a, W.listOf its₄ n₄)], 0, (CV.intro d1 d2 d3 d4 d5 d6 d7 d8), hmw, hmn, hml, hmk, rfl, .inr ⟨r, a, its₄, n₄, hres, rfl, rfl, hi₄⟩⟩ (cel_in (fun q hq => by
          rcases List.mem_cons.mp hq with h | h
          · rw [h]; exact N₅ _ (.head _)
          · exact cel_in (fun q hq => N₅ q (by
              rcases List.mem_cons.mp hq with h | h
              · rw [h]; exact .tail _ (.head _)
              · exact .tail _ (.tail _ (.tail _ h)))) q h)))
    clear F N d1 d2 d3 d4 d5 d6 d7 d8 hmw hmn hml hmk
    intro hB tkB mB newsB F N0 hP
    refine hide fun G' back' => ?_
    obtain ⟨du, itd, dx, kd, hCV, hmw, hmn, hml, hmk, hmd, hdr⟩ := hP
    refine CV.elim hCV N0 (fun o1 o2 o3 o4 o5 o6 o7 o8 N d1 d2 d3 d4 d5 d6 d7 d8 => ?_)
    clear hCV N0
    refine back' ?_
    clear back' G'
    dsimp only
    refine wpC_execs_cons ?_
    refine wpC_of ?_
    refine cutA (s₁ := s₁) (L := L) (fun m news => CV L (some (.ref l)) (some (.int n tz)) (some (.ref pl)) (some (.bytes (byteArr (rowL ns n)) tr)) (some (.ref cl)) vo (some (.int 1 t1)) none [(kt, tupV vk), (lf, W.listOf itl kl), (wn, W.listOf itn kn), (cl, W.listOf itc kc), (wl, W.listOf itw kw)] news ∧ m (Str.ofString "widths") = some (.ref wl) ∧ m (Str.ofString "went") = some (.ref wn) ∧ m (Str.ofString "left") = some (.ref lf) ∧ m (Str.ofString "kept") = some (.ref kt)) (fun Q' back => ?_) ?_
    · k_steps
      rename IsRange _ _ _ _ _ _ _ _ => hr
      rename Fr _ _ _ _ => F₂
      rename News _ _ _ _ => N₂
      refine Stop.out ?_
      have hwn := N₂.get (a := wn) (o := W.listOf itn kn) (.tail _ (.tail _ (.tail _ (.tail _ (.tail _ (.tail _ (.tail _ (.tail _ (.tail _ (List.mem_append_right _ (.tail _ (.tail _ (.head _)))))))))))))
      refine sorter_call rfl (pushX K0 F₂ rfl rfl) (KX.keeps F₂.keep) (T.keeps F₂.keep) hwn hin (Places.range hr hn20 rfl) (by omega) (fun p hp => by have := rangeI_in hp; rw [hcl5]; exact this) (by simp; omega) (dpt (by decide)) (unt (by decide)) ?_
      intro h₃ tk₃ sa p₃ f₃ u₁ u₂ own st₃ nb₃ S₃
      have No := news_nb F₂ nb₃
      have off₃ := off_nb nb₃ (fun p hp => (N₂ p hp).1)
      have N₃ := news_app No (N₂.keeps st₃)
      have F₃ := F₂.keeps st₃
      change SoL _ _ _ _ _ (sortP (cameN n ws) (rangeI n)) _ at S₃
      clear F₂ N₂ No
      k_steps
      refine Stop.out ?_
      refine told_law (res := res) (fuel := 300) rfl K0 F₃ rfl rfl rfl KX T N₃ S₃ off₃ sf.find sf.len (res_len sf) sf.mem (by rw [sf.ready]; decide) (by rw [sf.ready]; exact sf.np) (by rw [sf.ready]; exact sf.suc) (by rw [sf.ready]; exact sf.sucl) (ns₂ := keptN n (cameN n ws)) (by rw [sf.ready]; exact sf.done) sf.keptIn (Nat.le_trans (kept_len _ _) (by omega)) (dpt (by decide)) (unt (by decide)) ?_
      rw [sf.ready]
      intro h₄ tk₄ la rv ta va tb ua rx F₄ N₄ hva hua hrr
      clear F₃ N₃ S₃ off₃ st₃ nb₃
      k_steps
      rename Fr _ _ _ _ => F₅
      rename News _ _ _ _ => N₅
      obtain ⟨rv', R', hit⟩ := due_items hdr
      have hdu := N₅.get (a := du) (o := W.listOf itd kd) (.tail _ (.tail _ (List.mem_append_right _ (.tail _ (.tail _ (.tail _ (.tail _ (.tail _ (.tail _ (.tail _ (.tail _ (.head _))))))))))))
      refine add_lists (vs := itd.toList) F₅ N₅ ⟨_, hdu, rfl, kd, rfl⟩ (N₅.isList (.head _)) ?_ (by rw [hit]; exact Nat.le_of_ble_eq_true rfl)
      intro h₆ F₆ N₆
      rw [hit] at N₆
      have gla := N₆.get (a := la) (o := W.listOf #[rv, refOf res, .ref ta, .ref tb] 0) (.tail _ (.tail _ (.tail _ (List.mem_append_left _ (.head _)))))
      have gtb := N₆.get (a := tb) (o := tupV ua) (.tail _ (.tail _ (.tail _ (List.mem_append_left _ (.tail _ (.head _))))))
      have gta := N₆.get (a := ta) (o := tupV va) (.tail _ (.tail _ (.tail _ (List.mem_append_left _ (.tail _ (.tail _ (.head _)))))))
      have grx : ∀ p ∈ rx, h₆.get? p.1 = some p.2 := fun p hp => (N₆ p (.tail _ (.tail _ (.tail _ (List.mem_append_left _ (.tail _ (.tail _ (.tail _ hp)))))))).1
      have gdx : ∀ p ∈ dx, h₆.get? p.1 = some p.2 := fun p hp => (N₆ p (.tail _ (.tail _ (.tail _ (List.mem_append_right _ (.tail _ (.tail _ (.tail _ (.tail _ (.tail _ (.tail _ (.tail _ (.tail _ (.tail _ (List.mem_append_left _ hp))))))))))))))).1
      have gkt := N₆.get (a := kt) (o := tupV vk) (.tail _ (.tail _ (.tail _ (List.mem_append_right _ (.tail _ (.tail _ (.tail _ (.tail _ (.tail _ (.tail _ (.tail _ (.tail _ (.tail _ (List.mem_append_right _ (.head _)))))))))))))))
      have gnb := N₆.get (.head _)
      have gtn := N₆.get (.tail _ (.tail _ (.head _)))
      obtain ⟨_, rda⟩ := told_reads gla rfl gta gtb hva hua (ring_reads hrr grx).choose_spec
      obtain ⟨_, rdb⟩ := told_reads gnb rfl gtn gkt (.cons _ _ .nil) hik (ring_reads R' gdx).choose_spec
      refine ne_told rda rdb (untR (by decide)) ?_
      k_steps
      exact back _ _ (LM.intro F₆ ⟨(CV.intro d1 d2 d3 d4 d5 d6 d7 d8), hmw, hmn, hml, hmk⟩ (cel_sub (fun q hq => N₆ q (.tail _ (.tail _ (.tail _ (List.mem_append_right _ hq))))) (fun p hp => .tail _ (List.mem_append_right _ hp))))
    clear F N d1 d2 d3 d4 d5 d6 d7 d8 hmw hmn hml hmk hmd hdr
    intro hC tkC mC newsC F N0 hP
    refine hide fun G' back' => ?_
    obtain ⟨hCV, hmw, hmn, hml, hmk⟩ := hP
    refine CV.elim hCV N0 (fun o1 o2 o3 o4 o5 o6 o7 o8 N d1 d2 d3 d4 d5 d6 d7 d8 => ?_)
    clear hCV N0
    refine back' ?_
    clear back' G'
    dsimp only
    refine wpC_execs_cons ?_
    refine wpC_of ?_
    refine cutA (s₁ := s₁) (L := L) (fun m news => ∃ v8 t, CV L (some (.ref l)) (some (.int n tz)) (some (.ref pl)) (some (.bytes (byteArr (rowL ns n)) tr)) (some (.ref cl)) vo (some (.int (rr : Nat) t)) v8 [(kt, tupV vk), (wn, W.listOf itn kn), (cl, W.listOf itc kc), (wl, W.listOf itw kw)] news ∧ m (Str.ofString "widths") = some (.ref wl) ∧ m (Str.ofString "went") = some (.ref wn) ∧ m (Str.ofString "kept") = some (.ref kt)) (fun Q' back => ?_) ?_
    · refine while_invW (L := L) (fun f m news => ∃ lf itl kl lv v8 r t, m (Str.ofString "widths") = some (.ref wl) ∧ m (Str.ofString "went") = some (.ref wn) ∧ m (Str.ofString "left") = some (.ref lf) ∧ m (Str.ofString "kept") = some (.ref kt) ∧ CV L (some (.ref l)) (some (.int n tz)) (some (.ref pl)) (some (.bytes (byteArr (rowL ns n)) tr)) (some (.ref cl)) vo (some (.int (r : Nat) t)) v8 [(kt, tupV vk), (lf, W.listOf itl kl), (wn, W.listOf itn kn), (cl, W.listOf itc kc), (wl, W.listOf itw kw)] news ∧ IntsAre itl.toList lv ∧ loopP (cameN n ws) f lv r = some rr ∧ (∀ p ∈ lv, 0 ≤ p ∧ p < n) ∧ lv.length ≤ 20) 21 F N ?_ ?_
      · exact ⟨lf, itl, kl, leftN n (cameN n ws), none, 1, t1, hmw, hmn, hml, hmk, CV.intro d1 d2 d3 d4 d5 d6 d7 d8, hil, sf.loop, fun p hp => left_in hp, Nat.le_trans hll5 hn20⟩
      · clear F N d1 d2 d3 d4 d5 d6 d7 d8 hmw hmn hml hmk hil
        intro WW f m₁ news₁ hW tkW backW hI F N0
        refine hide fun G' back' => ?_
        obtain ⟨lf, itl, kl, lv, v8, r, tq, hmw, hmn, hml, hmk, hCV, hil, hlp, hlr, hll⟩ := hI
        refine CV.elim hCV N0 (fun o1 o2 o3 o4 o5 o6 o7 o8 N d1 d2 d3 d4 d5 d6 d7 d8 => ?_)
        clear hCV N0
        refine back' ?_
        clear back' G'
        k_steps
        rename Fr _ _ _ _ => F₂
        rename News _ _ _ _ => N₂
        refine Stop.out ?_
        refine ne_intsK (vs := itl.toList) ⟨_, N₂.get (.tail _ (.tail _ (.tail _ (.tail _ (.tail _ (.tail _ (.tail _ (.tail _ (.tail _ (.tail _ (.head _))))))))))), rfl, kl, rfl⟩ hil (N₂.isList (.head _)) .nil (untR (by decide)) ?_
        cases lv with
        | nil =>
          have hrr : r = rr := by cases f <;> exact Option.some.inj hlp
          subst hrr
          rw [decide_eq_true rfl]
          k_steps
          exact back _ _ (LM.intro F₂ ⟨v8, tq, (CV.intro d1 d2 d3 d4 d5 d6 d7 d8), hmw, hmn, hmk⟩ (cel_sub (fun q hq => N₂ q (.tail _ hq)) (fun p hp => by
            rcases List.mem_cons.mp hp with h | h
            · rw [h]; exact .head _
            · exact .tail _ (.tail _ h))))
        | cons p t =>
          obtain ⟨f, rfl⟩ : ∃ f', f = f' + 1 := by
            cases f with
            | zero => cases hlp
            | succ f => exact ⟨f, rfl⟩
          obtain ⟨ring, hr1, hr2, hr3, hpc, hr5, hr6, hr7, hr8, hr9⟩ := loop_step hlp
          rw [decide_eq_false (by simp)]
          have N₁ : News s₁.heap L _ _ := fun q hq => N₂ q (.tail _ hq)
          clear N₂
          k_steps
          refine Stop.out ?_
          refine ring_call (p := p) (cs := cameN n ws) (rs := ring) (fuel := 30) (items := itc) (ep := kc) (by omega) (by decide) rfl hpc hr1 (N₁.get (.tail _ (.tail _ (.tail _ (.tail _ (.tail _ (.tail _ (.tail _ (.tail _ (.tail _ (.tail _ (.tail _ (.head _))))))))))))) hic (KX.keeps F₂.keep) (T.keeps F₂.keep) (dptR (by decide)) (untR (by decide)) ?_
          intro h₄ tk₄ ra its₄ n₄ st₄ hn₄ ha₄ hi₄
          have hx := news_new F₂ N₁ st₄ hn₄ ha₄
          have F₄ := hx.1
          have N₄ := hx.2.1
          have ne₄ := hx.2.2
          clear hx
          clear F₂ N₁
          k_steps
          refine Stop.out ?_
          refine st8 F₄ (cel_in N₄) d8 (nc_list (nc_tup (nc_list (nc_list (nc_list (nc_list nc_nil)))))) (fun hx ox Fx Nx dx => ?_) rfl rfl rfl
          clear F₄ N₄
          refine wpAny_execs_cons ?_
          refine cutA (s₁ := s₁) (L := L) (fun m news => CV L (some (.ref l)) (some (.int n tz)) (some (.ref pl)) (some (.bytes (byteArr (rowL ns n)) tr)) (some (.ref cl)) vo (some (.int (r : Nat) tq)) (some (.ref ra)) [(ra, W.listOf its₄ n₄), (kt, tupV vk), (lf, W.listOf itl kl), (wn, W.listOf itn kn), (cl, W.listOf itc kc), (wl, W.listOf itw kw)] news ∧ m (Str.ofString "widths") = some (.ref wl) ∧ m (Str.ofString "went") = some (.ref wn) ∧ m (Str.ofString "left") = some (.ref lf) ∧ m (Str.ofString "kept") = some (.ref kt)) (fun Q' back => ?_) ?_
          · skip
            k_steps
            refine Stop.out ?_
            have hwn := Nx.get (a := wn) (o := W.listOf itn kn) (.tail _ (.tail _ (.tail _ (.tail _ (.tail _ (.tail _ (.tail _ (.tail _ (.tail _ (.tail _ (.tail _ (.head _))))))))))))
            have hlf := Nx.get (a := lf) (o := W.listOf itl kl) (.tail _ (.tail _ (.tail _ (.tail _ (.tail _ (.tail _ (.tail _ (.tail _ (.tail _ (.tail _ (.head _)))))))))))
            refine sorter_call rfl (pushX K0 Fx rfl rfl) (KX.keeps Fx.keep) (T.keeps Fx.keep) hwn hin (Places.list hlf hil) (by omega) (fun q hq => by have := hlr q hq; rw [hcl5]; exact this) hll (dpt (by decide)) (unt (by decide)) ?_
            intro h₅ tk₅ sa p₅ f₅ u₁ u₂ own st₅ nb₅ S₅
            have No := news_nb Fx nb₅
            have off₅ := off_nb nb₅ (fun q hq => (Nx q hq).1)
            have N₅ := news_app No (Nx.keeps st₅)
            have F₅ := Fx.keeps st₅
            clear Fx Nx No
            k_steps
            refine Stop.out ?_
            have KF := KX.keeps F₅.keep
            refine meth_find F₅ KX T N₅ S₅ ?_
            k_steps
            refine Stop.out ?_
            refine find_law (fuel := 300) rfl K0 F₅ rfl rfl rfl KX T N₅ S₅ off₅ hr2 (Nat.le_trans (gcnt_sort _ _) (by omega)) (dpt (by decide)) (unt (by decide)) ?_ ?_
            · intro e; cases e
            · intro r' e h₆ tk₆ c its₆ n₆ F₆ N₆ hi₆ ne₆
              cases e
              clear F₅ N₅ S₅ off₅ nb₅ st₅ hwn hlf
              k_steps
              rename Fr _ _ _ _ => F₇
              rename News _ _ _ _ => N₇
              refine Stop.out ?_
              refine ne_intsK (vs := its₆.toList) (us := its₄.toList) ⟨_, N₇.get (.head _), rfl, n₆, rfl⟩ hi₆ ⟨_, N₇.get (.tail _ (.tail _ (.tail _ (.tail _ (.tail _ (.tail _ (.tail _ (.tail _ (.tail _ (.head _)))))))))), rfl, n₄, rfl⟩ hi₄ (untR (by decide)) ?_
              rw [decide_eq_true rfl]
              k_steps
              exact back _ _ (LM.intro F₇ ⟨(CV.intro d1 d2 d3 d4 d5 d6 d7 dx), hmw, hmn, hml, hmk⟩ (fun q hq => N₇ q (.tail _ hq)))
          clear Fx Nx d1 d2 d3 d4 d5 d6 d7 d8 dx hmw hmn hml hmk ne₄
          intro hE tkE mE newsE F₅ N0 hP
          refine hide fun G' back' => ?_
          obtain ⟨hCV, hmw, hmn, hml, hmk⟩ := hP
          refine CV.elim hCV N0 (fun o1 o2 o3 o4 o5 o6 o7 o8 N₅ d1 d2 d3 d4 d5 d6 d7 d8 => ?_)
          clear hCV N0
          refine back' ?_
          clear back' G'
          dsimp only
          refine wpAny_execs_cons ?_
          refine cutA (s₁ := s₁) (L := L) (fun m news => ∃ ln its k, CV L (some (.ref l)) (some (.int n tz)) (some (.ref pl)) (some (.bytes (byteArr (rowL ns n)) tr)) (some (.ref cl)) vo (some (.int (r : Nat) tq)) (some (.ref ra)) [(ln, W.listOf its k), (ra, W.listOf its₄ n₄), (kt, tupV vk), (lf, W.listOf itl kl), (wn, W.listOf itn kn), (cl, W.listOf itc kc), (wl, W.listOf itw kw)] news ∧ m (Str.ofString "widths") = some (.ref wl) ∧ m (Str.ofString "went") = some (.ref wn) ∧ m (Str.ofString "left") = some (.ref ln) ∧ m (Str.ofString "kept") = some (.ref kt) ∧ IntsAre its.toList ((p :: t).filter fun q => decide (q ∉ ring))) (fun Q' back => ?_) ?_
          · skip
            refine wpAny_Assign_ListComp_free (cl := [(Str.ofString "ring", L + 1 + 1 + 1 + 1 + 1 + 1 + 1 + 1)]) (pOf fun k => decide (k ∉ ring)) (fOf fun k => k) ?a1 ?a2 ?a3 ?a4 ?a5 ?a6 ?a7 ?a8 ?_
            case a1 => rfl
            case a2 => rfl
            case a3 => decide
            case a4 => rfl
            case a5 => decide
            case a6 => rfl
            case a7 => rfl
            case a8 => rfl
            k_steps
            rename Fr _ _ _ _ => F₆
            rename News _ _ _ _ => N₆
            refine Stop.out ?_
            have hlf : hE.IsList lf itl.toList.toArray := ⟨_, N₆.get (.tail _ (.tail _ (.tail _ (.tail _ (.tail _ (.tail _ (.tail _ (.tail _ (.tail _ (.tail _ (.head _))))))))))), rfl, kl, rfl⟩
            refine comp_srcA (L := L) (m := mE) (fun k => decide (k ∉ ring)) (fun k => k) rfl rfl (Src.list hlf hil) (by omega) F₆ N₆ ?_ ?_
            · rintro C oC m₄ i k t' hp₃ gn₃ dr₃ tk₃ os₃ E' hk hoC hx F₇ N₇
              clear F₆ N₆ hlf
              dsimp only at *
              refine ⟨wpAny_tests_one ?_, fun _ => ?_⟩
              · k_steps
                refine Stop.out ?_
                refine notIn_ints (vs := its₄.toList) ⟨_, N₇.get (.tail _ (.tail _ (.tail _ (.tail _ (.tail _ (.tail _ (.tail _ (.tail _ (.tail _ (.head _)))))))))), rfl, n₄, rfl⟩ hi₄ ?_
                k_steps
                exact ⟨_, _, rfl, fun _ _ e => e⟩
              · k_steps
                exact ⟨_, _, rfl, fun _ _ e => e⟩
            · intro D h tk ys k F₇ N₇ hoD hys
              refine back _ _ (LM.intro F₇ ⟨D, ys, k, (CV.intro d1 d2 d3 d4 d5 d6 d7 d8), hmw, hmn, rfl, hmk, ?_⟩ (cel_in N₇))
              rw [List.map_id'] at hys
              exact hys
          clear F₅ N₅ d1 d2 d3 d4 d5 d6 d7 d8 hmw hmn hml hmk
          intro hG tkG mG newsG F₅ N0 hP
          refine hide fun G' back' => ?_
          obtain ⟨ln, itsL, kL, hCV, hmw, hmn, hml, hmk, hiL⟩ := hP
          refine CV.elim hCV N0 (fun o1 o2 o3 o4 o5 o6 o7 o8 N₅ d1 d2 d3 d4 d5 d6 d7 d8 => ?_)
          clear hCV N0
          refine back' ?_
          clear back' G'
          dsimp only
          obtain ⟨d, hd⟩ : ∃ d, ring.length = d + 1 := ⟨ring.length - 1, by omega⟩
          have hd1 : 1 ≤ d := by omega
          have hsz4 : its₄.size = d + 1 := by have := hi₄.length; rw [Array.length_toList] at this; omega
          k_steps
          refine Stop.out ?_
          refine cutD (s₁ := s₁) (L := L) mG (celL L o1 o2 o3 o4 o5 o6 o7 o8 [(ln, W.listOf itsL kL), (ra, W.listOf its₄ n₄), (kt, tupV vk), (lf, W.listOf itl kl), (wn, W.listOf itn kn), (cl, W.listOf itc kc), (wl, W.listOf itw kw)]) ((multN r d).map fun x : Nat => (x : Int)) (fun Q₂ backD => ?_) ?_
          · refine wpAny_ListComp_free (cl := [(Str.ofString "rounds", L + 1 + 1 + 1 + 1 + 1 + 1 + 1), (Str.ofString "ring", L + 1 + 1 + 1 + 1 + 1 + 1 + 1 + 1)]) (pOf fun k => Int.fmod ((r : Int) * k) (d : Int) == 0) (fOf fun k => (r : Int) * k) ?a1 ?a2 ?a3 ?a4 ?a5 ?_
            case a1 => rfl
            case a2 => decide
            case a3 => rfl
            case a4 => decide
            case a5 => rfl
            have hraL : hG.IsList ra its₄ := ⟨_, N₅.get (.tail _ (.tail _ (.tail _ (.tail _ (.tail _ (.tail _ (.tail _ (.tail _ (.tail _ (.head _)))))))))), rfl, n₄, rfl⟩
            k_steps
            refine Stop.out (kun_lenL hraL (k := (d : Int) + 1) (by rw [hsz4]; omega) (by omega) ?_)
            k_steps
            rename IsRange _ _ _ _ _ _ _ _ => hr
            rename Fr _ _ _ _ => F₆
            rename News _ _ _ _ => N₆
            refine Stop.out ?_
            refine comp_src (L := L) (m := mG) (fun k => Int.fmod ((r : Int) * k) (d : Int) == 0) (fun k => (r : Int) * k) rfl (Src.range hr (small_one (by omega)) (size_one1 d)) (by simp; omega) F₆ N₆ ?_ ?_
            · rintro C oC m₄ i k t' hp₃ gn₃ dr₃ tk₃ os₃ E' hk hoC hx F₇ N₇
              obtain ⟨hk1, hk2⟩ := mem_up hk
              clear F₆ N₆ hr hraL
              dsimp only at *
              refine ⟨wpAny_tests_one ?_, fun _ => ?_⟩
              · have hraM : hp₃.IsList ra its₄ := ⟨_, N₇.get (.tail _ (.tail _ (.tail _ (.tail _ (.tail _ (.tail _ (.tail _ (.tail _ (.tail _ (.tail _ (.head _))))))))))), rfl, n₄, rfl⟩
                k_steps
                refine Stop.out (kun_lenL hraM (k := (d : Int) + 1) (by rw [hsz4]; omega) (by omega) ?_)
                k_steps
                · rw [Int.add_sub_cancel]
                · exact ⟨_, _, rfl, fun _ _ e => e⟩
              · k_steps
                exact ⟨_, _, rfl, fun _ _ e => e⟩
            · intro D h tk ys k F₇ N₇ hoD hys
              rw [mult_of] at hys
              exact backD _ _ (CompD.intro F₇ N₇ hoD hys)
          · intro D h tk ys k F₆ N₆ hoD hys
            clear F₅ N₅
            k_steps
            refine Stop.out ?_
            refine kso_min F₆ N₆ (vs := ys.toList) ⟨_, N₆.get (.head _), rfl, k, rfl⟩ hys (by rw [List.length_map]; exact mult_pos hd1) rfl fun h' M tM tk' F₇ N₇ hM hmin => ?_
            have hM := minN_of hM hmin
            subst hM
            clear F₆ N₆
            k_steps
            refine Stop.out ?_
            refine st7 F₇ (cel_in N₇) d7 (nc_list (nc_list (nc_list (nc_tup (nc_list (nc_list (nc_list (nc_list nc_nil)))))))) (fun hx ox Fx Nx dx => ?_) rfl rfl rfl
            k_steps
            rw [show ring.length - 1 = d from by omega] at hr9
            exact backW f _ _ _ _ (Nat.lt_succ_self _) Fx ⟨ln, itsL, kL, _, some (.ref ra), _, tM, hmw, hmn, hml, hmk, (CV.intro d1 d2 d3 d4 d5 d6 dx d8), hiL, hr9, fun q hq => hlr q (List.mem_filter.mp hq).1, Nat.le_trans (List.length_filter_le _ _) hll⟩ (cel_sub Nx (fun q hq => by
              simp only [List.mem_cons, List.not_mem_nil, or_false] at hq ⊢
              rcases hq with h | h | h | h | h
              · exact .inr (.inr (.inr (.inl h)))
              · exact .inr (.inl h)
              · exact .inr (.inr (.inr (.inr (.inr (.inl h)))))
              · exact .inr (.inr (.inr (.inr (.inr (.inr (.inl h))))))
              · exact .inr (.inr (.inr (.inr (.inr (.inr (.inr h))))))))
    clear F N d1 d2 d3 d4 d5 d6 d7 d8 hmw hmn hml hmk hil
    intro hD tkD mD newsD F N0 hP
    refine hide fun G' back' => ?_
    obtain ⟨v8, tR, hCV, hmw, hmn, hmk⟩ := hP
    refine CV.elim hCV N0 (fun o1 o2 o3 o4 o5 o6 o7 o8 N d1 d2 d3 d4 d5 d6 d7 d8 => ?_)
    clear hCV N0
    refine back' ?_
    clear back' G'
    dsimp only
    refine wpC_execs_cons ?_
    refine wpC_of ?_
    refine cutA (s₁ := s₁) (L := L) (fun m news => CV L (some (.ref l)) (some (.int n tz)) (some (.ref pl)) (some (.bytes (byteArr (rowL ns n)) tr)) (some (.ref cl)) vo (some (.int (rr : Nat) tR)) v8 [(wl, W.listOf itw kw)] news ∧ m (Str.ofString "widths") = some (.ref wl)) (fun Q' back => ?_) ?_
    · k_steps
      rename Fr _ _ _ _ => Fx
      rename News _ _ _ _ => Nx
      refine Stop.out ?_
      have hwn := Nx.get (a := wn) (o := W.listOf itn kn) (.tail _ (.tail _ (.tail _ (.tail _ (.tail _ (.tail _ (.tail _ (.tail _ (.tail _ (.head _))))))))))
      have hkt := Nx.get (a := kt) (o := tupV vk) (.tail _ (.tail _ (.tail _ (.tail _ (.tail _ (.tail _ (.tail _ (.tail _ (.head _)))))))))
      refine sorter_call rfl (pushX K0 Fx rfl rfl) (KX.keeps Fx.keep) (T.keeps Fx.keep) hwn hin (Places.tuple hkt hik) (by omega) (fun q hq => by have := kept_in hq; rw [hcl5]; exact this) (Nat.le_trans (kept_len _ _) hn20) (dpt (by decide)) (unt (by decide)) ?_
      intro h₅ tk₅ sa p₅ f₅ u₁ u₂ own st₅ nb₅ S₅
      have No := news_nb Fx nb₅
      have off₅ := off_nb nb₅ (fun q hq => (Nx q hq).1)
      have N₅ := news_app No (Nx.keeps st₅)
      have F₅ := Fx.keeps st₅
      clear Fx Nx No
      k_steps
      refine Stop.out ?_
      have KF := KX.keeps F₅.keep
      refine meth_find F₅ KX T N₅ S₅ ?_
      k_steps
      refine Stop.out ?_
      refine find_law (fuel := 300) rfl K0 F₅ rfl rfl rfl KX T N₅ S₅ off₅ sf.kept (Nat.le_trans (gcnt_sort _ _) (by have := kept_len n (cameN n ws); omega)) (dpt (by decide)) (unt (by decide)) ?_ ?_
      · intro _ h₆ tk₆ F₆ N₆
        clear F₅ N₅ S₅ off₅ nb₅ st₅ hwn hkt
        k_steps
        rename Fr _ _ _ _ => F₇
        rename News _ _ _ _ => N₇
        exact back _ _ (LM.intro F₇ ⟨(CV.intro d1 d2 d3 d4 d5 d6 d7 d8), hmw⟩ (cel_sub N₇ (fun q hq => by rw [List.mem_singleton.mp hq]; exact (.tail _ (.tail _ (.tail _ (.head _)))))))
      · intro r' e; cases e
    clear F N d1 d2 d3 d4 d5 d6 d7 d8 hmw hmn hmk hik hin
    intro hE tkE mE newsE F N0 hP
    refine hide fun G' back' => ?_
    obtain ⟨hCV, hmw⟩ := hP
    refine CV.elim hCV N0 (fun o1 o2 o3 o4 o5 o6 o7 o8 N d1 d2 d3 d4 d5 d6 d7 d8 => ?_)
    clear hCV N0
    refine back' ?_
    clear back' G'
    dsimp only
    refine wpC_execs_cons ?_
    refine wpC_of ?_
    refine cutA (s₁ := s₁) (L := L) (fun m news => CV L (some (.ref l)) (some (.int n tz)) (some (.ref pl)) (some (.bytes (byteArr (rowL ns n)) tr)) (some (.ref cl)) vo (some (.int (rr : Nat) tR)) v8 [(wl, W.listOf itw kw)] news ∧ m (Str.ofString "widths") = some (.ref wl) ∧ m (Str.ofString "now") = some (.bytes (byteArr (rowL ns n)) tr)) (fun Q' back => ?_) ?_
    · k_steps
      rename Fr _ _ _ _ => F₂
      rename News _ _ _ _ => N₂
      exact back _ _ (LM.intro F₂ ⟨(CV.intro d1 d2 d3 d4 d5 d6 d7 d8), hmw, rfl⟩ N₂)
    clear F N d1 d2 d3 d4 d5 d6 d7 d8 hmw
    intro hG tkG mG newsG F N0 hP
    refine hide fun G' back' => ?_
    obtain ⟨hCV, hmw, hmo⟩ := hP
    refine CV.elim hCV N0 (fun o1 o2 o3 o4 o5 o6 o7 o8 N d1 d2 d3 d4 d5 d6 d7 d8 => ?_)
    clear hCV N0
    refine back' ?_
    clear back' G'
    dsimp only
    refine wpC_execs_cons ?_
    refine cutC (s₁ := s₁) (L := L) (fun m news => True) (fun Q' back => ?_) ?_
    · refine wpC_For ?_
      have hrl := sf.le
      k_steps
      rename IsRange _ _ _ _ _ _ _ _ => hr
      rename Fr _ _ _ _ => F₂
      rename News _ _ _ _ => N₂
      rename Heap => hQ
      refine Stop.out ?_
      have hwl₂ : hQ.get? wl = some (W.listOf itw kw) := N₂.get (.tail _ (.tail _ (.tail _ (.tail _ (.tail _ (.tail _ (.tail _ (.tail _ (.head _)))))))))
      have hwlL := (N₂ (wl, W.listOf itw kw) (.tail _ (.tail _ (.tail _ (.tail _ (.tail _ (.tail _ (.tail _ (.tail _ (.head _)))))))))).2.1
      refine loop_rng (l := wl) (lo := W.listOf itw kw) (k := rr) (fun i m news => ∃ b tb, news = celL L o1 o2 o3 o4 o5 o6 o7 o8 [(wl, W.listOf itw kw)] ∧ m (Str.ofString "widths") = some (.ref wl) ∧ m (Str.ofString "now") = some (.bytes b tb) ∧ b.size = n ∧ ∀ p, p < n → b[p]? = (byteArr (rowL ns n))[iterN ws i p]?) rfl hr hrl rfl rfl hwl₂ F₂ N₂ hwlL (.inr (.tail _ (.tail _ (.tail _ (.tail _ (.tail _ (.tail _ (.tail _ (.tail _ (.head _)))))))))) ?_ ?_ ?_
      · exact ⟨_, _, rfl, hmw, hmo, hrz, fun p _ => rfl⟩
      · clear F₂ N₂ hr hwl₂ hmw hmo
        intro I i t m₁ news₁ h tk oI hi hp1 hoff hlo F₃ N₃
        refine hide fun G' back' => ?_
        obtain ⟨b, tb, rfl, hmw, hmo, hb, hbp⟩ := hp1
        refine back' ?_
        clear back' G'
        refine hideC fun Q₃ back₃ => ?_
        obtain ⟨of, fdf, hof, hdf⟩ : ∃ o fd, s₁.heap.get? 155 = some o ∧ o.data = .func fd := ⟨_, _, KX 155 _ (by k_is), rfl⟩
        refine wpC_execs_cons ?_
        refine wpC_Assign_Name rfl ?_
        refine wpC_Call ?_
        k_steps
        refine wpC_callWith_function (o := of) (fd := fdf) (x := eval _ _) (rest := [(false, eval _ _)]) rfl ?_
        refine wpC_spliced_cons (wpC_of ?_)
        k_steps
        refine wpC_spliced_cons (wpC_of ?_)
        k_steps
        rename Fr _ _ _ _ => F₄
        rename News _ _ _ _ => N₄
        refine wpC_spliced_nil ⟨⟨F₄.keep _ _ hof, hdf⟩, ?_⟩
        refine round_call (by omega) rfl hlo hiw (by rw [hb]; exact hws) (KX.keeps F₄.keep) (T.keeps F₄.keep) (dptR (by decide)) (untR (by decide)) ?_
        intro h₅ tk₅ r₅ tr₅ st₅ hs₅ hp₅
        rw [hb] at hs₅ hp₅
        have F₅ := F₄.keeps st₅
        have N₅ := N₄.keeps st₅
        have hbq := iter_step hws hbp hp₅
        have hlast := sf.last i hi
        rw [← row_iter hn20 hws hs₅ hbq] at hlast
        clear F₄ N₄ hp₅ hbp hb
        k_steps
        rename Fr _ _ _ _ => F₆
        rename News _ _ _ _ => N₆
        dsimp only
        refine wpC_execs_cons (wpC_of ?_)
        k_steps
        refine call_type_of (Tx := "bytes") rfl (by decide +kernel) ?_
        k_steps
        · rename (_ != _) = true => hbad
          exfalso
          rw [hlast, cmp_rr] at hbad
          simp at hbad
        · dsimp only
          refine wpC_of (wpAny_execs_nil ?_)
          refine back₃ _ _ ?_
          exact ⟨_, _, _, celL L o1 o2 o3 o4 o5 o6 o7 o8 [(wl, W.listOf itw kw)], rfl, F₆, N₆, hoff, ⟨r₅, tr₅, rfl, hmw, rfl, hs₅, hbq⟩, .inr (.tail _ (.tail _ (.tail _ (.tail _ (.tail _ (.tail _ (.tail _ (.tail _ (.head _)))))))))⟩
      · rintro m₁ news₁ h tk ⟨b, tb, rfl, hm1, hm2, hb, hbp⟩ F₃ N₃
        exact back _ _ (LM.intro F₃ trivial N₃)
    clear F N d1 d2 d3 d4 d5 d6 d7 d8 hmw hmo
    intro hZ tkZ mZ newsZ F N hP
    clear hP
    dsimp only
    refine wpC_of ?_
    k_steps
    exact ⟨rfl, _, _, _, _, rfl, F⟩
  · obtain ⟨rfl, h, tk, L, m, rfl, F⟩ := he
    dsimp only
    refine GoodW.toG ?_
    k_steps
  )
end Mine
end
open PySem PySem.W PyProof.Rows
theorem PySem.Challenge.cw_nb0242_01_holds : PySem.Challenge.rw_nb0242_01.Holds :=
  Mine.law_holds
