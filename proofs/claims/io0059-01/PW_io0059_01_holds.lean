import PyProof.Rows.All
import Wide.All
import OpenK.AllK
import Wide.FinOn
import Lean
import PySem.Challenge.RW_io0059_01
set_option Elab.async false

section
open PySem PySem.W PyProof.Rows
namespace Mine

/-- a code that is no decoder holding a buffer -/
def noDec (c : Code) : Prop := match c with
  | .builtin id _ => Builtin.Bytes.decodersThatHold.contains id = false
  | _ => True
def CleanL (l : List (Code × Pos)) : Prop := ∀ q ∈ l, noDec q.1

def wpS {α : Type} (M : Model) (A : Around) (t : Sem α) (Q : α → Shared → Prop) (E : Value → Shared → Prop) (s : Shared) : Prop :=
  ∀ Γ p, Γ.In A → noDec Γ.code → CleanL Γ.below → Sem.wp M Γ t (fun a _ s' => Q a s') (fun e _ s' => E e s') p s
def codeS (M : Model) (A : Around) (c : Code) (R : Result → Shared → Prop) (s : Shared) : Prop :=
  ∀ Γ p, Γ.code = c → Γ.Below A → CleanL Γ.below → wpCode M Γ R p s

section
variable {α β : Type} {M : Model} {A : Around} {E : Value → Shared → Prop} {s : Shared}
theorem wpS_of {t : Sem α} {Q : α → Shared → Prop} (h : wpAny M A t Q E s) : wpS M A t Q E s := fun Γ p hΓ _ _ => h Γ p hΓ
theorem codeS_of {c : Code} {R : Result → Shared → Prop} (h : codeAny M A c R s) : codeS M A c R s := fun Γ p hc hΓ _ => h Γ p hc hΓ
theorem wpS_pure {a : α} {Q : α → Shared → Prop} (h : Q a s) : wpS M A (pure a) Q E s := fun _ _ _ _ _ => h
theorem wpS_mono {t : Sem α} {Q Q' : α → Shared → Prop} {E' : Value → Shared → Prop} (h : wpS M A t Q E s)
    (hQ : ∀ a s, Q a s → Q' a s) (hE : ∀ e s, E e s → E' e s) : wpS M A t Q' E' s :=
  fun Γ p hΓ h1 h2 => Sem.wp_mono M Γ t (fun a _ s => hQ a s) (fun e _ s => hE e s) p s (h Γ p hΓ h1 h2)
theorem wpS_bind {m : Sem α} {f : α → Sem β} {Q : β → Shared → Prop} (h : wpS M A m (fun a s' => wpS M A (f a) Q E s') E s) :
    wpS M A (m >>= f) Q E s := fun Γ p hΓ h1 h2 => by
  rw [Sem.wp_bind']
  exact Sem.wp_mono M Γ m (fun a p' s' h' => h' Γ p' hΓ h1 h2) (fun _ _ _ h' => h') p s (h Γ p hΓ h1 h2)
/-- a clean first part -/
theorem wpS_bindA {m : Sem α} {f : α → Sem β} {Q : β → Shared → Prop} (h : wpAny M A m (fun a s' => wpS M A (f a) Q E s') E s) :
    wpS M A (m >>= f) Q E s := wpS_bind (wpS_of h)
theorem wpS_holding {vs : List Value} {m : Sem α} {Q : α → Shared → Prop} (h : wpS M A m Q E s) : wpS M A (holding vs m) Q E s :=
  fun Γ p hΓ h1 h2 => by rw [Sem.wp_holding]; exact h Γ p hΓ h1 h2
theorem wpS_standAt {pos : Pos} {Q : Unit → Shared → Prop} (h : Q () s) : wpS M A (standAt pos) Q E s := fun _ _ _ _ _ => h
theorem wpS_onRaise {m : Sem α} {k : Value → Sem Unit} {Q : α → Shared → Prop}
    (h : wpS M A m Q (fun _ _ => False) s) : wpS M A (m.onRaise k) Q E s := fun Γ p hΓ h1 h2 => by
  rw [Sem.wp_onRaise]
  exact Sem.wp_mono M Γ m (fun _ _ _ h' => h') (fun e p' s' h' => h'.elim) p s (h Γ p hΓ h1 h2)
theorem wpS_run {c : Code} {h : Option Value} {Q : Flow → Shared → Prop}
    (hc : codeS M (A.mark h) c (fun r s' => match r with | .ok f => Q f s' | .error e => E e s') s) (hnb : h ≠ some byPass := by intro x; cases x) :
    wpS M A (run c h) Q E s := fun Γ p hΓ h1 h2 => by
  rw [Sem.wp_run]
  refine hc _ p rfl (hΓ.enter c h p hnb) fun q hq => ?_
  rcases List.mem_cons.mp hq with rfl | hq
  · exact h1
  · exact h2 q hq
theorem wpS_runValue {c : Code} {Q : Value → Shared → Prop}
    (hc : codeS M A c (fun r s' => match r with | .ok (.ret v) => Q v s' | .ok _ => False | .error e => E e s') s) :
    wpS M A (runValue c) Q E s := fun Γ p hΓ h1 h2 => by
  rw [Sem.wp_runValue]
  refine hc _ p rfl (hΓ.enter c none p (by intro x; cases x)) fun q hq => ?_
  rcases List.mem_cons.mp hq with rfl | hq
  · exact h1
  · exact h2 q hq
theorem wpS_call {f : Value} {pos : List Value} {kw : List (Str × Value)} {Q : Value → Shared → Prop}
    (hc : codeS M A (.call f ⟨pos, kw⟩) (fun r s' => match r with | .ok (.ret v) => Q v s' | .ok _ => False | .error e => E e s') s) :
    wpS M A (call f pos kw) Q E s := wpS_runValue hc

theorem codeS_of_tree {c : Code} {R : Result → Shared → Prop} (hn : noDec c)
    (h : wpS M (A.under c) (M.den c) (fun fin s' => match fin with | .done f => R (.ok f) s' | .again c' => c'.quiet = true ∧ codeS M A c' R s')
      (fun e s' => R (.error e) s') s) : codeS M A c R s := fun Γ p hc hΓ hb => by
  rw [wpCode_iff_wp, hc]
  refine Sem.wp_mono M Γ _ (fun fin p' s' h' => ?_) (fun _ _ _ h' => h') p s (h Γ p (hc ▸ hΓ.in) (hc ▸ hn) hb)
  cases fin with
  | done f => exact h'
  | again c' => exact ⟨h'.1, h'.2 (Γ.goto c') p' rfl (hΓ.goto c') hb⟩

theorem codeS_loop {c : Code} {R : Result → Shared → Prop} (hn : noDec c) (hq : c.quiet = true) (I : Nat → Shared → Prop)
    (turn : ∀ n s, I n s → wpS M (A.under c) (M.den c)
      (fun fin s' => match fin with | .done f => R (.ok f) s' | .again c' => (c' = c ∧ ∃ m, m < n ∧ I m s') ∨ (c'.quiet = true ∧ codeS M A c' R s')) (fun e s' => R (.error e) s') s)
    (n : Nat) (h : I n s) : codeS M A c R s := by
  induction n using Nat.strongRecOn generalizing s with
  | ind n ih =>
    refine codeS_of_tree hn (wpS_mono (turn n s h) (fun fin s' hf => ?_) fun _ _ h' => h')
    cases fin with
    | done f => exact hf
    | again c' =>
      rcases hf with ⟨rfl, m, hm, hI⟩ | hf
      · exact ⟨hq, ih m hm hI⟩
      · exact hf
end

section
variable {M : Model} {A : Around} {E : Value → Shared → Prop} {s : Shared} {env : Env}
theorem wpS_execs_nil {Q : Flow → Shared → Prop} (h : Q .next s) : wpS M A (execs [] env) Q E s := fun _ _ _ _ _ => h
theorem wpS_execs_cons {st : Stmt} {rest : List Stmt} {Q : Flow → Shared → Prop}
    (h : wpS M A (exec st env) (fun f s' => match f with | .next => wpS M A (execs rest env) Q E s' | f => Q f s') E s) :
    wpS M A (execs (st :: rest) env) Q E s := by
  rw [execs_cons]
  refine wpS_bind (wpS_mono h (fun f s' h' => ?_) fun _ _ h' => h')
  cases f <;> first | exact h' | exact wpS_pure h'
theorem wpS_If {test : Expr} {body orelse : List Stmt} {pos : Pos} {Q : Flow → Shared → Prop}
    (h : wpAny M A (isTrue test env (eval test env)) (fun b s₂ => if b = true then wpS M A (execs body env) Q E s₂ else wpS M A (execs orelse env) Q E s₂) E s) :
    wpS M A (exec (.If test body orelse pos) env) Q E s := by
  rw [exec_If]
  refine wpS_bind (wpS_standAt (wpS_bindA (wpAny_mono h (fun b s' h' => ?_) fun _ _ x => x)))
  cases b <;> simpa using h'
theorem wpS_Assign_Name {x : Str} {pos' pos : Pos} {value : Expr} {Q : Flow → Shared → Prop}
    (h : wpS M A (eval value env) (fun v s₁ => wpAny M A (storeName env x v) (fun _ => Q .next) E s₁) E s)
    (hs : swapsWith value (some (.Name x pos')) pos.line env = pure false := by rfl) :
    wpS M A (exec (.Assign [.Name x pos'] value pos) env) Q E s := by
  rw [exec_Assign_Name env x pos' value pos hs]
  refine wpS_bind (wpS_standAt (wpS_bind (wpS_mono h (fun v s' h' => ?_) fun _ _ x => x)))
  refine wpS_bind (wpS_standAt (wpS_bindA (wpAny_bindName (wpAny_mono h' (fun _ _ q => wpS_pure q) fun _ _ x => x))))
theorem wpS_Expr {e : Expr} {pos : Pos} {Q : Flow → Shared → Prop} (h : wpS M A (eval e env) (fun v s' => match v with | .ref _ => False | _ => Q .next s') E s)
    (hi : interactive env = false := by rfl) (hs : swapsWith e none pos.line env = pure false := by rfl) :
    wpS M A (exec (.Expr e pos) env) Q E s := by
  rw [exec_Expr env e pos hi hs]
  refine wpS_bind (wpS_standAt (wpS_bind (wpS_mono h (fun v s' h' => ?_) fun _ _ x => x)))
  have hv : ∀ a, v ≠ .ref a := fun a hva => by subst hva; exact h'
  rw [dropValue_plain hv]
  refine wpS_pure ?_
  cases v <;> first | exact h' | exact (hv _ rfl).elim
end

section
variable {prog : Program} {w : World} {A : Around} {E : Value → Shared → Prop} {R : Result → Shared → Prop} {s : Shared}
theorem codeS_whileLoop {test : Expr} {body orelse : List Stmt} {env : Env} (I : Nat → Shared → Prop)
    (turn : ∀ n s, I n s →
      wpAny (model prog w) A (isTrue test env (eval test env)) (fun b s₂ =>
        if b = true then wpS (model prog w) A (execs body env) (fun f s₃ => match f with
            | .next | .cont => ∃ m, m < n ∧ I m s₃
            | .brk => R (.ok .next) s₃
            | .ret v => R (.ok (.ret v)) s₃) (fun _ _ => False) s₂
        else wpS (model prog w) A (execs orelse env) (fun f s₃ => R (.ok f) s₃) (fun _ _ => False) s₂)
        (fun _ _ => False) s)
    (n : Nat) (h : I n s) : codeS (model prog w) A (.whileLoop test body orelse env) R s := by
  refine codeS_loop trivial rfl I (fun n s hI => ?_) n h
  show wpS _ A ((whileTurn test body orelse env).onRaise (fun x => do noteFrame x env; theTreesLotGoes x)) _ _ s
  refine wpS_onRaise ?_
  simp only [whileTurn]
  refine wpS_bindA (wpAny_mono (turn n s hI) (fun b s₂ h₂ => ?_) fun _ _ h' => h')
  cases b with
  | false =>
    simp only [Bool.false_eq_true, if_false] at h₂ ⊢
    exact wpS_bind (wpS_mono h₂ (fun f s₃ h₃ => wpS_pure h₃) fun _ _ h' => h')
  | true =>
    simp only [if_true] at h₂ ⊢
    refine wpS_bind (wpS_mono h₂ (fun f s₃ h₃ => ?_) fun _ _ h' => h')
    cases f with
    | next => exact wpS_pure (.inl ⟨rfl, h₃⟩)
    | cont => exact wpS_pure (.inl ⟨rfl, h₃⟩)
    | brk => exact wpS_pure h₃
    | ret v => exact wpS_pure h₃

theorem wpS_While {test : Expr} {body orelse : List Stmt} {pos : Pos} {env : Env} {Q : Flow → Shared → Prop}
    (h : codeS (model prog w) A (.whileLoop test body orelse env) (fun r s' => match r with | .ok f => Q f s' | .error _ => False) s) :
    wpS (model prog w) A (exec (.While test body orelse pos) env) Q E s := by
  rw [exec_While]
  refine wpS_bind (wpS_standAt ?_)
  unfold runOwn
  exact wpS_onRaise (wpS_run h)
end
end Mine
end

section
open PySem PySem.W PySem.Calls PyProof.Rows
set_option maxRecDepth 100000
namespace Mine
theorem caller_noDec : noDec (.builtin "claim.caller" {}) := by unfold noDec; decide +kernel
/-- the caller's thread, told for stacks that bear no decoder -/
theorem thread_ends_S {prog : Program} {w : World} {t : Sem PySem.Fin} {s : Shared} {R : Result → Shared → Prop} (hreg : s.asleep)
    (h : wpS (model prog w) callerA t (fun fin s' => ∃ f, fin = .done f ∧ (R (.ok f) s' ∧ leftWithCleanup s'.gens = false)) (fun e s' => R (.error e) s' ∧ leftWithCleanup s'.gens = false) s) :
    ∃ n r s' s'', schedN (denote table) prog w n (.single s ⟨t, .builtin "claim.caller" {}, default, []⟩) = .halted (outcomeOf r) s' ∧
      runN (denote table) prog w n s ⟨t, .builtin "claim.caller" {}, default, []⟩ = .halted (outcomeOf r) s' ∧ s'.forget = s''.forget ∧ R r s'' := by
  have hw := h ⟨.builtin "claim.caller" {}, none, none, [], none⟩ default caller_in caller_noDec (fun _ hq => nomatch hq)
  obtain ⟨n, r, s₁, s₂, hs, hn, hfo, hR⟩ := wp_halts_full (M := model prog w) (R := R) hreg (Sem.wp_mono _ _ t (fun fin p' s' h' => by
    obtain ⟨f, rfl, hf⟩ := h'
    exact hf) (fun _ _ _ h' => h') default s hw)
  exact ⟨n, r, s₂, s₁, hs, hn, hfo, hR⟩
theorem callFrom_S {c : ClaimW} {tree : List Value → Sem PySem.Fin} {w : World} {s : Shared} {free : Addr → Prop} {gens : Prop} {kept : Heap → Prop} (hz : s.asleep) (hgens : s.gens = #[])
    (hspec : ∀ args, c.pre args = true → WData.layableAll args = true →
      ∀ ord : List DictEntry → List DictEntry, (∀ l, (ord l).Perm l) →
      ∃ vs s₁, layAllW c.records (classAt s.heap) w.params ord args s = some (vs, s₁) ∧
        wpS (model c.prog w) callerA (tree vs) (fun fin s' => ∃ f, fin = .done f ∧ (c.Ends s args vs s₁ (.ok f) s' ∧ s'.os = s.os ∧ AllBare s'.gens ∧ kept s'.heap))
          (fun e s' => c.Ends s args vs s₁ (.error e) s' ∧ s'.os = s.os ∧ AllBare s'.gens ∧ kept s'.heap) s₁) :
    c.CallFrom (fun vs => ⟨tree vs, .builtin "claim.caller" {}, default, []⟩) w free gens kept s := by
  intro args hpre hlay ord hord
  obtain ⟨vs, s₁, hlaid, hcode⟩ := hspec args hpre hlay ord hord
  have hal := layAllW_rest _ _ _ hlaid
  obtain ⟨k, r, s', s'', hsched, hrun, hfo, hcase, hos, hkp⟩ := thread_ends_S (prog := c.prog) (w := w) (t := tree vs) (s := s₁)
    (R := fun r s' => c.Ends s args vs s₁ r s' ∧ s'.os = s.os ∧ kept s'.heap)
    (Shared.asleep_of_life hal.2.2.2 hz)
    (wpS_mono hcode (fun fin s' ⟨f, e, h1, h2, h3, h4⟩ => ⟨f, e, ⟨h1, h2, h4⟩, leftWithCleanup_false_of_bare h3⟩)
      (fun e s' ⟨h1, h2, h3, h4⟩ => ⟨⟨h1, h2, h4⟩, leftWithCleanup_false_of_bare h3⟩))
  obtain ⟨eh, _, _, eo, _⟩ := Shared.forget_eq hfo
  have hcase := hcase.congr eh
  rw [← eh] at hkp
  rw [← eo] at hos
  have hlife : s'.heap.life = s.heap.life := (runN_life _ _ _ hrun).trans hal.2.2.2
  refine ⟨vs, s₁, hlaid, k, _, s', hsched, ?_, (fun _ i x hx => by rw [hgens] at hx; simp at hx), hkp, by rw [hlife], Shared.rest_eq hos⟩
  rcases hcase with ⟨v, rfl, d1, d2, d3, d4, d5⟩ | ⟨e, ob, cls, rfl, d1, d2, d3, d4, d5⟩
  · exact .inl ⟨v, rfl, d1, d2, d3, fun b o y _ => d4 b o y, d5⟩
  · exact .inr ⟨e, ob, cls, rfl, d1, d2, d3, d4, fun b o y _ => d5 b o y⟩
abbrev WalkS (q : Program) (loose : List Str) (XP : (Str → Option Value) → Heap → Prop) (YP : World → Heap → Prop) (r : RowW) (d : DefRec) (kwd : List (Str × Expr)) : Prop :=
  ∀ (w : World) (s₀ s₁ : Shared) (mg mb : Str → Option Value), Ground q loose r.records XP w s₀ mg mb s₁.heap → YP w s₁.heap → ∀ (a : Addr) (o : Obj) (pm cd doc dV kV : Value), s₁.heap.get? a = some o →
    o.data = .func { docDef d.name d.params d.body d.scope pm cd doc with defaults := dV, kwdefaults := kV } → s₁.heap.CodeRec cd d.name → Dflts mg s₁.heap d.params kwd dV kV → mg d.name = some (.ref a) → s₁.gens = #[] →
    ∀ (args : List WData) (vals : List Value) (as : List Addr), r.claim.pre args = true → WData.layableAll args = true → ReadsAllW r.records (classAt s₀.heap) s₁.heap vals args as → WellAll w.params s₁.heap vals args → (∀ a ∈ as, (a == sysModules) = false) →
      wpS (model r.prog w) callerA (PySem.call (.ref a) vals) (fun v s' => GoodWG r.claim (classAt s₀.heap) (ExcName.means s₀.heap) args s₁ (.ok (.ret v)) s')
        (fun e s' => GoodWG r.claim (classAt s₀.heap) (ExcName.means s₀.heap) args s₁ (.error e) s') s₁
end Mine
theorem Mine.PySem.W.holds_open {r : PySem.W.OpenRow} {q : PySem.Program} {loose : List PySem.Str} {Xt : PySem.Shared → Bool} {XP : (PySem.Str → Option PySem.Value) → PySem.Heap → Prop} {α : Type} {Yf : PySem.Shared → α} {Ya : PySem.World → α} {YP : PySem.World → PySem.Heap → Prop} {d : DefRec} {kwd : List (PySem.Str × PySem.Expr)} {N : Nat}
    (left : LeftO r.prog q loose Xt Yf Ya N) (hY : ∀ w s, Yf s = Ya w → YP w s.heap) (hYk : ∀ w h h', YP w h → (∀ b o, h.get? b = some o → h'.get? b = some o) → YP w h')
    (hX : ∀ s, Xt s = true → XP (s.heap.nsMap mainGlobals) s.heap) (hXk : ∀ mg h h', XP mg h → (∀ b o, h.get? b = some o → h'.get? b = some o) → XP mg h')
    (hdef : defOf q r.name = some (d, kwd)) (hp : r.prog.theDef r.name = some (d.params, d.body, d.scope)) (hk : kwWritten? d.params.kwonlyargs d.params.kw_defaults = some kwd) (hRf : ∀ s, Xt s = true → RecFacts r.records s.heap) (hwr : (!r.writes || r.records.isEmpty) = true)
    (k1 : r.wellSaid = true) (ok : (chainsOk q && opensWell r.prog && (frees r.toRowW && r.within.isEmpty)) = true) (hb : r.prog.bare) (hw : r.toRowW.promised)
    (call : Mine.WalkS q loose XP YP r.toRowW d kwd) : r.Holds := by
  refine ⟨k1, hw, ?_⟩
  obtain ⟨ok, k5⟩ := Bool.and_eq_true_iff.mp ok
  obtain ⟨hch, o1⟩ := Bool.and_eq_true_iff.mp ok
  obtain ⟨k5, k6⟩ := Bool.and_eq_true_iff.mp k5
  obtain ⟨hsame, hu, ha, hap, hm⟩ := frees_parts k5
  refine ⟨⟨hb, o1, by show r.toRowW.makers.map _ = []; rw [hm]; rfl⟩, hw.witness, fun w => ⟨(left.behind hX hch w).1, fun s' hs' => ?_⟩⟩
  obtain ⟨s₀, hf, hg0, s, hT, hz, hgens, hg, G00, y⟩ := (left.behind (XP := fun mg h => XP mg h ∧ RecFacts r.records h) (fun s hs => ⟨hX s hs, hRf s hs⟩) hch w).2 s' hs'
  have G0 : Ground q loose [] XP w s (s.heap.nsMap mainGlobals) (s.heap.nsMap builtinsNs) s.heap := ⟨G00.T, G00.B, G00.D, G00.TE, G00.TD, G00.W, G00.X.1, G00.cls, G00.has, G00.apart, G00.once, G00.K⟩
  have RF := G00.X.2
  have hT' := hT
  refine ⟨s₀, hf, hg0, s, hT, fun n hn => ?_, RF.1, RF.2.1, ?_⟩
  · obtain rfl : n = r.name := by split at hn <;> simp_all
    exact pinned_of_view hg G0 hdef hp hk
  have hgens : s.gens = #[] := Array.eq_empty_of_size_eq_zero (beq_iff_eq.mp hgens)
  have G : Ground q loose r.records XP w s _ _ s.heap := RF.ground G0
  refine Mine.callFrom_S (c := r.toRowW.claim) hz hgens fun args hpre hlay ord hord => ?_
  obtain ⟨⟨vs, s₁⟩, hlaid⟩ := Option.isSome_iff_exists.mp (layAllW_isSome (P := w.params) (ord := ord) G.has args r.toRowW.args s (pre_splitW hpre).1)
  have keeps := layAllW_keeps _ _ _ hlaid
  have hal := layAllW_rest _ _ _ hlaid
  obtain ⟨as, hrd, hin, hold⟩ := reads_layAllW hord _ _ _ hlaid hlay s₁.heap (fun _ _ e => e)
  have L : Laid r.records w s s₁ args vs as := ⟨⟨ord, hord, hlaid⟩, hrd, hin, hold, keeps, hal.1.trans hgens, hal.2.2.1⟩
  have G₁ := G.keeps hXk keeps
  obtain ⟨a, o, pm, cd, doc, dV, kV, h1, h2, h3, h4, h5⟩ := G₁.fn hdef
  have h := call w s s₁ _ _ G₁ (hYk _ _ _ (hY w s y) keeps) a o pm cd doc dV kV h2 h3 h4 h5 (defOf_name hdef ▸ h1) L.gens args vs as hpre hlay L.reads L.well (L.low G.low)
  have hi := ident_freeW hu ha hap
  have hwi : r.toRowW.claim.within = [] := List.isEmpty_iff.mp k6
  refine ⟨vs, s₁, hlaid, Mine.wpS_bindA (wpAny_nsGet G₁.T.g ?_)⟩
  rw [show (s.heap.nsMap mainGlobals) r.name = _ from h1]
  refine Mine.wpS_bind (Mine.wpS_mono h (fun v s' g => Mine.wpS_pure ⟨_, rfl, ?_⟩) fun e s' g => ?_)
  · have z := g.laid (c := r.toRowW.claim) hsame hwi hi L
    exact ⟨z.1, z.2.1, z.2.2, fun q => ⟨namesKept_of hT' hg _ keeps g.2.1.old, noTable hwr q⟩⟩
  · have z := g.laid (c := r.toRowW.claim) hsame hwi hi L
    exact ⟨z.1, z.2.1, z.2.2, fun q => ⟨namesKept_of hT' hg _ keeps g.2.1.old, noTable hwr q⟩⟩
end

section
open PySem PySem.W PyProof.Rows
namespace Mine
set_option maxRecDepth 100000 in
set_option maxHeartbeats 8000000 in
open_top hd for PySem.Challenge.rw_io0059_01
end Mine
end

section
open PySem PySem.W PyProof.Rows
namespace Mine
abbrev P : Program := PySem.Challenge.rw_io0059_01.row.prog
abbrev Back (h₀ : Heap) (L : Addr) (m : Str → Option Value) (news : List (Addr × Obj)) (s : Shared) (Q : Value → Shared → Prop) (R : Value → Prop) : Prop :=
  ∀ (v : Value) (h' : Heap) (tk' : Nat), R v → Fr h₀ L h' m → News h₀ L h' news → Q v { s with heap := h', toks := tk' }

abbrev Does (w : World) (f : Addr) (k : Nat) (vs : List Value) (pre : List (Addr × Obj) → Prop) (R : Value → Prop) : Prop :=
  ∀ (p : Program) (loose : List Str) (mean : ExcName → Option Value) (mg mb : Str → Option Value) (dp un : Nat) (gd : Option (List Code)) (cn : Str) (cs : Scope) (a : Addr) (ccd : Value) (cl : List (Str × Addr)) (outer : List Env) (A₀ : Around) (base h₀ : Heap) (L : Addr) (m : Str → Option Value) (news : List (Addr × Obj)) (s : Shared) (Q E : Value → Shared → Prop),
    Below A₀ base outer h₀ → Fr h₀ L s.heap m → (hd.heap_39 w.params).In h₀ → News h₀ L s.heap news → Top p loose mean mg mb h₀ → cs.kind = .function → dp + k < recursionLimit → un + 8 * k < cLine →
    pre news →
    Back h₀ L m news s Q R →
    wpAny (model PySem.Challenge.rw_io0059_01.row.prog w) (ktrTop dp un gd cn cs L a ccd cl outer) (call (.ref f) vs) Q E s

theorem back_int {h₀ h' : Heap} {L : Addr} {m : Str → Option Value} {news : List (Addr × Obj)} {s : Shared} {Q : Value → Shared → Prop} {x y : Int} {t : Tok} {tk' : Nat}
    (hret : Back h₀ L m news s Q (fun v => ∃ t, v = .int x t)) (e : y = x) (F : Fr h₀ L h' m) (N : News h₀ L h' news) : Q (.int y t) { s with heap := h', toks := tk' } :=
  hret _ _ _ ⟨t, by rw [e]⟩ F N

def tF (j bias : Int) : Int :=
  let res := 36 * (j + 1) - bias
  if res < 1 then 1 else if res > 26 then 26 else res

set_option maxRecDepth 100000 in
set_option maxHeartbeats 8000000 in
theorem T_does (w : World) (j bias : Int) (tj tb : Tok) : Does w 21 2 [.int j tj, .int bias tb] (fun _ => True) (fun v => ∃ t, v = .int (tF j bias) t) := by
  unfold Does
  k_fill
  intro p loose mean mg mb dp un gd cn cs a ccd cl outer A₀ base h₀ L m news s Q E B F X N T hk hdp hu _ hret
  refine wpAny_call ?_
  k_dflt cell_enter
  k_steps
  all_goals (refine back_int hret ?_ (by k_asm) (by k_asm); unfold tF; dsimp only; (repeat' split) <;> first | rfl | omega)
end Mine
end

section
open PySem PySem.W PyProof.Rows
namespace Mine
def adLoop (d v : Int) : Int × Int := if 455 < d then adLoop (d.fdiv 35) (v + 36) else (d, v)
termination_by d.toNat
decreasing_by
  rw [Int.fdiv_eq_ediv_of_nonneg _ (by omega)]; omega
theorem adLoop_go {d v : Int} (h : 455 < d) : adLoop (d.fdiv 35) (v + 36) = adLoop d v := by
  rw [adLoop.eq_1 d v, if_pos h]
theorem adLoop_end {d v : Int} (h : ¬ 455 < d) : adLoop d v = (d, v) := by rw [adLoop.eq_1 d v, if_neg h]
def adF (delta : Int) (first : Bool) (n : Int) : Int :=
  let d1 := if first then delta.fdiv 700 else delta.fdiv 2
  let d2 := d1 + d1.fdiv n
  let p := adLoop d2 0
  p.2 + (36 * p.1).fdiv (p.1 + 38)
theorem ad_start {d k n : Int} (h0 : 0 ≤ d) (hk : 0 ≤ k) (hn : 1 ≤ n) : 0 ≤ d.fdiv k + (d.fdiv k).fdiv n :=
  Int.add_nonneg (Int.fdiv_nonneg h0 hk) (Int.fdiv_nonneg (Int.fdiv_nonneg h0 hk) (by omega))
theorem ad_turn {d v d₀ v₀ : Int} (h : 455 < d) (e : adLoop d v = adLoop d₀ v₀) : 0 ≤ d.fdiv 35 ∧ adLoop (d.fdiv 35) (v + 36) = adLoop d₀ v₀ :=
  ⟨Int.fdiv_nonneg (by omega) (by decide), (adLoop_go h).trans e⟩
theorem ad_less {d : Int} (h : 455 < d) : (d.fdiv 35).toNat < d.toNat := by
  rw [Int.fdiv_eq_ediv_of_nonneg _ (by omega)]; omega
theorem ad_end {delta n d v : Int} {first : Bool} {d₀ : Int} (hd : d₀ = (if first then delta.fdiv 700 else delta.fdiv 2) + (if first then delta.fdiv 700 else delta.fdiv 2).fdiv n)
    (e : adLoop d v = adLoop d₀ 0) (h : ¬ 455 < d) : v + (36 * d).fdiv (d + 38) = adF delta first n := by
  unfold adF
  dsimp only
  rw [← hd, ← e, adLoop_end h]

section
local macro_rules | `(tactic| walk_at "exec While Compare cons nil") => `(tactic| k_while_given ["delta!", "divisions!"] (fun d₀ v₀ _ d v => 0 ≤ d ∧ adLoop d v = adLoop d₀ v₀) (fun _ _ _ d _ => d.toNat) "delta" "divisions")
set_option maxRecDepth 100000 in
set_option maxHeartbeats 8000000 in
theorem adapt_does (w : World) (delta n : Int) (first : Bool) (td tn : Tok) (h0 : 0 ≤ delta) (hn : 1 ≤ n) (hn2 : n ≤ 100000) : Does w 35 2 [.int delta td, .bool first, .int n tn] (fun _ => True) (fun v => ∃ t, v = .int (adF delta first n) t) := by
  unfold Does
  k_fill
  k_with_none
  w_top off
  intro p loose mean mg mb dp un gd cn cs a ccd cl outer A₀ base h₀ L m news s Q E B F X N T hk hdp hu _ hret
  refine wpAny_call ?_
  k_dflt cell_enter
  k_with "state" => first | exact ⟨ad_start (by assumption) (by decide) (by assumption), rfl⟩ | exact ad_turn (by assumption) (by assumption)
  k_with "measure" => exact ad_less (by assumption)
  k_steps
  all_goals (refine back_int hret ?_ (by k_asm) (by k_asm))
  · subst_vars; exact ad_end rfl (by assumption) (by assumption)
  · subst_vars; exact ad_end rfl (by assumption) (by assumption)
end
end Mine
end

section
open PySem PySem.W PyProof.Rows
set_option maxRecDepth 100000
namespace Mine

namespace Fact
theorem plain_new : plainId "bytearray.__new__" = true := by decide +kernel
theorem entry_append : entryFor table "bytearray.append" = some Builtin.«bytearray.append» := by first | exact entryFor_of_fast (by kernel_rfl) | exact entryFor_of_tree (by kernel_rfl)
theorem entry_extend : entryFor table "bytearray.extend" = some Builtin.«bytearray.extend» := by first | exact entryFor_of_fast (by kernel_rfl) | exact entryFor_of_tree (by kernel_rfl)
theorem entry_new : entryFor table "bytearray.__new__" = some Builtin.«list.__new__» := by rw [table_eq_tree]; kernel_rfl
theorem entry_init : entryFor table "bytearray.__init__" = some Builtin.«bytearray.__init__» := by first | exact entryFor_of_fast (by kernel_rfl) | exact entryFor_of_tree (by kernel_rfl)
theorem ba_mro : mroOf (.type "bytearray") = pure [.type "bytearray", .type "object"] := by rw [mroOf_type]; kernel_rfl
theorem ba_lookup_new : typeLookup (.type "bytearray") "__new__" = pure (some (.builtin "bytearray.__new__")) := by rw [typeLookup_type, builtinLookup_eq_fast]; kernel_rfl
theorem slot_init : Slot "bytearray" "__init__" "bytearray.__init__" :=
  .of (owner := "bytearray") (n := "__init__") (by rw [typeLookup_type, builtinLookup_eq_fast]; kernel_rfl) (by decide +kernel) (by decide +kernel) (by decide +kernel)
    (by first | exact .inl (by decide +kernel) | exact .inr (by decide +kernel)) (by rw [isSubtype_type]; kernel_rfl)
theorem slot_append : Slot "bytearray" "append" "bytearray.append" :=
  .of (owner := "bytearray") (n := "append") (by rw [typeLookup_type, builtinLookup_eq_fast]; kernel_rfl) (by decide +kernel) (by decide +kernel) (by decide +kernel)
    (by first | exact .inl (by decide +kernel) | exact .inr (by decide +kernel)) (by rw [isSubtype_type]; kernel_rfl)
theorem slot_extend : Slot "bytearray" "extend" "bytearray.extend" :=
  .of (owner := "bytearray") (n := "extend") (by rw [typeLookup_type, builtinLookup_eq_fast]; kernel_rfl) (by decide +kernel) (by decide +kernel) (by decide +kernel)
    (by first | exact .inl (by decide +kernel) | exact .inr (by decide +kernel)) (by rw [isSubtype_type]; kernel_rfl)
theorem args_append (a b : Value) : argsOk "bytearray.append" ⟨[a, b], []⟩ := by unfold argsOk; kernel_rfl
theorem args_extend (a b : Value) : argsOk "bytearray.extend" ⟨[a, b], []⟩ := by unfold argsOk; kernel_rfl
theorem args_init (a : Value) : argsOk "bytearray.__init__" ⟨[a], []⟩ := by unfold argsOk; kernel_rfl
theorem ba_typeCall : checkTypeCall "bytearray" ⟨[], []⟩ = pure () := by kernel_rfl
theorem ba_newCall : checkBuiltinCall "bytearray.__new__" ⟨[.type "bytearray"], []⟩ = pure () := by kernel_rfl
theorem ba_called : TypeCalled "bytearray" "bytearray.__new__" "bytearray.__init__" :=
  ⟨by decide +kernel, by decide +kernel, ⟨_, _, ba_mro⟩, madeBy_type ba_mro ba_lookup_new (by decide +kernel), plain_new, PySem.F.sub_bytearray_bytearray, slot_init⟩
theorem ba_release : typeLookup (.type "bytearray") "__release_buffer__" = pure (some (.builtin "bytearray.__release_buffer__")) := by rw [typeLookup_type, builtinLookup_eq_fast]; kernel_rfl
theorem ba_buffer : typeLookup (.type "bytearray") "__buffer__" = pure (some (.builtin "bytearray.__buffer__")) := by rw [typeLookup_type, builtinLookup_eq_fast]; kernel_rfl
theorem ba_no_bytes : typeLookup (.type "bytearray") "__bytes__" = pure none := by rw [typeLookup_type, builtinLookup_eq_fast]; kernel_rfl
theorem ba_no_index : typeLookup (.type "bytearray") "__index__" = pure none := by rw [typeLookup_type, builtinLookup_eq_fast]; kernel_rfl
theorem ba_bind : Builtin.Bytes.bindOptional "bytearray.__init__" "bytearray" ["source", "encoding", "errors"] [] [] = pure [none, none, none] := by kernel_rfl
end Fact

/-- what the model asks of one code when it looks for an export -/
def expF (self : Value) : Code × Pos → Bool
    | (.builtin "bytearray.__contains__" ⟨v :: _, _⟩, _) | (.builtin "bytearray.__mod__" ⟨v :: _, _⟩, _)
    | (.builtin "bytearray.__rmod__" ⟨_ :: v :: _, _⟩, _) | (.builtin "_struct.pack_into.held" ⟨v :: _, _⟩, _) => Builtin.Bytes.sameRef v self
    | (.builtin "bytearray.find.held" ⟨_ :: _ :: held, _⟩, _) => held.any (Builtin.Bytes.sameRef self)
    | (.builtin id ⟨v :: _, _⟩, _) => Builtin.Bytes.sameRef v self && Builtin.Bytes.decodersThatHold.contains id
    | _ => false
theorem isGuard_builtin (i : String) (args : Args) : (Code.builtin i args).isGuard = guardIds.contains i := rfl
theorem expF_no {self : Value} {c : Code} {p : Pos} (hg : c.isGuard = false) (hn : noDec c) : expF self (c, p) = false := by
  unfold expF
  split
  case h_6 =>
    rename_i e
    cases e
    have h : Builtin.Bytes.decodersThatHold.contains _ = false := hn
    rw [h, Bool.and_false]
  case h_7 => rfl
  all_goals (rename_i e; cases e; rw [isGuard_builtin] at hg; exact absurd hg (by decide +kernel))

section
variable {M : Model} {A : Around} {E : Value → Shared → Prop} {s : Shared}
theorem guardsOf_nil {l : List (Code × Pos)} (h : guardsOf l = []) : ∀ q ∈ l, q.1.isGuard = false := fun q hq => by
  cases hg : q.1.isGuard with
  | false => rfl
  | true =>
    have : q.1 ∈ guardsOf l := List.mem_filter.mpr ⟨List.mem_map_of_mem hq, hg⟩
    rw [h] at this; cases this
theorem wpS_exported {v : Value} {Q : Bool → Shared → Prop} (hg : A.guards = some []) (h : Q false s) : wpS M A (Builtin.Bytes.exported v) Q E s := fun Γ p hΓ h1 h2 => by
  show Q (((Γ.code, p) :: Γ.below).any (expF v)) s
  have hgs : guardsOf ((Γ.code, p) :: Γ.below) = [] := by rw [guardsOf_cons]; exact hΓ.2.2.2.1 _ hg
  have e : ((Γ.code, p) :: Γ.below).any (expF v) = false := by
    rw [List.any_eq_false]
    intro q hq
    have hq1 := guardsOf_nil hgs q hq
    obtain ⟨c, p'⟩ := q
    rw [expF_no hq1 ?_]; decide
    rcases List.mem_cons.mp hq with e | hq
    · cases e; exact h1
    · exact h2 _ hq
  rw [e]; exact h

abbrev baObj (b : Array UInt8) : Obj := { cls := .type "bytearray", data := .bytearray b }
theorem wpAny_exportsOf {a : Addr} {o : Obj} {b : Array UInt8} {Q : Nat → Shared → Prop} (ho : s.heap.get? a = some o) (hd : o.data = .bytearray b) (h : Q 0 s) : wpAny M A (Builtin.Bytes.exportsOf (.ref a)) Q E s := by
  unfold Builtin.Bytes.exportsOf
  refine wpAny_bind (wpAny_load ho ?_)
  rw [hd]; exact wpAny_pure h
theorem wpS_checkResize {a : Addr} {o : Obj} {b : Array UInt8} {Q : Unit → Shared → Prop} (hg : A.guards = some []) (ho : s.heap.get? a = some o) (hd : o.data = .bytearray b) (h : Q () s) : wpS M A (Builtin.Bytes.checkResize (.ref a)) Q E s := by
  unfold Builtin.Bytes.checkResize
  refine wpS_bind ?_
  show wpS M A (Builtin.Bytes.exported (.ref a) >>= fun x => _) _ _ s
  refine wpS_bind (wpS_exported hg ?_)
  refine wpS_of ?_
  show wpAny M A (Builtin.Bytes.exportsOf (.ref a) >>= fun n => _) _ _ s
  refine wpAny_bind (wpAny_exportsOf ho hd ?_)
  exact wpAny_pure (wpS_pure h)
theorem wpAny_write {a : Addr} {b : Array UInt8} {f : Array UInt8 → Array UInt8} {Q : Unit → Shared → Prop} (ho : s.heap.get? a = some (baObj b)) (hz : (f b).size ≤ sizeLine)
    (h : Q () { s with heap := s.heap.update a (Obj.mapBytearray f) }) : wpAny M A (Builtin.Bytes.write (.ref a) f) Q E s := by
  show wpAny M A (updateBytearray a f) Q E s
  unfold updateBytearray
  refine wpAny_bind (wpAny_load ho ?_)
  refine wpAny_bind (wpAny_update ho ?_)
  have e : ({ s with heap := s.heap.update a (Obj.mapBytearray f) } : Shared).heap.get? a = some (baObj (f b)) := Heap.get?_update_self _ ho rfl
  refine wpAny_lookBehind e ?_ h
  show (if (f b).size > sizeLine then some "bytearray:memory" else none) = none
  rw [if_neg (Nat.not_lt.mpr hz)]
theorem ba_after {h : Heap} {a : Addr} {b : Array UInt8} (f : Array UInt8 → Array UInt8) (ho : h.get? a = some (baObj b)) : (h.update a (Obj.mapBytearray f)).get? a = some (baObj (f b)) := Heap.get?_update_self _ ho rfl
theorem wpAny_payload {a : Addr} {b : Array UInt8} {Q : Array UInt8 → Shared → Prop} (ho : s.heap.get? a = some (baObj b)) (h : Q b s) : wpAny M A (Builtin.Bytes.payload (.ref a)) Q E s := by
  unfold Builtin.Bytes.payload Builtin.Bytes.payload?
  refine wpAny_bind (wpAny_bind (wpAny_load ho ?_))
  exact wpAny_pure (wpAny_pure h)
theorem typeIs_ba {a : Addr} {b : Array UInt8} (ho : s.heap.get? a = some (baObj b)) : s.TypeIs (.ref a) "bytearray" := ⟨_, ho, rfl⟩
end
end Mine
end

section
open PySem PySem.W PyProof.Rows
set_option maxRecDepth 100000
namespace Mine

section
variable {prog : Program} {w : World} {A : Around} {E : Value → Shared → Prop} {R : Result → Shared → Prop} {s : Shared}
theorem codeS_builtin {id : String} {args : Args} {b : Builtin} (hq : plainId id = true) (hn : Builtin.Bytes.decodersThatHold.contains id = false) (hb : entryFor table id = some b)
    (h : wpS (model prog w) A.in1 (b args)
      (fun fin s' => match fin with | .done f => R (.ok f) s' | .again c' => c'.quiet = true ∧ codeS (model prog w) A c' R s') (fun e s' => R (.error e) s') s) :
    codeS (model prog w) A (.builtin id args) R s := by
  refine codeS_of_tree hn ?_
  rw [Around.under_plainId hq args]
  show wpS _ _ (match entryFor table id with | some b => b args | none => unsupported ((withoutEnding? id "#data").getD id)) _ _ s
  rw [hb]; exact h
theorem codeS_call_builtin {id : String} {args : Args} {b : Builtin} (hq : plainId id = true) (hn : Builtin.Bytes.decodersThatHold.contains id = false) (hb : entryFor table id = some b)
    (h : wpAny (model prog w) A.in1 (checkBuiltinCall id args) (fun _ s₁ => wpS (model prog w) A.in1 (b args)
      (fun fin s' => match fin with | .done f => R (.ok f) s' | .again c' => c'.quiet = true ∧ codeS (model prog w) A c' R s') (fun e s' => R (.error e) s') s₁)
      (fun e s' => R (.error e) s') s) : codeS (model prog w) A (.call (.builtin id) args) R s := by
  refine codeS_of_tree trivial ?_
  show wpS _ A.in1 (do checkBuiltinCall id args; again (.builtin id args)) _ _ s
  refine wpS_bindA (wpAny_mono h (fun _ s₁ h₁ => wpS_pure (And.intro (plainId_quiet hq args) (codeS_builtin hq hn hb h₁))) fun _ _ h' => h')
theorem wpS_call_slot {T : String} {name : Str} {id : String} {b : Builtin} {self : Value} {rest : List Value} {Q : Value → Shared → Prop} (h : Slot T name id) (hT : s.TypeIs self T)
    (hn : Builtin.Bytes.decodersThatHold.contains id = false) (hb : entryFor table id = some b)
    (hc : wpS (model prog w) A.in1 (b ⟨self :: rest, []⟩) (fun fin s' => ∃ v, fin = .done (.ret v) ∧ Q v s') E s)
    (ha : argsOk id ⟨self :: rest, []⟩) :
    wpS (model prog w) A (call (.builtin id) (self :: rest)) Q E s := by
  refine wpS_call (codeS_call_builtin h.plain hn hb (h.check _ _ _ _ _ _ _ _ hT ha (wpS_mono hc (fun fin s' h' => ?_) fun _ _ h' => h')))
  obtain ⟨v, rfl, hv⟩ := h'; exact hv

theorem wpAny_byteValue {M : Model} {x : Int} {t : Tok} {Q : UInt8 → Shared → Prop} (h0 : 0 ≤ x) (h1 : x < 256) (h : Q x.toNat.toUInt8 s) : wpAny M A (Builtin.Bytes.byteValue (.int x t)) Q E s := by
  unfold Builtin.Bytes.byteValue
  refine wpAny_bind (wpAny_of_eq (a := x) rfl ?_)
  have e : (decide (x < 0) || decide (x ≥ 256)) = false := by simp; omega
  show wpAny M A (if (decide (x < 0) || decide (x ≥ 256)) = true then _ else _) Q E s
  rw [e]
  exact wpAny_pure h

theorem wpS_append {a : Addr} {b : Array UInt8} {x : Int} {t : Tok} {Q : Value → Shared → Prop} (hg : A.guards = some []) (ho : s.heap.get? a = some (baObj b)) (h0 : 0 ≤ x) (h1 : x < 256) (hz : b.size < sizeLine)
    (h : Q .none { s with heap := s.heap.update a (Obj.mapBytearray (·.push x.toNat.toUInt8)) }) :
    wpS (model prog w) A (call (.builtin "bytearray.append") [.ref a, .int x t]) Q E s := by
  refine wpS_call_slot Fact.slot_append (typeIs_ba ho) (by decide +kernel) Fact.entry_append ?_ (Fact.args_append _ _)
  unfold Builtin.«bytearray.append»
  refine wpS_bindA (wpAny_of_eq (a := (Value.ref a, Value.int x t)) rfl ?_)
  dsimp only
  refine wpS_bindA (wpAny_byteValue h0 h1 ?_)
  refine wpS_bind (wpS_checkResize hg ho rfl ?_)
  refine wpS_bindA (wpAny_write ho (by rw [Array.size_push]; omega) ?_)
  exact wpS_pure ⟨_, rfl, h⟩

theorem wpS_extend {a : Addr} {b c : Array UInt8} {t : Tok} {Q : Value → Shared → Prop} (hg : A.guards = some []) (ho : s.heap.get? a = some (baObj b)) (hz : b.size + c.size ≤ sizeLine)
    (h : Q .none { s with heap := s.heap.update a (Obj.mapBytearray (· ++ c)) }) :
    wpS (model prog w) A (call (.builtin "bytearray.extend") [.ref a, .bytes c t]) Q E s := by
  refine wpS_call_slot Fact.slot_extend (typeIs_ba ho) (by decide +kernel) Fact.entry_extend ?_ (Fact.args_extend _ _)
  unfold Builtin.«bytearray.extend»
  refine wpS_bindA (wpAny_of_eq (a := (Value.ref a, Value.bytes c t)) rfl ?_)
  dsimp only
  refine wpS_bindA (wpAny_of_eq (KBy.special_eq KBy.look_buffer) ?_)
  show wpS _ _ (if true = true then _ else _) _ _ _
  rw [if_pos rfl]
  refine wpS_bindA (wpAny_rule ?_)
  refine wpS_bindA (wpAny_payload ho ?_)
  have e : Builtin.Bytes.takeBufferQuiet? "bytearray.extend" (.bytes c t) 0 = pure (some (c, none)) := by
    unfold Builtin.Bytes.takeBufferQuiet? Builtin.Bytes.takeBuffer?
    have e0 : ((0 : Int) == Builtin.Bytes.fullReadOnly) = false := by decide
    rw [KBy.special_eq KBy.look_buffer, KBy.own_buffer, e0, KBy.buffer_eq]
    rfl
  refine wpS_bindA (wpAny_of_eq e ?_)
  dsimp only
  show wpS _ _ (if true = true then _ else _) _ _ _
  rw [if_pos rfl]
  show wpS _ _ (if _ then _ else _) _ _ _
  have fin : wpS (model prog w) A.in1 (do Builtin.Bytes.write (.ref a) (· ++ c); ret .none) (fun fin s' => ∃ v, fin = .done (.ret v) ∧ Q v s') E s :=
    wpS_bindA (wpAny_write ho (by rw [Array.size_append]; exact hz) (wpS_pure ⟨_, rfl, h⟩))
  cases c.isEmpty with
  | true => exact fin
  | false => exact wpS_bind (wpS_checkResize hg ho rfl fin)

/-- `bytearray()`: the object made -/
theorem codeAny_baNew {R : Result → Shared → Prop} (h : R (.ok (.ret (.ref s.heap.objs.size))) { s with heap := s.heap.push (baObj #[]) }) :
    codeAny (model prog w) A (.call (.builtin "bytearray.__new__") ⟨[.type "bytearray"], []⟩) R s := by
  refine codeAny_call_builtin_own (plainId_quiet Fact.plain_new _) Fact.entry_new (wpAny_of_eq Fact.ba_newCall ?_)
  unfold Builtin.«list.__new__»
  refine wpOwn_bind (wpOwn_stack fun p below _ _ _ => ?_)
  refine wpOwn_of_wpAny ?_
  rw [Around.under_plainId Fact.plain_new]
  have e : ("bytearray.__new__".splitOn ".__new__").headD "" = "bytearray" := by simp +decide [String.splitOn, String.splitOnAux]
  dsimp only
  rw [e]
  refine wpAny_bind (wpAny_of_eq (a := true) rfl ?_)
  refine bm_if_false rfl ?_
  refine wpAny_bind (wpAny_of_eq PySem.F.sub_bytearray_bytearray ?_)
  refine bm_if_false rfl ?_
  refine wpAny_bind (wpAny_pure ?_)
  refine bm_if_true (by decide +kernel) ?_
  refine wpAny_bind (wpAny_newObj_type ?_ (Nat.zero_le _))
  exact wpAny_pure h

theorem wpS_baInit {a : Addr} {b : Array UInt8} {Q : Value → Shared → Prop} (hg : A.guards = some []) (ho : s.heap.get? a = some (baObj b))
    (h : Q .none { s with heap := s.heap.update a (Obj.mapBytearray fun _ => #[]) }) :
    wpS (model prog w) A (call (.builtin "bytearray.__init__") [.ref a]) Q E s := by
  refine wpS_call_slot Fact.slot_init (typeIs_ba ho) (by decide +kernel) Fact.entry_init ?_ (Fact.args_init _)
  unfold Builtin.«bytearray.__init__»
  dsimp only
  have hr : wpAny (model prog w) A.in1 (Builtin.Bytes.ownRelease (.ref a)) (fun x s' => x = false ∧ s' = s) E s := by
    unfold Builtin.Bytes.ownRelease Builtin.Bytes.slotIsOwn
    refine wpAny_bind (wpAny_bind (wpAny_specialOf (typeIs_ba ho) Fact.ba_release ?_))
    refine bm_if_false (by decide +kernel) ?_
    have e : ("bytearray.__release_buffer__".dropRight ("__release_buffer__".length + 1)) = "bytearray" := by decide +kernel
    rw [e]
    exact wpAny_isInstance (typeIs_ba ho) PySem.F.sub_bytearray_bytearray (wpAny_pure ⟨rfl, rfl⟩)
  refine wpS_bindA (wpAny_mono hr (fun x s' hx => ?_) fun _ _ x => x)
  obtain ⟨rfl, rfl⟩ := hx
  show wpS _ _ (if false = true then _ else _) _ _ _
  rw [if_neg Bool.false_ne_true]
  refine wpS_bindA (wpAny_of_eq Fact.ba_bind ?_)
  dsimp only
  refine wpS_bindA (wpAny_of_eq (a := ()) rfl ?_)
  refine wpS_bindA (wpAny_of_eq (a := ()) rfl ?_)
  refine wpS_bind ?_
  show wpS _ _ (Builtin.Bytes.exported (.ref a) >>= fun x => _) _ _ _
  refine wpS_bind (wpS_exported hg ?_)
  refine wpS_of ?_
  show wpAny _ _ (Builtin.Bytes.exportsOf (.ref a) >>= fun n => _) _ _ _
  refine wpAny_bind (wpAny_exportsOf ho rfl ?_)
  refine wpAny_pure ?_
  show wpS _ _ (if false = true then _ else _) _ _ _
  rw [if_neg Bool.false_ne_true]
  refine wpS_bindA (wpAny_write ho (Nat.zero_le _) ?_)
  exact wpS_pure ⟨_, rfl, h⟩
end
end Mine
end

section
open PySem PySem.W PyProof.Rows
set_option maxRecDepth 100000
namespace Mine

section
variable {prog : Program} {w : World} {A : Around} {E : Value → Shared → Prop} {R : Result → Shared → Prop} {s : Shared}

theorem wpS_if_false {α : Type} {M : Model} {c : Bool} {a b : Sem α} {Q : α → Shared → Prop} (hc : c = false) (h : wpS M A b Q E s) : wpS M A (if c = true then a else b) Q E s := by
  subst hc
  rw [if_neg Bool.false_ne_true]; exact h
theorem codeS_builtinU {id : String} {args : Args} {b : Builtin} (hn : Builtin.Bytes.decodersThatHold.contains id = false) (hb : entryFor table id = some b)
    (h : wpS (model prog w) (A.under (.builtin id args)) (b args)
      (fun fin s' => match fin with | .done f => R (.ok f) s' | .again c' => c'.quiet = true ∧ codeS (model prog w) A c' R s') (fun e s' => R (.error e) s') s) :
    codeS (model prog w) A (.builtin id args) R s := by
  refine codeS_of_tree hn ?_
  show wpS _ _ (match entryFor table id with | some b => b args | none => unsupported ((withoutEnding? id "#data").getD id)) _ _ s
  rw [hb]; exact h

theorem wpS_baCall {Q : Value → Shared → Prop} (hg : A.guards = some [])
    (h : ∀ h', h'.get? s.heap.objs.size = some (baObj #[]) → (∀ b o, s.heap.get? b = some o → h'.get? b = some o) → Q (.ref s.heap.objs.size) { s with heap := h' }) :
    wpS (model prog w) A (call (.type "bytearray") []) Q E s := by
  have ft := Fact.ba_called
  obtain ⟨c, tl, hmro⟩ := ft.mro
  have hmade := ft.made
  have hsub := ft.sub
  refine wpS_call (codeS_of_tree trivial ?_)
  show wpS _ _ (callAny (.type "bytearray") _) _ _ _
  refine wpS_pure ⟨Code.quiet_builtin _ (by decide +kernel), ?_⟩
  refine codeS_builtinU (by decide +kernel) F.entry_type_call ?_
  rw [Around.under_plain (weight_type_call_type "bytearray" [] []) rfl]
  unfold Builtin.«type.__call__»
  dsimp only
  show wpS _ _ (if (Value.type "bytearray" == Value.type "type") = true then _ else _) _ _ _
  rw [ft.notType, if_neg Bool.false_ne_true]
  refine wpS_if_false ft.canCreate ?_
  refine wpS_bindA (wpAny_of_eq Fact.ba_typeCall ?_)
  refine wpS_bindA (wpAny_of_eq hmro ?_)
  refine wpS_if_false rfl ?_
  refine wpS_bindA (wpAny_of_eq hmade ?_)
  dsimp only
  refine wpS_bindA (wpAny_pure ?_)
  refine wpS_bind (wpS_holding (wpS_call (codeS_of (codeAny_baNew ?_))))
  have hT : ({ s with heap := s.heap.push (baObj #[]) } : Shared).TypeIs (.ref s.heap.objs.size) "bytearray" := ⟨_, Heap.get?_push_size _ rfl, rfl⟩
  refine wpS_bindA (wpAny_isInstance hT PySem.F.sub_bytearray_bytearray ?_)
  refine wpS_if_false rfl ?_
  refine wpS_bind (wpS_holding ?_)
  unfold callSpecial?
  refine wpS_bindA (wpAny_specialOf hT Fact.slot_init.lookup ?_)
  dsimp only
  rw [Fact.slot_init.bind]
  refine wpS_holding (wpS_bind (wpS_pure ?_))
  refine wpS_bind (wpS_mono (wpS_baInit (s := { s with heap := s.heap.push (baObj #[]) }) (Q := fun v s' => v = .none ∧ Q (.ref s.heap.objs.size) s') (E := fun _ _ => False) hg (Heap.get?_push_size _ rfl) ?_) (fun v s' hv => ?_) fun _ _ x => x.elim)
  · refine ⟨rfl, h _ (ba_after _ (Heap.get?_push_size _ rfl)) fun b o e => ?_⟩
    exact (Heap.get?_update_other _ _ (Nat.ne_of_gt (Heap.lt_size e))).trans (Heap.get?_push_of_some _ e)
  · obtain ⟨rfl, hq⟩ := hv
    refine wpS_pure ?_
    dsimp only
    refine wpS_if_false rfl ?_
    exact wpS_pure hq

theorem wpAny_ownRelease_ba {M : Model} {a : Addr} {b : Array UInt8} {Q : Bool → Shared → Prop} (ho : s.heap.get? a = some (baObj b)) (h : Q false s) : wpAny M A (Builtin.Bytes.ownRelease (.ref a)) Q E s := by
  unfold Builtin.Bytes.ownRelease Builtin.Bytes.slotIsOwn
  refine wpAny_bind (wpAny_bind (wpAny_specialOf (typeIs_ba ho) Fact.ba_release ?_))
  refine bm_if_false (by decide +kernel) ?_
  have e : ("bytearray.__release_buffer__".dropRight ("__release_buffer__".length + 1)) = "bytearray" := by decide +kernel
  rw [e]
  exact wpAny_isInstance (typeIs_ba ho) PySem.F.sub_bytearray_bytearray (wpAny_pure h)
theorem wpAny_slotOwn_ba {M : Model} {a : Addr} {b : Array UInt8} {Q : Bool → Shared → Prop} (ho : s.heap.get? a = some (baObj b)) (h : Q true s) : wpAny M A (Builtin.Bytes.slotIsOwn (.ref a) "__buffer__") Q E s := by
  unfold Builtin.Bytes.slotIsOwn
  refine wpAny_bind (wpAny_specialOf (typeIs_ba ho) Fact.ba_buffer ?_)
  refine bm_if_false (by decide +kernel) ?_
  have e : ("bytearray.__buffer__".dropRight ("__buffer__".length + 1)) = "bytearray" := by decide +kernel
  rw [e]
  exact wpAny_isInstance (typeIs_ba ho) PySem.F.sub_bytearray_bytearray h
theorem wpAny_buffer_ba {M : Model} {i : String} {f : Bool} {a : Addr} {b : Array UInt8} {Q : Option (Array UInt8) → Shared → Prop} (ho : s.heap.get? a = some (baObj b)) (h : Q (some b) s) : wpAny M A (Builtin.Bytes.buffer? i (.ref a) f) Q E s := by
  unfold Builtin.Bytes.buffer?
  refine wpAny_bind (wpAny_specialOf (typeIs_ba ho) Fact.ba_buffer ?_)
  dsimp only
  refine wpAny_bind (wpAny_slotOwn_ba ho ?_)
  refine bm_if_false rfl ?_
  refine wpAny_bind (wpAny_specialOf (typeIs_ba ho) Fact.ba_buffer ?_)
  refine wpAny_bind (wpAny_ownRelease_ba ho ?_)
  refine bm_if_false rfl ?_
  exact wpAny_bind (wpAny_payload ho (wpAny_pure h))

theorem ba_toBytes {a : Addr} {b : Array UInt8} {Q : Value → Shared → Prop} (ho : s.heap.get? a = some (baObj b)) (hz : b.size ≤ sizeLine)
    (h : ∀ t k, Q (.bytes b t) { s with toks := k }) : wpAny (model prog w) A (call (.type "bytes") [.ref a]) Q E s := by
  refine callType_codes (Q₁ := fun obj s₁ => s₁.TypeIs obj "bytes" ∧ Q obj s₁) F.bm_called (F.bm_typeCall _) F.entry_object_init ?_ fun obj s₁ h₁ => ?_
  · refine codeAny_of_tree ?_
    show wpAny _ A.in1.in1 (do checkBuiltinCall "bytes.__new__" ⟨[.type "bytes", .ref a], []⟩; again (.builtin "bytes.__new__" ⟨[.type "bytes", .ref a], []⟩)) _ _ s
    refine wpAny_bind (wpAny_of_eq (F.bm_newCall _) (wpAny_pure ⟨plainId_quiet F.bm_plain _, codeAny_builtin F.bm_entry ?_⟩))
    rw [Around.under_plainId F.bm_plain _]
    have hT : s.TypeIs (.ref a) "bytearray" := typeIs_ba ho
    unfold Builtin.«bytes.__new__»
    refine wpAny_bind (wpAny_of_eq (a := true) rfl ?_)
    refine bm_if_false rfl ?_
    refine wpAny_bind (wpAny_of_eq F.bm_sub ?_)
    refine bm_if_false rfl ?_
    refine wpAny_bind (wpAny_of_eq (F.bm_bind _) ?_)
    refine wpAny_bind (wpAny_of_eq (a := ()) rfl ?_)
    refine wpAny_bind (wpAny_of_eq (a := ()) rfl ?_)
    refine bm_if_false rfl ?_
    refine wpAny_bind (wpAny_specialOf hT Fact.ba_no_bytes ?_)
    refine wpAny_bind (wpAny_bind ?_)
    show wpAny _ _ (load a >>= _) _ _ _
    refine wpAny_bind (wpAny_load ho ?_)
    refine wpAny_pure (wpAny_pure ?_)
    refine bm_if_false rfl ?_
    refine wpAny_bind (wpAny_specialOf hT Fact.ba_no_index ?_)
    refine bm_if_true rfl ?_
    refine wpAny_bind (wpAny_buffer_ba ho ?_)
    refine wpAny_bind (wpAny_rule ?_)
    refine wpAny_bind (wpAny_mkBytes ?_ hz)
    exact wpAny_pure ⟨PySem.W.typeIs_bytes _ _ _, h _ _⟩
  · exact ⟨h₁.1, F.args_object_init_2 obj _, object_init_meets F.bm_called.init.lookup F.bm_called.made (by decide) prog w A.in1 _ s₁ ⟨h₁.1, rfl, h₁.2⟩⟩
end
end Mine
end

section
open PySem PySem.W PyProof.Rows PySem.Calls
set_option maxRecDepth 100000
namespace Mine

section
variable {M : Model} {A : Around} {E : Value → Shared → Prop} {s : Shared} {env : Env}
theorem wpS_callWith {P : Heap → Prop} {pos : Pos} {f : Value} {first : List Value} {args : List (Bool × Sem Value)} {Q : Value → Shared → Prop} (hplain : args.any (·.1) = false)
    (hk : ∀ h, P h → ∃ k, (k = Keeper.frame ∨ k = Keeper.machine ∨ k = Keeper.boundFrame) ∧ Looks M h (keeperOf f) k)
    (h : wpAny M A (evalArgs f true args []) (fun a s₁ => P s₁.heap ∧ wpS M A (call f (first ++ a.pos) a.kw) Q E s₁) E s) : wpS M A (callWith pos f first args []) Q E s := by
  unfold callWith
  refine wpS_bind (wpS_holding (wpS_of (wpAny_mono h (fun a s₁ h₁ => ?_) fun _ _ x => x)))
  refine wpS_bind (wpS_standAt ?_)
  obtain ⟨k, hk', L⟩ := hk _ h₁.1
  have hpl : (args.any (fun x => x.1) || ([] : List (Option Str × Sem Value)).any fun x => x.1.isNone) = false := by rw [hplain]; rfl
  simp only [hpl]
  refine wpS_bindA (L.here ?_)
  have tail : ∀ {t : Sem Value}, wpS M A t Q E s₁ → wpS M A (t >>= fun r => holding [r] point >>= fun _ => pure r) Q E s₁ :=
    fun ht => wpS_bind (wpS_mono ht (fun r s₂ hr => wpS_bindA (wpAny_holding (wpAny_point (wpS_pure hr)))) fun _ _ x => x)
  have marked (mk : Value) : wpS M A (callMarked mk f (first ++ a.pos) a.kw) Q E s₁ := by
    unfold callMarked
    exact fun Γ p hΓ h1 h2 => by rw [Sem.wp_keep]; exact h₁.2 Γ p hΓ h1 h2
  rcases hk' with rfl | rfl | rfl <;> dsimp only <;> first | exact tail h₁.2 | (split <;> first | exact tail h₁.2 | exact tail (marked _))

theorem wpS_Call_Name {x : Str} {p pos : Pos} {args : List Expr} {Q : Value → Shared → Prop}
    (h : wpAny M A (eval (.Name x p) env) (fun f s₁ => wpS M A (callWith pos f [] (backTo pos (starEach args env)) []) Q E s₁) E s) :
    wpS M A (eval (.Call (.Name x p) args [] pos) env) Q E s := by
  rw [arm_eval_Call_Name']
  exact wpS_bindA h
end

section
variable {prog : Program} {w : World} {A : Around} {E : Value → Shared → Prop} {s : Shared} {env : Env}
def MethOnS (prog : Program) (w : World) (A : Around) (T id : String) (pos : Pos) (trees : List (Bool × Sem Value)) (Q E : Value → Shared → Prop) (ov : Value) (s₁ : Shared) : Prop :=
  s₁.TypeIs ov T ∧ (∀ a, ov = .ref a → ∃ ob, s₁.heap.get? a = some ob ∧ ob.dict = none) ∧ wpS (model prog w) A (callWith pos (.builtin id) [ov] trees []) Q E s₁
/-- a method of a built-in type: the base clean, the call dirty -/
theorem wpS_Call_method {o : Expr} {name : Str} {apos pos : Pos} {args : List Expr} {T id : String} {Q : Value → Shared → Prop}
    (hbase : attributeBase o name env (eval o env) = eval o env)
    (hfew : methodCallForm (args.length + ([] : List Keyword).length) (backTo pos (starEach args env)) (backToKw pos (keywordEach [] env)) = true)
    (hline : (apos.endLine == pos.line) = true)
    (pa : PlainAttrs T) (slot : Slot T name id) (hty : typeOf (.builtin id) = pure (.type "method_descriptor"))
    (h : wpS (model prog w) A (eval o env) (MethOnS prog w A T id pos (backTo pos (starEach args env)) Q E) E s) :
    wpS (model prog w) A (eval (.Call (.Attribute o name apos) args [] pos) env) Q E s := by
  rw [arm_eval_Call, hbase]
  refine wpS_bind (wpS_mono h (fun ov s₁ h₁ => ?_) fun _ _ e => e)
  obtain ⟨hT, hd, hc⟩ := h₁
  refine wpS_bind (wpS_standAt ?_)
  have hpos : methodCallPos true o env apos pos = pure pos := by unfold methodCallPos; simp [hline]
  unfold methodCall
  rw [hfew]
  refine wpS_bindA (wpAny_holding (getMethod_builtin hT pa slot hty hd ?_))
  exact wpS_bindA (wpAny_of_eq hpos hc)

theorem codeS_func {body : List Stmt} {env : Env} {R : Result → Shared → Prop}
    (h : wpS (model prog w) (A.deeper env) (execs body env) (fun f s' => R (.ok (.ret (match f with | .ret v => v | _ => .none))) s') (fun _ _ => False) s) :
    codeS (model prog w) A (.func body env) R s := by
  refine codeS_of_tree trivial ?_
  show wpS _ (A.deeper env) (do point; match ← (execs body env).onRaise (leaving env) with | .ret v => ret v | _ => ret .none) _ _ s
  refine wpS_bindA (wpAny_point (wpS_bind (wpS_onRaise (wpS_mono h (fun f s' h' => ?_) fun _ _ x => x))))
  cases f <;> exact wpS_pure h'

theorem codeS_call_function {R : Result → Shared → Prop} {a : Addr} {args : Args} {o : Obj} {fd : FuncData} {body : List Stmt} (hroom : A.depth < recursionLimit)
    (ho : s.heap.get? a = some o)
    (hd' : o.data = .func fd) (hco : fd.scope.isCoroutine = false) (hgen : fd.scope.isGenerator = false) (hbody : fd.body = .stmts body) (hcd : s.heap.CodeRec fd.code fd.qualname)
    (h : wpAny (model prog w) A.in1 (bindArgs fd args) (fun binds s₁ =>
      wpAny (model prog w) A.in1 (newFunctionEnv fd.scope fd.globals fd.closure binds (fd.qualname ++ ".<locals>.") (some a) fd.code none fd.builtins)
        (fun env s₂ => s₂.heap.NoLimit ∧ codeS (model prog w) A (.func body env) R s₂) (fun e s' => R (.error e) s') s₁) (fun e s' => R (.error e) s') s) :
    codeS (model prog w) A (.call (.ref a) args) R s := by
  refine codeS_of_tree trivial ?_
  show wpS _ A.in1 (callAny (.ref a) args) _ _ s
  simp only [callAny]
  refine wpS_bindA (wpAny_load ho ?_)
  obtain ⟨c, oc, vs, tq, hc, hoc, hdc, hq⟩ := hcd
  simp only [hd', callFunction, hco, hgen, hbody, hc]
  rw [hc] at h
  refine wpS_bindA (m := field (.ref c) 1) (wpAny_field hoc hdc hq (wpS_bindA (wpAny_pure ?_)))
  exact wpS_bindA (wpAny_mono h (fun binds s₁ h₁ => wpS_bindA (wpAny_mono h₁ (fun env s₂ h₂ => wpS_bindA (wpAny_enterFrame h₂.1 hroom
    (wpS_pure (And.intro rfl h₂.2)))) fun _ _ h' => h')) fun _ _ h' => h')
end

section
variable {prog : Program} {w : World} {A₀ A : Around} {s : Shared} {base h₀ : Heap} {outer : List Env} {L : Addr} {m : Str → Option Value} {env : Env} {news : List (Addr × Obj)} {K : Frag}
  {R : Result → Shared → Prop} {name qual : Str} {params : Arguments} {body : List Stmt} {scope : Scope} {cl : List (Str × Addr)} {dV kV doc pm cdv ct oc : Value} {an od : Option Addr} {osl : Array (Option Value)} {f : Addr} {args : Args} {binds : List (Str × Value)}
  {p : Program} {loose : List Str} {mean : ExcName → Option Value} {mg mb : Str → Option Value}

/-- entering a def of the written part that keeps no cells -/
theorem codeS_def (B : Below A₀ base outer h₀) (F : Fr h₀ L s.heap m) (X₀ : K.In h₀) (N : News h₀ L s.heap news) (T : Top p loose mean mg mb h₀) (hA : A.frames = some (env :: outer)) (hf : env.frame = some L) (hke : env.scope.kind = .function)
    (ho : K.lookup f = some ⟨oc, od, .func (fnOf name qual params body scope dV kV doc pm an cdv ct), osl⟩) (hcd : codeIn K cdv qual = true) (hroom : A.depth < recursionLimit)
    (hbind : BindsTo s (fnOf name qual params body scope dV kV doc pm an cdv ct) args binds) (hloc : ∀ y ∈ binds, scope.names.lookup y.1 = some .local)
    (h : ∀ g L' h₁, Fr h₀ L g m → Fr g L' h₁ (fun y => binds.reverse.lookup y) → News g L' h₁ news → Below A base (env :: outer) g → K.In g → Top p loose mean mg mb g → (∀ p ∈ news, p.1 < L') →
      wpS (model prog w) (A.deeper (envX qual scope L' f cdv [])) (execs body (envX qual scope L' f cdv []))
        (fun fl s' => LeaveK h₀ L m g R (match fl with | .ret v => v | _ => .none) s') (fun _ _ => False)
        { s with heap := h₁, toks := s.toks + binds.length })
    (hco : scope.isCoroutine = false) (hgen : scope.isGenerator = false) (hk : scope.kind = .function)
    (hcell : ∀ x ∈ scope.names, x.2 ≠ .cell) : codeS (model prog w) A (.call (.ref f) args) R s := by
  obtain ⟨FG, BG, st, lv⟩ := groundX (R := R) B F N hA hf hke
  refine codeS_call_function (fd := fnOf name qual params body scope dV kV doc pm an cdv ct) (body := body) hroom ((X₀.keeps F.keep) _ _ ho) rfl hco hgen rfl (codeRec_of (X₀.keeps F.keep) hcd) (hbind _ _ _ _ ?_)
  refine wpAny_newFunctionEnv hcell hloc (fun h₁ hns hsb => ⟨((T.nolimit).keeps F.keep).fresh _ hsb, codeS_func ?_⟩) hk
  have hk₁ : ∀ b o, s.heap.get? b = some o → h₁.get? b = some o := fun b o e => hsb.extBut b o (Nat.ne_of_lt (Heap.lt_size e)) (Heap.get?_push_of_some _ e)
  refine wpS_mono (h _ s.heap.objs.size h₁ FG ⟨hns, fun b o e => hk₁ b o (of_hideAll _ e), Nat.le_of_eq (hideAll_size _ _)⟩
    (fun p hp => ⟨hk₁ _ _ (N p hp).1, Nat.ne_of_lt (Heap.lt_size (N p hp).1), hideAll_none _ (List.mem_map_of_mem hp)⟩) BG (X₀.keeps st) (T.keeps st) (fun p hp => Heap.lt_size (N p hp).1)) (fun fl s' hl => lv _ _ hl) fun _ _ y => y

/-- entering a def of the written part that keeps cells -/
theorem codeS_defC (B : Below A₀ base outer h₀) (F : Fr h₀ L s.heap m) (X₀ : K.In h₀) (N : News h₀ L s.heap news) (T : Top p loose mean mg mb h₀) (hA : A.frames = some (env :: outer)) (hf : env.frame = some L) (hke : env.scope.kind = .function)
    (ho : K.lookup f = some ⟨oc, od, .func (fnOf name qual params body scope dV kV doc pm an cdv ct), osl⟩) (hcd : codeIn K cdv qual = true) (hroom : A.depth < recursionLimit)
    (hbind : BindsTo s (fnOf name qual params body scope dV kV doc pm an cdv ct) args binds) (hkind : (binds.all fun y => scope.names.lookup y.1 == some .local || scope.names.lookup y.1 == some .cell) = true)
    (hnd : ((cellsFrom 0 scope.names []).map (·.1)).Nodup)
    (h : ∀ g L' h₁ tk cells, Fr h₀ L g m → Fr g L' h₁ (bindL (envOfC qual scope L' f cdv).kindOf binds fun _ => none) → News g L' h₁ (cells ++ news) →
      CellsAre (bindC (envOfC qual scope L' f cdv).kindOf binds fun _ => none) (cellsFrom (L' + 1) scope.names []) cells → Below A base (env :: outer) g → K.In g → Top p loose mean mg mb g → (∀ p ∈ news, p.1 < L') → h₀.StaysIn g →
      wpS (model prog w) (A.deeper (envOfC qual scope L' f cdv)) (execs body (envOfC qual scope L' f cdv))
        (fun fl s' => LeaveK h₀ L m g R (match fl with | .ret v => v | _ => .none) s') (fun _ _ => False)
        { s with heap := h₁, toks := tk })
    (hco : scope.isCoroutine = false) (hgen : scope.isGenerator = false) (hk : scope.kind = .function) : codeS (model prog w) A (.call (.ref f) args) R s := by
  obtain ⟨FG, BG, st, lv⟩ := groundX (R := R) B F N hA hf hke
  refine codeS_call_function (fd := fnOf name qual params body scope dV kV doc pm an cdv ct) (body := body) hroom ((X₀.keeps F.keep) _ _ ho) rfl hco hgen rfl (codeRec_of (X₀.keeps F.keep) hcd) (hbind _ _ _ _ ?_)
  refine wpAny_newFunctionEnv_cells hk (kindsX hkind _) fun env' he s' x => ?_
  subst he
  refine ⟨((T.nolimit).keeps F.keep).keeps x.toInCall.keep, codeS_func ?_⟩
  obtain ⟨h₁, tk, rfl, _⟩ := x.done
  have hk₁ := x.toInCall.keep
  obtain ⟨cells, NC, Y⟩ := Cl.news (h₀ := s.heap) (Nat.le_refl _) fun n c hm => ⟨x.cell n c (lookup_of_mem_nodup (cellsFrom_names scope.names 0 (s.heap.objs.size + 1) [] [] rfl ▸ hnd) hm), x.above n c hm⟩
  refine wpS_mono (h _ s.heap.objs.size h₁ tk cells FG ⟨x.toInCall.ns, fun b o e => hk₁ b o (of_hideAll _ e), Nat.le_of_eq (hideAll_size _ _)⟩ (fun p hp => ?_) Y BG (X₀.keeps st) (T.keeps st) (fun p hp => Heap.lt_size (N p hp).1) st) (fun fl s' hl => lv _ _ hl) fun _ _ y => y
  rcases List.mem_append.mp hp with hp | hp
  · refine ⟨(NC p hp).1, (NC p hp).2.1, ?_⟩
    cases q : (hideAll s.heap (news.map (·.1))).get? p.1 with
    | none => rfl
    | some o => have := of_hideAll _ q; rw [(NC p hp).2.2] at this; cases this
  · exact ⟨hk₁ _ _ (N p hp).1, Nat.ne_of_lt (Heap.lt_size (N p hp).1), hideAll_none _ (List.mem_map_of_mem hp)⟩
end
end Mine
end

section
open PySem PySem.W PyProof.Rows PySem.Calls
set_option maxRecDepth 100000
namespace Mine

abbrev DoesS (w : World) (f : Addr) (k : Nat) (vs : List Value) (pre : List (Addr × Obj) → Prop) (R : Value → Prop) : Prop :=
  ∀ (p : Program) (loose : List Str) (mean : ExcName → Option Value) (mg mb : Str → Option Value) (dp un : Nat) (cn : Str) (cs : Scope) (a : Addr) (ccd : Value) (cl : List (Str × Addr)) (outer : List Env) (A₀ : Around) (base h₀ : Heap) (L : Addr) (m : Str → Option Value) (news : List (Addr × Obj)) (s : Shared) (Q E : Value → Shared → Prop),
    Below A₀ base outer h₀ → Fr h₀ L s.heap m → (hd.heap_39 w.params).In h₀ → News h₀ L s.heap news → Top p loose mean mg mb h₀ → cs.kind = .function → dp + k < recursionLimit → un + 8 * k < cLine →
    pre news →
    Back h₀ L m news s Q R →
    wpS (model PySem.Challenge.rw_io0059_01.row.prog w) (ktrTop dp un (some []) cn cs L a ccd cl outer) (call (.ref f) vs) Q E s

section
variable {prog : Program} {w : World} {A : Around} {E : Value → Shared → Prop} {Q : Flow → Shared → Prop} {s : Shared} {env : Env} {h₀ : Heap} {L : Addr}
theorem kswS_while {σ : Type} {test : Expr} {body : List Stmt} {pos : Pos} {m₀ : Str → Option Value} (Led : σ → List (Addr × Obj)) (ps : σ → List (Str × Value)) (stored : List Str) (P : σ → Prop) (μ : σ → Nat) (c₀ : σ)
    (F : Fr h₀ L s.heap m₀) (N : News h₀ L s.heap (Led c₀)) (hk : ∀ p ∈ ps c₀, m₀ p.1 = some p.2) (hp : P c₀)
    (turn : ∀ (c : σ) (u : Str → Option Value) h tk, P c → Fr h₀ L h (kstB (fun z => if stored.contains z then u z else m₀ z) (ps c)) → News h₀ L h (Led c) →
      wpAny (model prog w) A (isTrue test env (eval test env)) (fun b s₂ =>
        if b = true then wpS (model prog w) A (execs body env) (KswPost h₀ L s Led ps (fun _ => True) stored m₀ P μ Q c) (fun _ _ => False) s₂ else Q .next s₂) (fun _ _ => False) { s with heap := h, toks := tk }) :
    wpS (model prog w) A (exec (.While test body [] pos) env) Q E s := by
  refine wpS_While (codeS_whileLoop (fun n s' => ∃ (c : σ) (h₁ : Heap) (tk₁ : Nat) (m₁ : Str → Option Value), s' = { s with heap := h₁, toks := tk₁ } ∧ Fr h₀ L h₁ m₁ ∧ News h₀ L h₁ (Led c) ∧ μ c = n ∧ (∀ p ∈ ps c, m₁ p.1 = some p.2) ∧ (∀ z, (∀ p ∈ ps c, z ≠ p.1) → stored.contains z = false → m₁ z = m₀ z) ∧ P c) ?_ (μ c₀)
    ⟨c₀, s.heap, s.toks, m₀, rfl, F, N, rfl, hk, fun _ _ _ => rfl, hp⟩)
  rintro n s' ⟨c, h₁, tk₁, m₁, rfl, F₁, N₁, hn, h1, h2, hp'⟩
  refine wpAny_mono (turn c m₁ h₁ tk₁ hp' (ksw_fr h1 h2 F₁) N₁) (fun b s₂ h₂ => ?_) fun _ _ x => x
  cases b with
  | false =>
    simp only [Bool.false_eq_true, if_false] at h₂ ⊢
    exact wpS_execs_nil h₂
  | true =>
    simp only [if_true] at h₂ ⊢
    refine wpS_mono h₂ (fun f s₃ h₃ => ?_) fun _ _ x => x
    have go : KswEnd h₀ L s Led ps (fun _ => True) stored m₀ P μ c s₃ → ∃ m, m < n ∧ ∃ (c : σ) (h₁ : Heap) (tk₁ : Nat) (m₁ : Str → Option Value), s₃ = { s with heap := h₁, toks := tk₁ } ∧ Fr h₀ L h₁ m₁ ∧ News h₀ L h₁ (Led c) ∧ μ c = m ∧ (∀ p ∈ ps c, m₁ p.1 = some p.2) ∧ (∀ z, (∀ p ∈ ps c, z ≠ p.1) → stored.contains z = false → m₁ z = m₀ z) ∧ P c := by
      rintro ⟨c', h', tk, m', news', e, F', N', hn', _, hk', hr', hp'', hμ⟩
      exact ⟨μ c', hn ▸ hμ, c', h', tk, m', e, F', (fun p hp => N' p (hn' p hp)), rfl, hk', hr', hp''⟩
    cases f with
    | next => exact go h₃
    | cont => exact go h₃
    | brk => exact h₃
    | ret v => exact h₃
end
end Mine
end

section
open PySem PySem.W PyProof.Rows PySem.Calls
set_option maxRecDepth 100000
namespace Mine
section
variable {prog : Program} {w : World} {A : Around} {E : Value → Shared → Prop} {s : Shared} {h₀ : Heap} {L : Addr} {m : Str → Option Value} {news : List (Addr × Obj)}
theorem wpS_ba_K {Q : Value → Shared → Prop} (hg : A.guards = some []) (F : Fr h₀ L s.heap m) (N : News h₀ L s.heap news)
    (h : ∀ l h', Fr h₀ L h' m → News h₀ L h' ((l, baObj #[]) :: news) → (∀ p ∈ news, p.1 < l) → Q (.ref l) { s with heap := h' }) :
    wpS (model prog w) A (call (.type "bytearray") []) Q E s := by
  refine wpS_baCall hg fun h' ho hk => h _ h' ⟨F.ns.keeps hk, fun b o e => hk b o (F.keep b o e), F.above⟩ (fun p hp => ?_) fun p hp => Heap.lt_size (N p hp).1
  rcases List.mem_cons.mp hp with rfl | hp
  · exact ⟨ho, Nat.ne_of_gt F.ns.lt, Heap.get?_none_of_le (Nat.le_trans F.above (Nat.le_of_lt F.ns.lt))⟩
  · exact ⟨hk _ _ (N p hp).1, (N p hp).2⟩
theorem ba_upd {a : Addr} {b b' : Array UInt8} {h : Heap} (F : Fr h₀ L h m) (N : News h₀ L h ((a, baObj b) :: news)) (ne : ∀ p ∈ news, p.1 ≠ a) {f : Array UInt8 → Array UInt8} (e : f b = b') :
    Fr h₀ L (h.update a (Obj.mapBytearray f)) m ∧ News h₀ L (h.update a (Obj.mapBytearray f)) ((a, baObj b') :: news) := by
  have hm := N _ (.head _)
  have ho := ba_after f hm.1
  rw [e] at ho
  exact ⟨F.change (Heap.SameBut.update ..) hm.2.1 hm.2.2, News.setAt (own := []) N (fun _ h => (nomatch h)) ne (Heap.SameBut.update ..) ho⟩
theorem wpS_append_K {a : Addr} {b : Array UInt8} {x : Int} {t : Tok} {Q : Value → Shared → Prop} (hg : A.guards = some []) (F : Fr h₀ L s.heap m) (N : News h₀ L s.heap ((a, baObj b) :: news)) (ne : ∀ p ∈ news, p.1 ≠ a)
    (h0 : 0 ≤ x) (h1 : x < 256) (hz : b.size < sizeLine)
    (h : ∀ h', Fr h₀ L h' m → News h₀ L h' ((a, baObj (b.push x.toNat.toUInt8)) :: news) → Q .none { s with heap := h' }) :
    wpS (model prog w) A (call (.builtin "bytearray.append") [.ref a, .int x t]) Q E s :=
  wpS_append hg (N _ (.head _)).1 h0 h1 hz (let u := ba_upd (f := (·.push x.toNat.toUInt8)) F N ne rfl; h _ u.1 u.2)
theorem wpS_extend_K {a : Addr} {b c : Array UInt8} {t : Tok} {Q : Value → Shared → Prop} (hg : A.guards = some []) (F : Fr h₀ L s.heap m) (N : News h₀ L s.heap ((a, baObj b) :: news)) (ne : ∀ p ∈ news, p.1 ≠ a)
    (hz : b.size + c.size ≤ sizeLine)
    (h : ∀ h', Fr h₀ L h' m → News h₀ L h' ((a, baObj (b ++ c)) :: news) → Q .none { s with heap := h' }) :
    wpS (model prog w) A (call (.builtin "bytearray.extend") [.ref a, .bytes c t]) Q E s :=
  wpS_extend hg (N _ (.head _)).1 hz (let u := ba_upd (f := (· ++ c)) F N ne rfl; h _ u.1 u.2)
theorem ba_bytes_K {a : Addr} {b : Array UInt8} {Q : Value → Shared → Prop} (N : News h₀ L s.heap ((a, baObj b) :: news)) (hz : b.size ≤ sizeLine)
    (h : ∀ t k, Q (.bytes b t) { s with toks := k }) : wpAny (model prog w) A (call (.type "bytes") [.ref a]) Q E s := ba_toBytes (N _ (.head _)).1 hz h
theorem keeps_mach {f : Value} (h : ∀ {M : Model} {s : Heap}, Looks M s (keeperOf f) .machine) : ∀ (M : Model) (h : Heap), True → ∃ k, (k = Keeper.frame ∨ k = Keeper.machine ∨ k = Keeper.boundFrame) ∧ Looks M h (keeperOf f) k :=
  fun _ _ _ => ⟨.machine, .inr (.inl rfl), h⟩
theorem Fact.pa_ba : PlainAttrs "bytearray" :=
  ⟨⟨"bytearray.__getattribute__", by rw [typeLookup_type, builtinLookup_eq_fast]; kernel_rfl, by decide +kernel⟩, by rw [typeLookup_type, builtinLookup_eq_fast]; kernel_rfl⟩
theorem Fact.ty_append : typeOf (.builtin "bytearray.append") = pure (.type "method_descriptor") := by show builtinType _ = _; rw [builtinType_eq_fast]; kernel_rfl
theorem Fact.ty_extend : typeOf (.builtin "bytearray.extend") = pure (.type "method_descriptor") := by show builtinType _ = _; rw [builtinType_eq_fast]; kernel_rfl
/-- the base of a method call on the bytearray that stands at the ledger's head -/
theorem ba_on {a : Addr} {b : Array UInt8} {h : Heap} {g : Array GenState} {d : Drawn} {tk : Nat} {os : OsState} (N : News h₀ L h ((a, baObj b) :: news)) :
    (⟨h, g, d, tk, os⟩ : Shared).TypeIs (.ref a) "bytearray" ∧ (∀ x, Value.ref a = .ref x → ∃ ob, (⟨h, g, d, tk, os⟩ : Shared).heap.get? x = some ob ∧ ob.dict = none) :=
  ⟨⟨_, (N _ (.head _)).1, rfl⟩, fun x e => by cases e; exact ⟨_, (N _ (.head _)).1, rfl⟩⟩
end
end Mine
end

section
open PySem PySem.W PyProof.Rows PySem.Calls
namespace Mine
theorem Does.use {w : World} {f : Addr} {k : Nat} {vs : List Value} {pre : List (Addr × Obj) → Prop} {R : Value → Prop} (D : Does w f k vs pre R)
    {p : Program} {loose : List Str} {mean : ExcName → Option Value} {mg mb : Str → Option Value} {dp un : Nat} {gd : Option (List Code)} {cn : Str} {cs : Scope} {a : Addr} {ccd : Value} {cl : List (Str × Addr)} {outer : List Env} {A₀ : Around} {base h₀ : Heap} {L : Addr} {m : Str → Option Value} {news : List (Addr × Obj)} {s : Shared} {Q E : Value → Shared → Prop}
    (B : Below A₀ base outer h₀) (F : Fr h₀ L s.heap m) (X : (hd.heap_39 w.params).In h₀) (N : News h₀ L s.heap news) (T : Top p loose mean mg mb h₀) (hk : cs.kind = .function) (hdp : dp + k < recursionLimit) (hu : un + 8 * k < cLine)
    (hp : pre news) (ret : Back h₀ L m news s Q R) :
    wpAny (model PySem.Challenge.rw_io0059_01.row.prog w) (ktrTop dp un gd cn cs L a ccd cl outer) (call (.ref f) vs) Q E s := D _ _ _ _ _ _ _ _ _ _ _ _ _ _ _ _ _ _ _ _ _ _ _ B F X N T hk hdp hu hp ret
theorem DoesS.use {w : World} {f : Addr} {k : Nat} {vs : List Value} {pre : List (Addr × Obj) → Prop} {R : Value → Prop} (D : DoesS w f k vs pre R)
    {p : Program} {loose : List Str} {mean : ExcName → Option Value} {mg mb : Str → Option Value} {dp un : Nat} {cn : Str} {cs : Scope} {a : Addr} {ccd : Value} {cl : List (Str × Addr)} {outer : List Env} {A₀ : Around} {base h₀ : Heap} {L : Addr} {m : Str → Option Value} {news : List (Addr × Obj)} {s : Shared} {Q E : Value → Shared → Prop}
    (B : Below A₀ base outer h₀) (F : Fr h₀ L s.heap m) (X : (hd.heap_39 w.params).In h₀) (N : News h₀ L s.heap news) (T : Top p loose mean mg mb h₀) (hk : cs.kind = .function) (hdp : dp + k < recursionLimit) (hu : un + 8 * k < cLine)
    (hp : pre news) (ret : Back h₀ L m news s Q R) :
    wpS (model PySem.Challenge.rw_io0059_01.row.prog w) (ktrTop dp un (some []) cn cs L a ccd cl outer) (call (.ref f) vs) Q E s := D _ _ _ _ _ _ _ _ _ _ _ _ _ _ _ _ _ _ _ _ _ _ B F X N T hk hdp hu hp ret
section
variable {M : Model} {A : Around} {E : Value → Shared → Prop} {s : Shared} {env : Env}
theorem wpS_mach1 {pos : Pos} {f : Value} {first : List Value} {e : Expr} {Q : Value → Shared → Prop} (hk : ∀ {M : Model} {s : Heap}, Looks M s (keeperOf f) .machine)
    (h : wpAny M A (eval e env) (fun v s₁ => wpS M A (call f (first ++ [v])) Q E s₁) E s) (he : starEach [e] env = [(false, eval e env)] := by rfl) :
    wpS M A (callWith pos f first (backTo pos (starEach [e] env)) []) Q E s := by
  rw [he]
  exact wpS_callWith (P := fun _ => True) rfl (keeps_mach hk _) (evalArgs_plain (spliced_cons (wpAny_mono h (fun v s₁ h₁ => spliced_nil ⟨trivial, h₁⟩) fun _ _ x => x)))
end
theorem u8_back (u : UInt8) : ((u.toNat : Int)).toNat.toUInt8 = u := by simp
theorem u8_lt (u : UInt8) : ((u.toNat : Int)) < 256 := by have := u.toNat_lt; omega
section
variable {prog : Program} {w : World} {A : Around} {E : Value → Shared → Prop} {s : Shared} {value slice : PySem.Expr} {b : Array UInt8} {t ui : Tok} {i : Int} {Q : Value → Shared → Prop}
theorem bytes_item (hfit : b.size ≤ 1099511627776) (h0 : 0 ≤ i) (h1 : i < b.size) (h : ∀ t' k, Q (.int ((b.getD i.toNat 0).toNat : Int) t') { s with toks := k })
    (hs : subscripted slice false (.bytes b t) (.int i ui) = operate [.bytes b t, .int i ui] (getItem (.bytes b t) (.int i ui)) := by with_unfolding_all rfl)
    (ht : ∀ r, letTemporaryGo value (.bytes b t) r = pure () := by intro _; with_unfolding_all rfl) : wpAny (model prog w) A (subscriptTail value slice (.bytes b t) (.int i ui)) Q E s := by
  have e : b.toList.toArray = b := Array.toArray_toList
  have g : wpAny (model prog w) A (getItem (.bytes b.toList.toArray t) (.int i ui)) Q E s := by
    refine getItem_bytes (l := b.toList) (by simpa using hfit) h0 (by simpa using h1) ?_
    have e2 : b.toList.getD i.toNat 0 = b.getD i.toNat 0 := by simp [List.getD_eq_getElem?_getD, Array.getD_eq_getD_getElem?]
    rw [e2]
    exact h _ _
  rw [e] at g
  exact tail_of_ItemOn ⟨"bytes", _, FB.slot_bytes_getitem.lookup, typeIs_bytes _ _ _, g⟩ hs ht
end
end Mine
end

section
open PySem PySem.W PyProof.Rows PySem.Calls
set_option maxRecDepth 100000
namespace Mine
theorem Fact.slot_upper : Slot "bytes" "upper" "bytes.upper" :=
  .of (owner := "bytes") (n := "upper") (by rw [typeLookup_type, builtinLookup_eq_fast]; kernel_rfl) (by decide +kernel) (by decide +kernel) (by decide +kernel)
    (by first | exact .inl (by decide +kernel) | exact .inr (by decide +kernel)) (by rw [isSubtype_type]; kernel_rfl)
theorem Fact.ty_upper : typeOf (.builtin "bytes.upper") = pure (.type "method_descriptor") := by show builtinType _ = _; rw [builtinType_eq_fast]; kernel_rfl
theorem Fact.entry_upper : entryFor table "bytes.upper" = some Builtin.«bytes.upper» := by first | exact entryFor_of_fast (by kernel_rfl) | exact entryFor_of_tree (by kernel_rfl)
theorem Fact.args_upper (a : Value) : argsOk "bytes.upper" ⟨[a], []⟩ := by unfold argsOk; kernel_rfl
section
variable {prog : Program} {w : World} {A : Around} {E : Value → Shared → Prop} {s : Shared}
theorem call_upper {b : Array UInt8} {t : Tok} {Q : Value → Shared → Prop} (hz : b.size ≤ sizeLine) (h : ∀ t' k, Q (.bytes (b.toList.map PySem.Builtin.Bytes.toUpper).toArray t') { s with toks := k }) :
    wpAny (model prog w) A (call (.builtin "bytes.upper") [.bytes b t]) Q E s := by
  refine wpAny_call_entry Fact.slot_upper (typeIs_bytes s b t) Fact.entry_upper ?_ (Fact.args_upper _)
  unfold Builtin.«bytes.upper» Builtin.Bytes.mappedM
  refine wpAny_bind (wpAny_of_eq (a := Value.bytes b t) rfl ?_)
  refine wpAny_bind (wpAny_of_eq (a := b) rfl ?_)
  refine wpAny_bind (wpAny_mkBytes ?_ (by simpa using hz))
  exact wpAny_pure ⟨_, rfl, h _ _⟩
end
end Mine
end

section
open PySem PySem.W PyProof.Rows PySem.Calls
namespace Mine
def digA : Array UInt8 := #[97, 98, 99, 100, 101, 102, 103, 104, 105, 106, 107, 108, 109, 110, 111, 112, 113, 114, 115, 116, 117, 118, 119, 120, 121, 122, 48, 49, 50, 51, 52, 53, 54, 55, 56, 57]
def dig (x : Int) : UInt8 := digA.getD x.toNat 0
theorem tF_ge (j b : Int) : 1 ≤ tF j b := by unfold tF; dsimp only; split <;> first | omega | (split <;> omega)
theorem tF_le (j b : Int) : tF j b ≤ 26 := by unfold tF; dsimp only; split <;> first | omega | (split <;> omega)
theorem gen_less {N t : Int} (h1 : 1 ≤ t) (h2 : t ≤ 26) (h : ¬ N < t) : ((N - t).fdiv (36 - t)).toNat < N.toNat := by
  rw [Int.fdiv_eq_ediv_of_nonneg _ (by omega)]
  have h3 : (N - t) / (36 - t) ≤ N - t := Int.ediv_le_self _ (by omega)
  omega
def genL (N j bias : Int) : List UInt8 :=
  if N < tF j bias then [dig N] else dig (tF j bias + (N - tF j bias).fmod (36 - tF j bias)) :: genL ((N - tF j bias).fdiv (36 - tF j bias)) (j + 1) bias
termination_by N.toNat
decreasing_by exact gen_less (tF_ge _ _) (tF_le _ _) (by assumption)

theorem genL_end {N j b : Int} (h : N < tF j b) : genL N j b = [dig N] := by rw [genL, if_pos h]
theorem genL_go {N j b : Int} (h : ¬ N < tF j b) : genL N j b = dig (tF j b + (N - tF j b).fmod (36 - tF j b)) :: genL ((N - tF j b).fdiv (36 - tF j b)) (j + 1) b := by rw [genL, if_neg h]
theorem push_is {b : Array UInt8} {x : UInt8} {l : List UInt8} (he : b.toList ++ [x] = l) : b.push x = l.toArray := by
  subst he
  apply Array.ext'
  simp
theorem push_go {b : Array UInt8} {x : UInt8} {r l : List UInt8} (he : b.toList ++ (x :: r) = l) : (b.push x).toList ++ r = l := by
  rw [← he]; simp
theorem fmod_in {N t : Int} (h1 : 1 ≤ t) (h2 : t ≤ 26) (h : ¬ N < t) : 0 ≤ t + (N - t).fmod (36 - t) ∧ t + (N - t).fmod (36 - t) < 36 := by
  have a := Int.fmod_nonneg_of_pos (N - t) (b := 36 - t) (by omega)
  have b := Int.fmod_lt_of_pos (N - t) (b := 36 - t) (by omega)
  omega
section
local macro_rules | `(tactic| walk_at "S enter") => `(tactic| (refine' codeS_def ?k1 ?k2 ?k3 ?k4 ?k5 ?kA ?kF ?kK ?k6 ?k7 ?k8 ?k9 ?kB ?_ ?c2 ?c3 ?c4 ?c5; (case kA => exact rfl); (case kF => exact rfl); (case kK => assumption); (case k1 => k_asm); (case k2 => k_asm); (case k3 => k_asm); (case k4 => k_asm); (case k5 => k_asm); (case k6 => k_is); (case k7 => k_is); (case k8 => ktr_room); (case k9 => exact BindsTo.of_eq rfl); (case c5 => decide); (case kB => exact locs rfl); (case c2 => exact rfl); (case c3 => exact rfl); (case c4 => exact rfl); k_whole; intro g' L' h' FG' F' N' B' X' T' lt'; (try dsimp only)))
local macro_rules | `(tactic| walk_at "use rest") => `(tactic| ((case k1 => k_asm); (case k2 => k_asm); (case k3 => k_asm); (case k4 => k_asm); (case k5 => k_asm); (case k6 => first | exact rfl | assumption); (case k7 => ktr_room); (case k8 => ktr_units)))
local macro_rules | `(tactic| walk_at "call ref") => `(tactic| (k_here; k_dflt (refine' Does.use (T_does _ _ _ _ _) ?k1 ?k2 ?k3 ?k4 ?k5 ?k6 ?k7 ?k8 trivial ?_; walk_at "use rest"; intro v9 h9 tk9 e9 F9 N9; (obtain ⟨t9, e9⟩ := e9); subst e9; (try dsimp only))))
set_option maxRecDepth 100000 in
set_option maxHeartbeats 8000000 in
theorem ggi_does (w : World) (n bias : Int) (tn tb : Tok) (h0 : 0 ≤ n) (h1 : n ≤ 1000000) : DoesS w 28 4 [.int n tn, .int bias tb] (fun _ => True) (fun v => ∃ t, v = .bytes (genL n 0 bias).toArray t) := by
  unfold DoesS
  k_fill
  k_with_none
  w_top off
  intro p loose mean mg mb dp un cn cs a ccd cl outer A₀ base h₀ L m news s Q E B F X N T hk hdp hu _ hret
  refine wpS_call ?_
  k_dflt (walk_at "S enter")
  refine wpS_execs_cons (wpS_Assign_Name (wpS_Call_Name ?_))
  k_steps
  refine wpS_callWith (P := fun _ => True) rfl (keeps_mach (Looks.of_pure rfl) _) (evalArgs_nil3 ⟨trivial, ?_⟩)
  refine wpS_ba_K rfl (by k_asm) (by k_asm) ?_
  intro ba h1' F1' N1' lt1'
  k_steps
  refine wpS_execs_cons (wpS_of ?_)
  k_steps
  refine wpS_execs_cons ?_
  refine kswS_while (σ := Int × Int × Nat × Nat × Array UInt8) (fun c => (ba, baObj c.2.2.2.2) :: news) (fun c => [(Str.ofString "N", .int c.1 c.2.2.1), (Str.ofString "j", .int c.2.1 c.2.2.2.1)]) [Str.ofString "t"]
    (fun c => 0 ≤ c.1 ∧ 0 ≤ c.2.1 ∧ c.2.2.2.2.toList ++ genL c.1 c.2.1 bias = genL n 0 bias ∧ c.2.2.2.2.size + c.1.toNat ≤ n.toNat) (fun c => c.1.toNat) (n, 0, _, _, #[]) (by k_asm) (by k_asm) (by kst_all) ⟨h0, Int.le_refl _, rfl, by simp⟩ ?_
  rintro ⟨N', j', t1, t2, b⟩ u hh tk ⟨hN, hj, he, hz⟩ F2 N2
  dsimp only [kstB] at F2 N2 hN hj he hz
  k_steps
  refine wpS_execs_cons (wpS_of ?_)
  k_steps
  refine wpS_execs_cons (wpS_If ?_)
  k_steps
  · refine wpS_execs_cons (wpS_Expr (wpS_Call_method (T := "bytearray") (id := "bytearray.append") rfl rfl rfl Fact.pa_ba Fact.slot_append Fact.ty_append (wpS_of ?_)))
    k_steps
    refine ⟨(ba_on (by k_asm)).1, (ba_on (by k_asm)).2, ?_⟩
    refine wpS_mach1 (Looks.of_pure rfl) ?_
    k_steps
    have ht1 := tF_le j' bias
    refine bytes_item (by decide) hN (show N' < (36 : Int) by omega) ?_
    intro t8 k8
    refine wpS_append_K rfl (by k_asm) (by k_asm) (fun p hp => Nat.ne_of_lt (lt1' p hp)) (by omega) (u8_lt _) ?_ ?_
    · rw [sizeLine_eq]; omega
    intro h8 F8 N8
    refine wpS_execs_cons (wpS_of ?_)
    k_steps
    refine ba_bytes_K (by k_asm) (by rw [Array.size_push, sizeLine_eq]; omega) ?_
    intro t7 k7
    refine ⟨_, _, _, F8, fun p hp => N8 p (.tail _ hp), fun kF kN => hret _ _ _ ⟨t7, ?_⟩ kF kN⟩
    rw [genL_end (by assumption)] at he
    rw [u8_back]
    exact congrArg (Value.bytes · t7) (push_is he)
  · refine wpS_execs_nil ?_
    dsimp only
    refine wpS_execs_cons (wpS_Expr (wpS_Call_method (T := "bytearray") (id := "bytearray.append") rfl rfl rfl Fact.pa_ba Fact.slot_append Fact.ty_append (wpS_of ?_)))
    k_steps
    refine ⟨(ba_on (by k_asm)).1, (ba_on (by k_asm)).2, ?_⟩
    refine wpS_mach1 (Looks.of_pure rfl) ?_
    have ht0 := tF_ge j' bias
    have ht1 := tF_le j' bias
    k_steps
    have hin := fmod_in ht0 ht1 (by assumption)
    refine bytes_item (by decide) hin.1 hin.2 ?_
    intro t8 k8
    refine wpS_append_K rfl (by k_asm) (by k_asm) (fun p hp => Nat.ne_of_lt (lt1' p hp)) (by omega) (u8_lt _) ?_ ?_
    · rw [sizeLine_eq]; omega
    intro h8 F8 N8
    refine wpS_execs_cons (wpS_of ?_)
    k_steps
    dsimp only
    refine wpS_execs_cons (wpS_of ?_)
    k_steps
    dsimp only
    refine wpS_execs_nil ?_
    show KswEnd _ _ _ _ _ _ _ _ _ _ _ _
    rw [genL_go (by assumption)] at he
    rw [u8_back] at *
    have hl := gen_less ht0 ht1 (by assumption)
    refine ksw_end ⟨(N' - tF j' bias).fdiv (36 - tF j' bias), j' + 1, _, _, b.push (dig (tF j' bias + (N' - tF j' bias).fmod (36 - tF j' bias)))⟩ (by k_asm) (by k_asm) (fun p hp => hp) trivial (by kst_all) (by ksw_same) ?_ hl
    dsimp only
    refine ⟨Int.fdiv_nonneg (by omega) (by omega), by omega, push_go he, ?_⟩
    rw [Array.size_push]
    omega
end
end Mine
end

section
open PySem PySem.W PyProof.Rows PySem.Calls
set_option maxRecDepth 100000
namespace Mine
section
variable {prog : Program} {w : World} {A : Around} {E : Value → Shared → Prop} {R : Result → Shared → Prop} {s : Shared} {env : Env} {h₀ : Heap} {L : Addr} {Q : Flow → Shared → Prop}
theorem codeS_block_nil {env : Env} (h : R (.ok .next) s) : codeS (model prog w) A (.block [] env) R s :=
  codeS_of (codeAny_block (wpAny_execs_nil h))
theorem codeS_forLoop {target : Expr} {it : Value} {body : List Stmt} {env : Env} (I : Nat → Shared → Prop)
    (turn : ∀ n s, I n s → wpAny (model prog w) A (pyNext it) (fun r s₁ => match r with
      | none => R (.ok .next) s₁
      | some v => wpAny (model prog w) A (letOwnedTupleGo target it v) (fun _ s₁' =>
          wpAny (model prog w) A (assign target env v) (fun _ s₂ => wpS (model prog w) A (execs body env) (fun f s₃ => match f with
            | .next | .cont => ∃ m, m < n ∧ I m s₃
            | .brk => R (.ok .next) s₃
            | .ret v => R (.ok (.ret v)) s₃) (fun _ _ => False) s₂) (fun _ _ => False) s₁') (fun _ _ => False) s₁) (fun _ _ => False) s)
    (n : Nat) (h : I n s) : codeS (model prog w) A (.forLoop target it body [] env) R s := by
  refine codeS_loop trivial rfl I (fun n s hI => ?_) n h
  show wpS _ A ((forTurn target it body [] env).onRaise (fun x => do noteFrame x env; theTreesLotGoes x)) _ _ s
  refine wpS_onRaise ?_
  simp only [forTurn]
  refine wpS_bind (wpS_standAt (wpS_bindA (wpAny_onRaise (wpAny_mono (turn n s hI) (fun r s₁ h₁ => ?_) fun _ _ h' => h'.elim))))
  cases r with
  | none => exact wpS_pure (.inr ⟨rfl, codeS_block_nil h₁⟩)
  | some v =>
    refine wpS_bindA (wpAny_mono h₁ (fun _ s₁' h₁' => ?_) fun _ _ h' => h')
    refine wpS_bindA (wpAny_mono h₁' (fun _ s₂ h₂ => wpS_bind (wpS_mono h₂ (fun f s₃ h₃ => ?_) fun _ _ h' => h')) fun _ _ h' => h')
    cases f with
    | next => exact wpS_pure (.inl ⟨rfl, h₃⟩)
    | cont => exact wpS_pure (.inl ⟨rfl, h₃⟩)
    | brk => exact wpS_pure h₃
    | ret v => exact wpS_pure h₃
theorem wpS_For {target iter : Expr} {body : List Stmt} {pos : Pos}
    (h : wpAny (model prog w) A (eval iter env) (fun x s₁ => wpAny (model prog w) A (pyIter x) (fun it s₂ =>
      codeS (model prog w) A (.forLoop target it body [] env) (fun r s' => match r with | .ok f => Q f s' | .error _ => False) s₂) E s₁) E s)
    (hs : ∀ x, foldedSetIterable iter env x = pure x := by intro _; rfl) :
    wpS (model prog w) A (exec (.For target iter body [] pos) env) Q E s := by
  rw [exec_For]
  refine wpS_bind (wpS_standAt (wpS_bindA (wpAny_mono h (fun x s₁ h₁ => wpS_bindA (wpAny_of_eq (hs x) (wpS_bind (wpS_standAt (wpS_bindA (wpAny_holding
    (wpAny_mono h₁ (fun it s₂ h₂ => ?_) fun _ _ h' => h'))))))) fun _ _ h' => h')))
  unfold runOwn
  exact wpS_onRaise (wpS_run h₂)

theorem wpS_callK {M : Model} {K : Frag} {pos : Pos} {f : Value} {first : List Value} {e : Expr} {rest : List Expr} {Q : Value → Shared → Prop} (hk : keepIn K f = true)
    (h : wpAny M A (spliced (backTo pos (starEach (e :: rest) env))) (fun vs s₁ => K.In s₁.heap ∧ wpS M A (call f (first ++ vs)) Q E s₁) E s)
    (he : starEach (e :: rest) env = (false, eval e env) :: starEach rest env := by rfl) (hplain : (backTo pos (starEach rest env)).any (·.1) = false := by rfl) :
    wpS M A (callWith pos f first (backTo pos (starEach (e :: rest) env)) []) Q E s := by
  rw [he] at h ⊢
  exact wpS_callWith (P := K.In) (by show (false || (backTo pos (starEach rest env)).any (·.1)) = false; rw [hplain]; rfl) (keeps_K hk) (evalArgs_plain h)
def ForEnd {σ : Type} (h₀ : Heap) (L : Addr) (s : Shared) (Led : σ → List (Addr × Obj)) (own : List (Addr × Obj)) (ps : σ → List (Str × Value)) (xs stored : List Str) (m₀ : Str → Option Value) (P : σ → Prop) (s₂ : Shared) : Prop :=
  ∃ (c' : σ) (h' : Heap) (tk : Nat) (m' : Str → Option Value) (news' : List (Addr × Obj)), s₂ = { s with heap := h', toks := tk } ∧ Fr h₀ L h' m' ∧ News h₀ L h' news' ∧ (∀ p ∈ Led c', p ∈ news') ∧ (∀ p ∈ own, p ∈ news') ∧
    (∀ p ∈ ps c', m' p.1 = some p.2) ∧ (∀ z, z ∉ xs → (∀ p ∈ ps c', z ≠ p.1) → stored.contains z = false → m' z = m₀ z) ∧ P c'
def ForPost {σ : Type} (h₀ : Heap) (L : Addr) (s : Shared) (Led : σ → List (Addr × Obj)) (own : List (Addr × Obj)) (ps : σ → List (Str × Value)) (xs stored : List Str) (m₀ : Str → Option Value) (P : σ → Prop) (Q : Flow → Shared → Prop) (f : Flow) (s₂ : Shared) : Prop :=
  match f with
  | .ret v => Q (.ret v) s₂
  | .brk => Q .next s₂
  | _ => ForEnd h₀ L s Led own ps xs stored m₀ P s₂
theorem for_fr {xs : List Str} {stored : List Str} {ps : List (Str × Value)} {m₀ m₁ : Str → Option Value} {z : Str} (h1 : ∀ p ∈ ps, m₁ p.1 = some p.2) (h2 : ∀ z, z ∉ xs → (∀ p ∈ ps, z ≠ p.1) → stored.contains z = false → m₁ z = m₀ z) (hz : z ∉ xs) :
    kstB (fun z => if stored.contains z then m₁ z else m₀ z) ps z = m₁ z := by
  refine kstB_eq h1 fun hn => ?_
  show (if stored.contains z = true then m₁ z else m₀ z) = m₁ z
  cases h3 : stored.contains z with
  | true => simp
  | false => simp only [Bool.false_eq_true, if_false]; exact (h2 z hz hn h3).symm

/-- a dirty loop over enumerate(list) -/
theorem forEnumS {σ : Type} {xi xv : Str} {pi pv pt : Pos} {x1} {body : List Stmt} {e it l : Addr} {items : Array Value} {nl : Nat} {m₀ : Str → Option Value} (Led : σ → List (Addr × Obj)) (ps : σ → List (Str × Value)) (stored : List Str) (P : Nat → σ → Prop) (c₀ : σ)
    (hh : A.handled = none) (hxi : env.kindOf xi = some .local) (hxv : env.kindOf xv = some .local)
    (hp : (env.scope.kind == .class || (env.scope.kind == .module && env.locals != env.globals)) = false)
    (hl : ∀ c, (l, listOf items nl) ∈ Led c)
    (hei : e ≠ it) (heo : ∀ c, ∀ p ∈ Led c, p.1 ≠ e ∧ p.1 ≠ it) (hfe : e ≠ env.locals ∧ h₀.get? e = none) (hfi : it ≠ env.locals ∧ h₀.get? it = none)
    (he : IsEnum s.heap e it 0 .none) (hit : s.heap.IsListIter it l 0)
    (F : Fr h₀ env.locals s.heap m₀) (N : News h₀ env.locals s.heap (Led c₀)) (hk : ∀ p ∈ ps c₀, m₀ p.1 = some p.2) (hp0 : P 0 c₀)
    (turn : ∀ (i : Nat) (v : Value) (tk : Tok) (c : σ) (u : Str → Option Value) h tk' own, items[i]? = some v → P i c → (∀ p ∈ own, ∀ q ∈ Led c, q.1 ≠ p.1) →
      Fr h₀ env.locals h (fun y => if y = xv then some v else if y = xi then some (.int i tk) else kstB (fun z => if stored.contains z then u z else m₀ z) (ps c) y) → News h₀ env.locals h (Led c ++ own) →
      wpS (model prog w) A (execs body env) (ForPost h₀ env.locals s Led own ps [xv, xi] stored m₀ (P (i + 1)) Q) (fun _ _ => False) { s with heap := h, toks := tk' })
    (done : ∀ (c : σ) (u : Str → Option Value) h tk, P items.size c → Fr h₀ env.locals h (fun y => if y = xv then u y else if y = xi then u y else kstB (fun z => if stored.contains z then u z else m₀ z) (ps c) y) → News h₀ env.locals h (Led c) → Q .next { s with heap := h, toks := tk }) :
    codeS (model prog w) A (.forLoop (.Tuple [.Name xi pi, .Name xv pv] x1 pt) (.ref e) body [] env) (fun r s' => match r with | .ok f => Q f s' | .error _ => False) s := by
  refine codeS_forLoop
    (fun k s' => ∃ (c : σ) (h' : Heap) (tk : Nat) (m' : Str → Option Value) (i : Nat) (old : Value), s' = { s with heap := h', toks := tk } ∧ IsEnum h' e it ((i : Nat) : Int) old ∧ h'.IsListIter it l i ∧ Fr h₀ env.locals h' m' ∧ News h₀ env.locals h' (Led c) ∧
      (∀ p ∈ ps c, m' p.1 = some p.2) ∧ (∀ z, z ∉ [xv, xi] → (∀ p ∈ ps c, z ≠ p.1) → stored.contains z = false → m' z = m₀ z) ∧ P i c ∧ i ≤ items.size ∧ k = items.size + 1 - i) ?_ (items.size + 1)
    ⟨c₀, s.heap, s.toks, m₀, 0, .none, rfl, he, hit, F, N, hk, fun _ _ _ _ => rfl, hp0, Nat.zero_le _, rfl⟩
  rintro k s' ⟨c, H, tk, m', i, old, rfl, he', hit', F', N', h1, h2, hP, hi, rfl⟩
  have hl' : H.IsList l items := ⟨_, (N' _ (hl c)).1, rfl, nl, rfl⟩
  have eqm : ∀ z, z ∉ [xv, xi] → kstB (fun z => if stored.contains z then m' z else m₀ z) (ps c) z = m' z := fun z hz => for_fr h1 h2 hz
  cases hv : items[i]? with
  | none =>
    have hsz : i = items.size := Nat.le_antisymm hi (by simpa using hv)
    refine wpAny_pyNext_enum_end hh he' hit' hl' hv fun h₁ he₁ => ?_
    have F₁ : Fr h₀ env.locals h₁ m' := ⟨F'.ns.extBut he₁ (Ne.symm hfi.1), fun b o x => he₁ b o (fun q => by rw [q, hfi.2] at x; cases x) (F'.keep b o x), F'.above⟩
    refine done c m' h₁ tk (hsz ▸ hP) ?_ fun p hp => ⟨he₁ _ _ (heo c p hp).2 (N' p hp).1, (N' p hp).2⟩
    have em : (fun y => if y = xv then m' y else if y = xi then m' y else kstB (fun z => if stored.contains z then m' z else m₀ z) (ps c) y) = m' := by
      funext y
      by_cases e1 : y = xv
      · rw [if_pos e1]
      · by_cases e2 : y = xi
        · rw [if_neg e1, if_pos e2]
        · rw [if_neg e1, if_neg e2]; exact eqm y (by simp [e1, e2])
    rw [em]; exact F₁
  | some v =>
    have hlt : i < items.size := (Array.getElem?_eq_some_iff.mp hv).1
    have heH : e < H.objs.size := Heap.lt_size he'
    have hLH : env.locals < H.objs.size := F'.ns.lt
    obtain ⟨oi, hoi, _⟩ := id hit'
    have hiH : it < H.objs.size := Heap.lt_size hoi
    refine wpAny_pyNext_enum_item he' hit' hl' hv hei fun h₁ heo₁ hit₁ ht₁ hz₁ hk₁ => ?_
    refine wpAny_letOwnedTupleGo_enum heo₁ fun h₂ he₂ hs₂ => ?_
    replace hs₂ : Heap.SameBut e h₁ h₂ := hs₂
    have ht₂ : h₂.IsTuple H.objs.size #[.int i tk, v] := ⟨_, (hs₂.2 _ (Nat.ne_of_gt heH)).trans ht₁, rfl, _, rfl⟩
    have hz₂ : h₂.objs.size = H.objs.size + 1 := hs₂.1.trans hz₁
    refine wpAny_assign_Tuple hh ht₂ rfl rfl fun h₃ hx₃ => ?_
    replace hx₃ : Heap.ExtBut h₂.objs.size h₂ h₃ := hx₃
    have old₃ : ∀ b o, b < H.objs.size → h₂.get? b = some o → h₃.get? b = some o := fun b o hb x => hx₃ b o (by rw [hz₂]; exact Nat.ne_of_lt (Nat.lt_succ_of_lt hb)) x
    have k₃ : ∀ b o, b ≠ e → b ≠ it → H.get? b = some o → h₃.get? b = some o := fun b o hb hb2 x => old₃ b o (Heap.lt_size x) (hs₂.extBut b o hb (hk₁ b o hb hb2 x))
    have hn₃ : h₃.Ns env.locals m' := F'.ns.at fun o x => k₃ _ o (Ne.symm hfe.1) (Ne.symm hfi.1) x
    show wpAny _ A (do holding [v] (assign (.Name xi pi) env (.int i tk)); do holding [] (assign (.Name xv pv) env v); pure ()) _ _ _
    refine wpAny_bind (wpAny_holding (wpAny_assign_Name (wpAny_storeName_local hxi hn₃ (fun h₄ hn₄ hs₄ => ?_) hp)))
    replace hs₄ : Heap.SameBut env.locals h₃ h₄ := hs₄
    refine wpAny_bind (wpAny_holding (wpAny_assign_Name (wpAny_storeName_local hxv hn₄ (fun h₅ hn₅ hs₅ => wpAny_pure ?_) hp)))
    replace hs₅ : Heap.SameBut env.locals h₄ h₅ := hs₅
    have k₅ : ∀ b o, b ≠ env.locals → h₃.get? b = some o → h₅.get? b = some o := fun b o hb x => hs₅.extBut b o hb (hs₄.extBut b o hb x)
    obtain ⟨oi₁, hoi₁, r1, r2⟩ := id hit₁
    have ecast : (((i + 1 : Nat)) : Int) = (i : Int) + 1 := by push_cast; rfl
    have ge₅ : IsEnum h₅ e it (((i + 1 : Nat)) : Int) v := by
      rw [ecast]
      exact k₅ e _ hfe.1 (old₃ e _ heH he₂)
    have gi₅ : h₅.get? it = some oi₁ := k₅ it _ hfi.1 (old₃ it _ hiH (hs₂.extBut it _ (Ne.symm hei) hoi₁))
    have F₅ : Fr h₀ env.locals h₅ (fun y => if y = xv then some v else if y = xi then some (.int i tk) else m' y) := by
      refine ⟨hn₅, fun b o x => ?_, F'.above⟩
      have hbe : b ≠ e := fun q => by rw [q, hfe.2] at x; cases x
      have hbi : b ≠ it := fun q => by rw [q, hfi.2] at x; cases x
      have hbL : b ≠ env.locals := Nat.ne_of_lt (Nat.lt_of_lt_of_le (Heap.lt_size x) F'.above)
      exact k₅ b o hbL (k₃ b o hbe hbi (F'.keep b o x))
    have em : (fun y => if y = xv then some v else if y = xi then some (Value.int i tk) else kstB (fun z => if stored.contains z then m' z else m₀ z) (ps c) y) = fun y => if y = xv then some v else if y = xi then some (Value.int i tk) else m' y := by
      funext y
      by_cases e1 : y = xv
      · rw [if_pos e1, if_pos e1]
      · by_cases e2 : y = xi
        · rw [if_neg e1, if_pos e2, if_neg e1, if_pos e2]
        · rw [if_neg e1, if_neg e2, if_neg e1, if_neg e2]; exact eqm y (by simp [e1, e2])
    let oe : Obj := { cls := .type "enumerate", dict := none, data := .fields #[.none, .bool false, .ref it, rawInt ((i + 1 : Nat) : Int), .none, v], slots := #[] }
    have apart : ∀ p ∈ [(e, oe), (it, oi₁)], ∀ q ∈ Led c, q.1 ≠ p.1 := by
      intro p hp q hq
      rcases List.mem_cons.mp hp with rfl | hp
      · exact (heo c q hq).1
      · rw [List.mem_singleton.mp hp]; exact (heo c q hq).2
    have N₅ : News h₀ env.locals h₅ (Led c ++ [(e, oe), (it, oi₁)]) := by
      intro p hp
      rcases List.mem_append.mp hp with hp | hp
      · exact ⟨k₅ _ _ (N' p hp).2.1 (k₃ _ _ (heo c p hp).1 (heo c p hp).2 (N' p hp).1), (N' p hp).2⟩
      · rcases List.mem_cons.mp hp with rfl | hp
        · exact ⟨ge₅, hfe⟩
        · rw [List.mem_singleton.mp hp]; exact ⟨gi₅, hfi⟩
    rw [← em] at F₅
    refine wpS_mono (turn i v tk c m' h₅ _ [(e, oe), (it, oi₁)] hv hP apart F₅ N₅) (fun f s₃ h₆ => ?_) fun _ _ x => x
    have go : ForEnd h₀ env.locals s Led [(e, oe), (it, oi₁)] ps [xv, xi] stored m₀ (P (i + 1)) s₃ → ∃ m, m < items.size + 1 - i ∧ ∃ (c : σ) (h' : Heap) (tk : Nat) (m' : Str → Option Value) (i : Nat) (old : Value), s₃ = { s with heap := h', toks := tk } ∧ IsEnum h' e it ((i : Nat) : Int) old ∧ h'.IsListIter it l i ∧ Fr h₀ env.locals h' m' ∧ News h₀ env.locals h' (Led c) ∧
      (∀ p ∈ ps c, m' p.1 = some p.2) ∧ (∀ z, z ∉ [xv, xi] → (∀ p ∈ ps c, z ≠ p.1) → stored.contains z = false → m' z = m₀ z) ∧ P i c ∧ i ≤ items.size ∧ m = items.size + 1 - i := by
      rintro ⟨c', h', tk', m₂, news', rfl, F₆, N₆, n1, n2, p1, p2, hP'⟩
      have z1 := N₆ _ (n2 _ (.head _))
      have z2 := N₆ _ (n2 _ (.tail _ (.head _)))
      exact ⟨items.size + 1 - (i + 1), by omega, c', h', tk', m₂, i + 1, v, rfl, z1.1, ⟨oi₁, z2.1, r1, r2⟩, F₆, fun p hp => N₆ p (n1 p hp), p1, p2, hP', hlt, rfl⟩
    cases f with
    | next => exact go h₆
    | cont => exact go h₆
    | brk => exact h₆
    | ret v => exact h₆
end
end Mine
end

section
open PySem PySem.W PyProof.Rows PySem.Calls
namespace Mine
def gsL (base p bias : Int) : List Int → List UInt8
  | [] => []
  | d :: r => genL d 0 bias ++ gsL base (p + 1) (adF d (decide (p = 0)) (base + p + 1)) r
theorem genL_len : ∀ (k : Nat) (N j bias : Int), N.toNat ≤ k → (genL N j bias).length ≤ N.toNat + 1 := by
  intro k
  induction k with
  | zero =>
    intro N j bias h
    have := tF_ge j bias
    rw [genL_end (by omega)]
    simp
  | succ k ih =>
    intro N j bias h
    by_cases hlt : N < tF j bias
    · rw [genL_end hlt]; simp
    · rw [genL_go hlt]
      have h2 := gen_less (tF_ge j bias) (tF_le j bias) hlt
      have := ih _ (j + 1) bias (Nat.le_of_lt_succ (Nat.lt_of_lt_of_le h2 h))
      simp only [List.length_cons]
      omega

section
local macro_rules | `(tactic| walk_at "no step a") => `(tactic| skip)
local macro_rules | `(tactic| walk_at "S enter") => `(tactic| (refine' codeS_def ?k1 ?k2 ?k3 ?k4 ?k5 ?kA ?kF ?kK ?k6 ?k7 ?k8 ?k9 ?kB ?_ ?c2 ?c3 ?c4 ?c5; (case kA => exact rfl); (case kF => exact rfl); (case kK => assumption); (case k1 => k_asm); (case k2 => k_asm); (case k3 => k_asm); (case k4 => k_asm); (case k5 => k_asm); (case k6 => k_is); (case k7 => k_is); (case k8 => ktr_room); (case k9 => exact BindsTo.of_eq rfl); (case c5 => decide); (case kB => exact locs rfl); (case c2 => exact rfl); (case c3 => exact rfl); (case c4 => exact rfl); k_whole; intro g' L' h' FG' F' N' B' X' T' lt'; (try dsimp only)))
local macro_rules | `(tactic| walk_at "use rest") => `(tactic| ((case k1 => k_asm); (case k2 => k_asm); (case k3 => k_asm); (case k4 => k_asm); (case k5 => k_asm); (case k6 => first | exact rfl | assumption); (case k7 => ktr_room); (case k8 => ktr_units)))
local macro_rules | `(tactic| walk_at "call ref") => `(tactic| (k_here; k_dflt (refine' Does.use (adapt_does _ _ _ _ _ _ ?a0 ?a1 ?a2) ?k1 ?k2 ?k3 ?k4 ?k5 ?k6 ?k7 ?k8 trivial ?_; (case a0 => omega); (case a1 => omega); (case a2 => omega); walk_at "use rest"; intro v9 h9 tk9 e9 F9 N9; (obtain ⟨t9, e9⟩ := e9); subst e9; (try dsimp only))))
set_option maxRecDepth 100000 in
set_option maxHeartbeats 8000000 in
theorem gis_does (w : World) (base : Int) (tb : Tok) (l : Addr) (vs : List Value) (ds : List Int) (nl : Nat) (hb0 : 0 ≤ base) (hb1 : base ≤ 1000) (hI : IntsAre vs ds) (hds : ∀ d ∈ ds, 0 ≤ d ∧ d ≤ 100000) (hlen : ds.length ≤ 100) :
    DoesS w 42 8 [.int base tb, .ref l] (fun news => (l, listOf vs.toArray nl) ∈ news) (fun v => ∃ t, v = .bytes (gsL base 0 72 ds).toArray t) := by
  unfold DoesS
  k_fill
  k_with_none
  w_top off
  intro p loose mean mg mb dp un cn cs a ccd cl outer A₀ base₀ h₀ L m news s Q E B F X N T hk hdp hu hmem hret
  refine wpS_call ?_
  k_dflt (walk_at "S enter")
  refine wpS_execs_cons (wpS_Assign_Name (wpS_Call_Name ?_))
  k_steps
  refine wpS_callWith (P := fun _ => True) rfl (keeps_mach (Looks.of_pure rfl) _) (evalArgs_nil3 ⟨trivial, ?_⟩)
  refine wpS_ba_K rfl (by k_asm) (by k_asm) ?_
  intro ba h1' F1' N1' lt1'
  k_steps
  refine wpS_execs_cons (wpS_of ?_)
  k_steps
  refine wpS_execs_cons (wpS_For ?_)
  k_steps
  rename Fr _ _ _ _ => Fz
  rename News _ _ _ _ => Nz
  have hlz := Nz _ (List.Mem.tail _ hmem)
  refine call_enumerate_list ⟨_, hlz.1, rfl, nl, rfl⟩ fun h2 he2 hit2 hz2 hk2 => ?_
  dsimp only at he2 hit2 hz2 hk2 ⊢
  refine wpAny_pyIter_enum he2 ?_
  have F2 : Fr _ _ h2 _ := ⟨Fz.ns.keeps hk2, fun b o e => hk2 b o (Fz.keep b o e), Fz.above⟩
  have N2 : News _ _ h2 _ := fun p hp => ⟨hk2 _ _ (Nz p hp).1, (Nz p hp).2⟩
  refine forEnumS (σ := Int × Nat × Array UInt8) (fun c => (ba, baObj c.2.2) :: news) (fun c => [(Str.ofString "bias", .int c.1 c.2.1)]) [Str.ofString "s"]
    (fun i c => c.2.2.toList ++ gsL base i c.1 (ds.drop i) = gsL base 0 72 ds ∧ c.2.2.size ≤ i * 100001) (72, _, #[]) rfl rfl rfl rfl (fun c => List.Mem.tail _ hmem)
    (Nat.succ_ne_self _) ?_ ?_ ?_ he2 hit2 F2 N2 (by kst_all) ⟨by simp, by simp⟩ ?_ ?_
  · intro c p hp
    rcases List.mem_cons.mp hp with rfl | hp
    · have := Heap.lt_size (Nz _ (.head _)).1
      exact ⟨Nat.ne_of_lt (Nat.lt_succ_of_lt this), Nat.ne_of_lt this⟩
    · have := Heap.lt_size (Nz _ (.tail _ hp)).1
      exact ⟨Nat.ne_of_lt (Nat.lt_succ_of_lt this), Nat.ne_of_lt this⟩
  · exact ⟨Nat.ne_of_gt (Nat.lt_succ_of_lt Fz.ns.lt), Heap.get?_none_of_le (Nat.le_trans Fz.above (Nat.le_succ_of_le (Nat.le_of_lt Fz.ns.lt)))⟩
  · exact ⟨Nat.ne_of_gt Fz.ns.lt, Heap.get?_none_of_le (Nat.le_trans Fz.above (Nat.le_of_lt Fz.ns.lt))⟩
  · intro i v tk c u h tk' own hv hP hoff F3 N3
    obtain ⟨bi, tbi, b⟩ := c
    obtain ⟨he, hz⟩ := hP
    dsimp only [kstB] at F3 N3 he hz hoff
    rw [List.cons_append] at N3
    have hi : i < ds.length := by
      have := (Array.getElem?_eq_some_iff.mp hv).1
      rw [List.size_toArray, hI.length] at this
      exact this
    obtain ⟨tv, hx⟩ := hI.get i ds[i] (by simp [hi])
    have hvv : v = .int ds[i] tv := by
      have h7 : vs[i]? = some v := by simpa using hv
      rw [hx] at h7; exact (Option.some.inj h7).symm
    subst hvv
    have hdd := hds ds[i] (List.getElem_mem hi)
    have hdrop : ds.drop i = ds[i] :: ds.drop (i + 1) := List.drop_eq_getElem_cons hi
    generalize ds[i] = d at *
    clear F2 N2 he2 hit2 hk2 hx hv
    refine wpS_execs_cons (wpS_Assign_Name (wpS_Call_Name ?_))
    k_steps
    refine wpS_callK (K := hd.heap_39 w.params) (by k_is) ?_
    k_steps
    k_dflt (refine' DoesS.use (ggi_does w d bi _ _ hdd.1 (Int.le_trans hdd.2 (by decide))) ?k1 ?k2 ?k3 ?k4 ?k5 ?k6 ?k7 ?k8 trivial ?_)
    walk_at "use rest"
    intro v9 h9 tk9 e9 F9 N9
    obtain ⟨t9, rfl⟩ := e9
    dsimp only
    k_steps
    dsimp only
    have hlg := genL_len _ d 0 bi (Nat.le_refl _)
    refine wpS_execs_cons (wpS_Expr (wpS_Call_method (T := "bytearray") (id := "bytearray.extend") rfl rfl rfl Fact.pa_ba Fact.slot_extend Fact.ty_extend (wpS_of ?_)))
    k_steps
    refine ⟨(ba_on (by k_asm)).1, (ba_on (by k_asm)).2, ?_⟩
    refine wpS_mach1 (Looks.of_pure rfl) ?_
    k_steps
    refine wpS_extend_K rfl (by k_asm) (by k_asm) ?_ ?_ ?_
    · intro p hp
      rcases List.mem_append.mp hp with hp | hp
      · exact Nat.ne_of_lt (lt1' p hp)
      · exact fun q => hoff p hp _ (.head _) q.symm
    · have e5 : (genL d 0 bi).toArray.size = (genL d 0 bi).length := List.size_toArray
      have e6 : i * 100001 ≤ 99 * 100001 := Nat.mul_le_mul_right _ (by omega)
      rw [sizeLine_eq, e5]
      omega
    intro h8 F8 N8
    dsimp only
    refine wpS_execs_cons (wpS_of ?_)
    k_steps
    dsimp only
    refine wpS_execs_nil ?_
    show ForEnd _ _ _ _ _ _ _ _ _ _ _
    rename Fr _ _ _ _ => Fe
    rename News _ _ _ _ => Ne
    refine ⟨(adF d (decide ((i : Int) = 0)) (base + i + 1), _, b ++ (genL d 0 bi).toArray), _, _, _, _, rfl, Fe, Ne, ?_, ?_, by kst_all, ?_, ?_, ?_⟩
    · intro p hp
      rcases List.mem_cons.mp hp with rfl | hp
      · exact .head _
      · exact .tail _ (List.mem_append_left _ hp)
    · exact fun p hp => .tail _ (List.mem_append_right _ hp)
    · intro z z1 z2 z3
      simp only [List.mem_cons, List.not_mem_nil, or_false, not_or] at z1
      simp only [List.forall_mem_cons, List.not_mem_nil, false_implies, implies_true, and_true, ne_eq] at z2
      simp only [List.contains_cons, List.contains_nil, Bool.or_false, beq_eq_false_iff_ne, ne_eq] at z3
      simp [z1, z2, z3]
    · rw [hdrop] at he
      have ecast : ((i + 1 : Nat) : Int) = (i : Int) + 1 := by push_cast; rfl
      show (b ++ (genL d 0 bi).toArray).toList ++ gsL base ((i + 1 : Nat) : Int) _ _ = _
      rw [ecast, ← he, gsL]
      simp
    · show (b ++ (genL d 0 bi).toArray).size ≤ _
      have e5 : (genL d 0 bi).toArray.size = (genL d 0 bi).length := List.size_toArray
      rw [Array.size_append, e5]
      omega
  · intro c u h tk hP F3 N3
    obtain ⟨bi, tbi, b⟩ := c
    obtain ⟨he, hz⟩ := hP
    dsimp only [kstB] at F3 N3 he hz
    have hsz : vs.toArray.size = ds.length := by rw [List.size_toArray, hI.length]
    rw [hsz] at he hz
    dsimp only
    refine wpS_execs_cons (wpS_of ?_)
    k_steps
    refine ba_bytes_K (by k_asm) ?_ ?_
    · have e6 : ds.length * 100001 ≤ 100 * 100001 := Nat.mul_le_mul_right _ hlen
      rw [sizeLine_eq]; omega
    intro t7 k7
    refine ⟨_, _, _, F3, fun p hp => N3 p (.tail _ hp), fun kF kN => hret _ _ _ ⟨t7, ?_⟩ kF kN⟩
    rw [List.drop_length, gsL, List.append_nil] at he
    rw [← he]
end
end Mine
end

section
open PySem PySem.W PyProof.Rows PySem.Calls
namespace Mine
abbrev up (l : List UInt8) : List UInt8 := l.map PySem.Builtin.Bytes.toUpper
theorem up_dig : ∀ i : Fin 36, (((PySem.Builtin.Bytes.toUpper (dig (i.val : Int))).toNat : Int)) = if (i.val : Int) < 26 then 65 + (i.val : Int) else 22 + (i.val : Int) := by decide
theorem up_dig' {d : Int} (h0 : 0 ≤ d) (h1 : d < 36) : (((PySem.Builtin.Bytes.toUpper (dig d)).toNat : Int)) = if d < 26 then 65 + d else 22 + d := by
  have h := up_dig ⟨d.toNat, by omega⟩
  have e : ((⟨d.toNat, by omega⟩ : Fin 36).val : Int) = d := by simp; omega
  rw [e] at h
  exact h
def Hold (p : Prop) : Prop := p
theorem hold_cons {M : Model} {A : Around} {E : Value → Shared → Prop} {s : Shared} {env : Env} {st rest} {Q : Flow → Shared → Prop}
    (h : wpAny M A (exec st env) (fun f s' => match f with | .next => Hold (wpAny M A (execs rest env) Q E s') | f => Q f s') E s) :
    wpAny M A (execs (st :: rest) env) Q E s := wpAny_execs_cons h
/-- The first digit of what is left, and what is left behind it. -/
theorem genL_cases (N j b : Int) (h0 : 0 ≤ N) : ∃ d r, genL N j b = dig d :: r ∧ 0 ≤ d ∧ d < 36 ∧ ((d < tF j b ∧ r = [] ∧ N = d) ∨ (¬ d < tF j b ∧ ∃ N', 0 ≤ N' ∧ N'.toNat < N.toNat ∧ r = genL N' (j + 1) b ∧ N = d + (36 - tF j b) * N')) := by
  have t0 := tF_ge j b
  have t1 := tF_le j b
  by_cases h : N < tF j b
  · exact ⟨N, [], genL_end h, h0, by omega, .inl ⟨h, rfl, rfl⟩⟩
  · have hin := fmod_in t0 t1 h
    have hm := Int.fmod_nonneg_of_pos (N - tF j b) (b := 36 - tF j b) (by omega)
    refine ⟨_, _, genL_go h, hin.1, hin.2, .inr ⟨by omega, _, Int.fdiv_nonneg (by omega) (by omega), gen_less t0 t1 h, rfl, ?_⟩⟩
    have := Int.mul_fdiv_add_fmod (N - tF j b) (36 - tF j b)
    omega
theorem drop_item {b : Array UInt8} {i : Nat} {x : UInt8} {r : List UInt8} (h : b.toList.drop i = x :: r) : i < b.size ∧ b.getD i 0 = x ∧ b.toList.drop (i + 1) = r := by
  have hi : i < b.toList.length := by
    rcases Nat.lt_or_ge i b.toList.length with h' | h'
    · exact h'
    · rw [List.drop_of_length_le h'] at h; exact absurd h (by simp)
  rw [List.drop_eq_getElem_cons hi] at h
  obtain ⟨h1, h2⟩ := List.cons.inj h
  have hi' : i < b.size := by simpa using hi
  refine ⟨hi', ?_, h2⟩
  rw [Array.getD, dif_pos hi']
  simpa using h1
section
variable {prog : Program} {w : World} {A : Around} {E : Value → Shared → Prop} {Q : Flow → Shared → Prop} {s : Shared} {env : Env} {h₀ : Heap} {L : Addr}
theorem ksw_whileH {σ : Type} {test : Expr} {body : List Stmt} {pos : Pos} {m₀ : Str → Option Value} (Led : σ → List (Addr × Obj)) (ps : σ → List (Str × Value)) (stored : List Str) (P : σ → Prop) (μ : σ → Nat) (c₀ : σ)
    (F : Fr h₀ L s.heap m₀) (N : News h₀ L s.heap (Led c₀)) (hk : ∀ p ∈ ps c₀, m₀ p.1 = some p.2) (hp : P c₀)
    (turn : ∀ (c : σ) (u : Str → Option Value) h tk, P c → Fr h₀ L h (kstB (fun z => if stored.contains z then u z else m₀ z) (ps c)) → News h₀ L h (Led c) →
      wpAny (model prog w) A (isTrue test env (eval test env)) (fun b s₂ =>
        if b = true then wpAny (model prog w) A (execs body env) (fun f s₃ => Hold (KswPost h₀ L s Led ps (fun _ => True) stored m₀ P μ Q c f s₃)) E s₂ else Hold (Q .next s₂)) E { s with heap := h, toks := tk })
    (hE : PassesOwn (model prog w) A env E := by passes_own) :
    wpAny (model prog w) A (exec (.While test body [] pos) env) Q E s :=
  ksw_while Led ps (fun _ => True) stored P μ c₀ F N trivial hk hp (fun c u h tk _ => turn c u h tk) hE
end
theorem dgn_sum {n res M ww d t N' x : Int} (hn : n = res + M * ww) (hM : M = d + (36 - t) * N') (hx : x = d) : n = res + x * ww + N' * (ww * (36 - t)) := by
  subst hx
  rw [hn, hM, Int.add_mul, Int.mul_comm (36 - t) N', Int.mul_assoc, Int.mul_comm (36 - t) ww]
  omega
abbrev DoesT (w : World) (f : Addr) (k : Nat) (vs : List Value) (x y : Int) : Prop :=
  ∀ (p : Program) (loose : List Str) (mean : ExcName → Option Value) (mg mb : Str → Option Value) (dp un : Nat) (gd : Option (List Code)) (cn : Str) (cs : Scope) (a : Addr) (ccd : Value) (cl : List (Str × Addr)) (outer : List Env) (A₀ : Around) (base h₀ : Heap) (L : Addr) (m : Str → Option Value) (news : List (Addr × Obj)) (s : Shared) (Q E : Value → Shared → Prop),
    Below A₀ base outer h₀ → Fr h₀ L s.heap m → (hd.heap_39 w.params).In h₀ → News h₀ L s.heap news → Top p loose mean mg mb h₀ → cs.kind = .function → dp + k < recursionLimit → un + 8 * k < cLine →
    (∀ (D : Addr) (h' : Heap) (tk' : Nat) (t1 t2 : Tok), Fr h₀ L h' m → News h₀ L h' ((D, { cls := .type "tuple", data := .seq #[.int x t1, .int y t2] }) :: news) → (∀ q ∈ news, q.1 < D) → Q (.ref D) { s with heap := h', toks := tk' }) →
    wpAny (model PySem.Challenge.rw_io0059_01.row.prog w) (ktrTop dp un gd cn cs L a ccd cl outer) (call (.ref f) vs) Q E s
theorem back_tup {h₀ h' : Heap} {L : Addr} {m : Str → Option Value} {news : List (Addr × Obj)} {s : Shared} {Q : Value → Shared → Prop} {x y x' y' : Int} {t1 t2 : Tok} {tk' : Nat} {D : Addr}
    (hret : ∀ (D : Addr) (h' : Heap) (tk' : Nat) (t1 t2 : Tok), Fr h₀ L h' m → News h₀ L h' ((D, { cls := .type "tuple", data := .seq #[.int x t1, .int y t2] }) :: news) → (∀ q ∈ news, q.1 < D) → Q (.ref D) { s with heap := h', toks := tk' })
    (e1 : x' = x) (e2 : y' = y) (F : Fr h₀ L h' m) (N : News h₀ L h' ((D, { cls := .type "tuple", data := .seq #[.int x' t1, .int y' t2] }) :: news)) (l : ∀ q ∈ news, q.1 < D) : Q (.ref D) { s with heap := h', toks := tk' } := by
  subst e1 e2
  exact hret _ _ _ _ _ F N l
section
local macro_rules | `(tactic| walk_at "no step a") => `(tactic| skip)
local macro_rules | `(tactic| walk_at "no step b") => `(tactic| skip)
local macro_rules | `(tactic| walk_at "no step c") => `(tactic| skip)
local macro_rules | `(tactic| walk_at "use rest") => `(tactic| ((case k1 => k_asm); (case k2 => k_asm); (case k3 => k_asm); (case k4 => k_asm); (case k5 => k_asm); (case k6 => first | exact rfl | assumption); (case k7 => ktr_room); (case k8 => ktr_units)))
local macro_rules | `(tactic| walk_at "call ref") => `(tactic| (k_here; k_dflt (refine' Does.use (T_does _ _ _ _ _) ?k1 ?k2 ?k3 ?k4 ?k5 ?k6 ?k7 ?k8 trivial ?_; walk_at "use rest"; intro v9 h9 tk9 e9 F9 N9; (obtain ⟨t9, e9⟩ := e9); subst e9; (try dsimp only))))
set_option maxRecDepth 100000 in
set_option maxHeartbeats 8000000 in
theorem dgn_does (w : World) (b : Array UInt8) (pos n bias : Int) (rest : List UInt8) (t0 t1 t2 t3 : Tok) (h0 : 0 ≤ n) (hpos : 0 ≤ pos) (hfit : b.size ≤ 1099511627776) (hb : b.toList.drop pos.toNat = up (genL n 0 bias) ++ rest) :
    DoesT w 49 4 [.bytes b t0, .int pos t1, .int bias t2, .str (Str.ofString "strict") t3] (pos + (genL n 0 bias).length) n := by
  unfold DoesT
  k_fill
  k_with_none
  w_top off
  intro p loose mean mg mb dp un gd cn cs a ccd cl outer A₀ base h₀ L m news s Q E B F X N T hk hdp hu hret
  refine wpAny_call ?_
  k_dflt cell_enter
  refine hold_cons ?_
  k_steps
  refine hold_cons ?_
  k_steps
  refine hold_cons ?_
  k_steps
  refine hold_cons ?_
  rename Fr _ _ _ _ => Fz
  rename News _ _ _ _ => Nz
  refine ksw_whileH (σ := Int × Int × Int × Int × Nat × Nat × Nat × Nat) (fun _ => news) (fun c => [(Str.ofString "result", .int c.1 c.2.2.2.2.1), (Str.ofString "w", .int c.2.1 c.2.2.2.2.2.1), (Str.ofString "j", .int c.2.2.1 c.2.2.2.2.2.2.1), (Str.ofString "extpos", .int c.2.2.2.1 c.2.2.2.2.2.2.2)]) [Str.ofString "char", Str.ofString "digit", Str.ofString "t"]
    (fun c => 0 ≤ c.2.2.2.1 ∧ ∃ M, 0 ≤ M ∧ n = c.1 + M * c.2.1 ∧ b.toList.drop c.2.2.2.1.toNat = up (genL M c.2.2.1 bias) ++ rest ∧ c.2.2.2.1 + (genL M c.2.2.1 bias).length = pos + (genL n 0 bias).length) (fun c => b.size - c.2.2.2.1.toNat) (0, 1, 0, pos, _, _, _, _) Fz Nz (by kst_all) ⟨hpos, n, h0, by simp, hb, rfl⟩ ?_
  clear Fz Nz
  rintro ⟨res, ww, j, ep, s1, s2, s3, s4⟩ u hh tk ⟨hep, M, hM, hn, he, hl⟩ F2 N2
  dsimp only [kstB] at F2 N2 hep hn he hl
  obtain ⟨d, r, hgl, hd0, hd1, hcase⟩ := genL_cases M j bias hM
  rw [hgl] at he hl
  obtain ⟨hi, hx, hr⟩ := drop_item (r := up r ++ rest) he
  clear he
  have ht0 := tF_ge j bias
  have ht1 := tF_le j bias
  k_steps
  refine bytes_item hfit hep (by omega) ?_
  intro t8 k8
  rw [hx, up_dig' hd0 hd1]
  clear hx
  have hcase' : d < tF j bias ∨ ¬ d < tF j bias := by omega
  by_cases h26 : d < 26 <;> simp only [h26, if_true, if_false] <;> rcases hcase' with ht | ht
  case neg.inl => exfalso; omega
  all_goals k_steps
  · dsimp only [Hold, KswPost]
    k_steps
    rcases hcase with ⟨_, h6, h7⟩ | ⟨h5, _⟩
    · rw [h6] at hl
      rw [h7] at hn
      refine back_tup hret (by simpa using hl) ?_ (by k_asm) (by k_asm) (by k_asm)
      rw [hn, show (65 + d - 65) = d by omega]
    · exact absurd ht h5
  · dsimp only [Hold, KswPost]
    rcases hcase with ⟨h5, _⟩ | ⟨_, N', hN0, hNl, h6, h7⟩
    · exact absurd h5 ht
    · subst h6
      refine ksw_end ⟨res + (65 + d - 65) * ww, ww * (36 - tF j bias), j + 1, ep + 1, _, _, _, _⟩ (by k_asm) (by k_asm) (fun p hp => hp) trivial (by kst_all) (by ksw_same) ?_ ?_
      · dsimp only
        refine ⟨by omega, N', hN0, dgn_sum hn h7 (by omega), ?_, ?_⟩
        · rw [show (ep + 1).toNat = ep.toNat + 1 by omega]; exact hr
        · rw [← hl, List.length_cons]; push_cast; omega
      · dsimp only; omega
  · dsimp only [Hold, KswPost]
    rcases hcase with ⟨h5, _⟩ | ⟨_, N', hN0, hNl, h6, h7⟩
    · exact absurd h5 ht
    · subst h6
      refine ksw_end ⟨res + (22 + d - 22) * ww, ww * (36 - tF j bias), j + 1, ep + 1, _, _, _, _⟩ (by k_asm) (by k_asm) (fun p hp => hp) trivial (by kst_all) (by ksw_same) ?_ ?_
      · dsimp only
        refine ⟨by omega, N', hN0, dgn_sum hn h7 (by omega), ?_, ?_⟩
        · rw [show (ep + 1).toNat = ep.toNat + 1 by omega]; exact hr
        · rw [← hl, List.length_cons]; push_cast; omega
      · dsimp only; omega
end
end Mine
end

section
open PySem PySem.W PyProof.Rows PySem.Calls PySem.Builtin.Str PySem.StrLaws
namespace Mine
theorem ssi_none_lo (u : Option Int) (n : Nat) : strSliceIndices none u 1 n = strSliceIndices (some ((0 : Nat) : Int)) u 1 n := by
  have e : max (0 : Int) (min 0 (n : Int)) = 0 := by omega
  unfold strSliceIndices
  simp [e]
theorem ssi_none_hi (l : Option Int) (n : Nat) : strSliceIndices l none 1 n = strSliceIndices l (some (n : Int)) 1 n := by
  have h : ¬ ((n : Int) < 0) := by omega
  unfold strSliceIndices sliceRange
  simp [h]
theorem slice_mid (x : Str) {a b : Nat} (hab : a ≤ b) (hb : b ≤ x.length) : Txt.slice x (some (a : Int)) (some (b : Int)) = ⟨((x.cps.toList.drop a).take (b - a)).toArray⟩ := by
  unfold Txt.slice
  split
  · rename_i h
    rw [strSliceIndices_plain hab hb] at h
    simp only [beq_self_eq_true, Bool.true_and, List.length_map, List.length_range, beq_iff_eq] at h
    have : a = 0 := by omega
    subst this
    have e : (x.cps.toList.drop 0).take (b - 0) = x.cps.toList := by
      rw [List.drop_zero, List.take_of_length_le]
      have : x.cps.toList.length = x.length := by simp [Str.length]
      omega
    rw [e]
  · rw [sliced_plain x hab hb]
theorem slice_take (x : Str) {p : Int} (h0 : 0 ≤ p) (h : p ≤ x.length) : Txt.slice x none (some p) = ⟨(x.cps.toList.take p.toNat).toArray⟩ := by
  have e : p = (p.toNat : Int) := by omega
  have := slice_mid x (a := 0) (b := p.toNat) (Nat.zero_le _) (by omega)
  rw [← e] at this
  simp only [List.drop_zero, Nat.sub_zero] at this
  rw [← this]
  unfold Txt.slice
  rw [ssi_none_lo]
theorem slice_drop (x : Str) {p : Int} (h0 : 0 ≤ p) (h : p ≤ x.length) : Txt.slice x (some p) none = ⟨(x.cps.toList.drop p.toNat).toArray⟩ := by
  have e : p = (p.toNat : Int) := by omega
  have := slice_mid x (a := p.toNat) (b := x.length) (by omega) (Nat.le_refl _)
  rw [← e] at this
  have l : x.cps.toList.length = x.length := by simp [Str.length]
  rw [List.take_of_length_le (by rw [List.length_drop]; omega)] at this
  rw [← this]
  unfold Txt.slice
  rw [ssi_none_hi]
end Mine
end

section
open PySem PySem.W PyProof.Rows PySem.Calls
namespace Mine
def insC (x : Str) (char pos d : Int) : Int := char + (pos + (d + 1)).fdiv ((x.length : Int) + 1)
def insP (x : Str) (pos d : Int) : Int := (pos + (d + 1)).fmod ((x.length : Int) + 1)
def insX (x : Str) (c p : Int) : Str := ⟨(x.cps.toList.take p.toNat ++ c.toNat :: x.cps.toList.drop p.toNat).toArray⟩
def insF (x : Str) (char pos : Int) : List Int → Str
  | [] => x
  | d :: r => insF (insX x (insC x char pos d) (insP x pos d)) (insC x char pos d) (insP x pos d) r
def insOK (x : Str) (char pos : Int) : List Int → Prop
  | [] => True
  | d :: r => 0 ≤ d ∧ d ≤ 100000 ∧ insC x char pos d ≤ 1114111 ∧ insOK (insX x (insC x char pos d) (insP x pos d)) (insC x char pos d) (insP x pos d) r
theorem DoesT.use {w : World} {f : Addr} {k : Nat} {vs : List Value} {x y : Int} (D : DoesT w f k vs x y)
    {p : Program} {loose : List Str} {mean : ExcName → Option Value} {mg mb : Str → Option Value} {dp un : Nat} {gd : Option (List Code)} {cn : Str} {cs : Scope} {a : Addr} {ccd : Value} {cl : List (Str × Addr)} {outer : List Env} {A₀ : Around} {base h₀ : Heap} {L : Addr} {m : Str → Option Value} {news : List (Addr × Obj)} {s : Shared} {Q E : Value → Shared → Prop}
    (B : Below A₀ base outer h₀) (F : Fr h₀ L s.heap m) (X : (hd.heap_39 w.params).In h₀) (N : News h₀ L s.heap news) (T : Top p loose mean mg mb h₀) (hk : cs.kind = .function) (hdp : dp + k < recursionLimit) (hu : un + 8 * k < cLine)
    (ret : ∀ (D : Addr) (h' : Heap) (tk' : Nat) (t1 t2 : Tok), Fr h₀ L h' m → News h₀ L h' ((D, { cls := .type "tuple", data := .seq #[.int x t1, .int y t2] }) :: news) → (∀ q ∈ news, q.1 < D) → Q (.ref D) { s with heap := h', toks := tk' }) :
    wpAny (model PySem.Challenge.rw_io0059_01.row.prog w) (ktrTop dp un gd cn cs L a ccd cl outer) (call (.ref f) vs) Q E s := D _ _ _ _ _ _ _ _ _ _ _ _ _ _ _ _ _ _ _ _ _ _ _ B F X N T hk hdp hu ret
theorem insX_len (x : Str) (c p : Int) (h0 : 0 ≤ p) (h1 : p ≤ x.length) : (insX x c p).length = x.length + 1 := by
  have l : x.cps.toList.length = x.length := by simp [Str.length]
  unfold insX
  show (List.toArray _).size = _
  rw [List.size_toArray, List.length_append, List.length_take, List.length_cons, List.length_drop]
  omega
theorem insX_mk (x : Str) (c p : Int) (h0 : 0 ≤ p) (h1 : p ≤ x.length) : (Txt.slice x none (some p) ++ ⟨#[c.toNat]⟩) ++ Txt.slice x (some p) none = insX x c p := by
  rw [slice_take x h0 h1, slice_drop x h0 h1]
  show Str.mk ((_ ++ _) ++ _) = Str.mk _
  simp
theorem up_gen_ne (N j b : Int) : 0 < (genL N j b).length := by
  by_cases h : N < tF j b
  · rw [genL_end h]; simp
  · rw [genL_go h]; simp
theorem slice_lens (y : Str) {p : Int} (h0 : 0 ≤ p) (h1 : p ≤ y.length) : (Txt.slice y none (some p)).length + 1 + (Txt.slice y (some p) none).length = y.length + 1 := by
  have l : y.cps.toList.length = y.length := by simp [Str.length]
  rw [slice_take y h0 h1, slice_drop y h0 h1]
  show (List.toArray _).size + 1 + (List.toArray _).size = _
  rw [List.size_toArray, List.size_toArray, List.length_take, List.length_drop]
  omega
theorem ins_next {x y : Str} {b : Array UInt8} {ep d bi : Int} {r : List Int} {lu : Nat}
    (hdr : b.toList.drop ep.toNat = (genL d 0 bi).map PySem.Builtin.Bytes.toUpper ++ (gsL x.length ((y.length : Int) - x.length + 1) (adF d (decide ((y.length : Int) - x.length = 0)) (x.length + ((y.length : Int) - x.length) + 1)) r).map PySem.Builtin.Bytes.toUpper)
    (he0 : 0 ≤ ep) (he1 : ep ≤ b.size) (hz3 : ep = 0 ↔ y.length = x.length) (hlu : lu = y.length + 1) :
    ep + (genL d 0 bi).length ≤ b.size ∧ b.toList.drop (ep + (genL d 0 bi).length).toNat = up (gsL x.length ((lu : Int) - x.length) (adF d (ep == 0) lu) r) := by
  have hlen := congrArg List.length hdr
  simp at hlen
  refine ⟨by omega, ?_⟩
  have e1 : (ep + (genL d 0 bi).length).toNat = ep.toNat + (genL d 0 bi).length := by omega
  have e2 : (decide ((y.length : Int) - x.length = 0)) = (ep == 0) := by
    by_cases h : ep = 0
    · have := hz3.mp h
      simp [h, this]
    · have : ¬ y.length = x.length := fun q => h (hz3.mpr q)
      have h2 : ¬ ((y.length : Int) - x.length = 0) := by omega
      simp [h, h2]
  have e3 : (x.length + ((y.length : Int) - x.length) + 1) = (lu : Int) := by omega
  have e4 : ((y.length : Int) - x.length + 1) = (lu : Int) - x.length := by omega
  rw [e1, ← List.drop_drop, hdr, List.drop_append, List.drop_of_length_le (by simp), e2, e3, e4]
  simp
section
local macro_rules | `(tactic| walk_at "no step a") => `(tactic| skip)
local macro_rules | `(tactic| walk_at "no step b") => `(tactic| skip)
local macro_rules | `(tactic| walk_at "no step c") => `(tactic| skip)
local macro_rules | `(tactic| walk_at "use rest") => `(tactic| ((case k1 => k_asm); (case k2 => k_asm); (case k3 => k_asm); (case k4 => k_asm); (case k5 => k_asm); (case k6 => first | exact rfl | assumption); (case k7 => ktr_room); (case k8 => ktr_units)))
local macro_rules | `(tactic| walk_at "call ref") => `(tactic| (k_here; k_dflt (refine' Does.use (adapt_does _ _ _ _ _ _ ?a0 ?a1 ?a2) ?k1 ?k2 ?k3 ?k4 ?k5 ?k6 ?k7 ?k8 trivial ?_; (case a0 => omega); (case a1 => omega); (case a2 => omega); walk_at "use rest"; intro v9 h9 tk9 e9 F9 N9; (obtain ⟨t9, e9⟩ := e9); subst e9; (try dsimp only))))
local macro_rules | `(tactic| walk_at "call ref") => `(tactic| (k_here; k_dflt (refine' DoesT.use (dgn_does _ _ _ _ _ _ _ _ _ _ ?a0 ?a1 ?a2 ?a3) ?k1 ?k2 ?k3 ?k4 ?k5 ?k6 ?k7 ?k8 ?_; (case a3 => assumption); (case a0 => omega); (case a1 => omega); (case a2 => assumption); walk_at "use rest"; intro D9 h9 tk9 t8 t9 F9 N9 l9; (try dsimp only))))
set_option maxRecDepth 100000 in
set_option maxHeartbeats 8000000 in
theorem ins_does (w : World) (x : Str) (b : Array UInt8) (ds : List Int) (t0 t1 t2 : Tok) (hx : x.length ≤ 1000) (hds : ds.length ≤ 100) (hfit : b.size ≤ 1099511627776) (hb : b.toList = up (gsL x.length 0 72 ds)) (hok : insOK x 128 (-1) ds) :
    Does w 56 6 [.str x t0, .bytes b t1, .str (Str.ofString "strict") t2] (fun _ => True) (fun v => ∃ t, v = .str (insF x 128 (-1) ds) t) := by
  unfold Does
  k_fill
  k_with_none
  w_top off
  intro p loose mean mg mb dp un gd cn cs a ccd cl outer A₀ base h₀ L m news s Q E B F X N T hk hdp hu _ hret
  refine wpAny_call ?_
  k_dflt cell_enter
  refine hold_cons ?_
  k_steps
  refine hold_cons ?_
  k_steps
  refine hold_cons ?_
  k_steps
  refine hold_cons ?_
  k_steps
  refine hold_cons ?_
  rename Fr _ _ _ _ => Fz
  rename News _ _ _ _ => Nz
  refine ksw_whileH (σ := Int × Int × Int × Int × Str × List Int × (Nat × Nat × Nat × Nat × Nat)) (fun _ => news)
    (fun c => [(Str.ofString "char", .int c.1 c.2.2.2.2.2.2.1), (Str.ofString "pos", .int c.2.1 c.2.2.2.2.2.2.2.1), (Str.ofString "bias", .int c.2.2.1 c.2.2.2.2.2.2.2.2.1), (Str.ofString "extpos", .int c.2.2.2.1 c.2.2.2.2.2.2.2.2.2.1), (Str.ofString "base", .str c.2.2.2.2.1 c.2.2.2.2.2.2.2.2.2.2)])
    [Str.ofString "newpos", Str.ofString "delta"]
    (fun c => insF c.2.2.2.2.1 c.1 c.2.1 c.2.2.2.2.2.1 = insF x 128 (-1) ds ∧ insOK c.2.2.2.2.1 c.1 c.2.1 c.2.2.2.2.2.1 ∧ 0 ≤ c.1 ∧ -1 ≤ c.2.1 ∧ 0 ≤ c.2.2.2.1 ∧ c.2.2.2.1 ≤ b.size ∧ c.2.2.2.2.2.1.length + c.2.2.2.2.1.length = ds.length + x.length ∧ x.length ≤ c.2.2.2.2.1.length ∧ (c.2.2.2.1 = 0 ↔ c.2.2.2.2.1.length = x.length) ∧
      b.toList.drop c.2.2.2.1.toNat = up (gsL x.length ((c.2.2.2.2.1.length : Int) - x.length) c.2.2.1 c.2.2.2.2.2.1))
    (fun c => c.2.2.2.2.2.1.length) (128, -1, 72, 0, x, ds, (_, _, _, _, _)) Fz Nz (by kst_all) ⟨rfl, hok, show (0 : Int) ≤ 128 by decide, show (-1 : Int) ≤ -1 by decide, show (0 : Int) ≤ 0 by decide, show (0 : Int) ≤ b.size by omega, rfl, Nat.le_refl _, by simp, by simpa using hb⟩ ?_
  clear Fz Nz
  rintro ⟨char, pos, bi, ep, y, es, s1, s2, s3, s4, s5⟩ u hh tk ⟨hF, hO, hc0, hp0, he0, he1, hz, hz2, hz3, hdr⟩ F2 N2
  dsimp only [kstB] at F2 N2 hF hO hc0 hp0 he0 he1 hz hz2 hz3 hdr
  cases es with
  | nil =>
    have hend : (ep : Int) = b.size := by
      have h9 := congrArg List.length hdr
      simp [gsL, up] at h9
      omega
    clear hdr
    k_steps
    dsimp only [Hold]
    k_steps
    exact hret _ _ _ ⟨_, by rw [← hF, insF]⟩ (by k_asm) (by k_asm)
  | cons d r =>
    rw [gsL] at hdr
    rw [up, List.map_append] at hdr
    have hep : (ep : Int) < b.size := by
      have h9 := congrArg List.length hdr
      have := up_gen_ne d 0 bi
      simp at h9
      omega
    obtain ⟨hd0, hd1, hd2, hO⟩ := hO
    have hn0 : (0 : Int) ≤ y.length := by omega
    have hc1 : 0 ≤ char + (pos + (d + 1)).fdiv ((y.length : Int) + 1) := Int.add_nonneg hc0 (Int.fdiv_nonneg (by omega) (by omega))
    have hc2 : char + (pos + (d + 1)).fdiv ((y.length : Int) + 1) ≤ 1114111 := hd2
    have hp1 : 0 ≤ (pos + (d + 1)).fmod ((y.length : Int) + 1) := Int.fmod_nonneg_of_pos _ (by omega)
    have hp2 : (pos + (d + 1)).fmod ((y.length : Int) + 1) < (y.length : Int) + 1 := Int.fmod_lt_of_pos _ (by omega)
    k_steps
    dsimp only [Hold, KswPost]
    have hmk := insX_mk y (char + (pos + (d + 1)).fdiv ((y.length : Int) + 1)) _ hp1 (by omega)
    have hle := slice_lens y hp1 (by omega)
    have hnx := ins_next hdr he0 he1 hz3 hle
    have hlx := insX_len y (char + (pos + (d + 1)).fdiv ((y.length : Int) + 1)) _ hp1 (by omega)
    refine ksw_end ⟨char + (pos + (d + 1)).fdiv ((y.length : Int) + 1), (pos + (d + 1)).fmod ((y.length : Int) + 1), adF d (ep == 0) ((((Txt.slice y none (some ((pos + (d + 1)).fmod (↑y.length + 1)))).length + 1 + (Txt.slice y (some ((pos + (d + 1)).fmod (↑y.length + 1))) none).length : Nat)) : Int), ep + (genL d 0 bi).length, Txt.slice y none (some ((pos + (d + 1)).fmod (↑y.length + 1))) ++ ⟨#[(char + (pos + (d + 1)).fdiv (↑y.length + 1)).toNat]⟩ ++ Txt.slice y (some ((pos + (d + 1)).fmod (↑y.length + 1))) none, r, _, _, _, _, _⟩ (by k_asm) (by k_asm) (fun p hp => .tail _ hp) trivial (by kst_all) (by ksw_same) ?_ (Nat.lt_succ_self _)
    dsimp only
    rw [hmk]
    rw [List.length_cons] at hz
    refine ⟨hF, hO, hc1, by omega, by omega, hnx.1, by omega, by omega, ⟨fun q => ?_, fun q => ?_⟩, ?_⟩
    · have := up_gen_ne d 0 bi; omega
    · omega
    · rw [hnx.2, hlx, hle]
end
end Mine
end

section
open PySem PySem.W PyProof.Rows PySem.Calls
set_option maxRecDepth 100000
namespace Mine
section
variable {prog : Program} {w : World} {A : Around} {E : Value → Shared → Prop} {R : Result → Shared → Prop} {s : Shared} {env : Env} {h₀ : Heap} {L : Addr} {Q : Flow → Shared → Prop}
def ForEndG {σ : Type} (h₀ : Heap) (L : Addr) (s : Shared) (Led : σ → List (Addr × Obj)) (own : List (Addr × Obj)) (ps : σ → List (Str × Value)) (stored : List Str) (m₀ : Str → Option Value) (P : σ → Prop) (s₂ : Shared) : Prop :=
  ∃ (c' : σ) (h' : Heap) (tk : Nat) (m' : Str → Option Value) (news' : List (Addr × Obj)), s₂ = { s with heap := h', toks := tk } ∧ Fr h₀ L h' m' ∧ News h₀ L h' news' ∧ (∀ p ∈ Led c', p ∈ news') ∧ (∀ p ∈ own, p ∈ news') ∧ (∀ p ∈ own, ∀ q ∈ Led c', q.1 ≠ p.1) ∧
    (∀ p ∈ ps c', m' p.1 = some p.2) ∧ (∀ z, (∀ p ∈ ps c', z ≠ p.1) → stored.contains z = false → m' z = m₀ z) ∧ P c'
def ForPostG {σ : Type} (h₀ : Heap) (L : Addr) (s : Shared) (Led : σ → List (Addr × Obj)) (own : List (Addr × Obj)) (ps : σ → List (Str × Value)) (stored : List Str) (m₀ : Str → Option Value) (P : σ → Prop) (Q : Flow → Shared → Prop) (f : Flow) (s₂ : Shared) : Prop :=
  match f with
  | .ret v => Q (.ret v) s₂
  | .brk => Q .next s₂
  | _ => ForEndG h₀ L s Led own ps stored m₀ P s₂
theorem forEndG {σ : Type} {h₀ : Heap} {L : Addr} {s : Shared} {Led : σ → List (Addr × Obj)} {own : List (Addr × Obj)} {ps : σ → List (Str × Value)} {stored : List Str} {m₀ m' : Str → Option Value} {P : σ → Prop} {h' : Heap} {tk : Nat} {news' : List (Addr × Obj)} (c' : σ)
    (F : Fr h₀ L h' m') (N : News h₀ L h' news') (n1 : ∀ p ∈ Led c', p ∈ news') (n2 : ∀ p ∈ own, p ∈ news') (n3 : ∀ p ∈ own, ∀ q ∈ Led c', q.1 ≠ p.1) (hk : ∀ p ∈ ps c', m' p.1 = some p.2) (hr : ∀ z, (∀ p ∈ ps c', z ≠ p.1) → stored.contains z = false → m' z = m₀ z) (hp : P c') :
    ForEndG h₀ L s Led own ps stored m₀ P { s with heap := h', toks := tk } := ⟨c', h', tk, m', news', rfl, F, N, n1, n2, n3, hk, hr, hp⟩
/-- a dirty loop over a list -/
theorem forListS {σ : Type} {target : Expr} {body : List Stmt} {it l : Addr} {items : Array Value} {m₀ : Str → Option Value} (Led : σ → List (Addr × Obj)) (ps : σ → List (Str × Value)) (stored : List Str) (P : Nat → σ → Prop) (c₀ : σ)
    (hh : A.handled = none) (htg : ∀ it v, letOwnedTupleGo target it v = pure ())
    (hl : ∀ c h m, Fr h₀ L h m → News h₀ L h (Led c) → h.IsList l items)
    (hio : ∀ p ∈ Led c₀, p.1 ≠ it) (hfi : it ≠ L ∧ h₀.get? it = none) (hit : s.heap.IsListIter it l 0)
    (F : Fr h₀ L s.heap m₀) (N : News h₀ L s.heap (Led c₀)) (hk : ∀ p ∈ ps c₀, m₀ p.1 = some p.2) (hp0 : P 0 c₀)
    (turn : ∀ (i : Nat) (v : Value) (c : σ) (u : Str → Option Value) h tk' own, items[i]? = some v → P i c → (∀ p ∈ own, ∀ q ∈ Led c, q.1 ≠ p.1) →
      Fr h₀ L h (kstB (fun z => if stored.contains z then u z else m₀ z) (ps c)) → News h₀ L h (Led c ++ own) →
      wpAny (model prog w) A (assign target env v) (fun _ s₂ => wpS (model prog w) A (execs body env) (ForPostG h₀ L s Led own ps stored m₀ (P (i + 1)) Q) (fun _ _ => False) s₂) (fun _ _ => False) { s with heap := h, toks := tk' })
    (done : ∀ (c : σ) (u : Str → Option Value) h tk, P items.size c → Fr h₀ L h (kstB (fun z => if stored.contains z then u z else m₀ z) (ps c)) → News h₀ L h (Led c) → Q .next { s with heap := h, toks := tk }) :
    codeS (model prog w) A (.forLoop target (.ref it) body [] env) (fun r s' => match r with | .ok f => Q f s' | .error _ => False) s := by
  refine codeS_forLoop
    (fun k s' => ∃ (c : σ) (h' : Heap) (tk : Nat) (m' : Str → Option Value) (i : Nat), s' = { s with heap := h', toks := tk } ∧ h'.IsListIter it l i ∧ Fr h₀ L h' m' ∧ News h₀ L h' (Led c) ∧ (∀ p ∈ Led c, p.1 ≠ it) ∧
      (∀ p ∈ ps c, m' p.1 = some p.2) ∧ (∀ z, (∀ p ∈ ps c, z ≠ p.1) → stored.contains z = false → m' z = m₀ z) ∧ P i c ∧ i ≤ items.size ∧ k = items.size + 1 - i) ?_ (items.size + 1)
    ⟨c₀, s.heap, s.toks, m₀, 0, rfl, hit, F, N, hio, hk, fun _ _ _ => rfl, hp0, Nat.zero_le _, rfl⟩
  rintro k s' ⟨c, H, tk, m', i, rfl, hit', F', N', ho, h1, h2, hP, hi, rfl⟩
  have hl' : H.IsList l items := hl c H m' F' N'
  cases hv : items[i]? with
  | none =>
    have hsz : i = items.size := Nat.le_antisymm hi (by simpa using hv)
    refine wpAny_pyNext_list_end hh hit' hl' hv fun h₁ he₁ => ?_
    have F₁ : Fr h₀ L h₁ m' := ⟨F'.ns.extBut he₁ (Ne.symm hfi.1), fun b o x => he₁ b o (fun q => by rw [q, hfi.2] at x; cases x) (F'.keep b o x), F'.above⟩
    exact done c m' h₁ tk (hsz ▸ hP) (ksw_fr h1 h2 F₁) fun p hp => ⟨he₁ _ _ (ho p hp) (N' p hp).1, (N' p hp).2⟩
  | some v =>
    have hlt : i < items.size := (Array.getElem?_eq_some_iff.mp hv).1
    refine wpAny_pyNext_list_item hit' hl' hv fun h₁ hit₁ hs₁ => ?_
    replace hs₁ : Heap.SameBut it H h₁ := hs₁
    obtain ⟨oi₁, hoi₁, r1, r2⟩ := id hit₁
    have F₁ : Fr h₀ L h₁ m' := ⟨F'.ns.extBut hs₁.extBut (Ne.symm hfi.1), fun b o x => hs₁.extBut b o (fun q => by rw [q, hfi.2] at x; cases x) (F'.keep b o x), F'.above⟩
    have N₁ : News h₀ L h₁ (Led c ++ [(it, oi₁)]) := by
      intro p hp
      rcases List.mem_append.mp hp with hp | hp
      · exact ⟨hs₁.extBut _ _ (ho p hp) (N' p hp).1, (N' p hp).2⟩
      · rw [List.mem_singleton.mp hp]; exact ⟨hoi₁, hfi⟩
    have apart : ∀ p ∈ [(it, oi₁)], ∀ q ∈ Led c, q.1 ≠ p.1 := by
      intro p hp q hq
      rw [List.mem_singleton.mp hp]; exact ho q hq
    dsimp only
    refine wpAny_of_eq (htg _ _) ?_
    refine wpAny_mono (turn i v c m' h₁ _ [(it, oi₁)] hv hP apart (ksw_fr h1 h2 F₁) N₁) (fun _ s₂ h₂ => wpS_mono h₂ (fun f s₃ h₆ => ?_) fun _ _ x => x) fun _ _ x => x
    have go : ForEndG h₀ L s Led [(it, oi₁)] ps stored m₀ (P (i + 1)) s₃ → ∃ m, m < items.size + 1 - i ∧ ∃ (c : σ) (h' : Heap) (tk : Nat) (m' : Str → Option Value) (i : Nat), s₃ = { s with heap := h', toks := tk } ∧ h'.IsListIter it l i ∧ Fr h₀ L h' m' ∧ News h₀ L h' (Led c) ∧ (∀ p ∈ Led c, p.1 ≠ it) ∧
      (∀ p ∈ ps c, m' p.1 = some p.2) ∧ (∀ z, (∀ p ∈ ps c, z ≠ p.1) → stored.contains z = false → m' z = m₀ z) ∧ P i c ∧ i ≤ items.size ∧ m = items.size + 1 - i := by
      rintro ⟨c', h', tk', m₂, news', rfl, F₆, N₆, n1, n2, n3, p1, p2, hP'⟩
      have z1 := N₆ _ (n2 _ (.head _))
      exact ⟨items.size + 1 - (i + 1), by omega, c', h', tk', m₂, i + 1, rfl, ⟨oi₁, z1.1, r1, r2⟩, F₆, fun p hp => N₆ p (n1 p hp), fun q hq => n3 _ (.head _) q hq, p1, p2, hP', hlt, rfl⟩
    cases f with
    | next => exact go h₆
    | cont => exact go h₆
    | brk => exact h₆
    | ret v => exact h₆
end
end Mine
end

section
open PySem PySem.W PyProof.Rows PySem.Calls
set_option maxRecDepth 100000
namespace Mine
def holds {α : Type} (n : Nat) (ans : Nat → Nat → Bool) : KasT α → (α → Prop) → Prop
  | .ret a, Q => Q a
  | .ask i j k, Q => (i < n ∧ j < n) ∧ holds n ans (k (ans i j)) Q
theorem holds_bind {α β : Type} {n : Nat} {ans : Nat → Nat → Bool} {f : α → KasT β} {Q : β → Prop} : ∀ (t : KasT α), holds n ans t (fun a => holds n ans (f a) Q) → holds n ans (t.bind f) Q
  | .ret _, h => h
  | .ask i j k, h => ⟨h.1, holds_bind (k (ans i j)) h.2⟩
theorem holds_mono {α : Type} {n : Nat} {ans : Nat → Nat → Bool} {Q Q' : α → Prop} (hq : ∀ a, Q a → Q' a) : ∀ (t : KasT α), holds n ans t Q → holds n ans t Q'
  | .ret a, h => hq a h
  | .ask i j k, h => ⟨h.1, holds_mono hq (k (ans i j)) h.2⟩
theorem holds_wp {α : Type} {n : Nat} {ans : Nat → Nat → Bool} {cmp : Nat → Nat → (Bool → Shared → Prop) → Shared → Prop} {Q : α → Shared → Prop} {s : Shared} (hc : ∀ i j C, i < n → j < n → C (ans i j) s → cmp i j C s) :
    ∀ (t : KasT α), holds n ans t (fun a => Q a s) → t.kasWp cmp Q s
  | .ret a, h => h
  | .ask i j k, h => hc i j _ h.1.1 h.1.2 (holds_wp hc (k (ans i j)) h.2)
section
variable {e : Nat → Int} {n : Nat}
def At (e : Nat → Int) (p : Array Nat) (k : Nat) : Int := e (p.getD k 0)
def UpTo (e : Nat → Int) (p : Array Nat) (k : Nat) : Prop := ∀ i j, i < j → j < k → At e p i < At e p j
def DnTo (e : Nat → Int) (p : Array Nat) (k : Nat) : Prop := ∀ i j, i < j → j < k → At e p j < At e p i
def PermN (n : Nat) (p : Array Nat) : Prop := p.Perm (List.range n).toArray
theorem PermN.size {p : Array Nat} (h : PermN n p) : p.size = n := by
  have := h.size_eq
  simpa using this
theorem PermN.apart {p : Array Nat} (he : ∀ i j, i < n → j < n → e i = e j → i = j) (h : PermN n p) {a b : Nat} (ha : a < n) (hb : b < n) (hab : a ≠ b) : At e p a ≠ At e p b := by
  have hl : p.toList.Perm (List.range n) := by simpa using Array.perm_iff_toList_perm.mp h
  have hn : p.toList.Nodup := hl.symm.nodup List.nodup_range
  have hs := h.size
  have ha' : a < p.size := by omega
  have hb' : b < p.size := by omega
  have e1 : p.getD a 0 = p.toList[a]'(by simpa using ha') := by simp [Array.getD, ha']
  have e2 : p.getD b 0 = p.toList[b]'(by simpa using hb') := by simp [Array.getD, hb']
  intro q
  unfold At at q
  rw [e1, e2] at q
  have m1 : p.toList[a]'(by simpa using ha') < n := by
    have := hl.mem_iff.mp (List.getElem_mem (l := p.toList) (n := a) (by simpa using ha'))
    simpa using this
  have m2 : p.toList[b]'(by simpa using hb') < n := by
    have := hl.mem_iff.mp (List.getElem_mem (l := p.toList) (n := b) (by simpa using hb'))
    simpa using this
  exact hab ((List.getElem_inj hn).mp (he _ _ m1 m2 q))
theorem PermN.lt {p : Array Nat} (h : PermN n p) {a : Nat} (ha : a < n) : p.getD a 0 < n := by
  have hl : p.toList.Perm (List.range n) := by simpa using Array.perm_iff_toList_perm.mp h
  have ha' : a < p.size := by have := h.size; omega
  have e1 : p.getD a 0 = p.toList[a]'(by simpa using ha') := by simp [Array.getD, ha']
  rw [e1]
  have := hl.mem_iff.mp (List.getElem_mem (l := p.toList) (n := a) (by simpa using ha'))
  simpa using this
variable (he : ∀ i j, i < n → j < n → e i = e j → i = j)
abbrev ansOf (e : Nat → Int) (i j : Nat) : Bool := decide (e i < e j)
theorem at_rev {p : Array Nat} {m : Nat} (hm : m ≤ p.size) (k : Nat) : At e (kas_rev p 0 m) k = if k < m then At e p (m - 1 - k) else At e p k := by
  have h := getElem?_mirror_all (xs := p) (i := 0) (j := m) hm k
  have g : ∀ (q : Array Nat) k, q.getD k 0 = (q[k]?).getD 0 := fun q k => by simp [Array.getD_eq_getD_getElem?]
  unfold At kas_rev
  rw [g, h]
  by_cases hk : k < m
  · rw [if_pos ⟨Nat.zero_le _, hk⟩, if_pos hk, g, Nat.zero_add]
  · rw [if_neg (by omega), if_neg hk, g]
theorem at_bub {p : Array Nat} {k l : Nat} (hk : k < p.size) (hl : l ≤ k) (i : Nat) : At e (bubble p k (k - l)) i = if i = l then At e p k else if l < i ∧ i ≤ k then At e p (i - 1) else At e p i := by
  have h := getElem?_bubble (xs := p) hk (k - l) (by omega) i
  rw [show k - (k - l) = l by omega] at h
  have g : ∀ (q : Array Nat) k, q.getD k 0 = (q[k]?).getD 0 := fun q k => by simp [Array.getD_eq_getD_getElem?]
  unfold At
  rw [g, h, g, g, g]
  repeat' split
  all_goals rfl
include he in
theorem asc_ok {p : Array Nat} (hp : PermN n p) : ∀ (f m : Nat), 1 ≤ m → m + f ≤ n → UpTo e p m → holds n (ansOf e) (kas_asc p f m) (fun r => m ≤ r ∧ r ≤ m + f ∧ UpTo e p r ∧ (r < m + f → At e p r < At e p (r - 1)))
  | 0, m, h1, hn, hu => ⟨Nat.le_refl _, Nat.le_refl _, hu, fun h => absurd h (Nat.lt_irrefl _)⟩
  | f + 1, m, h1, hn, hu => by
    refine ⟨⟨hp.lt (by omega), hp.lt (by omega)⟩, ?_⟩
    show holds _ _ (if ansOf e (p.getD m 0) (p.getD (m - 1) 0) = true then _ else _) _
    by_cases hlt : At e p m < At e p (m - 1)
    · have : ansOf e (p.getD m 0) (p.getD (m - 1) 0) = true := decide_eq_true hlt
      rw [if_pos this]
      exact ⟨Nat.le_refl _, by omega, hu, fun _ => hlt⟩
    · have : ¬ ansOf e (p.getD m 0) (p.getD (m - 1) 0) = true := fun q => hlt (of_decide_eq_true q)
      rw [if_neg this]
      have hne := hp.apart he (a := m - 1) (b := m) (by omega) (by omega) (by omega)
      refine holds_mono (fun r hr => ?_) _ (asc_ok hp f (m + 1) (by omega) (by omega) fun i j hij hj => ?_)
      · exact ⟨by omega, by omega, hr.2.2.1, fun h => hr.2.2.2 (by omega)⟩
      · by_cases hjm : j = m
        · subst hjm
          by_cases him : i = j - 1
          · rw [him]; omega
          · have := hu i (j - 1) (by omega) (by omega); omega
        · exact hu i j hij (by omega)
include he in
theorem desc_ok {p : Array Nat} (hp : PermN n p) : ∀ (f m : Nat), 1 ≤ m → m + f ≤ n → DnTo e p m → holds n (ansOf e) (kas_desc f p m 0) (fun r => r.1 = p ∧ r.2.2 = 0 ∧ m ≤ r.2.1 ∧ r.2.1 ≤ m + f ∧ DnTo e p r.2.1)
  | 0, m, h1, hn, hu => ⟨rfl, rfl, Nat.le_refl _, Nat.le_refl _, hu⟩
  | f + 1, m, h1, hn, hu => by
    refine ⟨⟨hp.lt (by omega), hp.lt (by omega)⟩, ?_⟩
    show holds _ _ (if ansOf e (p.getD m 0) (p.getD (m - 1) 0) = true then _ else _) _
    by_cases hlt : At e p m < At e p (m - 1)
    · have : ansOf e (p.getD m 0) (p.getD (m - 1) 0) = true := decide_eq_true hlt
      rw [if_pos this, if_neg (by omega)]
      refine holds_mono (fun r hr => ?_) _ (desc_ok hp f (m + 1) (by omega) (by omega) fun i j hij hj => ?_)
      · exact ⟨hr.1, hr.2.1, by omega, by omega, hr.2.2.2.2⟩
      · by_cases hjm : j = m
        · subst hjm
          by_cases him : i = j - 1
          · rw [him]; exact hlt
          · have := hu i (j - 1) (by omega) (by omega); omega
        · exact hu i j hij (by omega)
    · have : ¬ ansOf e (p.getD m 0) (p.getD (m - 1) 0) = true := fun q => hlt (of_decide_eq_true q)
      rw [if_neg this]
      have hne := hp.apart he (a := m - 1) (b := m) (by omega) (by omega) (by omega)
      have h2 : At e p (m - 1) < At e p m := by omega
      refine ⟨⟨hp.lt (by omega), hp.lt (by omega)⟩, ?_⟩
      show holds _ _ (if ansOf e (p.getD (m - 1) 0) (p.getD m 0) = true then _ else _) _
      have : ansOf e (p.getD (m - 1) 0) (p.getD m 0) = true := decide_eq_true h2
      rw [if_pos this]
      exact ⟨rfl, rfl, Nat.le_refl _, Nat.le_add_right _ _, hu⟩
include he in
theorem tail3_ok {p : Array Nat} (hp : PermN n p) {m : Nat} (h1 : 1 ≤ m) (hm : m ≤ n) (hd : DnTo e p m) : holds n (ansOf e) (kas_tail3 m n p) (fun r => PermN n r.2 ∧ 1 ≤ r.1 ∧ r.1 ≤ n ∧ UpTo e r.2 r.1) := by
  have hs := hp.size
  have hp' : PermN n (kas_rev p 0 m) := (mirror_perm _ _ _ _).trans hp
  have hu : UpTo e (kas_rev p 0 m) m := fun i j hij hj => by
    rw [at_rev (by omega), at_rev (by omega), if_pos (by omega), if_pos hj]
    exact hd _ _ (by omega) (by omega)
  refine holds_bind _ (holds_mono (fun r hr => ?_) _ (asc_ok he hp' (n - m) m h1 (by omega) hu))
  exact ⟨hp', by show 1 ≤ r; omega, by show r ≤ n; omega, hr.2.2.1⟩
include he in
theorem count_ok {p : Array Nat} (hp : PermN n p) (h1 : 1 ≤ n) : holds n (ansOf e) (kas_count n p) (fun r => PermN n r.2 ∧ 1 ≤ r.1 ∧ r.1 ≤ n ∧ UpTo e r.2 r.1) := by
  have hs := hp.size
  refine holds_bind _ (holds_mono (fun r hr => ?_) _ (asc_ok he hp (n - 1) 1 (Nat.le_refl _) (by omega) fun i j hij hj => by omega))
  obtain ⟨r1, r2, r3, r4⟩ := hr
  by_cases hrn : r = n
  · have : (r == n) = true := by simp [hrn]
    rw [if_pos this]
    exact ⟨hp, by show 1 ≤ r; omega, by show r ≤ n; omega, r3⟩
  · have : ¬ (r == n) = true := by simp [hrn]
    rw [if_neg this]
    by_cases hr1 : r > 1
    · rw [if_pos hr1]
      refine ⟨⟨hp.lt (by omega), hp.lt (by omega)⟩, ?_⟩
      show holds _ _ (if ansOf e (p.getD 0 0) (p.getD (r - 1) 0) = true then _ else _) _
      have h2 : At e p 0 < At e p (r - 1) := r3 0 (r - 1) (by omega) (by omega)
      have : ansOf e (p.getD 0 0) (p.getD (r - 1) 0) = true := decide_eq_true h2
      rw [if_pos this]
      exact ⟨hp, by show 1 ≤ r; omega, by show r ≤ n; omega, r3⟩
    · rw [if_neg hr1]
      have hr' : r = 1 := by omega
      subst hr'
      have h4 := r4 (by omega)
      unfold kas_descPart
      refine holds_bind _ (holds_mono (fun q hq => ?_) _ (desc_ok he hp (n - (1 + 1)) (1 + 1) (by omega) (by omega) fun i j hij hj => ?_))
      · obtain ⟨q1, q2, q3, q4, q5⟩ := hq
        rw [if_neg (by omega), q1]
        exact tail3_ok he hp (by omega) (by omega) q5
      · have : i = 0 := by omega
        have : j = 1 := by omega
        subst i j
        exact h4
theorem place_ok {p : Array Nat} (hp : PermN n p) {k : Nat} (hkn : k < n) (hu : UpTo e p k) (hne : ∀ i, i < k → At e p i ≠ At e p k) : ∀ (f l r : Nat), l ≤ r → r ≤ k → r - l ≤ f → (∀ i, i < l → At e p i < At e p k) → (∀ i, r ≤ i → i < k → At e p k < At e p i) →
    holds n (ansOf e) (kas_place p k f l r) (fun x => x ≤ k ∧ (∀ i, i < x → At e p i < At e p k) ∧ (∀ i, x ≤ i → i < k → At e p k < At e p i))
  | 0, l, r, hlr, hrk, hf, h1, h2 => by
    have : l = r := by omega
    subst this
    exact ⟨hrk, h1, h2⟩
  | f + 1, l, r, hlr, hrk, hf, h1, h2 => by
    show holds _ _ (if l ≥ r then _ else _) _
    by_cases hge : l ≥ r
    · rw [if_pos hge]
      have : l = r := by omega
      subst this
      exact ⟨hrk, h1, h2⟩
    · rw [if_neg hge]
      refine ⟨⟨hp.lt (by omega), hp.lt (by omega)⟩, ?_⟩
      show holds _ _ (if ansOf e (p.getD k 0) (p.getD ((l + r) / 2) 0) = true then _ else _) _
      have hm1 : l ≤ (l + r) / 2 := by omega
      have hm2 : (l + r) / 2 < r := by omega
      generalize (l + r) / 2 = c at *
      by_cases hlt : At e p k < At e p c
      · have : ansOf e (p.getD k 0) (p.getD c 0) = true := decide_eq_true hlt
        rw [if_pos this]
        refine place_ok hp hkn hu hne f l c hm1 (by omega) (by omega) h1 fun i hi hik => ?_
        by_cases hic : i = c
        · rw [hic]; exact hlt
        · have := hu c i (by omega) hik; omega
      · have : ¬ ansOf e (p.getD k 0) (p.getD c 0) = true := fun q => hlt (of_decide_eq_true q)
        rw [if_neg this]
        have h3 := hne c (by omega)
        refine place_ok hp hkn hu hne f (c + 1) r (by omega) hrk (by omega) (fun i hi => ?_) h2
        by_cases hic : i = c
        · rw [hic]; omega
        · have := hu i c (by omega) (by omega); omega
include he in
theorem bin_ok : ∀ (f : Nat) (p : Array Nat) (k : Nat), PermN n p → k + f = n → UpTo e p k → holds n (ansOf e) (kas_bin f p k) (fun q => PermN n q ∧ UpTo e q n)
  | 0, p, k, hp, hk, hu => by
    have : k = n := by omega
    subst this
    exact ⟨hp, hu⟩
  | f + 1, p, k, hp, hk, hu => by
    have hs := hp.size
    refine holds_bind _ (holds_mono (fun x hx => ?_) _ (place_ok hp (by omega) hu (fun i hi => hp.apart he (by omega) (by omega) (by omega)) k 0 k (Nat.zero_le _) (Nat.le_refl _) (by omega) (fun i hi => absurd hi (Nat.not_lt_zero _)) fun i hi hik => by omega))
    obtain ⟨x1, x2, x3⟩ := hx
    refine bin_ok f _ (k + 1) ((bubble_perm _ _ _).trans hp) (by omega) fun i j hij hj => ?_
    rw [at_bub (by omega) x1, at_bub (by omega) x1]
    by_cases hi : i = x
    · rw [if_pos hi, if_neg (by omega), if_pos (by omega)]
      exact x3 _ (by omega) (by omega)
    · rw [if_neg hi]
      by_cases hix : x < i ∧ i ≤ k
      · rw [if_pos hix, if_neg (by omega), if_pos (by omega)]
        exact hu _ _ (by omega) (by omega)
      · rw [if_neg hix]
        by_cases hjx : j = x
        · rw [if_pos hjx]
          exact x2 _ (by omega)
        · rw [if_neg hjx]
          by_cases hjj : x < j ∧ j ≤ k
          · rw [if_pos hjj]
            by_cases h9 : i = j - 1
            · omega
            · exact hu _ _ (by omega) (by omega)
          · rw [if_neg hjj]
            exact hu _ _ hij (by omega)
include he in
/-- the list sort's tree of questions puts distinct numbers in order -/
theorem sort_ok (h1 : 1 ≤ n) : holds n (ansOf e) (kas_sort n) (fun q => PermN n q ∧ UpTo e q n) := by
  have hp : PermN n (List.range n).toArray := Array.Perm.refl _
  refine holds_bind _ (holds_mono (fun r hr => ?_) _ (count_ok he hp h1))
  obtain ⟨r1, r2, r3, r4⟩ := hr
  by_cases hlt : r.1 < n
  · rw [if_pos hlt, show max r.1 1 = r.1 by omega]
    exact bin_ok he _ _ _ r1 (by omega) r4
  · rw [if_neg hlt]
    have : r.1 = n := by omega
    rw [this] at r4
    exact ⟨r1, r4⟩
end
end Mine
end

section
open PySem PySem.W PyProof.Rows PySem.Calls
set_option maxRecDepth 100000
namespace Mine
def pairObj (x y : Int) (t u : Tok) : Obj := { cls := .type "tuple", data := .seq #[.int x t, .int y u] }
abbrev enc (c : Int × Int) : Int := c.1 * 1000 + c.2
section
variable {prog : Program} {w : World} {A : Around} {E : Value → Shared → Prop} {s : Shared}
theorem enc_lt {x y : Int × Int} (hx0 : 0 ≤ x.2) (hx1 : x.2 < 1000) (hy0 : 0 ≤ y.2) (hy1 : y.2 < 1000) : (decide (enc x < enc y)) = if x.1 = y.1 then decide (x.2 < y.2) else decide (x.1 < y.1) := by
  unfold enc
  split
  · rename_i h
    rw [h]
    congr 1
    apply propext
    omega
  · congr 1
    apply propext
    omega
theorem pair_lt {a b : Addr} {x y : Int × Int} {t1 t2 u1 u2 : Tok} {C : Bool → Shared → Prop} (ha : s.heap.get? a = some (pairObj x.1 x.2 t1 u1)) (hb : s.heap.get? b = some (pairObj y.1 y.2 t2 u2))
    (hx0 : 0 ≤ x.2) (hx1 : x.2 < 1000) (hy0 : 0 ≤ y.2) (hy1 : y.2 < 1000) (h : C (decide (enc x < enc y)) s) : wpAny (model prog w) A (keyLt' (tuples' true) (.ref a) (.ref b)) C E s := by
  rw [enc_lt hx0 hx1 hy0 hy1] at h
  refine kat_lt ha rfl hb rfl (kat_cons (wpAny_eqBool_int ?_))
  by_cases h1 : x.1 = y.1
  · have e : (x.1 == y.1) = true := by simpa using h1
    rw [e]
    rw [if_pos h1] at h
    refine kat_yes (kat_cons (wpAny_eqBool_int ?_))
    by_cases h2 : x.2 = y.2
    · have e : (x.2 == y.2) = true := by simpa using h2
      rw [e]
      refine kat_yes (kat_nil ?_)
      have : decide (x.2 < y.2) = false := by simp [h2]
      rw [this] at h
      exact h
    · have e : (x.2 == y.2) = false := by simpa using h2
      rw [e]
      exact kat_no (kat_one _ _ (lt_int h))
  · have e : (x.1 == y.1) = false := by simpa using h1
    rw [e]
    rw [if_neg h1] at h
    exact kat_no (oneLt_int h)
end
def KeysIn (tl : List (Addr × Obj)) : List Value → List (Int × Int) → Prop
  | [], [] => True
  | v :: vs, c :: cs => (∃ a t u, v = .ref a ∧ (a, pairObj c.1 c.2 t u) ∈ tl) ∧ KeysIn tl vs cs
  | _, _ => False
theorem KeysIn.len {tl : List (Addr × Obj)} : ∀ {vs : List Value} {cs : List (Int × Int)}, KeysIn tl vs cs → vs.length = cs.length
  | [], [], _ => rfl
  | _ :: _, _ :: _, h => congrArg (· + 1) h.2.len
  | [], _ :: _, h => h.elim
  | _ :: _, [], h => h.elim
theorem KeysIn.mono {tl tl' : List (Addr × Obj)} (hm : ∀ p ∈ tl, p ∈ tl') : ∀ {vs : List Value} {cs : List (Int × Int)}, KeysIn tl vs cs → KeysIn tl' vs cs
  | [], [], _ => trivial
  | _ :: _, _ :: _, ⟨⟨a, t, u, h1, h2⟩, h⟩ => ⟨⟨a, t, u, h1, hm _ h2⟩, h.mono hm⟩
  | [], _ :: _, h => h.elim
  | _ :: _, [], h => h.elim
theorem KeysIn.snoc {tl : List (Addr × Obj)} {v : Value} {c : Int × Int} (hv : ∃ a t u, v = .ref a ∧ (a, pairObj c.1 c.2 t u) ∈ tl) : ∀ {vs : List Value} {cs : List (Int × Int)}, KeysIn tl vs cs → KeysIn tl (vs ++ [v]) (cs ++ [c])
  | [], [], _ => ⟨hv, trivial⟩
  | _ :: _, _ :: _, ⟨h1, h⟩ => ⟨h1, h.snoc hv⟩
  | [], _ :: _, h => h.elim
  | _ :: _, [], h => h.elim
theorem KeysIn.get {tl : List (Addr × Obj)} : ∀ {vs : List Value} {cs : List (Int × Int)} {i : Nat}, KeysIn tl vs cs → i < cs.length → ∃ a t u, vs.getD i .none = .ref a ∧ (a, pairObj (cs.getD i (0, 0)).1 (cs.getD i (0, 0)).2 t u) ∈ tl
  | _ :: _, _ :: _, 0, ⟨h, _⟩, _ => h
  | _ :: _, c :: cs, i + 1, ⟨_, h⟩, hi => by
    have := KeysIn.get (i := i) h (by simpa using hi)
    simpa using this
  | [], [], _, _, hi => absurd hi (Nat.not_lt_zero _)
  | [], _ :: _, _, h, _ => h.elim
  | _ :: _, [], _, h, _ => h.elim
theorem KeysIn.tups {h : Heap} {tl : List (Addr × Obj)} (hn : ∀ p ∈ tl, h.get? p.1 = some p.2) : ∀ {vs : List Value} {cs : List (Int × Int)}, KeysIn tl vs cs → ∃ fs : List Value, fs.length = cs.length ∧ KatTups h vs fs ∧ ∀ v ∈ fs, ∃ i t, v = .int i t
  | [], [], _ => ⟨[], rfl, KatTups.nil, fun _ h => nomatch h⟩
  | _ :: _, c :: _, ⟨⟨a, t, u, h1, h2⟩, h⟩ => by
    obtain ⟨fs, f1, f2, f3⟩ := h.tups hn
    refine ⟨.int c.1 t :: fs, congrArg (· + 1) f1, h1 ▸ KatTups.cons (hn _ h2) rfl rfl rfl f2, ?_⟩
    intro v hv
    rcases List.mem_cons.mp hv with rfl | hv
    · exact ⟨_, _, rfl⟩
    · exact f3 v hv
  | [], _ :: _, h => h.elim
  | _ :: _, [], h => h.elim
section
variable {prog : Program} {w : World} {A : Around} {E : Value → Shared → Prop} {s : Shared} {h₀ : Heap} {L a kS : Addr} {m : Str → Option Value} {news : List (Addr × Obj)} {vs ks : List Value}
/-- what the sort's end wants, once the keys stand -/
def SrtFin (prog : Program) (w : World) (A : Around) (h₀ : Heap) (L : Addr) (m : Str → Option Value) (kS a : Addr) (vs : List Value) (e1 : Nat) (C : Shared → Prop) (ks : List Value) (e : Nat) (s : Shared) : Prop :=
  if vs.length < 2 then KatFin h₀ L m kS a ks e e1 vs C s
  else wpAny (model prog w) A (keyKind' (List.toArray ks)) (fun κ s' => (kas_sort vs.length).kasWp (kas_ask prog w A κ ks) (fun p s'' => KatFin h₀ L m kS a ks e e1 (p.toList.map fun i => vs.getD i Value.none) C s'') s') (fun _ _ => False) s
theorem srt_end {e e1 : Nat} {P : PySem.Fin → Shared → Prop} (hl : ks.length = vs.length) (h64 : vs.length < 64)
    (h : SrtFin prog w A h₀ L m kS a vs e1 (fun s' => P (.done (.ret .none)) s') ks e s) : wpAny (model prog w) A (ksk_end a false vs.toArray e1 (.ref kS) (List.toArray ks)) P E s := by
  unfold SrtFin at h
  by_cases h2 : vs.length < 2
  · rw [if_pos h2] at h
    have hz : vs.toArray.size < 2 := by rw [List.size_toArray]; exact h2
    unfold ksk_end
    dsimp only
    rw [if_pos hz, if_pos hz]
    refine wpAny_bind (wpAny_pure ?_)
    simp only [Bool.false_eq_true, if_false]
    refine wpAny_bind (wpAny_pure ?_)
    refine kat_tail (b := false) (st := SortSt.mk' general' ((List.toArray ks).zip vs.toArray) #[] 7 none) (out := vs) ?_ h64 (by omega) rfl h
    show Array.map (·.2) ((List.toArray ks).zip vs.toArray) = _
    apply Array.toList_inj.mp
    rw [Array.toList_map, ksk_zip]
    exact List.map_snd_zip (by simp [hl])
  · rw [if_neg h2] at h
    exact kat_end (b := false) hl (by omega) h64 h
theorem srt_rest {f : Value} {e1 : Nat} {P : PySem.Fin → Shared → Prop} (hk : s.heap.get? kS = some (seqObj "list" #[] 0)) (h64 : vs.length < 64)
    (h : KatKeys prog w A h₀ L m kS f (SrtFin prog w A h₀ L m kS a vs e1 (fun s' => P (.done (.ret .none)) s')) vs [] 0 s) :
    wpAny (model prog w) A (ksk_rest a f false vs.toArray e1 (.ref kS)) P E s := by
  unfold ksk_rest
  refine wpAny_bind (wpAny_rule ?_)
  rw [List.forIn_toArray]
  refine wpAny_bind (wpAny_mono (kat_fold h64 (fun x ks e s' C hz hx => ?_) vs [] 0 s (by simp) hk h) (fun _ s' hd => ?_) fun _ _ x => x)
  · refine wpAny_bind (wpAny_attempt (wpAny_mono hx (fun k s'' hk => ?_) fun _ _ hF => hF.elim))
    obtain ⟨news', g, F', N', U, c⟩ := hk
    obtain ⟨pre, post, e0, hg, x1, x2⟩ := U.split
    rw [e0] at N'
    have nk := N' (kS, seqObj "list" (List.toArray ks) e) (List.mem_append_right _ (.head _))
    have s1 := Heap.SameBut.update s''.heap kS (Obj.mapSeq (·.push k))
    have ea : (List.toArray ks).push k = List.toArray (ks ++ [k]) := by simp
    obtain ⟨c2, hc2⟩ : ∃ c2, (s''.heap.update kS (Obj.mapSeq (·.push k))).get? kS = some (seqObj "list" (List.toArray (ks ++ [k])) c2) := ⟨_, by rw [← ea]; exact get?_update_seq nk.1 (·.push k)⟩
    refine wpAny_bind (listUpdate_at nk.1 rfl ?_ (by rw [List.size_toArray, sizeLine_eq]; omega) (Nat.le_trans (Nat.le_of_eq (Array.size_push ..)) (by rw [List.size_toArray, sizeLine_eq]; omega)))
    exact wpAny_pure ⟨rfl, k, c2, hc2, c _ c2 (kas_fr F' s1 nk.2.1 nk.2.2) (by rw [hg]; exact news_set N' x1 x2 s1 hc2)⟩
  · obtain ⟨ks, e, hk', hl, fin⟩ := hd
    refine wpAny_bind (listItems_at hk' rfl ?_)
    exact srt_end hl h64 fin
end
end Mine
end

section
open PySem PySem.W PyProof.Rows PySem.Calls
set_option maxRecDepth 100000
namespace Mine
theorem updF_mid {d : Addr} {o : Obj} {post : List (Addr × Obj)} (hq : ∀ p ∈ post, p.1 ≠ d) : ∀ {pre : List (Addr × Obj)}, (∀ p ∈ pre, p.1 ≠ d) → UpdF d o (pre ++ (d, o) :: post) (fun o' => pre ++ (d, o') :: post)
  | [], _ => .head hq
  | p :: pre, h => .tail (h p (.head _)) (updF_mid hq fun q hq' => h q (.tail _ hq'))
section
variable {prog : Program} {w : World} {A : Around} {E : Value → Shared → Prop} {s : Shared} {h₀ : Heap} {L a kS : Addr} {m : Str → Option Value} {news : List (Addr × Obj)} {vs ks : List Value}
theorem srt_keyed {f : Value} {n : Nat} {P : PySem.Fin → Shared → Prop} (F : Fr h₀ L s.heap m) (N : News h₀ L s.heap news) (ho : s.heap.get? a = some (seqObj "list" vs.toArray n)) (haL : a ≠ L) (ha0 : h₀.get? a = none) (hna : ∀ p ∈ news, p.1 ≠ a)
    (h64 : vs.length < 64)
    (h : ∀ kS e1 h', Fr h₀ L h' m → News h₀ L h' ((kS, seqObj "list" #[] 0) :: (a, seqObj "list" #[] e1) :: news) → a < kS → (∀ q ∈ news, q.1 < kS) →
      KatKeys prog w A h₀ L m kS f (SrtFin prog w A h₀ L m kS a vs e1 (fun s' => P (.done (.ret .none)) s')) vs [] 0 { s with heap := h' }) :
    wpAny (model prog w) A (ksk_tree a f false) P E s := by
  have ha : a < s.heap.objs.size := Heap.lt_size ho
  have s1 := Heap.SameBut.update s.heap a (Obj.mapSeq fun _ => (#[] : Array Value))
  obtain ⟨e1, ho1⟩ : ∃ e1, (s.heap.update a (Obj.mapSeq fun _ => (#[] : Array Value))).get? a = some (seqObj "list" #[] e1) := ⟨_, get?_update_seq ho fun _ => #[]⟩
  have F1 := kas_fr F s1 haL ha0
  have N1 := kas_news N s1 hna
  have hkS : ((s.heap.update a (Obj.mapSeq fun _ => (#[] : Array Value))).push (seqObj "tuple" vs.toArray 0)).objs.size = s.heap.objs.size + 1 := by rw [size_push', Heap.size_update]
  have hLk : L < ((s.heap.update a (Obj.mapSeq fun _ => (#[] : Array Value))).push (seqObj "tuple" vs.toArray 0)).objs.size := (F1.push _).ns.lt
  unfold ksk_tree
  refine wpAny_bind (listItems_at ho rfl ?_)
  refine wpAny_bind (listUpdate_at ho rfl ?_ (by rw [List.size_toArray, sizeLine_eq]; omega) (Nat.zero_le _))
  refine wpAny_bind (seqEpoch_at ho1 rfl ?_)
  refine wpAny_bind (wpAny_newTuple ?_ (by show vs.length ≤ _; rw [sizeLine_eq]; omega))
  refine wpAny_bind (wpAny_newList ?_ (Nat.zero_le _))
  refine wpAny_holding ?_
  refine srt_rest (s := { s with heap := ((s.heap.update a (Obj.mapSeq fun _ => (#[] : Array Value))).push (seqObj "tuple" vs.toArray 0)).push (seqObj "list" #[] 0) }) (kS := ((s.heap.update a (Obj.mapSeq fun _ => (#[] : Array Value))).push (seqObj "tuple" vs.toArray 0)).objs.size)
    (Heap.get?_push_size _ rfl) h64 (h _ e1 _ ((F1.push _).push _) (fun p hp => ?_) (by rw [hkS]; exact Nat.lt_succ_of_lt ha) fun q hq => by rw [hkS]; exact Nat.lt_succ_of_lt (Heap.lt_size (N q hq).1))
  rcases List.mem_cons.mp hp with rfl | hp
  · exact ⟨Heap.get?_push_size _ rfl, Nat.ne_of_gt hLk, Heap.get?_none_of_le (Nat.le_trans F.above (Nat.le_of_lt hLk))⟩
  · rcases List.mem_cons.mp hp with rfl | hp
    · exact ⟨Heap.get?_push_of_some _ (Heap.get?_push_of_some _ ho1), haL, ha0⟩
    · exact ⟨Heap.get?_push_of_some _ (Heap.get?_push_of_some _ (N1 p hp).1), (N1 p hp).2⟩
theorem srt_sorted {l f : Addr} {Q : Value → Shared → Prop} (F : Fr h₀ L s.heap m) (N : News h₀ L s.heap news) (hl : s.heap.IsList l vs.toArray) (h64 : vs.length < 64)
    (h : ∀ D kS e1 h', Fr h₀ L h' m → News h₀ L h' ((kS, seqObj "list" #[] 0) :: (D, seqObj "list" #[] e1) :: news) → D < kS → (∀ q ∈ news, q.1 < D) →
      KatKeys prog w A.in1.in1 h₀ L m kS (.ref f) (SrtFin prog w A.in1.in1 h₀ L m kS D vs e1 (fun s4 => Q (.ref D) s4)) vs [] 0 { s with heap := h' }) :
    wpAny (model prog w) A (call (.builtin "sorted") [.ref l] [(Str.ofString "key", .ref f)]) Q E s := by
  refine call_function_entry_kw kind_sorted plain_sorted entry_sorted (ksk_s1 _ _) ?_
  unfold Builtin.«sorted»
  refine wpAny_bind (m := checkCount "sorted" 1 1 _) (wpAny_pure ?_)
  refine wpAny_bind (collect_list hl ?_ (by rw [sizeLine_eq]; omega))
  refine wpAny_bind (wpAny_newList ?_ (by rw [sizeLine_eq]; omega))
  have hsz : ((s.heap.push (seqObj "list" #[] 0)).update s.heap.objs.size (Obj.mapSeq (· ++ vs.toArray))).objs.size = s.heap.objs.size + 1 := by
    rw [Heap.size_update, size_push']
  have hoL : (((s.heap.push (seqObj "list" #[] 0)).update s.heap.objs.size (Obj.mapSeq (· ++ vs.toArray))).push (seqObj "list" vs.toArray 0)).get? (s.heap.objs.size + 1) = some (seqObj "list" vs.toArray 0) := by
    rw [← hsz]; exact Heap.get?_push_size _ rfl
  have keep : ∀ b o, s.heap.get? b = some o → (((s.heap.push (seqObj "list" #[] 0)).update s.heap.objs.size (Obj.mapSeq (· ++ vs.toArray))).push (seqObj "list" vs.toArray 0)).get? b = some o := fun b o q => by
    have hlt : b < s.heap.objs.size := Heap.lt_size q
    rw [Heap.get?_push_ne _ _ _ (by rw [hsz]; exact Nat.ne_of_lt (Nat.lt_succ_of_lt hlt)), Heap.get?_update_ne _ _ _ _ (Nat.ne_of_lt hlt), Heap.get?_push_ne _ _ _ (Nat.ne_of_lt hlt)]
    exact q
  have hL : L < s.heap.objs.size := F.ns.lt
  show wpAny _ _ _ _ _ { s with heap := ((s.heap.push (seqObj "list" #[] 0)).update s.heap.objs.size (Obj.mapSeq (· ++ vs.toArray))).push (seqObj "list" vs.toArray 0) }
  rw [hsz]
  refine wpAny_bind (wpAny_holding (wpAny_call_entry_kw slot_list_sort ⟨_, hoL, rfl⟩ entry_list_sort ?body (ksk_l1 _ _)))
  case body =>
    show wpAny (model prog w) A.in1.in1 (Builtin.«list.sort» ⟨[.ref (s.heap.objs.size + 1)], [(Str.ofString "key", .ref f)]⟩) _ _ _
    rw [ksk_t1]
    refine srt_keyed (s := { s with heap := ((s.heap.push (seqObj "list" #[] 0)).update s.heap.objs.size (Obj.mapSeq (· ++ vs.toArray))).push (seqObj "list" vs.toArray 0) })
      (F.kept keep) (N.grown keep) hoL (Nat.ne_of_gt (Nat.lt_succ_of_lt hL)) (Heap.get?_none_of_le (Nat.le_trans F.above (Nat.le_succ_of_le (Nat.le_of_lt hL))))
      (fun p hp => Nat.ne_of_lt (Nat.lt_succ_of_lt (Heap.lt_size (N p hp).1))) h64 fun kS e1 h' F' N' l0 l1 => ?_
    refine kat_keys_mono (h _ kS e1 h' F' N' l0 fun q hq => Nat.lt_succ_of_lt (Heap.lt_size (N q hq).1)) fun ks e s' hl' hd => ?_
    have hl2 : ks.length = vs.length := by simpa using hl'
    unfold SrtFin at hd ⊢
    by_cases h2 : vs.length < 2
    · rw [if_pos h2] at hd ⊢
      exact hd.mono fun s4 hq => ⟨_, rfl, wpAny_pure ⟨_, rfl, hq⟩⟩
    · rw [if_neg h2] at hd ⊢
      refine wpAny_mono hd (fun κ s'' hk => ?_) fun _ _ x => x
      rw [kat_ask_eq (vs := vs) hl2] at hk ⊢
      exact kas_wp_mono hk fun p s3 hk' => hk'.mono fun s4 hq => ⟨_, rfl, wpAny_pure ⟨_, rfl, hq⟩⟩
/-- sorted(l, key=f), where f of the i-th item makes the tuple (cz i) of two numbers -/
theorem sorted_keyed {l f : Addr} {cz : List (Int × Int)} {Q : Value → Shared → Prop} (F : Fr h₀ L s.heap m) (N : News h₀ L s.heap news) (hl : s.heap.IsList l vs.toArray) (h64 : vs.length < 64) (hlen : cz.length = vs.length)
    (hk : ∀ i, i < cz.length → 0 ≤ (cz.getD i (0, 0)).2 ∧ (cz.getD i (0, 0)).2 < 1000) (hinj : ∀ i j, i < cz.length → j < cz.length → (cz.getD i (0, 0)).2 = (cz.getD j (0, 0)).2 → i = j)
    (callf : ∀ (i : Nat) (v : Value) (news' : List (Addr × Obj)) (h : Heap) (tk : Nat) (C : Value → Shared → Prop), i < cz.length → vs[i]? = some v → Fr h₀ L h m → News h₀ L h news' → (∀ p ∈ news, p ∈ news') →
      (∀ T h' tk' t u, Fr h₀ L h' m → News h₀ L h' ((T, pairObj (cz.getD i (0, 0)).1 (cz.getD i (0, 0)).2 t u) :: news') → (∀ q ∈ news', q.1 < T) → C (.ref T) { s with heap := h', toks := tk' }) →
      wpAny (model prog w) A.in1.in1 (call (.ref f) [v]) C (fun _ _ => False) { s with heap := h, toks := tk })
    (done : ∀ (D : Addr) (h' : Heap) (tk c : Nat) (p : Array Nat), Fr h₀ L h' m → News h₀ L h' ((D, listOf (p.toList.map fun i => vs.getD i Value.none).toArray c) :: news) → (∀ q ∈ news, q.1 < D) → PermN vs.length p → UpTo (fun i => enc (cz.getD i (0, 0))) p vs.length →
      Q (.ref D) { s with heap := h', toks := tk }) :
    wpAny (model prog w) A (call (.builtin "sorted") [.ref l] [(Str.ofString "key", .ref f)]) Q E s := by
  refine srt_sorted F N hl h64 fun D kS e1 h' F' N' l0 l1 => ?_
  have key : ∀ (r : List Value) (i : Nat) (ks : List Value) (e : Nat) (tl : List (Addr × Obj)) (h : Heap) (tk : Nat), vs.drop i = r → KeysIn tl ks (cz.take i) → (∀ p ∈ tl, kS < p.1) → Fr h₀ L h m →
      News h₀ L h (tl ++ (kS, seqObj "list" (List.toArray ks) e) :: (D, seqObj "list" #[] e1) :: news) →
      KatKeys prog w A.in1.in1 h₀ L m kS (.ref f) (SrtFin prog w A.in1.in1 h₀ L m kS D vs e1 (fun s4 => Q (.ref D) s4)) r ks e { s with heap := h, toks := tk } := by
    intro r
    induction r with
    | nil =>
      intro i ks e tl h tk hr hK ht Fh Nh
      have hi : vs.length ≤ i := by simpa using hr
      rw [List.take_of_length_le (by omega)] at hK
      refine KatKeys.nil ?_
      have hnk : ∀ p ∈ tl, p.1 ≠ kS := fun p hp => Nat.ne_of_gt (ht p hp)
      have hnD : ∀ p ∈ tl, p.1 ≠ D := fun p hp => Nat.ne_of_gt (Nat.lt_trans l0 (ht p hp))
      have U1 : UpdF kS (seqObj "list" (List.toArray ks) e) (tl ++ (kS, seqObj "list" (List.toArray ks) e) :: (D, seqObj "list" #[] e1) :: news) (fun o' => tl ++ (kS, o') :: (D, seqObj "list" #[] e1) :: news) := by
        refine updF_mid (fun p hp => ?_) hnk
        rcases List.mem_cons.mp hp with rfl | hp
        · exact Nat.ne_of_lt l0
        · exact Nat.ne_of_lt (Nat.lt_trans (l1 p hp) l0)
      have fin : ∀ (p : Array Nat) (tk' : Nat), PermN vs.length p → UpTo (fun i => enc (cz.getD i (0, 0))) p vs.length → KatFin h₀ L m kS D ks e e1 (p.toList.map fun i => vs.getD i Value.none) (fun s4 => Q (.ref D) s4) { s with heap := h, toks := tk' } := by
        intro p tk' hp hu
        refine KatFin.intro Fh Nh U1 fun h1 c1 F1 N1 => ?_
        have U2 : UpdF D (seqObj "list" #[] e1) (tl ++ (kS, seqObj "list" #[] c1) :: (D, seqObj "list" #[] e1) :: news) (fun o' => (tl ++ [(kS, seqObj "list" #[] c1)]) ++ (D, o') :: news) := by
          rw [show tl ++ (kS, seqObj "list" #[] c1) :: (D, seqObj "list" #[] e1) :: news = (tl ++ [(kS, seqObj "list" #[] c1)]) ++ (D, seqObj "list" #[] e1) :: news by simp]
          refine updF_mid (fun p hp => Nat.ne_of_lt (l1 p hp)) fun p hp => ?_
          rcases List.mem_append.mp hp with hp | hp
          · exact hnD p hp
          · rw [List.mem_singleton.mp hp]; exact Nat.ne_of_gt l0
        refine KasFin.intro F1 N1 U2 fun h2 c2 F2 N2 => ?_
        exact done D h2 tk' c2 p F2 (fun q hq => N2 q (List.mem_append_right _ hq)) l1 hp hu
      unfold SrtFin
      by_cases h2 : vs.length < 2
      · rw [if_pos h2]
        have e9 : ((List.range vs.length).toArray.toList.map fun i => vs.getD i Value.none) = vs := by
          apply List.ext_getElem
          · simp
          · intro j hj1 hj2
            simp [List.getD_eq_getElem?_getD, hj2]
        have := fin (List.range vs.length).toArray tk (Array.Perm.refl _) (fun i j hij hj => by omega)
        rw [e9] at this
        exact this
      · rw [if_neg h2]
        have hmem : ∀ p ∈ tl, h.get? p.1 = some p.2 := fun p hp => (Nh p (List.mem_append_left _ hp)).1
        obtain ⟨fs, f1, f2, f3⟩ := hK.tups hmem
        have hklen := hK.len
        refine kat_kind (T := .type "int") (s := { s with heap := h, toks := tk }) f2 (by omega) (fun v hv => ?_) rfl ?_
        · obtain ⟨i, t, rfl⟩ := f3 v hv
          exact Looks.of_pure rfl
        · show (kas_sort vs.length).kasWp (kas_ask prog w A.in1.in1 (tuples' true) ks) _ _
          refine holds_wp (n := vs.length) (ans := ansOf (fun i => enc (cz.getD i (0, 0)))) (fun i j C hi hj hC => ?_) _ (holds_mono (fun p hp => fin p tk hp.1 hp.2) _ (sort_ok (e := fun i => enc (cz.getD i (0, 0))) (fun i j hi hj hij => ?_) (by omega)))
          · obtain ⟨a1, t1, u1, g1, m1⟩ := hK.get (i := i) (by omega)
            obtain ⟨a2, t2, u2, g2, m2⟩ := hK.get (i := j) (by omega)
            unfold kas_ask
            rw [g1, g2]
            exact pair_lt (hmem _ m1) (hmem _ m2) (hk i (by omega)).1 (hk i (by omega)).2 (hk j (by omega)).1 (hk j (by omega)).2 hC
          · have a1 := hk i (by omega)
            have a2 := hk j (by omega)
            refine hinj i j (by omega) (by omega) ?_
            simp only [enc] at hij
            omega
    | cons v r ih =>
      intro i ks e tl h tk hr hK ht Fh Nh
      have hi : i < vs.length := by
        rcases Nat.lt_or_ge i vs.length with h' | h'
        · exact h'
        · rw [List.drop_of_length_le h'] at hr; exact absurd hr (by simp)
      rw [List.drop_eq_getElem_cons hi] at hr
      obtain ⟨hv, hr'⟩ := List.cons.inj hr
      refine KatKeys.cons ?_
      refine callf i v _ h tk _ (by omega) (by rw [← hv]; simp [hi]) Fh Nh (fun p hp => List.mem_append_right _ (.tail _ (.tail _ hp))) fun T h1 tk1 t u F1 N1 lT => ?_
      have hkT : kS < T := lT (kS, _) (List.mem_append_right _ (.head _))
      have ht' : ∀ p ∈ (T, pairObj (cz.getD i (0, 0)).1 (cz.getD i (0, 0)).2 t u) :: tl, kS < p.1 := by
        intro p hp
        rcases List.mem_cons.mp hp with rfl | hp
        · exact hkT
        · exact ht p hp
      have U1 : UpdF kS (seqObj "list" (List.toArray ks) e) (((T, pairObj (cz.getD i (0, 0)).1 (cz.getD i (0, 0)).2 t u) :: tl) ++ (kS, seqObj "list" (List.toArray ks) e) :: (D, seqObj "list" #[] e1) :: news)
          (fun o' => ((T, pairObj (cz.getD i (0, 0)).1 (cz.getD i (0, 0)).2 t u) :: tl) ++ (kS, o') :: (D, seqObj "list" #[] e1) :: news) := by
        refine updF_mid (fun p hp => ?_) fun p hp => Nat.ne_of_gt (ht' p hp)
        rcases List.mem_cons.mp hp with rfl | hp
        · exact Nat.ne_of_lt l0
        · exact Nat.ne_of_lt (Nat.lt_trans (l1 p hp) l0)
      refine KatBack.intro F1 N1 U1 fun h2 c2 F2 N2 => ?_
      have etake : cz.take (i + 1) = cz.take i ++ [cz.getD i (0, 0)] := by
        rw [List.take_add_one]
        have : i < cz.length := by omega
        simp [List.getD_eq_getElem?_getD, this]
      exact ih (i + 1) (ks ++ [.ref T]) c2 _ h2 tk1 hr' (by rw [etake]; exact (hK.mono fun p hp => .tail _ hp).snoc ⟨T, t, u, rfl, .head _⟩) ht' F2 N2
  exact key vs 0 [] 0 [] h' s.toks rfl trivial (fun p hp => nomatch hp) F' N'
end
end Mine
end

section
open PySem PySem.W PyProof.Rows PySem.Calls
set_option maxRecDepth 100000
namespace Mine
abbrev lamQ : Str := (Str.ofString "_law_laid" ++ Str.ofString ".<locals>.") ++ Str.ofString "<lambda>"
/-- what stands in the table of _law_laid's own code: its lambda's code, once that was made -/
inductive TabSt : List (Addr × Obj) → Prop
  | none : TabSt [(58, tabObj #[])]
  | some (c' : Addr) (oc : Obj) (vs : Array Value) (t : Tok) : oc.data = .fields vs → vs[1]? = some (.str lamQ t) →
      TabSt [(c', oc), (58, tabObj #[rawInt 93, rawInt 34, .ref c'])]
section
variable {M : Model} {A : Around} {E : Value → Shared → Prop} {s : Shared} {h₀ : Heap} {L a : Addr} {m mg mb : Str → Option Value} {cn : Str} {cs : Scope} {cl : List (Str × Addr)} {tab own news : List (Addr × Obj)}
  {p : Program} {loose : List Str} {mean : ExcName → Option Value} {params : Arguments} {body : Expr} {scope : Scope} {firstLine : Nat} {clos : List (Str × Addr)}
theorem lam_make {Q : Value → Shared → Prop} {pos : Pos} (TB : TabSt tab) (F : Fr h₀ L s.heap m) (N : News h₀ L s.heap (own ++ (tab ++ news))) (T : Top p loose mean mg mb h₀) (C : CodeHd h₀ 60 58)
    (hown : ∀ q ∈ own, q.1 ≠ 58) (hnew : ∀ q ∈ news, q.1 ≠ 58) (hdef : defaultsOf params (envX cn cs L a (.ref 60) cl) = ([], [])) (hcl : closureFor scope (envX cn cs L a (.ref 60) cl) = pure clos)
    (hpl : pos.line = 93) (hpc : pos.col = 34) (hq : (envX cn cs L a (.ref 60) cl).qual ++ Str.ofString "<lambda>" = lamQ)
    (h : ∀ (tab' : List (Addr × Obj)) (f c' : Addr) (ctv : Value) (h' : Heap) (tk : Nat), TabSt tab' → (∃ oc vs t, (c', oc) ∈ tab' ∧ oc.data = .fields vs ∧ vs[1]? = some (.str lamQ t)) → Fr h₀ L h' m →
      News h₀ L h' ((f, kla_obj (Str.ofString "<lambda>") lamQ params body scope clos ((mg (Str.ofString "__name__")).getD .none) c' ctv) :: (own ++ (tab' ++ news))) → (∀ q ∈ own ++ news, q.1 < f) → (∀ q ∈ tab', q ∈ tab ∨ q.1 = 58 ∨ ∀ q' ∈ own ++ news, q'.1 < q.1) → Q (.ref f) { s with heap := h', toks := tk }) :
    wpAny M A (eval (.Lambda params body scope pos) (envX cn cs L a (.ref 60) cl)) Q E s := by
  refine kla_eval hdef ?_
  rw [show (envX cn cs L a (.ref 60) cl).qual ++ ("<lambda>" : Str) = lamQ from hq]
  cases TB with
  | none =>
    have N' : News h₀ L s.heap ((58, tabObj #[]) :: (own ++ news)) := fun q hq => N q (by
      rcases List.mem_cons.mp hq with rfl | hq
      · exact List.mem_append_right _ (List.mem_append_left _ (.head _))
      · rcases List.mem_append.mp hq with hq | hq
        · exact List.mem_append_left _ hq
        · exact List.mem_append_right _ (List.mem_append_right _ hq))
    refine kla_nest F N' T C rfl (UpdF.head fun q hq => ?_) (by exact True.intro) rfl hcl fun f c' oc vs t ctv h' tk F1 N1 e1 e2 l1 l2 => ?_
    · rcases List.mem_append.mp hq with hq | hq
      · exact hown q hq
      · exact hnew q hq
    · refine h [(c', oc), (58, tabObj #[rawInt 93, rawInt 34, .ref c'])] f c' ctv h' tk (TabSt.some c' oc vs t e1 e2) ⟨oc, vs, t, .head _, e1, e2⟩ F1 (fun q hq => ?_) (fun q hq => Nat.lt_trans (l1 q (.tail _ hq)) l2) (fun q hq => ?_)
      rotate_left
      · rcases List.mem_cons.mp hq with rfl | hq
        · exact .inr (.inr fun q' hq' => l1 q' (.tail _ hq'))
        · rw [List.mem_singleton.mp hq]; exact .inr (.inl rfl)
      rw [hpl, hpc] at N1
      rcases List.mem_cons.mp hq with rfl | hq
      · exact N1 _ (.head _)
      · rcases List.mem_append.mp hq with hq | hq
        · exact N1 _ (.tail _ (.tail _ (.tail _ (List.mem_append_left _ hq))))
        · rcases List.mem_append.mp hq with hq | hq
          · rcases List.mem_cons.mp hq with rfl | hq
            · exact N1 _ (.tail _ (.head _))
            · rw [List.mem_singleton.mp hq]
              exact N1 _ (.tail _ (.tail _ (.head _)))
          · exact N1 _ (.tail _ (.tail _ (.tail _ (List.mem_append_right _ hq))))
  | some c' oc vs t e1 e2 =>
    refine kla_hit (c' := c') F N T C rfl (List.mem_append_right _ (List.mem_append_left _ (.tail _ (.head _)))) ?_ ?_ hcl fun f ctv h' tk F1 N1 l1 => ?_
    · simp [TriplesOk, rawInt]
    · simp [codeAmong, rawInt, hpl, hpc]
    · refine h _ f c' ctv h' tk (TabSt.some c' oc vs t e1 e2) ⟨oc, vs, t, .head _, e1, e2⟩ F1 N1 (fun q hq => l1 q ?_) (fun q hq => .inl hq)
      rcases List.mem_append.mp hq with hq | hq
      · exact List.mem_append_left _ hq
      · exact List.mem_append_right _ (List.mem_append_right _ hq)
end
end Mine
end

section
open PySem PySem.W PyProof.Rows PySem.Calls
namespace Mine
theorem TabSt.at58 {tab : List (Addr × Obj)} (h : TabSt tab) : ∃ ps, (58, tabObj ps) ∈ tab := by
  cases h
  · exact ⟨_, .head _⟩
  · exact ⟨_, .tail _ (.head _)⟩
theorem news_drop4 {h₀ h : Heap} {L : Addr} {p a b c d : Addr × Obj} {r : List (Addr × Obj)} (N : News h₀ L h (p :: a :: b :: c :: d :: r)) : News h₀ L h (p :: r) := fun q hq => by
  rcases List.mem_cons.mp hq with rfl | hq
  · exact N _ (.head _)
  · exact N _ (.tail _ (.tail _ (.tail _ (.tail _ (.tail _ hq)))))
def numsF (cells : List Int) (inside : List Int) (point place : Int) : List Int → List Int
  | [] => []
  | h :: r => ((cells.getD h.toNat 0 - point) * ((inside.length : Int) + 1) + ((inside.filter fun k => decide (k < h)).length : Int) - place - 1) ::
      numsF cells (inside ++ [h]) (cells.getD h.toNat 0) ((inside.filter fun k => decide (k < h)).length : Int) r
theorem insOK_all : ∀ {ds : List Int} {x : Str} {c p : Int}, insOK x c p ds → ∀ d ∈ ds, 0 ≤ d ∧ d ≤ 100000
  | [], _, _, _, _ => fun _ h => nomatch h
  | d :: r, x, c, p, h => fun q hq => by
    obtain ⟨h1, h2, _, h4⟩ := h
    rcases List.mem_cons.mp hq with rfl | hq
    · exact ⟨h1, h2⟩
    · exact insOK_all h4 q hq
theorem gsL_len {base : Int} : ∀ {ds : List Int} {p bias : Int}, (∀ d ∈ ds, 0 ≤ d ∧ d ≤ 100000) → (gsL base p bias ds).length ≤ ds.length * 100001
  | [], _, _, _ => by simp [gsL]
  | d :: r, p, bias, h => by
    have h1 := genL_len _ d 0 bias (Nat.le_refl _)
    have h2 := h d (.head _)
    have h3 := gsL_len (base := base) (p := p + 1) (bias := adF d (decide (p = 0)) (base + p + 1)) fun q hq => h q (.tail _ hq)
    rw [gsL, List.length_append, List.length_cons]
    omega
theorem ints_pick {vf : List Value} {fresh : List Int} (hI : IntsAre vf fresh) : ∀ (l : List Nat), (∀ i ∈ l, i < fresh.length) → IntsAre (l.map fun i => vf.getD i Value.none) (l.map fun i => fresh.getD i 0)
  | [], _ => .nil
  | i :: l, h => by
    have hi := h i (.head _)
    obtain ⟨t, ht⟩ := hI.get i fresh[i] (by simp [hi])
    have e1 : vf.getD i Value.none = .int fresh[i] t := by rw [List.getD_eq_getElem?_getD, ht]; rfl
    have e2 : fresh.getD i 0 = fresh[i] := by rw [List.getD_eq_getElem?_getD, List.getElem?_eq_getElem hi]; rfl
    rw [List.map_cons, List.map_cons, e1, e2]
    exact .cons _ _ (ints_pick hI l fun j hj => h j (.tail _ hj))
theorem pick_all (fresh : List Int) : ((List.range fresh.length).map fun i => fresh.getD i 0) = fresh := by
  apply List.ext_getElem
  · simp
  · intro i h1 h2
    simp [List.getD_eq_getElem?_getD, h2]
theorem pick_up {p : Array Nat} {n : Nat} {e : Nat → Int} {fresh : List Int} {c : Int → Int} (hs : p.size = n) (hu : UpTo e p n) (he : ∀ i, i < n → e i = enc (c (fresh.getD i 0), fresh.getD i 0)) (hp : PermN n p := by assumption) :
    (p.toList.map fun i => fresh.getD i 0).Pairwise (fun a b => enc (c a, a) < enc (c b, b)) := by
  rw [List.pairwise_iff_getElem]
  intro i j hi hj hij
  have hi' : i < p.size := by simpa using hi
  have hj' : j < p.size := by simpa using hj
  have h := hu i j hij (by omega)
  unfold At at h
  rw [he _ (hp.lt (by omega)), he _ (hp.lt (by omega))] at h
  have g : ∀ k (hk : k < p.size), p.getD k 0 = p[k] := fun k hk => by simp [Array.getD, hk]
  rw [g i hi', g j hj'] at h
  simpa using h
abbrev DoesL (w : World) (x : Str) (t0 : Tok) (lc lt lf : Addr) (vc vt vf : List Value) (nc nt nf : Nat) (y : Str) : Prop :=
  ∀ (p : Program) (loose : List Str) (mean : ExcName → Option Value) (mg mb : Str → Option Value) (dp un : Nat) (cn : Str) (cs : Scope) (a : Addr) (ccd : Value) (cl : List (Str × Addr)) (outer : List Env) (A₀ : Around) (base h₀ : Heap) (L : Addr) (m : Str → Option Value) (tab news : List (Addr × Obj)) (s : Shared) (Q E : Value → Shared → Prop),
    Below A₀ base outer h₀ → Fr h₀ L s.heap m → (hd.heap_39 w.params).In h₀ → TabSt tab → News h₀ L s.heap ((lc, listOf vc.toArray nc) :: (lt, listOf vt.toArray nt) :: (lf, listOf vf.toArray nf) :: (tab ++ news)) → (∀ q ∈ news, q.1 ≠ 58) → CodeHd h₀ 60 58 → Top p loose mean mg mb h₀ → cs.kind = .function → dp + 20 < recursionLimit → un + 8 * 20 < cLine →
    (∀ (tab' : List (Addr × Obj)) (h' : Heap) (tk' : Nat) (t : Tok), TabSt tab' → (∀ q ∈ tab', q ∈ tab ∨ q.1 = 58 ∨ ∀ q' ∈ news, q'.1 < q.1) → Fr h₀ L h' m → News h₀ L h' (tab' ++ news) → Q (.str y t) { s with heap := h', toks := tk' }) →
    wpS (model PySem.Challenge.rw_io0059_01.row.prog w) (ktrTop dp un (some []) cn cs L a ccd cl outer) (call (.ref 61) [.str x t0, .ref lc, .ref lt, .ref lf]) Q E s
section
local macro_rules | `(tactic| walk_at "no step a") => `(tactic| skip)
local macro_rules | `(tactic| walk_at "no step b") => `(tactic| skip)
local macro_rules | `(tactic| walk_at "no step c") => `(tactic| skip)
local macro_rules | `(tactic| walk_at "no step d") => `(tactic| skip)
local macro_rules | `(tactic| walk_at "no step e") => `(tactic| skip)
local macro_rules | `(tactic| walk_at "S enter") => `(tactic| (refine' codeS_defC ?k1 ?k2 ?k3 ?k4 ?k5 ?kA ?kF ?kK ?k6 ?k7 ?k8 ?k9 ?kB ?kD ?_ ?c2 ?c3 ?c4; (case kA => exact rfl); (case kF => exact rfl); (case kK => assumption); (case k1 => k_asm); (case k2 => k_asm); (case k3 => k_asm); (case k4 => k_asm); (case k5 => k_asm); (case k6 => k_is); (case k7 => k_is); (case k8 => ktr_room); (case k9 => exact BindsTo.of_eq rfl); (case kD => decide); (case kB => exact rfl); (case c2 => exact rfl); (case c3 => exact rfl); (case c4 => exact rfl); k_whole))
local macro_rules | `(tactic| k_all) => `(tactic| with_reducible assumption)
local macro_rules | `(tactic| walk_at "use rest") => `(tactic| ((case k1 => k_asm); (case k2 => k_asm); (case k3 => k_asm); (case k4 => k_asm); (case k5 => k_asm); (case k6 => first | exact rfl | assumption); (case k7 => ktr_room); (case k8 => ktr_units)))
set_option maxRecDepth 100000 in
set_option maxHeartbeats 8000000 in
theorem laid_does (w : World) (x : Str) (t0 : Tok) (lc lt lf : Addr) (cells there fresh : List Int) (vc vt vf : List Value) (nc nt nf : Nat) (y : Str) (hIc : IntsAre vc cells) (hIt : IntsAre vt there) (hIf : IntsAre vf fresh)
   (hcz : cells.length ≤ 60) (htz : there.length = x.length) (htz2 : there.length ≤ 60) (hfz : fresh.length ≤ 60) (hin : ∀ k ∈ fresh, 0 ≤ k ∧ k < cells.length) (hnd : fresh.Nodup)
   (hok : ∀ ord : List Int, ord.Perm fresh → ord.Pairwise (fun a b => enc (cells.getD a.toNat 0, a) < enc (cells.getD b.toNat 0, b)) → insOK x 128 (-1) (numsF cells there 128 (-1) ord) ∧ insF x 128 (-1) (numsF cells there 128 (-1) ord) = y) :
    DoesL w x t0 lc lt lf vc vt vf nc nt nf y := by
  unfold DoesL
  k_fill
  k_with_none
  w_top off
  intro p loose mean mg mb dp un cn cs a ccd cl outer A₀ base₀ h₀ L m tab news s Q E B F X TB N hn58 CH T hk hdp hu hret
  refine wpS_call ?_
  k_dflt (walk_at "S enter")
  intro g L1 h1 tk1 cells' FG F1 N1 Y B1 X1 T1 lt1 st1
  obtain ⟨o1, o2, hE, d1, d2⟩ := CellsAre.two Y
  subst hE
  clear Y
  replace d1 : o1.data = .cell none := d1
  replace d2 : o2.data = .cell (some (.ref lc)) := d2
  simp only [List.cons_append, List.nil_append] at N1
  have CH1 : CodeHd g 60 58 := CH.keeps st1
  have lt1' := lt1
  obtain ⟨ps58, hps58⟩ := TB.at58
  have z58 : (58 : Nat) < L1 := lt1' (58, tabObj ps58) (.tail _ (.tail _ (.tail _ (List.mem_append_left _ hps58))))
  k_lt lt1
  refine wpS_execs_cons (wpS_of ?_)
  k_steps
  refine wpS_execs_cons (wpS_of ?_)
  k_steps
  refine wpS_execs_cons (wpS_of ?_)
  k_steps
  refine wpS_execs_cons (wpS_of ?_)
  k_steps
  refine wpS_execs_cons (wpS_For ?_)
  k_steps
  rename_i li ci _ lA _ ln _ lB _ _ _ Fz Nz
  have nolist : ∀ (q : Addr) (vs : Array Value) (n : Nat), (q, listOf vs n) ∈ (lc, listOf vc.toArray nc) :: (lt, listOf vt.toArray nt) :: (lf, listOf vf.toArray nf) :: (tab ++ news) → q ≠ 58 := by
    intro q vs n hq e
    subst e
    have a1 := (N _ hq).1
    have a2 := (N (58, tabObj ps58) (.tail _ (.tail _ (.tail _ (List.mem_append_left _ hps58))))).1
    rw [a1] at a2
    cases a2
  refine lam_make (own := [_, _, _, _, _, _, _]) TB Fz Nz T1 CH1 ?_ hn58 rfl rfl rfl rfl rfl ?_
  · have q1 := nolist lc _ _ (.head _)
    have q2 := nolist lt _ _ (.tail _ (.head _))
    have q3 := nolist lf _ _ (.tail _ (.tail _ (.head _)))
    k_all
  clear Fz
  intro tab2 f2 c2 ctv2 h2 tk2 TB2 HC2 F2 N2 lt2 tabs2
  k_steps
  have hczl : (fresh.map fun k => (cells.getD k.toNat 0, k)).length = vf.length := by rw [List.length_map, hIf.length]
  have hget : ∀ i, i < (fresh.map fun k => (cells.getD k.toNat 0, k)).length → ∃ k ∈ fresh, fresh[i]? = some k ∧ (fresh.map fun k => (cells.getD k.toNat 0, k)).getD i (0, 0) = (cells.getD k.toNat 0, k) := by
    intro i hi
    have hi' : i < fresh.length := by simpa using hi
    exact ⟨fresh[i], List.getElem_mem hi', by simp [hi'], by simp [List.getD_eq_getElem?_getD, hi']⟩
  k_dflt (refine sorted_keyed (cz := fresh.map fun k => (cells.getD k.toNat 0, k)) F2 N2 ⟨_, (N2 (lf, listOf vf.toArray nf) (.tail _ (.tail _ (.tail _ (.tail _ (.tail _ (.tail _ (.tail _ (.head _)))))))) ).1, rfl, nf, rfl⟩ (by rw [hIf.length]; omega) hczl ?_ ?_ ?_ ?_)
  · intro i hi
    obtain ⟨k, hk1, hk2, hk3⟩ := hget i hi
    rw [hk3]
    have := hin k hk1
    dsimp only
    omega
  · intro i j hi hj hij
    obtain ⟨k, hk1, hk2, hk3⟩ := hget i hi
    obtain ⟨k', hk1', hk2', hk3'⟩ := hget j hj
    rw [hk3, hk3'] at hij
    have hij' : k = k' := hij
    rw [← hij'] at hk2'
    have hi' : i < fresh.length := by simpa using hi
    have hj' : j < fresh.length := by simpa using hj
    rw [List.getElem?_eq_getElem hi'] at hk2
    rw [List.getElem?_eq_getElem hj'] at hk2'
    exact (List.getElem_inj hnd).mp ((Option.some.inj hk2).trans (Option.some.inj hk2').symm)
  · intro i v news3 h3 tk3 C hi hv F3 N3 hsub cont
    obtain ⟨k, hk1, hk2, hk3⟩ := hget i hi
    rw [hk3] at cont
    obtain ⟨tv, hv'⟩ := hIf.get i k hk2
    rw [hv] at hv'
    obtain rfl := Option.some.inj hv'
    obtain ⟨oc2, vs2, t2, m2, e2, e2'⟩ := HC2
    have hkin := hin k hk1
    have N4 : News g L1 h3 ((f2, kla_obj (Str.ofString "<lambda>") lamQ _ _ _ _ _ c2 ctv2) :: (L1 + 1, o2) :: (lc, listOf vc.toArray nc) :: (c2, oc2) :: news3) := fun q hq => by
      refine N3 q ?_
      rcases List.mem_cons.mp hq with rfl | hq
      · exact hsub _ (.head _)
      · rcases List.mem_cons.mp hq with rfl | hq
        · exact hsub _ (.tail _ (.tail _ (.tail _ (.tail _ (.head _)))))
        · rcases List.mem_cons.mp hq with rfl | hq
          · exact hsub _ (.tail _ (.tail _ (.tail _ (.tail _ (.tail _ (.head _))))))
          · rcases List.mem_cons.mp hq with rfl | hq
            · exact hsub _ (.tail _ (List.mem_append_right _ (List.mem_append_left _ m2)))
            · exact hq
    clear N2 F2 lt2
    refine wpAny_call (kla_code B1 F3 X1 N4 T1 rfl rfl rfl (.head _) (codeRec_news N4 (.tail _ (.tail _ (.tail _ (.head _)))) e2 e2') ?k8 rfl (locs rfl) ?_ rfl rfl rfl (by decide))
    case k8 => ktr_room
    k_whole
    intro g3 L3 h4 FG3 F4 N5 B3 X3 T3
    dsimp only
    k_steps
    rename News g L1 _ _ => kN9
    rename f2 < _ ∧ _ => l9
    exact cont _ _ _ _ _ (by k_asm) (news_drop4 kN9) (ktn_ltOf l9.2.2.2.2)
  intro D h3 tk3 c3 pp F3 N3 lt3 hPN hUp
  clear N2 F2
  refine wpAny_pyIter_list ⟨_, (N3 _ (.head _)).1, rfl, _, rfl⟩ ?_
  dsimp only
  let vo : List Value := pp.toList.map fun i => vf.getD i Value.none
  let ord : List Int := pp.toList.map fun i => fresh.getD i 0
  have hpl : ∀ i ∈ pp.toList, i < fresh.length := fun i hi => by
    have := (Array.perm_iff_toList_perm.mp hPN).mem_iff.mp hi
    have h9 := hIf.length
    simp at this
    omega
  have hIo : IntsAre vo ord := ints_pick hIf _ hpl
  have hordp : ord.Perm fresh := by
    have e := (Array.perm_iff_toList_perm.mp hPN).map fun i => fresh.getD i 0
    rw [hIf.length] at e
    exact e.trans (by rw [List.toList_toArray, pick_all])
  have hords : ord.Pairwise (fun a b => enc (cells.getD a.toNat 0, a) < enc (cells.getD b.toNat 0, b)) := pick_up hPN.size hUp fun i hi => by
    obtain ⟨k, hk1, hk2, hk3⟩ := hget i (by rw [hczl]; exact hi)
    have e9 : fresh.getD i 0 = k := by rw [List.getD_eq_getElem?_getD, hk2]; rfl
    rw [hk3, e9]
  suffices key : ∀ (m3 : Str → Option Value) (tp tq : Nat), Fr g L1 h3 m3 → m3 (Str.ofString "text") = some (.str x t0) → m3 (Str.ofString "there") = some (.ref lt) → m3 (Str.ofString "inside") = some (.ref li) → m3 (Str.ofString "numbers") = some (.ref ln) →
      m3 (Str.ofString "point") = some (.int 128 tp) → m3 (Str.ofString "place") = some (.int (-1) tq) → _ from key _ _ _ F3 rfl rfl rfl rfl rfl rfl
  clear F3
  intro m3 tp tq F3 ma mb9 mc md me mf
  have hne : ∀ b : Addr, (∀ q ∈ tab ++ news, q.1 < b) → (58 : Nat) < b → (∀ q ∈ tab2, (q ∈ tab ∨ q.1 = 58 ∨ b < q.1)) → ∀ q ∈ tab2 ++ news, q.1 ≠ b := by
    intro b h1 h2 h3 q hq
    rcases List.mem_append.mp hq with hq | hq
    · rcases h3 q hq with h | h | h
      · exact Nat.ne_of_lt (h1 q (List.mem_append_left _ h))
      · rw [h]; exact Nat.ne_of_lt h2
      · exact Nat.ne_of_gt h
    · exact Nat.ne_of_lt (h1 q (List.mem_append_right _ hq))
  have hne1 := hne ln (ktn_ltOf lB.2.2.2.2.2.2) (by omega) fun q hq => (tabs2 q hq).imp_right (.imp_right fun h => h (ln, _) (List.mem_append_left _ (.head _)))
  have hne2 := hne li (ktn_ltOf lA.2.2.2.2.2) (by omega) fun q hq => (tabs2 q hq).imp_right (.imp_right fun h => h (li, _) (List.mem_append_left _ (.tail _ (.head _))))
  have hne3 := hne (L1 + 1 + 1) (fun q hq => Nat.lt_succ_of_lt (Nat.lt_succ_of_lt (lt1' q (.tail _ (.tail _ (.tail _ hq)))))) (by omega) fun q hq => (tabs2 q hq).imp_right (.imp_right fun h => h (L1 + 1 + 1, _) (List.mem_append_left _ (.tail _ (.tail _ (.head _)))))
  have lD : @LT.lt Nat _ f2 D ∧ @LT.lt Nat _ ln D := ⟨lt3 _ (.head _), lt3 _ (.tail _ (.head _))⟩
  have lF : @LT.lt Nat _ ln f2 := lt2 _ (List.mem_append_left _ (.head _))
  have N4 : News g L1 h3 ((ln, listOf #[] 0) :: (li, listOf vt.toArray ci) :: (L1 + 1 + 1, o1) :: (L1 + 1, o2) :: (lc, listOf vc.toArray nc) :: (lt, listOf vt.toArray nt) :: (D, listOf vo.toArray c3) :: (tab2 ++ news)) := by
    intro q hq
    rcases List.mem_cons.mp hq with rfl | hq
    · exact N3 _ (.tail _ (.tail _ (.head _)))
    rcases List.mem_cons.mp hq with rfl | hq
    · exact N3 _ (.tail _ (.tail _ (.tail _ (.head _))))
    rcases List.mem_cons.mp hq with rfl | hq
    · exact N3 _ (.tail _ (.tail _ (.tail _ (.tail _ (.head _)))))
    rcases List.mem_cons.mp hq with rfl | hq
    · exact N3 _ (.tail _ (.tail _ (.tail _ (.tail _ (.tail _ (.head _))))))
    rcases List.mem_cons.mp hq with rfl | hq
    · exact N3 _ (.tail _ (.tail _ (.tail _ (.tail _ (.tail _ (.tail _ (.head _)))))))
    rcases List.mem_cons.mp hq with rfl | hq
    · exact N3 _ (.tail _ (.tail _ (.tail _ (.tail _ (.tail _ (.tail _ (.tail _ (.head _))))))))
    rcases List.mem_cons.mp hq with rfl | hq
    · exact N3 _ (.head _)
    · exact N3 _ (.tail _ (.tail _ (.tail _ (.tail _ (.tail _ (.tail _ (.tail _ (.tail _ (.tail _ hq)))))))))
  clear N3 lt3 lt2
  generalize hrest : tab2 ++ news = rest at *
  refine forListS (l := D) (items := vo.toArray) (m₀ := m3) (h₀ := g) (L := L1) (σ := Obj × Int × Nat × Int × Nat × (List Int × List Value × Nat) × (List Int × List Value × Nat))
    (fun c => (ln, listOf c.2.2.2.2.2.2.2.1.toArray c.2.2.2.2.2.2.2.2) :: (li, listOf c.2.2.2.2.2.1.2.1.toArray c.2.2.2.2.2.1.2.2) :: (L1 + 1 + 1, c.1) :: (L1 + 1, o2) :: (lc, listOf vc.toArray nc) :: (lt, listOf vt.toArray nt) :: (D, listOf vo.toArray c3) :: rest)
    (fun c => [(Str.ofString "text", .str x t0), (Str.ofString "there", .ref lt), (Str.ofString "inside", .ref li), (Str.ofString "numbers", .ref ln), (Str.ofString "point", .int c.2.1 c.2.2.1), (Str.ofString "place", .int c.2.2.2.1 c.2.2.2.2.1)])
    [Str.ofString "ahead"]
    (fun i c => IntsAre c.2.2.2.2.2.1.2.1 c.2.2.2.2.2.1.1 ∧ IntsAre c.2.2.2.2.2.2.2.1 c.2.2.2.2.2.2.1 ∧ (∃ v, c.1.data = .cell v) ∧ c.2.2.2.2.2.2.1 ++ numsF cells c.2.2.2.2.2.1.1 c.2.1 c.2.2.2.1 (ord.drop i) = numsF cells there 128 (-1) ord ∧ c.2.2.2.2.2.1.1.length = there.length + i ∧ c.2.2.2.2.2.2.1.length = i)
    (o1, 128, tp, -1, tq, (there, vt, ci), ([], [], 0)) rfl (fun _ _ => rfl) (fun c h m' _ N' => ⟨_, (N' (D, listOf vo.toArray c3) (.tail _ (.tail _ (.tail _ (.tail _ (.tail _ (.tail _ (.head _)))))))).1, rfl, c3, rfl⟩)
    ?hio ⟨Nat.ne_of_gt F3.ns.lt, Heap.get?_none_of_le (Nat.le_trans F3.above (Nat.le_of_lt F3.ns.lt))⟩ ⟨_, Heap.get?_push_size _ rfl, rfl, rfl⟩ (F3.push _) (N4.grown fun b o e => Heap.get?_push_of_some _ e)
    (by intro q hq; simp only [List.mem_cons, List.not_mem_nil, or_false] at hq; rcases hq with rfl | rfl | rfl | rfl | rfl | rfl <;> assumption) ⟨hIt, .nil, ⟨_, d1⟩, rfl, rfl, rfl⟩ ?turn ?done
  case hio => exact fun q hq => Nat.ne_of_lt (Heap.lt_size (N4 q hq).1)
  case turn =>
    intro i v c u h tk own hv hP apart F5 N5
    obtain ⟨o, point, tp, place, tq, ⟨ins, vi, ni⟩, ⟨nums, vn, nn⟩⟩ := c
    obtain ⟨hIi, hIn, ⟨oldv, hov⟩, hsum, hil, hnl⟩ := hP
    dsimp only [kstB] at F5 N5 hIi hIn hov hsum hil hnl
    have hi : i < ord.length := by
      have h9 := (Array.getElem?_eq_some_iff.mp hv).1
      rw [List.size_toArray, hIo.length] at h9
      exact h9
    obtain ⟨tv, hx⟩ := hIo.get i ord[i] (by simp [hi])
    have hvv : v = .int ord[i] tv := by
      have h7 : vo[i]? = some v := by simpa using hv
      rw [hx] at h7; exact (Option.some.inj h7).symm
    subst hvv
    have hki := hin ord[i] (hordp.mem_iff.mp (List.getElem_mem hi))
    rw [List.drop_eq_getElem_cons hi, numsF] at hsum
    have hilen : (ins.length : Int) ≤ 120 := by have := hordp.length_eq; omega
    generalize ord[i] = k at *
    have a1 : ∀ q ∈ rest ++ own, q.1 ≠ ln := fun q hq => (List.mem_append.mp hq).elim (hne1 q) fun h => Ne.symm (apart q h _ (.head _))
    have a2 : ∀ q ∈ rest ++ own, q.1 ≠ li := fun q hq => (List.mem_append.mp hq).elim (hne2 q) fun h => Ne.symm (apart q h _ (.tail _ (.head _)))
    have a3 : ∀ q ∈ rest ++ own, q.1 ≠ L1 + 1 + 1 := fun q hq => (List.mem_append.mp hq).elim (hne3 q) fun h => Ne.symm (apart q h _ (.tail _ (.tail _ (.head _))))
    simp only [List.cons_append] at N5
    generalize htl : rest ++ own = tl at *
    refine wpAny_assign_Name ?_
    k_steps
    refine wpS_execs_cons (wpS_of ?_)
    k_steps
    any_goals first | exact Str.empty | exact (0 : Nat) | exact Value.none
    rename CarriedAll _ _ => hca
    rename Heap.IsList _ _ _ => hli
    have hcl := hca.length_eq
    rw [List.length_map] at hcl
    have hfl : (List.filter (fun a => decide (a < k)) ins).length ≤ ins.length := List.length_filter_le _ _
    refine call_len_list hli (by rw [List.size_toArray]; omega) ?_
    rw [List.size_toArray, hcl]
    k_steps
    refine wpS_execs_cons (wpS_of ?_)
    k_steps
    refine wpS_execs_cons (wpS_of ?_)
    k_steps
    refine wpS_execs_cons (wpS_of ?_)
    k_steps
    refine wpS_execs_cons (wpS_of ?_)
    k_steps
    refine wpS_execs_nil ?_
    show ForEndG _ _ _ _ _ _ _ _ _ _
    rename Fr _ _ _ _ => Fe
    rename News _ _ _ _ => Ne
    rename Obj.data _ = _ => de
    simp only [List.push_toArray] at Ne
    refine forEndG ⟨_, cells.getD k.toNat 0, _, ((ins.filter fun a => decide (a < k)).length : Int), _, (ins ++ [k], _, _), (nums ++ [(cells.getD k.toNat 0 - point) * ((ins.length : Int) + 1) + ((ins.filter fun a => decide (a < k)).length : Int) - place - 1], _, _)⟩ Fe Ne
      (fun p hp => (List.cons_subset_cons _ (List.cons_subset_cons _ (List.cons_subset_cons _ (List.cons_subset_cons _ (List.cons_subset_cons _ (List.cons_subset_cons _ (List.cons_subset_cons _ (fun q hq => htl ▸ List.mem_append_left _ hq)))))))) hp)
      (fun p hp => .tail _ (.tail _ (.tail _ (.tail _ (.tail _ (.tail _ (.tail _ (htl ▸ List.mem_append_right _ hp)))))))) ?n3 (by kst_all) (by ksw_same) ⟨ksk_snoc hIi, ksk_snoc hIn, ⟨_, de⟩, ?_, ?_, ?_⟩
    case n3 =>
      intro p hp q hq
      rcases List.mem_cons.mp hq with rfl | hq
      · exact (apart p hp (ln, listOf vn.toArray nn) (.head _) : ln ≠ p.1)
      rcases List.mem_cons.mp hq with rfl | hq
      · exact (apart p hp (li, listOf vi.toArray ni) (.tail _ (.head _)) : li ≠ p.1)
      rcases List.mem_cons.mp hq with rfl | hq
      · exact (apart p hp (L1 + 1 + 1, o) (.tail _ (.tail _ (.head _))) : L1 + 1 + 1 ≠ p.1)
      · exact apart p hp q (.tail _ (.tail _ (.tail _ hq)))
    · dsimp only
      rw [← hsum, List.append_assoc]
      rfl
    · dsimp only
      rw [List.length_append, List.length_singleton]
      omega
    · dsimp only
      rw [List.length_append, List.length_singleton]
      omega
  case done =>
    intro c u h tk hP F5 N5
    obtain ⟨o, point, tp, place, tq, ⟨ins, vi, ni⟩, ⟨nums, vn, nn⟩⟩ := c
    obtain ⟨hIi, hIn, _, hsum, hil, hnl⟩ := hP
    dsimp only [kstB] at F5 N5 hIi hIn hsum hil hnl ⊢
    have hsz : vo.toArray.size = ord.length := by rw [List.size_toArray, hIo.length]
    rw [hsz, List.drop_length, numsF, List.append_nil] at hsum
    obtain ⟨hok1, hok2⟩ := hok ord hordp hords
    subst hsum
    have hds := insOK_all hok1
    refine wpS_execs_cons (wpS_Assign_Name (wpS_Call_method (T := "bytes") (id := "bytes.upper") rfl rfl rfl FB.plainAttrs_bytes Fact.slot_upper Fact.ty_upper (wpS_Call_Name ?_)))
    k_steps
    refine wpS_callK (K := hd.heap_39 w.params) (by k_is) ?_
    k_steps
    have hol := hordp.length_eq
    k_dflt (refine' DoesS.use (gis_does w (there.length : Int) _ ln vn (numsF cells there 128 (-1) ord) nn (by omega) (by omega) hIn hds (by omega)) ?k1 ?k2 ?k3 ?k4 ?k5 ?k6 ?k7 ?k8 (.head _) ?_)
    walk_at "use rest"
    intro v9 h9 tk9 e9 F9 N9
    obtain ⟨t9, rfl⟩ := e9
    refine ⟨typeIs_bytes _ _ _, (fun _ e => nomatch e), ?_⟩
    have hgl := gsL_len (base := (there.length : Int)) (p := 0) (bias := 72) hds
    have hgz : (gsL (there.length : Int) 0 72 (numsF cells there 128 (-1) ord)).toArray.size ≤ 6100000 := by rw [List.size_toArray]; omega
    refine wpS_callWith (P := fun _ => True) rfl (keeps_mach (Looks.of_pure rfl) _) (evalArgs_nil3 ⟨trivial, ?_⟩)
    refine wpS_of (call_upper (Nat.le_trans hgz (by rw [sizeLine_eq]; decide)) ?_)
    intro t8 tk8
    k_steps
    refine wpS_execs_cons (wpS_of ?_)
    k_steps
    subst hok2
    k_dflt (refine' Does.use (ins_does w x _ (numsF cells there 128 (-1) ord) _ _ _ (by omega) (by omega) ?a2 ?a3 hok1) ?k1 ?k2 ?k3 ?k4 ?k5 ?k6 ?k7 ?k8 trivial ?_)
    case a2 => rw [List.size_toArray, List.length_map]; rw [List.size_toArray] at hgz; omega
    case a3 => rw [htz]
    walk_at "use rest"
    intro v10 h10 tk10 e10 F10 N10
    obtain ⟨t10, rfl⟩ := e10
    refine ⟨_, _, tab2 ++ news, F10, fun q hq => N10 q ?_, fun kF kN => hret tab2 _ _ _ TB2 (fun q hq => (tabs2 q hq).imp_right (.imp_right fun h q' hq' => h q' (List.mem_append_right _ hq'))) kF kN⟩
    rw [hrest] at hq
    exact .tail _ (.tail _ (.tail _ (.tail _ (.tail _ (.tail _ (.tail _ hq))))))
end
end Mine
end

section
open PySem PySem.W PyProof.Rows PySem.Calls
namespace Mine
def txt (cells : List Int) (S : List Int) : Str := ⟨(S.map fun k => (cells.getD k.toNat 0).toNat).toArray⟩
def cnt (h : Int) (l : List Int) : Nat := (l.filter fun k => decide (k < h)).length
theorem txt_len (cells S : List Int) : (txt cells S).length = S.length := by
  unfold txt
  show (List.toArray _).size = _
  rw [List.size_toArray, List.length_map]
theorem cnt_le (h : Int) (l : List Int) : cnt h l ≤ l.length := List.length_filter_le _ _
theorem cnt_perm {h : Int} {a b : List Int} (p : a.Perm b) : cnt h a = cnt h b := (p.filter _).length_eq
theorem cnt_mono {h k : Int} (hk : h < k) : ∀ (l : List Int), cnt h l ≤ cnt k l
  | [] => Nat.le_refl _
  | a :: l => by
    have ih := cnt_mono hk l
    unfold cnt at ih ⊢
    rw [List.filter_cons, List.filter_cons]
    by_cases h1 : a < h
    · have h2 : a < k := Int.lt_trans h1 hk
      simp [h1, h2]
      exact ih
    · by_cases h2 : a < k
      · simp [h1, h2]
        omega
      · simp [h1, h2]
        exact ih
theorem cnt_snoc {h k : Int} (hk : h < k) (l : List Int) : cnt k (l ++ [h]) = cnt k l + 1 := by
  unfold cnt
  rw [List.filter_append, List.length_append]
  simp [hk]
theorem cut_sorted {h : Int} : ∀ {S : List Int}, S.Pairwise (· < ·) → (∀ k ∈ S.take (cnt h S), k < h) ∧ (∀ k ∈ S.drop (cnt h S), h ≤ k)
  | [], _ => by simp [cnt]
  | s :: r, hS => by
    obtain ⟨h1, h2⟩ := List.pairwise_cons.mp hS
    obtain ⟨i1, i2⟩ := cut_sorted (h := h) h2
    by_cases hs : s < h
    · have e : cnt h (s :: r) = cnt h r + 1 := by
        unfold cnt
        rw [List.filter_cons]
        simp [hs]
      rw [e, List.take_succ_cons, List.drop_succ_cons]
      refine ⟨fun k hk => ?_, i2⟩
      rcases List.mem_cons.mp hk with rfl | hk
      · exact hs
      · exact i1 k hk
    · have e : cnt h (s :: r) = 0 := by
        unfold cnt
        rw [List.length_eq_zero_iff, List.filter_eq_nil_iff]
        intro a ha
        rcases List.mem_cons.mp ha with rfl | ha
        · simpa using hs
        · have := h1 a ha
          simp
          omega
      rw [e]
      refine ⟨fun k hk => by simp at hk, fun k hk => ?_⟩
      rcases List.mem_cons.mp hk with rfl | hk
      · omega
      · have := h1 k hk; omega
theorem put_sorted {h : Int} {S : List Int} (hS : S.Pairwise (· < ·)) (hh : h ∉ S) : (S.take (cnt h S) ++ h :: S.drop (cnt h S)).Pairwise (· < ·) := by
  obtain ⟨h1, h2⟩ := cut_sorted (h := h) hS
  refine List.pairwise_append.mpr ⟨hS.sublist (List.take_sublist _ _), List.pairwise_cons.mpr ⟨fun k hk => ?_, hS.sublist (List.drop_sublist _ _)⟩, fun a ha b hb => ?_⟩
  · have := h2 k hk
    have : k ≠ h := fun q => hh (q ▸ List.mem_of_mem_drop hk)
    omega
  · have a1 := h1 a ha
    rcases List.mem_cons.mp hb with rfl | hb
    · exact a1
    · have := h2 b hb; omega
theorem put_perm {h : Int} {S : List Int} (n : Nat) : (S.take n ++ h :: S.drop n).Perm (S ++ [h]) := by
  have e := List.take_append_drop n S
  refine List.perm_middle.trans ?_
  rw [e]
  exact (List.perm_append_singleton h S).symm
theorem put_txt {cells : List Int} {h c : Int} {S : List Int} {n : Nat} (hc : c = cells.getD h.toNat 0) : insX (txt cells S) c n = txt cells (S.take n ++ h :: S.drop n) := by
  unfold insX txt
  subst hc
  simp
theorem div_parts {q a n : Int} (h0 : 0 ≤ a) (h1 : a < n) : (q * n + a).fdiv n = q ∧ (q * n + a).fmod n = a := by
  have hn : 0 < n := by omega
  rw [Int.fdiv_eq_ediv_of_nonneg _ (by omega), Int.fmod_eq_emod_of_nonneg _ (by omega)]
  refine ⟨?_, ?_⟩
  · rw [Int.mul_comm, Int.mul_add_ediv_left _ _ (by omega), Int.ediv_eq_zero_of_lt h0 h1]
    omega
  · rw [Int.mul_comm, Int.add_comm, Int.add_mul_emod_self_left, Int.emod_eq_of_lt h0 h1]
theorem laid_go {cells : List Int} : ∀ (ord ins S : List Int) (point place : Int), S.Pairwise (· < ·) → S.Perm ins → (ins ++ ord).Nodup → ord.Pairwise (fun a b => enc (cells.getD a.toNat 0, a) < enc (cells.getD b.toNat 0, b)) →
    (∀ k ∈ ord, 0 ≤ k ∧ k < 1000 ∧ point ≤ cells.getD k.toNat 0 ∧ cells.getD k.toNat 0 ≤ 3200) → 128 ≤ point → -1 ≤ place → place < ins.length → (∀ k ∈ ord, cells.getD k.toNat 0 = point → place < cnt k ins) → ins.length + ord.length ≤ 28 →
    insOK (txt cells S) point place (numsF cells ins point place ord) ∧ ∃ S', S'.Pairwise (· < ·) ∧ S'.Perm (ins ++ ord) ∧ insF (txt cells S) point place (numsF cells ins point place ord) = txt cells S'
  | [], ins, S, point, place, hS, hp, _, _, _, _, _, _, _, _ => ⟨trivial, S, hS, by rw [List.append_nil]; exact hp, rfl⟩
  | h :: r, ins, S, point, place, hS, hp, hnd, hso, hk, h1, h2, h3, h4, h5 => by
    obtain ⟨s1, s2⟩ := List.pairwise_cons.mp hso
    obtain ⟨k0, k1, k2, k3⟩ := hk h (.head _)
    have hl : (txt cells S).length = ins.length := by rw [txt_len, hp.length_eq]
    have hcn : cnt h S = cnt h ins := cnt_perm hp
    have hcl := cnt_le h ins
    rw [List.length_cons] at h5
    have hbig : cells.getD h.toNat 0 - point ≤ 3072 := by omega
    have hsm : 0 ≤ cells.getD h.toNat 0 - point := by omega
    generalize hdd : (cells.getD h.toNat 0 - point) * ((ins.length : Int) + 1) + (cnt h ins : Int) - place - 1 = d
    have hp1 : place + (d + 1) = (cells.getD h.toNat 0 - point) * ((ins.length : Int) + 1) + (cnt h ins : Int) := by omega
    have hdp := div_parts (q := cells.getD h.toNat 0 - point) (a := (cnt h ins : Int)) (n := (ins.length : Int) + 1) (by omega) (by omega)
    have hC : insC (txt cells S) point place d = cells.getD h.toNat 0 := by
      unfold insC
      rw [hl, hp1, hdp.1]
      omega
    have hP : insP (txt cells S) place d = (cnt h ins : Int) := by
      unfold insP
      rw [hl, hp1, hdp.2]
    have hd0 : 0 ≤ d := by
      by_cases hc : cells.getD h.toNat 0 = point
      · have := h4 h (.head _) hc
        rw [hc, Int.sub_self, Int.zero_mul] at hdd
        omega
      · have : (1 : Int) * ((ins.length : Int) + 1) ≤ (cells.getD h.toNat 0 - point) * ((ins.length : Int) + 1) := Int.mul_le_mul_of_nonneg_right (by omega) (by omega)
        omega
    have hd1 : d ≤ 100000 := by
      have : (cells.getD h.toNat 0 - point) * ((ins.length : Int) + 1) ≤ 3072 * 29 := Int.mul_le_mul hbig (by omega) (by omega) (by omega)
      omega
    have hX : insX (txt cells S) (cells.getD h.toNat 0) (cnt h ins : Int) = txt cells (S.take (cnt h S) ++ h :: S.drop (cnt h S)) := by
      rw [hcn]
      exact put_txt rfl
    have hhS : h ∉ S := fun q => by
      have hd := (List.nodup_append.mp hnd).2.2
      exact hd h (hp.mem_iff.mp q) h (.head _) rfl
    have ih := laid_go r (ins ++ [h]) (S.take (cnt h S) ++ h :: S.drop (cnt h S)) (cells.getD h.toNat 0) (cnt h ins : Int) (put_sorted hS hhS) ((put_perm _).trans (hp.append_right _)) (by rw [List.append_assoc]; exact hnd) s2
      (fun k hkr => by
        obtain ⟨q0, q1, q2, q3⟩ := hk k (.tail _ hkr)
        have := s1 k hkr
        simp only [enc] at this
        exact ⟨q0, q1, by omega, q3⟩) (by omega) (by omega) (by rw [List.length_append, List.length_singleton]; omega)
      (fun k hkr hck => by
        obtain ⟨q0, q1, q2, q3⟩ := hk k (.tail _ hkr)
        have := s1 k hkr
        simp only [enc] at this
        have hlt : h < k := by omega
        rw [cnt_snoc hlt]
        have := cnt_mono hlt ins
        omega) (by rw [List.length_append, List.length_singleton]; omega)
    have en : numsF cells ins point place (h :: r) = d :: numsF cells (ins ++ [h]) (cells.getD h.toNat 0) (cnt h ins : Int) r := by
      rw [numsF, ← hdd]
      rfl
    rw [en, insOK, insF, hC, hP, hX]
    refine ⟨⟨hd0, hd1, by omega, ih.1⟩, ?_⟩
    obtain ⟨S', t1, t2, t3⟩ := ih.2
    exact ⟨S', t1, by rw [List.append_assoc] at t2; exact t2, t3⟩
theorem sorted_unique : ∀ {a b : List Int}, a.Pairwise (· < ·) → b.Pairwise (· < ·) → a.Perm b → a = b
  | [], b, _, _, p => by rw [List.nil_perm.mp p]
  | x :: a, [], _, _, p => by have := p.length_eq; simp at this
  | x :: a, y :: b, ha, hb, p => by
    obtain ⟨a1, a2⟩ := List.pairwise_cons.mp ha
    obtain ⟨b1, b2⟩ := List.pairwise_cons.mp hb
    have hxy : x = y := by
      have m1 := p.mem_iff.mp (List.Mem.head a)
      have m2 := p.mem_iff.mpr (List.Mem.head b)
      rcases List.mem_cons.mp m1 with h | h
      · exact h
      · rcases List.mem_cons.mp m2 with h' | h'
        · exact h'.symm
        · have := b1 x h; have := a1 y h'; omega
    subst hxy
    rw [sorted_unique a2 b2 (List.perm_cons x |>.mp p)]
/-- what the law's own laying does, in plain words -/
theorem laid_plain {cells there fresh ord S : List Int} (hs : there.Pairwise (· < ·)) (hnd : (there ++ fresh).Nodup) (hp : ord.Perm fresh) (hso : ord.Pairwise (fun a b => enc (cells.getD a.toNat 0, a) < enc (cells.getD b.toNat 0, b)))
    (hk : ∀ k ∈ fresh, 0 ≤ k ∧ k < 1000 ∧ 128 ≤ cells.getD k.toNat 0 ∧ cells.getD k.toNat 0 ≤ 3200) (hz : there.length + fresh.length ≤ 28) (hS : S.Pairwise (· < ·)) (hSp : S.Perm (there ++ fresh)) :
    insOK (txt cells there) 128 (-1) (numsF cells there 128 (-1) ord) ∧ insF (txt cells there) 128 (-1) (numsF cells there 128 (-1) ord) = txt cells S := by
  have h := laid_go (cells := cells) ord there there 128 (-1) hs (List.Perm.refl _) ((hp.append_left there).nodup_iff.mpr hnd) hso (fun k hkr => hk k (hp.mem_iff.mp hkr)) (by decide) (by decide) (by omega) (fun k _ _ => by omega) (by rw [hp.length_eq]; exact hz)
  refine ⟨h.1, ?_⟩
  obtain ⟨S', t1, t2, t3⟩ := h.2
  rw [t3, sorted_unique t1 hS (t2.trans ((hp.append_left there).trans hSp.symm))]
end Mine
end

section
open PySem PySem.W PyProof.Rows PySem.Calls
namespace Mine
theorem good_end {s₁ s' : Shared} {cw : ClaimW} {cl : Str → Option Addr} {mean : ExcName → Option Value} {args : List WData} {tabs : List (Addr × Addr)} {d : WData} {v : Value} (hT : TabsAt tabs s₁.heap) (hr : ∀ x, cw.raises args x = false)
    (keep : ∀ b o, (ghostOf s₁.heap tabs).get? b = some o → s'.heap.get? b = some o) (hgr : GrownAll tabs s'.heap) (hos : s'.os = s₁.os) (hg : s'.gens = #[]) (hv : ReadsW cw.records cl s'.heap v d []) (hpost : cw.post args d args = true) :
    GoodWG cw cl mean args s₁ (.ok (.ret v)) s' := by
  have keep' : ∀ b o, b ∉ tabs.map (·.2) → s₁.heap.get? b = some o → s'.heap.get? b = some o := fun b o hb e => keep b o (ghost_ne e hb)
  have grown : ∀ b o, b ∈ tabs.map (·.2) → s₁.heap.get? b = some o → isCodeTable s₁.heap b ∧ o = tabObj #[] ∧ ∃ ps, s'.heap.get? b = some (tabObj ps) := fun b o hb e => by
    obtain ⟨q, hq, rfl⟩ := List.mem_map.mp hb
    have e2 := (hT q hq).2
    rw [e] at e2
    exact ⟨((hT q hq).1.tab (hT q hq).2).isCodeTable, Option.some.inj e2, hgr.get q hq⟩
  refine ⟨.inl ⟨v, d, [], rfl, hr, hv, hpost, fun _ => ⟨List.nodup_nil, fun _ h => nomatch h⟩⟩, ⟨fun b o e => ?_, fun b o e => ?_⟩, hos, .of_eq hg⟩
  · by_cases hb : b ∈ tabs.map (·.2)
    · obtain ⟨ht, rfl, ps, hP⟩ := grown b o hb e
      exact .inr (.inl ⟨ht, rfl, #[], ps, rfl, by rw [Array.empty_append]; exact hP⟩)
    · exact .inl (keep' b o hb e)
  · by_cases hb : b ∈ tabs.map (·.2)
    · obtain ⟨_, _, ps, hP⟩ := grown b o hb e
      exact ⟨_, hP⟩
    · exact ⟨o, keep' b o hb e⟩
end Mine
end

section
open PySem PySem.W PyProof.Rows PySem.Calls
namespace Mine
def ListAt (rest : List (Addr × Obj)) (p : Addr) (l : List Int) : Prop := ∃ v, (p, listOf v.toArray 0) ∈ rest ∧ IntsAre v l
def OrdAt (rest : List (Addr × Obj)) (lO : Addr) : Prop := ∃ p1 p2 p3 p4 p5 p6, (lO, listOf #[.ref p1, .ref p2, .ref p3, .ref p4, .ref p5, .ref p6] 0) ∈ rest ∧ ListAt rest p1 [1, 2, 3] ∧ ListAt rest p2 [1, 3, 2] ∧ ListAt rest p3 [2, 1, 3] ∧ ListAt rest p4 [2, 3, 1] ∧ ListAt rest p5 [3, 1, 2] ∧ ListAt rest p6 [3, 2, 1]
theorem listAt3 {rest : List (Addr × Obj)} {p : Addr} {a b c : Int} {t u v : Tok} (h : (p, listOf #[.int a t, .int b u, .int c v] 0) ∈ rest) : ListAt rest p [a, b, c] := ⟨[.int a t, .int b u, .int c v], h, .cons _ _ (.cons _ _ (.cons _ _ .nil))⟩
theorem news_pick {h₀ h : Heap} {L : Addr} {a b : List (Addr × Obj)} (N : News h₀ L h b) (hs : ∀ q ∈ a, q ∈ b) : News h₀ L h a := fun q hq => N q (hs q hq)
theorem ord_pack2 {h₀ h : Heap} {L c lO p1 p2 p3 p4 p5 p6 : Addr} {t1 t2 t3 u1 u2 u3 v1 v2 v3 w1 w2 w3 x1 x2 x3 y1 y2 y3 : Tok} {A B C D E F G : Addr × Obj}
    (N : News h₀ L h [(lO, listOf #[.ref p1, .ref p2, .ref p3, .ref p4, .ref p5, .ref p6] 0), (p6, listOf #[.int 3 y1, .int 2 y2, .int 1 y3] 0), (p5, listOf #[.int 3 x1, .int 1 x2, .int 2 x3] 0), (p4, listOf #[.int 2 w1, .int 3 w2, .int 1 w3] 0), (p3, listOf #[.int 2 v1, .int 1 v2, .int 3 v3] 0), (p2, listOf #[.int 1 u1, .int 3 u2, .int 2 u3] 0), (p1, listOf #[.int 1 t1, .int 2 t2, .int 3 t3] 0), A, B, C, D, E, F, G])
    (hne : ∀ b ∈ [lO, p6, p5, p4, p3, p2, p1], b ≠ 58 ∧ b ≠ c) : ∃ rest, OrdAt rest lO ∧ (∀ q ∈ rest, q.1 ≠ 58 ∧ q.1 ≠ c) ∧ News h₀ L h (A :: B :: C :: D :: E :: G :: rest) := by
  refine ⟨[(lO, listOf #[.ref p1, .ref p2, .ref p3, .ref p4, .ref p5, .ref p6] 0), (p6, listOf #[.int 3 y1, .int 2 y2, .int 1 y3] 0), (p5, listOf #[.int 3 x1, .int 1 x2, .int 2 x3] 0), (p4, listOf #[.int 2 w1, .int 3 w2, .int 1 w3] 0), (p3, listOf #[.int 2 v1, .int 1 v2, .int 3 v3] 0), (p2, listOf #[.int 1 u1, .int 3 u2, .int 2 u3] 0), (p1, listOf #[.int 1 t1, .int 2 t2, .int 3 t3] 0)],
    ⟨p1, p2, p3, p4, p5, p6, by simp, listAt3 (t := t1) (u := t2) (v := t3) (by simp), listAt3 (t := u1) (u := u2) (v := u3) (by simp), listAt3 (t := v1) (u := v2) (v := v3) (by simp), listAt3 (t := w1) (u := w2) (v := w3) (by simp), listAt3 (t := x1) (u := x2) (v := x3) (by simp), listAt3 (t := y1) (u := y2) (v := y3) (by simp)⟩, ?_, ?_⟩
  · intro q hq
    simp only [List.mem_cons, List.not_mem_nil, or_false] at hq
    rcases hq with rfl | rfl | rfl | rfl | rfl | rfl | rfl <;> exact hne _ (by simp)
  · refine news_pick N ?_
    kcf_all
theorem compEnd_rest {h₀ : Heap} {L I C D : Addr} {m : Str → Option Value} {s₁ : Shared} {oI oC oD : Obj} {S : List (Addr × Obj) → Prop} {rest : Value → List (Addr × Obj) → Prop} {y : Value} {h' : Heap} {tk : Nat} {news' : List (Addr × Obj)}
    (F : Fr h₀ L h' m) (N : News h₀ L h' ((I, oI) :: (C, oC) :: (D, oD) :: news')) (off : LCg.Off3 I C D news') (hS : S news') (r : rest y news') : LCg.CompEnd h₀ L m s₁ I oI C oC D oD S rest y { s₁ with heap := h', toks := tk } := ⟨h', tk, news', rfl, F, N, off, hS, r⟩
theorem fold_pick {p : Int → Prop} [DecidablePred p] : ∀ (l acc : List Int), l.foldl (fun l' k' => if p k' then l' ++ [k'] else l') acc = acc ++ l.filter (fun k => decide (p k))
  | [], acc => by simp
  | a :: l, acc => by
    rw [List.foldl_cons, fold_pick l]
    by_cases h : p a <;> simp [h]
def pick0 (ly : List Int) (n : Nat) : List Int := List.foldl (fun l' k' => if ly.getD k'.toNat 0 = 0 then l' ++ [k'] else l') [] (rangeKs 0 ((n : Int) - 0).toNat)
theorem pick0_is (ly : List Int) (n : Nat) : pick0 ly n = (rangeKs 0 n).filter (fun k => decide (ly.getD k.toNat 0 = 0)) := by
  unfold pick0
  rw [fold_pick, List.nil_append, Int.sub_zero, Int.toNat_natCast]
theorem rangeKs_mem {n : Nat} {k : Int} (h : k ∈ rangeKs 0 n) : 0 ≤ k ∧ k < n := by
  unfold rangeKs at h
  simp at h
  omega
theorem pick0_mem {ly : List Int} {n : Nat} {k : Int} (h : k ∈ pick0 ly n) : 0 ≤ k ∧ k < n := by
  rw [pick0_is] at h
  exact rangeKs_mem (List.mem_filter.mp h).1
def pick1 (ly : List Int) (n : Nat) : List Int := List.foldl (fun l' k' => if 0 < ly.getD k'.toNat 0 then l' ++ [k'] else l') [] (rangeKs 0 ((n : Int) - 0).toNat)
theorem pick1_is (ly : List Int) (n : Nat) : pick1 ly n = (rangeKs 0 n).filter (fun k => decide (0 < ly.getD k.toNat 0)) := by
  unfold pick1
  rw [fold_pick, List.nil_append, Int.sub_zero, Int.toNat_natCast]
def pickE (ly : List Int) (n : Nat) (y : Int) : List Int := List.foldl (fun l' k' => if ly.getD k'.toNat 0 = y then l' ++ [k'] else l') [] (rangeKs 0 ((n : Int) - 0).toNat)
theorem pickE_is (ly : List Int) (n : Nat) (y : Int) : pickE ly n y = (rangeKs 0 n).filter (fun k => decide (ly.getD k.toNat 0 = y)) := by
  unfold pickE
  rw [fold_pick, List.nil_append, Int.sub_zero, Int.toNat_natCast]
theorem rangeKs_up (n : Nat) : (rangeKs 0 n).Pairwise (· < ·) := by
  unfold rangeKs
  rw [List.pairwise_map]
  exact List.pairwise_lt_range.imp fun h => by omega
def layF (x : Int) : Int := x.fmod 4
def celF (x : Int) : Int := if x.fmod 4 = 0 then (x.fdiv 4).fmod 3000 else 128 + (x.fdiv 4).fmod 3000
structure LawF (ly cz : List Int) : Prop where
  len : ly.length = cz.length
  lo : 3 ≤ cz.length
  hi : cz.length ≤ 27
  cell : ∀ k : Nat, k < cz.length → 0 ≤ cz.getD k 0 ∧ cz.getD k 0 ≤ 3200
  lay : ∀ k : Nat, k < cz.length → 0 ≤ ly.getD k 0 ∧ ly.getD k 0 ≤ 3
  far : ∀ k : Nat, k < cz.length → ly.getD k 0 ≠ 0 → 128 ≤ cz.getD k 0
theorem lawF_of {xs : List Int} (h : xs.length ≤ 24) : LawF ([2, 0, 1] ++ xs.map layF) ([130, 200, 129] ++ xs.map celF) := by
  have pt : ∀ k : Nat, k < ([130, 200, 129] ++ xs.map celF).length → (0 ≤ ([130, 200, 129] ++ xs.map celF).getD k 0 ∧ ([130, 200, 129] ++ xs.map celF).getD k 0 ≤ 3200) ∧
      (0 ≤ ([2, 0, 1] ++ xs.map layF).getD k 0 ∧ ([2, 0, 1] ++ xs.map layF).getD k 0 ≤ 3) ∧ (([2, 0, 1] ++ xs.map layF).getD k 0 ≠ 0 → 128 ≤ ([130, 200, 129] ++ xs.map celF).getD k 0) := by
    intro k hk
    match k, hk with
    | 0, _ => simp
    | 1, _ => simp
    | 2, _ => simp
    | k + 3, hk =>
      have hk' : k < xs.length := by simpa using hk
      have e1 : ([130, 200, 129] ++ xs.map celF).getD (k + 3) 0 = celF xs[k] := by simp [List.getD_eq_getElem?_getD, hk']
      have e2 : ([2, 0, 1] ++ xs.map layF).getD (k + 3) 0 = layF xs[k] := by simp [List.getD_eq_getElem?_getD, hk']
      rw [e1, e2]
      have b1 := Int.fmod_nonneg_of_pos (xs[k].fdiv 4) (b := 3000) (by decide)
      have b2 := Int.fmod_lt_of_pos (xs[k].fdiv 4) (b := 3000) (by decide)
      have b3 := Int.fmod_nonneg_of_pos xs[k] (b := 4) (by decide)
      have b4 := Int.fmod_lt_of_pos xs[k] (b := 4) (by decide)
      unfold celF layF
      split
      · rename_i h0
        refine ⟨⟨b1, by omega⟩, ⟨b3, by omega⟩, fun q => absurd h0 q⟩
      · exact ⟨⟨by omega, by omega⟩, ⟨b3, by omega⟩, fun _ => by omega⟩
  refine ⟨by simp, by simp, by simp; omega, fun k hk => (pt k hk).1, fun k hk => (pt k hk).2.1, fun k hk => (pt k hk).2.2⟩
theorem idx_hi {k : Int} {n m : Nat} (h : k < 0 + ((((n : Nat) : Int) - 0).toNat : Int)) (e : m = n) : k < m := by omega
section
variable {prog : Program} {w : World} {A : Around} {E : Value → Shared → Prop} {s : Shared} {h₀ : Heap} {L : Addr} {news : List (Addr × Obj)}
theorem item_news {value slice : Expr} {l : Addr} {vs : List Value} {zs : List Int} {n : Nat} {k : Int} {u : Tok} {Q : Value → Shared → Prop} (N : News h₀ L s.heap news) (hm : (l, listOf vs.toArray n) ∈ news) (hi : IntsAre vs zs)
    (h0 : 0 ≤ k) (h1 : k < zs.length) (hz : zs.length ≤ 60) (h : ∀ t, Q (.int (zs.getD k.toNat 0) t) s)
    (hs : subscripted slice false (.ref l) (.int k u) = operate [.ref l, .int k u] (getItem (.ref l) (.int k u)) := by with_unfolding_all rfl) (hg : ∀ r, letTemporaryGo value (.ref l) r = pure () := by intro _; with_unfolding_all rfl) :
    wpAny (model prog w) A (subscriptTail value slice (.ref l) (.int k u)) Q E s :=
  item_list_ints ⟨_, (N _ hm).1, rfl, n, rfl⟩ hi h0 h1 (by omega) h hs hg
end
theorem gen_toks {M : Model} {A : Around} {α : Type} {t : Sem α} {Q : α → Shared → Prop} {E : Value → Shared → Prop} {s : Shared} {h : Heap} (H : ∀ tk, wpS M A t Q E { s with heap := h, toks := tk }) (tk : Nat) : wpS M A t Q E { s with heap := h, toks := tk } := H tk
end Mine
end

section
open PySem PySem.W PyProof.Rows PySem.Calls
set_option maxRecDepth 100000
namespace Mine
inductive CharsAre : List Value → List Nat → Prop
  | nil : CharsAre [] []
  | cons (c : Nat) (t : Tok) {vs : List Value} {cs : List Nat} : CharsAre vs cs → CharsAre (.str ⟨#[c]⟩ t :: vs) (c :: cs)
theorem CharsAre.snoc {c : Nat} {t : Tok} : ∀ {vs : List Value} {cs : List Nat}, CharsAre vs cs → CharsAre (vs ++ [.str ⟨#[c]⟩ t]) (cs ++ [c])
  | _, _, .nil => .cons _ _ .nil
  | _, _, .cons c' t' h => .cons c' t' h.snoc
section
variable {prog : Program} {w : World} {A : Around} {h₀ : Heap} {L : Addr} {m : Str → Option Value} {env : Env} {elt : Expr} {x : Str} {scope : Scope} {cl : List (Str × Addr)} {s : Shared} {S : List (Addr × Obj) → Prop} {P : Nat → Value → Prop} {Fin : List Value → List (Addr × Obj) → Prop} {news : List (Addr × Obj)}
theorem chars_rest {n : Nat} {ks : List Int} (f : Int → Nat) (hks : ks.length = n) (hP : ∀ i v, i < n → P i v → ∃ k t, ks[i]? = some k ∧ v = .int k t)
    (turn : ∀ k t I oI C oC D m₂ ys h tk (E' : Value → Shared → Prop), k ∈ ks → LCg.NsObj oC m₂ → m₂ x = some (.int k t) → Fr h₀ L h m → News h₀ L h ((I, oI) :: (C, oC) :: (D, LCg.lst ys) :: news) → LCg.Off3 I C D news → ((@Ne Nat I C) ∧ (@Ne Nat I D) ∧ (@Ne Nat C D)) →
      wpAny (model prog w) A (eval elt (compEnvC scope cl C env)) (LCg.CompEnd h₀ L m { s with heap := h, toks := tk } I oI C oC D (LCg.lst ys) S (fun y news' => news' = news ∧ ∃ t, y = .str ⟨#[f k]⟩ t)) E' { s with heap := h, toks := tk })
    (fin : ∀ ys, CharsAre ys (ks.map f) → Fin ys news) : LCg.CompRest prog w A h₀ L m env elt x scope cl s S P Fin n 0 [] news := by
  have key : ∀ (j i : Nat) (ys : List Value), i + j = n → CharsAre ys ((ks.take i).map f) → LCg.CompRest prog w A h₀ L m env elt x scope cl s S P Fin j i ys news := by
    intro j
    induction j with
    | zero =>
      intro i ys hi hy
      rw [List.take_of_length_le (by omega)] at hy
      exact LCg.CompRest.zero (fin ys hy)
    | succ j ih =>
      intro i ys hi hy
      refine LCg.CompRest.succ fun v I oI C oC D m₂ h tk E' hv hC hx F N off ne => ?_
      obtain ⟨k, t, hk, hv'⟩ := hP i v (by omega) hv
      rw [hv'] at hx
      have hs : (ks.take (i + 1)).map f = (ks.take i).map f ++ [f k] := by
        rw [List.take_add_one, hk]; simp
      refine wpAny_mono (turn k t I oI C oC D m₂ ys h tk E' (List.mem_of_getElem? hk) hC hx F N off ne) (fun y s₃ hr => ?_) fun _ _ e => e
      obtain ⟨h', tk', nw, e, F', N', off', hS, hn, t', hy'⟩ := hr
      rw [hn] at N' off' hS
      refine ⟨h', tk', news, e, F', N', off', hS, ?_⟩
      rw [hy']
      exact ih (i + 1) _ (by omega) (by rw [hs]; exact hy.snoc)
  exact key n 0 [] (by omega) (by simpa using CharsAre.nil)
/-- [chr(..) for k in l] over a list of the ledger -/
theorem chars_src {vs : List Value} {ks : List Int} {ax : Addr} {nl : Nat} (f : Int → Nat) (hI : IntsAre vs ks) (hh : A.handled = none) (F : Fr h₀ L s.heap m) (N : News h₀ L s.heap news) (hm : (ax, listOf vs.toArray nl) ∈ news) (hz : ks.length ≤ 60) {Q : Value → Shared → Prop}
    (turn : ∀ k t I oI C oC D m₂ ys h tk (E' : Value → Shared → Prop), k ∈ ks → LCg.NsObj oC m₂ → m₂ x = some (.int k t) → Fr h₀ L h m → News h₀ L h ((I, oI) :: (C, oC) :: (D, LCg.lst ys) :: news) → LCg.Off3 I C D news → ((@Ne Nat I C) ∧ (@Ne Nat I D) ∧ (@Ne Nat C D)) →
      wpAny (model prog w) A (eval elt (compEnvC scope cl C env)) (LCg.CompEnd h₀ L m { s with heap := h, toks := tk } I oI C oC D (LCg.lst ys) (LCg.SrcAt h₀ ax vs.toArray) (fun y news' => news' = news ∧ ∃ t, y = .str ⟨#[f k]⟩ t)) E' { s with heap := h, toks := tk })
    (fin : ∀ ys, CharsAre ys (ks.map f) → ∀ D h tk, Fr h₀ L h m → News h₀ L h ((D, LCg.lst ys) :: news) → LCg.Off1 D news → Q (.ref D) { s with heap := h, toks := tk }) :
    LCg.CompSrc prog w A h₀ L m env elt x scope cl (fun s₂ => LCg.FinE h₀ L m s₂ Q) (.ref ax) s := by
  refine LCg.CompSrc.ledger hh F N hm (by rw [List.size_toArray, hI.length, sizeLine_eq]; omega) fun g => ?_
  refine chars_rest (ks := ks) f (by rw [List.size_toArray]; exact hI.length.symm) (fun i v _ hv => ?_) (fun k t I oI C oC D m₂ ys h tk E' hk hC hx F N off ne => turn k t I oI C oC D m₂ ys h tk E' hk hC hx F N off ne) fun ys hy D h tk F N off => fin ys hy D h tk F N off
  obtain ⟨k, t, e, hk⟩ := IntsAre.at hI i v (by simpa using hv)
  exact ⟨k, t, hk, e⟩
end
end Mine
namespace Mine
theorem CharsAre.strs : ∀ {vs : List Value} {cs : List Nat}, CharsAre vs cs → StrsAre vs (cs.map fun c => (⟨#[c]⟩ : Str))
  | _, _, .nil => .nil
  | _, _, .cons c t h => .cons _ _ h.strs
theorem signs_txt (cs : List Nat) : signs ⟨cs.toArray⟩ = cs.map fun c => (⟨#[c]⟩ : Str) := by
  unfold signs
  simp
section
variable {prog : Program} {w : World} {A : Around} {E : Value → Shared → Prop} {s : Shared}
theorem lens_ones : ∀ (cs : List Nat), ((cs.map fun c => (⟨#[c]⟩ : Str)).map (·.length)).sum = cs.length
  | [] => rfl
  | c :: cs => by
    have := lens_ones cs
    simp only [List.map_cons, List.sum_cons, List.length_cons]
    rw [this]
    show 1 + cs.length = _
    omega
theorem join_chars {D : Addr} {ys : List Value} {cs : List Nat} {t : Tok} {Q : Value → Shared → Prop} (hl : s.heap.IsList D ys.toArray) (hc : CharsAre ys cs) (hz : cs.length ≤ 60)
    (h : ∀ t' k, Q (.str ⟨cs.toArray⟩ t') { s with toks := k }) :
    wpAny (model prog w) A (call (.builtin "str.join") [.str (Str.ofString "") t, .ref D]) Q E s := by
  refine join_list hl (by simpa using hc.strs) ?_ ?_
  · rw [lens_ones, List.length_map]
    have : (Str.ofString "").length = 0 := by decide
    rw [this]
    omega
  · intro t' k
    have e : Txt.join (Str.ofString "") (cs.map fun c => (⟨#[c]⟩ : Str)) = ⟨cs.toArray⟩ := by
      rw [← signs_txt, eq_of_beq (join_closes (sep' := ⟨#[]⟩) (by decide))]
      exact join_nil_signs _
    rw [e]
    exact h t' k
end
end Mine
end

section
open PySem PySem.W PyProof.Rows PySem.Calls
namespace Mine
theorem rangeKs_nodup (n : Nat) : (rangeKs 0 n).Nodup := (rangeKs_up n).imp fun h => by omega
theorem pick0_up (ly : List Int) (n : Nat) : (pick0 ly n).Pairwise (· < ·) := by rw [pick0_is]; exact (rangeKs_up n).filter _
theorem pick1_up (ly : List Int) (n : Nat) : (pick1 ly n).Pairwise (· < ·) := by rw [pick1_is]; exact (rangeKs_up n).filter _
theorem pickE_up (ly : List Int) (n : Nat) (y : Int) : (pickE ly n y).Pairwise (· < ·) := by rw [pickE_is]; exact (rangeKs_up n).filter _
theorem up_nodup {l : List Int} (h : l.Pairwise (· < ·)) : l.Nodup := h.imp fun h => by omega
theorem pick0_len (ly : List Int) (n : Nat) : (pick0 ly n).length ≤ n := by
  rw [pick0_is]
  exact Nat.le_trans (List.length_filter_le _ _) (Nat.le_of_eq (rangeKs_length 0 n))
theorem pick1_len (ly : List Int) (n : Nat) : (pick1 ly n).length ≤ n := by
  rw [pick1_is]
  exact Nat.le_trans (List.length_filter_le _ _) (Nat.le_of_eq (rangeKs_length 0 n))
theorem pick1_mem {ly : List Int} {n : Nat} {k : Int} (h : k ∈ pick1 ly n) : (0 ≤ k ∧ k < n) ∧ 0 < ly.getD k.toNat 0 := by
  rw [pick1_is] at h
  have := List.mem_filter.mp h
  exact ⟨rangeKs_mem this.1, of_decide_eq_true this.2⟩
theorem picks_all {ly cz : List Int} (h : LawF ly cz) : (pick0 ly cz.length ++ pick1 ly cz.length).Perm (rangeKs 0 cz.length) := by
  rw [pick0_is, pick1_is]
  have e : (rangeKs 0 cz.length).filter (fun k => decide (0 < ly.getD k.toNat 0)) = (rangeKs 0 cz.length).filter (fun k => !decide (ly.getD k.toNat 0 = 0)) := by
    refine List.filter_congr fun k hk => ?_
    have hr := rangeKs_mem hk
    have hl := h.lay k.toNat (by omega)
    rw [← decide_not, decide_eq_decide]
    omega
  rw [e]
  exact List.filter_append_perm _ _
theorem picks_sum {ly cz : List Int} (h : LawF ly cz) : (pick0 ly cz.length).length + (pick1 ly cz.length).length = cz.length := by
  have := (picks_all h).length_eq
  rw [List.length_append, rangeKs_length] at this
  exact this
theorem whole_ok {ly cz : List Int} (h : LawF ly cz) : ∀ ord : List Int, ord.Perm (pick1 ly cz.length) → ord.Pairwise (fun a b => enc (cz.getD a.toNat 0, a) < enc (cz.getD b.toNat 0, b)) →
    insOK (txt cz (pick0 ly cz.length)) 128 (-1) (numsF cz (pick0 ly cz.length) 128 (-1) ord) ∧ insF (txt cz (pick0 ly cz.length)) 128 (-1) (numsF cz (pick0 ly cz.length) 128 (-1) ord) = txt cz (rangeKs 0 cz.length) := by
  intro ord hp hs
  refine laid_plain (pick0_up _ _) ((picks_all h).nodup_iff.mpr (rangeKs_nodup _)) hp hs (fun k hk => ?_) (by have := picks_sum h; have := h.hi; omega) (rangeKs_up _) (picks_all h).symm
  obtain ⟨⟨k0, k1⟩, k2⟩ := pick1_mem hk
  have hc := h.cell k.toNat (by omega)
  have hf := h.far k.toNat (by omega) (by omega)
  have := h.hi
  exact ⟨k0, by omega, hf, hc.2⟩
theorem txt_all (cz : List Int) : txt cz (rangeKs 0 cz.length) = ⟨(cz.map Int.toNat).toArray⟩ := by
  unfold txt rangeKs
  rw [List.map_map]
  have e : (List.range cz.length).map ((fun k => (cz.getD k.toNat 0).toNat) ∘ fun (i : Nat) => (0 : Int) + (i : Int)) = cz.map Int.toNat := by
    apply List.ext_getElem
    · simp
    · intro i h1 h2
      have h3 : i < cz.length := by simpa using h2
      simp [List.getD_eq_getElem?_getD, h3]
  rw [e]
theorem LawF.mem {ly cz : List Int} (h : LawF ly cz) {k : Int} (hk : k ∈ cz) : 0 ≤ k ∧ k ≤ 3200 := by
  obtain ⟨i, hi, rfl⟩ := List.getElem_of_mem hk
  have := h.cell i hi
  rw [List.getD_eq_getElem?_getD, List.getElem?_eq_getElem hi] at this
  exact this
end Mine
end

section
open PySem PySem.W PyProof.Rows PySem.Calls
namespace Mine
/-- the places whose layer is one of `ls` -/
def pickM (ly : List Int) (n : Nat) (ls : List Int) : List Int := (rangeKs 0 n).filter (fun k => decide (ly.getD k.toNat 0 ∈ ls))
theorem pickM_up (ly : List Int) (n : Nat) (ls : List Int) : (pickM ly n ls).Pairwise (· < ·) := (rangeKs_up n).filter _
theorem pickM_mem {ly : List Int} {n : Nat} {ls : List Int} {k : Int} (h : k ∈ pickM ly n ls) : 0 ≤ k ∧ k < n := rangeKs_mem (List.mem_filter.mp h).1
theorem pickM_len (ly : List Int) (n : Nat) (ls : List Int) : (pickM ly n ls).length ≤ n :=
  Nat.le_trans (List.length_filter_le _ _) (Nat.le_of_eq (rangeKs_length 0 n))
theorem pickM_one (ly : List Int) (n : Nat) : pickM ly n [0] = pick0 ly n := by
  rw [pick0_is]
  exact List.filter_congr fun k _ => by rw [decide_eq_decide]; simp
theorem pickE_mem {ly : List Int} {n : Nat} {y k : Int} (h : k ∈ pickE ly n y) : (0 ≤ k ∧ k < n) ∧ ly.getD k.toNat 0 = y := by
  rw [pickE_is] at h
  have := List.mem_filter.mp h
  exact ⟨rangeKs_mem this.1, of_decide_eq_true this.2⟩
theorem pickE_len (ly : List Int) (n : Nat) (y : Int) : (pickE ly n y).length ≤ n := by
  rw [pickE_is]
  exact Nat.le_trans (List.length_filter_le _ _) (Nat.le_of_eq (rangeKs_length 0 n))
theorem pickM_more {ly : List Int} {n : Nat} {ls : List Int} {y : Int} (hy : y ∉ ls) : (pickM ly n ls ++ pickE ly n y).Perm (pickM ly n (ls ++ [y])) := by
  rw [pickE_is]
  have e1 : pickM ly n ls = (pickM ly n (ls ++ [y])).filter (fun k => decide (ly.getD k.toNat 0 ∈ ls)) := by
    unfold pickM
    rw [List.filter_filter]
    refine List.filter_congr fun k _ => ?_
    rw [← Bool.decide_and, decide_eq_decide, List.mem_append]
    exact ⟨fun h => ⟨h, .inl h⟩, fun h => h.1⟩
  have e2 : (rangeKs 0 n).filter (fun k => decide (ly.getD k.toNat 0 = y)) = (pickM ly n (ls ++ [y])).filter (fun k => !decide (ly.getD k.toNat 0 ∈ ls)) := by
    unfold pickM
    rw [List.filter_filter]
    refine List.filter_congr fun k _ => ?_
    rw [← decide_not, ← Bool.decide_and, decide_eq_decide, List.mem_append, List.mem_singleton]
    exact ⟨fun h => ⟨fun q => hy (h ▸ q), .inr h⟩, fun h => h.2.resolve_left h.1⟩
  rw [e2]
  conv => lhs; arg 1; rw [e1]
  exact List.filter_append_perm _ _
theorem pickM_next {ly : List Int} {n : Nat} {ls S : List Int} {y : Int} (hy : y ∉ ls) (hp : S.Perm (pickM ly n ls ++ pickE ly n y)) (hs : S.Pairwise (· ≤ ·)) : S = pickM ly n (ls ++ [y]) := by
  have p := hp.trans (pickM_more hy)
  have nd : S.Nodup := p.nodup_iff.mpr (up_nodup (pickM_up _ _ _))
  exact sorted_unique ((hs.and nd).imp fun h => by omega) (pickM_up _ _ _) p
theorem layer_ok {ly cz ls : List Int} {y : Int} (h : LawF ly cz) (hy : y ∉ ls) (hy0 : y ≠ 0) : ∀ ord : List Int, ord.Perm (pickE ly cz.length y) → ord.Pairwise (fun a b => enc (cz.getD a.toNat 0, a) < enc (cz.getD b.toNat 0, b)) →
    insOK (txt cz (pickM ly cz.length ls)) 128 (-1) (numsF cz (pickM ly cz.length ls) 128 (-1) ord) ∧ insF (txt cz (pickM ly cz.length ls)) 128 (-1) (numsF cz (pickM ly cz.length ls) 128 (-1) ord) = txt cz (pickM ly cz.length (ls ++ [y])) := by
  intro ord hp hs
  have pm := pickM_more (ly := ly) (n := cz.length) hy
  have hl := pm.length_eq
  rw [List.length_append] at hl
  have := pickM_len ly cz.length (ls ++ [y])
  have := h.hi
  refine laid_plain (pickM_up _ _ _) (pm.nodup_iff.mpr (up_nodup (pickM_up _ _ _))) hp hs (fun k hk => ?_) (by omega) (pickM_up _ _ _) pm.symm
  obtain ⟨⟨k0, k1⟩, k2⟩ := pickE_mem hk
  have hc := h.cell k.toNat (by omega)
  have hf := h.far k.toNat (by omega) (by rw [k2]; exact hy0)
  exact ⟨k0, by omega, hf, hc.2⟩
/-- one of the six orders -/
def Ord3 (l : List Int) : Prop := l.length = 3 ∧ (0 :: l).Nodup
theorem Ord3.not {l : List Int} (h : Ord3 l) {i : Nat} (hi : i < l.length) : l[i] ∉ 0 :: l.take i ∧ l[i] ≠ 0 := by
  obtain ⟨h1, h2⟩ := List.nodup_cons.mp h.2
  have hm := List.getElem_mem hi
  refine ⟨fun q => ?_, fun q => h1 (q ▸ hm)⟩
  rcases List.mem_cons.mp q with q | q
  · exact h1 (q ▸ hm)
  · obtain ⟨j, hj, e⟩ := List.getElem_of_mem q
    rw [List.getElem_take] at e
    have hj' : j < i := by
      have := hj
      rw [List.length_take] at this
      omega
    have := (List.getElem_inj h2).mp e
    omega
theorem news_ne {h₀ h : Heap} {L a b : Addr} {x y : Obj} {news : List (Addr × Obj)} (N : News h₀ L h news) (ha : (a, x) ∈ news) (hb : (b, y) ∈ news) (hd : x.data ≠ y.data) : @Ne Nat a b := fun e => by
  have a1 := (N _ ha).1
  have a2 := (N _ hb).1
  have e' : a = b := e
  dsimp only at a1 a2
  rw [e', a2] at a1
  exact hd (congrArg Obj.data (Option.some.inj a1).symm)
theorem TabSt.ne_cell {h₀ h : Heap} {L b : Addr} {y : Obj} {v : Option Value} {tab news : List (Addr × Obj)} (TB : TabSt tab) (N : News h₀ L h news) (hs : ∀ q ∈ tab, q ∈ news) (hb : (b, y) ∈ news) (hd : y.data = .cell v) : ∀ q ∈ tab, q.1 ≠ b := by
  intro q hq
  refine news_ne N (x := q.2) (hs q hq) hb ?_
  rw [hd]
  cases TB with
  | none => rw [List.mem_singleton.mp hq]; exact fun e => nomatch e
  | some c' oc vs t e1 e2 =>
    rcases List.mem_cons.mp hq with rfl | hq
    · dsimp only; rw [e1]; exact fun e => nomatch e
    · rw [List.mem_singleton.mp hq]; exact fun e => nomatch e
theorem TabSt.ne_list {h₀ h : Heap} {L a : Addr} {vs : Array Value} {n : Nat} {tab news : List (Addr × Obj)} (TB : TabSt tab) (N : News h₀ L h news) (hs : ∀ q ∈ tab, q ∈ news) (ha : (a, listOf vs n) ∈ news) : a ≠ 58 := fun e => by
  subst e
  obtain ⟨ps, hps⟩ := TB.at58
  have a1 := (N _ ha).1
  have a2 := (N _ (hs _ hps)).1
  rw [a1] at a2
  cases a2
section
variable {prog : Program} {w : World} {A : Around} {E : Value → Shared → Prop} {s : Shared} {h₀ : Heap} {L : Addr} {news rest : List (Addr × Obj)}
theorem item_ord {value slice : Expr} {lO : Addr} {k : Int} {u : Tok} {Q : Value → Shared → Prop} (hO : OrdAt rest lO) (N : News h₀ L s.heap news) (hsub : ∀ q ∈ rest, q ∈ news) (h0 : 0 ≤ k) (h1 : k < 6)
    (h : ∀ p l, Ord3 l → ListAt rest p l → Q (.ref p) s)
    (hs : subscripted slice false (.ref lO) (.int k u) = operate [.ref lO, .int k u] (getItem (.ref lO) (.int k u)) := by with_unfolding_all rfl) (hg : ∀ r, letTemporaryGo value (.ref lO) r = pure () := by intro _; with_unfolding_all rfl) :
    wpAny (model prog w) A (subscriptTail value slice (.ref lO) (.int k u)) Q E s := by
  obtain ⟨p1, p2, p3, p4, p5, p6, hm, l1, l2, l3, l4, l5, l6⟩ := hO
  have hl : s.heap.IsList lO #[.ref p1, .ref p2, .ref p3, .ref p4, .ref p5, .ref p6] := ⟨_, (N _ (hsub _ hm)).1, rfl, _, rfl⟩
  have hk : k = 0 ∨ k = 1 ∨ k = 2 ∨ k = 3 ∨ k = 4 ∨ k = 5 := by omega
  rcases hk with rfl | rfl | rfl | rfl | rfl | rfl
  · exact item_list hl h0 (by decide) rfl (h _ _ ⟨rfl, by decide⟩ l1) hs hg
  · exact item_list hl h0 (by decide) rfl (h _ _ ⟨rfl, by decide⟩ l2) hs hg
  · exact item_list hl h0 (by decide) rfl (h _ _ ⟨rfl, by decide⟩ l3) hs hg
  · exact item_list hl h0 (by decide) rfl (h _ _ ⟨rfl, by decide⟩ l4) hs hg
  · exact item_list hl h0 (by decide) rfl (h _ _ ⟨rfl, by decide⟩ l5) hs hg
  · exact item_list hl h0 (by decide) rfl (h _ _ ⟨rfl, by decide⟩ l6) hs hg
end
end Mine
end

section
open PySem PySem.W PyProof.Rows PySem.Calls
namespace Mine
section
variable {prog : Program} {w : World} {A : Around} {R : Result → Shared → Prop} {s : Shared} {h₀ base : Heap} {m mg mb : Str → Option Value} {p : Program} {loose : List Str} {mean : ExcName → Option Value}
/-- entering the law from the caller, its own frame and cells made -/
theorem codeS_top {f : Addr} {args : Args} {oc od osl} {name qual : Str} {params : Arguments} {body : List Stmt} {scope : Scope} {dV kV doc pm : Value} {an : Option Addr} {cdv ct : Value} {binds : List (Str × Value)} {tabs : List (Addr × Addr)} {K : Frag}
    (hT : TabsAt tabs s.heap) (X : K.In s.heap) (hK : noTabs K = true) (T : Top p loose mean mg mb s.heap) (ho : K.lookup f = some ⟨oc, od, .func (fnOf name qual params body scope dV kV doc pm an cdv ct), osl⟩) (hcd : codeIn K cdv qual = true)
    (hbind : BindsTo s (fnOf name qual params body scope dV kV doc pm an cdv ct) args binds) (hkind : (binds.all fun y => scope.names.lookup y.1 == some .local || scope.names.lookup y.1 == some .cell) = true)
    (hnd : ((cellsFrom 0 scope.names []).map (·.1)).Nodup)
    (h : ∀ L' h₁ tk cells, Fr (ghostOf s.heap tabs) L' h₁ (bindL (envOfC qual scope L' f cdv).kindOf binds fun _ => none) → News (ghostOf s.heap tabs) L' h₁ (cells ++ tabNews tabs) →
      CellsAre (bindC (envOfC qual scope L' f cdv).kindOf binds fun _ => none) (cellsFrom (L' + 1) scope.names []) cells → Below callerA (ghostOf s.heap tabs) [] (ghostOf s.heap tabs) → K.In (ghostOf s.heap tabs) →
      Top topProg (loose ++ (recsOf p).map (·.name) ++ (litsOf p).map (·.1) ++ (clssOf p loose).map (·.name)) mean mg mb (ghostOf s.heap tabs) → CodeAll tabs (ghostOf s.heap tabs) → (∀ q ∈ tabNews tabs, q.1 < L') → s.heap.objs.size = L' →
      wpS (model prog w) (callerA.deeper (envOfC qual scope L' f cdv)) (execs body (envOfC qual scope L' f cdv))
        (fun fl s' => R (.ok (.ret (match fl with | .ret v => v | _ => .none))) s') (fun _ _ => False) { s with heap := h₁, toks := tk })
    (hco : scope.isCoroutine = false) (hgen : scope.isGenerator = false) (hk : scope.kind = .function) : codeS (model prog w) callerA (.call (.ref f) args) R s := by
  refine codeS_call_function (fd := fnOf name qual params body scope dV kV doc pm an cdv ct) (body := body) (by decide +kernel) (X _ _ ho) rfl hco hgen rfl (codeRec_of X hcd) (hbind _ _ _ _ ?_)
  refine wpAny_newFunctionEnv_cells hk (kindsX hkind _) fun env' he s' x => ?_
  subst he
  refine ⟨(T.nolimit).keeps x.toInCall.keep, codeS_func ?_⟩
  obtain ⟨h₁, tk, rfl, _⟩ := x.done
  have hk₁ := x.toInCall.keep
  obtain ⟨cells, NC, Y⟩ := Cl.news (h₀ := s.heap) (Nat.le_refl _) fun n c hm => ⟨x.cell n c (lookup_of_mem_nodup (cellsFrom_names scope.names 0 (s.heap.objs.size + 1) [] [] rfl ▸ hnd) hm), x.above n c hm⟩
  have F1 : Fr s.heap s.heap.objs.size h₁ _ := ⟨x.toInCall.ns, fun b o e => hk₁ b o e, Nat.le_refl _⟩
  exact h s.heap.objs.size h₁ tk cells (ghost_fr hT F1) (ghost_news hT F1 NC) Y (ghost_below hT) (ghost_K hT X hK) (ghost_top hT T) (ghost_code hT) (ghost_lt hT F1) rfl
end
structure PickMark (ax : Addr) (vs : List Value) (ks cz : List Int) : Prop where
  hI : IntsAre vs ks
  hz : ks.length ≤ 60
  hk : ∀ k ∈ ks, 0 ≤ k ∧ k < cz.length
  hc : ∀ k ∈ ks, 0 ≤ cz.getD k.toNat 0 ∧ cz.getD k.toNat 0 ≤ 3200
structure CellMark (ax : Addr) (vs : List Value) (ks : List Int) : Prop where
  hI : IntsAre vs ks
  hz : ks.length ≤ 60
section
variable {prog : Program} {w : World} {A : Around} {h₀ : Heap} {L : Addr} {m : Str → Option Value} {env : Env} {elt : Expr} {x : Str} {scope : Scope} {cl : List (Str × Addr)} {s : Shared} {news : List (Addr × Obj)}
theorem chars_cells {vs : List Value} {ks : List Int} {ax : Addr} {nl : Nat} (mk : CellMark ax vs ks) (hh : A.handled = none) (F : Fr h₀ L s.heap m) (N : News h₀ L s.heap news) (hm : (ax, listOf vs.toArray nl) ∈ news) {Q : Value → Shared → Prop}
    (turn : ∀ k t I oI C oC D m₂ ys h tk (E' : Value → Shared → Prop), k ∈ ks → LCg.NsObj oC m₂ → m₂ x = some (.int k t) → Fr h₀ L h m → News h₀ L h ((I, oI) :: (C, oC) :: (D, LCg.lst ys) :: news) → LCg.Off3 I C D news → ((@Ne Nat I C) ∧ (@Ne Nat I D) ∧ (@Ne Nat C D)) →
      wpAny (model prog w) A (eval elt (compEnvC scope cl C env)) (LCg.CompEnd h₀ L m { s with heap := h, toks := tk } I oI C oC D (LCg.lst ys) (LCg.SrcAt h₀ ax vs.toArray) (fun y news' => news' = news ∧ ∃ t, y = .str ⟨#[k.toNat]⟩ t)) E' { s with heap := h, toks := tk })
    (fin : ∀ ys, CharsAre ys (ks.map Int.toNat) → ∀ D h tk, Fr h₀ L h m → News h₀ L h ((D, LCg.lst ys) :: news) → LCg.Off1 D news → Q (.ref D) { s with heap := h, toks := tk }) :
    LCg.CompSrc prog w A h₀ L m env elt x scope cl (fun s₂ => LCg.FinE h₀ L m s₂ Q) (.ref ax) s := chars_src Int.toNat mk.hI hh F N hm mk.hz turn fin
theorem chars_pick {vs : List Value} {ks cz : List Int} {ax : Addr} {nl : Nat} (mk : PickMark ax vs ks cz) (hh : A.handled = none) (F : Fr h₀ L s.heap m) (N : News h₀ L s.heap news) (hm : (ax, listOf vs.toArray nl) ∈ news) {Q : Value → Shared → Prop}
    (turn : ∀ k t I oI C oC D m₂ ys h tk (E' : Value → Shared → Prop), k ∈ ks → 0 ≤ k → k < cz.length → (0 ≤ cz.getD k.toNat 0 ∧ cz.getD k.toNat 0 ≤ 3200) → LCg.NsObj oC m₂ → m₂ x = some (.int k t) → Fr h₀ L h m → News h₀ L h ((I, oI) :: (C, oC) :: (D, LCg.lst ys) :: news) → LCg.Off3 I C D news → ((@Ne Nat I C) ∧ (@Ne Nat I D) ∧ (@Ne Nat C D)) →
      wpAny (model prog w) A (eval elt (compEnvC scope cl C env)) (LCg.CompEnd h₀ L m { s with heap := h, toks := tk } I oI C oC D (LCg.lst ys) (LCg.SrcAt h₀ ax vs.toArray) (fun y news' => news' = news ∧ ∃ t, y = .str ⟨#[(cz.getD k.toNat 0).toNat]⟩ t)) E' { s with heap := h, toks := tk })
    (fin : ∀ ys, CharsAre ys (ks.map fun k => (cz.getD k.toNat 0).toNat) → ∀ D h tk, Fr h₀ L h m → News h₀ L h ((D, LCg.lst ys) :: news) → LCg.Off1 D news → Q (.ref D) { s with heap := h, toks := tk }) :
    LCg.CompSrc prog w A h₀ L m env elt x scope cl (fun s₂ => LCg.FinE h₀ L m s₂ Q) (.ref ax) s :=
  chars_src (fun k => (cz.getD k.toNat 0).toNat) mk.hI hh F N hm mk.hz (fun k t I oI C oC D m₂ ys h tk E' hk => turn k t I oI C oC D m₂ ys h tk E' hk (mk.hk k hk).1 (mk.hk k hk).2 (mk.hc k hk)) fin
end
section
local macro_rules | `(tactic| walk_at "CompSrc") => `(tactic| (k_here; (refine' chars_cells (by assumption) rfl (by k_asm) (by k_asm) (by first | k_mem | kcf_m) (fun k9 t9 I9 oI9 C9 oC9 D9 m9 ys9 h9 tk9 E9 hk9 hC9 hx9 F9 N9 off9 ne9 => ?_) (fun ys9 hy9 D9 h9 tk9 F9 N9 off9 => ?_))))
local macro_rules | `(tactic| walk_at "CompSrc") => `(tactic| (k_here; (refine' chars_pick (by assumption) rfl (by k_asm) (by k_asm) (by first | k_mem | kcf_m) (fun k9 t9 I9 oI9 C9 oC9 D9 m9 ys9 h9 tk9 E9 hk9 hk1 hk2 hk3 hC9 hx9 F9 N9 off9 ne9 => ?_) (fun ys9 hy9 D9 h9 tk9 F9 N9 off9 => ?_))))
local macro_rules | `(tactic| walk_at "eval ListComp") => `(tactic| (k_here; k_dflt (refine LCg.ListComp_U (F₀ := by k_asm) (by with_unfolding_all rfl) (by decide) (by rfl) (by decide) (by rfl) ?_)))
local macro_rules | `(tactic| walk_at "call builtin:chr") => `(tactic| (refine chr_of_range (by have hm := LawF.mem (by assumption) (by assumption); omega) (by have hm := LawF.mem (by assumption) (by assumption); omega) ?_))
local macro_rules | `(tactic| walk_at "CompEnd") => `(tactic| (k_dflt (refine' compEnd_rest ?F ?N ?off ?S ?_; (case F => k_asm); (case N => k_asm); (case off => assumption); (case S => first | exact True.intro | exact .inr ⟨_, (by first | k_mem | kcf_m), rfl, _, rfl⟩))))
local macro_rules | `(tactic| walk_at "binaryOp Mod int int") => `(tactic| (with_reducible refine mod_int' (by decide) ?_))
local macro_rules | `(tactic| walk_at "subscriptTail Name BinOp ref int") => `(tactic| (refine' item_ord (by assumption) (by k_asm) (fun q hq => by kcf_m) (Int.fmod_nonneg_of_pos _ (by decide)) (Int.fmod_lt_of_pos _ (by decide)) (fun pO lOrd hO3 hOl => ?_)))
local macro_rules | `(tactic| k_all) => `(tactic| with_reducible assumption)
local macro_rules | `(tactic| walk_at "subscriptTail Name Name ref int") => `(tactic| (k_dflt (refine' item_news ?k1 ?k2 ?k3 ?k4 ?k5 ?k6 ?_; (case k1 => k_asm); (case k2 => k_mem); (case k3 => assumption); (case k4 => assumption); (case k5 => first | exact idx_hi (by assumption) (by assumption) | exact idx_hi (by assumption) rfl | assumption); (case k6 => assumption)); intro _))
set_option maxRecDepth 100000 in
set_option maxHeartbeats 3000000 in
theorem fin : PySem.Challenge.rw_io0059_01.Holds := hd (by
  k_fill
  k_with_none
  w_top off
  intro w s₀ s₁ mg mb G Y fa o pm cd doc dV kV ho hdat hcd hD hmg hg args vals as hpre hlay hrd hwl hlo
  have KX := km_in_of Y
  km_tabs Y
  have X := (Ground.X G).1
  have V := (Ground.X G).2
  refine Ground.open G ?_
  intro T B D TE TW
  clear D
  km_lay T hmg ho hdat cd
  wrow_args hpre hlay hrd hwl hlo
  rename_i sc _ _ _ _ _ _ _ ls vs _ hL0 _ _ _ hI0 _ hlen _
  have h66 := mg_of KX T.g (n := Str.ofString "law") (v := .ref 66) (by k_is)
  replace hmg : mg (Str.ofString "law") = some (.ref fa) := hmg
  rw [hmg] at h66
  obtain rfl : fa = 66 := Value.ref.inj (Option.some.inj h66)
  refine wpS_call ?_
  k_dflt (refine' codeS_top (tabs := [(60, 58)]) (K := Mine.hd.heap_39 w.params) hT9 KX ?k0 T ?k6 ?k7 ?k9 ?kB ?kD ?_ ?c2 ?c3 ?c4; (case k0 => kernel_rfl); (case k6 => k_is); (case k7 => k_is); (case k9 => exact BindsTo.of_eq rfl); (case kD => decide); (case kB => exact rfl); (case c2 => exact rfl); (case c3 => exact rfl); (case c4 => exact rfl))
  intro L1 h1 tk1 cells' F1 N1 Y1 B1 X1 T1 C1 lt1 hL1
  obtain ⟨o1, o2, o3, hE, d1, d2, d3⟩ := CellsAre.three Y1
  subst hE
  clear Y1
  replace d1 : o1.data = .cell none := d1
  replace d2 : o2.data = .cell none := d2
  replace d3 : o3.data = .cell none := d3
  simp only [List.cons_append, List.nil_append, tabNews, List.map_cons, List.map_nil] at N1
  have lt58 : (58 : Nat) < L1 := lt1 (58, tabObj #[]) (.head _)
  have CH1 : CodeHd (ghostOf s₁.heap [(60, 58)]) 60 58 := C1.1
  have hL9 := ghost_list hT9 hL0
  have hI9 := hI0
  have hlen9 : sc.length ≤ 63 := by omega
  have hret : ∀ (tab : List (Addr × Obj)) (m' : Str → Option Value) (h' : Heap) (tk' : Nat), TabSt tab → Fr (ghostOf s₁.heap [(60, 58)]) L1 h' m' → News (ghostOf s₁.heap [(60, 58)]) L1 h' tab →
      GoodWG Challenge.rw_io0059_01.row.claim (classAt s₀.heap) (ExcName.means s₀.heap) [ofPy (PyData.list (List.map PyData.int sc))] s₁ (Except.ok (Flow.ret (.bool true))) { s₁ with heap := h', toks := tk' } := by
    intro tab m' h' tk' TB' F' N'
    obtain ⟨ps, hps⟩ := TB'.at58
    exact good_end hT9 (fun _ => rfl) (fun b o e => F'.keep b o e) ⟨⟨ps, (N' _ hps).1⟩, trivial⟩ rfl hg (ReadsW.bool _) (by wrow_post)
  clear lt1 C1
  generalize hg0 : ghostOf s₁.heap [(60, 58)] = g0 at *
  clear G Y X V B TE TW hT9 T KX ho h66 hmg hL0 hI0 hlen hL1 hT8 hg
  rename_i a1 a2 a3 a4 a5 a6 a7 a8 a9 a10 a11 a12 a13
  clear hD hdat hcd hg0
  clear a1 a2 a3 a4 a5 a9 a10 a11 a12 a13
  refine wpS_execs_cons (wpS_of ?_)
  k_steps
  refine wpS_execs_cons (wpS_of ?_)
  k_steps
  refine wpS_execs_cons (wpS_For ?_)
  k_steps
  rename_i lL _ zA _ oL dL lC _ zB _ oC dC D ws _ Fz Nz hIw hCw hLw zC
  refine wpAny_pyIter_list ⟨_, (Nz _ (.head _)).1, rfl, _, rfl⟩ ?_
  dsimp only
  suffices key : ∀ (m3 : Str → Option Value), Fr g0 L1 _ m3 → m3 (Str.ofString "script") = some (.ref ls) → _ from key _ Fz rfl
  clear Fz
  intro m3 F3 ma
  have hxz : (sc.take 24).length ≤ 24 := by omega
  generalize hxs : sc.take 24 = xs at *
  refine forListS (l := D) (items := ws.toArray) (m₀ := m3) (h₀ := g0) (L := L1) (σ := (List Int × List Value × Nat) × (List Int × List Value × Nat))
    (fun c => (lC, listOf c.2.2.1.toArray c.2.2.2) :: (lL, listOf c.1.2.1.toArray c.1.2.2) :: (L1 + 1 + 1 + 1, o1) :: (L1 + 1 + 1, oC) :: (L1 + 1, oL) :: (D, listOf ws.toArray 0) :: (58, tabObj #[]) :: [])
    (fun c => [(Str.ofString "script", .ref ls)]) [Str.ofString "x"]
    (fun i c => IntsAre c.1.2.1 c.1.1 ∧ IntsAre c.2.2.1 c.2.1 ∧ c.1.1 = [2, 0, 1] ++ (xs.take i).map layF ∧ c.2.1 = [130, 200, 129] ++ (xs.take i).map celF)
    (([2, 0, 1], [.int 2 tk1, .int 0 (tk1 + 1), .int 1 (tk1 + 1 + 1)], 0), ([130, 200, 129], [.int 130 (tk1 + 1 + 1 + 1), .int 200 (tk1 + 1 + 1 + 1 + 1), .int 129 (tk1 + 1 + 1 + 1 + 1 + 1)], 0)) rfl (fun _ _ => rfl) (fun c h m' _ N' => ⟨_, (N' (D, listOf ws.toArray 0) (.tail _ (.tail _ (.tail _ (.tail _ (.tail _ (.head _))))))).1, rfl, 0, rfl⟩)
    ?hio ⟨Nat.ne_of_gt F3.ns.lt, Heap.get?_none_of_le (Nat.le_trans F3.above (Nat.le_of_lt F3.ns.lt))⟩ ⟨_, Heap.get?_push_size _ rfl, rfl, rfl⟩ (F3.push _) (News.grown (fun q hq => Nz q ?sub) fun b o e => Heap.get?_push_of_some _ e)
    (by intro q hq; simp only [List.mem_cons, List.not_mem_nil, or_false] at hq; subst hq; exact ma) ⟨.cons 2 _ (.cons 0 _ (.cons 1 _ .nil)), .cons 130 _ (.cons 200 _ (.cons 129 _ .nil)), rfl, rfl⟩ ?turn ?done
  case sub =>
    simp only [List.mem_cons, List.not_mem_nil, or_false] at hq ⊢
    rcases hq with h | h | h | h | h | h | h
    · exact .inr (.inl h)
    · exact .inr (.inr (.inl h))
    · exact .inr (.inr (.inr (.inl h)))
    · exact .inr (.inr (.inr (.inr (.inl h))))
    · exact .inr (.inr (.inr (.inr (.inr (.inl h)))))
    · exact .inl h
    · exact .inr (.inr (.inr (.inr (.inr (.inr h)))))
  case hio =>
    intro q hq
    refine Nat.ne_of_lt ?_
    simp only [List.mem_cons, List.not_mem_nil, or_false] at hq
    rcases hq with rfl | rfl | rfl | rfl | rfl | rfl | rfl
    · exact Heap.lt_size (Nz _ (.tail _ (.head _))).1
    · exact Heap.lt_size (Nz _ (.tail _ (.tail _ (.head _)))).1
    · exact Heap.lt_size (Nz _ (.tail _ (.tail _ (.tail _ (.head _))))).1
    · exact Heap.lt_size (Nz _ (.tail _ (.tail _ (.tail _ (.tail _ (.head _)))))).1
    · exact Heap.lt_size (Nz _ (.tail _ (.tail _ (.tail _ (.tail _ (.tail _ (.head _))))))).1
    · exact Heap.lt_size (Nz _ (.head _)).1
    · exact Heap.lt_size (Nz _ (.tail _ (.tail _ (.tail _ (.tail _ (.tail _ (.tail _ (.head _)))))))).1
  case turn =>
    clear Nz F3
    intro i v c u h tk own hv hP apart F5 N5
    obtain ⟨⟨ly, vl, nl⟩, ⟨cz, vc, nc⟩⟩ := c
    obtain ⟨hIl, hIc, hly, hcz⟩ := hP
    dsimp only [kstB] at F5 N5 hIl hIc hly hcz
    have hi : i < xs.length := by
      have h9 := (Array.getElem?_eq_some_iff.mp hv).1
      rw [List.size_toArray, hIw.length] at h9
      exact h9
    obtain ⟨tv, hx⟩ := hIw.get i xs[i] (by simp [hi])
    have hvv : v = .int xs[i] tv := by
      have h7 : ws[i]? = some v := by simpa using hv
      rw [hx] at h7; exact (Option.some.inj h7).symm
    subst hvv
    have htk : xs.take (i + 1) = xs.take i ++ [xs[i]] := by rw [List.take_add_one]; simp [hi]
    have hlz : vl.length ≤ 60 := by rw [hIl.length, hly]; simp; omega
    have hcz2 : vc.length ≤ 60 := by rw [hIc.length, hcz]; simp; omega
    generalize xs[i] = x at *
    have a1 : ∀ q ∈ own, q.1 ≠ lC := fun q hq => Ne.symm (apart q hq _ (.head _))
    have a2 : ∀ q ∈ own, q.1 ≠ lL := fun q hq => Ne.symm (apart q hq _ (.tail _ (.head _)))
    simp only [List.cons_append, List.nil_append] at N5
    refine wpAny_assign_Name ?_
    k_steps
    refine wpS_execs_cons (wpS_of ?_)
    k_steps
    refine wpS_execs_cons (wpS_of ?_)
    k_steps
    · dsimp only
      refine wpS_execs_nil ?_
      show ForEndG _ _ _ _ _ _ _ _ _ _
      rename Fr _ _ _ _ => Fe
      rename News _ _ _ _ => Ne
      simp only [List.push_toArray] at Ne
      have hb : celF x = (x.fdiv 4).fmod 3000 := if_pos (by first | assumption | omega)
      refine forEndG ⟨(ly ++ [x.fmod 4], _, _), (cz ++ [(x.fdiv 4).fmod 3000], _, _)⟩ Fe Ne
        (fun p hp => (List.cons_subset_cons _ (List.cons_subset_cons _ (List.cons_subset_cons _ (List.cons_subset_cons _ (List.cons_subset_cons _ (List.cons_subset_cons _ (List.cons_subset_cons _ (List.nil_subset _)))))))) hp)
        (fun p hp => .tail _ (.tail _ (.tail _ (.tail _ (.tail _ (.tail _ (.tail _ hp))))))) ?n3 (by kst_all) (by ksw_same) ⟨ksk_snoc hIl, ksk_snoc hIc, ?_, ?_⟩
      case n3 =>
        intro p hp q hq
        rcases List.mem_cons.mp hq with rfl | hq
        · exact (apart p hp (lC, listOf vc.toArray nc) (.head _) : lC ≠ p.1)
        rcases List.mem_cons.mp hq with rfl | hq
        · exact (apart p hp (lL, listOf vl.toArray nl) (.tail _ (.head _)) : lL ≠ p.1)
        · exact apart p hp q (.tail _ (.tail _ hq))
      · dsimp only
        rw [htk, List.map_append, hly, List.append_assoc]
        rfl
      · dsimp only
        rw [htk, List.map_append, hcz, List.append_assoc, List.map_singleton, hb]
        rfl
    · dsimp only
      refine wpS_execs_nil ?_
      show ForEndG _ _ _ _ _ _ _ _ _ _
      rename Fr _ _ _ _ => Fe
      rename News _ _ _ _ => Ne
      simp only [List.push_toArray] at Ne
      have hb : celF x = 128 + (x.fdiv 4).fmod 3000 := if_neg (by first | assumption | omega)
      refine forEndG ⟨(ly ++ [x.fmod 4], _, _), (cz ++ [128 + (x.fdiv 4).fmod 3000], _, _)⟩ Fe Ne
        (fun p hp => (List.cons_subset_cons _ (List.cons_subset_cons _ (List.cons_subset_cons _ (List.cons_subset_cons _ (List.cons_subset_cons _ (List.cons_subset_cons _ (List.cons_subset_cons _ (List.nil_subset _)))))))) hp)
        (fun p hp => .tail _ (.tail _ (.tail _ (.tail _ (.tail _ (.tail _ (.tail _ hp))))))) ?n3 (by kst_all) (by ksw_same) ⟨ksk_snoc hIl, ksk_snoc hIc, ?_, ?_⟩
      case n3 =>
        intro p hp q hq
        rcases List.mem_cons.mp hq with rfl | hq
        · exact (apart p hp (lC, listOf vc.toArray nc) (.head _) : lC ≠ p.1)
        rcases List.mem_cons.mp hq with rfl | hq
        · exact (apart p hp (lL, listOf vl.toArray nl) (.tail _ (.head _)) : lL ≠ p.1)
        · exact apart p hp q (.tail _ (.tail _ hq))
      · dsimp only
        rw [htk, List.map_append, hly, List.append_assoc]
        rfl
      · dsimp only
        rw [htk, List.map_append, hcz, List.append_assoc, List.map_singleton, hb]
        rfl
  case done =>
    clear Nz F3
    intro c u h tk hP F5 N5
    obtain ⟨⟨ly, vl, nl⟩, ⟨cz, vc, nc⟩⟩ := c
    obtain ⟨hIl, hIc, hly, hcz⟩ := hP
    dsimp only [kstB] at F5 N5 hIl hIc hly hcz ⊢
    have hsz : ws.toArray.size = xs.length := by rw [List.size_toArray, hIw.length]
    rw [hsz, List.take_length] at hly hcz
    have hLF : LawF ly cz := by rw [hly, hcz]; exact lawF_of hxz
    have hLen := hLF.len
    have hLo := hLF.lo
    have hHi := hLF.hi
    have hz1 : ly.length ≤ 60 := by omega
    have hz2 : cz.length ≤ 60 := by omega
    clear hly hcz hIw hCw hLw hxs hxz hsz
    refine wpS_execs_cons ?_
    refine wpS_of ?_
    k_steps
    rename_i l6 _ y6 l5 _ y5 l4 _ y4 l3 _ y3 l2 _ y2 l1 _ y1 lO _ y0 h6 F6 N6
    obtain ⟨rest, hOrd, hrest, N7⟩ := ord_pack2 (c := L1 + 1 + 1 + 1) N6 (by
      intro b hb
      simp only [List.mem_cons, List.not_mem_nil, or_false] at hb
      rcases hb with rfl | rfl | rfl | rfl | rfl | rfl | rfl <;> refine ⟨neN ?_, neN ?_⟩ <;> omega)
    clear N6 y0 y1 y2 y3 y4 y5 y6 zC
    refine gen_toks (s := s₁) (h := h6) ?_ _
    intro tk2
    refine wpS_execs_cons ?_
    refine wpS_of ?_
    k_steps
    rename_i h7 tk7 z1 z2 z3 z4 z5 z6 z7 g7 hI8 z8 hL8 lT h8 tk8 F8 N8 off8
    clear z4 z5 z6 z7 z8 hL8 g7
    dsimp only at F8
    obtain ⟨th, hth⟩ : ∃ th, th = pick0 ly cz.length := ⟨_, rfl⟩
    replace hI8 : IntsAre ys th := by rw [hth]; exact hI8
    generalize ys = ysT at *
    have hthk : ∀ k ∈ th, 0 ≤ k ∧ k < cz.length := fun k hk => pick0_mem (hth ▸ hk)
    have hth9' := hth
    refine gen_toks (s := s₁) (h := h8) ?_ _
    clear h7 tk7 z1 z2 z3
    intro tk3
    refine wpS_execs_cons ?_
    refine wpS_of ?_
    refine wpAny_Assign_Name ?_
    k_steps
    rename News _ _ _ _ => Nc
    rename Fr _ _ _ _ => Fc
    have hthz : th.length ≤ 60 := by rw [hth9']; exact Nat.le_trans (pick0_len _ _) hz2
    refine chars_src (fun k => (cz.getD k.toNat 0).toNat) hI8 rfl Fc Nc (.head _) hthz ?_ ?_
    · intro k t I oI C oC D m₂ ys' h tk E' hk hC hx F N off ne
      obtain ⟨hk0, hk1⟩ := hthk k hk
      have hcl := hLF.cell k.toNat (by omega)
      clear Nc Fc
      k_steps
    · intro ys' hy D h tk F N off
      clear Nc Fc
      k_steps
      refine join_chars ⟨_, (N _ (.head _)).1, rfl, _, rfl⟩ hy (by rw [List.length_map]; exact hthz) ?_
      intro t9 k9
      k_steps
      rename Fr _ _ _ _ => F9
      rename News _ _ _ _ => N9
      have N10 := news_pick N9 (a := (lT, listOf ysT.toArray ysT.length) :: (lC, listOf vc.toArray nc) :: (lL, listOf vl.toArray nl) :: (L1 + 1 + 1 + 1, o1) :: (L1 + 1 + 1, oC) :: (L1 + 1, oL) :: (58, tabObj #[]) :: rest) fun q hq => .tail _ hq
      clear N9
      refine gen_toks (s := s₁) ?_ _
      intro tk4
      refine wpS_execs_cons ?_
      refine wpS_of ?_
      k_steps
      rename_i h7 tk7 z1 z2 z3 z4 z5 z6 z7 g7 hIf z8 hL8 lF h11 tk11 F11 N11 off11
      clear z4 z5 z6 z7 z8 hL8 g7
      dsimp only at F11
      obtain ⟨fr, hfr⟩ : ∃ fr, fr = pick1 ly cz.length := ⟨_, rfl⟩
      replace hIf : IntsAre ys fr := by rw [hfr]; exact hIf
      refine gen_toks (s := s₁) ?_ _
      clear z1 z2 z3
      intro tk5
      refine wpS_execs_cons ?_
      refine wpS_Assign_Name ?_
      refine wpS_Call_Name ?_
      k_steps
      refine wpS_callK (K := Mine.hd.heap_39 w.params) (by k_is) ?_
      k_steps
      rename Fr _ _ _ _ => F12
      rename News _ _ _ _ => N12
      have hth9 : th = pick0 ly cz.length := hth9'
      have hok1 : ∀ ord : List Int, ord.Perm fr → ord.Pairwise (fun a b => enc (cz.getD a.toNat 0, a) < enc (cz.getD b.toNat 0, b)) → insOK (txt cz th) 128 (-1) (numsF cz th 128 (-1) ord) ∧ insF (txt cz th) 128 (-1) (numsF cz th 128 (-1) ord) = txt cz (rangeKs 0 cz.length) := by
        rw [hth9, hfr]; exact whole_ok hLF
      have hfz : fr.length ≤ 60 := by rw [hfr]; exact Nat.le_trans (pick1_len _ _) hz2
      have hfin : ∀ k ∈ fr, 0 ≤ k ∧ k < cz.length := fun k hk => (pick1_mem (hfr ▸ hk)).1
      have hfnd : fr.Nodup := by rw [hfr]; exact up_nodup (pick1_up _ _)
      have N13 := news_pick N12 (a := (lC, listOf vc.toArray nc) :: (lT, listOf ysT.toArray ysT.length) :: (lF, listOf ys.toArray ys.length) :: ([(58, tabObj #[])] ++ ((lL, listOf vl.toArray nl) :: (lC, listOf vc.toArray nc) :: (lT, listOf ysT.toArray ysT.length) :: (L1 + 1 + 1 + 1, o1) :: (L1 + 1 + 1, oC) :: (L1 + 1, oL) :: rest))) (by simp only [List.cons_append, List.nil_append]; kcf_all)
      k_dflt (refine laid_does w (txt cz th) t9 lC lT lF cz th fr vc ysT ys nc ysT.length ys.length (txt cz (rangeKs 0 cz.length)) hIc hI8 hIf (by omega) (txt_len cz th).symm (by omega) hfz hfin hfnd hok1 _ _ _ _ _ _ _ _ _ _ _ _ _ _ _ _ _ _ _ _ _ _ _ B1 F12 X1 .none N13 ?_ CH1 T1 rfl ?_ ?_ ?_)
      · intro q hq
        have l58 : (58, tabObj #[]) ∈ (lF, LCg.lst ys) :: (lT, listOf ysT.toArray ysT.length) :: (lC, listOf vc.toArray nc) :: (lL, listOf vl.toArray nl) :: (L1 + 1 + 1 + 1, o1) :: (L1 + 1 + 1, oC) :: (L1 + 1, oL) :: (58, tabObj #[]) :: rest := by simp
        have nl58 : ∀ (a : Addr) (v : Array Value) (n : Nat), (a, listOf v n) ∈ (lF, LCg.lst ys) :: (lT, listOf ysT.toArray ysT.length) :: (lC, listOf vc.toArray nc) :: (lL, listOf vl.toArray nl) :: (L1 + 1 + 1 + 1, o1) :: (L1 + 1 + 1, oC) :: (L1 + 1, oL) :: (58, tabObj #[]) :: rest → a ≠ 58 := fun a v n h e => by
          subst e
          have a1 := (N12 _ h).1
          have a2 := (N12 _ l58).1
          rw [a1] at a2
          cases a2
        simp only [List.mem_cons] at hq
        rcases hq with rfl | rfl | rfl | rfl | rfl | rfl | hq
        · exact nl58 lL vl.toArray nl (by simp)
        · exact nl58 lC vc.toArray nc (by simp)
        · exact nl58 lT ysT.toArray ysT.length (by simp)
        · exact neN (by dsimp only; omega)
        · exact neN (by dsimp only; omega)
        · exact neN (by dsimp only; omega)
        · exact (hrest q hq).1
      · decide +kernel
      · decide +kernel
      intro tab3 h13 tk13 t13 TB3 _ F13 N14
      clear N12 N13
      dsimp only
      k_steps
      rename Fr _ _ _ _ => F14
      rename News _ _ _ _ => N15
      rw [txt_all] at F14
      have hCM : CellMark lC vc cz := ⟨hIc, hz2⟩
      refine gen_toks (s := s₁) ?_ _
      intro tk6
      refine wpS_execs_cons ?_
      refine wpS_of ?_
      k_steps
      rename CharsAre _ _ => hyw
      rename News _ _ _ _ => Nw
      refine join_chars ⟨_, (Nw _ (.head _)).1, rfl, _, rfl⟩ hyw (by rw [List.length_map]; exact hz2) ?_
      clear hyw N15
      intro t10 k10
      k_steps
      · rename (_ != _) = true => hb
        exact absurd hb (by simp)
      rename (_ != _) = false => hb
      clear hb
      dsimp only
      rename Fr _ _ _ _ => F16
      replace F16 := F16
      have N16 := news_pick Nw (a := tab3 ++ (lL, listOf vl.toArray nl) :: (lC, listOf vc.toArray nc) :: (lT, listOf ysT.toArray ysT.length) :: (L1 + 1 + 1 + 1, o1) :: (L1 + 1 + 1, oC) :: (L1 + 1, oL) :: rest) fun q hq => .tail _ hq
      clear Nw F14
      refine gen_toks (s := s₁) ?_ _
      intro tk7
      refine wpS_execs_cons ?_
      refine wpS_of ?_
      k_steps
      rename Fr _ _ _ _ => F17
      rename News _ _ _ _ => N17
      refine gen_toks (s := s₁) ?_ _
      intro tk8
      refine wpS_execs_cons (wpS_For ?_)
      k_steps
      rename Fr _ _ _ _ => F18
      rename News _ _ _ _ => N18
      rename Ord3 _ => hO3
      rename ListAt _ _ _ => hOl
      rename_i pO ordL
      obtain ⟨vO, hOm, hOI⟩ := hOl
      refine wpAny_pyIter_list ⟨_, (N18 (pO, listOf vO.toArray 0) (by kcf_m)).1, rfl, 0, rfl⟩ ?_
      dsimp only
      suffices key : ∀ (m3 : Str → Option Value), Fr g0 L1 _ m3 → m3 (Str.ofString "text") = some (.str (txt cz th) t9) → m3 (Str.ofString "there") = some (.ref lT) → _ from key _ F18 rfl rfl
      clear F18
      intro m5 F19 ma5 mb5
      have nC1 : @Ne Nat lL (L1 + 1 + 1 + 1) := news_ne N18 (y := o1) (x := listOf vl.toArray nl) (by kcf_m) (by kcf_m) (by rw [d1]; exact fun e => nomatch e)
      have nC2 : @Ne Nat lC (L1 + 1 + 1 + 1) := news_ne N18 (y := o1) (x := listOf vc.toArray nc) (by kcf_m) (by kcf_m) (by rw [d1]; exact fun e => nomatch e)
      have N19 := news_pick N18 (a := (lL, listOf vl.toArray nl) :: (lC, listOf vc.toArray nc) :: (lT, listOf ysT.toArray ysT.length) :: (L1 + 1 + 1 + 1, o1) :: (L1 + 1 + 1, oC) :: (L1 + 1, oL) :: (tab3 ++ rest)) (by kcf_all)
      clear N18
      refine forListS (l := pO) (items := vO.toArray) (m₀ := m5) (h₀ := g0) (L := L1) (σ := Obj × (Addr × List Value × Nat) × (List Int × Tok) × List (Addr × Obj))
        (fun c => (lL, listOf vl.toArray nl) :: (lC, listOf vc.toArray nc) :: (c.2.1.1, listOf c.2.1.2.1.toArray c.2.1.2.2) :: (L1 + 1 + 1 + 1, c.1) :: (L1 + 1 + 1, oC) :: (L1 + 1, oL) :: (c.2.2.2 ++ rest))
        (fun c => [(Str.ofString "text", .str (txt cz c.2.2.1.1) c.2.2.1.2), (Str.ofString "there", .ref c.2.1.1)]) [Str.ofString "fresh"]
        (fun i c => IntsAre c.2.1.2.1 c.2.2.1.1 ∧ (∃ v, c.1.data = .cell v) ∧ TabSt c.2.2.2 ∧ c.2.2.1.1 = pickM ly cz.length (0 :: ordL.take i))
        (o1, (lT, ysT, ysT.length), (th, t9), tab3) rfl (fun _ _ => rfl) (fun c h m' _ N' => ⟨_, (N' (pO, listOf vO.toArray 0) (by kcf_m)).1, rfl, 0, rfl⟩)
        ?hio ⟨Nat.ne_of_gt F19.ns.lt, Heap.get?_none_of_le (Nat.le_trans F19.above (Nat.le_of_lt F19.ns.lt))⟩ ⟨_, Heap.get?_push_size _ rfl, rfl, rfl⟩ (F19.push _) (N19.grown fun b o e => Heap.get?_push_of_some _ e)
        (by intro q hq; simp only [List.mem_cons, List.not_mem_nil, or_false] at hq; rcases hq with rfl | rfl <;> assumption) ⟨hI8, ⟨_, d1⟩, TB3, by rw [hth, ← pickM_one]; rfl⟩ ?turn ?done
      case hio => exact fun q hq => Nat.ne_of_lt (Heap.lt_size (N19 q hq).1)
      case done =>
        intro c u h tk hP F20 N20
        obtain ⟨oc, ⟨ad, va, na⟩, ⟨S, tS⟩, tab4⟩ := c
        obtain ⟨_, _, TB4, _⟩ := hP
        dsimp only [kstB] at F20 N20 ⊢
        dsimp only at TB4
        refine wpS_execs_cons (wpS_of ?_)
        k_steps
        exact hret tab4 _ _ _ TB4 F20 (news_pick N20 fun q hq => .tail _ (.tail _ (.tail _ (.tail _ (.tail _ (.tail _ (List.mem_append_left _ hq)))))))
      case turn =>
        intro i v c u h tk own hv hP apart F20 N20
        obtain ⟨oc, ⟨ad, va, na⟩, ⟨S, tS⟩, tab4⟩ := c
        obtain ⟨hIa, ⟨ov, hov⟩, TB4, hS⟩ := hP
        dsimp only [kstB] at F20 N20 hIa hov TB4 hS
        have hi : i < ordL.length := by
          have h9 := (Array.getElem?_eq_some_iff.mp hv).1
          rw [List.size_toArray, hOI.length] at h9
          exact h9
        obtain ⟨tv, hx⟩ := hOI.get i ordL[i] (by simp [hi])
        have hvv : v = .int ordL[i] tv := by
          have h7 : vO[i]? = some v := by simpa using hv
          rw [hx] at h7; exact (Option.some.inj h7).symm
        subst hvv
        obtain ⟨hy1, hy2⟩ := hO3.not hi
        have hS' : pickM ly cz.length (0 :: ordL.take (i + 1)) = pickM ly cz.length ((0 :: ordL.take i) ++ [ordL[i]]) := by rw [List.take_add_one]; simp [hi]
        generalize ordL[i] = y at *
        have hcM : (L1 + 1 + 1 + 1, oc) ∈ (lL, listOf vl.toArray nl) :: (lC, listOf vc.toArray nc) :: (ad, listOf va.toArray na) :: (L1 + 1 + 1 + 1, oc) :: (L1 + 1 + 1, oC) :: (L1 + 1, oL) :: (tab4 ++ rest) := .tail _ (.tail _ (.tail _ (.head _)))
        have n3 : @Ne Nat ad (L1 + 1 + 1 + 1) := news_ne N20 (y := oc) (x := listOf va.toArray na) (by kcf_m) (by kcf_m) (by rw [hov]; exact fun e => nomatch e)
        have nT := TB4.ne_cell N20 (b := L1 + 1 + 1 + 1) (y := oc) (fun q hq => by kcf_m) (by kcf_m) hov
        have n58 : ∀ q ∈ own, q.1 ≠ 58 := fun q hq => by
          obtain ⟨ps, hps⟩ := TB4.at58
          exact (Ne.symm (apart q hq (58, tabObj ps) (by kcf_m)))
        have a1 : ∀ q ∈ tab4 ++ rest ++ own, q.1 ≠ L1 + 1 + 1 + 1 := fun q hq => by
          rcases List.mem_append.mp hq with hq | hq
          · rcases List.mem_append.mp hq with hq | hq
            · exact nT q hq
            · exact (hrest q hq).2
          · exact Ne.symm (apart q hq (L1 + 1 + 1 + 1, oc) hcM)
        simp only [List.cons_append] at N20
        generalize htl : tab4 ++ rest ++ own = tl at *
        refine wpAny_assign_Name ?_
        k_steps
        rename Fr _ _ _ _ => F21
        rename News _ _ _ _ => N21
        rename Obj.data _ = _ => hod
        rename_i h21 o21
        try clear F20
        try clear N20
        refine gen_toks (s := s₁) ?_ _
        intro tk9
        refine wpS_execs_cons (wpS_of ?_)
        k_steps
        rename_i g9 hIf2 z9 zl9 lF2 h22 tk22 F22 N22 off22
        clear z9 zl9 g9
        dsimp only at F22
        obtain ⟨fq, hfq⟩ : ∃ fq, fq = pickE ly cz.length y := ⟨_, rfl⟩
        replace hIf2 : IntsAre ys fq := by rw [hfq]; exact hIf2
        generalize ys = yq at *
        refine gen_toks (s := s₁) ?_ _
        intro tk10
        refine wpS_execs_cons ?_
        refine wpS_Assign_Name ?_
        refine wpS_Call_Name ?_
        k_steps
        refine wpS_callK (K := Mine.hd.heap_39 w.params) (by k_is) ?_
        k_steps
        rename Fr _ _ _ _ => F23
        rename News _ _ _ _ => N23
        have hSz : S.length ≤ 60 := by rw [hS]; exact Nat.le_trans (pickM_len _ _ _) hz2
        have hfz2 : fq.length ≤ 60 := by rw [hfq]; exact Nat.le_trans (pickE_len _ _ _) hz2
        have hfin2 : ∀ k ∈ fq, 0 ≤ k ∧ k < cz.length := fun k hk => (pickE_mem (hfq ▸ hk)).1
        have hfnd2 : fq.Nodup := by rw [hfq]; exact up_nodup (pickE_up _ _ _)
        obtain ⟨S2, hS2⟩ : ∃ S2, S2 = pickM ly cz.length ((0 :: ordL.take i) ++ [y]) := ⟨_, rfl⟩
        have hok2 : ∀ ord : List Int, ord.Perm fq → ord.Pairwise (fun a b => enc (cz.getD a.toNat 0, a) < enc (cz.getD b.toNat 0, b)) → insOK (txt cz S) 128 (-1) (numsF cz S 128 (-1) ord) ∧ insF (txt cz S) 128 (-1) (numsF cz S 128 (-1) ord) = txt cz S2 := by
          rw [hfq, hS, hS2]; exact layer_ok hLF hy1 hy2
        have N24 := news_pick N23 (a := (lC, listOf vc.toArray nc) :: (ad, listOf va.toArray na) :: (lF2, listOf yq.toArray yq.length) :: (tab4 ++ ((lL, listOf vl.toArray nl) :: (lC, listOf vc.toArray nc) :: (ad, listOf va.toArray na) :: (lF2, listOf yq.toArray yq.length) :: (L1 + 1 + 1 + 1, o21) :: (L1 + 1 + 1, oC) :: (L1 + 1, oL) :: (rest ++ own)))) (by rw [← htl]; kcf_all)
        k_dflt (refine laid_does w (txt cz S) tS lC ad lF2 cz S fq vc va yq nc na yq.length (txt cz S2) hIc hIa hIf2 (by omega) (txt_len cz S).symm (by omega) hfz2 hfin2 hfnd2 hok2 _ _ _ _ _ _ _ _ _ _ _ _ _ _ _ _ _ _ _ _ _ _ _ B1 F23 X1 TB4 N24 ?_ CH1 T1 rfl ?_ ?_ ?_)
        · intro q hq
          have hs4 : ∀ q ∈ tab4, q ∈ (lC, listOf vc.toArray nc) :: (ad, listOf va.toArray na) :: (lF2, listOf yq.toArray yq.length) :: (tab4 ++ ((lL, listOf vl.toArray nl) :: (lC, listOf vc.toArray nc) :: (ad, listOf va.toArray na) :: (lF2, listOf yq.toArray yq.length) :: (L1 + 1 + 1 + 1, o21) :: (L1 + 1 + 1, oC) :: (L1 + 1, oL) :: (rest ++ own))) := fun q hq => .tail _ (.tail _ (.tail _ (List.mem_append_left _ hq)))
          simp only [List.mem_cons, List.mem_append] at hq
          rcases hq with rfl | rfl | rfl | rfl | rfl | rfl | rfl | hq | hq
          · exact TB4.ne_list N24 hs4 (vs := vl.toArray) (n := nl) (by simp)
          · exact TB4.ne_list N24 hs4 (vs := vc.toArray) (n := nc) (by simp)
          · exact TB4.ne_list N24 hs4 (vs := va.toArray) (n := na) (by simp)
          · exact TB4.ne_list N24 hs4 (vs := yq.toArray) (n := yq.length) (by simp)
          · exact neN (by dsimp only; omega)
          · exact neN (by dsimp only; omega)
          · exact neN (by dsimp only; omega)
          · exact (hrest q hq).1
          · exact n58 q hq
        · decide +kernel
        · decide +kernel
        intro tab5 h25 tk25 t25 TB5 hT5 F25 N25
        clear N24 N23
        dsimp only
        k_steps
        rename Fr _ _ _ _ => F26
        rename News _ _ _ _ => N26
        have hlz : S.length + fq.length ≤ 27 := by
          have pm := pickM_more (ly := ly) (n := cz.length) hy1
          have hl := pm.length_eq
          rw [List.length_append, ← hS, ← hfq] at hl
          have := pickM_len ly cz.length ((0 :: ordL.take i) ++ [y])
          omega
        have N27 := news_pick N26 (a := (lL, listOf vl.toArray nl) :: (lC, listOf vc.toArray nc) :: (ad, listOf va.toArray na) :: (lF2, listOf yq.toArray yq.length) :: (L1 + 1 + 1 + 1, o21) :: (L1 + 1 + 1, oC) :: (L1 + 1, oL) :: (tab5 ++ rest ++ own)) (by kcf_all)
        generalize htl2 : tab5 ++ rest ++ own = tl2 at *
        clear N26
        refine gen_toks (s := s₁) ?_ _
        intro tk11
        refine wpS_execs_cons (wpS_of ?_)
        k_steps
        rename_i D1 w1 g2 i1 l1' D2 v2 n2 c2 g3 i2 e2 p2 o2' b2 p0 l2' g4 F28 N28
        have hn2 : n2 = S2 := by rw [hS2]; exact pickM_next hy1 (by rw [← hS, ← hfq]; exact p2) o2'
        rw [hn2] at i2
        have N29 := news_pick N28 (a := (D2, listOf v2.toArray c2) :: (lL, listOf vl.toArray nl) :: (lC, listOf vc.toArray nc) :: (L1 + 1 + 1 + 1, o21) :: (L1 + 1 + 1, oC) :: (L1 + 1, oL) :: tl2) (by kcf_all)
        have hD2 : ∀ p ∈ own, p.1 < D2 := fun p hp => ktn_ltOf l2'.2.2.2.2.2.2.2.2 p (by rw [← htl2]; exact List.mem_append_right _ hp)
        clear N28 e2 p2 o2' b2 p0 l1' l2' i1
        have hS2z : S2.length ≤ 60 := by rw [hS2]; exact Nat.le_trans (pickM_len _ _ _) hz2
        have hS2k : ∀ k ∈ S2, 0 ≤ k ∧ k < cz.length := fun k hk => pickM_mem (hS2 ▸ hk)
        have hPM : PickMark D2 v2 S2 cz := ⟨i2, hS2z, hS2k, fun k hk => hLF.cell k.toNat (by have := hS2k k hk; omega)⟩
        refine gen_toks (s := s₁) ?_ _
        intro tk12
        refine wpS_execs_cons (wpS_of ?_)
        k_steps
        rename CharsAre _ _ => hyw
        rename News _ _ _ _ => Nw
        refine join_chars ⟨_, (Nw _ (.head _)).1, rfl, _, rfl⟩ hyw (by rw [List.length_map]; exact hS2z) ?_
        clear hyw N29
        intro t13' k13
        k_steps
        · rename (_ != _) = true => hb
          exact absurd hb (by simp [txt])
        rename (_ != _) = false => hb
        clear hb
        dsimp only
        refine wpS_execs_nil ?_
        show ForEndG _ _ _ _ _ _ _ _ _ _
        rename Fr _ _ _ _ => Fe
        refine forEndG ⟨o21, (D2, v2, c2), (S2, t25), tab5⟩ Fe Nw ?n1 ?n2 ?n3 (by kst_all) (by ksw_same) ⟨i2, ⟨_, hod⟩, TB5, by rw [hS']; exact hS2⟩
        case n1 =>
          rw [← htl2]
          kcf_all
        case n2 =>
          intro q hq
          rw [← htl2]
          simp only [List.mem_cons, List.mem_append]
          simp [hq]
        case n3 =>
          intro p hp q hq
          have hap := apart p hp
          simp only [List.mem_cons, List.mem_append] at hq hap
          rcases hq with rfl | rfl | rfl | rfl | rfl | rfl | hq | hq
          · exact hap _ (by simp)
          · exact hap _ (by simp)
          · exact Nat.ne_of_gt (hD2 p hp)
          · exact hap (L1 + 1 + 1 + 1, oc) (by simp)
          · exact hap _ (by simp)
          · exact hap _ (by simp)
          · rcases hT5 q hq with h | h | h
            · exact hap q (by simp [h])
            · rw [h]; exact Ne.symm (n58 p hp)
            · exact Nat.ne_of_gt (h p (by simp [hp]))
          · exact hap q (by simp [hq]))
end
end Mine
end

theorem PySem.Challenge.cw_io0059_01_holds : PySem.Challenge.rw_io0059_01.Holds :=
  Mine.fin
