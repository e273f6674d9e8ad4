import PyProof.Rows.All
import Wide.All
import OpenK.AllK
import Wide.FinOn
import Lean
import PySem.Challenge.RW_wf0019_01
open PySem PySem.W PyProof.Rows PySem.Flt PySem.Calls
set_option Elab.async false
set_option maxRecDepth 100000
set_option maxHeartbeats 8000000
set_option compiler.extract_closed false
namespace Mine
local macro_rules | `(tactic| walk_at "ite") => `(tactic| (k_here; first
  | (k_closed; k_dflt (first | refine ite_pos (by decide +kernel) ?_ | refine ite_neg (by decide +kernel) ?_))
  | refine ite_pos (by with_reducible assumption) ?_
  | refine ite_neg (by with_reducible assumption) ?_
  | refine ite_isFalse (by with_reducible assumption) ?_
  | with_reducible refine ite_tt ?_ | with_reducible refine ite_ff ?_ | (with_reducible refine split_ine ?_ ?_ <;> intro _) | (with_reducible refine split_ieq ?_ ?_ <;> intro _) | with_reducible refine split_not ?_
  | (refine split_dec ?_ ?_ <;> intro _) | (refine split_bool ?_ ?_ <;> intro _)))
local macro_rules | `(tactic| walk_at "go") => `(tactic| repeat' (first | (k_unfold; (try dsimp only)) | walk1 | (dsimp only; walk1) | (leave1; (try dsimp only)) | fail "no step"))
local macro_rules | `(tactic| walk_at "con_sides") => `(tactic| ((case k1 => k_asm); (case k2 => k_asm); (case k3 => k_asm); (case k4 => k_asm); (case k5 => k_asm); (case k6 => first | exact rfl | assumption); (case k7 => ktr_room); (case k8 => ktr_units)))
/-! The clean logic: as wpAny and codeAny, but only for a stack that bears no codec at work (bytearray asks for that), and without exceptions. -/
open Sem (wp)
def holders : List String := ["bytearray.__contains__", "bytearray.__mod__", "bytearray.__rmod__", "_struct.pack_into.held", "bytearray.find.held"] ++ Builtin.Bytes.decodersThatHold
def okC : Code → Bool
  | .builtin id _ => !holders.contains id
  | _ => true
def CleanB (Γ : Ctx) : Prop := ∀ x ∈ Γ.below, okC x.1 = true
def Clean (Γ : Ctx) : Prop := okC Γ.code = true ∧ CleanB Γ
def wpC {α : Type} (M : Model) (A : Around) (t : Sem α) (Q : α → Shared → Prop) (s : Shared) : Prop :=
  ∀ Γ p, Γ.In A → Clean Γ → wp M Γ t (fun a _ s' => Q a s') (fun _ _ _ => False) p s
def codeC (M : Model) (A : Around) (c : Code) (R : Flow → Shared → Prop) (s : Shared) : Prop :=
  ∀ Γ p, Γ.code = c → Γ.Below A → CleanB Γ → wpCode M Γ (fun r s' => ∃ f, r = .ok f ∧ R f s') p s
section
variable {α β : Type} {M : Model} {A : Around} {s : Shared}
theorem wpC_of_any {t : Sem α} {Q : α → Shared → Prop} (h : wpAny M A t Q (fun _ _ => False) s) : wpC M A t Q s := fun Γ p hΓ _ => h Γ p hΓ
theorem wpC_mono {t : Sem α} {Q Q' : α → Shared → Prop} (h : wpC M A t Q s) (hQ : ∀ a s, Q a s → Q' a s) : wpC M A t Q' s :=
  fun Γ p hΓ hc => Sem.wp_mono M Γ t (fun a _ s => hQ a s) (fun _ _ _ x => x) p s (h Γ p hΓ hc)
theorem wpC_bind {m : Sem α} {f : α → Sem β} {Q : β → Shared → Prop} (h : wpC M A m (fun a s' => wpC M A (f a) Q s') s) : wpC M A (m >>= f) Q s := fun Γ p hΓ hc => by
  rw [Sem.wp_bind']
  exact Sem.wp_mono M Γ m (fun a p' s' h' => h' Γ p' hΓ hc) (fun _ _ _ x => x) p s (h Γ p hΓ hc)
/-- the first part of a tree by the kit's own rules -/
theorem wpC_bindA {m : Sem α} {f : α → Sem β} {Q : β → Shared → Prop} (h : wpAny M A m (fun a s' => wpC M A (f a) Q s') (fun _ _ => False) s) : wpC M A (m >>= f) Q s := wpC_bind (wpC_of_any h)
theorem wpC_pure {a : α} {Q : α → Shared → Prop} (h : Q a s) : wpC M A (pure a) Q s := fun _ _ _ _ => h
theorem wpC_holding {vs : List Value} {m : Sem α} {Q : α → Shared → Prop} (h : wpC M A m Q s) : wpC M A (holding vs m) Q s :=
  fun Γ p hΓ hc => by rw [Sem.wp_holding]; exact h Γ p hΓ hc
theorem wpC_onRaise {m : Sem α} {k : Value → Sem Unit} {Q : α → Shared → Prop} (h : wpC M A m Q s) : wpC M A (m.onRaise k) Q s := fun Γ p hΓ hc => by
  rw [Sem.wp_onRaise]
  exact Sem.wp_mono M Γ m (fun _ _ _ x => x) (fun _ _ _ x => x.elim) p s (h Γ p hΓ hc)
theorem Clean.enter {Γ : Ctx} (h : Clean Γ) (c : Code) (hd : Option Value) (p : Pos) : CleanB (Γ.enter c hd p) := fun x hx => by
  rcases List.mem_cons.mp (show x ∈ (Γ.code, p) :: Γ.below from hx) with rfl | hx
  · exact h.1
  · exact h.2 x hx
theorem wpC_run {c : Code} {Q : Flow → Shared → Prop} (hc : codeC M A c Q s) : wpC M A (run c) Q s := fun Γ p hΓ hcl => by
  rw [Sem.wp_run]
  refine wpCode_mono (fun r s' x => ?_) (hc _ p rfl (hΓ.enter c none p (by intro x; cases x)) (hcl.enter c none p))
  obtain ⟨f, rfl, hf⟩ := x
  exact hf
theorem wpC_call {f : Value} {pos : List Value} {kw : List (Str × Value)} {Q : Value → Shared → Prop}
    (hc : codeC M A (.call f ⟨pos, kw⟩) (fun fl s' => match fl with | .ret v => Q v s' | _ => False) s) : wpC M A (call f pos kw) Q s := fun Γ p hΓ hcl => by
  unfold call
  rw [Sem.wp_runValue]
  refine wpCode_mono (fun r s' x => ?_) (hc _ p rfl (hΓ.enter _ none p (by intro x; cases x)) (hcl.enter _ none p))
  obtain ⟨f, rfl, hf⟩ := x
  cases f <;> exact hf
theorem codeC_mono {c : Code} {R R' : Flow → Shared → Prop} (h : codeC M A c R s) (hR : ∀ r s, R r s → R' r s) : codeC M A c R' s :=
  fun Γ p hc hΓ hcl => wpCode_mono (fun _ _ ⟨f, e, x⟩ => ⟨f, e, hR f _ x⟩) (h Γ p hc hΓ hcl)
theorem codeC_of_tree {c : Code} {R : Flow → Shared → Prop} (ok : okC c = true)
    (h : wpC M (A.under c) (M.den c) (fun fin s' => match fin with | .done f => R f s' | .again c' => c'.quiet = true ∧ codeC M A c' R s') s) : codeC M A c R s := fun Γ p hc hΓ hcl => by
  rw [wpCode_iff_wp, hc]
  refine Sem.wp_mono M Γ _ (fun fin p' s' h' => ?_) (fun _ _ _ x => x.elim) p s (h Γ p (hc ▸ hΓ.in) ⟨by rw [hc]; exact ok, hcl⟩)
  cases fin with
  | done f => exact ⟨f, rfl, h'⟩
  | again c' => exact ⟨h'.1, h'.2 (Γ.goto c') p' rfl (hΓ.goto c') hcl⟩
theorem codeC_loop {c : Code} {R : Flow → Shared → Prop} (ok : okC c = true) (hq : c.quiet = true) (I : Nat → Shared → Prop)
    (turn : ∀ n s, I n s → wpC M (A.under c) (M.den c) (fun fin s' => match fin with | .done f => R f s' | .again c' => c' = c ∧ ∃ m, m < n ∧ I m s') s)
    (n : Nat) (h : I n s) : codeC M A c R s := by
  induction n using Nat.strongRecOn generalizing s with
  | ind n ih =>
    refine codeC_of_tree ok (wpC_mono (turn n s h) fun fin s' hf => ?_)
    cases fin with
    | done f => exact hf
    | again c' => obtain ⟨rfl, m, hm, hI⟩ := hf; exact ⟨hq, ih m hm hI⟩
theorem clean_no_codec {Γ : Ctx} {p : Pos} (h : Clean Γ) : ∀ x ∈ (Γ.code, p) :: Γ.below, okC x.1 = true := fun x hx => by
  rcases List.mem_cons.mp hx with rfl | hx
  · exact h.1
  · exact h.2 x hx
end
/-! the spine's statements -/
section
variable {M : Model} {A : Around} {s : Shared} {env : Env}
theorem wpC_execs_cons {st : Stmt} {rest : List Stmt} {Q : Flow → Shared → Prop} (h : wpC M A (exec st env) (fun f s' => match f with | .next => wpC M A (execs rest env) Q s' | f => Q f s') s) : wpC M A (execs (st :: rest) env) Q s := fun Γ p hΓ hc => by
  rw [execs_cons, Sem.wp_bind']
  refine Sem.wp_mono M Γ _ (fun f p' s' h' => ?_) (fun _ _ _ x => x) _ _ (h Γ p hΓ hc)
  cases f <;> first | exact h' Γ p' hΓ hc | exact h'
theorem wpC_execs_nil {Q : Flow → Shared → Prop} (h : Q .next s) : wpC M A (execs [] env) Q s := wpC_of_any (wpAny_execs_nil h)
/-- a statement off the spine -/
theorem wpC_stmt {st : Stmt} {rest : List Stmt} {Q : Flow → Shared → Prop} (h : wpAny M A (exec st env) (fun f s' => match f with | .next => wpC M A (execs rest env) Q s' | f => Q f s') (fun _ _ => False) s) : wpC M A (execs (st :: rest) env) Q s :=
  wpC_execs_cons (wpC_of_any h)
theorem wpC_If {test : Expr} {body orelse : List Stmt} {pos : Pos} {Q : Flow → Shared → Prop}
    (h : wpAny M A (isTrue test env (eval test env)) (fun b s₂ => if b = true then wpC M A (execs body env) Q s₂ else wpC M A (execs orelse env) Q s₂) (fun _ _ => False) s) :
    wpC M A (exec (.If test body orelse pos) env) Q s := by
  rw [exec_If]
  refine wpC_bindA (wpAny_standAt (wpC_bindA (wpAny_mono h (fun b s₂ h₂ => ?_) fun _ _ x => x)))
  cases b
  · simpa using h₂
  · simpa using h₂
theorem wpC_Assign_Name {x : Str} {pos' pos : Pos} {value : Expr} {Q : Flow → Shared → Prop}
    (h : wpC M A (eval value env) (fun v s₁ => wpAny M A (storeName env x v) (fun _ => Q .next) (fun _ _ => False) s₁) s)
    (hs : swapsWith value (some (.Name x pos')) pos.line env = pure false := by rfl) : wpC M A (exec (.Assign [.Name x pos'] value pos) env) Q s := fun Γ p hΓ hc => by
  simp only [exec_Assign_Name env x pos' value pos hs, Sem.wp_bind', Sem.wp_cmd_standAt, Sem.wp_bindName, Sem.wp_pure']
  exact Sem.wp_mono M Γ _ (fun v _ s₁ h₁ => h₁ Γ _ hΓ) (fun _ _ _ x => x) _ _ (h Γ _ hΓ hc)
end

/-! The head, its walk in the clean logic: the kit's head over a tree that looks at the stack first; that one step is dropped behind. -/
def cleanL (l : List (Code × Pos)) : Bool := l.all fun x => okC x.1
theorem clean_of {Γ : Ctx} {p : Pos} (h : cleanL ((Γ.code, p) :: Γ.below) = true) : Clean Γ := by
  have h' := List.all_eq_true.mp h
  exact ⟨h' _ (List.mem_cons_self ..), fun x hx => h' x (List.mem_cons_of_mem _ hx)⟩
abbrev WalkC (q : Program) (loose : List Str) (XP : (Str → Option Value) → Heap → Prop) (YP : World → Heap → Prop) (r : RowW) (d : DefRec) (kwd : List (Str × Expr)) : Prop :=
  ∀ (w : World) (s₀ s₁ : Shared) (mg mb : Str → Option Value), Ground q loose r.records XP w s₀ mg mb s₁.heap → YP w s₁.heap → ∀ (a : Addr) (o : Obj) (pm cd doc dV kV : Value), s₁.heap.get? a = some o →
    o.data = .func { docDef d.name d.params d.body d.scope pm cd doc with defaults := dV, kwdefaults := kV } → s₁.heap.CodeRec cd d.name → Dflts mg s₁.heap d.params kwd dV kV → mg d.name = some (.ref a) → s₁.gens = #[] →
    ∀ (args : List WData) (vals : List Value) (as : List Addr), r.claim.pre args = true → WData.layableAll args = true → ReadsAllW r.records (classAt s₀.heap) s₁.heap vals args as → WellAll w.params s₁.heap vals args → (∀ a ∈ as, (a == sysModules) = false) →
      GoodWG r.claim (classAt s₀.heap) (ExcName.means s₀.heap) args s₁ (.ok (.ret (.bool true))) s₁ ∧
      wpC (model r.prog w) callerA (PySem.call (.ref a) vals) (fun v s' => GoodWG r.claim (classAt s₀.heap) (ExcName.means s₀.heap) args s₁ (.ok (.ret v)) s') s₁
/-- the call where the stack is clean, True elsewhere -/
def runQ (f : Value) (vs : List Value) : Sem Value := do
  let st ← stack
  if cleanL st = true then PySem.call f vs else pure (.bool true)
def treeQ (name : Str) (vs : List Value) : Sem Fin := do
  let st ← stack
  if cleanL st = true then (callStub name vs).cur else ret (.bool true)
theorem step_treeQ {p : Program} {w : World} {name : Str} {vs : List Value} {s : Shared} {n : Nat} {o : Outcome} {s' : Shared} (hz : s.asleep)
    (h : schedN (denote table) p w n (.single s ⟨treeQ name vs, .builtin "claim.caller" {}, default, []⟩) = .halted o s') : ∃ k, schedN (denote table) p w k (.single s (callStub name vs)) = .halted o s' := by
  cases n with
  | zero => cases h
  | succ n =>
    refine ⟨n, ?_⟩
    have e : step (denote table) p w s ⟨treeQ name vs, .builtin "claim.caller" {}, default, []⟩ = .go s (callStub name vs) := by
      obtain ⟨a, b, c, d, e⟩ := s
      have hcl : cleanL [(Code.builtin "claim.caller" {}, (default : Pos))] = true := by decide +kernel
      show Step.go _ ⟨(if cleanL [(Code.builtin "claim.caller" {}, (default : Pos))] = true then (callStub name vs).cur else ret (.bool true)), _, _, _⟩ = _
      rw [if_pos hcl]
      rfl
    have hs := sstep_single (denote table) p w s ⟨treeQ name vs, .builtin "claim.caller" {}, default, []⟩ (by rfl) hz
    rw [e] at hs
    rcases hs with hs | hs
    · simp only [schedN, hs, Step.lift] at h
      exact h
    · cases hs

theorem PySem.W.holds_open {r : OpenRow} {q : Program} {loose : List Str} {Xt : Shared → Bool} {XP : (Str → Option Value) → Heap → Prop} {α : Type} {Yf : Shared → α} {Ya : World → α} {YP : World → Heap → Prop} {d : DefRec} {kwd : List (Str × Expr)} {N : Nat}
    (left : LeftO r.prog q loose Xt Yf Ya N) (hY : ∀ w s, Yf s = Ya w → YP w s.heap) (hYk : ∀ w h h', YP w h → (∀ b o, h.get? b = some o → h'.get? b = some o) → YP w h')
    (hX : ∀ s, Xt s = true → XP (s.heap.nsMap mainGlobals) s.heap) (hXk : ∀ mg h h', XP mg h → (∀ b o, h.get? b = some o → h'.get? b = some o) → XP mg h')
    (hdef : defOf q r.name = some (d, kwd)) (hp : r.prog.theDef r.name = some (d.params, d.body, d.scope)) (hk : kwWritten? d.params.kwonlyargs d.params.kw_defaults = some kwd) (hRf : ∀ s, Xt s = true → RecFacts r.records s.heap) (hwr : (!r.writes || r.records.isEmpty) = true)
    (k1 : r.wellSaid = true) (ok : (chainsOk q && opensWell r.prog && (frees r.toRowW && r.within.isEmpty)) = true) (hb : r.prog.bare) (hw : r.toRowW.promised)
    (call : WalkC q loose XP YP r.toRowW d kwd) : r.Holds := by
  have big : r.toRowW.claim.HoldsOpenBy (fun vs => ⟨treeQ r.name vs, .builtin "claim.caller" {}, default, []⟩) (if r.pinned then [r.name] else []) r.keeps r.writes := by
    refine open_anyG (r := r.toRowW) (run := runQ) (tree := treeQ r.name) left hY hYk hX hXk hRf hwr ok hb hw (fun vs w s mg f Q E hg hf h Γ p hΓ => ?_) (fun w s hg G n hn => ?_) fun w s₀ s₁ mg mb G Y args vs as hpre hlay L low => ?_
    · have h' := h Γ p hΓ
      unfold runQ stack at h'
      unfold treeQ stack
      rw [Sem.wp_bind', Sem.wp_stack, Sem.wp_pure] at h' ⊢
      cases hc : cleanL ((Γ.code, p) :: Γ.below) with
      | false => rw [hc] at h'; exact h'
      | true =>
        rw [hc] at h'
        have h2 : Sem.wp (model r.prog w) Γ (PySem.call f vs) (fun v _ s' => Q (.done (.ret v)) s') (fun e _ s' => E e s') p s := h'
        show Sem.wp (model r.prog w) Γ (callStub r.name vs).cur (fun a _ s' => Q a s') (fun e _ s' => E e s') p s
        unfold callStub
        show Sem.wp (model r.prog w) Γ (nsGet mainNs r.name >>= fun x => match x with | some f => (do ret (← PySem.call f vs)) | none => unsupported "claim.caller:no-such-global") _ _ p s
        rw [Sem.wp_bind', show mainNs = mainGlobals from rfl, Sem.wp_nsGet _ Γ _ p s hg]
        rw [hf]
        show Sem.wp (model r.prog w) Γ (PySem.call f vs >>= fun v => ret v) _ _ p s
        rw [Sem.wp_bind']
        exact h2
    · obtain rfl : n = r.name := by split at hn <;> simp_all
      exact pinned_of_view hg G hdef hp hk
    · obtain ⟨a, o, pm, cd, doc, dV, kV, h1, h2, h3, h4, h5⟩ := G.fn hdef
      obtain ⟨g, c⟩ := call w s₀ s₁ mg mb G Y a o pm cd doc dV kV h2 h3 h4 h5 (defOf_name hdef ▸ h1) L.gens args vs as hpre hlay L.reads L.well (L.low low)
      refine ⟨.ref a, h1, fun Γ p hΓ => ?_⟩
      unfold runQ stack
      rw [Sem.wp_bind', Sem.wp_stack, Sem.wp_pure]
      cases hc : cleanL ((Γ.code, p) :: Γ.below) with
      | false => exact g
      | true => exact Sem.wp_mono _ Γ _ (fun _ _ _ x => x) (fun _ _ _ x => x.elim) p s₁ (c Γ p hΓ (clean_of hc))
  refine ⟨k1, hw, big.1, big.2.1, fun w => ⟨(big.2.2 w).1, fun s hs => ?_⟩⟩
  obtain ⟨s₀, a1, a2, s₁, T, a3, a4, a5, CF⟩ := (big.2.2 w).2 s hs
  refine ⟨s₀, a1, a2, s₁, T, a3, a4, a5, fun args h1 h2 ord h3 => ?_⟩
  obtain ⟨vs, s₂, l, n, o, s', hsd, rest⟩ := CF args h1 h2 ord h3
  have hch : chainsOk q = true := (Bool.and_eq_true_iff.mp (Bool.and_eq_true_iff.mp ok).1).1
  obtain ⟨s₀', b1, _, s₁', T', z, _⟩ := (left.behind hX hch w).2 s hs
  obtain rfl : s₀' = s₀ := Option.some.inj (b1.symm.trans a1)
  have z1 : s₁.asleep := Shared.asleep_of_life (T.2.1.trans T'.2.1.symm) z
  have z2 : s₂.asleep := Shared.asleep_of_life (layAllW_rest _ _ _ l).2.2.2 z1
  obtain ⟨k, hk'⟩ := step_treeQ z2 hsd
  exact ⟨vs, s₂, l, k, o, s', hk', rest⟩

section
variable {α : Type} {M : Model} {A : Around} {s : Shared} {env : Env}
theorem wpC_Call {func : Expr} {args : List Expr} {pos : Pos} {Q : Value → Shared → Prop}
    (h : wpAny M A (eval func env) (fun f s₁ => wpC M A (callWith pos f [] (backTo pos (starEach args env)) []) Q s₁) (fun _ _ => False) s)
    (he : eval (.Call func args [] pos) env = (do callWith pos (← eval func env) [] (backTo pos (starEach args env)) (backToKw pos (keywordEach [] env))) := by rfl) :
    wpC M A (eval (.Call func args [] pos) env) Q s := by
  rw [he]; exact wpC_bindA h
theorem wpC_callWith {P : Heap → Prop} {pos : Pos} {f : Value} {first : List Value} {args : List (Bool × Sem Value)} {Q : Value → Shared → Prop} (hplain : args.any (·.1) = false)
    (hk : ∀ h, P h → ∃ k, (k = Keeper.frame ∨ k = Keeper.machine ∨ k = Keeper.boundFrame) ∧ Looks M h (keeperOf f) k)
    (h : wpAny M A (evalArgs f true args []) (fun a s₁ => P s₁.heap ∧ wpC M A (call f (first ++ a.pos) a.kw) Q s₁) (fun _ _ => False) s) : wpC M A (callWith pos f first args []) Q s := by
  unfold callWith
  refine wpC_bindA (wpAny_holding (wpAny_mono h (fun a s₁ h₁ => wpC_bindA (wpAny_standAt ?_)) fun _ _ x => x))
  obtain ⟨k, hk', L⟩ := hk _ h₁.1
  simp only [hplain, List.any_nil, Bool.or_false]
  refine wpC_bindA (L.here ?_)
  have tail : ∀ {t : Sem Value}, wpC M A t Q s₁ → wpC M A (t >>= fun r => holding [r] point >>= fun _ => pure r) Q s₁ :=
    fun ht => wpC_bind (wpC_mono ht fun r s₂ hr => wpC_bindA (wpAny_holding (wpAny_point (wpC_pure hr))))
  have marked (mk : Value) : wpC M A (callMarked mk f (first ++ a.pos) a.kw) Q s₁ := fun Γ p hΓ hc => by unfold callMarked; rw [Sem.wp_keep]; exact h₁.2 Γ p hΓ hc
  rcases hk' with rfl | rfl | rfl
  · dsimp only
    split <;> first | exact tail h₁.2 | exact tail (marked _)
  · exact tail h₁.2
  · dsimp only
    split <;> first | exact tail h₁.2 | exact tail (marked _)
theorem wpC_callWith_K {K : Frag} {h₀ : Heap} {pos : Pos} {f : Value} {e : Expr} {rest : List Expr} {Q : Value → Shared → Prop} (_X : K.In h₀) (hk : keepIn K f = true)
    (h : wpAny M A (spliced (backTo pos (starEach (e :: rest) env))) (fun vs s₁ => K.In s₁.heap ∧ wpC M A (call f vs) Q s₁) (fun _ _ => False) s)
    (he : starEach (e :: rest) env = (false, eval e env) :: starEach rest env := by rfl) (hplain : (backTo pos (starEach rest env)).any (·.1) = false := by rfl) :
    wpC M A (callWith pos f [] (backTo pos (starEach (e :: rest) env)) []) Q s := by
  rw [he] at h ⊢
  exact wpC_callWith (by show (false || (backTo pos (starEach rest env)).any (·.1)) = false; rw [hplain]; rfl) (keeps_K hk) (evalArgs_plain h)
theorem wpC_callWith_type {pos : Pos} {T : String} {e : Expr} {rest : List Expr} {Q : Value → Shared → Prop}
    (h : wpAny M A (spliced (backTo pos (starEach (e :: rest) env))) (fun vs s₁ => wpC M A (call (.type T) vs) Q s₁) (fun _ _ => False) s)
    (he : starEach (e :: rest) env = (false, eval e env) :: starEach rest env := by rfl) (hplain : (backTo pos (starEach rest env)).any (·.1) = false := by rfl) :
    wpC M A (callWith pos (.type T) [] (backTo pos (starEach (e :: rest) env)) []) Q s := by
  rw [he] at h ⊢
  exact wpC_callWith (P := fun _ => True) (by show (false || (backTo pos (starEach rest env)).any (·.1)) = false; rw [hplain]; rfl) (fun _ _ => ⟨.machine, .inr (.inl rfl), Looks.of_pure rfl⟩)
    (evalArgs_plain (wpAny_mono h (fun _ _ x => ⟨trivial, x⟩) fun _ _ x => x))
theorem wpC_Assign_Tuple {elts : List Expr} {k : Nat} {tpos pos : Pos} {value : Expr} {Q : Flow → Shared → Prop}
    (h : wpC M A (eval value env) (fun v s₁ => wpAny M A (assign (.Tuple elts k tpos) env v) (fun _ => Q .next) (fun _ _ => False) s₁) s)
    (hs : swapsWithSole [.Tuple elts k tpos] value pos.line env = pure false := by rfl)
    (hw : swappedStores [.Tuple elts k tpos] value env = pure none := by rfl) :
    wpC M A (exec (.Assign [.Tuple elts k tpos] value pos) env) Q s := by
  rw [exec_Assign]
  refine wpC_bindA (wpAny_standAt ?_)
  rw [hs]
  refine wpC_bindA (wpAny_pure ?_)
  rw [if_neg (by decide)]
  refine wpC_bind (wpC_mono h fun v s₁ h₁ => ?_)
  rw [hw]
  refine wpC_bindA (wpAny_pure ?_)
  show wpC M A (do assignAll v [assign (.Tuple elts k tpos) env]; pure .next) Q s₁
  exact wpC_bindA (wpAny_mono h₁ (fun _ _ x => wpC_pure x) fun _ _ x => x)
end
section
variable {prog : Program} {w : World} {A A₀ : Around} {s : Shared} {R : Flow → Shared → Prop}
theorem codeC_call_function {a : Addr} {args : Args} {o : Obj} {fd : FuncData} {body : List Stmt} (hroom : A.depth < recursionLimit)
    (ho : s.heap.get? a = some o)
    (hd' : o.data = .func fd) (hco : fd.scope.isCoroutine = false) (hgen : fd.scope.isGenerator = false) (hbody : fd.body = .stmts body) (hcd : s.heap.CodeRec fd.code fd.qualname)
    (h : wpAny (model prog w) A.in1 (bindArgs fd args) (fun binds s₁ =>
      wpAny (model prog w) A.in1 (newFunctionEnv fd.scope fd.globals fd.closure binds (fd.qualname ++ ".<locals>.") (some a) fd.code none fd.builtins)
        (fun env s₂ => s₂.heap.NoLimit ∧ codeC (model prog w) A (.func body env) R s₂) (fun _ _ => False) s₁) (fun _ _ => False) s) :
    codeC (model prog w) A (.call (.ref a) args) R s := by
  refine codeC_of_tree rfl ?_
  show wpC _ A.in1 (callAny (.ref a) args) _ s
  simp only [callAny]
  refine wpC_bindA (wpAny_load ho ?_)
  obtain ⟨c, oc, vs, tq, hc, hoc, hdc, hq⟩ := hcd
  simp only [hd', callFunction, hco, hgen, hbody, hc]
  rw [hc] at h
  refine wpC_bindA (m := field (.ref c) 1) (wpAny_field hoc hdc hq (wpC_bindA (wpAny_pure ?_)))
  exact wpC_bindA (wpAny_mono h (fun binds s₁ h₁ => wpC_bindA (wpAny_mono h₁ (fun env s₂ h₂ => wpC_bindA (wpAny_enterFrame h₂.1 hroom
    (wpC_pure (And.intro rfl h₂.2)))) fun _ _ h' => h')) fun _ _ h' => h')
theorem codeC_builtin {id : String} {args : Args} {b : Builtin} (hb : entryFor table id = some b) (ok : okC (.builtin id args) = true)
    (h : wpC (model prog w) (A.under (.builtin id args)) (b args) (fun fin s' => match fin with | .done f => R f s' | .again c' => c'.quiet = true ∧ codeC (model prog w) A c' R s') s) : codeC (model prog w) A (.builtin id args) R s := by
  refine codeC_of_tree ok ?_
  show wpC _ _ (match entryFor table id with | some b => b args | none => unsupported ((withoutEnding? id "#data").getD id)) _ s
  rw [hb]; exact h
theorem codeC_call_builtin {id : String} {args : Args} {b : Builtin} (hq : plainId id = true) (ok : holders.contains id = false) (hb : entryFor table id = some b)
    (h : wpAny (model prog w) A.in1 (checkBuiltinCall id args) (fun _ s₁ => wpC (model prog w) A.in1 (b args) (fun fin s' => match fin with | .done f => R f s' | .again c' => c'.quiet = true ∧ codeC (model prog w) A c' R s') s₁) (fun _ _ => False) s) :
    codeC (model prog w) A (.call (.builtin id) args) R s := by
  refine codeC_of_tree rfl ?_
  show wpC _ A.in1 (do checkBuiltinCall id args; again (.builtin id args)) _ s
  refine wpC_bindA (wpAny_mono h (fun _ s₁ h₁ => wpC_pure ⟨plainId_quiet hq args, codeC_builtin hb (by show (!_) = true; rw [ok]; rfl) ?_⟩) fun _ _ x => x)
  rw [Around.under_plainId hq args]
  exact h₁
theorem codeC_func {body : List Stmt} {env : Env}
    (h : wpC (model prog w) (A.deeper env) (execs body env) (fun f s' => R (.ret (match f with | .ret v => v | _ => .none)) s') s) :
    codeC (model prog w) A (.func body env) R s := by
  refine codeC_of_tree rfl ?_
  show wpC _ (A.deeper env) (do point; match ← (execs body env).onRaise (leaving env) with | .ret v => ret v | _ => ret .none) _ s
  refine wpC_bindA (wpAny_point (wpC_bind (wpC_onRaise (wpC_mono h fun f s' h' => ?_))))
  cases f <;> exact wpC_pure h'
theorem codeC_whileLoop {test : Expr} {body orelse : List Stmt} {env : Env} (I : Nat → Shared → Prop)
    (turn : ∀ n s, I n s →
      wpAny (model prog w) A (isTrue test env (eval test env)) (fun b s₂ =>
        if b = true then wpC (model prog w) A (execs body env) (fun f s₃ => match f with
            | .next | .cont => ∃ m, m < n ∧ I m s₃
            | .brk => R .next s₃
            | .ret v => R (.ret v) s₃) s₂
        else wpC (model prog w) A (execs orelse env) (fun f s₃ => R f s₃) s₂) (fun _ _ => False) s)
    (n : Nat) (h : I n s) : codeC (model prog w) A (.whileLoop test body orelse env) R s := by
  refine codeC_loop rfl rfl I (fun n s hI => ?_) n h
  show wpC _ A ((whileTurn test body orelse env).onRaise (fun x => do noteFrame x env; theTreesLotGoes x)) _ s
  refine wpC_onRaise ?_
  simp only [whileTurn]
  refine wpC_bindA (wpAny_mono (turn n s hI) (fun b s₂ h₂ => ?_) fun _ _ h' => h')
  cases b with
  | false =>
    simp only [Bool.false_eq_true, if_false] at h₂ ⊢
    exact wpC_bind (wpC_mono h₂ fun f s₃ h₃ => wpC_pure h₃)
  | true =>
    simp only [if_true] at h₂ ⊢
    refine wpC_bind (wpC_mono h₂ fun f s₃ h₃ => ?_)
    cases f with
    | next => exact wpC_pure ⟨rfl, h₃⟩
    | cont => exact wpC_pure ⟨rfl, h₃⟩
    | brk => exact wpC_pure h₃
    | ret v => exact wpC_pure h₃
theorem wpC_While {test : Expr} {body orelse : List Stmt} {pos : Pos} {env : Env} {Q : Flow → Shared → Prop} (h : codeC (model prog w) A (.whileLoop test body orelse env) Q s) :
    wpC (model prog w) A (exec (.While test body orelse pos) env) Q s := by
  rw [exec_While]
  refine wpC_bindA (wpAny_standAt ?_)
  unfold runOwn
  exact wpC_onRaise (wpC_run h)
end

namespace FB
theorem mro : mroOf (.type "bytearray") = pure [.type "bytearray", .type "object"] := by rw [mroOf_type]; kernel_rfl
theorem lookup_new : typeLookup (.type "bytearray") "__new__" = pure (some (.builtin "bytearray.__new__")) := by rw [typeLookup_type, builtinLookup_eq_fast]; kernel_rfl
theorem slot_init : Slot "bytearray" "__init__" "bytearray.__init__" :=
  .of (owner := "bytearray") (n := "__init__") (by rw [typeLookup_type, builtinLookup_eq_fast]; kernel_rfl) (by decide +kernel) (by decide +kernel) (by decide +kernel)
    (by first | exact .inl (by decide +kernel) | exact .inr (by decide +kernel)) (by rw [isSubtype_type]; kernel_rfl)
theorem sub : isSubtype (.type "bytearray") (.type "bytearray") = pure true := by rw [isSubtype_type]; kernel_rfl
theorem called : TypeCalled "bytearray" "bytearray.__new__" "bytearray.__init__" :=
  ⟨by decide +kernel, by decide +kernel, ⟨_, _, mro⟩, madeBy_type mro lookup_new (by decide +kernel), by decide +kernel, sub, slot_init⟩
theorem typeCall (a : Value) : checkTypeCall "bytearray" ⟨[a], []⟩ = pure () := by kernel_rfl
theorem newCall (a : Value) : checkBuiltinCall "bytearray.__new__" ⟨[.type "bytearray", a], []⟩ = pure () := by kernel_rfl
theorem plain_new : plainId "bytearray.__new__" = true := by decide +kernel
theorem entry_new : entryFor table "bytearray.__new__" = some Builtin.«list.__new__» := entryFor_alias (id' := "list.__new__") (by rw [fastTable_eq_tree]; kernel_rfl) (by decide +kernel) (by decide +kernel) (by rw [fastTable_eq_tree]; kernel_rfl)
theorem entry_init : entryFor table "bytearray.__init__" = some Builtin.«bytearray.__init__» := entryFor_of_tree (by kernel_rfl)
set_option maxRecDepth 1000000 in
theorem owner : ("bytearray.__new__".splitOn ".__new__").headD "" = "bytearray" := by simp +decide [String.splitOn, String.splitOnAux]
theorem hasNoDict : typeHasDict (.type "bytearray") = false := by decide +kernel
theorem release : typeLookup (.type "bytearray") "__release_buffer__" = pure (some (.builtin "bytearray.__release_buffer__")) := by rw [typeLookup_type, builtinLookup_eq_fast]; kernel_rfl
theorem bind (v : Value) : Builtin.Bytes.bindOptional "bytearray.__init__" "bytearray" ["source", "encoding", "errors"] [v] [] = pure [some v, none, none] := by kernel_rfl
theorem ends : ("bytearray.__release_buffer__" : String).endsWith ("." ++ "__release_buffer__") = true := by decide +kernel
theorem drop : ("bytearray.__release_buffer__" : String).dropRight (("__release_buffer__" : String).length + 1) = "bytearray" := by decide +kernel
theorem slot_setitem : Slot "bytearray" "__setitem__" "bytearray.__setitem__" :=
  .of (owner := "bytearray") (n := "__setitem__") (by rw [typeLookup_type, builtinLookup_eq_fast]; kernel_rfl) (by decide +kernel) (by decide +kernel) (by decide +kernel)
    (by first | exact .inl (by decide +kernel) | exact .inr (by decide +kernel)) sub
theorem entry_setitem : entryFor table "bytearray.__setitem__" = some Builtin.«bytearray.__setitem__» := entryFor_of_tree (by kernel_rfl)
theorem no_bytes : typeLookup (.type "bytearray") "__bytes__" = pure none := by rw [typeLookup_type, builtinLookup_eq_fast]; kernel_rfl
theorem noIdx : typeLookup (.type "bytearray") "__index__" = pure none := by rw [typeLookup_type, builtinLookup_eq_fast]; kernel_rfl
theorem buffer : typeLookup (.type "bytearray") "__buffer__" = pure (some (.builtin "bytearray.__buffer__")) := by rw [typeLookup_type, builtinLookup_eq_fast]; kernel_rfl
theorem bends : ("bytearray.__buffer__" : String).endsWith ("." ++ "__buffer__") = true := by decide +kernel
theorem bdrop : ("bytearray.__buffer__" : String).dropRight (("__buffer__" : String).length + 1) = "bytearray" := by decide +kernel
end FB

section
variable {prog : Program} {w : World} {A : Around} {E : Value → Shared → Prop} {s : Shared}
theorem code_bytearray_new (a : Value) {Q₁ : Value → Shared → Prop}
    (h : Q₁ (.ref s.heap.objs.size) { s with heap := s.heap.push { cls := .type "bytearray", data := .bytearray #[] } }) :
    codeAny (model prog w) A (.call (.builtin "bytearray.__new__") ⟨[.type "bytearray", a], []⟩) (wants Q₁ E) s := by
  refine codeAny_of_tree ?_
  show wpAny _ A.in1 (do checkBuiltinCall "bytearray.__new__" ⟨[.type "bytearray", a], []⟩; again (.builtin "bytearray.__new__" ⟨[.type "bytearray", a], []⟩)) _ _ s
  refine wpAny_bind (wpAny_of_eq (FB.newCall a) (wpAny_pure ⟨plainId_quiet FB.plain_new _, codeAny_builtin_stack FB.entry_new rfl fun p st => ?_⟩))
  rw [Around.under_plainId FB.plain_new _]
  have hsub := FB.sub
  have hown := FB.owner
  have hnd := FB.hasNoDict
  obtain ⟨hp, g, d, tk, os⟩ := s
  simp only [hown]
  wp_walk
  exact h
end

section
variable {prog : Program} {w : World} {A : Around} {E : Value → Shared → Prop} {s : Shared}
theorem callTypeC {T newId initId : String} {Bi : Builtin} {args : List Value} {Q Q₁ : Value → Shared → Prop} (ft : TypeCalled T newId initId) (hnd : holders.contains initId = false)
    (hct : checkTypeCall T ⟨args, []⟩ = pure ()) (entryI : entryFor table initId = some Bi)
    (hnew : codeAny (model prog w) A.in1 (.call (.builtin newId) ⟨.type T :: args, []⟩) (wants Q₁ fun _ _ => False) s)
    (hnext : ∀ obj s₁, Q₁ obj s₁ → s₁.TypeIs obj T ∧ argsOk initId ⟨obj :: args, []⟩ ∧
      wpC (model prog w) A.in1.in1 (Bi ⟨obj :: args, []⟩) (fun fin s' => fin = .done (.ret .none) ∧ Q obj s') s₁) :
    wpC (model prog w) A (call (.type T) args) Q s := by
  obtain ⟨c, tl, hmro⟩ := ft.mro
  have hmade := ft.made
  have hsub := ft.sub
  have h1 := ft.notType
  have h2 := ft.canCreate
  refine wpC_call (codeC_of_tree rfl ?_)
  show wpC _ _ (again (.builtin "type.__call__" ⟨.type T :: args, []⟩)) _ _
  refine wpC_pure ⟨Code.quiet_builtin _ (by decide +kernel), codeC_builtin F.entry_type_call (show (!holders.contains "type.__call__") = true by decide +kernel) ?_⟩
  rw [Around.under_plain (weight_type_call_type T args []) rfl]
  unfold Builtin.«type.__call__»
  simp only [h1, h2, hct, hmro, hmade, Bool.false_eq_true, if_false]
  refine wpC_bindA (wpAny_pure ?_)
  refine wpC_bindA (wpAny_pure ?_)
  rw [if_neg (by simp)]
  refine wpC_bindA (wpAny_pure ?_)
  dsimp only
  refine wpC_bindA (wpAny_pure ?_)
  refine wpC_bindA (wpAny_holding (wpAny_call (codeAny_mono hnew fun r s₁ hr => ?_)))
  cases r with
  | error e => exact hr
  | ok fl =>
    cases fl with
    | ret obj =>
      obtain ⟨hT, hok, hsi⟩ := hnext _ _ hr
      have hli := ft.init.lookup
      have hbi := ft.init.bind obj
      refine wpC_bindA (wpAny_isInstance hT hsub ?_)
      rw [if_neg (by decide)]
      refine wpC_bind (wpC_holding ?_)
      unfold callSpecial?
      refine wpC_bindA (wpAny_specialOf hT hli ?_)
      dsimp only
      refine wpC_holding ?_
      rw [hbi]
      refine wpC_bindA (wpAny_pure ?_)
      dsimp only
      refine wpC_bind (wpC_call (codeC_call_builtin ft.init.plain hnd entryI (ft.init.check _ _ _ _ _ _ _ _ hT hok (wpC_mono hsi fun fin s' hf => ?_))))
      obtain ⟨rfl, hq⟩ := hf
      dsimp only
      refine wpC_pure ?_
      dsimp only
      rw [if_neg (by decide)]
      exact wpC_pure hq
    | _ => exact hr.elim
end


section
variable {prog : Program} {w : World} {A : Around} {s : Shared}
theorem not_holder {id : String} {l : List Value} {kw : List (Str × Value)} (h : okC (.builtin id ⟨l, kw⟩) = true) : holders.contains id = false := by simpa [okC] using h
theorem not_codec {id : String} (h : holders.contains id = false) : Builtin.Bytes.decodersThatHold.contains id = false := by
  cases hc : Builtin.Bytes.decodersThatHold.contains id with
  | false => rfl
  | true =>
    have : holders.contains id = true := by
      unfold holders
      rw [List.contains_eq_mem, decide_eq_true_eq]
      rw [List.contains_eq_mem, decide_eq_true_eq] at hc
      exact List.mem_append_right _ hc
    rw [this] at h; cases h
theorem wpC_exported {M : Model} {v : Value} {Q : Bool → Shared → Prop} (h : Q false s) : wpC M A (Builtin.Bytes.exported v) Q s := fun Γ p hΓ hc => by
  have key := clean_no_codec (p := p) hc
  unfold Builtin.Bytes.exported stack
  rw [Sem.wp_bind', Sem.wp_stack, Sem.wp_pure]
  show Q (List.any ((Γ.code, p) :: Γ.below) _) s
  rw [List.any_eq_false.mpr fun x hx hx' => ?_]
  · exact h
  · have ok := key x hx
    split at hx'
    · exact absurd (not_holder ok) (by decide +kernel)
    · exact absurd (not_holder ok) (by decide +kernel)
    · exact absurd (not_holder ok) (by decide +kernel)
    · exact absurd (not_holder ok) (by decide +kernel)
    · exact absurd (not_holder ok) (by decide +kernel)
    · rw [not_codec (not_holder ok), Bool.and_false] at hx'; cases hx'
    · cases hx'
end

section
variable {prog : Program} {w : World} {A : Around} {E : Value → Shared → Prop} {s : Shared}
abbrev baO (b : Array UInt8) : Obj := { cls := .type "bytearray", data := .bytearray b }
theorem ba_typeIs {a : Addr} {b : Array UInt8} (ha : s.heap.get? a = some (baO b)) : s.TypeIs (.ref a) "bytearray" := ⟨_, ha, rfl⟩
theorem wpAny_slotIsOwn_ba {a : Addr} {b : Array UInt8} {Q : Bool → Shared → Prop} (ha : s.heap.get? a = some (baO b)) (h : Q false s) : wpAny (model prog w) A (Builtin.Bytes.ownRelease (.ref a)) Q E s := by
  unfold Builtin.Bytes.ownRelease Builtin.Bytes.slotIsOwn
  refine wpAny_bind (wpAny_bind (wpAny_specialOf (ba_typeIs ha) FB.release ?_))
  dsimp only
  rw [FB.ends]
  refine bm_if_false (by decide) ?_
  rw [FB.drop]
  refine wpAny_isInstance (ba_typeIs ha) FB.sub ?_
  exact wpAny_pure h
theorem wpAny_write {a : Addr} {b : Array UInt8} {f : Array UInt8 → Array UInt8} {Q : Unit → Shared → Prop} (ha : s.heap.get? a = some (baO b)) (hz : (f b).size ≤ 1000)
    (h : ∀ h', Heap.SameBut a s.heap h' → h'.get? a = some (baO (f b)) → Q () { s with heap := h' }) : wpAny (model prog w) A (Builtin.Bytes.write (.ref a) f) Q E s := by
  show wpAny _ _ (updateBytearray a f) _ _ _
  unfold updateBytearray
  refine wpAny_bind (wpAny_load ha ?_)
  show wpAny _ _ (update a (Obj.mapBytearray f) >>= fun _ => lookBehind a) _ _ _
  refine wpAny_bind (wpAny_update ha ?_)
  have ha2 : (s.heap.update a (Obj.mapBytearray f)).get? a = some (baO (f b)) := Heap.get?_update_self (Obj.mapBytearray f) ha rfl
  refine wpAny_lookBehind ha2 ?_ (h _ (Heap.SameBut.update ..) ha2)
  show (if (f b).size > sizeLine then some "bytearray:memory" else none) = none
  rw [if_neg]
  have : sizeLine = 16777216 := by decide
  omega
theorem wpC_if_false {α : Type} {M : Model} {c : Bool} {x y : Sem α} {Q : α → Shared → Prop} (hc : c = false) (h : wpC M A y Q s) : wpC M A (if c = true then x else y) Q s := by
  subst hc
  exact h
theorem wpC_if_true {α : Type} {M : Model} {c : Bool} {x y : Sem α} {Q : α → Shared → Prop} (hc : c = true) (h : wpC M A x Q s) : wpC M A (if c = true then x else y) Q s := by
  subst hc
  exact h
theorem wpC_init {a : Addr} {n : Int} {t : Tok} {Q : Shared → Prop} (hn0 : 0 < n) (hn : n ≤ 1000) (ha : s.heap.get? a = some (baO #[]))
    (h : ∀ h', Heap.SameBut a s.heap h' → h'.get? a = some (baO (Array.replicate n.toNat 0)) → Q { s with heap := h' }) :
    wpC (model prog w) A (Builtin.«bytearray.__init__» ⟨[.ref a, .int n t], []⟩) (fun fin s' => fin = .done (.ret .none) ∧ Q s') s := by
  unfold Builtin.«bytearray.__init__»
  refine wpC_bindA (wpAny_slotIsOwn_ba ha ?_)
  rw [if_neg (by decide)]
  refine wpC_bindA (wpAny_of_eq (FB.bind _) ?_)
  dsimp only
  refine wpC_bindA (wpAny_of_eq (a := ()) rfl ?_)
  refine wpC_bindA (wpAny_of_eq (a := ()) rfl ?_)
  refine wpC_bind ?_
  unfold orM
  refine wpC_bind (wpC_exported ?_)
  dsimp only [toBool]
  refine wpC_bindA ?_
  unfold Builtin.Bytes.exportsOf
  refine wpAny_bind (wpAny_load ha (wpAny_pure (wpC_pure ?_)))
  refine wpC_if_false (by decide) ?_
  refine wpC_bindA (wpAny_write ha (by simp) fun h₁ hs₁ ha₁ => ?_)
  refine wpC_bindA (wpAny_of_eq (a := none) rfl ?_)
  refine wpC_if_false (by decide) ?_
  refine wpC_bindA (wpAny_of_eq (a := ()) rfl ?_)
  refine wpC_bindA (wpAny_specialOf (typeIs_int _ _ _) F.slot_int_index.lookup ?_)
  refine wpC_if_true (by decide) ?_
  refine wpC_bindA (wpAny_of_eq (a := .ok n) rfl ?_)
  dsimp only
  refine wpC_if_false (by simp only [Builtin.Bytes.fitsIndex, Bool.not_eq_false', Bool.and_eq_true, decide_eq_true_eq]; omega) ?_
  rw [if_neg (by omega)]
  refine wpC_if_false (by simp only [beq_eq_false_iff_ne]; omega) ?_
  refine wpC_if_false (by
    have : sizeLine = 16777216 := by decide
    simp only [Builtin.Bytes.tooLong, decide_eq_false_iff_not]; omega) ?_
  refine wpC_bindA (wpAny_rule ?_)
  rw [if_pos hn0]
  refine wpC_bindA (wpAny_write (s := { s with heap := h₁ }) ha₁ (by simp; omega) fun h₂ hs₂ ha₂ => ?_)
  have hs : Heap.SameBut a s.heap h₂ := ⟨hs₂.1.trans hs₁.1, fun b hb => (hs₂.2 b hb).trans (hs₁.2 b hb)⟩
  exact wpC_pure ⟨rfl, h h₂ hs ha₂⟩
theorem wpC_bytearray {n : Int} {t : Tok} {h₀ : Heap} {L : Addr} {m : Str → Option Value} {news : List (Addr × Obj)} {Q : Value → Shared → Prop} (hn0 : 0 < n) (hn : n ≤ 1000) (F : Fr h₀ L s.heap m) (N : News h₀ L s.heap news)
    (h : ∀ a h', (∀ p ∈ news, p.1 < a) → Fr h₀ L h' m → News h₀ L h' ((a, baO (Array.replicate n.toNat 0)) :: news) → Q (.ref a) { s with heap := h' }) :
    wpC (model prog w) A (call (.type "bytearray") [.int n t]) Q s := by
  refine callTypeC (Q₁ := fun obj s₁ => obj = .ref s.heap.objs.size ∧ s₁ = { s with heap := s.heap.push (baO #[]) }) FB.called (by decide +kernel) (FB.typeCall _) FB.entry_init (code_bytearray_new _ ⟨rfl, rfl⟩) fun obj s₁ h₁ => ?_
  obtain ⟨rfl, rfl⟩ := h₁
  have ha : (s.heap.push (baO #[])).get? s.heap.objs.size = some (baO #[]) := Heap.get?_push_size _ rfl
  refine ⟨ba_typeIs (s := { s with heap := s.heap.push (baO #[]) }) ha, by unfold argsOk; kernel_rfl, wpC_mono (wpC_init (s := { s with heap := s.heap.push (baO #[]) }) (Q := fun s' => Q (.ref s.heap.objs.size) s') hn0 hn ha fun h' hs ha' => ?_) fun fin s' x => x⟩
  have N₁ := News.push F N (baO #[])
  have F₁ := F.push (baO #[])
  have z := N₁ _ (List.mem_cons_self ..)
  exact h _ _ (fun p hp => Heap.lt_size (N p hp).1) (F₁.change hs z.2.1 z.2.2) (news_set (pre := []) N₁ (fun _ q => (nomatch q)) (fun p hp => Nat.ne_of_lt (Heap.lt_size (N p hp).1)) hs ha')
end


section
variable {prog : Program} {w : World} {A : Around} {E : Value → Shared → Prop} {s : Shared}
theorem wpAny_setItem_ba {a : Addr} {b : Array UInt8} {k v : Int} {t u : Tok} {Q : Unit → Shared → Prop} (ha : s.heap.get? a = some (baO b)) (h0 : 0 ≤ k) (hk : k < b.size) (hb : b.size ≤ 1000) (v0 : 0 ≤ v) (v1 : v < 256)
    (h : ∀ h', Heap.SameBut a s.heap h' → h'.get? a = some (baO (b.setIfInBounds k.toNat v.toNat.toUInt8)) → Q () { s with heap := h' }) :
    wpAny (model prog w) A (setItem (.ref a) (.int k t) (.int v u)) Q E s := by
  unfold setItem
  try with_reducible refine wpAny_holding ?_
  first | refine wpAny_bind (wpAny_pure ?_) | skip
  refine wpAny_bind (wpAny_sequenceKey (ba_typeIs ha) (by decide) ?_)
  refine wpAny_bind (wpAny_callSpecial?_slot (name := Str.ofString "__setitem__") (ba_typeIs ha) FB.slot_setitem
    (wpAny_call_entry FB.slot_setitem (ba_typeIs ha) FB.entry_setitem ?_ (by unfold argsOk; kernel_rfl)))
  show wpAny _ _ (Builtin.Bytes.subscript? (.int k t) >>= _) _ _ _
  have hfit : Builtin.Bytes.fitsIndex k = true := by simp only [Builtin.Bytes.fitsIndex, Bool.and_eq_true, decide_eq_true_eq]; omega
  refine wpAny_bind ?_
  unfold Builtin.Bytes.subscript?
  refine wpAny_bind (wpAny_specialOf (typeIs_int _ _ _) F.slot_int_index.lookup ?_)
  refine bm_if_false (by rfl) ?_
  refine wpAny_bind (wpAny_of_eq (a := k) rfl ?_)
  refine bm_if_false (by rw [hfit]; rfl) ?_
  refine wpAny_pure ?_
  show wpAny _ _ (Builtin.Bytes.byteValue (.int v u) >>= _) _ _ _
  refine wpAny_bind ?_
  unfold Builtin.Bytes.byteValue
  refine wpAny_bind (wpAny_of_eq (a := v) rfl ?_)
  refine bm_if_false (by simp only [Bool.or_eq_false_iff, decide_eq_false_iff_not]; omega) ?_
  refine wpAny_pure ?_
  show wpAny _ _ (Builtin.Bytes.payload (.ref a) >>= _) _ _ _
  refine wpAny_bind ?_
  unfold Builtin.Bytes.payload Builtin.Bytes.payload?
  refine wpAny_bind (wpAny_bind (wpAny_load ha ?_))
  refine wpAny_pure (wpAny_pure ?_)
  have hs : seqIndex? k b.size = some k.toNat := by
    unfold seqIndex?
    simp only [show ¬ k < 0 by omega, if_false, h0, hk, decide_true, Bool.and_self, if_true]
  dsimp only
  rw [hs]
  dsimp only
  refine wpAny_bind (wpAny_write ha (by simpa using hb) fun h' hs' ha' => ?_)
  refine wpAny_bind (wpAny_pure ?_)
  exact wpAny_pure ⟨_, rfl, wpAny_pure (h h' hs' ha')⟩
theorem bytes_new_ba {a : Addr} {b : Array UInt8} {Q : Value → Shared → Prop} (ha : s.heap.get? a = some (baO b)) (hz : b.size ≤ 1000)
    (hQ : ∀ t k, Q (.bytes b t) { s with toks := k }) :
    codeAny (model prog w) A (.call (.builtin "bytes.__new__") ⟨[.type "bytes", .ref a], []⟩) (wants Q E) s := by
  refine codeAny_of_tree ?_
  show wpAny _ A.in1 (do checkBuiltinCall "bytes.__new__" ⟨[.type "bytes", .ref a], []⟩; again (.builtin "bytes.__new__" ⟨[.type "bytes", .ref a], []⟩)) _ _ s
  refine wpAny_bind (wpAny_of_eq (F.bm_newCall _) (wpAny_pure ⟨plainId_quiet F.bm_plain _, codeAny_builtin F.bm_entry ?_⟩))
  rw [Around.under_plainId F.bm_plain _]
  have hT : s.TypeIs (.ref a) "bytearray" := ba_typeIs ha
  unfold Builtin.«bytes.__new__»
  refine wpAny_bind (wpAny_of_eq (a := true) rfl ?_)
  refine bm_if_false rfl ?_
  refine wpAny_bind (wpAny_of_eq F.bm_sub ?_)
  refine bm_if_false rfl ?_
  refine wpAny_bind (wpAny_of_eq (F.bm_bind _) ?_)
  refine wpAny_bind (wpAny_of_eq (a := ()) rfl ?_)
  refine wpAny_bind (wpAny_of_eq (a := ()) rfl ?_)
  refine bm_if_false rfl ?_
  refine wpAny_bind (wpAny_specialOf hT FB.no_bytes ?_)
  refine wpAny_bind (wpAny_bind ?_)
  show wpAny _ _ (load a >>= _) _ _ _
  refine wpAny_bind (wpAny_load ha ?_)
  refine wpAny_pure (wpAny_pure ?_)
  refine bm_if_false rfl ?_
  refine wpAny_bind (wpAny_specialOf hT FB.noIdx ?_)
  refine bm_if_true rfl ?_
  show wpAny _ _ (Builtin.Bytes.buffer? "bytes.__new__" (.ref a) true >>= _) _ _ _
  refine wpAny_bind ?_
  unfold Builtin.Bytes.buffer?
  refine wpAny_bind (wpAny_specialOf hT FB.buffer ?_)
  dsimp only
  refine wpAny_bind ?_
  unfold Builtin.Bytes.slotIsOwn
  refine wpAny_bind (wpAny_specialOf hT FB.buffer ?_)
  dsimp only
  rw [FB.bends]
  refine bm_if_false (by decide) ?_
  rw [FB.bdrop]
  refine wpAny_isInstance hT FB.sub ?_
  refine bm_if_false (by decide) ?_
  refine wpAny_bind (wpAny_specialOf hT FB.buffer ?_)
  refine wpAny_bind (wpAny_slotIsOwn_ba ha ?_)
  refine bm_if_false (by decide) ?_
  refine wpAny_bind ?_
  unfold Builtin.Bytes.payload Builtin.Bytes.payload?
  refine wpAny_bind (wpAny_bind (wpAny_load ha ?_))
  refine wpAny_pure (wpAny_pure ?_)
  refine wpAny_pure ?_
  dsimp only
  have hz' : b.size ≤ sizeLine := Nat.le_trans hz (by decide)
  refine wpAny_bind (wpAny_rule (wpAny_bind (wpAny_mkBytes ?_ hz')))
  show wpAny _ _ (if (Value.type "bytes" == Value.type "bytes") = true then _ else _) _ _ _
  refine bm_if_true (by decide) ?_
  first
    | exact wpAny_pure (hQ _ _)
    | exact wpAny_bind (wpAny_pure (wpAny_pure (hQ _ _)))
theorem call_bytes_ba {a : Addr} {b : Array UInt8} {Q : Value → Shared → Prop} (ha : s.heap.get? a = some (baO b)) (hz : b.size ≤ 1000)
    (hQ : ∀ t k, Q (.bytes b t) { s with toks := k }) : wpAny (model prog w) A (call (.type "bytes") [.ref a]) Q E s := by
  refine callType_codes (Q₁ := fun obj s₁ => s₁.TypeIs obj "bytes" ∧ Q obj s₁) F.bm_called (F.bm_typeCall _) F.entry_object_init
    (bytes_new_ba ha hz fun t k => ⟨PySem.W.typeIs_bytes _ _ _, hQ t k⟩) fun obj s₁ h₁ => ?_
  exact ⟨h₁.1, F.args_object_init_2 obj _, object_init_meets F.bm_called.init.lookup F.bm_called.made (by decide) prog w A.in1 _ s₁ ⟨h₁.1, rfl, h₁.2⟩⟩
end

open_top hd for PySem.Challenge.rw_wf0019_01


theorem max3_num {prog : Program} {w : World} {A : Around} {E : Value → Shared → Prop} {s : Shared} {Q : Value → Shared → Prop} {a b c : Value} (hh : A.handled = none) (ha : NumV a) (hb : NumV b) (hc : NumV c)
    (h : ∀ h' tk, (∀ x o, s.heap.get? x = some o → h'.get? x = some o) → Q (if ltV a b then (if ltV b c then c else b) else (if ltV a c then c else a)) { s with heap := h', toks := tk }) :
    wpAny (model prog w) A (call (.builtin "max") [a, b, c]) Q E s := by
  have hT : (s.heap.push { cls := .type "tuple", data := .seq #[a, b, c] }).IsTuple s.heap.objs.size #[a, b, c] := ⟨_, Heap.get?_push_size _ rfl, rfl, 0, rfl⟩
  refine call_max_three (wpAny_pyIter_tuple hT ?_)
  have hsz : (s.heap.push { cls := .type "tuple", data := .seq #[a, b, c] }).objs.size = s.heap.objs.size + 1 := Heap.size_push ..
  refine ⟨_, [_, s.heap.objs.size], [_], _, _, _, _, rfl, Walks.tuple (A := A.in1) hh _ s.heap.objs.size (by rw [hsz]; exact Nat.ne_of_lt (Nat.lt_succ_self _)) #[a, b, c],
    ⟨⟨_, Heap.get?_push_size _ rfl, rfl, rfl⟩, hT.push _⟩, fun c hc => ?_, by simp, cmpOf_gt #[a, b, c] (by simp [ha, hb, hc]), fun v h' tk hP hk => ?_⟩
  · show c < ((s.heap.push _).push _).objs.size
    rw [Heap.size_push, hsz]
    rcases List.mem_cons.mp hc with rfl | hc
    · rw [hsz]; exact Nat.lt_succ_self _
    · rcases List.mem_cons.mp hc with rfl | hc
      · exact Nat.lt_succ_of_lt (Nat.lt_succ_self _)
      · cases hc
  · have hold : ∀ c o, s.heap.get? c = some o → h'.get? c = some o := fun c o e => by
      refine hk c o (fun hm => ?_) (Heap.get?_push_of_some _ (Heap.get?_push_of_some _ e))
      rcases List.mem_cons.mp hm with e1 | hm
      · have := Heap.lt_size e; rw [e1, hsz] at this; exact Nat.lt_irrefl _ (Nat.lt_of_succ_lt this)
      · cases hm
    have := h h' tk hold
    have hv : v = if ltV a b then (if ltV b c then c else b) else (if ltV a c then c else a) := by
      cases h1 : ltV a b <;> cases h2 : ltV a c <;> cases h3 : ltV b c <;> simp [argBest, h1, h2, h3] at hP <;> simp [hP]
    rw [hv]; exact this
theorem min3_num {prog : Program} {w : World} {A : Around} {E : Value → Shared → Prop} {s : Shared} {Q : Value → Shared → Prop} {a b c : Value} (hh : A.handled = none) (ha : NumV a) (hb : NumV b) (hc : NumV c)
    (h : ∀ h' tk, (∀ x o, s.heap.get? x = some o → h'.get? x = some o) → Q (if ltV b a then (if ltV c b then c else b) else (if ltV c a then c else a)) { s with heap := h', toks := tk }) :
    wpAny (model prog w) A (call (.builtin "min") [a, b, c]) Q E s := by
  have hT : (s.heap.push { cls := .type "tuple", data := .seq #[a, b, c] }).IsTuple s.heap.objs.size #[a, b, c] := ⟨_, Heap.get?_push_size _ rfl, rfl, 0, rfl⟩
  refine call_min_three (wpAny_pyIter_tuple hT ?_)
  have hsz : (s.heap.push { cls := .type "tuple", data := .seq #[a, b, c] }).objs.size = s.heap.objs.size + 1 := Heap.size_push ..
  refine ⟨_, [_, s.heap.objs.size], [_], _, _, _, _, rfl, Walks.tuple (A := A.in1) hh _ s.heap.objs.size (by rw [hsz]; exact Nat.ne_of_lt (Nat.lt_succ_self _)) #[a, b, c],
    ⟨⟨_, Heap.get?_push_size _ rfl, rfl, rfl⟩, hT.push _⟩, fun c hc => ?_, by simp, cmpOf_lt #[a, b, c] (by simp [ha, hb, hc]), fun v h' tk hP hk => ?_⟩
  · show c < ((s.heap.push _).push _).objs.size
    rw [Heap.size_push, hsz]
    rcases List.mem_cons.mp hc with rfl | hc
    · rw [hsz]; exact Nat.lt_succ_self _
    · rcases List.mem_cons.mp hc with rfl | hc
      · exact Nat.lt_succ_of_lt (Nat.lt_succ_self _)
      · cases hc
  · have hold : ∀ c o, s.heap.get? c = some o → h'.get? c = some o := fun c o e => by
      refine hk c o (fun hm => ?_) (Heap.get?_push_of_some _ (Heap.get?_push_of_some _ e))
      rcases List.mem_cons.mp hm with e1 | hm
      · have := Heap.lt_size e; rw [e1, hsz] at this; exact Nat.lt_irrefl _ (Nat.lt_of_succ_lt this)
      · cases hm
    have := h h' tk hold
    have hv : v = if ltV b a then (if ltV c b then c else b) else (if ltV c a then c else a) := by
      cases h1 : ltV b a <;> cases h2 : ltV c a <;> cases h3 : ltV c b <;> simp [argBest, h1, h2, h3] at hP <;> simp [hP]
    rw [hv]; exact this

def fmax (x y : UInt64) : UInt64 := if (Float64.cmp x y == some .lt) = true then y else x
def fmin (x y : UInt64) : UInt64 := if (Float64.cmp y x == some .lt) = true then y else x
theorem max3_ff {prog : Program} {w : World} {A : Around} {E : Value → Shared → Prop} {s : Shared} {Q : Value → Shared → Prop} {x y : UInt64} {t u v : Tok} {h₀ : Heap} {L : Addr} {m : Str → Option Value} {news : List (Addr × Obj)}
    (hh : A.handled = none) (F : Fr h₀ L s.heap m) (N : News h₀ L s.heap news) (hy : (Float64.cmp y y == some .lt) = false)
    (h : ∀ h' tk v, Fr h₀ L h' m → News h₀ L h' news → Q (.float (fmax x y) v) { s with heap := h', toks := tk }) :
    wpAny (model prog w) A (call (.builtin "max") [.float x t, .float y u, .float y v]) Q E s :=
  max3_num hh (.float x t) (.float y u) (.float y v) fun h' tk kp => by
    show Q (if (Float64.cmp x y == some .lt) = true then (if (Float64.cmp y y == some .lt) = true then .float y v else .float y u) else (if (Float64.cmp x y == some .lt) = true then .float y v else .float x t)) _
    rw [hy]
    have k := fun v => h h' tk v (F.grownK kp) (N.grown kp)
    unfold fmax at k
    cases hc : (Float64.cmp x y == some .lt)
    · have := k t; rw [hc] at this; simpa using this
    · have := k u; rw [hc] at this; simpa using this
theorem min3_ff {prog : Program} {w : World} {A : Around} {E : Value → Shared → Prop} {s : Shared} {Q : Value → Shared → Prop} {x y : UInt64} {t u v : Tok} {h₀ : Heap} {L : Addr} {m : Str → Option Value} {news : List (Addr × Obj)}
    (hh : A.handled = none) (F : Fr h₀ L s.heap m) (N : News h₀ L s.heap news) (hy : (Float64.cmp y y == some .lt) = false)
    (h : ∀ h' tk v, Fr h₀ L h' m → News h₀ L h' news → Q (.float (fmin x y) v) { s with heap := h', toks := tk }) :
    wpAny (model prog w) A (call (.builtin "min") [.float x t, .float y u, .float y v]) Q E s :=
  min3_num hh (.float x t) (.float y u) (.float y v) fun h' tk kp => by
    show Q (if (Float64.cmp y x == some .lt) = true then (if (Float64.cmp y y == some .lt) = true then .float y v else .float y u) else (if (Float64.cmp y x == some .lt) = true then .float y v else .float x t)) _
    rw [hy]
    have k := fun v => h h' tk v (F.grownK kp) (N.grown kp)
    unfold fmin at k
    cases hc : (Float64.cmp y x == some .lt)
    · have := k t; rw [hc] at this; simpa using this
    · have := k u; rw [hc] at this; simpa using this

section
variable {prog : Program} {w : World} {A : Around} {E : Value → Shared → Prop} {s : Shared} {Q : Value → Shared → Prop} {a b : UInt64} {t u : Tok}
theorem div_nz (hz : Float64.isZero b = false) (h : Q (.float (Float64.div a b) s.toks) { s with toks := s.toks + 1 }) : wpAny (model prog w) A (binaryOp .Div (.float a t) (.float b u)) Q E s :=
  AutoFloatOps.truediv_1 (by rw [hz]; exact Bool.false_ne_true) h
theorem mod_nz (hz : Float64.isZero b = false) (h : Q (.float (Float64.divmod a b).2 s.toks) { s with toks := s.toks + 1 }) : wpAny (model prog w) A (binaryOp .Mod (.float a t) (.float b u)) Q E s :=
  AutoFloatOps.mod_1 (by rw [hz]; exact Bool.false_ne_true) h
theorem int_ok (hh : A.handled = none) (h1 : Float64.isNaN a = false) (h2 : Float64.isInf a = false) (h : Q (.int (toInt Float64.truncOf a) s.toks) { s with toks := s.toks + 1 }) : wpAny (model prog w) A (call (.type "int") [.float a t]) Q E s :=
  call_int_float3 hh (fun e => by rw [h1] at e; cases e) (fun e => by rw [h2] at e; cases e) fun _ => h
theorem sub_fi_ok {n : Int} (hn : n.natAbs < 1000) (h : Q (.float (Float64.sub a (Float64.ofInt n)) s.toks) { s with toks := s.toks + 1 }) : wpAny (model prog w) A (binaryOp .Sub (.float a t) (.int n u)) Q E s :=
  sub_fi_fits (Nat.lt_of_lt_of_le hn (by decide +kernel)) h
end

abbrev tupO (vs : List Value) : Obj := { cls := .type "tuple", data := .seq vs.toArray }

/-- what a call of a def of the text does: whoever calls it, it comes back with a value, its frame's caller as it was, the ledger grown as Post says -/
abbrev Con (k : Nat) (w : World) (mean : ExcName → Option Value) (mg mb : Str → Option Value) (f : Addr) (vs : List Value) (Post : List (Addr × Obj) → List (Addr × Obj) → Value → Prop) : Prop :=
  ∀ (dp un : Nat) (gd : Option (List Code)) (cn : Str) (cs : Scope) (a : Addr) (ccd : Value) (cl : List (Str × Addr)) (outer : List Env) (A₀ : Around) (base h₀ : Heap) (L : Addr) (m : Str → Option Value) (s : Shared) (Q E : Value → Shared → Prop) (news : List (Addr × Obj)),
    Below A₀ base outer h₀ → Fr h₀ L s.heap m → (hd.heap_39 w.params).In h₀ → News h₀ L s.heap news → Top hd.view_39 (looseW hd.view_39 []) mean mg mb h₀ → cs.kind = .function → dp + k < recursionLimit → un + 10 * k < cLine →
    (∀ r news' h' tk', Fr h₀ L h' m → News h₀ L h' news' → Post news news' r → Q r { s with heap := h', toks := tk' }) →
      wpAny (model PySem.Challenge.rw_wf0019_01.row.prog w) (ktrTop dp un gd cn cs L a ccd cl outer) (call (.ref f) vs) Q E s

theorem con_use {k : Nat} {w : World} {mean : ExcName → Option Value} {mg mb : Str → Option Value} {f : Addr} {vs : List Value} {Post : List (Addr × Obj) → List (Addr × Obj) → Value → Prop} (C : Con k w mean mg mb f vs Post)
    {dp un : Nat} {gd : Option (List Code)} {cn : Str} {cs : Scope} {a : Addr} {ccd : Value} {cl : List (Str × Addr)} {outer : List Env} {A₀ : Around} {base h₀ : Heap} {L : Addr} {m : Str → Option Value} {s : Shared} {Q E : Value → Shared → Prop} {news : List (Addr × Obj)}
    (B : Below A₀ base outer h₀) (F : Fr h₀ L s.heap m) (X : (hd.heap_39 w.params).In h₀) (N : News h₀ L s.heap news) (T : Top hd.view_39 (looseW hd.view_39 []) mean mg mb h₀) (hk : cs.kind = .function) (hd : dp + k < recursionLimit) (hu : un + 10 * k < cLine)
    (ret : ∀ r news' h' tk', Fr h₀ L h' m → News h₀ L h' news' → Post news news' r → Q r { s with heap := h', toks := tk' }) :
      wpAny (model PySem.Challenge.rw_wf0019_01.row.prog w) (ktrTop dp un gd cn cs L a ccd cl outer) (call (.ref f) vs) Q E s :=
  C _ _ _ _ _ _ _ _ _ _ _ _ _ _ _ _ _ _ B F X N T hk hd hu ret

theorem if_f {α : Type} {b : Bool} {x y : α} (h : b = false) : (if b = true then x else y) = y := by rw [h]; rfl

/-- a goal that is put by -/
def Held (P : Prop) : Prop := P
theorem held_in {P : Prop} (h : Held P) : P := h
theorem held_out {P : Prop} (h : P) : Held P := h
theorem news_drop {h₀ h : Heap} {L : Addr} {a : Addr} {o : Obj} {b : Addr} {o' : Obj} {news : List (Addr × Obj)} (N : News h₀ L h ((a, o) :: (b, o') :: news)) : News h₀ L h ((b, o') :: news) := fun p hp => N p (List.mem_cons_of_mem _ hp)

section
variable {prog : Program} {w : World} {A₀ A : Around} {s : Shared} {base h₀ : Heap} {outer : List Env} {L : Addr} {m mg mb : Str → Option Value} {env : Env} {news : List (Addr × Obj)} {K : Frag} {p : Program} {loose : List Str} {mean : ExcName → Option Value}
  {R : Flow → Shared → Prop} {name qual : Str} {params : Arguments} {body : List Stmt} {scope : Scope} {dV kV doc pm cdv ct oc : Value} {an od : Option Addr} {osl : Array (Option Value)} {f : Addr} {args : Args} {binds : List (Str × Value)}
/-- a clean end, as the kit's rules for a frame's end say ends -/
abbrev endR (R : Flow → Shared → Prop) : Result → Shared → Prop := fun r s' => match r with | .ok fl => R fl s' | .error _ => False
theorem codeC_def (B : Below A₀ base outer h₀) (F : Fr h₀ L s.heap m) (X₀ : K.In h₀) (N : News h₀ L s.heap news) (T : Top p loose mean mg mb h₀) (hA : A.frames = some (env :: outer)) (hf : env.frame = some L) (hke : env.scope.kind = .function)
    (ho : K.lookup f = some ⟨oc, od, .func (fnOf name qual params body scope dV kV doc pm an cdv ct), osl⟩) (hcd : codeIn K cdv qual = true) (hroom : A.depth < recursionLimit)
    (hbind : BindsTo s (fnOf name qual params body scope dV kV doc pm an cdv ct) args binds) (hloc : ∀ y ∈ binds, scope.names.lookup y.1 = some .local)
    (h : ∀ g L' h₁, Fr h₀ L g m → Fr g L' h₁ (fun y => binds.reverse.lookup y) → News g L' h₁ news → Below A base (env :: outer) g → K.In g → Top p loose mean mg mb g → (∀ p ∈ news, p.1 < L') →
      wpC (model prog w) (A.deeper (envOf qual scope L' f cdv)) (execs body (envOf qual scope L' f cdv))
        (fun fl s' => LeaveK h₀ L m g (endR R) (match fl with | .ret v => v | _ => .none) s') { s with heap := h₁, toks := s.toks + binds.length })
    (hco : scope.isCoroutine = false) (hgen : scope.isGenerator = false) (hk : scope.kind = .function)
    (hcell : ∀ x ∈ scope.names, x.2 ≠ .cell) : codeC (model prog w) A (.call (.ref f) args) R s := by
  obtain ⟨FG, BG, st, lv⟩ := groundX (R := endR R) B F N hA hf hke
  have hlim : s.heap.NoLimit := T.nolimit.keeps F.keep
  refine codeC_call_function hroom ((X₀.keeps F.keep) _ _ ho) rfl hco hgen rfl (codeRec_of (X₀.keeps F.keep) hcd) (hbind _ _ _ _ ?_)
  refine wpAny_newFunctionEnv hcell hloc (fun h₁ hns₁ hsb₁ => ⟨hlim.fresh _ hsb₁, codeC_func ?_⟩) hk
  have hk₁ : ∀ b o, s.heap.get? b = some o → h₁.get? b = some o := fun b o e => hsb₁.extBut b o (Nat.ne_of_lt (Heap.lt_size e)) (Heap.get?_push_of_some _ e)
  exact wpC_mono (h _ s.heap.objs.size h₁ FG ⟨hns₁, fun b o e => hk₁ b o (of_hideAll _ e), Nat.le_of_eq (hideAll_size _ _)⟩
    (fun p hp => ⟨hk₁ _ _ (N p hp).1, Nat.ne_of_lt (Heap.lt_size (N p hp).1), hideAll_none _ (List.mem_map_of_mem hp)⟩) BG (X₀.keeps st) (T.keeps st) fun p hp => Heap.lt_size (N p hp).1) fun fl s' hl => lv _ _ hl
end
/-- a contract in the clean logic -/
abbrev ConC (k : Nat) (w : World) (mean : ExcName → Option Value) (mg mb : Str → Option Value) (f : Addr) (vs : List Value) (Post : List (Addr × Obj) → List (Addr × Obj) → Value → Prop) : Prop :=
  ∀ (dp un : Nat) (gd : Option (List Code)) (cn : Str) (cs : Scope) (a : Addr) (ccd : Value) (cl : List (Str × Addr)) (outer : List Env) (A₀ : Around) (base h₀ : Heap) (L : Addr) (m : Str → Option Value) (s : Shared) (Q : Value → Shared → Prop) (news : List (Addr × Obj)),
    Below A₀ base outer h₀ → Fr h₀ L s.heap m → (hd.heap_39 w.params).In h₀ → News h₀ L s.heap news → Top hd.view_39 (looseW hd.view_39 []) mean mg mb h₀ → cs.kind = .function → dp + k < recursionLimit → un + 10 * k < cLine →
    (∀ r news' h' tk', Fr h₀ L h' m → News h₀ L h' news' → Post news news' r → Q r { s with heap := h', toks := tk' }) →
      wpC (model PySem.Challenge.rw_wf0019_01.row.prog w) (ktrTop dp un gd cn cs L a ccd cl outer) (call (.ref f) vs) Q s
theorem conC_use {k : Nat} {w : World} {mean : ExcName → Option Value} {mg mb : Str → Option Value} {f : Addr} {vs : List Value} {Post : List (Addr × Obj) → List (Addr × Obj) → Value → Prop} (C : ConC k w mean mg mb f vs Post)
    {dp un : Nat} {gd : Option (List Code)} {cn : Str} {cs : Scope} {a : Addr} {ccd : Value} {cl : List (Str × Addr)} {outer : List Env} {A₀ : Around} {base h₀ : Heap} {L : Addr} {m : Str → Option Value} {s : Shared} {Q : Value → Shared → Prop} {news : List (Addr × Obj)}
    (B : Below A₀ base outer h₀) (F : Fr h₀ L s.heap m) (X : (hd.heap_39 w.params).In h₀) (N : News h₀ L s.heap news) (T : Top hd.view_39 (looseW hd.view_39 []) mean mg mb h₀) (hk : cs.kind = .function) (hd : dp + k < recursionLimit) (hu : un + 10 * k < cLine)
    (ret : ∀ r news' h' tk', Fr h₀ L h' m → News h₀ L h' news' → Post news news' r → Q r { s with heap := h', toks := tk' }) :
      wpC (model PySem.Challenge.rw_wf0019_01.row.prog w) (ktrTop dp un gd cn cs L a ccd cl outer) (call (.ref f) vs) Q s :=
  C _ _ _ _ _ _ _ _ _ _ _ _ _ _ _ _ _ B F X N T hk hd hu ret
local macro_rules | `(tactic| walk_at "enterC") => `(tactic| (k_dflt (refine' codeC_def ?k1 ?k2 ?k3 ?k4 ?k5 ?kA ?kF ?kK ?k6 ?k7 ?k8 ?k9 ?kB ?_ ?c2 ?c3 ?c4 ?c5; (case kA => exact rfl); (case kF => exact rfl); (case kK => assumption); (case k1 => k_asm); (case k2 => k_asm); (case k3 => k_asm); (case k4 => k_asm); (case k5 => k_asm); (case k6 => k_is); (case k7 => k_is); (case k8 => ktr_room); (case k9 => exact BindsTo.of_eq rfl); (case c5 => decide); (case kB => exact locs rfl); (case c2 => exact rfl); (case c3 => exact rfl); (case c4 => exact rfl); k_whole); intro g' L' h' FG' F' N' B' X' T' l1; (try dsimp only)))


def hI (x : UInt64) : Int := toInt Float64.truncOf (Float64.mul x 4618441417868443648)
def hF (x : UInt64) : UInt64 := Float64.sub (Float64.mul x 4618441417868443648) (Float64.ofInt (hI x))
def hP : UInt64 := Float64.mul 4607182418800017408 (Float64.sub 4607182418800017408 4607182418800017408)
def hQ (x : UInt64) : UInt64 := Float64.mul 4607182418800017408 (Float64.sub 4607182418800017408 (Float64.mul 4607182418800017408 (hF x)))
def hT (x : UInt64) : UInt64 := Float64.mul 4607182418800017408 (Float64.sub 4607182418800017408 (Float64.mul 4607182418800017408 (Float64.sub 4607182418800017408 (hF x))))
def rgbT (x : UInt64) : UInt64 × UInt64 × UInt64 :=
  if (hI x).fmod 6 = 0 then (4607182418800017408, hT x, hP) else if (hI x).fmod 6 = 1 then (hQ x, 4607182418800017408, hP) else if (hI x).fmod 6 = 2 then (hP, 4607182418800017408, hT x)
  else if (hI x).fmod 6 = 3 then (hP, hQ x, 4607182418800017408) else if (hI x).fmod 6 = 4 then (hT x, hP, 4607182418800017408) else (4607182418800017408, hP, hQ x)
def rgbP (x : UInt64) (news news' : List (Addr × Obj)) (r : Value) : Prop :=
  ∃ D ta tb tc, r = .ref D ∧ news' = (D, tupO [.float (rgbT x).1 ta, .float (rgbT x).2.1 tb, .float (rgbT x).2.2 tc]) :: news ∧ ∀ p ∈ news, p.1 < D
theorem rgb_end {x : UInt64} {news : List (Addr × Obj)} {D : Addr} {a b c : UInt64} {ta tb tc : Tok} (e : rgbT x = (a, b, c)) (l : ∀ p ∈ news, p.1 < D) :
    rgbP x news ((D, tupO [.float a ta, .float b tb, .float c tc]) :: news) (.ref D) := ⟨D, ta, tb, tc, rfl, by rw [e], l⟩
section
local macro_rules | `(tactic| walk_at "call type:int") => `(tactic| (k_here; (with_reducible show wpAny _ _ (call _ [Value.float _ _]) _ _ _); refine int_ok rfl (by assumption) (by assumption) ?_))
local macro_rules | `(tactic| walk_at "binaryOp Sub float int") => `(tactic| (k_here; refine sub_fi_ok (by assumption) ?_))
theorem rgb_c (w : World) (mean : ExcName → Option Value) (mg mb : Str → Option Value) (x : UInt64) (t0 t1 t2 : Tok) (k1 : Float64.isNaN (Float64.mul x 4618441417868443648) = false) (k2 : Float64.isInf (Float64.mul x 4618441417868443648) = false)
    (k3 : (toInt Float64.truncOf (Float64.mul x 4618441417868443648)).natAbs < 1000) :
    Con 1 w mean mg mb 67 [.float x t0, .float 4607182418800017408 t1, .float 4607182418800017408 t2] (rgbP x) := by
  unfold Con; k_fill
  intro dp un gd cn cs a ccd cl outer A₀ base h₀ L m s Q E news B F X N T hk hdp hun hret
  refine wpAny_call ?_
  k_dflt cell_enter
  k_steps
  all_goals first
    | (refine hret _ _ _ _ (by assumption) (by assumption) (rgb_end ?_ (by assumption))
       unfold rgbT
       first
       | exact if_pos (by assumption)
       | exact (if_neg (by assumption)).trans (if_pos (by assumption))
       | exact (if_neg (by assumption)).trans ((if_neg (by assumption)).trans (if_pos (by assumption)))
       | exact (if_neg (by assumption)).trans ((if_neg (by assumption)).trans ((if_neg (by assumption)).trans (if_pos (by assumption))))
       | exact (if_neg (by assumption)).trans ((if_neg (by assumption)).trans ((if_neg (by assumption)).trans ((if_neg (by assumption)).trans (if_pos (by assumption)))))
       | exact (if_neg (by assumption)).trans ((if_neg (by assumption)).trans ((if_neg (by assumption)).trans ((if_neg (by assumption)).trans (if_neg (by assumption))))))
    | (exfalso; have h1 := Int.fmod_nonneg_of_pos (toInt Float64.truncOf (Float64.mul x 4618441417868443648)) (show (0:Int) < 6 by decide); have h2 := Int.fmod_lt_of_pos (toInt Float64.truncOf (Float64.mul x 4618441417868443648)) (show (0:Int) < 6 by decide); omega)
end

abbrev qf (n d : Int) : UInt64 := Float64.ofFrac (decide (n < 0) != decide (d < 0)) n.natAbs d.natAbs
section
local macro_rules | `(tactic| walk_at "call ref") => `(tactic| (k_here; (with_reducible show wpAny _ _ (call (Value.ref 67) _ _) _ _ _); k_dflt (refine' con_use (rgb_c _ _ _ _ _ _ _ _ ?c1 ?c2 ?c3) ?k1 ?k2 ?k3 ?k4 ?k5 ?k6 ?k7 ?k8 ?_); (case c1 => assumption); (case c2 => assumption); (case c3 => assumption); (case k1 => k_asm); (case k2 => k_asm); (case k3 => k_asm); (case k4 => k_asm); (case k5 => k_asm); (case k6 => first | exact rfl | assumption); (case k7 => ktr_room); (case k8 => ktr_units); intro r9 news9 h9 tk9 F9 N9 P9; (obtain ⟨D9, ta9, tb9, tc9, e8, e9, l9⟩ := P9); subst e8; subst e9; (try dsimp only)))
theorem blue_c (w : World) (mean : ExcName → Option Value) (mg mb : Str → Option Value) (n : Int) (t0 : Tok) (k0 : n.natAbs < 1000) (k1 : Float64.isNaN (Float64.mul (qf n 4) 4618441417868443648) = false) (k2 : Float64.isInf (Float64.mul (qf n 4) 4618441417868443648) = false)
    (k3 : (toInt Float64.truncOf (Float64.mul (qf n 4) 4618441417868443648)).natAbs < 1000) :
    Con 2 w mean mg mb 86 [.int n t0] (fun news news' r => news' = news ∧ ∃ t, r = .float (rgbT (qf n 4)).2.2 t) := by
  unfold Con; k_fill
  intro dp un gd cn cs a ccd cl outer A₀ base h₀ L m s Q E news B F X N T hk hdp hun hret
  refine wpAny_call ?_
  k_dflt cell_enter
  k_steps
  all_goals exact hret _ news _ _ (by assumption) (cb_drop (by assumption) (fun p hp => List.mem_cons_of_mem _ hp)) ⟨rfl, _, rfl⟩
end


/-- r, g, g on colorsys's wheel: the hue and the lightness -/
def wRange (r g : UInt64) : UInt64 := Float64.sub (fmax r g) (fmin r g)
def wHue (r g : UInt64) : UInt64 :=
  if (Float64.cmp (fmin r g) (fmax r g) == some .eq) = true then 0
  else if (Float64.cmp r (fmax r g) == some .eq) = true then (Float64.divmod (Float64.div (Float64.sub (Float64.div (Float64.sub (fmax r g) g) (wRange r g)) (Float64.div (Float64.sub (fmax r g) g) (wRange r g))) 4618441417868443648) 4607182418800017408).2
  else (Float64.divmod (Float64.div (Float64.sub (Float64.add 4611686018427387904 (Float64.div (Float64.sub (fmax r g) r) (wRange r g))) (Float64.div (Float64.sub (fmax r g) g) (wRange r g))) 4618441417868443648) 4607182418800017408).2
def wLight (r g : UInt64) : UInt64 := Float64.div (Float64.add (fmax r g) (fmin r g)) 4611686018427387904
structure WheelOk (r g : UInt64) : Prop where
  z1 : (Float64.cmp g g == some .lt) = false
  z2 : Float64.isZero (Float64.add (fmax r g) (fmin r g)) = false
  z3 : (Float64.cmp (fmin r g) (fmax r g) == some .eq) = false → Float64.isZero (Float64.sub (fmax r g) (fmin r g)) = false
  z4 : (Float64.cmp (Float64.div (Float64.add (fmax r g) (fmin r g)) 4611686018427387904) 4602678819172646912 == some .lt || Float64.cmp (Float64.div (Float64.add (fmax r g) (fmin r g)) 4611686018427387904) 4602678819172646912 == some .eq) = true
  z5 : (Float64.cmp r (fmax r g) == some .eq) = false → (Float64.cmp g (fmax r g) == some .eq) = true
  z6 : Float64.isZero (fmax r g) = false
def hlsP (r g : UInt64) (news news' : List (Addr × Obj)) (v : Value) : Prop :=
  ∃ D ta tb tc S, v = .ref D ∧ news' = (D, tupO [.float (wHue r g) ta, .float (wLight r g) tb, .float S tc]) :: news ∧ ∀ p ∈ news, p.1 < D
theorem hls_end {r g : UInt64} {news : List (Addr × Obj)} {D : Addr} {a b c : UInt64} {ta tb tc : Tok} (e : wHue r g = a) (e' : wLight r g = b) (l : ∀ p ∈ news, p.1 < D) :
    hlsP r g news ((D, tupO [.float a ta, .float b tb, .float c tc]) :: news) (.ref D) := ⟨D, ta, tb, tc, c, rfl, by rw [e, e'], l⟩
section
local macro_rules | `(tactic| walk_at "call builtin:max") => `(tactic| (k_here; (rename News _ _ _ _ => N'); (rename Fr _ _ _ _ => F'); refine max3_ff rfl F' N' (by assumption) ?_; clear N'; intro _ _ _ _ _))
local macro_rules | `(tactic| walk_at "call builtin:min") => `(tactic| (k_here; (rename News _ _ _ _ => N'); (rename Fr _ _ _ _ => F'); refine min3_ff rfl F' N' (by assumption) ?_; clear N'; intro _ _ _ _ _))
local macro_rules | `(tactic| walk_at "binaryOp Div float float") => `(tactic| (k_here; refine div_nz (by first | with_reducible assumption | decide +kernel | solve_by_elim (maxDepth := 2)) ?_))
local macro_rules | `(tactic| walk_at "binaryOp Mod float float") => `(tactic| (k_here; refine mod_nz (by first | with_reducible assumption | decide +kernel) ?_))

theorem hls_c (w : World) (mean : ExcName → Option Value) (mg mb : Str → Option Value) (r g : UInt64) (t0 t1 t2 : Tok) (ok : WheelOk r g) : Con 1 w mean mg mb 53 [.float r t0, .float g t1, .float g t2] (hlsP r g) := by
  unfold Con; k_fill
  intro dp un gd cn cs a ccd cl outer A₀ base h₀ L m s Q E news B F X N T hk hdp hun hret
  obtain ⟨z1, z2, z3, z4, z5, z6⟩ := ok
  refine wpAny_call ?_
  k_dflt cell_enter
  k_steps
  all_goals first
    | exact Bool.noConfusion ((z5 (by assumption)).symm.trans (by assumption : (Float64.cmp g (fmax r g) == some Ordering.eq) = false))
    | (refine hret _ _ _ _ (by assumption) (by assumption) (hls_end ?_ rfl (by assumption))
       first
       | exact if_pos (by assumption)
       | exact (if_f (by assumption)).trans (if_pos (by assumption))
       | exact (if_f (by assumption)).trans (if_f (by assumption)))
end


def hsvP (r g : UInt64) (news news' : List (Addr × Obj)) (v : Value) : Prop :=
  ∃ D ta tb tc H S, v = .ref D ∧ news' = (D, tupO [.float H ta, .float S tb, .float (fmax r g) tc]) :: news ∧ ∀ p ∈ news, p.1 < D
theorem hsv_end {r g : UInt64} {news : List (Addr × Obj)} {D : Addr} {a b : UInt64} {ta tb tc : Tok} (l : ∀ p ∈ news, p.1 < D) :
    hsvP r g news ((D, tupO [.float a ta, .float b tb, .float (fmax r g) tc]) :: news) (.ref D) := ⟨D, ta, tb, tc, a, b, rfl, rfl, l⟩
section
local macro_rules | `(tactic| walk_at "no step at all") => `(tactic| fail "none")
local macro_rules | `(tactic| walk_at "call builtin:max") => `(tactic| (k_here; (rename News _ _ _ _ => N'); (rename Fr _ _ _ _ => F'); refine max3_ff rfl F' N' (by assumption) ?_; clear N'; intro _ _ _ _ _))
local macro_rules | `(tactic| walk_at "call builtin:min") => `(tactic| (k_here; (rename News _ _ _ _ => N'); (rename Fr _ _ _ _ => F'); refine min3_ff rfl F' N' (by assumption) ?_; clear N'; intro _ _ _ _ _))
local macro_rules | `(tactic| walk_at "binaryOp Div float float") => `(tactic| (k_here; refine div_nz (by first | with_reducible assumption | decide +kernel | solve_by_elim (maxDepth := 2)) ?_))
local macro_rules | `(tactic| walk_at "binaryOp Mod float float") => `(tactic| (k_here; refine mod_nz (by first | with_reducible assumption | decide +kernel) ?_))
theorem hsv_c (w : World) (mean : ExcName → Option Value) (mg mb : Str → Option Value) (r g : UInt64) (t0 t1 t2 : Tok) (ok : WheelOk r g) : Con 1 w mean mg mb 60 [.float r t0, .float g t1, .float g t2] (hsvP r g) := by
  unfold Con; k_fill
  intro dp un gd cn cs a ccd cl outer A₀ base h₀ L m s Q E news B F X N T hk hdp hun hret
  obtain ⟨z1, z2, z3, z4, z5, z6⟩ := ok
  refine wpAny_call ?_
  k_dflt cell_enter
  k_steps
  all_goals exact hret _ _ _ _ (by assumption) (by assumption) (hsv_end (by assumption))
end

/-- what parse257 reads behind 257 and the first mark -/
def parseL : List Nat → List Nat
  | 34 :: 34 :: r => 34 :: parseL r
  | 34 :: _ => []
  | c :: r => c :: parseL r
  | [] => []
theorem parseL_other {c : Nat} {r : List Nat} (h : c ≠ 34) : parseL (c :: r) = c :: parseL r := by
  rw [parseL]
  · intro r' e; exact absurd e h
  · exact h
theorem parseL_mark {c : Nat} {r : List Nat} (h : c ≠ 34) : parseL (34 :: c :: r) = [] := by
  rw [parseL]
  intro r' e
  exact absurd (List.cons.inj e).1 h
theorem item_at {x : Str} {i : Int} (h0 : 0 ≤ i) (h1 : i < x.length) : ∃ c r, x.cps.toList.drop i.toNat = c :: r ∧ r = x.cps.toList.drop (i.toNat + 1) ∧ Txt.item x i = ⟨#[c]⟩ := by
  have hk : i.toNat < x.cps.toList.length := by
    have : x.cps.toList.length = x.length := Array.length_toList
    omega
  refine ⟨x.cps.toList[i.toNat], _, List.drop_eq_getElem_cons hk, rfl, ?_⟩
  have hs : seqIndex? i x.length = some i.toNat := by
    unfold seqIndex?
    simp only [show ¬ i < 0 by omega, if_false, show 0 ≤ i from h0, h1, decide_true, Bool.and_self, if_true]
  unfold Txt.item Txt.charAt
  rw [hs]
  have hk' : i.toNat < x.cps.size := by simpa using hk
  simp [hk']
theorem mark_is : Str.ofString "\"" = ⟨#[34]⟩ := by decide +kernel
theorem item_mark {c : Nat} : ((⟨#[c]⟩ : Str) == Str.ofString "\"") = decide (c = 34) := by
  rw [mark_is]
  by_cases h : c = 34
  · subst h; decide
  · rw [decide_eq_false h]
    exact beq_false_of_ne fun e => h (by injection e with e; injection e with e; injection e)
def PW (x : Str) (xs : List Nat) (i : Int) (d : Str) : Prop := d.cps.toList ++ parseL (x.cps.toList.drop i.toNat) = xs
section
variable {x d : Str} {xs : List Nat} {i : Int}
theorem pw_two (h0 : 0 ≤ i) (h1 : i < x.length) (h2 : ¬ (x.length : Int) ≤ i + 1) (e1 : (Txt.item x i == Str.ofString "\"") = true) (e2 : (Txt.item x (i + 1) != Str.ofString "\"") = false) (hp : PW x xs i d) : PW x xs (i + 1 + 1) (d ++ Txt.item x i) := by
  obtain ⟨c, r, a1, a2, a3⟩ := item_at h0 h1
  obtain ⟨c', r', b1, b2, b3⟩ := item_at (x := x) (i := i + 1) (by omega) (by omega)
  rw [a3, item_mark, decide_eq_true_eq] at e1
  rw [b3] at e2
  have e2' : c' = 34 := by
    have : ((⟨#[c']⟩ : Str) == Str.ofString "\"") = true := by simpa [bne] using e2
    rwa [item_mark, decide_eq_true_eq] at this
  subst e1; subst e2'
  have t1 : (i + 1).toNat = i.toNat + 1 := by omega
  have t2 : (i + 1 + 1).toNat = i.toNat + 1 + 1 := by omega
  unfold PW at hp ⊢
  rw [a3, t2]
  rw [a1, a2, ← t1, b1, b2, t1] at hp
  have : parseL (34 :: 34 :: List.drop (i.toNat + 1 + 1) x.cps.toList) = 34 :: parseL (List.drop (i.toNat + 1 + 1) x.cps.toList) := rfl
  rw [this] at hp
  rw [← hp]
  show (d.cps ++ #[34]).toList ++ _ = _
  simp
theorem pw_one (h0 : 0 ≤ i) (h1 : i < x.length) (e1 : (Txt.item x i == Str.ofString "\"") = false) (hp : PW x xs i d) : PW x xs (i + 1) (d ++ Txt.item x i) := by
  obtain ⟨c, r, a1, a2, a3⟩ := item_at h0 h1
  rw [a3, item_mark, decide_eq_false_iff_not] at e1
  have t1 : (i + 1).toNat = i.toNat + 1 := by omega
  unfold PW at hp ⊢
  rw [a3, t1]
  rw [a1, a2, parseL_other e1] at hp
  rw [← hp]
  show (d.cps ++ #[c]).toList ++ _ = _
  simp
theorem str_of_list {d : Str} {xs : List Nat} (h : d.cps.toList = xs) : d = ⟨xs.toArray⟩ := by subst h; rfl
theorem pw_brk1 (hp : PW x xs i d) (h0 : 0 ≤ i) (h1 : i < x.length) (h2 : (x.length : Int) ≤ i + 1) (e1 : (Txt.item x i == Str.ofString "\"") = true) : d = ⟨xs.toArray⟩ := by
  obtain ⟨c, r, a1, a2, a3⟩ := item_at h0 h1
  rw [a3, item_mark, decide_eq_true_eq] at e1
  subst e1
  have hr : r = [] := by
    rw [a2]
    refine List.drop_eq_nil_of_le ?_
    have : x.cps.toList.length = x.length := Array.length_toList
    omega
  unfold PW at hp
  rw [a1, hr] at hp
  exact str_of_list (by simpa [parseL] using hp)
theorem pw_brk2 (hp : PW x xs i d) (h0 : 0 ≤ i) (h1 : i < x.length) (h2 : ¬ (x.length : Int) ≤ i + 1) (e1 : (Txt.item x i == Str.ofString "\"") = true) (e2 : (Txt.item x (i + 1) != Str.ofString "\"") = true) : d = ⟨xs.toArray⟩ := by
  obtain ⟨c, r, a1, a2, a3⟩ := item_at h0 h1
  obtain ⟨c', r', b1, b2, b3⟩ := item_at (x := x) (i := i + 1) (by omega) (by omega)
  rw [a3, item_mark, decide_eq_true_eq] at e1
  rw [b3] at e2
  have e2' : c' ≠ 34 := by
    have : ((⟨#[c']⟩ : Str) == Str.ofString "\"") = false := by simpa [bne] using e2
    rwa [item_mark, decide_eq_false_iff_not] at this
  subst e1
  have t1 : (i + 1).toNat = i.toNat + 1 := by omega
  unfold PW at hp
  rw [a1, a2, ← t1, b1, parseL_mark e2'] at hp
  exact str_of_list (by simpa using hp)
theorem pw_done (hp : PW x xs i d) (h0 : 0 ≤ i) (h1 : ¬ i < x.length) : d = ⟨xs.toArray⟩ := by
  unfold PW at hp
  rw [List.drop_eq_nil_of_le (by have : x.cps.toList.length = x.length := Array.length_toList; omega)] at hp
  exact str_of_list (by simpa [parseL] using hp)
end


section
theorem pw_endA {x d : Str} {xs : List Nat} {i : Int} (h0 : 0 ≤ i) (hd : (d.length : Int) ≤ i) (h1 : i < x.length) (h2 : ¬ (x.length : Int) ≤ i + 1) (e1 : (Txt.item x i == Str.ofString "\"") = true) (e2 : (Txt.item x (i + 1) != Str.ofString "\"") = false) (hp : PW x xs i d) :
    0 ≤ i + 1 + 1 ∧ i + 1 + 1 ≤ x.length ∧ ((d ++ Txt.item x i).length : Int) ≤ i + 1 + 1 ∧ PW x xs (i + 1 + 1) (d ++ Txt.item x i) :=
  ⟨by omega, by omega, by
    have : (d ++ Txt.item x i).length = d.length + 1 := by show (d.cps ++ #[_]).size = _; simp [Str.length]
    omega, pw_two h0 h1 h2 e1 e2 hp⟩
theorem pw_endB {x d : Str} {xs : List Nat} {i : Int} (h0 : 0 ≤ i) (hd : (d.length : Int) ≤ i) (h1 : i < x.length) (e1 : (Txt.item x i == Str.ofString "\"") = false) (hp : PW x xs i d) :
    0 ≤ i + 1 ∧ i + 1 ≤ x.length ∧ ((d ++ Txt.item x i).length : Int) ≤ i + 1 ∧ PW x xs (i + 1) (d ++ Txt.item x i) :=
  ⟨by omega, by omega, by
    have : (d ++ Txt.item x i).length = d.length + 1 := by show (d.cps ++ #[_]).size = _; simp [Str.length]
    omega, pw_one h0 h1 e1 hp⟩
theorem parse_c (w : World) (mean : ExcName → Option Value) (mg mb : Str → Option Value) (x : Str) (xs : List Nat) (t0 : Tok) (h0 : x.length < 200)
   (hs : 0 ≤ (5:Int) ∧ (5:Int) ≤ x.length ∧ ((Str.ofString "").length : Int) ≤ 5 ∧ PW x xs 5 (Str.ofString ""))
   (e1 : (Txt.slice x none (some 3) != Str.ofString "257") = false) (e2 : (Txt.slice x (some 3) (some 5) != Str.ofString " \"") = false) :
    Con 1 w mean mg mb 46 [.str x t0] (fun news news' r => news' = news ∧ ∃ t, r = .str ⟨xs.toArray⟩ t) := by
  unfold Con; k_fill
  intro dp un gd cn cs a ccd cl outer A₀ base h₀ L m s Q E news B F X N T hk hdp hun hret
  refine wpAny_call ?_
  k_dflt cell_enter
  k_with_none
  k_with "state" => first | exact hs | exact pw_endB (by assumption) (by assumption) (by assumption) (by assumption) (by assumption) | exact pw_endA (by assumption) (by assumption) (by assumption) (by assumption) (by assumption) (by assumption) (by assumption)
  k_with "exec While Compare cons nil" => k_while (fun script (i : Int) (d : Str) => 0 ≤ i ∧ i ≤ x.length ∧ (d.length : Int) ≤ i ∧ PW x xs i d) (fun script i d => (x.length - i.toNat : Nat)) "i" "dirname"
  k_steps
  k_with_none
  all_goals refine hret _ news _ _ (by assumption) (by assumption) ⟨rfl, _, congrArg (Value.str · _) ?_⟩
  all_goals first
    | exact pw_brk2 (by assumption) (by assumption) (by assumption) (by assumption) (by assumption) (by assumption)
    | exact pw_brk1 (by assumption) (by assumption) (by assumption) (by assumption) (by assumption)
    | exact pw_done (by assumption) (by assumption) (by assumption)
end

/-- one turn of the symbol's loop -/
def symStep (n : Int) (c : Int × Int × Int) : Int × Int × Int :=
  if 1 < c.2.1 then
    if c.2.1.fmod c.2.2 = 0 then
      ((if ((List.map (fun k' => (k' * k').fmod c.2.2) (rangeKs 1 (c.2.2 - 1).toNat)).any fun x => x == n.fmod c.2.2) = true then c.1 else if n.fmod c.2.2 = 0 then 0 else -c.1), c.2.1.fdiv c.2.2, c.2.2)
    else (c.1, c.2.1, c.2.2 + 2)
  else c
def symIt (n k : Int) : Nat → Int × Int × Int
  | 0 => (1, k, 3)
  | j + 1 => symStep n (symIt n k j)
/-- what stands between the turns -/
def SymW (n k : Int) (j : Nat) (sym rest prime : Int) : Prop := symIt n k j = (sym, rest, prime) ∧ 1 ≤ rest ∧ rest ≤ k ∧ 3 ≤ prime ∧ prime ≤ 3 + 2 * j
theorem symW_zero {n k : Int} (h : 1 ≤ k) : SymW n k 0 1 k 3 := ⟨rfl, h, by omega, by omega, by omega⟩
theorem symW_add {n k : Int} {j : Nat} {sym rest prime : Int} (h : SymW n k j sym rest prime) (h1 : 1 < rest) (h2 : rest.fmod prime ≠ 0) : SymW n k (j + 1) sym rest (prime + 2) := by
  obtain ⟨a, b, c, d, e⟩ := h
  refine ⟨?_, b, c, by omega, by omega⟩
  show symStep n (symIt n k j) = _
  rw [a]
  unfold symStep
  rw [if_pos h1, if_neg h2]
theorem fdiv_small {rest prime : Int} (h1 : 1 < rest) (h2 : rest.fmod prime = 0) (h3 : 3 ≤ prime) : 1 ≤ rest.fdiv prime ∧ rest.fdiv prime ≤ rest := by
  have e := Int.mul_fdiv_add_fmod rest prime
  rw [h2, Int.add_zero] at e
  generalize rest.fdiv prime = q at e ⊢
  constructor
  · refine Int.not_lt.mp fun hq => ?_
    have : prime * q ≤ 0 := Int.mul_nonpos_of_nonneg_of_nonpos (by omega) (by omega)
    omega
  · rcases Int.lt_or_le q 0 with hq | hq
    · omega
    · have : q * 1 ≤ q * prime := Int.mul_le_mul_of_nonneg_left (by omega) hq
      rw [Int.mul_comm q prime] at this
      omega
theorem symW_div {n k : Int} {j : Nat} {sym rest prime sym' : Int} (h : SymW n k j sym rest prime) (h1 : 1 < rest) (h2 : rest.fmod prime = 0)
    (h3 : (if ((List.map (fun k' => (k' * k').fmod prime) (rangeKs 1 (prime - 1).toNat)).any fun x => x == n.fmod prime) = true then sym else if n.fmod prime = 0 then 0 else -sym) = sym') : SymW n k (j + 1) sym' (rest.fdiv prime) prime := by
  obtain ⟨a, b, c, d, e⟩ := h
  have q := fdiv_small h1 h2 d
  refine ⟨?_, q.1, by omega, d, by omega⟩
  show symStep n (symIt n k j) = _
  rw [a]
  unfold symStep
  rw [if_pos h1, if_pos h2]
  exact congrArg (fun z => (z, rest.fdiv prime, prime)) h3
theorem symIt_still {n k : Int} {j : Nat} (h : ¬ 1 < (symIt n k j).2.1) : ∀ d : Nat, symIt n k (j + d) = symIt n k j
  | 0 => rfl
  | d + 1 => by
    show symStep n (symIt n k (j + d)) = _
    rw [symIt_still h d]
    unfold symStep
    rw [if_neg h]
theorem symW_lt {n k : Int} {j : Nat} {sym rest prime : Int} (ht : (symIt n k 40).2.1 ≤ 1) (h : SymW n k j sym rest prime) (hj : j ≤ 40) (h1 : 1 < rest) : j < 40 := by
  rcases Nat.lt_or_ge j 40 with h' | h'
  · exact h'
  · have : j = 40 := by omega
    subst this
    rw [h.1] at ht
    have ht' : rest ≤ 1 := ht
    omega
theorem symW_end {n k : Int} {j : Nat} {sym rest prime : Int} (h : SymW n k j sym rest prime) (hj : j ≤ 40) (h1 : ¬ 1 < rest) : (symIt n k 40).1 = sym := by
  have e := symIt_still (n := n) (k := k) (j := j) (by rw [h.1]; exact h1) (40 - j)
  rw [show j + (40 - j) = 40 by omega] at e
  rw [e, h.1]

section
local macro_rules | `(tactic| k_all) => `(tactic| (refine fun p hp => Nat.ne_of_lt ?_; first | exact (by assumption : ∀ p ∈ _, p.1 < _) p hp | exact Nat.lt_succ_of_lt ((by assumption : ∀ p ∈ _, p.1 < _) p hp)))
local macro_rules | `(tactic| lcg_off) => `(tactic| (simp only [LCg.Off3, and_true]; assumption))
local macro_rules | `(tactic| walk_at "exec While") => `(tactic| (k_here; refine held_in ?_))
local macro_rules | `(tactic| walk_at "KswEnd") => `(tactic| refine held_in ?_)
theorem symbol_c (w : World) (mean : ExcName → Option Value) (mg mb : Str → Option Value) (n k : Int) (t0 t1 : Tok) (h0 : 0 ≤ n) (h1 : n < 31) (h2 : 1 ≤ k) (h3 : k < 31) (ht : (symIt n k 40).2.1 ≤ 1) :
    Con 1 w mean mg mb 105 [.int n t0, .int k t1] (fun news news' r => news' = news ∧ ∃ t, r = .int (symIt n k 40).1 t) := by
  unfold Con; k_fill
  intro dp un gd cn cs a ccd cl outer A₀ base h₀ L m s Q E news B F X N T hk hdp hun hret
  refine wpAny_call ?_
  k_dflt (refine' code_defC ?k1 ?k2 ?k3 ?k4 ?k5 ?kA ?kF ?kK ?k6 ?k7 ?k8 ?k9 ?kB ?kD ?_ ?c2 ?c3 ?c4; (case kA => exact rfl); (case kF => exact rfl); (case kK => assumption); (case k1 => k_asm); (case k2 => k_asm); (case k3 => k_asm); (case k4 => k_asm); (case k5 => k_asm); (case k6 => k_is); (case k7 => k_is); (case k8 => ktr_room); (case k9 => exact BindsTo.of_eq rfl); (case kB => exact rfl); (case kD => decide +kernel); (case c2 => exact rfl); (case c3 => exact rfl); (case c4 => exact rfl); k_whole; intro g' L' h' tk' cells' FG' F' N' Y' B' X' T' l1; (try k_lt l1); k_cells Y'; (try simp only [List.cons_append, List.nil_append] at N'); (try dsimp only); (try k_lift B'); (try k_fold))
  k_with_none
  k_steps
  refine held_out ?_
  rename News _ _ _ _ => lN
  rename Fr _ _ _ _ => lF
  rename _ = Data.cell _ => lD
  with_unfolding_all refine' ksw_while (σ := Nat × Int × Tok × Int × Tok × Int × Tok × Obj) (fun c => (L' + 1, c.2.2.2.2.2.2.2) :: news) (fun c => [(Str.ofString "symbol", .int c.2.1 c.2.2.1), (Str.ofString "rest", .int c.2.2.2.1 c.2.2.2.2.1)]) (fun c => c.2.2.2.2.2.2.2.data = .cell (some (.int c.2.2.2.2.2.1 c.2.2.2.2.2.2.1))) [Str.ofString "squares"] (fun c => 1 ≤ c.2.2.2.1 ∧ c.2.2.2.1 < 31 ∧ 3 ≤ c.2.2.2.2.2.1 ∧ c.2.2.2.2.2.1 < 100 ∧ c.1 ≤ 40 ∧ SymW n k c.1 c.2.1 c.2.2.2.1 c.2.2.2.2.2.1) (fun c => 40 - c.1) ⟨0, _, _, _, _, _, _, _⟩ lF ?kn ?kf ?kk ?kp ?_ ?hE
  (case hE => passes_own)
  (case kf => exact lD)
  (case kk => kst_all)
  (case kn => exact news_drop lN)
  (case kp => exact ⟨h2, h3, Int.le_refl 3, (by decide : (3 : Int) < 100), Nat.zero_le 40, symW_zero h2⟩)
  (all_goals (try clear lF lN lD))
  rintro ⟨j, sym, t5, rest, t6, prime, t7, ob⟩ u h tk hFa ⟨p1, p2, p3, p4, p5, p6⟩ hFr hN
  dsimp only at hFa p1 p2 p3 p4 p5 p6 hFr hN ⊢
  k_fold
  k_steps
  all_goals first
    | exact hret _ news _ _ (by assumption) (cb_drop (by assumption) (fun p hp => List.mem_cons_of_mem _ hp)) ⟨rfl, _, congrArg (Value.int · _) (symW_end p6 p5 (by assumption)).symm⟩
    | skip
  all_goals refine held_out ?_
  all_goals (have q1 := symW_lt ht p6 p5 (by assumption); rename News _ _ _ _ => nE)
  · have q2 := symW_add p6 (by assumption) (by assumption)
    exact ksw_end ⟨j + 1, _, _, _, _, _, _, _⟩ (by assumption) nE (fun p hp => hp) (by assumption) (by kst_all) (by
      intro z h2 h3
      have a1 : z ≠ Str.ofString "symbol" := h2 _ (.head _)
      have a2 : z ≠ Str.ofString "rest" := h2 _ (.tail _ (.head _))
      have a3 : z ≠ Str.ofString "squares" := fun e => by rw [e] at h3; exact absurd h3 (by decide)
      simp only [kstB, if_neg a1, if_neg a2, if_neg a3, h3, Bool.false_eq_true, if_false]) ⟨q2.2.1, Int.lt_of_le_of_lt q2.2.2.1 h3, q2.2.2.2.1, Int.lt_of_le_of_lt q2.2.2.2.2 (by omega), q1, q2⟩ (by show 40 - (j + 1) < 40 - j; omega)
  · have q2 := symW_div p6 (by assumption) (by assumption) (if_pos (by assumption))
    exact ksw_end ⟨j + 1, _, _, _, _, _, _, _⟩ (by assumption) nE (fun p hp => List.mem_cons_of_mem _ hp) (by assumption) (by kst_all) (by
      intro z h2 h3
      have a1 : z ≠ Str.ofString "symbol" := h2 _ (.head _)
      have a2 : z ≠ Str.ofString "rest" := h2 _ (.tail _ (.head _))
      have a3 : z ≠ Str.ofString "squares" := fun e => by rw [e] at h3; exact absurd h3 (by decide)
      simp only [kstB, if_neg a1, if_neg a2, if_neg a3, h3, Bool.false_eq_true, if_false]) ⟨q2.2.1, Int.lt_of_le_of_lt q2.2.2.1 h3, q2.2.2.2.1, Int.lt_of_le_of_lt q2.2.2.2.2 (by omega), q1, q2⟩ (by show 40 - (j + 1) < 40 - j; omega)
  · have q2 := symW_div p6 (by assumption) (by assumption) ((if_f (by assumption)).trans (if_neg (by assumption)))
    exact ksw_end ⟨j + 1, _, _, _, _, _, _, _⟩ (by assumption) nE (fun p hp => List.mem_cons_of_mem _ hp) (by assumption) (by kst_all) (by
      intro z h2 h3
      have a1 : z ≠ Str.ofString "symbol" := h2 _ (.head _)
      have a2 : z ≠ Str.ofString "rest" := h2 _ (.tail _ (.head _))
      have a3 : z ≠ Str.ofString "squares" := fun e => by rw [e] at h3; exact absurd h3 (by decide)
      simp only [kstB, if_neg a1, if_neg a2, if_neg a3, h3, Bool.false_eq_true, if_false]) ⟨q2.2.1, Int.lt_of_le_of_lt q2.2.2.1 h3, q2.2.2.2.1, Int.lt_of_le_of_lt q2.2.2.2.2 (by omega), q1, q2⟩ (by show 40 - (j + 1) < 40 - j; omega)
  · have q2 := symW_div p6 (by assumption) (by assumption) ((if_f (by assumption)).trans (if_pos (by assumption)))
    exact ksw_end ⟨j + 1, _, _, _, _, _, _, _⟩ (by assumption) nE (fun p hp => List.mem_cons_of_mem _ hp) (by assumption) (by kst_all) (by
      intro z h2 h3
      have a1 : z ≠ Str.ofString "symbol" := h2 _ (.head _)
      have a2 : z ≠ Str.ofString "rest" := h2 _ (.tail _ (.head _))
      have a3 : z ≠ Str.ofString "squares" := fun e => by rw [e] at h3; exact absurd h3 (by decide)
      simp only [kstB, if_neg a1, if_neg a2, if_neg a3, h3, Bool.false_eq_true, if_false]) ⟨q2.2.1, Int.lt_of_le_of_lt q2.2.2.1 h3, q2.2.2.2.1, Int.lt_of_le_of_lt q2.2.2.2.2 (by omega), q1, q2⟩ (by show 40 - (j + 1) < 40 - j; omega)
end

section
variable {prog : Program} {w : World} {A : Around} {E : Value → Shared → Prop} {s : Shared} {env : Env} {h₀ : Heap} {x : Str} {body : List Stmt} {Q : Flow → Shared → Prop}
/-- a for over a range of any step, by what holds between the turns -/
theorem iter_rangeJ {r : Addr} {a b st : Int} {t₀ u₀ v₀ : Tok} {n : Nat} {m₀ : Str → Option Value} {news : List (Addr × Obj)} (J : Nat → (Str → Option Value) → List (Addr × Obj) → Prop)
    (hh : A.handled = none) (hr : IsRange s.heap r a b st t₀ u₀ v₀) (hsmall : Builtin.Range.small a b st = true) (hn : Builtin.Range.rangeSize a b st = (n : Int)) (F : Fr h₀ env.locals s.heap m₀) (N : News h₀ env.locals s.heap news) (hj : J 0 m₀ news)
    (turn : ∀ i t m₁ news₁ h tk own, i < n → news₁.map (·.1) = news.map (·.1) → OwnOff own (news.map (·.1)) → J i m₁ news₁ → Fr h₀ env.locals h (fun y => if y = x then some (.int (a + (i : Int) * st) t) else m₁ y) → News h₀ env.locals h (news₁ ++ own) →
      wpAny (model prog w) A (execs body env) (InvPostN h₀ env.locals (J (i + 1)) own (news.map (·.1)) { s with heap := h, toks := tk } Q) E { s with heap := h, toks := tk })
    (done : ∀ m₁ news₁ h tk, J n m₁ news₁ → Fr h₀ env.locals h m₁ → News h₀ env.locals h news₁ → Q .next { s with heap := h, toks := tk }) :
    wpAny (model prog w) A (pyIter (.ref r)) (fun it s₂ => LoopAtV prog w A h₀ env x body Q E it s₂) E s := by
  refine wpAny_pyIter_range hr hsmall ?_
  have W : Walks prog w A s.heap.objs.size [s.heap.objs.size] [s.heap.objs.size] n (fun i v => i < n ∧ ∃ t, v = .int (a + i * st) t)
      (fun i h => IsRangeIter h s.heap.objs.size (a + (i : Nat) * st) ((n : Int) - (i : Nat)) st) := (Walks.range hh _ a st n).bound
  refine loop_invN J W ?_ ?_ ?_ ?_ (by show IsRangeIter _ _ _ _ _; rw [hn]; simpa using Heap.get?_push_size _ rfl) (F.push _) (fun p hp => ⟨Heap.get?_push_of_some _ (N p hp).1, (N p hp).2⟩) hj ?_ ?_
  · intro hm
    exact absurd F.ns.lt ((List.mem_singleton.mp hm) ▸ Nat.lt_irrefl _)
  · intro b hb
    rw [List.mem_singleton.mp hb]
    exact next_is_new F
  · intro p hp hI
    exact absurd (Heap.lt_size (N p hp).1) ((List.mem_singleton.mp hI) ▸ Nat.lt_irrefl _)
  · intro p hp hI
    exact absurd (Heap.lt_size (N p hp).1) ((List.mem_singleton.mp hI) ▸ Nat.lt_irrefl _)
  · rintro i v m₁ nx h tk own hi ⟨_, t, rfl⟩ hadr hoff hJ F₁ N₁
    exact turn i t m₁ nx h tk own hi hadr hoff hJ F₁ N₁
  · intro m₁ nx h tk hJ F₁ N₁
    exact done m₁ nx h tk hJ F₁ N₁
theorem setItem_baN {a L : Addr} {m : Str → Option Value} {b : Array UInt8} {k v : Int} {t u : Tok} {post : List (Addr × Obj)} {Q : Unit → Shared → Prop} (F : Fr h₀ L s.heap m) (N : News h₀ L s.heap ((a, baO b) :: post)) (hp : ∀ p ∈ post, p.1 ≠ a)
    (h0 : 0 ≤ k) (hk : k < b.size) (hb : b.size ≤ 1000) (v0 : 0 ≤ v) (v1 : v < 256)
    (h : ∀ h', Fr h₀ L h' m → News h₀ L h' ((a, baO (b.setIfInBounds k.toNat v.toNat.toUInt8)) :: post) → Q () { s with heap := h' }) : wpAny (model prog w) A (setItem (.ref a) (.int k t) (.int v u)) Q E s := by
  have z := N _ (List.mem_cons_self ..)
  exact wpAny_setItem_ba z.1 h0 hk hb v0 v1 fun h' hs ha => h h' (F.change hs z.2.1 z.2.2) (news_set (pre := []) N (fun _ q => (nomatch q)) hp hs ha)
end
/-- the bytes that the inner loop has laid after i turns -/
def laid (d : Array UInt8) : Nat → Array UInt8
  | 0 => Array.replicate d.size 0
  | i + 1 => (laid d i).setIfInBounds (d.size - 1 - i) (d.getD i 0)
theorem laid_size (d : Array UInt8) : ∀ i, (laid d i).size = d.size
  | 0 => by simp [laid]
  | i + 1 => by simp [laid, laid_size d i]
theorem laid_get (d : Array UInt8) : ∀ (i j : Nat), i ≤ d.size → j < d.size → (laid d i)[j]? = some (if d.size - i ≤ j then d.getD (d.size - 1 - j) 0 else 0)
  | 0, j, _, hj => by
    rw [if_neg (by omega)]
    simp [laid, hj]
  | i + 1, j, hi, hj => by
    have ih := laid_get d i j (by omega) hj
    show ((laid d i).setIfInBounds (d.size - 1 - i) (d.getD i 0))[j]? = _
    rw [Array.getElem?_setIfInBounds]
    by_cases e : d.size - 1 - i = j
    · rw [if_pos e, if_pos (by rw [laid_size]; omega), if_pos (by omega)]
      congr 2
      omega
    · rw [if_neg e, ih]
      by_cases h : d.size - i ≤ j
      · rw [if_pos h, if_pos (by omega)]
      · rw [if_neg h, if_neg (by omega)]
theorem laid_all (d : Array UInt8) : laid d d.size = d.reverse := by
  apply Array.ext_getElem?
  intro j
  by_cases hj : j < d.size
  · rw [laid_get d d.size j (Nat.le_refl _) hj, if_pos (by omega), Array.getElem?_reverse hj]
    rw [Array.getD_eq_getD_getElem?, Array.getElem?_eq_getElem (by omega)]
    rfl
  · rw [Array.getElem?_eq_none (by rw [laid_size]; omega), Array.getElem?_eq_none (by simp; omega)]

theorem fr_know {h₀ h : Heap} {L : Addr} {m : Str → Option Value} {x : Str} {v : Value} (F : Fr h₀ L h m) (e : m x = some v) : Fr h₀ L h (fun y => if y = x then some v else m y) := by
  have : (fun y => if y = x then some v else m y) = m := by
    funext y
    by_cases h : y = x
    · rw [if_pos h, h, e]
    · rw [if_neg h]
  rw [this]
  exact F
theorem byte_back (c : UInt8) : ((c.toNat : Int)).toNat.toUInt8 = c := by simp
theorem fits_small {z : Int} (h0 : -300 < z) (h1 : z < 300) : Builtin.Range.rangeFitsLong z = true := by
  simp only [Builtin.Range.rangeFitsLong, Bool.and_eq_true, decide_eq_true_eq]
  omega
theorem one_turn {n : Int} (h0 : 0 < n) (h1 : n < 100) : Builtin.Range.small 0 n n = true ∧ Builtin.Range.rangeSize 0 n n = ((1 : Nat) : Int) := by
  have e : Builtin.Range.rangeSize 0 n n = 1 := by
    unfold Builtin.Range.rangeSize
    rw [if_pos h0, if_pos h0, Int.sub_zero, Int.ediv_eq_zero_of_lt (by omega) (by omega)]
    rfl
  refine ⟨?_, e⟩
  unfold Builtin.Range.small
  rw [e, if_pos h0, fits_small (z := 0) (by omega) (by omega), fits_small (z := n) (by omega) (by omega), fits_small (z := 1) (by omega) (by omega), fits_small (z := n + (n - 1)) (by omega) (by omega)]
  rfl
theorem ones_turn {n : Int} (h0 : 0 < n) (h1 : n < 100) : Builtin.Range.small 0 n 1 = true ∧ Builtin.Range.rangeSize 0 n 1 = ((n.toNat : Nat) : Int) := by
  have e : Builtin.Range.rangeSize 0 n 1 = n := by
    unfold Builtin.Range.rangeSize
    rw [if_pos (by decide), if_pos h0]
    omega
  refine ⟨?_, by rw [e]; omega⟩
  unfold Builtin.Range.small
  rw [e, if_pos (by decide), fits_small (z := 0) (by omega) (by omega), fits_small (z := n) (by omega) (by omega), fits_small (z := 1) (by omega) (by omega), fits_small (z := n + (1 - 1)) (by omega) (by omega), Bool.or_true]
  rfl
section
variable {prog : Program} {w : World} {A : Around} {E : Value → Shared → Prop} {s : Shared} {env : Env} {h₀ : Heap} {x : Str} {body : List Stmt} {Q : Flow → Shared → Prop}
theorem iter_once {r : Addr} {n : Int} {t₀ u₀ v₀ : Tok} {m₀ : Str → Option Value} {news : List (Addr × Obj)} (S : (Str → Option Value) → List (Addr × Obj) → Prop) (h0 : 0 < n) (h1 : n < 100)
    (hh : A.handled = none) (hr : IsRange s.heap r 0 n n t₀ u₀ v₀) (F : Fr h₀ env.locals s.heap m₀) (N : News h₀ env.locals s.heap news)
    (turn : ∀ t h tk own, OwnOff own (news.map (·.1)) → Fr h₀ env.locals h (fun y => if y = x then some (.int 0 t) else m₀ y) → News h₀ env.locals h (news ++ own) →
      wpAny (model prog w) A (execs body env) (InvPostN h₀ env.locals S own (news.map (·.1)) { s with heap := h, toks := tk } Q) E { s with heap := h, toks := tk })
    (done : ∀ m₁ news₁ h tk, S m₁ news₁ → Fr h₀ env.locals h m₁ → News h₀ env.locals h news₁ → Q .next { s with heap := h, toks := tk }) :
    wpAny (model prog w) A (pyIter (.ref r)) (fun it s₂ => LoopAtV prog w A h₀ env x body Q E it s₂) E s := by
  refine iter_rangeJ (n := 1) (fun i m' nx => if i = 0 then m' = m₀ ∧ nx = news else S m' nx) hh hr (one_turn h0 h1).1 (one_turn h0 h1).2 F N (by rw [if_pos rfl]; exact ⟨rfl, rfl⟩) ?_ ?_
  · intro i t m₁ news₁ h tk own hi hadr hoff hJ F₁ N₁
    obtain rfl : i = 0 := by omega
    rw [if_pos rfl] at hJ
    obtain ⟨rfl, rfl⟩ := hJ
    have e : (0 : Int) + ((0 : Nat) : Int) * n = 0 := by simp
    rw [e] at F₁
    exact turn t h tk own hoff F₁ N₁
  · intro m₁ news₁ h tk hJ F₁ N₁
    rw [if_neg (by decide)] at hJ
    exact done m₁ news₁ h tk hJ F₁ N₁
end

theorem laid_next {d : List UInt8} {n : Int} {i : Nat} (hd : (d.length : Int) = n) (hi : i < n.toNat) :
    (laid d.toArray i).setIfInBounds (0 + n - 1 - (0 + (i : Int) * 1)).toNat (((d.getD (0 + (0 + (i : Int) * 1)).toNat 0).toNat : Int)).toNat.toUInt8 = laid d.toArray (i + 1) := by
  rw [byte_back]
  have e1 : (0 + n - 1 - (0 + (i : Int) * 1)).toNat = d.toArray.size - 1 - i := by rw [List.size_toArray]; omega
  have e2 : (0 + (0 + (i : Int) * 1)).toNat = i := by omega
  rw [e1, e2]
  show _ = (laid d.toArray i).setIfInBounds (d.toArray.size - 1 - i) (d.toArray.getD i 0)
  congr 1
  simp [Array.getD_eq_getD_getElem?]

theorem laid_done {d : List UInt8} {n : Int} (hd : (d.length : Int) = n) : laid d.toArray n.toNat = d.reverse.toArray := by
  have e : n.toNat = d.toArray.size := by rw [List.size_toArray]; omega
  rw [e, laid_all, List.reverse_toArray]

section
local macro_rules | `(tactic| walk_at "pyIter ref") => `(tactic| (k_here; refine held_in ?_))
theorem swap_c (w : World) (mean : ExcName → Option Value) (mg mb : Str → Option Value) (d : List UInt8) (n : Int) (t0 t1 : Tok) (hd : (d.length : Int) = n) (h0 : 0 < n) (h1 : n < 100) :
    ConC 1 w mean mg mb 74 [.bytes d.toArray t0, .int n t1] (fun news news' r => news' = news ∧ ∃ t, r = .bytes d.reverse.toArray t) := by
  unfold ConC; k_fill
  intro dp un gd cn cs a ccd cl outer A₀ base h₀ L m s Q news B F X N T hk hdp hun hret
  refine wpC_call ?_
  walk_at "enterC"
  refine wpC_execs_cons (wpC_Assign_Name (wpC_Call ?_))
  k_fold
  walk_at "go"
  refine wpC_callWith_type ?_
  k_fold
  walk_at "go"
  refine wpC_bytearray (by simp only [List.size_toArray]; omega) (by simp only [List.size_toArray]; omega) (by k_asm) (by k_asm) ?_
  intro x hb l2 Fb Nb
  k_fold
  walk_at "go"
  refine wpC_of_any ?_
  k_fold
  walk_at "go"
  refine held_out ?_
  rename IsRange _ _ _ _ _ _ _ _ => R1
  rename Fr _ _ _ _ => F1
  rename News _ _ _ _ => N1
  simp only [List.size_toArray, hd] at R1
  have e0 : Array.replicate ((d.toArray.size : Int)).toNat (0 : UInt8) = laid d.toArray 0 := by simp [laid]
  rw [e0] at N1
  refine iter_once (fun m' nx => m' (Str.ofString "swapped_data") = some (.ref x) ∧ nx = (x, baO d.reverse.toArray) :: news) h0 h1 rfl R1 F1 N1 ?_ ?_
  · intro t2 h2 tk2 own hoff F2 N2
    k_fold
    walk_at "go"
    refine held_out ?_
    rename IsRange _ _ _ _ _ _ _ _ => R3
    rename Fr _ _ _ _ => F3
    rename News _ _ _ _ => N3
    simp only [List.cons_append] at N3
    refine iter_rangeJ (n := n.toNat) (fun i m' nx => m' (Str.ofString "swapped_data") = some (.ref x) ∧ m' (Str.ofString "i") = some (.int 0 t2) ∧ m' (Str.ofString "width") = some (.int n t1) ∧ m' (Str.ofString "data") = some (.bytes d.toArray t0) ∧ nx = (x, baO (laid d.toArray i)) :: (news ++ own))
      rfl R3 (ones_turn h0 h1).1 (ones_turn h0 h1).2 F3 N3 ⟨rfl, rfl, rfl, rfl, rfl⟩ ?_ ?_
    · intro i t4 m1 news1 h4 tk4 own2 hi hadr hoff2 hJ F4 N4
      obtain ⟨a1, a2, a3, a4, rfl⟩ := hJ
      replace F4 := fr_know F4 (x := Str.ofString "swapped_data") ((if_neg (by decide)).trans a1)
      replace F4 := fr_know F4 (x := Str.ofString "i") ((if_neg (by decide)).trans ((if_neg (by decide)).trans a2))
      replace F4 := fr_know F4 (x := Str.ofString "width") ((if_neg (by decide)).trans ((if_neg (by decide)).trans ((if_neg (by decide)).trans a3)))
      replace F4 := fr_know F4 (x := Str.ofString "data") ((if_neg (by decide)).trans ((if_neg (by decide)).trans ((if_neg (by decide)).trans ((if_neg (by decide)).trans a4))))
      simp only [List.cons_append] at N4
      have hp : ∀ p ∈ news ++ own ++ own2, p.1 ≠ x := fun p hp => by
        rcases List.mem_append.mp hp with hp | hp
        · rcases List.mem_append.mp hp with hp | hp
          · exact Nat.ne_of_lt (l2 p hp)
          · exact hoff p hp x (List.mem_cons_self ..)
        · exact hoff2 p hp x (List.mem_cons_self ..)
      clear F3 N3
      (show wpAny _ _ _ _ _ _)
      k_fold
      walk_at "go"
      refine setItem_baN F4 N4 hp (by omega) (by rw [laid_size, List.size_toArray]; omega) (by rw [laid_size, List.size_toArray]; omega) (by omega) (by have := UInt8.toNat_lt (d.getD (0 + (0 + (i : Int) * 1)).toNat 0); omega) ?_
      intro h5 F5 N5
      rw [laid_next hd hi] at N5
      walk_at "go"
      refine ⟨_, _, _, _, (x, baO (laid d.toArray (i + 1))) :: (news ++ own), rfl, F5, N5, fun p hp => ?_, fun p hp => List.mem_cons_of_mem _ (List.mem_append_right _ hp), rfl, rfl, rfl, rfl, rfl, rfl⟩
      rcases List.mem_cons.mp hp with rfl | hp
      · exact List.mem_cons_self ..
      · exact List.mem_cons_of_mem _ (List.mem_append_left _ hp)
    · intro m1 news1 h4 tk4 hJ F4 N4
      obtain ⟨a1, a2, a3, a4, rfl⟩ := hJ
      rw [laid_done hd] at N4
      walk_at "go"
      refine ⟨_, _, _, _, (x, baO d.reverse.toArray) :: news, rfl, F4, N4, fun p hp => ?_, fun p hp => List.mem_cons_of_mem _ (List.mem_append_right _ hp), rfl, a1, rfl⟩
      rcases List.mem_cons.mp hp with rfl | hp
      · exact List.mem_cons_self ..
      · exact List.mem_cons_of_mem _ (List.mem_append_left _ hp)
  · intro m1 news1 h3 tk3 hS F3 N3
    obtain ⟨e1, e2⟩ := hS
    subst e2
    replace F3 := fr_know F3 e1
    walk_at "go"
    refine call_bytes_ba (N3 _ (List.mem_cons_self ..)).1 (by simp only [List.size_toArray, List.length_reverse]; omega) ?_
    intro t5 k5
    walk_at "go"
    exact hret _ news _ _ (by assumption) (cb_drop (by assumption) (fun p hp => List.mem_cons_of_mem _ hp)) ⟨rfl, _, rfl⟩
end

/-- a sign of a text, by its code -/
def SignK : ItemKind Nat := ⟨fun c v => ∃ u, v = .str ⟨#[c]⟩ u, fun v => match v with | .str x _ => x.cps[0]? | _ => none, fun _ _ h => by obtain ⟨t, rfl⟩ := h; rfl⟩
def ByteK : ItemKind UInt8 := ⟨fun c v => ∃ u, v = .int (c.toNat : Int) u, fun v => match v with | .int n _ => some n.toNat.toUInt8 | _ => none, fun a _ h => by obtain ⟨t, rfl⟩ := h; simp⟩
section
variable {prog : Program} {w : World} {A : Around} {E : Value → Shared → Prop} {s₁ : Shared} {h₀ : Heap} {L : Addr} {m : Str → Option Value} {news : List (Addr × Obj)}
theorem src_walks {α : Type} {K : ItemKind α} {env : Env} {elt : Expr} {x : Str} {scope : Scope} {Q : Value → Shared → Prop} {as : List α} {d : α → PyData} {o : Obj} {n : Nat} {P : Nat → Value → Prop} {St : Nat → Heap → Prop}
    (W : Walks prog w A s₁.heap.objs.size [s₁.heap.objs.size] [s₁.heap.objs.size] n P St) (hst : St 0 (s₁.heap.push o)) (hn : n = as.length) (hPK : ∀ i v, P i v → ∃ a, as[i]? = some a ∧ K.is a v) (hsz : n ≤ sizeLine)
    (F : Fr h₀ L s₁.heap m) (N : News h₀ L s₁.heap news)
    (g2 : ∀ C a v (s₂ : Shared) m₂ (E' : Value → Shared → Prop), a ∈ as → K.is a v → s₂.heap.Ns C m₂ → m₂ x = some v → Fr h₀ L s₂.heap m → News h₀ L s₂.heap news →
        wpAny (model prog w) A (eval elt (compEnv scope C env)) (fun r s₃ => Carried r (d a) ∧ Keeps s₂ s₃) E' s₂)
    (g3 : ∀ D (ys : List Value) h' tk, Fr h₀ L h' m → News h₀ L h' news → h₀.get? D = none → h'.IsList D ys.toArray → NewPlain h' news D ys.toArray → CarriedAll ys (as.map d) → Q (.ref D) { s₁ with heap := h', toks := tk }) :
    CompPost prog w A env scope x [] elt Q (.ref s₁.heap.objs.size) { s₁ with heap := s₁.heap.push o } := by
  unfold CompPost
  have up : ∀ (h' : Heap), (∀ b o', b ∉ [s₁.heap.objs.size] → (s₁.heap.push o).get? b = some o' → h'.get? b = some o') → ∀ b o', s₁.heap.get? b = some o' → h'.get? b = some o' :=
    fun h' hk b o' e => hk b o' (old_not_new e) (Heap.get?_push_of_some _ e)
  refine ⟨fun _ => true, fun v r => ∃ a, K.is a v ∧ Carried r (d a), s₁.heap.objs.size, [s₁.heap.objs.size], [s₁.heap.objs.size], n, P, St, rfl, W, hsz, hst, ?_, ⟨?_, ?_⟩, ?_⟩
  · intro b hb
    show b < (s₁.heap.push o).objs.size
    rw [Heap.size_push, List.mem_singleton.mp hb]
    exact Nat.lt_succ_self _
  · intro C i v s₃ m₃ E' _ _ _ _ _
    exact wpAny_pure ⟨rfl, s₃.heap, s₃.toks, rfl, fun _ _ e => e⟩
  · intro C i v s₃ m₃ E' hP hp hn hm hk htk
    obtain ⟨a, ha, hi⟩ := hPK i v hP
    exact wpAny_mono (g2 C a v s₃ m₃ E' (List.mem_of_getElem? ha) hi hn hm (F.keeps (up _ hk)) (N.grown (up _ hk))) (fun r s₄ h₄ => ⟨⟨_, hi, h₄.1⟩, h₄.2⟩) fun _ _ e => e
  · intro D h' tk ys vs hnew hlD hplD hlen hP hF hk
    have hA : AreOf K vs as := areOf_of_get vs as (by rw [hlen, hn]) fun j v hv => hPK j v (hP j v hv)
    have hF' : Paired (fun v r => ∃ a, K.is a v ∧ Carried r (d a)) (vs.filter (K.lift fun _ => true)) ys.toList := by
      have e1 : vs.filter (K.lift fun _ => true) = vs := List.filter_eq_self.mpr fun v hv => by obtain ⟨a, ha⟩ := hA.mem v hv; rw [ItemKind.lift_is ha]
      have e2 : vs.filter (fun _ => true) = vs := List.filter_eq_self.mpr fun v hv => rfl
      rw [e1]
      rw [e2] at hF
      exact hF
    have hC := hA.paired (fun _ => true) d _ hF'
    have e3 : as.filter (fun _ => true) = as := List.filter_eq_self.mpr fun v hv => rfl
    rw [e3] at hC
    refine g3 D ys.toList h' tk (F.keeps (up h' hk)) (N.grown (up h' hk)) ?_ (by rw [Array.toArray_toList]; exact hlD) ⟨by rw [Array.toArray_toList]; exact hplD, fun p hp e => by rw [← e, Heap.get?_push_of_some _ (N p hp).1] at hnew; cases hnew⟩ hC
    cases e : h₀.get? D with
    | none => rfl
    | some o' => rw [Heap.get?_push_of_some _ (F.keep _ _ e)] at hnew; cases hnew
theorem src_signs {env : Env} {elt : Expr} {x : Str} {scope : Scope} {Q : Value → Shared → Prop} {y : Str} {t : Tok} {d : Nat → PyData}
    (hh : A.handled = none) (hsz : y.length ≤ sizeLine) (F : Fr h₀ L s₁.heap m) (N : News h₀ L s₁.heap news)
    (g2 : ∀ C a u (s₂ : Shared) m₂ (E' : Value → Shared → Prop), a ∈ y.cps.toList → s₂.heap.Ns C m₂ → m₂ x = some (.str ⟨#[a]⟩ u) → Fr h₀ L s₂.heap m → News h₀ L s₂.heap news →
        wpAny (model prog w) A (eval elt (compEnv scope C env)) (fun r s₃ => Carried r (d a) ∧ Keeps s₂ s₃) E' s₂)
    (g3 : ∀ D (ys : List Value) h' tk, Fr h₀ L h' m → News h₀ L h' news → h₀.get? D = none → h'.IsList D ys.toArray → NewPlain h' news D ys.toArray → CarriedAll ys (y.cps.toList.map d) → Q (.ref D) { s₁ with heap := h', toks := tk }) :
    wpAny (model prog w) A (pyIter (.str y t)) (CompPost prog w A env scope x [] elt Q) E s₁ := by
  refine wpAny_pyIter_str fun o St W hst => ?_
  refine src_walks (K := SignK) (as := y.cps.toList) (W A hh) hst (by simp) ?_ hsz F N ?_ g3
  · rintro i v ⟨c, u, hc, rfl⟩
    exact ⟨c, by simpa using hc, u, rfl⟩
  · rintro C a v s₂ m₂ E' ha ⟨u, rfl⟩ hn hm F2 N2
    exact g2 C a u s₂ m₂ E' ha hn hm F2 N2
theorem src_bytes {env : Env} {elt : Expr} {x : Str} {scope : Scope} {Q : Value → Shared → Prop} {y : Array UInt8} {t : Tok} {d : UInt8 → PyData}
    (hh : A.handled = none) (hsz : y.size ≤ sizeLine) (F : Fr h₀ L s₁.heap m) (N : News h₀ L s₁.heap news)
    (g2 : ∀ C (a : UInt8) u (s₂ : Shared) m₂ (E' : Value → Shared → Prop), a ∈ y.toList → s₂.heap.Ns C m₂ → m₂ x = some (.int (a.toNat : Int) u) → Fr h₀ L s₂.heap m → News h₀ L s₂.heap news →
        wpAny (model prog w) A (eval elt (compEnv scope C env)) (fun r s₃ => Carried r (d a) ∧ Keeps s₂ s₃) E' s₂)
    (g3 : ∀ D (ys : List Value) h' tk, Fr h₀ L h' m → News h₀ L h' news → h₀.get? D = none → h'.IsList D ys.toArray → NewPlain h' news D ys.toArray → CarriedAll ys (y.toList.map d) → Q (.ref D) { s₁ with heap := h', toks := tk }) :
    wpAny (model prog w) A (pyIter (.bytes y t)) (CompPost prog w A env scope x [] elt Q) E s₁ := by
  refine KBw.pyIter_bytes ?_
  refine src_walks (K := ByteK) (as := y.toList) (KBw.walks hh _ y t) ⟨_, Heap.get?_push_size _ rfl, rfl, rfl⟩ (by simp) ?_ hsz F N ?_ g3
  · rintro i v ⟨c, u, hc, rfl⟩
    exact ⟨c, by simpa using hc, u, rfl⟩
  · rintro C a v s₂ m₂ E' ha ⟨u, rfl⟩ hn hm F2 N2
    exact g2 C a u s₂ m₂ E' ha hn hm F2 N2
end
section
variable {h₀ : Heap} {L : Addr} {m : Str → Option Value} {s : Shared} {E : Value → Shared → Prop}
theorem nameB_comp {M : Model} {A : Around} {K : Frag} {mg mb : Str → Option Value} {p : Program} {loose : List Str} {env : Env} {x : Str} {pos : Pos} {v : Value} {Q : Value → Shared → Prop} (F : Fr h₀ L s.heap m) (X : K.In h₀) (T : TopRead p loose mg mb h₀)
    (e : nsIn K mainGlobals x = some none) (hv : bootBuiltins x = some v) (hn : x ≠ "__name__") (h : Q v s) (hg : env.globals = mainGlobals) (hb : env.builtins = builtinsNs) (hk : env.scope.kind = .function) (hx : env.kindOf x = some .globalImplicit) (hd : (x == ("__debug__" : Str)) = false) :
    wpAny M A (eval (.Name x pos) env) Q E s :=
  Name_function_global hk hx (loadGlobal_builtin (env := env) (by rw [hg]; exact T.g.keeps F.keep) (mg_none_of X T.g e) (by rw [hb]; exact T.b.keeps F.keep) ((T.builtins x hn).trans hv) h) hd
end
theorem join_cps' : ∀ (l : List Nat), (Str.join (Str.ofString "") (l.map fun c => (⟨#[c]⟩ : Str))).cps.toList = l
  | [] => rfl
  | [c] => rfl
  | a :: b :: r => by
    show ((⟨#[a]⟩ ++ Str.ofString "" ++ Str.join (Str.ofString "") ((b :: r).map fun c => (⟨#[c]⟩ : Str)) : Str)).cps.toList = _
    rw [Str.cps_append, Str.cps_append, Array.toList_append, join_cps' (b :: r)]
    rfl
theorem join_cps (l : List Nat) : (Txt.join (Str.ofString "") (l.map fun c => (⟨#[c]⟩ : Str))) = ⟨l.toArray⟩ := by
  show (Builtin.Str.glued (Str.ofString "") _) = _
  rw [StrLaws.glued_eq_join]
  exact PySem.Str.ext' (by rw [← Array.toList_inj, join_cps' l])
theorem bytes_round : ∀ (l : List Nat), (∀ c ∈ l, c < 128) → (l.map fun c : Nat => (c : Int)).map (fun n => n.toNat.toUInt8.toNat) = l
  | [], _ => rfl
  | a :: l, h => by
    have ha := h a (List.mem_cons_self ..)
    simp only [List.map_cons]
    rw [bytes_round l fun c hc => h c (List.mem_cons_of_mem _ hc)]
    congr 1
    simp
    omega
theorem turned_text (x : Str) (h : ∀ c ∈ x.cps.toList, c < 128) :
    Txt.join (Str.ofString "") ((List.map (fun n : Int => n.toNat.toUInt8) (List.map (fun c : Nat => (c : Int)) x.cps.toList)).reverse.map fun c => (⟨#[(c.toNat : Int).toNat]⟩ : Str)) = ⟨x.cps.reverse⟩ := by
  have e : ((List.map (fun n : Int => n.toNat.toUInt8) (List.map (fun c : Nat => (c : Int)) x.cps.toList)).reverse.map fun c : UInt8 => (⟨#[(c.toNat : Int).toNat]⟩ : Str)) = (x.cps.toList.reverse).map fun c => (⟨#[c]⟩ : Str) := by
    rw [← List.map_reverse, ← List.map_reverse, List.map_map]
    have hr := bytes_round x.cps.toList.reverse (fun c hc => h c (List.mem_reverse.mp hc))
    conv => rhs; rw [← hr]
    rw [List.map_map, List.map_map, List.map_map]
    rfl
  rw [e, join_cps]
  exact PySem.Str.ext' (by rw [← Array.toList_inj]; simp)

section
local macro_rules | `(tactic| walk_at "eval ListComp") => `(tactic| (k_here; (with_reducible apply ListComp_rowsP); (case hfree => decide); (case hcell => decide); (case hkind => with_unfolding_all rfl); (case hnames => decide); (case hx => with_unfolding_all rfl); (case hs => intro _; with_unfolding_all rfl)))
local macro_rules | `(tactic| walk_at "pyIter str") => `(tactic| (k_here; refine held_in ?_))
local macro_rules | `(tactic| walk_at "pyIter bytes") => `(tactic| (k_here; refine held_in ?_))
local macro_rules | `(tactic| walk_at "eval Name") => `(tactic| (k_here; k_inBlock; (with_reducible rename Fr _ _ _ _ => kF); k_dflt (refine' nameB_comp kF ?k1 ?k2 ?k3 ?k8 ?k9 ?_ ?k4 ?kb ?k5 ?k6 ?k7; (case k4 => rfl); (case kb => rfl); (case k5 => rfl); (case k6 => rfl); (case k7 => decide); (case k1 => k_asm); (case k2 => k_asm); (case k3 => k_is); (case k8 => boot_by_name); (case k9 => decide); k_whole)))
theorem turned_c (w : World) (mean : ExcName → Option Value) (mg mb : Str → Option Value) (x : Str) (t0 : Tok) (h0 : 0 < x.length) (h1 : x.length < 100) (h2' : ∀ c ∈ x.cps.toList, c < 128) :
    ConC 2 w mean mg mb 79 [.str x t0] (fun news news' r => news' = news ∧ ∃ t, r = .str ⟨x.cps.reverse⟩ t) := by
  unfold ConC; k_fill
  intro dp un gd cn cs a ccd cl outer A₀ base h₀ L m s Q news B F X N T hk hdp hun hret
  refine wpC_call ?_
  walk_at "enterC"
  refine wpC_execs_cons (wpC_Assign_Name (wpC_Call ?_))
  k_fold
  walk_at "go"
  refine wpC_callWith_K (by assumption) (by k_is) ?_
  k_fold
  walk_at "go"
  refine held_out ?_
  refine src_signs (d := fun c => PyData.int (c : Int)) rfl (by show x.length ≤ _; rw [PySem.sizeLine_eq]; omega) (by k_asm) (by k_asm) ?_ ?_
  · intro C c u s2 m2 E2 hc hns hm2 F2 N2
    k_fold
    walk_at "go"
    · exact .int _ _
    · exact ⟨_, _, rfl, fun _ _ e => e⟩
  · intro D ys h2 tk2 F2 N2 hD hl hp hc
    k_fold
    have hI : IntsAre ys (x.cps.toList.map fun c : Nat => (c : Int)) := IntsAre.ofCarried (by rw [List.map_map]; exact hc)
    have hL : (x.cps.toList.map fun c : Nat => (c : Int)).length = x.length := by simp [Str.length]
    walk_at "go"
    refine call_bytes_ints hl hI (by intro n hn; obtain ⟨c, h3, rfl⟩ := List.mem_map.mp hn; have := h2' c h3; omega) (by rw [hI.length, hL, PySem.sizeLine_eq]; omega) rfl ?_
    intro h3 t3 tk3 hk3
    have F3 := F2.keeps hk3
    have N3 := N2.grown hk3
    clear F2 N2 hl hp hk3 hD
    (show wpAny _ _ _ _ _ _)
    k_fold
    walk_at "go"
    refine' conC_use (swap_c _ _ _ _ _ _ _ _ ?c1 ?c2 ?c3) ?k1 ?k2 ?k3 ?k4 ?k5 ?k6 ?k7 ?k8 ?_
    (case c1 => rw [List.length_map, hL])
    (case c2 => omega)
    (case c3 => omega)
    walk_at "con_sides"
    intro r9 news9 h9 tk9 F9 N9 P9
    obtain ⟨e8, t9, e9⟩ := P9
    subst e8; subst e9
    (show wpAny _ _ _ _ _ _)
    k_fold
    walk_at "go"
    refine wpC_of_any ?_
    k_fold
    walk_at "go"
    refine held_out ?_
    refine src_bytes (d := fun c => PyData.str ⟨#[(c.toNat : Int).toNat]⟩) rfl (by simp [PySem.sizeLine_eq]; have := hL; simp at this; omega) (by k_asm) (by k_asm) ?_ ?_
    · intro C c u s2 m2 E2 hc2 hns hm2 F2 N2
      have hc3 := UInt8.toNat_lt c
      (show wpAny _ _ _ _ _ _)
      k_fold
      walk_at "go"
      · exact .str _ _
      · exact ⟨_, _, rfl, fun _ _ e => e⟩
    · intro D2 ys2 h4 tk4 F4 N4 hD4 hl4 hp4 hc4
      k_fold
      walk_at "go"
      refine KT.join_1 hl4 hc4 (fun _ _ => rfl) (by simp; have := hL; simp at this; omega) ?_
      intro t5 k5 _
      rw [turned_text x h2']
      walk_at "go"
      rename Fr h₀ _ _ _ => kF
      rename News h₀ _ _ _ => kN
      exact hret _ news9 _ _ kF (cb_drop kN (fun p hp => by first | exact hp | exact List.mem_cons_of_mem _ hp | exact List.mem_append_left _ hp)) ⟨rfl, _, rfl⟩
end

def wheelB (r g : UInt64) : Bool :=
  !(Float64.cmp g g == some .lt) && !Float64.isZero (Float64.add (fmax r g) (fmin r g)) && ((Float64.cmp (fmin r g) (fmax r g) == some .eq) || !Float64.isZero (Float64.sub (fmax r g) (fmin r g)))
  && (Float64.cmp (Float64.div (Float64.add (fmax r g) (fmin r g)) 4611686018427387904) 4602678819172646912 == some .lt || Float64.cmp (Float64.div (Float64.add (fmax r g) (fmin r g)) 4611686018427387904) 4602678819172646912 == some .eq)
  && ((Float64.cmp r (fmax r g) == some .eq) || (Float64.cmp g (fmax r g) == some .eq)) && !Float64.isZero (fmax r g)
theorem wheelB_ok {r g : UInt64} (h : wheelB r g = true) : WheelOk r g := by
  unfold wheelB at h
  simp only [Bool.and_eq_true, Bool.or_eq_true, Bool.not_eq_true'] at h
  obtain ⟨⟨⟨⟨⟨h1, h2⟩, h3⟩, h4⟩, h5⟩, h6⟩ := h
  refine ⟨h1, h2, fun e => ?_, by simpa using h4, fun e => ?_, h6⟩
  · rcases h3 with h3 | h3
    · rw [e] at h3; cases h3
    · exact h3
  · rcases h5 with h5 | h5
    · rw [e] at h5; cases h5
    · exact h5
/-- 128 times the share that the lessened text is shortened by -/
def gapF (r g : UInt64) : UInt64 := Float64.mul (Float64.ofInt 128) (Float64.sub (fmax r g) (wLight r g))
def lessB (a b : Int) : Bool :=
  wheelB (qf a 64) (qf b 64) && ((Float64.cmp (wHue (qf a 64) (qf b 64)) 4602678819172646912 == some .eq) == decide (a < b)) && !Float64.isNaN (gapF (qf a 64) (qf b 64)) && !Float64.isInf (gapF (qf a 64) (qf b 64))
  && (toInt Float64.truncOf (gapF (qf a 64) (qf b 64)) == (if a < b then b - a else a - b))
def blueB (n : Int) : Bool :=
  !Float64.isNaN (Float64.mul (qf n 4) 4618441417868443648) && !Float64.isInf (Float64.mul (qf n 4) 4618441417868443648) && decide ((toInt Float64.truncOf (Float64.mul (qf n 4) 4618441417868443648)).natAbs < 1000)
  && ((Float64.cmp (rgbT (qf n 4)).2.2 4607182418800017408 == some .eq) == decide (2 ≤ n.emod 4))
def redB (n : Int) : Bool :=
  !Float64.isNaN (Float64.mul (qf n 8) 4618441417868443648) && !Float64.isInf (Float64.mul (qf n 8) 4618441417868443648) && decide ((toInt Float64.truncOf (Float64.mul (qf n 8) 4618441417868443648)).natAbs < 1000)
  && ((Float64.cmp (rgbT (qf n 8)).1 0 == some .eq) == decide (n.emod 8 = 3 ∨ n.emod 8 = 5 ∨ n.emod 8 = 4))
theorem blue_all : ((List.range 32).all fun n => blueB (n : Nat)) = true := by decide +kernel
theorem red_all : ((List.range 16).all fun n => redB ((2 * n + 1 : Nat) : Int)) = true := by decide +kernel
theorem less_a : ((List.range 15).all fun b => lessB 1 ((2 * b + 1 : Nat) : Int)) = true := by decide +kernel
theorem less_b : ((List.range 15).all fun b => lessB 3 ((2 * b + 1 : Nat) : Int)) = true := by decide +kernel
theorem less_c : ((List.range 15).all fun b => lessB 5 ((2 * b + 1 : Nat) : Int)) = true := by decide +kernel
theorem less_d : ((List.range 15).all fun b => lessB 7 ((2 * b + 1 : Nat) : Int)) = true := by decide +kernel
theorem less_e : ((List.range 15).all fun b => lessB 9 ((2 * b + 1 : Nat) : Int)) = true := by decide +kernel
theorem less_f : ((List.range 15).all fun b => lessB 11 ((2 * b + 1 : Nat) : Int)) = true := by decide +kernel
theorem less_g : ((List.range 15).all fun b => lessB 13 ((2 * b + 1 : Nat) : Int)) = true := by decide +kernel
theorem less_h : ((List.range 15).all fun b => lessB 15 ((2 * b + 1 : Nat) : Int)) = true := by decide +kernel
theorem less_i : ((List.range 15).all fun b => lessB 17 ((2 * b + 1 : Nat) : Int)) = true := by decide +kernel
theorem less_j : ((List.range 15).all fun b => lessB 19 ((2 * b + 1 : Nat) : Int)) = true := by decide +kernel
theorem less_k : ((List.range 15).all fun b => lessB 21 ((2 * b + 1 : Nat) : Int)) = true := by decide +kernel
theorem less_l : ((List.range 15).all fun b => lessB 23 ((2 * b + 1 : Nat) : Int)) = true := by decide +kernel
theorem less_m : ((List.range 15).all fun b => lessB 25 ((2 * b + 1 : Nat) : Int)) = true := by decide +kernel
theorem less_n : ((List.range 15).all fun b => lessB 27 ((2 * b + 1 : Nat) : Int)) = true := by decide +kernel
theorem less_o : ((List.range 15).all fun b => lessB 29 ((2 * b + 1 : Nat) : Int)) = true := by decide +kernel
theorem less_row : ∀ a : Nat, a < 15 → ((List.range 15).all fun b => lessB ((2 * a + 1 : Nat) : Int) ((2 * b + 1 : Nat) : Int)) = true
  | 0, _ => less_a
  | 1, _ => less_b
  | 2, _ => less_c
  | 3, _ => less_d
  | 4, _ => less_e
  | 5, _ => less_f
  | 6, _ => less_g
  | 7, _ => less_h
  | 8, _ => less_i
  | 9, _ => less_j
  | 10, _ => less_k
  | 11, _ => less_l
  | 12, _ => less_m
  | 13, _ => less_n
  | 14, _ => less_o
  | n + 15, h => absurd h (by omega)

/-- n marks; a marks, a k, b marks -/
def qt (n : Int) : Str := ⟨(List.replicate n.toNat 34).toArray⟩
def tx (a b : Int) : Str := ⟨(List.replicate a.toNat 34 ++ 107 :: List.replicate b.toNat 34).toArray⟩
theorem k_is' : Str.ofString "k" = ⟨#[107]⟩ := by decide +kernel
theorem str_ext {x y : Str} (h : x.cps.toList = y.cps.toList) : x = y := PySem.Str.ext' (Array.toList_inj.mp h)
theorem qt_list (n : Int) : (qt n).cps.toList = List.replicate n.toNat 34 := rfl
theorem tx_list (a b : Int) : (tx a b).cps.toList = List.replicate a.toNat 34 ++ 107 :: List.replicate b.toNat 34 := rfl
theorem app_cps (x y : Str) : (x ++ y).cps.toList = x.cps.toList ++ y.cps.toList := by rw [Str.cps_append, Array.toList_append]
theorem mul_qt (n : Int) : Txt.mul (Str.ofString "\"") n = qt n := str_ext (by rw [mark_is, mul_one_list]; rfl)
theorem tx_len {a b : Int} (ha : 0 ≤ a) (hb : 0 ≤ b) : ((tx a b).length : Int) = a + 1 + b := by
  have : (tx a b).length = a.toNat + (b.toNat + 1) := by simp [tx, Str.length]
  omega
theorem qt_len {a : Int} (ha : 0 ≤ a) : ((qt a).length : Int) = a := by
  have : (qt a).length = a.toNat := by simp [qt, Str.length]
  omega
theorem qt_k (a : Int) : qt a ++ Str.ofString "k" = tx a 0 := str_ext (by rw [app_cps, k_is', qt_list, tx_list]; rfl)
theorem tx_qt (a b : Int) : tx a 0 ++ qt b = tx a b := str_ext (by rw [app_cps, tx_list, qt_list, tx_list]; simp)
theorem k_qt (b : Int) : Str.ofString "k" ++ qt b = tx 0 b := str_ext (by rw [app_cps, k_is', qt_list, tx_list]; rfl)
theorem qt_tx {a c : Int} (b : Int) (ha : 0 ≤ a) (hc : 0 ≤ c) : qt a ++ tx c b = tx (a + c) b := str_ext (by
  rw [app_cps, qt_list, tx_list, tx_list, ← List.append_assoc, List.replicate_append_replicate]
  congr 2
  congr 1
  omega)
theorem qt_tx0 (a b : Int) : qt a ++ tx 0 b = tx a b := str_ext (by rw [app_cps, qt_list, tx_list, tx_list]; rfl)
theorem qt_nil (a : Int) : qt a ++ Str.ofString "" = qt a := str_ext (by rw [app_cps]; exact List.append_nil _)
theorem tx_rev (a b : Int) : (tx a b).cps.reverse = (tx b a).cps := Array.toList_inj.mp (by
  rw [Array.toList_reverse, tx_list, tx_list]; simp)
theorem tx_from {a : Int} (b : Int) (ha : 0 ≤ a) : Txt.slice (tx a b) (some a) none = tx 0 b := by
  show StrLaws.sliceText _ _ _ = _
  rw [StrLaws.sliceText_from ⟨ha, by rw [tx_list]; simp; omega⟩]
  refine str_ext ?_
  rw [tx_list, tx_list]
  simp
  exact List.take_of_length_le (by simp; omega)
theorem tx_first {a : Int} (b : Int) (ha : 0 ≤ a) : (Txt.slice (tx a b) none (some 1) != Str.ofString "k") = decide (a ≠ 0) := by
  have e : Txt.slice (tx a b) none (some 1) = ⟨((tx a b).cps.toList.take 1).toArray⟩ := by
    show StrLaws.sliceText _ _ _ = _
    rw [StrLaws.sliceText_to ⟨by omega, by rw [tx_list]; simp; omega⟩]
    rfl
  rw [e, tx_list, k_is']
  by_cases h : a = 0
  · subst h; rfl
  · rw [show a.toNat = (a.toNat - 1) + 1 by omega, List.replicate_succ]
    rw [decide_eq_true h]
    rfl
theorem tx_has (a b : Int) : 107 ∈ (tx a b).cps.toList := by rw [tx_list]; simp
theorem tx_index (a b : Int) : ∃ rest, Builtin.Str.occurrences (tx a b) (Str.ofString "k") 0 (tx a b).length 1 = a.toNat :: rest := by
  rw [k_is']
  have h := StrLaws.found_one (tx a b) 107
  rw [decide_eq_true (tx_has a b)] at h
  cases e : Builtin.Str.occurrences (tx a b) ⟨#[107]⟩ 0 (tx a b).length 1 with
  | nil => rw [e] at h; cases h
  | cons i rest =>
    obtain ⟨_, h2⟩ := StrLaws.occ_spec (tx a b) ⟨#[107]⟩ 0 (tx a b).length 1 i (by rw [e]; exact List.mem_cons_self ..)
    rw [StrLaws.subAt_eq, tx_list, beq_iff_eq] at h2
    refine ⟨rest, ?_⟩
    congr 1
    have h3 : ((List.replicate a.toNat 34 ++ 107 :: List.replicate b.toNat 34).drop i)[0]? = some 107 := by
      have := congrArg (·[0]?) h2
      rw [List.getElem?_take] at this
      exact this
    rw [List.getElem?_drop, Nat.add_zero] at h3
    rcases Nat.lt_trichotomy i a.toNat with hl | hl | hl
    · rw [List.getElem?_append_left (by simpa using hl)] at h3
      simp [List.getElem?_replicate] at h3
    · exact hl
    · rw [List.getElem?_append_right (by simp; omega)] at h3
      simp only [List.length_replicate] at h3
      rw [show i - a.toNat = (i - a.toNat - 1) + 1 by omega, List.getElem?_cons_succ, List.getElem?_replicate] at h3
      split at h3 <;> cases h3
theorem tx_in (a b : Int) : (!(Builtin.Str.occurrences (tx a b) (Str.ofString "k") 0 (tx a b).length 1).isEmpty) = true := by
  rw [k_is', StrLaws.found_one, decide_eq_true (tx_has a b)]
theorem qt_in (a : Int) : (!(Builtin.Str.occurrences (qt a) (Str.ofString "k") 0 (qt a).length 1).isEmpty) = false := by
  rw [k_is', StrLaws.found_one, decide_eq_false (by rw [qt_list]; intro h; exact absurd (List.eq_of_mem_replicate h) (by decide))]
theorem tx_small (a b : Int) : ∀ c ∈ (tx a b).cps.toList, c < 128 := by
  intro c h
  rw [tx_list] at h
  rcases List.mem_append.mp h with h | h
  · rw [List.eq_of_mem_replicate h]; decide
  · rcases List.mem_cons.mp h with h | h
    · rw [h]; decide
    · rw [List.eq_of_mem_replicate h]; decide
section
variable {prog : Program} {w : World} {A : Around} {E : Value → Shared → Prop} {s : Shared} {Q : Value → Shared → Prop} {t u : Tok}
theorem mul_mark {n : Int} (h0 : 0 ≤ n) (h1 : n < 1000) (h : ∀ t' k, Q (.str (qt n) t') { s with toks := k }) : wpAny (model prog w) A (binaryOp .Mult (.str (Str.ofString "\"") t) (.int n u)) Q E s :=
  SB.mul (mulOk_of 16 1048576 (by decide) (by omega) (by omega) (by decide) (by decide)) fun t' k => by rw [mul_qt]; exact h t' k
theorem add_to {x y z : Str} (e : x ++ y = z) (hx : x.length < 1000) (hy : y.length < 1000) (h : ∀ t' k, Q (.str z t') { s with toks := k }) : wpAny (model prog w) A (binaryOp .Add (.str x t) (.str y u)) Q E s :=
  SBL.add (hsz := by rw [PySem.sizeLine_eq]; omega) fun t' k _ => by rw [e]; exact h t' k
end
section
variable {prog : Program} {w : World} {A : Around} {E : Value → Shared → Prop} {s : Shared} {Q : Value → Shared → Prop} {t u : Tok}
theorem index_tx {a b : Int} (ha : 0 ≤ a) (h : Q (.int a s.toks) { s with toks := s.toks + 1 }) : wpAny (model prog w) A (call (.builtin "str.index") [.str (tx a b) t, .str (Str.ofString "k") u]) Q E s := by
  obtain ⟨rest, ho⟩ := tx_index a b
  refine SC.index ho ?_
  rw [Int.toNat_of_nonneg ha]
  exact h
theorem add_from {a b g : Int} (ha : 0 ≤ a) (hb : 0 ≤ b) (hb' : b < 100) (hg : 0 ≤ g) (hg' : g < 100) (h : ∀ t' k, Q (.str (tx g b) t') { s with toks := k }) :
    wpAny (model prog w) A (binaryOp .Add (.str (qt g) t) (.str (Txt.slice (tx a b) (some a) none) u)) Q E s := by
  have l1 := qt_len hg
  have l2 := tx_len (Int.le_refl 0) hb
  rw [tx_from b ha]
  exact add_to (qt_tx0 g b) (by omega) (by omega) h
end
theorem turned_tx (w : World) (mean : ExcName → Option Value) (mg mb : Str → Option Value) (a b : Int) (t0 : Tok) (ha : 0 ≤ a) (ha' : a < 40) (hb : 0 ≤ b) (hb' : b < 40) :
    ConC 2 w mean mg mb 79 [.str (tx a b) t0] (fun news news' r => news' = news ∧ ∃ t, r = .str (tx b a) t) := by
  have l := tx_len ha hb
  have h := turned_c w mean mg mb (tx a b) t0 (by omega) (by omega) (tx_small a b)
  rw [show (⟨(tx a b).cps.reverse⟩ : Str) = tx b a from congrArg Str.mk (tx_rev a b)] at h
  exact h
theorem tx_fits {a b : Int} (ha : 0 ≤ a) (ha' : a < 100) (hb : 0 ≤ b) (hb' : b < 100) : (tx a b).length ≤ sizeLine := by
  have := tx_len ha hb
  rw [PySem.sizeLine_eq]
  omega


theorem less_facts {a b : Int} (h : lessB a b = true) : WheelOk (qf a 64) (qf b 64) ∧ (Float64.cmp (wHue (qf a 64) (qf b 64)) 4602678819172646912 == some .eq) = decide (a < b) ∧ Float64.isNaN (gapF (qf a 64) (qf b 64)) = false ∧ Float64.isInf (gapF (qf a 64) (qf b 64)) = false
    ∧ toInt Float64.truncOf (gapF (qf a 64) (qf b 64)) = (if a < b then b - a else a - b) := by
  unfold lessB at h
  simp only [Bool.and_eq_true, Bool.not_eq_true', beq_iff_eq] at h
  obtain ⟨⟨⟨⟨h1, h2⟩, h3⟩, h4⟩, h5⟩ := h
  exact ⟨wheelB_ok h1, h2, h3, h4, h5⟩
theorem blue_facts {n : Int} (h : blueB n = true) : Float64.isNaN (Float64.mul (qf n 4) 4618441417868443648) = false ∧ Float64.isInf (Float64.mul (qf n 4) 4618441417868443648) = false ∧ (toInt Float64.truncOf (Float64.mul (qf n 4) 4618441417868443648)).natAbs < 1000
    ∧ (Float64.cmp (rgbT (qf n 4)).2.2 4607182418800017408 == some .eq) = decide (2 ≤ n.emod 4) := by
  unfold blueB at h
  simp only [Bool.and_eq_true, Bool.not_eq_true', beq_iff_eq, decide_eq_true_eq] at h
  obtain ⟨⟨⟨h1, h2⟩, h3⟩, h4⟩ := h
  exact ⟨h1, h2, h3, h4⟩
theorem int_to {prog : Program} {w : World} {A : Around} {E : Value → Shared → Prop} {s : Shared} {Q : Value → Shared → Prop} {x : UInt64} {t : Tok} {z : Int} (hh : A.handled = none) (h1 : Float64.isNaN x = false) (h2 : Float64.isInf x = false) (e : toInt Float64.truncOf x = z)
    (h : Q (.int z s.toks) { s with toks := s.toks + 1 }) : wpAny (model prog w) A (call (.type "int") [.float x t]) Q E s := int_ok hh h1 h2 (by rw [e]; exact h)
theorem less_end {h₀ : Heap} {L : Addr} {h : Heap} {a b : Int} {D : Addr} {x : Str} {ta : Tok} {c : Bool} {news big : List (Addr × Obj)} (kN : News h₀ L h ((D, tupO [.str x ta, .bool c]) :: big)) (hx : x = (if a < b then tx (b - a) a else tx (a - b) b))
    (hc : c = (decide (a < b) && decide (2 ≤ a.emod 4) && decide (2 ≤ b.emod 4))) (hs : ∀ p ∈ news, p ∈ big) (hl : ∀ p ∈ news, p.1 < D) :
    ∃ news', News h₀ L h news' ∧ ∃ D' ta, (Value.ref D : Value) = .ref D' ∧ news' = (D', tupO [.str (if a < b then tx (b - a) a else tx (a - b) b) ta, .bool (decide (a < b) && decide (2 ≤ a.emod 4) && decide (2 ≤ b.emod 4))]) :: news ∧ ∀ p ∈ news, p.1 < D' := by
  subst hx; subst hc
  refine ⟨_, cb_drop kN fun p hp => ?_, D, ta, rfl, rfl, hl⟩
  rcases List.mem_cons.mp hp with rfl | hp
  · exact List.mem_cons_self ..
  · exact List.mem_cons_of_mem _ (hs p hp)
section
local macro_rules | `(tactic| walk_at "call ref") => `(tactic| (k_here; (with_reducible show wpAny _ _ (call (Value.ref 53) _ _) _ _ _); k_dflt (refine' con_use (hls_c _ _ _ _ _ _ _ _ _ ?c1) ?k1 ?k2 ?k3 ?k4 ?k5 ?k6 ?k7 ?k8 ?_); (case c1 => assumption); walk_at "con_sides"; intro r9 news9 h9 tk9 F9 N9 P9; (obtain ⟨D9, ta9, tb9, tc9, S9, e8, e9, l9⟩ := P9); subst e8; subst e9; (try dsimp only)))
local macro_rules | `(tactic| walk_at "call ref") => `(tactic| (k_here; (with_reducible show wpAny _ _ (call (Value.ref 60) _ _) _ _ _); k_dflt (refine' con_use (hsv_c _ _ _ _ _ _ _ _ _ ?c1) ?k1 ?k2 ?k3 ?k4 ?k5 ?k6 ?k7 ?k8 ?_); (case c1 => assumption); walk_at "con_sides"; intro r9 news9 h9 tk9 F9 N9 P9; (obtain ⟨D9, ta9, tb9, tc9, H9, S9, e8, e9, l9⟩ := P9); subst e8; subst e9; (try dsimp only)))
local macro_rules | `(tactic| walk_at "call ref") => `(tactic| (k_here; (with_reducible show wpAny _ _ (call (Value.ref 86) _ _) _ _ _); k_dflt (refine' con_use (blue_c _ _ _ _ _ _ ?c0 ?c1 ?c2 ?c3) ?k1 ?k2 ?k3 ?k4 ?k5 ?k6 ?k7 ?k8 ?_); (case c0 => omega); (case c1 => assumption); (case c2 => assumption); (case c3 => assumption); walk_at "con_sides"; intro r9 news9 h9 tk9 F9 N9 P9; (obtain ⟨e8, t9, e9⟩ := P9); subst e8; subst e9; (try dsimp only)))
local macro_rules | `(tactic| walk_at "call type:int") => `(tactic| (k_here; (with_reducible show wpAny _ _ (call _ [Value.float _ _]) _ _ _); k_dflt (refine int_to rfl (by assumption) (by assumption) (by assumption) ?_)))
local macro_rules | `(tactic| walk_at "call builtin:str.index") => `(tactic| (k_here; k_dflt (refine index_tx (by omega) ?_)))
local macro_rules | `(tactic| walk_at "binaryOp Mult str int") => `(tactic| (k_here; k_dflt (refine mul_mark (by split <;> omega) (by split <;> omega) ?_); intro _ _))
local macro_rules | `(tactic| walk_at "binaryOp Add str str") => `(tactic| (k_here; k_dflt (refine add_from (by omega) (by omega) (by omega) (by split <;> omega) (by split <;> omega) ?_); intro _ _))
local macro_rules | `(tactic| walk_at "subscriptTail Name Slice str ref") => `(tactic| ((with_reducible show wpAny _ _ (subscriptTail _ (Expr.Slice (some _) none none _) _ _) _ _ _); (with_reducible rename Fr _ _ _ _ => F'); (with_reducible rename News _ _ _ _ => N'); k_dflt (refine slice_strN_sn (hsz := tx_fits ?l1 ?l2 ?l3 ?l4) (s := ⟨_, _, _, _, _⟩) F' N' ?_); (case l1 => omega); (case l2 => omega); (case l3 => omega); (case l4 => omega); intro _ _ _ _ _))
theorem lessened_c (w : World) (mean : ExcName → Option Value) (mg mb : Str → Option Value) (a b : Int) (t0 t1 t2 : Tok) (ha : 1 ≤ a) (ha' : a < 30) (hb : 1 ≤ b) (hb' : b < 30) (ok : lessB a b = true) (okA : blueB a = true) (okB : blueB b = true) :
    ConC 3 w mean mg mb 93 [.str (tx a b) t0, .int a t1, .int b t2] (fun news news' r => ∃ D ta, r = .ref D ∧ news' = (D, tupO [.str (if a < b then tx (b - a) a else tx (a - b) b) ta, .bool (decide (a < b) && decide (2 ≤ a.emod 4) && decide (2 ≤ b.emod 4))]) :: news ∧ ∀ p ∈ news, p.1 < D) := by
  obtain ⟨w1, w2, w3, w4, w5⟩ := less_facts ok
  obtain ⟨x1, x2, x3, x4⟩ := blue_facts okA
  obtain ⟨y1, y2, y3, y4⟩ := blue_facts okB
  unfold ConC; k_fill
  intro dp un gd cn cs a0 ccd cl outer A₀ base h₀ L m s Q news B F X N T hk hdp hun hret
  refine wpC_call ?_
  walk_at "enterC"
  refine wpC_stmt ?_
  k_fold
  walk_at "go"
  refine wpC_stmt ?_
  k_fold
  walk_at "go"
  refine wpC_stmt ?_
  k_fold
  walk_at "go"
  refine wpC_stmt ?_
  k_fold
  walk_at "go"
  all_goals
    refine wpC_execs_cons (wpC_If ?_)
    k_fold
    walk_at "go"
    first
    | (refine wpC_execs_cons (wpC_Assign_Name (wpC_Call ?_))
       k_fold
       walk_at "go"
       refine wpC_callWith_K (by assumption) (by k_is) ?_
       k_fold
       walk_at "go"
       refine' conC_use (turned_tx _ _ _ _ _ _ _ ?c1 ?c2 ?c3 ?c4) ?k1 ?k2 ?k3 ?k4 ?k5 ?k6 ?k7 ?k8 ?_
       (case c1 => omega)
       (case c2 => omega)
       (case c3 => omega)
       (case c4 => omega)
       walk_at "con_sides"
       intro r9 news9 h9 tk9 F9 N9 P9
       obtain ⟨e8, t9, e9⟩ := P9
       subst e8; subst e9
       (show wpAny _ _ _ _ _ _)
       k_fold
       walk_at "go"
       refine wpC_execs_nil ?_)
    | refine wpC_execs_nil ?_
    (show wpC _ _ _ _ _)
    refine wpC_of_any ?_
    k_fold
    walk_at "go"
  all_goals
    rename Fr h₀ _ _ _ => kF
    rename News h₀ _ _ _ => kN
    rename (_ ∧ _ ∧ _ ∧ AllLt _ _) => hl
    refine Exists.elim (less_end (a := a) (b := b) (news := news) kN ?_ ?_ (fun p hp => by repeat (first | exact hp | refine List.mem_cons_of_mem _ ?_)) (kst_ltOf hl.2.2.2)) fun n' hP => hret _ n' _ _ kF hP.1 hP.2
    · first
      | (have q : (Float64.cmp (wHue (qf a 64) (qf b 64)) 4602678819172646912 == some Ordering.eq) = true := by assumption
         have q' := w2.symm.trans q
         rw [decide_eq_true_eq] at q'
         rw [if_pos q', if_pos q'])
      | (have q : (Float64.cmp (wHue (qf a 64) (qf b 64)) 4602678819172646912 == some Ordering.eq) = false := by assumption
         have q' := w2.symm.trans q
         rw [decide_eq_false_iff_not] at q'
         rw [if_neg q', if_neg q'])
    · first
      | (have q : (Float64.cmp (wHue (qf a 64) (qf b 64)) 4602678819172646912 == some Ordering.eq) = true := by assumption
         have q1 : (Float64.cmp (rgbT (qf a 4)).2.2 4607182418800017408 == some Ordering.eq) = true := by assumption
         rw [← w2, ← x4, ← y4, q, q1]
         rfl)
      | (have q : (Float64.cmp (wHue (qf a 64) (qf b 64)) 4602678819172646912 == some Ordering.eq) = true := by assumption
         have q1 : (Float64.cmp (rgbT (qf a 4)).2.2 4607182418800017408 == some Ordering.eq) = false := by assumption
         rw [← w2, ← x4, ← y4, q, q1]
         first | rfl | exact q1)
      | (have q : (Float64.cmp (wHue (qf a 64) (qf b 64)) 4602678819172646912 == some Ordering.eq) = false := by assumption
         rw [← w2, q]
         first | rfl | exact q)
end

def chE (b : Int) : Bool := decide (b.emod 8 = 3 ∨ b.emod 8 = 5 ∨ b.emod 8 = 4)
def chO (a b : Int) : Bool := decide (a < b) && decide (2 ≤ a.emod 4) && decide (2 ≤ b.emod 4)
/-- the run on two numbers and a sign, with fuel -/
def stein : Nat → Int → Int → Int → Option (Int × Int)
  | 0, _, _, _ => none
  | k + 1, a, b, g => if a = 0 then some (b, g) else if (a.fmod 2 != 0) = false then stein k (a.fdiv 2) b (if chE b then -g else g)
    else if a < b then stein k (b - a) a (if chO a b then -g else g) else stein k (a - b) b (if chO a b then -g else g)
theorem half_facts {a : Int} (h0 : 0 ≤ a) (h1 : a < 31) : 0 ≤ a.fdiv 2 ∧ a.fdiv 2 < 16 ∧ ((a.fmod 2 != 0) = false → a.toNat = 2 * (a.fdiv 2).toNat) ∧ ((a.fmod 2 != 0) = true → a.toNat = 2 * (a.fdiv 2).toNat + 1) := by
  rw [Int.fdiv_eq_ediv_of_nonneg _ (by omega), Int.fmod_eq_emod_of_nonneg _ (by omega)]
  refine ⟨by omega, by omega, fun h => ?_, fun h => ?_⟩
  · have : a % 2 = 0 := by simpa using h
    omega
  · have : ¬ a % 2 = 0 := by simpa using h
    omega
/-- the answer that the text a, b is put into -/
def resp (a b : Int) : Str := Str.ofString "257 \"" ++ tx a b ++ qt (b + 1)
def told (a b : Int) : Str := if (a.fmod 2 != 0) = false then tx (a.fdiv 2) b else qt (a.fdiv 2)
theorem parse_pairs (k : Nat) (r : List Nat) : parseL (List.replicate (2 * k) 34 ++ r) = List.replicate k 34 ++ parseL r := by
  induction k with
  | zero => rfl
  | succ k ih =>
    rw [show 2 * (k + 1) = 2 * k + 1 + 1 by omega, List.replicate_succ, List.replicate_succ, List.replicate_succ]
    show parseL (34 :: 34 :: (List.replicate (2 * k) 34 ++ r)) = _
    rw [parseL, ih]
    rfl
theorem mark5 : (Str.ofString "257 \"").cps.toList = [50, 53, 55, 32, 34] := by decide +kernel
theorem resp_list {a b : Int} (hb : 0 ≤ b) : (resp a b).cps.toList = [50, 53, 55, 32, 34] ++ (List.replicate a.toNat 34 ++ 107 :: List.replicate (2 * b.toNat + 1) 34) := by
  unfold resp
  rw [app_cps, app_cps, mark5, tx_list, qt_list, show (b + 1).toNat = b.toNat + 1 by omega]
  simp only [List.append_assoc, List.cons_append]
  rw [List.replicate_append_replicate, show b.toNat + (b.toNat + 1) = 2 * b.toNat + 1 by omega]
theorem resp_len {a b : Int} (ha : 0 ≤ a) (hb : 0 ≤ b) : ((resp a b).length : Int) = 5 + (a + 1 + b) + (b + 1) := by
  have h : (resp a b).cps.toList.length = (resp a b).length := Array.length_toList
  rw [resp_list hb] at h
  simp at h
  omega
theorem resp_parse {a b : Int} (ha : 0 ≤ a) (ha' : a < 31) (hb : 0 ≤ b) : PW (resp a b) (told a b).cps.toList 5 (Str.ofString "") := by
  obtain ⟨_, _, h3, h4⟩ := half_facts ha ha'
  unfold PW told
  rw [resp_list hb]
  show parseL (List.replicate a.toNat 34 ++ 107 :: List.replicate (2 * b.toNat + 1) 34) = _
  have e : parseL (107 :: List.replicate (2 * b.toNat + 1) 34) = 107 :: List.replicate b.toNat 34 := by
    rw [parseL_other (by decide)]
    have h := parse_pairs b.toNat [34]
    rw [List.replicate_succ', h]
    show 107 :: (_ ++ []) = _
    rw [List.append_nil]
  cases hp : (a.fmod 2 != 0) with
  | false =>
    rw [h3 hp, parse_pairs, e, if_pos rfl, tx_list]
  | true =>
    rw [h4 hp, List.replicate_succ', List.append_assoc, parse_pairs, if_neg (by decide), qt_list]
    show _ ++ parseL (34 :: 107 :: _) = _
    rw [parseL_mark (by decide), List.append_nil]
theorem resp_pre {a b : Int} (hb : 0 ≤ b) : (Txt.slice (resp a b) none (some 3) != Str.ofString "257") = false ∧ (Txt.slice (resp a b) (some 3) (some 5) != Str.ofString " \"") = false := by
  have h := resp_list (a := a) hb
  constructor
  · have e : Txt.slice (resp a b) none (some 3) = ⟨#[50, 53, 55]⟩ := by
      show StrLaws.sliceText _ _ _ = _
      rw [StrLaws.sliceText_to ⟨by omega, by rw [h]; simp; omega⟩, h]
      rfl
    rw [e]; decide +kernel
  · have e : Txt.slice (resp a b) (some 3) (some 5) = ⟨#[32, 34]⟩ := by
      show StrLaws.sliceText _ _ _ = _
      rw [StrLaws.sliceText_plain ⟨by omega, by omega, by rw [h]; simp; omega⟩, h]
      rfl
    rw [e]; decide +kernel
section
variable {prog : Program} {w : World} {A : Around} {E : Value → Shared → Prop} {s : Shared} {Q : Value → Shared → Prop} {t u : Tok}
theorem add_qk {n : Int} (h0 : 0 ≤ n) (h1 : n < 100) (h : ∀ t' k, Q (.str (tx n 0) t') { s with toks := k }) : wpAny (model prog w) A (binaryOp .Add (.str (qt n) t) (.str (Str.ofString "k") u)) Q E s := by
  have := qt_len h0
  exact add_to (qt_k n) (by omega) (by decide) h
theorem add_txq {n b : Int} (h0 : 0 ≤ n) (h1 : n < 100) (h2 : 0 ≤ b) (h3 : b < 100) (h : ∀ t' k, Q (.str (tx n b) t') { s with toks := k }) : wpAny (model prog w) A (binaryOp .Add (.str (tx n 0) t) (.str (qt b) u)) Q E s := by
  have := qt_len h2
  have := tx_len h0 (Int.le_refl 0)
  exact add_to (tx_qt n b) (by omega) (by omega) h
theorem add_kq {b : Int} (h2 : 0 ≤ b) (h3 : b < 100) (h : ∀ t' k, Q (.str (tx 0 b) t') { s with toks := k }) : wpAny (model prog w) A (binaryOp .Add (.str (Str.ofString "k") t) (.str (qt b) u)) Q E s := by
  have := qt_len h2
  exact add_to (k_qt b) (by decide) (by omega) h
theorem add_qtx {n b : Int} (h0 : 0 ≤ n) (h1 : n < 100) (h2 : 0 ≤ b) (h3 : b < 100) (h : ∀ t' k, Q (.str (tx n b) t') { s with toks := k }) : wpAny (model prog w) A (binaryOp .Add (.str (qt n) t) (.str (tx 0 b) u)) Q E s := by
  have := qt_len h0
  have := tx_len (Int.le_refl 0) h2
  exact add_to (qt_tx0 n b) (by omega) (by omega) h
theorem add_qn {n : Int} (h0 : 0 ≤ n) (h1 : n < 100) (h : ∀ t' k, Q (.str (qt n) t') { s with toks := k }) : wpAny (model prog w) A (binaryOp .Add (.str (qt n) t) (.str (Str.ofString "") u)) Q E s := by
  have := qt_len h0
  exact add_to (qt_nil n) (by omega) (by decide) h
theorem add_257 {n b : Int} (h0 : 0 ≤ n) (h1 : n < 100) (h2 : 0 ≤ b) (h3 : b < 100) (h : ∀ t' k, Q (.str (Str.ofString "257 \"" ++ tx n b) t') { s with toks := k }) : wpAny (model prog w) A (binaryOp .Add (.str (Str.ofString "257 \"") t) (.str (tx n b) u)) Q E s := by
  have := tx_len h0 h2
  exact add_to rfl (by decide) (by omega) h
theorem add_resp {n b : Int} (h0 : 0 ≤ n) (h1 : n < 100) (h2 : 0 ≤ b) (h3 : b < 100) (h : ∀ t' k, Q (.str (resp n b) t') { s with toks := k }) : wpAny (model prog w) A (binaryOp .Add (.str (Str.ofString "257 \"" ++ tx n b) t) (.str (qt (b + 1)) u)) Q E s := by
  have := tx_len h0 h2
  have := qt_len (show 0 ≤ b + 1 by omega)
  have e : (Str.ofString "257 \"").length = 5 := by decide +kernel
  have e2 : (Str.ofString "257 \"" ++ tx n b).length = 5 + (tx n b).length := by rw [Str.length_append, e]
  exact add_to (z := resp n b) rfl (by omega) (by omega) h
theorem len_tx {a b : Int} (ha : 0 ≤ a) (ha' : a < 100) (hb : 0 ≤ b) (hb' : b < 100) (h : Q (.int (a + 1 + b) (s.toks + 1)) { s with toks := s.toks + 1 + 1 }) : wpAny (model prog w) A (call (.builtin "len") [.str (tx a b) t]) Q E s := by
  have e := tx_len ha hb
  refine P.len_str (by omega) ?_
  rw [e]
  exact h
end
theorem str_round (x : Str) : (⟨x.cps.toList.toArray⟩ : Str) = x := str_ext rfl
theorem parse_told (w : World) (mean : ExcName → Option Value) (mg mb : Str → Option Value) (a b : Int) (t0 : Tok) (ha : 0 ≤ a) (ha' : a < 31) (hb : 0 ≤ b) (hb' : b < 31) :
    Con 1 w mean mg mb 46 [.str (resp a b) t0] (fun news news' r => news' = news ∧ ∃ t, r = .str (told a b) t) := by
  have l := resp_len ha hb
  have h := parse_c w mean mg mb (resp a b) (told a b).cps.toList t0 (by omega) ⟨by omega, by omega, by decide, resp_parse ha ha' hb⟩ (resp_pre hb).1 (resp_pre hb).2
  rw [str_round] at h
  exact h
theorem parse_even (w : World) (mean : ExcName → Option Value) (mg mb : Str → Option Value) (a b : Int) (t0 : Tok) (hp : (a.fmod 2 != 0) = false) (ha : 0 ≤ a) (ha' : a < 31) (hb : 0 ≤ b) (hb' : b < 31) :
    Con 1 w mean mg mb 46 [.str (resp a b) t0] (fun news news' r => news' = news ∧ ∃ t, r = .str (tx (a.fdiv 2) b) t) := by
  have h := parse_told w mean mg mb a b t0 ha ha' hb hb'
  rw [show told a b = tx (a.fdiv 2) b from if_pos hp] at h
  exact h
theorem parse_odd (w : World) (mean : ExcName → Option Value) (mg mb : Str → Option Value) (a b : Int) (t0 : Tok) (hp : (a.fmod 2 != 0) = true) (ha : 0 ≤ a) (ha' : a < 31) (hb : 0 ≤ b) (hb' : b < 31) :
    Con 1 w mean mg mb 46 [.str (resp a b) t0] (fun news news' r => news' = news ∧ ∃ t, r = .str (qt (a.fdiv 2)) t) := by
  have h := parse_told w mean mg mb a b t0 ha ha' hb hb'
  rw [show told a b = qt (a.fdiv 2) from if_neg (by rw [hp]; decide)] at h
  exact h
theorem red_facts {n : Int} (h : redB n = true) : Float64.isNaN (Float64.mul (qf n 8) 4618441417868443648) = false ∧ Float64.isInf (Float64.mul (qf n 8) 4618441417868443648) = false ∧ (toInt Float64.truncOf (Float64.mul (qf n 8) 4618441417868443648)).natAbs < 1000
    ∧ (Float64.cmp (rgbT (qf n 8)).1 0 == some .eq) = chE n := by
  unfold redB at h
  simp only [Bool.and_eq_true, Bool.not_eq_true', beq_iff_eq, decide_eq_true_eq] at h
  obtain ⟨⟨⟨h1, h2⟩, h3⟩, h4⟩ := h
  exact ⟨h1, h2, h3, h4⟩
theorem red_at {b : Int} (h0 : 1 ≤ b) (h1 : b < 30) (h2 : b % 2 = 1) : redB b = true := by
  have h := List.all_eq_true.mp red_all (b / 2).toNat (List.mem_range.mpr (by omega))
  rwa [show ((2 * (b / 2).toNat + 1 : Nat) : Int) = b by omega] at h
theorem blue_at {b : Int} (h0 : 0 ≤ b) (h1 : b < 32) : blueB b = true := by
  have h := List.all_eq_true.mp blue_all b.toNat (List.mem_range.mpr (by omega))
  rwa [Int.toNat_of_nonneg h0] at h
theorem less_at {a b : Int} (h0 : 1 ≤ a) (h1 : a < 30) (h2 : a % 2 = 1) (g0 : 1 ≤ b) (g1 : b < 30) (g2 : b % 2 = 1) : lessB a b = true := by
  have h := List.all_eq_true.mp (less_row (a / 2).toNat (by omega)) (b / 2).toNat (List.mem_range.mpr (by omega))
  rwa [show ((2 * (a / 2).toNat + 1 : Nat) : Int) = a by omega, show ((2 * (b / 2).toNat + 1 : Nat) : Int) = b by omega] at h
theorem lessened_lt (w : World) (mean : ExcName → Option Value) (mg mb : Str → Option Value) (a b : Int) (t0 t1 t2 : Tok) (hl : a < b) (ha : 1 ≤ a) (ha' : a < 30) (ha2 : a % 2 = 1) (hb : 1 ≤ b) (hb' : b < 30) (hb2 : b % 2 = 1) :
    ConC 3 w mean mg mb 93 [.str (tx a b) t0, .int a t1, .int b t2] (fun news news' r => ∃ D ta, r = .ref D ∧ news' = (D, tupO [.str (tx (b - a) a) ta, .bool (chO a b)]) :: news ∧ ∀ p ∈ news, p.1 < D) := by
  have h := lessened_c w mean mg mb a b t0 t1 t2 ha ha' hb hb' (less_at ha ha' ha2 hb hb' hb2) (blue_at (by omega) (by omega)) (blue_at (by omega) (by omega))
  simp only [if_pos hl] at h
  exact h
theorem lessened_ge (w : World) (mean : ExcName → Option Value) (mg mb : Str → Option Value) (a b : Int) (t0 t1 t2 : Tok) (hl : ¬ a < b) (ha : 1 ≤ a) (ha' : a < 30) (ha2 : a % 2 = 1) (hb : 1 ≤ b) (hb' : b < 30) (hb2 : b % 2 = 1) :
    ConC 3 w mean mg mb 93 [.str (tx a b) t0, .int a t1, .int b t2] (fun news news' r => ∃ D ta, r = .ref D ∧ news' = (D, tupO [.str (tx (a - b) b) ta, .bool (chO a b)]) :: news ∧ ∀ p ∈ news, p.1 < D) := by
  have h := lessened_c w mean mg mb a b t0 t1 t2 ha ha' hb hb' (less_at ha ha' ha2 hb hb' hb2) (blue_at (by omega) (by omega)) (blue_at (by omega) (by omega))
  simp only [if_neg hl] at h
  exact h
theorem odd_of {a : Int} (h0 : 0 ≤ a) (hp : (a.fmod 2 != 0) = true) : a % 2 = 1 := by
  rw [Int.fmod_eq_emod_of_nonneg _ (by omega)] at hp
  have : ¬ a % 2 = 0 := by simpa using hp
  omega

def TurnPost (Q : Flow → Shared → Prop) (s : Shared) (h₁ : Heap) (L₁ : Addr) (P : Nat → (Str → Option Value) → Prop) (news : List (Addr × Obj)) (n : Nat) (f : Flow) (s₃ : Shared) : Prop :=
  match f with
  | .next | .cont => ∃ n' m' h' tk', s₃ = { s with heap := h', toks := tk' } ∧ n' < n ∧ P n' m' ∧ Fr h₁ L₁ h' m' ∧ News h₁ L₁ h' news
  | .brk => Q .next s₃
  | .ret v => Q (.ret v) s₃
theorem while_C {prog : Program} {w : World} {A : Around} {s : Shared} {h₁ h : Heap} {L₁ : Addr} {m : Str → Option Value} {tk : Nat} {news : List (Addr × Obj)} {Q : Flow → Shared → Prop} {test : Expr} {body orelse : List Stmt} {pos : Pos} {env : Env}
    (P : Nat → (Str → Option Value) → Prop) (n : Nat) (F : Fr h₁ L₁ h m) (N : News h₁ L₁ h news) (h0 : P n m)
    (turn : ∀ n m h tk, P n m → Fr h₁ L₁ h m → News h₁ L₁ h news →
      wpAny (model prog w) A (isTrue test env (eval test env)) (fun b s₂ => if b = true then wpC (model prog w) A (execs body env) (TurnPost Q s h₁ L₁ P news n) s₂
        else wpC (model prog w) A (execs orelse env) (fun f s₃ => Q f s₃) s₂) (fun _ _ => False) { s with heap := h, toks := tk }) :
    wpC (model prog w) A (exec (.While test body orelse pos) env) Q { s with heap := h, toks := tk } := by
  refine wpC_While (codeC_whileLoop (fun n s' => ∃ m h tk, s' = { s with heap := h, toks := tk } ∧ P n m ∧ Fr h₁ L₁ h m ∧ News h₁ L₁ h news) ?_ n ⟨m, h, tk, rfl, h0, F, N⟩)
  rintro n _ ⟨m, h, tk, rfl, hp, F, N⟩
  refine wpAny_mono (turn n m h tk hp F N) (fun b s₂ hb => ?_) fun _ _ x => x
  cases b with
  | false => exact hb
  | true =>
    refine wpC_mono hb fun f s₃ hf => ?_
    cases f with
    | next =>
      obtain ⟨n', m', h', tk', e, l, p, F', N'⟩ := hf
      exact ⟨n', l, m', h', tk', e, p, F', N'⟩
    | cont =>
      obtain ⟨n', m', h', tk', e, l, p, F', N'⟩ := hf
      exact ⟨n', l, m', h', tk', e, p, F', N'⟩
    | brk => exact hf
    | ret v => exact hf
/-- what the run's frame knows at a turn's start, n turns being left at most -/
def RunAt (R : Int × Int) (n : Nat) (m : Str → Option Value) : Prop :=
  ∃ a b g t1 t2, m (Str.ofString "text") = some (.str (tx a b) t1) ∧ m (Str.ofString "sign") = some (.int g t2) ∧ 0 ≤ a ∧ a < 31 ∧ 1 ≤ b ∧ b < 30 ∧ b % 2 = 1 ∧ -1 ≤ g ∧ g ≤ 1 ∧ stein n a b g = some R
theorem sub_len {prog : Program} {w : World} {A : Around} {E : Value → Shared → Prop} {s : Shared} {Q : Value → Shared → Prop} {t u : Tok} {a b : Int} (h : Q (.int b s.toks) { s with toks := s.toks + 1 }) : wpAny (model prog w) A (binaryOp .Sub (.int (a + 1 + b - a) t) (.int 1 u)) Q E s :=
  sub_int (by rw [show a + 1 + b - a - 1 = b by omega]; exact h)
section
local macro_rules | `(tactic| walk_at "no step at all") => `(tactic| fail "none")
local macro_rules | `(tactic| walk_at "binaryOp Mult str int") => `(tactic| (k_here; k_dflt (refine mul_mark (by omega) (by omega) ?_); intro _ _))
local macro_rules | `(tactic| walk_at "binaryOp Add str str") => `(tactic| (k_here; first
  | (with_reducible refine add_qk ?l1 ?l2 ?_; (case l1 => omega); (case l2 => omega); intro _ _)
  | (with_reducible refine add_txq ?l1 ?l2 ?l3 ?l4 ?_; (case l1 => omega); (case l2 => omega); (case l3 => omega); (case l4 => omega); intro _ _)
  | (with_reducible refine add_kq ?l1 ?l2 ?_; (case l1 => omega); (case l2 => omega); intro _ _)
  | (with_reducible refine add_qtx ?l1 ?l2 ?l3 ?l4 ?_; (case l1 => omega); (case l2 => omega); (case l3 => omega); (case l4 => omega); intro _ _)
  | (with_reducible refine add_qn ?l1 ?l2 ?_; (case l1 => omega); (case l2 => omega); intro _ _)
  | (with_reducible refine add_257 ?l1 ?l2 ?l3 ?l4 ?_; (case l1 => omega); (case l2 => omega); (case l3 => omega); (case l4 => omega); intro _ _)
  | (with_reducible refine add_resp ?l1 ?l2 ?l3 ?l4 ?_; (case l1 => omega); (case l2 => omega); (case l3 => omega); (case l4 => omega); intro _ _)))
local macro_rules | `(tactic| walk_at "subscriptTail Name Slice str ref") => `(tactic| ((with_reducible show wpAny _ _ (subscriptTail _ (Expr.Slice none (some _) none _) _ _) _ _ _); (with_reducible rename Fr _ _ _ _ => F'); (with_reducible rename News _ _ _ _ => N'); k_dflt (refine slice_strN_ns (hsz := tx_fits ?l1 ?l2 ?l3 ?l4) (s := ⟨_, _, _, _, _⟩) F' N' ?_); (case l1 => omega); (case l2 => omega); (case l3 => omega); (case l4 => omega); intro _ _ _ _ _))
local macro_rules | `(tactic| walk_at "call builtin:str.index") => `(tactic| (k_here; k_dflt (refine index_tx (by omega) ?_)))
local macro_rules | `(tactic| walk_at "call builtin:len") => `(tactic| (k_here; with_reducible refine len_tx ?l1 ?l2 ?l3 ?l4 ?_; (case l1 => omega); (case l2 => omega); (case l3 => omega); (case l4 => omega)))
local macro_rules | `(tactic| walk_at "binaryOp Sub int int") => `(tactic| (k_here; with_reducible refine sub_len ?_))
local macro_rules | `(tactic| walk_at "call ref") => `(tactic| (k_here; (with_reducible show wpAny _ _ (call (Value.ref 46) _ _) _ _ _); k_dflt (first | refine' con_use (parse_even _ _ _ _ _ _ _ (by assumption) ?c1 ?c2 ?c3 ?c4) ?k1 ?k2 ?k3 ?k4 ?k5 ?k6 ?k7 ?k8 ?_ | refine' con_use (parse_odd _ _ _ _ _ _ _ (by assumption) ?c1 ?c2 ?c3 ?c4) ?k1 ?k2 ?k3 ?k4 ?k5 ?k6 ?k7 ?k8 ?_); (case c1 => omega); (case c2 => omega); (case c3 => omega); (case c4 => omega); walk_at "con_sides"; intro r9 news9 h9 tk9 F9 N9 P9; (obtain ⟨e8, t9, e9⟩ := P9); subst e8; subst e9; (try dsimp only)))
local macro_rules | `(tactic| walk_at "call ref") => `(tactic| (k_here; (with_reducible show wpAny _ _ (call (Value.ref 67) _ _) _ _ _); k_dflt (refine' con_use (rgb_c _ _ _ _ _ _ _ _ ?c1 ?c2 ?c3) ?k1 ?k2 ?k3 ?k4 ?k5 ?k6 ?k7 ?k8 ?_); (case c1 => assumption); (case c2 => assumption); (case c3 => assumption); walk_at "con_sides"; intro r9 news9 h9 tk9 F9 N9 P9; (obtain ⟨D9, ta9, tb9, tc9, e8, e9, l9⟩ := P9); subst e8; subst e9; (try dsimp only)))
theorem run_c (w : World) (mean : ExcName → Option Value) (mg mb : Str → Option Value) (n d : Int) (t0 t1 : Tok) (R : Int × Int) (k : Nat) (h0 : 0 ≤ n) (h1 : n < 31) (h2 : 1 ≤ d) (h3 : d < 30) (h4 : d % 2 = 1) (hR : stein k n d 1 = some R) :
    ConC 4 w mean mg mb 100 [.int n t0, .int d t1] (fun news news' r => ∃ D ta tb, r = .ref D ∧ news' = (D, tupO [.int R.1 ta, .int R.2 tb]) :: news ∧ ∀ p ∈ news, p.1 < D) := by
  unfold ConC; k_fill
  intro dp un gd cn cs a0 ccd cl outer A₀ base h₀ L m s Q news B F X N T hk hdp hun hret
  refine wpC_call ?_
  walk_at "enterC"
  refine wpC_stmt ?_
  k_fold
  walk_at "go"
  rename Fr _ _ _ _ => F1
  rename News _ _ _ _ => N1
  refine wpC_execs_cons (while_C (news := news) (RunAt R) k F1 (cb_drop N1 (fun p hp => by repeat (first | exact hp | refine List.mem_cons_of_mem _ ?_))) ⟨n, d, 1, _, _, rfl, rfl, h0, h1, h2, h3, h4, by omega, by omega, hR⟩ ?_)
  clear F1 N1
  intro j m1 h5 tk5 hJ F5 N5
  obtain ⟨a, b, g, u1, u2, e1, e2, ha, ha', hb, hb', hb2, hg, hg', hS⟩ := hJ
  replace F5 := fr_know F5 (x := Str.ofString "sign") e2
  replace F5 := fr_know F5 (x := Str.ofString "text") ((if_neg (by decide)).trans e1)
  obtain ⟨q0, q1, q2, q3⟩ := half_facts ha ha'
  cases j with
  | zero => cases hS
  | succ j =>
    by_cases hz : a = 0
    · subst hz
      have hc : (Txt.slice (tx 0 b) none (some 1) != Str.ofString "k") = false := by rw [tx_first b (Int.le_refl 0)]; rfl
      rw [stein, if_pos rfl] at hS
      cases hS
      (show wpAny _ _ _ _ _ _)
      k_fold
      walk_at "go"
      refine wpC_execs_nil ?_
      (show wpC _ _ _ _ _)
      refine wpC_of_any ?_
      k_fold
      walk_at "go"
      rename Fr h₀ _ _ _ => kF
      rename News h₀ _ _ _ => kN
      have e0 : 0 + 1 + b - 1 = b := by omega
      rw [e0] at kN
      exact hret _ (_ :: news) _ _ kF (cb_drop kN (fun p hp => by first | exact hp | (rcases List.mem_cons.mp hp with rfl | hp; · exact List.mem_cons_self ..; · refine List.mem_cons_of_mem _ ?_; repeat (first | exact hp | refine List.mem_cons_of_mem _ ?_)))) ⟨_, _, _, rfl, rfl, by assumption⟩
    · have hc : (Txt.slice (tx a b) none (some 1) != Str.ofString "k") = true := by rw [tx_first b ha]; exact decide_eq_true hz
      rw [stein, if_neg hz] at hS
      (show wpAny _ _ _ _ _ _)
      k_fold
      walk_at "go"
      refine wpC_stmt ?_
      k_fold
      walk_at "go"
      refine wpC_stmt ?_
      k_fold
      walk_at "go"
      have r0 := red_at hb hb' hb2
      obtain ⟨r1, r2, r3, r4⟩ := red_facts r0
      cases hp : (a.fmod 2 != 0) with
      | false =>
        have c2 : (tx (a.fdiv 2) b != tx (a.fdiv 2) b) = false := by simp
        have c3 := tx_in (a.fdiv 2) b
        refine wpC_stmt ?_
        k_fold
        walk_at "go"
        refine wpC_stmt ?_
        k_fold
        walk_at "go"
        refine wpC_execs_cons (wpC_If ?_)
        k_fold
        walk_at "go"
        refine wpC_stmt ?_
        k_fold
        walk_at "go"
        refine wpC_execs_nil ?_
        (show wpC _ _ _ _ _)
        refine wpC_of_any ?_
        k_fold
        walk_at "go"
        all_goals
          rw [hp, if_pos rfl] at hS
          rename Fr _ _ _ _ => F6
          rename News _ _ _ _ => N6
        · have q : (Float64.cmp (rgbT (qf b 8)).1 0 == some Ordering.eq) = true := by assumption
          rw [← r4, q] at hS
          exact ⟨j, _, _, _, rfl, Nat.lt_succ_self _, ⟨a.fdiv 2, b, -g, _, _, rfl, rfl, q0, by omega, hb, hb', hb2, by omega, by omega, hS⟩, F6, cb_drop N6 (fun p hp => by repeat (first | exact hp | refine List.mem_cons_of_mem _ ?_))⟩
        · have q : (Float64.cmp (rgbT (qf b 8)).1 0 == some Ordering.eq) = false := by assumption
          rw [← r4, q] at hS
          exact ⟨j, _, _, _, rfl, Nat.lt_succ_self _, ⟨a.fdiv 2, b, g, _, _, rfl, rfl, q0, by omega, hb, hb', hb2, by omega, by omega, hS⟩, F6, cb_drop N6 (fun p hp => by repeat (first | exact hp | refine List.mem_cons_of_mem _ ?_))⟩
      | true =>
        have c2 : (qt (a.fdiv 2) != qt (a.fdiv 2)) = false := by simp
        have c3 := qt_in (a.fdiv 2)
        have ha2 := odd_of ha hp
        refine wpC_stmt ?_
        k_fold
        walk_at "go"
        refine wpC_stmt ?_
        k_fold
        walk_at "go"
        refine wpC_execs_cons (wpC_If ?_)
        k_fold
        walk_at "go"
        refine wpC_execs_cons (wpC_Assign_Tuple (wpC_Call ?_))
        k_fold
        walk_at "go"
        refine wpC_callWith_K (by assumption) (by k_is) ?_
        k_fold
        walk_at "go"
        rw [hp, if_neg (by decide)] at hS
        by_cases hl : a < b
        · rw [if_pos hl] at hS
          refine' conC_use (lessened_lt _ _ _ _ _ _ _ _ _ hl ?c1 ?c2 ?c3 ?c4 ?c5 ?c6) ?k1 ?k2 ?k3 ?k4 ?k5 ?k6 ?k7 ?k8 ?_
          (case c1 => omega)
          (case c2 => omega)
          (case c3 => omega)
          (case c4 => omega)
          (case c5 => omega)
          (case c6 => omega)
          walk_at "con_sides"
          intro r9 news9 h9 tk9 F9 N9 P9
          obtain ⟨D9, t9, e8, e9, l9⟩ := P9
          subst e8; subst e9
          (show wpAny _ _ _ _ _ _)
          k_fold
          walk_at "go"
          refine wpC_execs_nil ?_
          (show wpC _ _ _ _ _)
          refine wpC_of_any ?_
          k_fold
          walk_at "go"
          all_goals
            rename Fr _ _ _ _ => F6
            rename News _ _ _ _ => N6
          · have q : chO a b = true := by assumption
            rw [q] at hS
            exact ⟨j, _, _, _, rfl, Nat.lt_succ_self _, ⟨b - a, a, -g, _, _, rfl, rfl, by omega, by omega, by omega, by omega, by omega, by omega, by omega, hS⟩, F6, cb_drop N6 (fun p hp => by repeat (first | exact hp | refine List.mem_cons_of_mem _ ?_))⟩
          · have q : chO a b = false := by assumption
            rw [q] at hS
            exact ⟨j, _, _, _, rfl, Nat.lt_succ_self _, ⟨b - a, a, g, _, _, rfl, rfl, by omega, by omega, by omega, by omega, by omega, by omega, by omega, hS⟩, F6, cb_drop N6 (fun p hp => by repeat (first | exact hp | refine List.mem_cons_of_mem _ ?_))⟩
        · rw [if_neg hl] at hS
          refine' conC_use (lessened_ge _ _ _ _ _ _ _ _ _ hl ?c1 ?c2 ?c3 ?c4 ?c5 ?c6) ?k1 ?k2 ?k3 ?k4 ?k5 ?k6 ?k7 ?k8 ?_
          (case c1 => omega)
          (case c2 => omega)
          (case c3 => omega)
          (case c4 => omega)
          (case c5 => omega)
          (case c6 => omega)
          walk_at "con_sides"
          intro r9 news9 h9 tk9 F9 N9 P9
          obtain ⟨D9, t9, e8, e9, l9⟩ := P9
          subst e8; subst e9
          (show wpAny _ _ _ _ _ _)
          k_fold
          walk_at "go"
          refine wpC_execs_nil ?_
          (show wpC _ _ _ _ _)
          refine wpC_of_any ?_
          k_fold
          walk_at "go"
          all_goals
            rename Fr _ _ _ _ => F6
            rename News _ _ _ _ => N6
          · have q : chO a b = true := by assumption
            rw [q] at hS
            exact ⟨j, _, _, _, rfl, Nat.lt_succ_self _, ⟨a - b, b, -g, _, _, rfl, rfl, by omega, by omega, by omega, by omega, by omega, by omega, by omega, hS⟩, F6, cb_drop N6 (fun p hp => by repeat (first | exact hp | refine List.mem_cons_of_mem _ ?_))⟩
          · have q : chO a b = false := by assumption
            rw [q] at hS
            exact ⟨j, _, _, _, rfl, Nat.lt_succ_self _, ⟨a - b, b, g, _, _, rfl, rfl, by omega, by omega, by omega, by omega, by omega, by omega, by omega, hS⟩, F6, cb_drop N6 (fun p hp => by repeat (first | exact hp | refine List.mem_cons_of_mem _ ?_))⟩
end

theorem callC_cells {prog : Program} {w : World} {A : Around} {R : Flow → Shared → Prop} {s : Shared} {name : Str} {params : Arguments} {body : List Stmt} {scope : Scope}
    {pm cd doc : Value} {a : Addr} {o : Obj} {args : List Value} {binds : List (Str × Value)}
    (hroom : A.depth < recursionLimit) (ho : s.heap.get? a = some o) (hdata : o.data = .func (Calls.docDef name params body scope pm cd doc)) (hlim : s.heap.NoLimit) (hcd : s.heap.CodeRec cd name)
    (hbind : bindArgs (Calls.docDef name params body scope pm cd doc) ⟨args, []⟩ = pure binds)
    (hkind : ∀ x ∈ binds, scope.names.lookup x.1 = some .local ∨ (scope.names.lookup x.1 = some .cell ∧ ((cellsFrom (s.heap.objs.size + 1) scope.names []).lookup x.1).isSome = true))
    (hnd : ((cellsFrom 0 scope.names []).map (·.1)).Nodup)
    (h : ∀ h₁ tk cells, Fr s.heap s.heap.objs.size h₁ (bindL (envOfC name scope s.heap.objs.size a cd).kindOf binds fun _ => none) → News s.heap s.heap.objs.size h₁ cells →
      CellsAre (bindC (envOfC name scope s.heap.objs.size a cd).kindOf binds fun _ => none) (cellsFrom (s.heap.objs.size + 1) scope.names []) cells →
      wpC (model prog w) (A.deeper (envOfC name scope s.heap.objs.size a cd)) (execs body (envOfC name scope s.heap.objs.size a cd))
        (fun f s' => R (.ret (match f with | .ret v => v | _ => .none)) s') { s with heap := h₁, toks := tk })
    (hco : scope.isCoroutine = false := by rfl) (hgen : scope.isGenerator = false := by rfl) (hk : scope.kind = .function := by rfl) :
    codeC (model prog w) A (.call (.ref a) ⟨args, []⟩) R s := by
  refine codeC_call_function hroom ho hdata hco hgen rfl hcd ?_
  rw [hbind]
  refine wpAny_pure ?_
  refine wpAny_newFunctionEnv_cells hk hkind fun env' he s' x => ?_
  subst he
  refine ⟨hlim.keeps x.toInCall.keep, codeC_func ?_⟩
  obtain ⟨h₁, tk, rfl, _⟩ := x.done
  obtain ⟨cells, NC, Y⟩ := Cl.news (h₀ := s.heap) (Nat.le_refl _) fun n c hm => ⟨x.cell n c (lookup_of_mem_nodup (cellsFrom_names scope.names 0 (s.heap.objs.size + 1) [] [] rfl ▸ hnd) hm), x.above n c hm⟩
  exact h h₁ tk cells ⟨x.toInCall.ns, x.toInCall.keep, x.toInCall.fresh⟩ NC Y

section
variable {M : Model} {A : Around} {s : Shared}
theorem codeC_loopB {c : Code} {R : Flow → Shared → Prop} (ok : okC c = true) (hq : c.quiet = true) (I : Nat → Shared → Prop)
    (turn : ∀ n s, I n s → wpC M (A.under c) (M.den c) (fun fin s' => match fin with | .done f => R f s' | .again c' => (c' = c ∧ ∃ m, m < n ∧ I m s') ∨ (c'.quiet = true ∧ codeC M A c' R s')) s)
    (n : Nat) (h : I n s) : codeC M A c R s := by
  induction n using Nat.strongRecOn generalizing s with
  | ind n ih =>
    refine codeC_of_tree ok (wpC_mono (turn n s h) fun fin s' hf => ?_)
    cases fin with
    | done f => exact hf
    | again c' =>
      rcases hf with ⟨rfl, m, hm, hI⟩ | hf
      · exact ⟨hq, ih m hm hI⟩
      · exact hf
end
section
variable {prog : Program} {w : World} {A : Around} {s : Shared} {R : Flow → Shared → Prop}
theorem codeC_block {stmts : List Stmt} {env : Env} (h : wpC (model prog w) A (execs stmts env) (fun f s' => R f s') s) : codeC (model prog w) A (.block stmts env) R s := by
  refine codeC_of_tree rfl ?_
  show wpC _ A (do return Fin.done (← (execs stmts env).onRaise (fun x => do noteFrame x env; theTreesLotGoes x))) _ s
  exact wpC_bind (wpC_onRaise (wpC_mono h fun f s' h' => wpC_pure h'))
theorem codeC_forLoop {target : Expr} {it : Value} {body orelse : List Stmt} {env : Env} (I : Nat → Shared → Prop)
    (turn : ∀ n s, I n s → wpAny (model prog w) A (pyNext it) (fun r s₁ => match r with
      | none => wpC (model prog w) A (execs orelse env) (fun f s₃ => R f s₃) s₁
      | some v => wpAny (model prog w) A (assign target env v) (fun _ s₂ => wpC (model prog w) A (execs body env) (fun f s₃ => match f with
          | .next | .cont => ∃ m, m < n ∧ I m s₃
          | .brk => R .next s₃
          | .ret v => R (.ret v) s₃) s₂) (fun _ _ => False) s₁) (fun _ _ => False) s)
    (n : Nat) (h : I n s) (ht : ∀ v, letOwnedTupleGo target it v = pure () := by intro _; rfl) : codeC (model prog w) A (.forLoop target it body orelse env) R s := by
  refine codeC_loopB rfl rfl I (fun n s hI => ?_) n h
  show wpC _ A ((forTurn target it body orelse env).onRaise (fun x => do noteFrame x env; theTreesLotGoes x)) _ s
  refine wpC_onRaise ?_
  simp only [forTurn]
  refine wpC_bindA (wpAny_standAt (wpC_bind (wpC_onRaise (wpC_of_any (wpAny_mono (turn n s hI) (fun r s₁ h₁ => ?_) fun _ _ h' => h')))))
  cases r with
  | none => exact wpC_pure (.inr ⟨rfl, codeC_block h₁⟩)
  | some v =>
    refine wpC_bindA (wpAny_of_eq (ht v) ?_)
    refine wpC_bindA (wpAny_mono h₁ (fun _ s₂ h₂ => wpC_bind (wpC_mono h₂ fun f s₃ h₃ => ?_)) fun _ _ h' => h')
    cases f with
    | next => exact wpC_pure (.inl ⟨rfl, h₃⟩)
    | cont => exact wpC_pure (.inl ⟨rfl, h₃⟩)
    | brk => exact wpC_pure h₃
    | ret v => exact wpC_pure h₃
theorem wpC_For {target iter : Expr} {body orelse : List Stmt} {pos : Pos} {env : Env} {Q : Flow → Shared → Prop}
    (h : wpAny (model prog w) A (eval iter env) (fun x s₁ => wpAny (model prog w) A (pyIter x) (fun it s₂ => codeC (model prog w) A (.forLoop target it body orelse env) Q s₂) (fun _ _ => False) s₁) (fun _ _ => False) s)
    (hs : ∀ x, foldedSetIterable iter env x = pure x := by intro _; rfl) :
    wpC (model prog w) A (exec (.For target iter body orelse pos) env) Q s := by
  rw [exec_For]
  refine wpC_bindA (wpAny_standAt (wpC_bindA (wpAny_mono h (fun x s₁ h₁ => ?_) fun _ _ h' => h')))
  refine wpC_bindA (wpAny_of_eq (hs x) (wpC_bindA (wpAny_standAt (wpC_bind ?_))))
  refine wpC_of_any (wpAny_holding (wpAny_mono h₁ (fun it s₂ h₂ => ?_) fun _ _ h' => h'))
  unfold runOwn
  exact wpC_onRaise (wpC_run h₂)
end
theorem slice3_ints {prog : Program} {w : World} {A : Around} {E : Value → Shared → Prop} {s : Shared} {h₀ : Heap} {L l : Addr} {m : Str → Option Value} {news : List (Addr × Obj)} {vs : List Value} {ns : List Int} {vl vu vk : Value} {lo hi st : Option Int} {ops : List Value} {value slice : Expr} {Q : Value → Shared → Prop}
    (F : Fr h₀ L s.heap m) (N : News h₀ L s.heap news) (hl : s.heap.IsList l vs.toArray) (pl : IsPart vl lo) (pu : IsPart vu hi) (pk : IsPart vk st) (h0 : st ≠ some 0) (hI : IntsAre vs ns)
    (h : ∀ D ws ms h', Fr h₀ L h' m → News h₀ L h' ((D, W.listOf (List.toArray ws) 0) :: news) → (∀ p ∈ news, p.1 < D) → IntsAre ws ms → Q (.ref D) { s with heap := h' })
    (hs : subscripted slice false (.ref l) (.ref s.heap.objs.size) = operate ops (getItem (.ref l) (.ref s.heap.objs.size))) (ht : ∀ r, letTemporaryGo value (.ref l) r = pure ()) (hz : vs.toArray.size ≤ sizeLine) :
    wpAny (model prog w) A (subscriptTail value slice (.ref l) (.ref s.heap.objs.size)) Q E { s with heap := s.heap.push { cls := .type "slice", data := .fields #[vl, vu, vk] } } :=
  kmk_slice3_lit F N hl pl pu pk h0 rfl (fun D h' F' N' l1 => h D _ _ h' F' N' l1 (hI.pick lo hi st)) hs ht hz

/-- what a turn of a for over a list leaves -/
def ForPost (Q : Flow → Shared → Prop) (s : Shared) (h₀ : Heap) (L : Addr) (P : (Str → Option Value) → List (Addr × Obj) → Prop) (I : Addr) (o : Obj) (f : Flow) (s₃ : Shared) : Prop :=
  match f with
  | .next | .cont => ∃ m' h' tk' nx, s₃ = { s with heap := h', toks := tk' } ∧ P m' nx ∧ Fr h₀ L h' m' ∧ News h₀ L h' ((I, o) :: nx) ∧ ∀ p ∈ nx, p.1 ≠ I
  | .brk => Q .next s₃
  | .ret v => Q (.ret v) s₃
theorem for_list {prog : Program} {w : World} {A : Around} {s : Shared} {h₀ h : Heap} {L l : Addr} {lo : Obj} {items : Array Value} {m : Str → Option Value} {tk : Nat} {news : List (Addr × Obj)} {Q : Flow → Shared → Prop} {target : Expr} {body : List Stmt} {env : Env}
    (P : (Str → Option Value) → List (Addr × Obj) → Prop) (hh : A.handled = none) (F : Fr h₀ L h m) (N : News h₀ L h news) (h0 : P m news) (hP : ∀ m nx, P m nx → (l, lo) ∈ nx) (hc : lo.cls = .type "list") (hd : ∃ n, lo.data = .seq items n)
    (turn : ∀ v m h tk nx I o, v ∈ items.toList → P m nx → Fr h₀ L h m → News h₀ L h ((I, o) :: nx) → (∀ p ∈ nx, p.1 ≠ I) →
      wpAny (model prog w) A (assign target env v) (fun _ s₂ => wpC (model prog w) A (execs body env) (ForPost Q s h₀ L P I o) s₂) (fun _ _ => False) { s with heap := h, toks := tk })
    (done : ∀ m h tk nx, P m nx → Fr h₀ L h m → News h₀ L h nx → Q .next { s with heap := h, toks := tk })
    (ht : ∀ it v, letOwnedTupleGo target it v = pure () := by intro _ _; rfl) :
    wpAny (model prog w) A (pyIter (.ref l)) (fun it s₂ => codeC (model prog w) A (.forLoop target it body [] env) Q s₂) (fun _ _ => False) { s with heap := h, toks := tk } := by
  have hlist : ∀ {h' nx m'}, P m' nx → News h₀ L h' nx → h'.IsList l items := fun {h' nx m'} hp N' => ⟨lo, (N' _ (hP _ _ hp)).1, hc, hd⟩
  have hl : h.IsList l items := hlist h0 N
  have hlt : l < h.objs.size := by obtain ⟨_, e, _⟩ := hl; exact Heap.lt_size e
  refine wpAny_pyIter_list hl ?_
  have up : ∀ b o, h.get? b = some o → (h.push { cls := .type "list_iterator", data := .fields #[.ref l, .int 0 0] }).get? b = some o := fun b o e => Heap.get?_push_of_some _ e
  have hI₀ : h₀.get? h.objs.size = none := next_is_new F
  have hIL : L ≠ h.objs.size := Nat.ne_of_lt F.ns.lt
  have hlI : l ≠ h.objs.size := Nat.ne_of_lt hlt
  have W := Walks.list (prog := prog) (w := w) (A := A) hh h.objs.size l hlI items
  refine codeC_forLoop (fun k s' => ∃ i m' h' tk' nx o, s' = { s with heap := h', toks := tk' } ∧ k = items.size + 1 - i ∧ i ≤ items.size ∧ P m' nx ∧ Fr h₀ L h' m' ∧ News h₀ L h' ((h.objs.size, o) :: nx) ∧ (∀ p ∈ nx, p.1 ≠ h.objs.size) ∧ h'.IsListIter h.objs.size l i) ?_ (items.size + 1)
    ⟨0, m, _, tk, news, { cls := .type "list_iterator", data := .fields #[.ref l, .int 0 0] }, rfl, rfl, Nat.zero_le _, h0, F.keeps up, fun p hp => ?_, fun p hp => Nat.ne_of_lt (Heap.lt_size (N p hp).1), ⟨_, Heap.get?_push_size _ rfl, rfl, rfl⟩⟩ (fun v => ht _ v)
  · rintro k s' ⟨i, m', h', tk', nx, o, rfl, rfl, hi, hp, F', N', off, hit⟩
    have Nx : News h₀ L h' nx := fun p hp => N' p (List.mem_cons_of_mem _ hp)
    have st : h'.IsListIter h.objs.size l i ∧ h'.IsList l items := ⟨hit, hlist hp Nx⟩
    by_cases hlt' : i < items.size
    · refine W.item i _ _ _ hlt' st fun v h₂ tk₂ hv hst₂ hk₂ => ?_
      obtain ⟨o₂, ho₂, hoc⟩ := id hst₂.1
      have F₂ : Fr h₀ L h₂ m' := LCg.fr_but F' hk₂ hIL hI₀
      have N₂ : News h₀ L h₂ nx := LCg.news_but Nx hk₂ off
      have hv' : v ∈ items.toList := by
        have : items[i]? = some v := hv
        exact List.mem_of_getElem? (by simpa using this)
      have N₃ : News h₀ L h₂ ((h.objs.size, o₂) :: nx) := fun p hp => by
        rcases List.mem_cons.mp hp with rfl | hp
        · exact ⟨ho₂, Ne.symm hIL, hI₀⟩
        · exact N₂ p hp
      refine wpAny_mono (turn v m' h₂ tk₂ nx h.objs.size o₂ hv' hp F₂ N₃ off) (fun _ s₂ hb => wpC_mono hb fun f s₃ hf => ?_) fun _ _ x => x
      have nxt : (∃ m' h' tk' nx, s₃ = { s with heap := h', toks := tk' } ∧ P m' nx ∧ Fr h₀ L h' m' ∧ News h₀ L h' ((h.objs.size, o₂) :: nx) ∧ ∀ p ∈ nx, p.1 ≠ h.objs.size) →
          ∃ m, m < items.size + 1 - i ∧ ∃ i m' h' tk' nx o, s₃ = { s with heap := h', toks := tk' } ∧ m = items.size + 1 - i ∧ i ≤ items.size ∧ P m' nx ∧ Fr h₀ L h' m' ∧ News h₀ L h' ((h.objs.size, o) :: nx) ∧ (∀ p ∈ nx, p.1 ≠ h.objs.size) ∧ h'.IsListIter h.objs.size l i := by
        rintro ⟨m₃, h₃, tk₃, nx₃, rfl, hp₃, F₃, N₃, off₃⟩
        exact ⟨items.size + 1 - (i + 1), by omega, i + 1, m₃, h₃, tk₃, nx₃, o₂, rfl, rfl, hlt', hp₃, F₃, N₃, off₃, ⟨o₂, (N₃ _ List.mem_cons_self).1, hoc⟩⟩
      cases f with
      | next => exact nxt hf
      | cont => exact nxt hf
      | brk => exact hf
      | ret v => exact hf
    · obtain rfl : i = items.size := Nat.le_antisymm hi (Nat.not_lt.mp hlt')
      refine W.done _ _ _ st fun h₂ tk₂ hk₂ => ?_
      exact wpC_execs_nil (done m' h₂ tk₂ nx hp (LCg.fr_but F' hk₂ hIL hI₀) (LCg.news_but Nx hk₂ off))
  · rcases List.mem_cons.mp hp with rfl | hp
    · exact ⟨Heap.get?_push_size _ rfl, Ne.symm hIL, hI₀⟩
    · exact ⟨up _ _ (N p hp).1, (N p hp).2⟩
theorem size_fact {o : Obj} {x : Int} {t : Tok} (d : o.data = .cell (some (.int (3 + 2 * x.fmod 12) t))) : ∃ z tz, o.data = .cell (some (.int z tz)) ∧ 3 ≤ z ∧ z ≤ 25 ∧ z % 2 = 1 := by
  rw [Int.fmod_eq_emod_of_nonneg _ (by omega)] at d
  exact ⟨_, _, d, by omega, by omega, by omega⟩
theorem mod31 (x : Int) : 0 ≤ x.fmod 31 ∧ x.fmod 31 < 31 := by
  rw [Int.fmod_eq_emod_of_nonneg _ (by omega)]
  omega
/-- the law's ledger at a turn's start -/
def LawAt (L l : Addr) (lo oS : Obj) (_ : Str → Option Value) (nx : List (Addr × Obj)) : Prop := ∃ oN x, nx = [(l, lo), (L + 1 + 1, oN), (L + 1, oS)] ∧ oN.data = .cell x
theorem for_law {prog : Program} {w : World} {A : Around} {s : Shared} {h₀ h : Heap} {L l : Addr} {a b : Int} {ta tb : Tok} {oN oS : Obj} {x : Option Value} {m : Str → Option Value} {tk : Nat} {news : List (Addr × Obj)} {Q : Flow → Shared → Prop} {target : Expr} {body : List Stmt} {env : Env}
    (hh : A.handled = none) (F : Fr h₀ L h m) (N : News h₀ L h news) (m1 : (l, W.listOf #[.int a ta, .int b tb] 0) ∈ news) (m2 : (L + 1 + 1, oN) ∈ news) (m3 : (L + 1, oS) ∈ news) (dN : oN.data = .cell x) (ra : 0 ≤ a ∧ a < 31) (rb : 0 ≤ b ∧ b < 31)
    (turn : ∀ n t m h tk oN x I o, 0 ≤ n → n < 31 → oN.data = .cell x → Fr h₀ L h m → News h₀ L h [(I, o), (l, W.listOf #[.int a ta, .int b tb] 0), (L + 1 + 1, oN), (L + 1, oS)] → (@Ne Nat l I ∧ @Ne Nat (L + 1 + 1) I ∧ @Ne Nat (L + 1) I) →
      wpAny (model prog w) A (assign target env (.int n t)) (fun _ s₂ => wpC (model prog w) A (execs body env) (ForPost Q s h₀ L (LawAt L l (W.listOf #[.int a ta, .int b tb] 0) oS) I o) s₂) (fun _ _ => False) { s with heap := h, toks := tk })
    (done : ∀ m h tk nx, Fr h₀ L h m → News h₀ L h nx → Q .next { s with heap := h, toks := tk })
    (ht : ∀ it v, letOwnedTupleGo target it v = pure () := by intro _ _; rfl) :
    wpAny (model prog w) A (pyIter (.ref l)) (fun it s₂ => codeC (model prog w) A (.forLoop target it body [] env) Q s₂) (fun _ _ => False) { s with heap := h, toks := tk } := by
  refine for_list (lo := W.listOf #[.int a ta, .int b tb] 0) (items := #[.int a ta, .int b tb]) (LawAt L l (W.listOf #[.int a ta, .int b tb] 0) oS) hh F (cb_drop N (fun p hp => by
    rcases List.mem_cons.mp hp with rfl | hp
    · exact m1
    · rcases List.mem_cons.mp hp with rfl | hp
      · exact m2
      · rcases List.mem_cons.mp hp with rfl | hp
        · exact m3
        · cases hp)) ⟨oN, x, rfl, dN⟩ ?_ rfl ⟨_, rfl⟩ ?_ (fun m h tk nx _ F N => done m h tk nx F N) ht
  · rintro m nx ⟨oN, x, rfl, _⟩
    exact List.mem_cons_self ..
  · rintro v m h tk nx I o hv ⟨oN, x, rfl, dN⟩ F N off
    have o1 : l ≠ I ∧ L + 1 + 1 ≠ I ∧ L + 1 ≠ I := ⟨off _ (List.mem_cons_self ..), off _ (List.mem_cons_of_mem _ (List.mem_cons_self ..)), off _ (List.mem_cons_of_mem _ (List.mem_cons_of_mem _ (List.mem_cons_self ..)))⟩
    rcases List.mem_cons.mp hv with rfl | hv
    · exact turn a ta m h tk oN x I o ra.1 ra.2 dN F N o1
    · rcases List.mem_cons.mp hv with rfl | hv
      · exact turn b tb m h tk oN x I o rb.1 rb.2 dN F N o1
      · cases hv
theorem law_next {Q : Flow → Shared → Prop} {s : Shared} {h₀ h : Heap} {L I l : Addr} {lo oS oN o : Obj} {x : Option Value} {m : Str → Option Value} {tk : Nat} (d : oN.data = .cell x) (F : Fr h₀ L h m) (N : News h₀ L h [(I, o), (l, lo), (L + 1 + 1, oN), (L + 1, oS)])
    (o1 : @Ne Nat l I ∧ @Ne Nat (L + 1 + 1) I ∧ @Ne Nat (L + 1) I) : ForPost Q s h₀ L (LawAt L l lo oS) I o .next { s with heap := h, toks := tk } :=
  ⟨m, h, tk, _, rfl, ⟨oN, x, rfl, d⟩, F, N, fun p hp => by
    rcases List.mem_cons.mp hp with rfl | hp
    · exact o1.1
    · rcases List.mem_cons.mp hp with rfl | hp
      · exact o1.2.1
      · rcases List.mem_cons.mp hp with rfl | hp
        · exact o1.2.2
        · cases hp⟩

/-- the parts that n and k share -/
def shares (n k : Int) : List Int := (rangeKs 1 k.toNat).filter fun x => decide (k.fmod x = 0) && decide (n.fmod x = 0)
def finB (n k : Int) : Bool :=
  match stein 40 n k 1 with
  | some (r, g) => (shares n k).contains r && (shares n k).all (fun x => decide (x ≤ r)) && decide ((symIt n k 40).2.1 ≤ 1) && decide ((if r = 1 then g else 0) = (symIt n k 40).1)
  | none => false
theorem fin_a : ((List.range 31).all fun n => finB (n : Nat) 3) = true := by decide +kernel
theorem fin_b : ((List.range 31).all fun n => finB (n : Nat) 5) = true := by decide +kernel
theorem fin_c : ((List.range 31).all fun n => finB (n : Nat) 7) = true := by decide +kernel
theorem fin_d : ((List.range 31).all fun n => finB (n : Nat) 9) = true := by decide +kernel
theorem fin_e : ((List.range 31).all fun n => finB (n : Nat) 11) = true := by decide +kernel
theorem fin_f : ((List.range 31).all fun n => finB (n : Nat) 13) = true := by decide +kernel
theorem fin_g : ((List.range 31).all fun n => finB (n : Nat) 15) = true := by decide +kernel
theorem fin_h : ((List.range 31).all fun n => finB (n : Nat) 17) = true := by decide +kernel
theorem fin_i : ((List.range 31).all fun n => finB (n : Nat) 19) = true := by decide +kernel
theorem fin_j : ((List.range 31).all fun n => finB (n : Nat) 21) = true := by decide +kernel
theorem fin_k : ((List.range 31).all fun n => finB (n : Nat) 23) = true := by decide +kernel
theorem fin_l : ((List.range 31).all fun n => finB (n : Nat) 25) = true := by decide +kernel
theorem fin_row : ∀ i : Nat, i < 12 → ((List.range 31).all fun n => finB (n : Nat) ((3 + 2 * i : Nat) : Int)) = true
  | 0, _ => fin_a
  | 1, _ => fin_b
  | 2, _ => fin_c
  | 3, _ => fin_d
  | 4, _ => fin_e
  | 5, _ => fin_f
  | 6, _ => fin_g
  | 7, _ => fin_h
  | 8, _ => fin_i
  | 9, _ => fin_j
  | 10, _ => fin_k
  | 11, _ => fin_l
  | n + 12, h => absurd h (by omega)
theorem fin_at {n k : Int} (h0 : 0 ≤ n) (h1 : n < 31) (h2 : 3 ≤ k) (h3 : k ≤ 25) (h4 : k % 2 = 1) :
    ∃ r g, stein 40 n k 1 = some (r, g) ∧ r ∈ shares n k ∧ (∀ x ∈ shares n k, x ≤ r) ∧ (symIt n k 40).2.1 ≤ 1 ∧ (if r = 1 then g else 0) = (symIt n k 40).1 := by
  have h := List.all_eq_true.mp (fin_row ((k - 3) / 2).toNat (by omega)) n.toNat (List.mem_range.mpr (by omega))
  rw [show ((3 + 2 * ((k - 3) / 2).toNat : Nat) : Int) = k by omega, Int.toNat_of_nonneg h0] at h
  unfold finB at h
  split at h
  · rename_i r g e
    simp only [Bool.and_eq_true, decide_eq_true_eq] at h
    obtain ⟨⟨⟨a, b⟩, c⟩, d⟩ := h
    exact ⟨r, g, e, by simpa using a, fun x hx => by simpa using List.all_eq_true.mp b x hx, c, d⟩
  · cases h
theorem shares_fold (n k : Int) : List.foldl (fun l' k' => if k.fmod k' = 0 ∧ n.fmod k' = 0 then l' ++ [k'] else if k.fmod k' = 0 ∧ ¬n.fmod k' = 0 then l' else l') [] (rangeKs 1 (k + 1 - 1).toNat) = shares n k := by
  unfold shares
  rw [show k + 1 - 1 = k by omega]
  have h : ∀ (l a : List Int), List.foldl (fun l' k' => if k.fmod k' = 0 ∧ n.fmod k' = 0 then l' ++ [k'] else if k.fmod k' = 0 ∧ ¬n.fmod k' = 0 then l' else l') a l = a ++ l.filter fun x => decide (k.fmod x = 0) && decide (n.fmod x = 0) := by
    intro l
    induction l with
    | nil => intro a; simp
    | cons x l ih =>
      intro a
      rw [List.foldl_cons, ih]
      by_cases h1 : k.fmod x = 0
      · by_cases h2 : n.fmod x = 0
        · simp [h1, h2]
        · simp [h1, h2]
      · simp [h1]
  rw [h, List.nil_append]

section
local macro_rules | `(tactic| walk_at "subscriptTail Name Slice ref ref") => `(tactic| (k_here; k_dflt (refine' kmk_slice_ints ?F ?N ?l ?p ?q ?i ?m ?c ?_ ?s ?t ?z; (case F => k_asm); (case N => k_asm); (case l => kmk_list); (case p => kmk_part); (case q => kmk_part); (case i => l_ints); (case m => kmk_nums); (case c => kmk_len); (case s => with_unfolding_all rfl); (case t => kmk_pure); (case z => kmk_size)); intro D' ws' h' F' N' l1 hI' hC' hL'; (try simp only [Int.reduceNeg, Int.neg_neg, Int.reduceToNat] at hI' hC' hL'); (try k_lt l1); (try k_sweep)))
local macro_rules | `(tactic| walk_at "subscriptTail") => `(tactic| (k_here; (with_reducible show wpAny _ _ (subscriptTail (PySem.Expr.List _ _) (PySem.Expr.Slice (some _) none none _) (Value.ref _) (Value.ref _)) _ _ _); k_dflt (refine kba_turn (value' := PySem.Expr.Name (PySem.Str.ofString "_") ⟨0, 0, 0, 0⟩) (fun _ => rfl) ?_); k_dflt (refine' kmk_slice_ints (ns := [6, 14, 19]) ?yF ?yN ?yl ?yp ?yq ?yi ?ym ?yc ?_ ?ys ?yt ?yz; (case yF => k_asm); (case yN => k_asm); (case yl => kmk_list); (case yp => exact IsPart.int _ _); (case yq => exact IsPart.none); (case yi => exact .cons _ _ (.cons _ _ (.cons _ _ .nil))); (case ym => exact kmk_from (.cons _ _ (.cons _ _ (.cons _ _ .nil))) (Int.natCast_nonneg _)); (case yc => exact List.length_drop ..); (case ys => with_unfolding_all rfl); (case yt => kmk_pure); (case yz => exact Nat.le_of_ble_eq_true rfl)); intro D' ws' h' F' N' l1 hI' hC' hL'; (try k_lt l1)))
local macro_rules | `(tactic| walk_at "subscriptTail Name Slice ref ref") => `(tactic| (k_here; (with_reducible show wpAny _ _ (subscriptTail _ (PySem.Expr.Slice (some _) none (some _) _) (Value.ref _) (Value.ref _)) _ _ _); k_dflt (refine' slice3_ints ?wF ?wN ?wl ?wp ?wq ?wk ?w0 ?wi ?_ ?ws ?wt ?wz; (case wF => k_asm); (case wN => k_asm); (case wl => kmk_list); (case wp => exact IsPart.int _ _); (case wq => exact IsPart.none); (case wk => exact IsPart.int _ _); (case w0 => decide); (case wi => l_ints); (case ws => with_unfolding_all rfl); (case wt => kmk_pure); (case wz => kmk_size)); intro D' ws' ms' h' F' N' l1 hI'; (try k_lt l1)))
local macro_rules | `(tactic| walk_at "pyIter ref") => `(tactic| (k_here; refine held_in ?_))
local macro_rules | `(tactic| walk_at "mem_news") => `(tactic| repeat (first | exact List.mem_cons_self .. | refine List.mem_cons_of_mem _ ?_))
local macro_rules | `(tactic| walk_at "call ref") => `(tactic| (k_here; (with_reducible show wpAny _ _ (call (Value.ref 105) _ _) _ _ _); k_dflt (refine' con_use (symbol_c _ _ _ _ _ _ _ _ ?c1 ?c2 ?c3 ?c4 (by assumption)) ?k1 ?k2 ?k3 ?k4 ?k5 ?k6 ?k7 ?k8 ?_); (case c1 => omega); (case c2 => omega); (case c3 => omega); (case c4 => omega); walk_at "con_sides"; intro r9 news9 h9 tk9 F9 N9 P9; (obtain ⟨e8, t9, e9⟩ := P9); subst e8; subst e9; (try dsimp only)))
local macro_rules | `(tactic| walk_at "call builtin:max") => `(tactic| (k_here; refine held_in ?_))
local macro_rules | `(tactic| lcg_off) => `(tactic| (simp only [LCg.Off3, and_true]; assumption))
theorem law_holds : PySem.Challenge.rw_wf0019_01.Holds := by
  refine hd ?_
  k_fill
  intro w s₀ s₁ mg mb G Y fa o pm cd doc dV kV ho hd' hcd hD hmg hg args vals as hpre hlay hrd hwl hlo
  have KX := kIn_of Y
  have X := (Ground.X G).1
  have V := (Ground.X G).2
  refine Ground.open G ?_
  intro T B D TE TW
  obtain ⟨_, _, M⟩ := bmod_of_top T
  obtain ⟨_, _, he, B0⟩ := based_of_top T rfl hmg ho hd'
  have he' : cd = _ := he
  subst he'
  clear he
  have TA := at_of_top T
  clear hmg
  wrow_args hpre hlay hrd hwl hlo
  refine ⟨?_, ?_⟩
  · refine ⟨.inl ⟨_, _, [], rfl, raisesW_false (by wrow_none_raised), by (first | w_reads | exact readsW_of_reads (.bool _)), postW_of (by wrow_shape) (by wtm_val) (by str_meet; first | done | w_fin), unshared_nil⟩, .of_keep fun _ _ e => e, rfl, .of_eq hg⟩
  · refine wpC_call ?_
    have K0 := below_caller (Top.heap T)
    have he := Dflts.none hD rfl
    subst he
    have he := Dflts.noKw hD
    subst he
    refine callC_cells (by decide) ho (fd_plain hd') (Top.nolimit T) hcd rfl (kinds_of (by kinds_ok)) (by decide) fun h₁ tk₁ cells F N0 X0 => ?_
    cells_open X0
    clear hd' TA
    k_drop
    (try dsimp only)
    refine wpC_stmt ?_
    k_fold
    walk_at "go"
    refine wpC_stmt ?_
    k_fold
    walk_at "go"
    refine wpC_stmt ?_
    k_fold
    walk_at "go"
    refine wpC_execs_cons (wpC_For ?_)
    k_fold
    walk_at "go"
    refine held_out ?_
    (show wpAny _ _ _ _ _ _)
    rename Fr _ _ _ _ => F1
    rename News _ _ _ _ => N1
    rename (@LT.lt Nat _ _ _ ∧ _) => lA
    have lq : Held (@Ne Nat (s₁.heap.objs.size + 1 + 1) _ ∧ @Ne Nat (s₁.heap.objs.size + 1) _) := held_out ⟨Nat.ne_of_lt lA.2.2.2.2.2.2.2.1, Nat.ne_of_lt lA.2.2.2.2.2.2.2.2⟩
    clear lA
    rename Obj.data _ = Data.cell (some (Value.int _ _)) => dS
    obtain ⟨z, tz, dz, z0, z1, z2⟩ := size_fact dS
    clear dS
    refine' for_law rfl F1 N1 ?m1 ?m2 ?m3 ?dN (mod31 _) (mod31 _) ?_ ?_
    (case m1 => walk_at "mem_news")
    (case m2 => walk_at "mem_news")
    (case m3 => walk_at "mem_news")
    (case dN => assumption)
    · clear F1 N1
      repeat (with_reducible rename (@LT.lt Nat _ _ _ ∧ _) => z9; clear z9)
      repeat (with_reducible rename (@Ne Addr _ _ ∧ _) => z9; clear z9)
      repeat (with_reducible rename IntsAre _ _ => z9; clear z9)
      repeat (with_reducible rename List.length _ = _ => z9; clear z9)
      repeat (with_reducible rename List.length _ ≤ _ => z9; clear z9)
      replace lq := held_in lq
      intro n tn m h tk oN x I o n0 n1 dN F2 N2 o1
      (show wpAny _ _ _ _ _ _)
      k_fold
      walk_at "go"
      obtain ⟨r, g, eR, r1, r2, r3, r4⟩ := fin_at n0 n1 z0 z1 z2
      refine wpC_execs_cons (wpC_Assign_Tuple (wpC_Call ?_))
      k_fold
      walk_at "go"
      refine wpC_callWith_K (by assumption) (by k_is) ?_
      k_fold
      walk_at "go"
      refine' conC_use (run_c _ _ _ _ n z _ _ (r, g) 40 n0 n1 ?c1 ?c2 z2 eR) ?k1 ?k2 ?k3 ?k4 ?k5 ?k6 ?k7 ?k8 ?_
      (case c1 => omega)
      (case c2 => omega)
      walk_at "con_sides"
      intro r9 news9 h9 tk9 F9 N9 P9
      obtain ⟨D9, ta9, tb9, e8, e9, l9⟩ := P9
      subst e8; subst e9
      (show wpAny _ _ _ _ _ _)
      k_fold
      walk_at "go"
      refine wpC_stmt ?_
      k_fold
      walk_at "go"
      refine held_out ?_
      rename IntsAre _ (List.foldl _ _ _) => hI9
      rw [shares_fold] at hI9
      rename Fr _ _ _ _ => F8
      rename News _ _ _ _ => N8
      refine max_list_N rfl F8 N8 (N8.isList (.head _)) hI9 (List.length_pos_of_mem r1) ?_
      intro h10 M t10 tk10 F10 N10 hM hM2
      obtain rfl : M = r := Int.le_antisymm (r2 _ hM) (hM2 _ r1)
      clear F8 N8 hM hM2 hI9
      (show wpAny _ _ _ _ _ _)
      k_fold
      walk_at "go"
      · exact absurd rfl (by assumption)
      · refine wpC_stmt ?_
        k_fold
        walk_at "go"
        · exact absurd ((if_pos (by assumption)).symm.trans r4) (by assumption)
        · rename News _ _ _ _ => N12
          rename Fr _ _ _ _ => F12
          exact wpC_execs_nil (law_next (by assumption) F12 (news_drop (news_drop N12)) o1)
        · exact absurd ((if_neg (by assumption)).symm.trans r4) (by assumption)
        · rename News _ _ _ _ => N12
          rename Fr _ _ _ _ => F12
          exact wpC_execs_nil (law_next (by assumption) F12 (news_drop (news_drop N12)) o1)
    · clear F1 N1
      intro m h tk nx F2 N2
      (show wpC _ _ _ _ _)
      refine wpC_of_any ?_
      k_fold
      walk_at "go"
      (try dsimp only)
      exact ⟨.inl ⟨_, _, [], rfl, raisesW_false (by wrow_none_raised), by (first | w_reads | exact readsW_of_reads (.bool _)), postW_of (by wrow_shape) (by wtm_val) (by str_meet; first | done | w_fin), unshared_nil⟩, .of_keep F2.keep, rfl, .of_eq hg⟩
end

end Mine
theorem PySem.Challenge.cw_wf0019_01_holds : PySem.Challenge.rw_wf0019_01.Holds :=
  Mine.law_holds
