import PyProof.Rows.All
import Wide.All
import OpenK.AllK
import Wide.FinOn
import Lean
import PySem.Challenge.RW_id0001_01
open PySem PySem.W PySem.Calls PyProof.Rows
set_option Elab.async false
set_option maxRecDepth 100000
set_option maxHeartbeats 8000000
set_option compiler.extract_closed false
namespace Mine
/-- no decoder that holds an argument stands on the stack: what a bytearray asks of its stack ahead of a resize -/
def cleanC (c : Code) : Bool := match c with
  | .builtin id _ => !Builtin.Bytes.decodersThatHold.contains id
  | _ => true
def Clean (l : List (Code × Pos)) : Prop := ∀ x ∈ l, cleanC x.1 = true
def wpS {α : Type} (M : Model) (A : Around) (t : Sem α) (Q : α → Shared → Prop) (E : Value → Shared → Prop) (s : Shared) : Prop :=
  ∀ Γ p, Γ.In A → cleanC Γ.code = true → Clean Γ.below → Sem.wp M Γ t (fun a _ s' => Q a s') (fun e _ s' => E e s') p s
def codeS (M : Model) (A : Around) (c : Code) (R : Result → Shared → Prop) (s : Shared) : Prop :=
  ∀ Γ p, Γ.code = c → Γ.Below A → Clean Γ.below → wpCode M Γ R p s
section
variable {α β : Type} {M : Model} {A : Around} {E : Value → Shared → Prop} {s : Shared}
theorem wpS_of {t : Sem α} {Q : α → Shared → Prop} (h : wpAny M A t Q E s) : wpS M A t Q E s := fun Γ p hΓ _ _ => h Γ p hΓ
theorem wpS_mono {t : Sem α} {Q Q' : α → Shared → Prop} {E' : Value → Shared → Prop} (h : wpS M A t Q E s) (hQ : ∀ a s, Q a s → Q' a s) (hE : ∀ e s, E e s → E' e s) : wpS M A t Q' E' s :=
  fun Γ p hΓ hc hb => Sem.wp_mono M Γ t (fun a _ s => hQ a s) (fun e _ s => hE e s) p s (h Γ p hΓ hc hb)
theorem wpS_pure {a : α} {Q : α → Shared → Prop} (h : Q a s) : wpS M A (pure a) Q E s := fun _ _ _ _ _ => h
theorem wpS_bind {m : Sem α} {f : α → Sem β} {Q : β → Shared → Prop} (h : wpS M A m (fun a s' => wpS M A (f a) Q E s') E s) : wpS M A (m >>= f) Q E s := fun Γ p hΓ hc hb => by
  rw [Sem.wp_bind']
  exact Sem.wp_mono M Γ m (fun a p' s' h' => h' Γ p' hΓ hc hb) (fun _ _ _ h' => h') p s (h Γ p hΓ hc hb)
/-- a bind whose first part needs nothing of the stack -/
theorem wpS_bindA {m : Sem α} {f : α → Sem β} {Q : β → Shared → Prop} (h : wpAny M A m (fun a s' => wpS M A (f a) Q E s') E s) : wpS M A (m >>= f) Q E s := wpS_bind (wpS_of h)
/-- a bind whose first part alone asks the stack -/
theorem wpS_bindB {m : Sem α} {f : α → Sem β} {Q : β → Shared → Prop} (h : wpS M A m (fun a s' => wpAny M A (f a) Q E s') E s) : wpS M A (m >>= f) Q E s := wpS_bind (wpS_mono h (fun _ _ x => wpS_of x) fun _ _ x => x)
theorem wpS_holding {vs : List Value} {m : Sem α} {Q : α → Shared → Prop} (h : wpS M A m Q E s) : wpS M A (holding vs m) Q E s := fun Γ p hΓ hc hb => by
  rw [Sem.wp_holding]; exact h Γ p hΓ hc hb
theorem wpS_onRaise {m : Sem α} {k : Value → Sem Unit} {Q : α → Shared → Prop} (h : wpS M A m Q (fun e s' => wpAny M A (k e) (fun _ s'' => E e s'') E s') s) : wpS M A (m.onRaise k) Q E s := fun Γ p hΓ hc hb => by
  rw [Sem.wp_onRaise]
  exact Sem.wp_mono M Γ m (fun _ _ _ h' => h') (fun e p' s' h' => h' Γ p' hΓ) p s (h Γ p hΓ hc hb)
theorem wpS_standAt {pos : Pos} {Q : Unit → Shared → Prop} (h : Q () s) : wpS M A (standAt pos) Q E s := fun _ _ _ _ _ => h
theorem wpS_ite {c : Prop} [Decidable c] {a b : Sem α} {Q : α → Shared → Prop} (h : if c then wpS M A a Q E s else wpS M A b Q E s) : wpS M A (if c then a else b) Q E s := by split <;> simp_all
theorem cleanEnter {Γ : Ctx} {c : Code} {h : Option Value} {p : Pos} (hc : cleanC Γ.code = true) (hb : Clean Γ.below) : Clean (Γ.enter c h p).below := by
  intro x hx
  rcases List.mem_cons.mp (show x ∈ (Γ.code, p) :: Γ.below from hx) with rfl | hx
  · exact hc
  · exact hb x hx
theorem wpS_runValue {c : Code} {Q : Value → Shared → Prop} (h : codeS M A c (fun r s' => match r with | .ok (.ret v) => Q v s' | .ok _ => False | .error e => E e s') s) : wpS M A (runValue c) Q E s :=
  fun Γ p hΓ hc hb => by rw [Sem.wp_runValue]; exact h _ p rfl (hΓ.enter c none p (by intro x; cases x)) (cleanEnter hc hb)
theorem wpS_call {f : Value} {pos : List Value} {kw : List (Str × Value)} {Q : Value → Shared → Prop} (h : codeS M A (.call f ⟨pos, kw⟩) (fun r s' => match r with | .ok (.ret v) => Q v s' | .ok _ => False | .error e => E e s') s) : wpS M A (call f pos kw) Q E s := wpS_runValue h
theorem wpS_keep {vs : List Value} {m : Sem α} {Q : α → Shared → Prop} (h : wpS M A m Q E s) : wpS M A (m.keep vs) Q E s := fun Γ p hΓ hc hb => by
  rw [Sem.wp_keep]; exact h Γ p hΓ hc hb
theorem codeS_mono {c : Code} {R R' : Result → Shared → Prop} (h : codeS M A c R s) (hR : ∀ r s, R r s → R' r s) : codeS M A c R' s := fun Γ p hc hΓ hb => wpCode_mono hR (h Γ p hc hΓ hb)
theorem codeS_of {c : Code} {R : Result → Shared → Prop} (h : codeAny M A c R s) : codeS M A c R s := fun Γ p hc hΓ _ => h Γ p hc hΓ
theorem codeS_of_tree {c : Code} {R : Result → Shared → Prop} (hcl : cleanC c = true)
    (h : wpS M (A.under c) (M.den c) (fun fin s' => match fin with | .done f => R (.ok f) s' | .again c' => c'.quiet = true ∧ codeS M A c' R s') (fun e s' => R (.error e) s') s) : codeS M A c R s := fun Γ p hc hΓ hb => by
  rw [wpCode_iff_wp, hc]
  refine Sem.wp_mono M Γ _ (fun fin p' s' h' => ?_) (fun _ _ _ h' => h') p s (h Γ p (hc ▸ hΓ.in) (hc ▸ hcl) hb)
  cases fin with
  | done f => exact h'
  | again c' => exact ⟨h'.1, h'.2 (Γ.goto c') p' rfl (hΓ.goto c') hb⟩
end
theorem any_clean {f : Code × Pos → Bool} (hf : ∀ c p, c.isGuard = false → cleanC c = true → f (c, p) = false) : ∀ {l : List (Code × Pos)}, guardsOf l = [] → Clean l → l.any f = false
  | [], _, _ => rfl
  | (c, p) :: l, hg, hc => by
    rw [guardsOf_cons] at hg
    obtain ⟨h1, h2⟩ := List.append_eq_nil_iff.mp hg
    have h3 : c.isGuard = false := by
      cases h : c.isGuard with
      | false => rfl
      | true => simp [Code.guards, h] at h1
    rw [List.any_cons, hf c p h3 (hc _ (.head _)), any_clean hf h2 fun x hx => hc x (.tail _ hx)]
    rfl
theorem wpS_stackAny {M : Model} {A : Around} {E : Value → Shared → Prop} {s : Shared} {f : Code × Pos → Bool} {Q : Bool → Shared → Prop} (hg : A.guards = some []) (hf : ∀ c p, c.isGuard = false → cleanC c = true → f (c, p) = false) (h : Q false s) :
    wpS M A (do return (← stack).any f) Q E s := fun Γ p hΓ hc hb => by
  show Q (((Γ.code, p) :: Γ.below).any f) s
  rw [any_clean hf (by rw [guardsOf_cons]; exact hΓ.2.2.2.1 [] hg) fun x hx => by
    rcases List.mem_cons.mp hx with rfl | hx
    · exact hc
    · exact hb x hx]
  exact h
theorem wpS_exported {M : Model} {A : Around} {E : Value → Shared → Prop} {s : Shared} {a : Addr} {Q : Bool → Shared → Prop} (hg : A.guards = some []) (h : Q false s) : wpS M A (Builtin.Bytes.exported (.ref a)) Q E s := by
  refine wpS_stackAny hg (fun c p h1 h2 => ?_) h
  cases c with
  | builtin id args =>
    have g : guardIds.contains id = false := h1
    have d : (!Builtin.Bytes.decodersThatHold.contains id) = true := h2
    have d' : Builtin.Bytes.decodersThatHold.contains id = false := by simpa using d
    split
    · rename_i e; cases e; exact absurd g (by decide +kernel)
    · rename_i e; cases e; exact absurd g (by decide +kernel)
    · rename_i e; cases e; exact absurd g (by decide +kernel)
    · rename_i e; cases e; exact absurd g (by decide +kernel)
    · rename_i e; cases e; exact absurd g (by decide +kernel)
    · rename_i e
      cases e
      rw [d', Bool.and_false]
    · rfl
  | _ => rfl
/-- the caller of a claim: nothing stands below it -/
theorem caller_clean : cleanC (.builtin "claim.caller" {}) = true := by decide +kernel
theorem wp_of_wpS_done {M : Model} {t : Sem Fin} {R : Result → Shared → Prop} {s : Shared}
    (h : wpS M callerA t (fun fin s' => ∃ f, fin = .done f ∧ R (.ok f) s') (fun e s' => R (.error e) s') s) (p : Pos) :
    Sem.wp M ⟨.builtin "claim.caller" {}, none, none, [], none⟩ t (Sem.finPost M ⟨.builtin "claim.caller" {}, none, none, [], none⟩ R) (fun e _ s' => R (.error e) s') p s := by
  refine Sem.wp_mono M _ t (fun fin p' s' h' => ?_) (fun _ _ _ h' => h') p s (h _ p caller_in caller_clean (fun _ hx => nomatch hx))
  obtain ⟨f, rfl, hf⟩ := h'
  exact hf
theorem thread_endsS {prog : Program} {w : World} {t : Sem Fin} {s : Shared} {R : Result → Shared → Prop} (hreg : s.asleep)
    (h : wpS (model prog w) callerA t (fun fin s' => ∃ f, fin = .done f ∧ (R (.ok f) s' ∧ leftWithCleanup s'.gens = false)) (fun e s' => R (.error e) s' ∧ leftWithCleanup s'.gens = false) s) :
    ∃ n r s' s'', runN (denote table) prog w n s ⟨t, .builtin "claim.caller" {}, default, []⟩ = .halted (outcomeOf r) s' ∧
      schedN (denote table) prog w n (.single s ⟨t, .builtin "claim.caller" {}, default, []⟩) = .halted (outcomeOf r) s' ∧ s'.forget = s''.forget ∧ R r s'' := by
  obtain ⟨n, r, s₁, s₂, hs, hn, hfo, hR⟩ := wp_halts_full (M := model prog w) (R := R) hreg (wp_of_wpS_done (R := fun r s' => R r s' ∧ leftWithCleanup s'.gens = false) h default)
  exact ⟨n, r, s₂, s₁, hn, hs, hfo, hR⟩
theorem callFromS {c : ClaimW} {tree : List Value → Sem Fin} {w : World} {s : Shared} {free : Addr → Prop} {gens : Prop} {kept : Heap → Prop} (hz : s.asleep) (hgens : s.gens = #[])
    (hspec : ∀ args, c.pre args = true → WData.layableAll args = true →
      ∀ ord : List DictEntry → List DictEntry, (∀ l, (ord l).Perm l) →
      ∃ vs s₁, layAllW c.records (classAt s.heap) w.params ord args s = some (vs, s₁) ∧
        wpS (model c.prog w) callerA (tree vs) (fun fin s' => ∃ f, fin = .done f ∧ (c.Ends s args vs s₁ (.ok f) s' ∧ s'.os = s.os ∧ AllBare s'.gens ∧ kept s'.heap))
          (fun e s' => c.Ends s args vs s₁ (.error e) s' ∧ s'.os = s.os ∧ AllBare s'.gens ∧ kept s'.heap) s₁) :
    c.CallFrom (fun vs => ⟨tree vs, .builtin "claim.caller" {}, default, []⟩) w free gens kept s := by
  intro args hpre hlay ord hord
  obtain ⟨vs, s₁, hlaid, hcode⟩ := hspec args hpre hlay ord hord
  have hal := layAllW_rest _ _ _ hlaid
  obtain ⟨k, r, s', s'', hrun, hsched, hfo, hcase, hos, hkp⟩ := thread_endsS (prog := c.prog) (w := w) (t := tree vs) (s := s₁)
    (R := fun r s' => c.Ends s args vs s₁ r s' ∧ s'.os = s.os ∧ kept s'.heap)
    (Shared.asleep_of_life hal.2.2.2 hz)
    (wpS_mono hcode (by
      rintro fin s' ⟨f, e, h1, h2, h3, h4⟩
      exact ⟨f, e, ⟨h1, h2, h4⟩, leftWithCleanup_false_of_bare h3⟩) (by
      rintro e s' ⟨h1, h2, h3, h4⟩
      exact ⟨⟨h1, h2, h4⟩, leftWithCleanup_false_of_bare h3⟩))
  obtain ⟨eh, _, _, eo, _⟩ := Shared.forget_eq hfo
  have hcase := hcase.congr eh
  have hkp : kept s'.heap := by first | exact eh ▸ hkp | (rw [eh] at hkp; exact hkp) | (rw [← eh] at hkp; exact hkp)
  rw [← eo] at hos
  have hlife : s'.heap.life = s.heap.life := (runN_life _ _ _ hrun).trans hal.2.2.2
  refine ⟨vs, s₁, hlaid, k, _, s', hsched, ?_, (fun _ i x hx => by rw [hgens] at hx; simp at hx), hkp, by rw [hlife], Shared.rest_eq hos⟩
  rcases hcase with ⟨v, rfl, d1, d2, d3, d4, d5⟩ | ⟨e, ob, cls, rfl, d1, d2, d3, d4, d5⟩
  · exact .inl ⟨v, rfl, d1, d2, d3, fun b o y _ => d4 b o y, d5⟩
  · exact .inr ⟨e, ob, cls, rfl, d1, d2, d3, d4, fun b o y _ => d5 b o y⟩
theorem open_anyS {r : RowW} {tree : List Value → Sem Fin} {q : Program} {loose defs kps : List Str} {writes : Bool} {Xt : Shared → Bool} {XP : (Str → Option Value) → Heap → Prop} {α : Type} {Yf : Shared → α} {Ya : World → α} {YP : World → Heap → Prop} {N : Nat}
    (left : LeftO r.prog q loose Xt Yf Ya N) (hY : ∀ w s, Yf s = Ya w → YP w s.heap) (hYk : ∀ w h h', YP w h → (∀ b o, h.get? b = some o → h'.get? b = some o) → YP w h') (hX : ∀ s, Xt s = true → XP (s.heap.nsMap mainGlobals) s.heap) (hXk : ∀ mg h h', XP mg h → (∀ b o, h.get? b = some o → h'.get? b = some o) → XP mg h')
    (hRf : ∀ s, Xt s = true → RecFacts r.records s.heap) (hwr : (!writes || r.records.isEmpty) = true) (ok : (chainsOk q && opensWell r.prog && (frees r && r.within.isEmpty)) = true) (hb : r.prog.bare) (hw : r.promised)
    (ht : ∀ vs (w : World) (s : Shared) mg f (Q : Fin → Shared → Prop) (E : Value → Shared → Prop), s.heap.Ns mainGlobals mg → mg r.name = some f → wpS (model r.prog w) callerA (PySem.call f vs) (fun v s' => Q (.done (.ret v)) s') E s → wpS (model r.prog w) callerA (tree vs) Q E s)
    (pin : ∀ w s, s.heap.isNs mainGlobals = true → Ground q loose [] XP w s (s.heap.nsMap mainGlobals) (s.heap.nsMap builtinsNs) s.heap → ∀ n ∈ defs, isTheDefsW r.prog s.heap n)
    (call : ∀ (w : World) (s₀ s₁ : Shared) (mg mb : Str → Option Value), Ground q loose r.records XP w s₀ mg mb s₁.heap → YP w s₁.heap → ∀ (args : List WData) (vs : List Value) (as : List Addr),
      r.claim.pre args = true → WData.layableAll args = true → Laid r.records w s₀ s₁ args vs as → sysModules < s₀.heap.objs.size → ∃ f, mg r.name = some f ∧
        wpS (model r.prog w) callerA (PySem.call f vs) (fun v s' => GoodWG r.claim (classAt s₀.heap) (ExcName.means s₀.heap) args s₁ (.ok (.ret v)) s')
          (fun e s' => GoodWG r.claim (classAt s₀.heap) (ExcName.means s₀.heap) args s₁ (.error e) s') s₁) : r.claim.HoldsOpenBy (fun vs => ⟨tree vs, .builtin "claim.caller" {}, default, []⟩) defs kps writes := by
  obtain ⟨ok, k5⟩ := Bool.and_eq_true_iff.mp ok
  obtain ⟨hch, o1⟩ := Bool.and_eq_true_iff.mp ok
  obtain ⟨k5, k6⟩ := Bool.and_eq_true_iff.mp k5
  obtain ⟨hsame, hu, ha, hap, hm⟩ := frees_parts k5
  refine ⟨⟨hb, o1, by show r.makers.map _ = []; rw [hm]; rfl⟩, hw.witness, fun w => ⟨(left.behind hX hch w).1, fun s' hs' => ?_⟩⟩
  obtain ⟨s₀, hf, hg0, s, hT, hz, hgens, hg, G00, y⟩ := (left.behind (XP := fun mg h => XP mg h ∧ RecFacts r.records h) (fun s hs => ⟨hX s hs, hRf s hs⟩) hch w).2 s' hs'
  have G0 : Ground q loose [] XP w s (s.heap.nsMap mainGlobals) (s.heap.nsMap builtinsNs) s.heap := ⟨G00.T, G00.B, G00.D, G00.TE, G00.TD, G00.W, G00.X.1, G00.cls, G00.has, G00.apart, G00.once, G00.K⟩
  have RF := G00.X.2
  have hT' := hT
  refine ⟨s₀, hf, hg0, s, hT, pin w s hg G0, RF.1, RF.2.1, ?_⟩
  have hgens : s.gens = #[] := Array.eq_empty_of_size_eq_zero (beq_iff_eq.mp hgens)
  have G : Ground q loose r.records XP w s _ _ s.heap := RF.ground G0
  refine callFromS (c := r.claim) hz hgens fun args hpre hlay ord hord => ?_
  obtain ⟨⟨vs, s₁⟩, hlaid⟩ := Option.isSome_iff_exists.mp (layAllW_isSome (P := w.params) (ord := ord) G.has args r.args s (pre_splitW hpre).1)
  have keeps := layAllW_keeps _ _ _ hlaid
  have hal := layAllW_rest _ _ _ hlaid
  obtain ⟨as, hrd, hin, hold⟩ := reads_layAllW hord _ _ _ hlaid hlay s₁.heap (fun _ _ e => e)
  have L : Laid r.records w s s₁ args vs as := ⟨⟨ord, hord, hlaid⟩, hrd, hin, hold, keeps, hal.1.trans hgens, hal.2.2.1⟩
  have G₁ := G.keeps hXk keeps
  obtain ⟨f, hf, h⟩ := call w s s₁ _ _ G₁ (hYk _ _ _ (hY w s y) keeps) args vs as hpre hlay L G.low
  have hi := ident_freeW hu ha hap
  have hwi : r.claim.within = [] := List.isEmpty_iff.mp k6
  exact ⟨vs, s₁, hlaid, ht vs w s₁ _ f _ _ G₁.T.g hf (wpS_mono h (fun v s' g => ⟨_, rfl, have z := g.laid (c := r.claim) hsame hwi hi L; ⟨z.1, z.2.1, z.2.2, fun q => ⟨namesKept_of hT' hg kps keeps g.2.1.old, noTable hwr q⟩⟩⟩) fun e s' g => have z := g.laid (c := r.claim) hsame hwi hi L; ⟨z.1, z.2.1, z.2.2, fun q => ⟨namesKept_of hT' hg kps keeps g.2.1.old, noTable hwr q⟩⟩)⟩
abbrev WalkS (q : Program) (loose : List Str) (XP : (Str → Option Value) → Heap → Prop) (YP : World → Heap → Prop) (r : RowW) (d : DefRec) (kwd : List (Str × Expr)) : Prop :=
  ∀ (w : World) (s₀ s₁ : Shared) (mg mb : Str → Option Value), Ground q loose r.records XP w s₀ mg mb s₁.heap → YP w s₁.heap → ∀ (a : Addr) (o : Obj) (pm cd doc dV kV : Value), s₁.heap.get? a = some o →
    o.data = .func { docDef d.name d.params d.body d.scope pm cd doc with defaults := dV, kwdefaults := kV } → s₁.heap.CodeRec cd d.name → Dflts mg s₁.heap d.params kwd dV kV → mg d.name = some (.ref a) → s₁.gens = #[] →
    ∀ (args : List WData) (vals : List Value) (as : List Addr), r.claim.pre args = true → WData.layableAll args = true → ReadsAllW r.records (classAt s₀.heap) s₁.heap vals args as → WellAll w.params s₁.heap vals args → (∀ a ∈ as, (a == sysModules) = false) →
      wpS (model r.prog w) callerA (PySem.call (.ref a) vals) (fun v s' => GoodWG r.claim (classAt s₀.heap) (ExcName.means s₀.heap) args s₁ (.ok (.ret v)) s')
        (fun e s' => GoodWG r.claim (classAt s₀.heap) (ExcName.means s₀.heap) args s₁ (.error e) s') s₁
/-- the library's head of an open row, with a call that may know that its stack holds no decoder; under the name that k_head's own row finds first here -/
theorem PySem.W.holds_open {r : OpenRow} {q : Program} {loose : List Str} {Xt : Shared → Bool} {XP : (Str → Option Value) → Heap → Prop} {α : Type} {Yf : Shared → α} {Ya : World → α} {YP : World → Heap → Prop} {d : DefRec} {kwd : List (Str × Expr)} {N : Nat}
    (left : LeftO r.prog q loose Xt Yf Ya N) (hY : ∀ w s, Yf s = Ya w → YP w s.heap) (hYk : ∀ w h h', YP w h → (∀ b o, h.get? b = some o → h'.get? b = some o) → YP w h')
    (hX : ∀ s, Xt s = true → XP (s.heap.nsMap mainGlobals) s.heap) (hXk : ∀ mg h h', XP mg h → (∀ b o, h.get? b = some o → h'.get? b = some o) → XP mg h')
    (hdef : defOf q r.name = some (d, kwd)) (hp : r.prog.theDef r.name = some (d.params, d.body, d.scope)) (hk : kwWritten? d.params.kwonlyargs d.params.kw_defaults = some kwd) (hRf : ∀ s, Xt s = true → RecFacts r.records s.heap) (hwr : (!r.writes || r.records.isEmpty) = true)
    (k1 : r.wellSaid = true) (ok : (chainsOk q && opensWell r.prog && (frees r.toRowW && r.within.isEmpty)) = true) (hb : r.prog.bare) (hw : r.toRowW.promised)
    (call : WalkS q loose XP YP r.toRowW d kwd) : r.Holds := by
  refine ⟨k1, hw, open_anyS (r := r.toRowW) (tree := fun vs => do match ← nsGet mainNs r.name with
      | some f => do ret (← PySem.call f vs)
      | none => unsupported "claim.caller:no-such-global") left hY hYk hX hXk hRf hwr ok hb hw
    (fun vs w s mg f Q E hg hf h => wpS_bindA (wpAny_nsGet hg (by rw [hf]; exact wpS_bind (wpS_mono h (fun _ _ x => wpS_pure x) fun _ _ x => x))))
    (fun w s hg G n hn => ?_) fun w s₀ s₁ mg mb G Y args vs as hpre hlay L low => ?_⟩
  · obtain rfl : n = r.name := by split at hn <;> simp_all
    exact pinned_of_view hg G hdef hp hk
  · obtain ⟨a, o, pm, cd, doc, dV, kV, h1, h2, h3, h4, h5⟩ := G.fn hdef
    exact ⟨.ref a, h1, call w s₀ s₁ mg mb G Y a o pm cd doc dV kV h2 h3 h4 h5 (defOf_name hdef ▸ h1) L.gens args vs as hpre hlay L.reads L.well (L.low low)⟩

open_top hd for PySem.Challenge.rw_id0001_01
abbrev PG : Program := PySem.Challenge.pw_id0001_01

/-- the end of a call that leaves everything as it stood: all that it made lies in its own ledger -/
def LeaveP (g : Heap) (R : Result → Shared → Prop) (v : Value) (s' : Shared) : Prop :=
  ∃ L' m' news', Fr g L' s'.heap m' ∧ News g L' s'.heap news' ∧ (g.StaysIn s'.heap → News g L' s'.heap news' → R (.ok (.ret v)) s')

section
variable {prog : Program} {w : World} {A₀ A : Around} {s : Shared} {base h₀ : Heap} {outer : List Env} {L : Addr} {m : Str → Option Value} {env : Env} {K : Frag} {p : Program} {loose : List Str} {mean : ExcName → Option Value} {mg mb : Str → Option Value}
  {R : Result → Shared → Prop} {name qual : Str} {params : Arguments} {body : List Stmt} {scope : Scope} {dV kV doc pm cdv ct oc : Value} {an od : Option Addr} {osl : Array (Option Value)} {f : Addr} {args : Args} {binds : List (Str × Value)}

theorem belowHere (B : Below A₀ base outer h₀) (F : Fr h₀ L s.heap m) (hA : A.frames = some (env :: outer)) (hf : env.frame = some L) (hke : env.scope.kind = .function) : Below A base (env :: outer) s.heap :=
  let B₁ := pushX B F hf hke
  ⟨hA, B₁.stays, B₁.frames⟩

theorem code_pure (B : Below A₀ base outer h₀) (F : Fr h₀ L s.heap m) (X₀ : K.In h₀) (T : Top p loose mean mg mb h₀) (hA : A.frames = some (env :: outer)) (hf : env.frame = some L) (hke : env.scope.kind = .function)
    (ho : K.lookup f = some ⟨oc, od, .func (fnOf name qual params body scope dV kV doc pm an cdv ct), osl⟩) (hcd : codeIn K cdv qual = true) (hroom : A.depth < recursionLimit)
    (hbind : BindsTo s (fnOf name qual params body scope dV kV doc pm an cdv ct) args binds) (hloc : ∀ y ∈ binds, scope.names.lookup y.1 = some .local)
    (h : ∀ L' h₁, Fr s.heap L' h₁ (fun y => binds.reverse.lookup y) → News s.heap L' h₁ [] → Below A base (env :: outer) s.heap → K.In s.heap → Top p loose mean mg mb s.heap →
      wpAny (model prog w) (A.deeper (envOf qual scope L' f cdv)) (execs body (envOf qual scope L' f cdv))
        (fun fl s' => LeaveP s.heap R (match fl with | .ret v => v | _ => .none) s')
        (fun _ _ => False) { s with heap := h₁, toks := s.toks + binds.length })
    (hco : scope.isCoroutine = false) (hgen : scope.isGenerator = false) (hk : scope.kind = .function)
    (hcell : ∀ x ∈ scope.names, x.2 ≠ .cell) : codeAny (model prog w) A (.call (.ref f) args) R s := by
  refine codeAny_call_def (fd := fnX name qual params body scope [] dV kV doc pm an cdv ct) (body := body) (binds := binds) hroom ((X₀.keeps F.keep) _ _ ho) rfl (T.nolimit.keeps F.keep) (codeRec_of (X₀.keeps F.keep) hcd) rfl hbind hcell hloc (fun h₁ hns hk₁ => ?_) hco hgen hk
  refine wpAny_mono (h s.heap.objs.size h₁ ⟨hns, fun b o e => hk₁ b o e, Nat.le_refl _⟩ News.nil (belowHere B F hA hf hke) (X₀.keeps F.keep) (T.keeps F.keep)) (fun fl s' hl => ?_) fun _ _ y => y.elim
  obtain ⟨L', m', news', F', N', k⟩ := hl
  exact k F'.keep N'

theorem code_pureC (B : Below A₀ base outer h₀) (F : Fr h₀ L s.heap m) (X₀ : K.In h₀) (T : Top p loose mean mg mb h₀) (hA : A.frames = some (env :: outer)) (hf : env.frame = some L) (hke : env.scope.kind = .function)
    (ho : K.lookup f = some ⟨oc, od, .func (fnOf name qual params body scope dV kV doc pm an cdv ct), osl⟩) (hcd : codeIn K cdv qual = true) (hroom : A.depth < recursionLimit)
    (hbind : BindsTo s (fnOf name qual params body scope dV kV doc pm an cdv ct) args binds) (hkind : (binds.all fun y => scope.names.lookup y.1 == some .local || scope.names.lookup y.1 == some .cell) = true)
    (hnd : ((cellsFrom 0 scope.names []).map (·.1)).Nodup)
    (h : ∀ L' h₁ tk cells, Fr s.heap L' h₁ (bindL (envOfC qual scope L' f cdv).kindOf binds fun _ => none) → News s.heap L' h₁ cells →
      CellsAre (bindC (envOfC qual scope L' f cdv).kindOf binds fun _ => none) (cellsFrom (L' + 1) scope.names []) cells → Below A base (env :: outer) s.heap → K.In s.heap → Top p loose mean mg mb s.heap →
      wpAny (model prog w) (A.deeper (envOfC qual scope L' f cdv)) (execs body (envOfC qual scope L' f cdv))
        (fun fl s' => LeaveP s.heap R (match fl with | .ret v => v | _ => .none) s')
        (fun _ _ => False) { s with heap := h₁, toks := tk })
    (hco : scope.isCoroutine = false) (hgen : scope.isGenerator = false) (hk : scope.kind = .function) : codeAny (model prog w) A (.call (.ref f) args) R s := by
  refine codeAny_call_function hroom ((X₀.keeps F.keep) _ _ ho) rfl hco hgen rfl (codeRec_of (X₀.keeps F.keep) hcd) (hbind _ _ _ _ ?_)
  refine wpAny_newFunctionEnv_cells hk (kindsX hkind _) fun env' he s' x => ?_
  subst he
  refine ⟨((T.nolimit.keeps F.keep)).keeps x.toInCall.keep, codeAny_func ?_⟩
  obtain ⟨h₁, tk, rfl, _⟩ := x.done
  have hk₁ := x.toInCall.keep
  obtain ⟨cells, NC, Y⟩ := Cl.news (h₀ := s.heap) (Nat.le_refl _) fun n c hm => ⟨x.cell n c (lookup_of_mem_nodup (cellsFrom_names scope.names 0 (s.heap.objs.size + 1) [] [] rfl ▸ hnd) hm), x.above n c hm⟩
  refine wpAny_mono (h s.heap.objs.size h₁ tk cells ⟨x.toInCall.ns, fun b o e => hk₁ b o e, Nat.le_refl _⟩ NC Y (belowHere B F hA hf hke) (X₀.keeps F.keep) (T.keeps F.keep)) (fun fl s' hl => ?_) fun _ _ y => y.elim
  obtain ⟨L', m', news', F', N', k⟩ := hl
  exact k F'.keep N'
end

/-- a call of the text's def at f, that turns nothing of what stands: Pre of the heap ahead, P of the heap ahead, behind and of what it hands back -/
def CallP (w : World) (f : Addr) (dd uu : Nat) (vs : List Value) (Pre : Heap → Prop) (P : Heap → Heap → Value → Prop) : Prop :=
  ∀ (p : Program) (loose : List Str) (mean : ExcName → Option Value) (mg mb : Str → Option Value) (dp un : Nat) (gd : Option (List Code)) (cn : Str) (cs : Scope) (a : Addr) (ccd : Value) (cl : List (Str × Addr)) (outer : List Env) (A₀ : Around) (base h₀ : Heap) (L : Addr) (m : Str → Option Value) (s : Shared) (Q E : Value → Shared → Prop),
    Below A₀ base outer h₀ → Fr h₀ L s.heap m → (Mine.hd.heap_39 w.params).In h₀ → Top p loose mean mg mb h₀ → cs.kind = .function → dp + dd < recursionLimit → un + uu < cLine → Pre s.heap →
    (∀ r h' tk', s.heap.StaysIn h' → P s.heap h' r → Q r { s with heap := h', toks := tk' }) →
    wpAny (model PG w) (ktrTop dp un gd cn cs L a ccd cl outer) (call (.ref f) vs) Q E s
section
variable {w : World} {f : Addr} {dd uu : Nat} {vs : List Value} {Pre : Heap → Prop} {P : Heap → Heap → Value → Prop}
  {p : Program} {loose : List Str} {mean : ExcName → Option Value} {mg mb : Str → Option Value} {dp un : Nat} {gd : Option (List Code)} {cn : Str} {cs : Scope} {a : Addr} {ccd : Value} {cl : List (Str × Addr)} {outer : List Env} {A₀ : Around} {base h₀ : Heap} {L : Addr} {m : Str → Option Value} {news : List (Addr × Obj)} {s : Shared} {Q E : Value → Shared → Prop}
theorem frStays {h : Heap} (F : Fr h₀ L s.heap m) (st : s.heap.StaysIn h) : Fr h₀ L h m := by
  obtain ⟨oL, es, ep, hL, hr⟩ := F.ns
  exact ⟨⟨oL, es, ep, st _ _ hL, hr⟩, fun b o e => st b o (F.keep b o e), F.above⟩
theorem newsStays {h : Heap} (N : News h₀ L s.heap news) (st : s.heap.StaysIn h) : News h₀ L h news := fun q hq => ⟨st _ _ (N q hq).1, (N q hq).2⟩
theorem newsMore {h : Heap} {l : Addr} {o : Obj} (F : Fr h₀ L s.heap m) (N : News h₀ L s.heap news) (st : s.heap.StaysIn h) (hl : h.get? l = some o) (hn : s.heap.get? l = none) : News h₀ L h ((l, o) :: news) := by
  obtain ⟨oL, es, ep, hL, hr⟩ := F.ns
  intro q hq
  rcases List.mem_cons.mp hq with rfl | hq
  · refine ⟨hl, fun e => ?_, ?_⟩
    · have e' : l = L := e
      rw [e', hL] at hn; cases hn
    · cases x : h₀.get? l with
      | none => rfl
      | some o' => rw [F.keep _ _ x] at hn; cases hn
  · exact newsStays N st q hq
theorem newsSub {h : Heap} {news' : List (Addr × Obj)} (N : News h₀ L h news) (hs : ∀ q ∈ news', q ∈ news) : News h₀ L h news' := fun q hq => N q (hs q hq)
theorem newsApart {l : Addr} (N : News h₀ L s.heap news) (hn : s.heap.get? l = none) : ∀ q ∈ news, q.1 ≠ l := fun q hq e => by
  rw [← e, (N q hq).1] at hn; cases hn
theorem CallP.use (C : CallP w f dd uu vs Pre P) (B : Below A₀ base outer h₀) (F : Fr h₀ L s.heap m) (X : (Mine.hd.heap_39 w.params).In h₀) (N : News h₀ L s.heap news) (T : Top p loose mean mg mb h₀) (hk : cs.kind = .function) (hd : dp + dd < recursionLimit) (hu : un + uu < cLine) (hp : Pre s.heap)
    (ret : ∀ r h' tk', Fr h₀ L h' m → News h₀ L h' news → s.heap.StaysIn h' → P s.heap h' r → Q r { s with heap := h', toks := tk' }) :
    wpAny (model PG w) (ktrTop dp un gd cn cs L a ccd cl outer) (call (.ref f) vs) Q E s := C _ _ _ _ _ _ _ _ _ _ _ _ _ _ _ _ _ _ _ _ _ _ B F X T hk hd hu hp fun r h' tk' st hr => ret r h' tk' (frStays F st) (newsStays N st) st hr
/-- of a def that hands back an int -/
abbrev IntIs (i : Int) : Heap → Heap → Value → Prop := fun _ _ r => ∃ t, r = .int i t
abbrev BytesIs (b : Array UInt8) : Heap → Heap → Value → Prop := fun _ _ r => ∃ t, r = .bytes b t
abbrev NoPre : Heap → Prop := fun _ => True
theorem CallP.useI {i : Int} (C : CallP w f dd uu vs Pre (IntIs i)) (B : Below A₀ base outer h₀) (F : Fr h₀ L s.heap m) (X : (Mine.hd.heap_39 w.params).In h₀) (N : News h₀ L s.heap news) (T : Top p loose mean mg mb h₀) (hk : cs.kind = .function) (hd : dp + dd < recursionLimit) (hu : un + uu < cLine) (hp : Pre s.heap)
    (ret : ∀ t h' tk', Fr h₀ L h' m → News h₀ L h' news → s.heap.StaysIn h' → Q (.int i t) { s with heap := h', toks := tk' }) :
    wpAny (model PG w) (ktrTop dp un gd cn cs L a ccd cl outer) (call (.ref f) vs) Q E s := C.use B F X N T hk hd hu hp (by
      rintro r h' tk' F' N' st ⟨t, rfl⟩
      exact ret t h' tk' F' N' st)
theorem CallP.useB {b : Array UInt8} (C : CallP w f dd uu vs Pre (BytesIs b)) (B : Below A₀ base outer h₀) (F : Fr h₀ L s.heap m) (X : (Mine.hd.heap_39 w.params).In h₀) (N : News h₀ L s.heap news) (T : Top p loose mean mg mb h₀) (hk : cs.kind = .function) (hd : dp + dd < recursionLimit) (hu : un + uu < cLine) (hp : Pre s.heap)
    (ret : ∀ t h' tk', Fr h₀ L h' m → News h₀ L h' news → s.heap.StaysIn h' → Q (.bytes b t) { s with heap := h', toks := tk' }) :
    wpAny (model PG w) (ktrTop dp un gd cn cs L a ccd cl outer) (call (.ref f) vs) Q E s := C.use B F X N T hk hd hu hp (by
      rintro r h' tk' F' N' st ⟨t, rfl⟩
      exact ret t h' tk' F' N' st)
end
theorem leaveP_ {g : Heap} {L' : Addr} {m' : Str → Option Value} {news' : List (Addr × Obj)} {R : Result → Shared → Prop} {v : Value} {s' : Shared} (F' : Fr g L' s'.heap m') (N' : News g L' s'.heap news')
    (k : g.StaysIn s'.heap → News g L' s'.heap news' → R (.ok (.ret v)) s') : LeaveP g R v s' := ⟨L', m', news', F', N', k⟩
theorem few_ne {N : Nat} {k : Int} (h3 : (3 : Int) ≤ (N : Int)) (h4 : (N : Int) ≤ 4) (h0 : 0 ≤ k) (h1 : k < 0 + ((((N : Int) + 1 - 0).toNat : Nat) : Int)) : 2 * (N : Int) - k ≠ 0 := by omega
theorem few_abs {N : Nat} {k : Int} (h3 : (3 : Int) ≤ (N : Int)) (h4 : (N : Int) ≤ 4) (h0 : 0 ≤ k) (h1 : k < 0 + ((((N : Int) + 1 - 0).toNat : Nat) : Int)) : (2 * (N : Int) - k).natAbs < 1073741824 := by omega
theorem few_le {N : Nat} {k : Int} (h3 : (3 : Int) ≤ (N : Int)) (h4 : (N : Int) ≤ 4) (h0 : 0 ≤ k) (h1 : k < 0 + ((((N : Int) + 1 - 0).toNat : Nat) : Int)) : k ≤ 2 * (N : Int) - k := by omega
theorem few_sub {N : Nat} {k : Int} (h3 : (3 : Int) ≤ (N : Int)) (h4 : (N : Int) ≤ 4) (h0 : 0 ≤ k) (h1 : k < 0 + ((((N : Int) + 1 - 0).toNat : Nat) : Int)) : 0 ≤ (N : Int) - k := by omega
local macro_rules | `(tactic| walk_at "LeaveP") => `(tactic| (k_dflt (refine' leaveP_ ?k1 ?k2 ?_; (case k1 => k_asm); (case k2 => k_asm); k_whole); intro kS kN))
local macro_rules | `(tactic| cell_enter) => `(tactic| first
  | (refine' code_pure ?k1 ?k2 ?k4 ?k5 ?kA ?kF ?kK ?k6 ?k7 ?k8 ?k9 ?kB ?_ ?c2 ?c3 ?c4 ?c5; (case kA => exact rfl); (case kF => exact rfl); (case kK => assumption); (case k1 => k_asm); (case k2 => k_asm); (case k4 => k_asm); (case k5 => k_asm); (case k6 => k_is); (case k7 => k_is); (case k8 => ktr_room); (case k9 => exact BindsTo.of_eq rfl); (case c5 => decide); (case kB => exact locs rfl); (case c2 => exact rfl); (case c3 => exact rfl); (case c4 => exact rfl); k_whole; intro L' h' F' N' B' X' T'; (try dsimp only); (try k_fold))
  | (refine' code_pureC ?k1 ?k2 ?k4 ?k5 ?kA ?kF ?kK ?k6 ?k7 ?k8 ?k9 ?kB ?kD ?_ ?c2 ?c3 ?c4; (case kA => exact rfl); (case kF => exact rfl); (case kK => assumption); (case k1 => k_asm); (case k2 => k_asm); (case k4 => k_asm); (case k5 => k_asm); (case k6 => k_is); (case k7 => k_is); (case k8 => ktr_room); (case k9 => exact BindsTo.of_eq rfl); (case kB => exact rfl); (case kD => decide +kernel); (case c2 => exact rfl); (case c3 => exact rfl); (case c4 => exact rfl); k_whole; intro L' h' tk' cells' F' N' Y' B' X' T'; k_cells Y'; (try dsimp only); (try k_fold)))

section
variable {M : Model} {A : Around} {E : Value → Shared → Prop} {s : Shared} {env : Env}
theorem wpS_execs_cons {st rest} {Q : Flow → Shared → Prop} (h : wpS M A (exec st env) (fun f s' => match f with | .next => wpS M A (execs rest env) Q E s' | f => Q f s') E s) : wpS M A (execs (st :: rest) env) Q E s := by
  rw [execs_cons]
  refine wpS_bind (wpS_mono h (fun f s' hf => ?_) fun _ _ x => x)
  cases f <;> first | exact hf | exact wpS_pure hf
theorem execs_cut {Γ : Ctx} {post : List Stmt} {Q : Flow → Pos → Shared → Prop} {E : Value → Pos → Shared → Prop} : ∀ (pre : List Stmt) (p : Pos) (s : Shared),
    Sem.wp M Γ (execs pre env) (fun f p' s' => match f with | .next => Sem.wp M Γ (execs post env) Q E p' s' | f => Q f p' s') E p s → Sem.wp M Γ (execs (pre ++ post) env) Q E p s
  | [], _, _, h => h
  | st :: pre, p, s, h => by
    rw [List.cons_append, execs_cons, Sem.wp_bind']
    rw [execs_cons, Sem.wp_bind'] at h
    refine Sem.wp_mono M Γ _ (fun f p' s' hf => ?_) (fun _ _ _ x => x) p s h
    cases f with
    | next => exact execs_cut pre p' s' hf
    | _ => exact hf
/-- a block that asks nothing of the stack, ahead of the rest -/
theorem wpS_execs_cut {Q : Flow → Shared → Prop} (pre : List Stmt) {post : List Stmt} (h : wpAny M A (execs pre env) (fun f s' => match f with | .next => wpS M A (execs post env) Q E s' | f => Q f s') E s) : wpS M A (execs (pre ++ post) env) Q E s := fun Γ p hΓ hc hb => by
  refine execs_cut pre p s (Sem.wp_mono M Γ _ (fun f p' s' hf => ?_) (fun _ _ _ x => x) p s (h Γ p hΓ))
  cases f with
  | next => exact hf Γ p' hΓ hc hb
  | _ => exact hf
theorem wpS_Assign_Name {x pos' value pos} {Q : Flow → Shared → Prop} (h : wpS M A (eval value env) (fun v s₁ => wpAny M A (storeName env x v) (fun _ => Q .next) E s₁) E s)
    (hs : swapsWith value (some (.Name x pos')) pos.line env = pure false := by rfl) : wpS M A (exec (.Assign [.Name x pos'] value pos) env) Q E s := fun Γ p hΓ hc hb => by
  simp only [exec_Assign_Name env x pos' value pos hs, Sem.wp_bind', Sem.wp_cmd_standAt, Sem.wp_bindName, Sem.wp_pure']
  exact Sem.wp_mono M Γ _ (fun v _ s₁ h₁ => h₁ Γ _ hΓ) (fun _ _ _ h' => h') _ _ (h Γ _ hΓ hc hb)
theorem wpS_If {test body orelse pos} {Q : Flow → Shared → Prop} (h : wpS M A (isTrue test env (eval test env)) (fun b s₂ => if b then wpAny M A (execs body env) Q E s₂ else wpAny M A (execs orelse env) Q E s₂) E s) :
    wpS M A (exec (.If test body orelse pos) env) Q E s := fun Γ p hΓ hc hb => by
  simp only [exec_If, Sem.wp_bind', Sem.wp_cmd_standAt]
  refine Sem.wp_mono M Γ _ (fun b p₂ s₂ h₂ => ?_) (fun _ _ _ h' => h') _ _ (h Γ _ hΓ hc hb)
  cases b <;> exact h₂ Γ p₂ hΓ
theorem wpS_or {x rest pos whole} {Q : Bool → Shared → Prop} (h : wpS M A (isTrue x env (eval x env)) (fun c s' => if c then Q true s' else wpS M A (isTrue (.BoolOp .Or rest pos) env whole) Q E s') E s) :
    wpS M A (isTrue (.BoolOp .Or (x :: rest) pos) env whole) Q E s := by
  show wpS M A (isTrue x env (eval x env) >>= fun b => match BoolOp.Or, b with
    | .And, false => pure false
    | .Or, true => pure true
    | _, _ => allTrue .Or rest env) Q E s
  refine wpS_bind (wpS_mono h (fun c s' h' => ?_) fun _ _ x => x)
  cases c with
  | false => exact h'
  | true => exact wpS_pure h'
theorem wpS_Compare1 {l op r pos whole} {Q : Bool → Shared → Prop}
    (h : wpS M A (eval l env) (fun a s₁ => wpAny M A (eval r env) (fun b s₂ => wpAny M A (compareOp op a b) (fun c s₃ => wpAny M A (truthy c) Q E s₃) E s₂) E s₁) E s)
    (hm : behindInMarks op r = false := by with_unfolding_all rfl) : wpS M A (isTrue (.Compare l [op] [r] pos) env whole) Q E s := fun Γ p hΓ hc hb => by
  simp only [isTrue_Compare1, markedBehindIn_of_false hm, Sem.wp_bind', Sem.wp_holding, Sem.wp_cmd_standAt, Sem.wp_operate]
  exact Sem.wp_mono M Γ _ (fun a p₁ s₁ h₁ => Sem.wp_mono M Γ _ (fun b _ s₂ h₂ => Sem.wp_mono M Γ _ (fun c p₃ s₃ h₃ => h₃ Γ p₃ hΓ)
    (fun _ _ _ h' => h') _ _ (h₂ Γ _ hΓ)) (fun _ _ _ h' => h') _ _ (h₁ Γ p₁ hΓ)) (fun _ _ _ h' => h') _ _ (h Γ p hΓ hc hb)
theorem wpS_Call {func : Expr} {args : List Expr} {pos : Pos} {Q : Value → Shared → Prop}
    (h : wpAny M A (eval func env) (fun f s₁ => wpS M A (callWith pos f [] (backTo pos (starEach args env)) []) Q E s₁) E s)
    (he : eval (.Call func args [] pos) env = (do callWith pos (← eval func env) [] (backTo pos (starEach args env)) (backToKw pos (keywordEach [] env))) := by rfl) :
    wpS M A (eval (.Call func args [] pos) env) Q E s := by
  rw [he]; exact wpS_bindA h
theorem wpS_args {f : Value} {x : Sem Value} {rest : List (Bool × Sem Value)} {Q : Args → Shared → Prop} (h : wpS M A (spliced ((false, x) :: rest)) (fun vs s' => Q ⟨vs, []⟩ s') E s) : wpS M A (evalArgs f true ((false, x) :: rest) []) Q E s := by
  unfold evalArgs
  show wpS M A (spliced ((false, x) :: rest) >>= _) Q E s
  refine wpS_bind (wpS_mono h (fun vs s' h' => ?_) fun _ _ x => x)
  exact wpS_holding (wpS_bindA (wpAny_pure (wpS_bindA (wpAny_pure (wpS_pure h')))))
theorem wpS_callWith {P : Heap → Prop} {pos : Pos} {f : Value} {first : List Value} {args : List (Bool × Sem Value)} {Q : Value → Shared → Prop} (hplain : args.any (·.1) = false)
    (hk : ∀ h, P h → ∃ k, (k = Keeper.frame ∨ k = Keeper.machine ∨ k = Keeper.boundFrame) ∧ Looks M h (keeperOf f) k)
    (h : wpS M A (evalArgs f true args []) (fun a s₁ => P s₁.heap ∧ wpS M A (call f (first ++ a.pos) a.kw) Q E s₁) E s) : wpS M A (callWith pos f first args []) Q E s := by
  unfold callWith
  refine wpS_bind (wpS_holding (wpS_mono h (fun a s₁ h₁ => wpS_bind (wpS_standAt ?_)) fun _ _ x => x))
  obtain ⟨k, hk', L⟩ := hk _ h₁.1
  simp only [hplain, List.any_nil, Bool.or_false]
  refine wpS_bindA (L.here ?_)
  have tail : ∀ {t : Sem Value}, wpS M A t Q E s₁ → wpS M A (t >>= fun r => holding [r] point >>= fun _ => pure r) Q E s₁ :=
    fun ht => wpS_bind (wpS_mono ht (fun r s₂ hr => wpS_of (wpAny_bind (wpAny_holding (wpAny_point (wpAny_pure hr))))) fun _ _ x => x)
  have marked (mk : Value) : wpS M A (callMarked mk f (first ++ a.pos) a.kw) Q E s₁ := by unfold callMarked; exact wpS_keep h₁.2
  rcases hk' with rfl | rfl | rfl <;> dsimp only <;> first | exact tail h₁.2 | (split <;> first | exact tail h₁.2 | exact tail (marked _))
theorem wpS_callE {P : Heap → Prop} {pos : Pos} {f : Value} {first : List Value} {e : Expr} {rest : List Expr} {Q : Value → Shared → Prop}
    (hk : ∀ h, P h → ∃ k, (k = Keeper.frame ∨ k = Keeper.machine ∨ k = Keeper.boundFrame) ∧ Looks M h (keeperOf f) k)
    (h : wpS M A (spliced (backTo pos (starEach (e :: rest) env))) (fun vs s₁ => P s₁.heap ∧ wpS M A (call f (first ++ vs)) Q E s₁) E s)
    (he : starEach (e :: rest) env = (false, eval e env) :: starEach rest env := by rfl) (hplain : (backTo pos (starEach rest env)).any (·.1) = false := by rfl) :
    wpS M A (callWith pos f first (backTo pos (starEach (e :: rest) env)) []) Q E s := by
  rw [he] at h ⊢
  exact wpS_callWith (by show (false || (backTo pos (starEach rest env)).any (·.1)) = false; rw [hplain]; rfl) hk (wpS_args h)
end
section
variable {prog : Program} {w : World} {A₀ A : Around} {s : Shared} {base h₀ : Heap} {outer : List Env} {L : Addr} {m : Str → Option Value} {env : Env} {K : Frag} {p : Program} {loose : List Str} {mean : ExcName → Option Value} {mg mb : Str → Option Value}
  {R : Result → Shared → Prop} {name qual : Str} {params : Arguments} {body : List Stmt} {scope : Scope} {dV kV doc pm cdv ct oc : Value} {an od : Option Addr} {osl : Array (Option Value)} {f : Addr} {args : Args} {binds : List (Str × Value)}
theorem codeS_func {body env} (h : wpS (model prog w) (A.deeper env) (execs body env) (fun f s' => R (.ok (.ret (match f with | .ret v => v | _ => .none))) s') (fun e s' => wpAny (model prog w) (A.deeper env) (leaving env e) (fun _ s'' => R (.error e) s'') (fun e' s'' => R (.error e') s'') s') s) :
    codeS (model prog w) A (.func body env) R s := by
  refine codeS_of_tree rfl ?_
  show wpS _ (A.deeper env) (do point; match ← (execs body env).onRaise (leaving env) with | .ret v => ret v | _ => ret .none) _ _ s
  refine wpS_bindA (wpAny_point (wpS_bind (wpS_onRaise (wpS_mono h (fun f s' h' => ?_) fun _ _ h' => h'))))
  cases f <;> exact wpS_pure h'
theorem codeS_call_function {a : Addr} {args : Args} {o : Obj} {fd : FuncData} {body : List Stmt} (hroom : A.depth < recursionLimit) (ho : s.heap.get? a = some o)
    (hd' : o.data = .func fd) (hco : fd.scope.isCoroutine = false) (hgen : fd.scope.isGenerator = false) (hbody : fd.body = .stmts body) (hcd : s.heap.CodeRec fd.code fd.qualname)
    (h : wpAny (model prog w) A.in1 (bindArgs fd args) (fun binds s₁ => wpAny (model prog w) A.in1 (newFunctionEnv fd.scope fd.globals fd.closure binds (fd.qualname ++ ".<locals>.") (some a) fd.code none fd.builtins)
        (fun env s₂ => s₂.heap.NoLimit ∧ codeS (model prog w) A (.func body env) R s₂) (fun e s' => R (.error e) s') s₁) (fun e s' => R (.error e) s') s) : codeS (model prog w) A (.call (.ref a) args) R s := by
  refine codeS_of_tree rfl (wpS_of ?_)
  show wpAny _ A.in1 (callAny (.ref a) args) _ _ s
  simp only [callAny]
  refine wpAny_bind (wpAny_load ho ?_)
  obtain ⟨c, oc, vs, tq, hc, hoc, hdc, hq⟩ := hcd
  simp only [hd', callFunction, hco, hgen, hbody, hc]
  rw [hc] at h
  refine wpAny_bind (m := field (.ref c) 1) (wpAny_field hoc hdc hq (wpAny_bind (wpAny_pure ?_)))
  exact wpAny_bind (wpAny_mono h (fun binds s₁ h₁ => wpAny_bind (wpAny_mono h₁ (fun env s₂ h₂ => wpAny_bind (wpAny_enterFrame h₂.1 hroom (wpAny_pure (And.intro rfl h₂.2)))) fun _ _ h' => h')) fun _ _ h' => h')
theorem code_pureS (B : Below A₀ base outer h₀) (F : Fr h₀ L s.heap m) (X₀ : K.In h₀) (T : Top p loose mean mg mb h₀) (hA : A.frames = some (env :: outer)) (hf : env.frame = some L) (hke : env.scope.kind = .function)
    (ho : K.lookup f = some ⟨oc, od, .func (fnOf name qual params body scope dV kV doc pm an cdv ct), osl⟩) (hcd : codeIn K cdv qual = true) (hroom : A.depth < recursionLimit)
    (hbind : BindsTo s (fnOf name qual params body scope dV kV doc pm an cdv ct) args binds) (hloc : ∀ y ∈ binds, scope.names.lookup y.1 = some .local)
    (h : ∀ L' h₁, Fr s.heap L' h₁ (fun y => binds.reverse.lookup y) → News s.heap L' h₁ [] → Below A base (env :: outer) s.heap → K.In s.heap → Top p loose mean mg mb s.heap →
      wpS (model prog w) (A.deeper (envOf qual scope L' f cdv)) (execs body (envOf qual scope L' f cdv))
        (fun fl s' => LeaveP s.heap R (match fl with | .ret v => v | _ => .none) s')
        (fun _ _ => False) { s with heap := h₁, toks := s.toks + binds.length })
    (hco : scope.isCoroutine = false) (hgen : scope.isGenerator = false) (hk : scope.kind = .function)
    (hcell : ∀ x ∈ scope.names, x.2 ≠ .cell) : codeS (model prog w) A (.call (.ref f) args) R s := by
  refine codeS_call_function (fd := fnX name qual params body scope [] dV kV doc pm an cdv ct) hroom ((X₀.keeps F.keep) _ _ ho) rfl hco hgen rfl (codeRec_of (X₀.keeps F.keep) hcd) (hbind _ _ _ _ ?_)
  refine wpAny_newFunctionEnv hcell hloc (fun h₁ hns hsb => ⟨(T.nolimit.keeps F.keep).fresh _ hsb, codeS_func ?_⟩) hk
  refine wpS_mono (h s.heap.objs.size h₁ ⟨hns, fun b o e => hsb.extBut b o (Nat.ne_of_lt (Heap.lt_size e)) (Heap.get?_push_of_some _ e), Nat.le_refl _⟩ News.nil (belowHere B F hA hf hke) (X₀.keeps F.keep) (T.keeps F.keep)) (fun fl s' hl => ?_) fun _ _ y => y.elim
  obtain ⟨L', m', news', F', N', k⟩ := hl
  exact k F'.keep N'
end

/-- the end of a turn: what the loop keeps (nx) lies in the ledger, apart from the loop's own things -/
def EndG (h₀ : Heap) (L : Addr) (J : (Str → Option Value) → List (Addr × Obj) → Prop) (own : List (Addr × Obj)) (s₁ s₂ : Shared) : Prop :=
  ∃ h' tk m' news' nx, s₂ = { s₁ with heap := h', toks := tk } ∧ Fr h₀ L h' m' ∧ News h₀ L h' news' ∧ (∀ p ∈ nx, p ∈ news') ∧ (∀ p ∈ own, p ∈ news') ∧ (∀ p ∈ nx, ∀ q ∈ own, p.1 ≠ q.1) ∧ J m' nx
def PostG (h₀ : Heap) (L : Addr) (J : (Str → Option Value) → List (Addr × Obj) → Prop) (own : List (Addr × Obj)) (s₁ : Shared) (Q : Flow → Shared → Prop) (f : Flow) (s₂ : Shared) : Prop :=
  match f with
  | .ret v => Q (.ret v) s₂
  | .brk => Q .next s₂
  | _ => EndG h₀ L J own s₁ s₂
theorem EndG.intro {h₀ : Heap} {L : Addr} {J : (Str → Option Value) → List (Addr × Obj) → Prop} {own : List (Addr × Obj)} {s₁ : Shared} {h' : Heap} {tk : Nat} {m' : Str → Option Value} {news' : List (Addr × Obj)} (nx : List (Addr × Obj))
    (F : Fr h₀ L h' m') (N : News h₀ L h' news') (hj : J m' nx) (hn : ∀ p ∈ nx, p ∈ news') (ho : ∀ p ∈ own, p ∈ news') (ha : ∀ p ∈ nx, ∀ q ∈ own, p.1 ≠ q.1) : EndG h₀ L J own s₁ { s₁ with heap := h', toks := tk } :=
  ⟨h', tk, m', news', nx, rfl, F, N, hn, ho, ha, hj⟩
section
variable {prog : Program} {w : World} {A : Around} {E : Value → Shared → Prop} {s : Shared} {env : Env} {h₀ : Heap} {target : Expr} {body : List Stmt} {Q : Flow → Shared → Prop}
theorem loopG1 {I : Addr} {fp wr : List Addr} {n : Nat} {P : Nat → Value → Prop} {St : Nat → Heap → Prop} {m₀ : Str → Option Value} {news : List (Addr × Obj)} (J : Nat → (Str → Option Value) → List (Addr × Obj) → Prop)
    (W : Walks prog w A I fp wr n P St) (hlive : ∀ i h, St i h → ∀ b ∈ fp, ∃ o, h.get? b = some o) (hLf : env.locals ∉ fp) (hwr : ∀ b ∈ wr, h₀.get? b = none) (hfp : ∀ q ∈ news, q.1 ∉ fp) (hst : St 0 s.heap) (F : Fr h₀ env.locals s.heap m₀) (N : News h₀ env.locals s.heap news) (hj : J 0 m₀ news)
    (hE : PassesOwn (model prog w) A env E) (ht : ∀ v, letOwnedTupleGo target (.ref I) v = pure ())
    (turn : ∀ i v m₁ nx h tk own, i < n → P i v → OwnOff own (nx.map (·.1)) → (∀ b ∈ fp, h₀.get? b = none → ∃ o, (b, o) ∈ own) → J i m₁ nx → Fr h₀ env.locals h m₁ → News h₀ env.locals h (nx ++ own) →
      wpAny (model prog w) A (assign target env v) (fun _ s₂ => wpAny (model prog w) A (execs body env) (PostG h₀ env.locals (J (i + 1)) own { s with heap := h, toks := tk } Q) E s₂) E { s with heap := h, toks := tk })
    (done : ∀ m₁ nx h tk, (∃ h₂, St n h₂ ∧ ∀ b o, b ∉ wr → h₂.get? b = some o → h.get? b = some o) → J n m₁ nx → Fr h₀ env.locals h m₁ → News h₀ env.locals h nx → Q .next { s with heap := h, toks := tk }) :
    codeAny (model prog w) A (.forLoop target (.ref I) body [] env) (fun r s' => match r with | .ok f => Q f s' | .error e => cameBackBy (model prog w) A env E e s') s := by
  have hLw : env.locals ∉ wr := fun h => hLf (W.sub _ h)
  have old : ∀ b o, h₀.get? b = some o → b ∉ wr := fun b o e hb => by rw [hwr b hb] at e; cases e
  refine codeAny_forLoop
    (fun k s' => ∃ h' tk m' news' i, s' = { s with heap := h', toks := tk } ∧ St i h' ∧ Fr h₀ env.locals h' m' ∧ News h₀ env.locals h' news' ∧ (∀ p ∈ news', p.1 ∉ fp) ∧ J i m' news' ∧ i ≤ n ∧ k = n + 1 - i) ?_ (n + 1)
    ⟨s.heap, s.toks, m₀, news, 0, rfl, hst, F, N, hfp, hj, Nat.zero_le _, rfl⟩ ht
  rintro k s' ⟨h', tk, m', news', i, rfl, hst', F', N', hnw', hJ, hi, rfl⟩
  have next : ∀ h₁ : Heap, (∀ b o, b ∉ wr → h'.get? b = some o → h₁.get? b = some o) → Fr h₀ env.locals h₁ m' ∧ News h₀ env.locals h₁ news' := fun h₁ hk₁ =>
    ⟨⟨F'.ns.at' fun o e => hk₁ _ o hLw e, fun b o e => hk₁ b o (old b o e) (F'.keep b o e), F'.above⟩, fun p hp => ⟨hk₁ _ _ (fun q => hnw' p hp (W.sub _ q)) (N' p hp).1, (N' p hp).2⟩⟩
  by_cases hlt : i < n
  · refine W.item i _ _ _ hlt hst' fun v h₁ tk₁ hP hst₁ hk₁ => ?_
    obtain ⟨F₁, N₁⟩ := next h₁ hk₁
    have Nown : News h₀ env.locals h₁ (ownOf h₀ fp h₁) := news_ownOf hLf
    have hoff : OwnOff (ownOf h₀ fp h₁) (news'.map (·.1)) := by
      intro p hp b hb e
      obtain ⟨q, hq, rfl⟩ := List.mem_map.mp hb
      exact hnw' q hq (e ▸ ownOf_sub p hp)
    refine wpAny_passesOwn hE (wpAny_mono (turn i v m' news' h₁ tk₁ (ownOf h₀ fp h₁) hlt hP hoff (fun b hb hn => let ⟨o, ho⟩ := hlive _ _ hst₁ b hb; ⟨o, mem_ownOf hb hn ho⟩) hJ F₁ (N₁.append Nown)) (fun _ s₂ h₂ => wpAny_passesOwn hE (wpAny_mono h₂ (fun f s₃ h₃ => ?_) fun _ _ e => e)) fun _ _ e => e)
    have fin : EndG h₀ env.locals (J (i + 1)) (ownOf h₀ fp h₁) { s with heap := h₁, toks := tk₁ } s₃ → ∃ m, m < n + 1 - i ∧ ∃ h' tk m' news' j, s₃ = { s with heap := h', toks := tk } ∧ St j h' ∧ Fr h₀ env.locals h' m' ∧ News h₀ env.locals h' news' ∧ (∀ p ∈ news', p.1 ∉ fp) ∧ J j m' news' ∧ j ≤ n ∧ m = n + 1 - j := by
      rintro ⟨h₃', tk₃, m₂, news₂, nx, rfl, F₃, N₃, hn₃, ho₃, ha₃, hJ₃⟩
      refine ⟨n + 1 - (i + 1), by omega, h₃', tk₃, m₂, nx, i + 1, rfl, ?_, F₃, fun p hp => N₃ p (hn₃ p hp), fun p hp hb => ?_, hJ₃, hlt, rfl⟩
      · refine W.frame _ _ _ hst₁ fun b hb o e => ?_
        cases hn : h₀.get? b with
        | some o₀ =>
          have : o₀ = o := by have := F₁.keep b o₀ hn; rw [e] at this; exact (Option.some.inj this).symm
          exact this ▸ F₃.keep b o₀ hn
        | none => exact (N₃ _ (ho₃ _ (mem_ownOf hb hn e))).1
      · cases hn : h₀.get? p.1 with
        | some o₀ => rw [(N₃ p (hn₃ p hp)).2.2] at hn; cases hn
        | none =>
          obtain ⟨o, ho⟩ := hlive _ _ hst₁ _ hb
          exact ha₃ p hp (p.1, o) (mem_ownOf hb hn ho) rfl
    cases f with
    | ret v => exact h₃
    | brk => exact h₃
    | cont => exact fin h₃
    | next => exact fin h₃
  · have hin : i = n := by omega
    subst hin
    refine W.done _ _ _ hst' fun h₁ tk₁ hk₁ => wpAny_execs_nil ?_
    obtain ⟨F₁, N₁⟩ := next h₁ hk₁
    exact done m' news' h₁ tk₁ ⟨h', hst', hk₁⟩ hJ F₁ N₁
theorem loopG {I : Addr} {fp wr : List Addr} {n : Nat} {P : Nat → Value → Prop} {St : Nat → Heap → Prop} {m₀ : Str → Option Value} {news : List (Addr × Obj)} (J : Nat → (Str → Option Value) → List (Addr × Obj) → Prop)
    (W : Walks prog w A I fp wr n P St) (hlive : ∀ i h, St i h → ∀ b ∈ fp, ∃ o, h.get? b = some o) (hLf : env.locals ∉ fp) (hwr : ∀ b ∈ wr, h₀.get? b = none) (hfp : ∀ q ∈ news, q.1 ∉ fp) (hst : St 0 s.heap) (F : Fr h₀ env.locals s.heap m₀) (N : News h₀ env.locals s.heap news) (hj : J 0 m₀ news)
    (hE : PassesOwn (model prog w) A env E) (ht : ∀ v, letOwnedTupleGo target (.ref I) v = pure ())
    (turn : ∀ i v m₁ nx h tk own, i < n → P i v → OwnOff own (nx.map (·.1)) → J i m₁ nx → Fr h₀ env.locals h m₁ → News h₀ env.locals h (nx ++ own) →
      wpAny (model prog w) A (assign target env v) (fun _ s₂ => wpAny (model prog w) A (execs body env) (PostG h₀ env.locals (J (i + 1)) own { s with heap := h, toks := tk } Q) E s₂) E { s with heap := h, toks := tk })
    (done : ∀ m₁ nx h tk, J n m₁ nx → Fr h₀ env.locals h m₁ → News h₀ env.locals h nx → Q .next { s with heap := h, toks := tk }) :
    codeAny (model prog w) A (.forLoop target (.ref I) body [] env) (fun r s' => match r with | .ok f => Q f s' | .error e => cameBackBy (model prog w) A env E e s') s :=
  loopG1 J W hlive hLf hwr hfp hst F N hj hE ht (fun i v m₁ nx h tk own hi hP ho _ => turn i v m₁ nx h tk own hi hP ho) fun m₁ nx h tk _ => done m₁ nx h tk
/-- for a name over a list object, whatever it holds -/
theorem loopG_list {l : Addr} {vs : List Value} {m₀ : Str → Option Value} {news : List (Addr × Obj)} (J : Nat → (Str → Option Value) → List (Addr × Obj) → Prop)
    (hh : A.handled = none) (hl : s.heap.IsList l vs.toArray) (hlL : l ≠ env.locals) (hln : ∀ q ∈ news, q.1 ≠ l) (F : Fr h₀ env.locals s.heap m₀) (N : News h₀ env.locals s.heap news) (hj : J 0 m₀ news)
    (hE : PassesOwn (model prog w) A env E) (ht : ∀ I v, letOwnedTupleGo target (.ref I) v = pure ())
    (turn : ∀ i v m₁ nx h tk own, vs[i]? = some v → OwnOff own (nx.map (·.1)) → J i m₁ nx → Fr h₀ env.locals h m₁ → News h₀ env.locals h (nx ++ own) →
      wpAny (model prog w) A (assign target env v) (fun _ s₂ => wpAny (model prog w) A (execs body env) (PostG h₀ env.locals (J (i + 1)) own { s with heap := h, toks := tk } Q) E s₂) E { s with heap := h, toks := tk })
    (done : ∀ m₁ nx h tk, J vs.length m₁ nx → Fr h₀ env.locals h m₁ → News h₀ env.locals h nx → Q .next { s with heap := h, toks := tk }) :
    wpAny (model prog w) A (pyIter (.ref l)) (fun it s₂ => codeAny (model prog w) A (.forLoop target it body [] env) (fun r s' => match r with | .ok f => Q f s' | .error e => cameBackBy (model prog w) A env E e s') s₂) E s := by
  obtain ⟨ol, hol, _⟩ := id hl
  have hne : l ≠ s.heap.objs.size := Nat.ne_of_lt (Heap.lt_size hol)
  refine wpAny_pyIter_list hl ?_
  have W := Walks.list (prog := prog) (w := w) hh s.heap.objs.size l hne vs.toArray
  have hlen : vs.toArray.size = vs.length := by simp
  rw [hlen] at W
  have F₁ := F.push { cls := .type "list_iterator", data := .fields #[.ref l, .int 0 0] }
  have N₁ : News h₀ env.locals (s.heap.push { cls := .type "list_iterator", data := .fields #[.ref l, .int 0 0] }) news := fun p hp => ⟨Heap.get?_push_of_some _ (N p hp).1, (N p hp).2⟩
  refine loopG (s := { s with heap := s.heap.push { cls := .type "list_iterator", data := .fields #[.ref l, .int 0 0] } }) J W ?_ ?_ ?_ ?_ ⟨⟨_, Heap.get?_push_size _ rfl, rfl, rfl⟩, hl.push _⟩ F₁ N₁ hj hE (ht _) ?_ done
  · rintro i h ⟨⟨o, ho, _⟩, ⟨o', ho', _⟩⟩ b hb
    rcases List.mem_cons.mp hb with rfl | hb
    · exact ⟨o, ho⟩
    · rw [List.mem_singleton.mp hb]
      exact ⟨o', ho'⟩
  · intro hm
    rcases List.mem_cons.mp hm with e | hm
    · exact absurd F.ns.lt (e ▸ Nat.lt_irrefl _)
    · exact hlL (List.mem_singleton.mp hm).symm
  · intro b hb
    rw [List.mem_singleton.mp hb]
    exact next_is_new F
  · intro p hp hI
    rcases List.mem_cons.mp hI with e | hI
    · exact absurd (Heap.lt_size (N p hp).1) (e ▸ Nat.lt_irrefl _)
    · exact hln p hp (List.mem_singleton.mp hI)
  · intro i v m₁ nx h tk own hi hP
    exact turn i v m₁ nx h tk own (by simpa using hP)
/-- for a name over a range by ones -/
theorem loopG_range {r : Addr} {a₀ b₀ c₀ : Int} {t₀ u₀ v₀ : Tok} {n : Nat} {m₀ : Str → Option Value} {news : List (Addr × Obj)} (J : Nat → (Str → Option Value) → List (Addr × Obj) → Prop)
    (hh : A.handled = none) (hr : IsRange s.heap r a₀ b₀ c₀ t₀ u₀ v₀) (hsmall : Builtin.Range.small a₀ b₀ c₀ = true) (hn : Builtin.Range.rangeSize a₀ b₀ c₀ = (n : Int)) (F : Fr h₀ env.locals s.heap m₀) (N : News h₀ env.locals s.heap news) (hj : J 0 m₀ news)
    (hE : PassesOwn (model prog w) A env E) (ht : ∀ I v, letOwnedTupleGo target (.ref I) v = pure ())
    (turn : ∀ i t m₁ nx h tk own, i < n → OwnOff own (nx.map (·.1)) → J i m₁ nx → Fr h₀ env.locals h m₁ → News h₀ env.locals h (nx ++ own) →
      wpAny (model prog w) A (assign target env (.int (a₀ + (i : Int) * c₀) t)) (fun _ s₂ => wpAny (model prog w) A (execs body env) (PostG h₀ env.locals (J (i + 1)) own { s with heap := h, toks := tk } Q) E s₂) E { s with heap := h, toks := tk })
    (done : ∀ m₁ nx h tk, J n m₁ nx → Fr h₀ env.locals h m₁ → News h₀ env.locals h nx → Q .next { s with heap := h, toks := tk }) :
    wpAny (model prog w) A (pyIter (.ref r)) (fun it s₂ => codeAny (model prog w) A (.forLoop target it body [] env) (fun r s' => match r with | .ok f => Q f s' | .error e => cameBackBy (model prog w) A env E e s') s₂) E s := by
  refine wpAny_pyIter_range hr hsmall ?_
  have W := Walks.range (prog := prog) (w := w) hh s.heap.objs.size a₀ c₀ n
  have F₁ := F.push { cls := .type "range_iterator", data := .fields #[rawInt a₀, rawInt (Builtin.Range.rangeSize a₀ b₀ c₀), rawInt c₀] }
  have N₁ : News h₀ env.locals (s.heap.push { cls := .type "range_iterator", data := .fields #[rawInt a₀, rawInt (Builtin.Range.rangeSize a₀ b₀ c₀), rawInt c₀] }) news := fun p hp => ⟨Heap.get?_push_of_some _ (N p hp).1, (N p hp).2⟩
  refine loopG (s := { s with heap := s.heap.push { cls := .type "range_iterator", data := .fields #[rawInt a₀, rawInt (Builtin.Range.rangeSize a₀ b₀ c₀), rawInt c₀] } }) J W ?_ ?_ ?_ ?_ (by show IsRangeIter _ _ _ _ _; rw [hn]; simpa using Heap.get?_push_size _ rfl) F₁ N₁ hj hE (ht _) ?_ done
  · intro i h hs b hb
    rw [List.mem_singleton.mp hb]
    exact ⟨_, hs⟩
  · intro hm
    exact absurd F.ns.lt ((List.mem_singleton.mp hm) ▸ Nat.lt_irrefl _)
  · intro b hb
    rw [List.mem_singleton.mp hb]
    exact next_is_new F
  · intro p hp hI
    exact absurd (Heap.lt_size (N p hp).1) ((List.mem_singleton.mp hI) ▸ Nat.lt_irrefl _)
  · rintro i v m₁ nx h tk own hi ⟨t, rfl⟩
    exact turn i t m₁ nx h tk own hi
/-- the same where the frame's names stay -/
theorem loopG_rangeC {r : Addr} {a₀ b₀ c₀ : Int} {t₀ u₀ v₀ : Tok} {n : Nat} {m₀ : Str → Option Value} {news : List (Addr × Obj)} (J : Nat → List (Addr × Obj) → Prop)
    (hh : A.handled = none) (hr : IsRange s.heap r a₀ b₀ c₀ t₀ u₀ v₀) (hsmall : Builtin.Range.small a₀ b₀ c₀ = true) (hn : Builtin.Range.rangeSize a₀ b₀ c₀ = (n : Int)) (F : Fr h₀ env.locals s.heap m₀) (N : News h₀ env.locals s.heap news) (hj : J 0 news)
    (hE : PassesOwn (model prog w) A env E) (ht : ∀ I v, letOwnedTupleGo target (.ref I) v = pure ())
    (turn : ∀ i t nx h tk own, i < n → OwnOff own (nx.map (·.1)) → J i nx → Fr h₀ env.locals h m₀ → News h₀ env.locals h (nx ++ own) →
      wpAny (model prog w) A (assign target env (.int (a₀ + (i : Int) * c₀) t)) (fun _ s₂ => wpAny (model prog w) A (execs body env) (PostG h₀ env.locals (fun m nx => m = m₀ ∧ J (i + 1) nx) own { s with heap := h, toks := tk } Q) E s₂) E { s with heap := h, toks := tk })
    (done : ∀ nx h tk, J n nx → Fr h₀ env.locals h m₀ → News h₀ env.locals h nx → Q .next { s with heap := h, toks := tk }) :
    wpAny (model prog w) A (pyIter (.ref r)) (fun it s₂ => codeAny (model prog w) A (.forLoop target it body [] env) (fun r s' => match r with | .ok f => Q f s' | .error e => cameBackBy (model prog w) A env E e s') s₂) E s := by
  refine loopG_range (fun i m nx => m = m₀ ∧ J i nx) hh hr hsmall hn F N ⟨rfl, hj⟩ hE ht ?_ ?_
  · rintro i t m₁ nx h tk own hi ho ⟨rfl, hJ⟩ F' N'
    exact turn i t nx h tk own hi ho hJ F' N'
  · rintro m₁ nx h tk ⟨rfl, hJ⟩ F' N'
    exact done nx h tk hJ F' N'
theorem loopG_listC {l : Addr} {vs : List Value} {m₀ : Str → Option Value} {news : List (Addr × Obj)} (J : Nat → List (Addr × Obj) → Prop)
    (hh : A.handled = none) (hl : s.heap.IsList l vs.toArray) (hlL : l ≠ env.locals) (hln : ∀ q ∈ news, q.1 ≠ l) (F : Fr h₀ env.locals s.heap m₀) (N : News h₀ env.locals s.heap news) (hj : J 0 news)
    (hE : PassesOwn (model prog w) A env E) (ht : ∀ I v, letOwnedTupleGo target (.ref I) v = pure ())
    (turn : ∀ i v nx h tk own, vs[i]? = some v → OwnOff own (nx.map (·.1)) → J i nx → Fr h₀ env.locals h m₀ → News h₀ env.locals h (nx ++ own) →
      wpAny (model prog w) A (assign target env v) (fun _ s₂ => wpAny (model prog w) A (execs body env) (PostG h₀ env.locals (fun m nx => m = m₀ ∧ J (i + 1) nx) own { s with heap := h, toks := tk } Q) E s₂) E { s with heap := h, toks := tk })
    (done : ∀ nx h tk, J vs.length nx → Fr h₀ env.locals h m₀ → News h₀ env.locals h nx → Q .next { s with heap := h, toks := tk }) :
    wpAny (model prog w) A (pyIter (.ref l)) (fun it s₂ => codeAny (model prog w) A (.forLoop target it body [] env) (fun r s' => match r with | .ok f => Q f s' | .error e => cameBackBy (model prog w) A env E e s') s₂) E s := by
  refine loopG_list (fun i m nx => m = m₀ ∧ J i nx) hh hl hlL hln F N ⟨rfl, hj⟩ hE ht ?_ ?_
  · rintro i v m₁ nx h tk own hi ho ⟨rfl, hJ⟩ F' N'
    exact turn i v nx h tk own hi ho hJ F' N'
  · rintro m₁ nx h tk ⟨rfl, hJ⟩ F' N'
    exact done nx h tk hJ F' N'
/-- over a list object that stays in the ledger -/
theorem loopG_listK {l : Addr} {ol : Obj} {vs : List Value} {m₀ : Str → Option Value} {news : List (Addr × Obj)} (J : Nat → (Str → Option Value) → List (Addr × Obj) → Prop)
    (hh : A.handled = none) (hcl : ol.cls = .type "list") (hdl : ∃ k, ol.data = .seq vs.toArray k) (hln : ∀ q ∈ news, q.1 ≠ l) (F : Fr h₀ env.locals s.heap m₀) (N : News h₀ env.locals s.heap ((l, ol) :: news)) (hj : J 0 m₀ news)
    (hE : PassesOwn (model prog w) A env E) (ht : ∀ I v, letOwnedTupleGo target (.ref I) v = pure ())
    (turn : ∀ i v m₁ nx h tk own, vs[i]? = some v → OwnOff own (nx.map (·.1)) → (∃ o, (l, o) ∈ own) → J i m₁ nx → Fr h₀ env.locals h m₁ → News h₀ env.locals h (nx ++ own) →
      wpAny (model prog w) A (assign target env v) (fun _ s₂ => wpAny (model prog w) A (execs body env) (PostG h₀ env.locals (J (i + 1)) own { s with heap := h, toks := tk } Q) E s₂) E { s with heap := h, toks := tk })
    (done : ∀ m₁ nx h tk ol', ol'.cls = .type "list" → (∃ k, ol'.data = .seq vs.toArray k) → J vs.length m₁ nx → Fr h₀ env.locals h m₁ → News h₀ env.locals h ((l, ol') :: nx) → Q .next { s with heap := h, toks := tk }) :
    wpAny (model prog w) A (pyIter (.ref l)) (fun it s₂ => codeAny (model prog w) A (.forLoop target it body [] env) (fun r s' => match r with | .ok f => Q f s' | .error e => cameBackBy (model prog w) A env E e s') s₂) E s := by
  have zl := N _ (.head _)
  have hl : s.heap.IsList l vs.toArray := ⟨ol, zl.1, hcl, hdl⟩
  have hol := zl.1
  have N' : News h₀ env.locals s.heap news := fun p hp => N p (.tail _ hp)
  have hne : l ≠ s.heap.objs.size := Nat.ne_of_lt (Heap.lt_size hol)
  refine wpAny_pyIter_list hl ?_
  have W := Walks.list (prog := prog) (w := w) hh s.heap.objs.size l hne vs.toArray
  have hlen : vs.toArray.size = vs.length := by simp
  rw [hlen] at W
  have F₁ := F.push { cls := .type "list_iterator", data := .fields #[.ref l, .int 0 0] }
  have N₁ : News h₀ env.locals (s.heap.push { cls := .type "list_iterator", data := .fields #[.ref l, .int 0 0] }) news := fun p hp => ⟨Heap.get?_push_of_some _ (N' p hp).1, (N' p hp).2⟩
  refine loopG1 (s := { s with heap := s.heap.push { cls := .type "list_iterator", data := .fields #[.ref l, .int 0 0] } }) J W ?_ ?_ ?_ ?_ ⟨⟨_, Heap.get?_push_size _ rfl, rfl, rfl⟩, hl.push _⟩ F₁ N₁ hj hE (ht _) ?_ ?_
  · rintro i h ⟨⟨o, ho, _⟩, ⟨o', ho', _⟩⟩ b hb
    rcases List.mem_cons.mp hb with rfl | hb
    · exact ⟨_, ho⟩
    · rw [List.mem_singleton.mp hb]; exact ⟨_, ho'⟩
  · intro hm
    rcases List.mem_cons.mp hm with hm | hm
    · exact absurd F.ns.lt (hm ▸ Nat.lt_irrefl _)
    · exact zl.2.1 (List.mem_singleton.mp hm).symm
  · intro b hb
    rw [List.mem_singleton.mp hb]
    exact next_is_new F
  · intro q hq hm
    rcases List.mem_cons.mp hm with hm | hm
    · exact absurd (Heap.lt_size (N' q hq).1) (hm ▸ Nat.lt_irrefl _)
    · exact hln q hq (List.mem_singleton.mp hm)
  · intro i v m₁ nx h tk own hi hP ho hlv
    exact turn i v m₁ nx h tk own (by simpa using hP) ho (hlv l (.tail _ (.head _)) zl.2.2)
  · rintro m₁ nx h tk ⟨h₂, ⟨_, ⟨o', ho', hc', hd'⟩⟩, hk⟩ hJ F' N''
    refine done m₁ nx h tk o' hc' hd' hJ F' fun p hp => ?_
    rcases List.mem_cons.mp hp with rfl | hp
    · exact ⟨hk _ _ (fun hm => hne (List.mem_singleton.mp hm)) ho', zl.2⟩
    · exact N'' p hp
end

def factI (n : Int) : Int := ((PyProof.Rows.rangeInts 2 1 (n + 1 - 2).toNat).foldl (fun a k => a * k) 1)
theorem fold_fst : ∀ (l : List Int) (a : Int), (l.foldl (fun (σ : Int × Unit) k => (σ.fst * k, ())) (a, ())).fst = l.foldl (fun a k => a * k) a
  | [], _ => rfl
  | x :: l, a => by
    rw [List.foldl_cons, List.foldl_cons]
    exact fold_fst l (a * x)
theorem product_call (w : World) (n : Int) (t : Tok) (h0 : 0 ≤ n) (h8 : n ≤ 8) : CallP w 57 2 16 [.int n t] NoPre (IntIs (factI n)) := by
  w_top off
  intro p loose mean mg mb dp un gd cn cs a ccd cl outer A₀ base h₀ L m s Q E B F X T hk hdp hun hpre hret
  refine wpAny_call ?_
  k_dflt cell_enter
  k_steps
  exact hret _ _ _ (by assumption) ⟨_, congrArg (fun x => Value.int x _) (fold_fst _ _)⟩
local macro_rules | `(tactic| walk_at "call ref") => `(tactic| (k_here; (with_reducible show wpAny _ _ (call (Value.ref 57) [Value.int _ _]) _ _ _); k_dflt (refine' CallP.useI (product_call _ _ _ ?c0 ?c8) ?k1 ?k2 ?k3 ?k4 ?k5 ?kK ?kd ?ku trivial ?_; (case k1 => k_asm); (case k2 => k_asm); (case k3 => k_asm); (case k4 => k_asm); (case k5 => k_asm); (case kK => first | exact rfl | assumption); (case c0 => first | exact Mine.few_sub (by assumption) (by assumption) (by assumption) (by assumption) | omega); (case c8 => omega); (case kd => ktr_room); (case ku => ktr_units)); intro t9 h9 tk9 F9 N9 st9; (try dsimp only)))

local macro_rules | `(tactic| walk_at "binaryOp FloorDiv int int") => `(tactic| (k_here; refine floordiv_int (by first | exact Mine.few_ne (by assumption) (by assumption) (by assumption) (by assumption) | omega) ?_ (Or.inl (PyProof.noPylong_small (by first | exact Mine.few_abs (by assumption) (by assumption) (by assumption) (by assumption) | omega)))))
def waysI (n k : Int) : Int := (factI n).fdiv (factI k * factI (n - k))
theorem fact_pos (n : Int) (h0 : 0 ≤ n) (h8 : n ≤ 8) : 1 ≤ factI n ∧ factI n ≤ 40320 := by
  obtain rfl | rfl | rfl | rfl | rfl | rfl | rfl | rfl | rfl : n = 0 ∨ n = 1 ∨ n = 2 ∨ n = 3 ∨ n = 4 ∨ n = 5 ∨ n = 6 ∨ n = 7 ∨ n = 8 := by omega
  all_goals decide +kernel
theorem den_all : ∀ k : Fin 9, ∀ j : Fin 9, k.val + j.val ≤ 8 → 1 ≤ factI (k.val : Int) * factI (j.val : Int) ∧ factI (k.val : Int) * factI (j.val : Int) ≤ 40320 := by decide +kernel
theorem den_ok (n k : Int) (h0 : 0 ≤ k) (hk : k ≤ n) (h8 : n ≤ 8) : 1 ≤ factI k * factI (n - k) ∧ factI k * factI (n - k) ≤ 40320 := by
  have h := den_all ⟨k.toNat, by omega⟩ ⟨(n - k).toNat, by omega⟩ (by show k.toNat + (n - k).toNat ≤ 8; omega)
  have e1 : ((k.toNat : Nat) : Int) = k := by omega
  have e2 : (((n - k).toNat : Nat) : Int) = n - k := by omega
  rw [e1, e2] at h
  exact h
theorem ways_call (w : World) (n k : Int) (t u : Tok) (h0 : 0 ≤ k) (hk : k ≤ n) (h8 : n ≤ 8) : CallP w 64 4 32 [.int n t, .int k u] NoPre (IntIs (waysI n k)) := by
  w_top off
  intro p loose mean mg mb dp un gd cn cs a ccd cl outer A₀ base h₀ L m s Q E B F X T hks hdp hun hpre hret
  have b1 := fact_pos n (by omega) (by omega)
  have b2 := fact_pos k (by omega) (by omega)
  have b3 := fact_pos (n - k) (by omega) (by omega)
  have b4 := den_ok n k h0 hk h8
  refine wpAny_call ?_
  k_dflt cell_enter
  k_steps
  exact hret _ _ _ (by assumption) ⟨_, rfl⟩
local macro_rules | `(tactic| walk_at "call ref") => `(tactic| (k_here; (with_reducible show wpAny _ _ (call (Value.ref 64) [Value.int _ _, Value.int _ _]) _ _ _); k_dflt (refine' CallP.useI (ways_call _ _ _ _ _ ?c0 ?c1 ?c8) ?k1 ?k2 ?k3 ?k4 ?k5 ?kK ?kd ?ku trivial ?_; (case k1 => k_asm); (case k2 => k_asm); (case k3 => k_asm); (case k4 => k_asm); (case k5 => k_asm); (case kK => first | exact rfl | assumption); (case c0 => omega); (case c1 => first | exact Mine.few_le (by assumption) (by assumption) (by assumption) (by assumption) | omega); (case c8 => omega); (case kd => ktr_room); (case ku => ktr_units)); intro t9 h9 tk9 F9 N9 st9; (try dsimp only)))

def hitsL (ks : List Int) : List Int := List.foldl (fun l' k' => if 0 ≤ ks.getD k'.toNat 0 ∧ ks.getD k'.toNat 0 < 256 ∧ ks.getD k'.toNat 0 = k' then l' ++ [k'] else if 0 ≤ ks.getD k'.toNat 0 ∧ ks.getD k'.toNat 0 < 256 ∧ ¬ks.getD k'.toNat 0 = k' ∧ ks.getD k'.toNat 0 = (k' + 1).fmod ↑ks.length then l' ++ [k'] else if 0 ≤ ks.getD k'.toNat 0 ∧ ks.getD k'.toNat 0 < 256 ∧ ¬ks.getD k'.toNat 0 = k' ∧ ¬ks.getD k'.toNat 0 = (k' + 1).fmod ↑ks.length then l' else l') [] (rangeKs 0 ((ks.length : Int) - 0).toNat)
def hitsI (ks : List Int) : Int := ((hitsL ks).length : Int)
theorem hits_call (w : World) (b : Array UInt8) (ks : List Int) (t : Tok) (hb : KBw.bInts b = ks) (h8 : ks.length ≤ 4) : CallP w 45 3 24 [.bytes b t] NoPre (IntIs (hitsI ks)) := by
  w_top off
  intro p loose mean mg mb dp un gd cn cs a ccd cl outer A₀ base h₀ L m s Q E B F X T hks hdp hun hpre hret
  refine wpAny_call ?_
  have hT0 : (((((ks.length : Nat) : Int) - 0).toNat : Nat) : Int) = ((ks.length : Nat) : Int) := by omega
  k_dflt cell_enter
  k_steps
  exact hret _ _ _ (by assumption) ⟨_, rfl⟩
local macro_rules | `(tactic| walk_at "call ref") => `(tactic| (k_here; (with_reducible show wpAny _ _ (call (Value.ref 45) [Value.bytes _ _]) _ _ _); k_dflt (refine' CallP.useI (hits_call _ _ _ _ ?cb ?c8) ?k1 ?k2 ?k3 ?k4 ?k5 ?kK ?kd ?ku trivial ?_; (case cb => kba_ints); (case k1 => k_asm); (case k2 => k_asm); (case k3 => k_asm); (case k4 => k_asm); (case k5 => k_asm); (case kK => first | exact rfl | assumption); (case c8 => kba_size); (case kd => ktr_room); (case ku => ktr_units)); intro t9 h9 tk9 F9 N9 st9; (try dsimp only)))

theorem compEnd_el {h₀ : Heap} {L I C D : Addr} {m : Str → Option Value} {s₁ : Shared} {oI oC oD : Obj} {S : List (Addr × Obj) → Prop} {y : Value} {h' : Heap} {tk : Nat} {all news : List (Addr × Obj)} {l r : List Int}
    (F : Fr h₀ L h' m) (N : News h₀ L h' all) (sub : ∀ p ∈ (I, oI) :: (C, oC) :: (D, oD) :: news, p ∈ all) (off : LCg.Off3 I C D news) (hS : S news) (hr : KCiEl news l r y news) :
    LCg.CompEnd h₀ L m s₁ I oI C oC D oD S (fun y news' => KCiEl news l r y news') y { s₁ with heap := h', toks := tk } := LCg.CompEnd.intro F N news sub off hS hr
theorem compEnd_no {h₀ : Heap} {L I C D : Addr} {m : Str → Option Value} {s₁ : Shared} {oI oC oD : Obj} {S : List (Addr × Obj) → Prop} {y : Value} {h' : Heap} {tk : Nat} {all news : List (Addr × Obj)} {l r : List Int}
    (F : Fr h₀ L h' m) (N : News h₀ L h' all) (sub : ∀ p ∈ (I, oI) :: (C, oC) :: (D, oD) :: news, p ∈ all) (off : LCg.Off3 I C D news) (hS : S news) (hr : KCiNo news l r news) :
    LCg.CompEnd h₀ L m s₁ I oI C oC D oD S (fun _ news' => KCiNo news l r news') y { s₁ with heap := h', toks := tk } := LCg.CompEnd.intro F N news sub off hS hr
local macro_rules | `(tactic| walk_at "CompEnd") => `(tactic| (k_here; k_dflt (first | (refine' compEnd_el ?F ?N ?sub ?off ?S ?_) | (refine' compEnd_no ?F ?N ?sub ?off ?S ?_)); (case F => k_asm); (case N => k_asm); (case sub => kcf_all); (case off => first | assumption | (simp only [LCg.Off3, and_true]; done) | (simp only [LCg.Off3, and_true]; assumption)); (case S => first | lcg_src | assumption)))
local macro_rules | `(tactic| walk_at "eval Name") => `(tactic| (k_here; k_dflt (refine' nameX_C ?N ?c ?m ?d ?_ ?a ?b ?e; (case a => rfl); (case b => rfl); (case e => decide); (case N => k_asm); (case c => rfl); (case m => k_mem); (case d => k_asm))))
/-- of a def that hands back a new list of ints -/
abbrev IntsOut (ns : List Int) : Heap → Heap → Value → Prop := fun g h r => ∃ l vs k, r = .ref l ∧ h.get? l = some (W.listOf (List.toArray vs) k) ∧ g.get? l = none ∧ IntsAre vs ns
abbrev placesL (n : Int) (lot : Int) : List Int := List.foldl (fun l' k' => if (lot.fdiv (2 ^ k'.toNat)).fmod 2 = 1 then l' ++ [k'] else l') [] (rangeKs 0 (2 * n - 0).toNat)
abbrev nearL (n : Int) (lot : Int) : List Int := List.map (fun a => a) (List.filter (fun a => (placesL n lot).any fun x => x == (a + 1).fmod (2 * n)) (placesL n lot))
def chosenAcc (n : Int) : Nat → List Int
  | 0 => List.replicate (n + 1).toNat 0
  | i + 1 => if decide (nearL n (i : Int) = []) = true then (chosenAcc n i).set ((placesL n (i : Int)).length : Int).toNat ((chosenAcc n i).getD ((placesL n (i : Int)).length : Int).toNat 0 + 1) else chosenAcc n i
theorem chosenAcc_length (n : Int) : ∀ i, (chosenAcc n i).length = (n + 1).toNat
  | 0 => by simp [chosenAcc]
  | i + 1 => by
    unfold chosenAcc
    split
    · rw [List.length_set]; exact chosenAcc_length n i
    · exact chosenAcc_length n i
theorem bound3 : ((List.range 64).all fun i => !(decide (nearL 3 (i : Int) = [])) || decide ((placesL 3 (i : Int)).length ≤ 3)) = true := by decide +kernel
theorem bound4 : ((List.range 256).all fun i => !(decide (nearL 4 (i : Int) = [])) || decide ((placesL 4 (i : Int)).length ≤ 4)) = true := by decide +kernel
theorem chosenAcc_yes {n : Int} {i : Nat} (h : decide (nearL n (i : Int) = []) = true) : chosenAcc n (i + 1) = (chosenAcc n i).set ((placesL n (i : Int)).length : Int).toNat ((chosenAcc n i).getD ((placesL n (i : Int)).length : Int).toNat 0 + 1) := by
  rw [chosenAcc, if_pos h]
theorem chosenAcc_no {n : Int} {i : Nat} (h : decide (nearL n (i : Int) = []) = false) : chosenAcc n (i + 1) = chosenAcc n i := by
  rw [chosenAcc, if_neg (by rw [h]; exact Bool.false_ne_true)]
theorem lots_small {n : Int} (h0 : 3 ≤ n) (h4 : n ≤ 4) : Builtin.Range.small 0 (2 ^ (2 * n).toNat) 1 = true := by
  obtain rfl | rfl : n = 3 ∨ n = 4 := by omega
  all_goals decide +kernel
theorem lots_size {n : Int} (h0 : 3 ≤ n) (h4 : n ≤ 4) : Builtin.Range.rangeSize 0 (2 ^ (2 * n).toNat) 1 = ((2 ^ (2 * n).toNat : Nat) : Int) := by
  obtain rfl | rfl : n = 3 ∨ n = 4 := by omega
  all_goals decide +kernel
def ChosenMark : Prop := True
theorem chosen_bound {n : Int} {i : Nat} (h0 : 3 ≤ n) (h4 : n ≤ 4) (hi : i < 2 ^ (2 * n).toNat) (h : decide (nearL n (i : Int) = []) = true) : ((List.foldl (fun l' k' => if ((i : Int).fdiv (2 ^ k'.toNat)).fmod 2 = 1 then l' ++ [k'] else l') [] (rangeKs 0 (2 * n - 0).toNat)).length : Int) ≤ n := by
  show ((placesL n (i : Int)).length : Int) ≤ n
  obtain rfl | rfl : n = 3 ∨ n = 4 := by omega
  · have := List.all_eq_true.mp bound3 i (List.mem_range.mpr (by simpa using hi))
    rw [h] at this
    have := of_decide_eq_true (by simpa using this)
    omega
  · have := List.all_eq_true.mp bound4 i (List.mem_range.mpr (by simpa using hi))
    rw [h] at this
    have := of_decide_eq_true (by simpa using this)
    omega
local macro_rules | `(tactic| walk_at "exec AugAssign Subscript") => `(tactic| (k_here; (fail_if_success (have hMk : ChosenMark := by with_reducible assumption)); (have hCB := chosen_bound (by with_reducible assumption) (by with_reducible assumption) (by with_reducible assumption) (by assumption)); (have hMk : ChosenMark := True.intro); walk_at "exec AugAssign Subscript"))
theorem chosen_call (w : World) (n : Int) (t : Tok) (h0 : 3 ≤ n) (h4 : n ≤ 4) : CallP w 50 3 128 [.int n t] NoPre (IntsOut (chosenAcc n (2 ^ (2 * n).toNat))) := by
  w_top off
  intro p loose mean mg mb dp un gd cn cs a ccd cl outer A₀ base h₀ L m s Q E B F X T hks hdp hun hpre hret
  refine wpAny_call ?_
  k_dflt cell_enter
  k_steps
  refine wpAny_For ?_ (by intro _; rfl)
  k_steps
  rename_i L1 h1 tk1 B1 X1 T1 oP oL oM dP dL dM l1 h2 q1 D1 h3 i1 n1 s1 e1 e2 e3 q2 h4' F4 N4 h5 tk5 t1 u1 v1 hr kF kN kk
  have dM' : oM.data = .cell (some (.int n t)) := dM.trans (by with_unfolding_all rfl)
  have kN2 : News s.heap L1 h5 [(D1, W.listOf (List.replicate (n + 1).toNat [Value.int 0 tk1]).flatten.toArray 0), (L1 + 1 + 1 + 1, oP), (L1 + 1 + 1, oL), (L1 + 1, oM)] := newsSub kN fun q hq => by
    rcases List.mem_cons.mp hq with rfl | hq
    · exact .head _
    · exact .tail _ (.tail _ hq)
  refine loopG_rangeC (n := (2 ^ (2 * n).toNat)) (fun i nx => ∃ vs o₁ o₂ v₁ v₂, nx = [(D1, W.listOf (List.toArray vs) 0), (L1 + 1 + 1 + 1, o₁), (L1 + 1 + 1, o₂), (L1 + 1, oM)] ∧ IntsAre vs (chosenAcc n i) ∧ o₁.data = .cell v₁ ∧ o₂.data = .cell v₂) ?c1 hr ?c2 ?c3 kF kN2 ?c4 ?c5 ?c6 ?c7 ?c8
  case c1 => rfl
  case c2 => exact lots_small h0 h4
  case c3 => exact lots_size h0 h4
  case c4 =>
    refine ⟨_, _, _, _, _, rfl, ?_, dP, dL⟩
    have e : chosenAcc n 0 = (List.replicate (n + 1).toNat [(0 : Int)]).flatten := by simp [chosenAcc]
    rw [e]
    exact i1
  case c5 => exact PassesOwn.never
  case c6 => intro _ _; rfl
  case c8 =>
    rintro nx h6 tk6 ⟨vs, o₁, o₂, v₁, v₂, rfl, hI, d1, d2⟩ F6 N6
    k_steps
    rename_i kS kN
    exact hret _ _ _ kS ⟨D1, vs, 0, rfl, (kN _ (.head _)).1, (kN _ (.head _)).2.2, hI⟩
  case c7 =>
    rintro i t6 nx h6 tk6 own hi ho ⟨vs, o₁, o₂, v₁, v₂, rfl, hI, d1, d2⟩ F6 N6
    simp only [List.map_cons, List.map_nil, List.cons_append, List.nil_append] at ho N6
    have hlen : ((chosenAcc n i).length : Int) = n + 1 := by rw [chosenAcc_length]; omega
    rw [show ((0 : Int) + (i : Int) * 1) = (i : Int) by omega]
    have hT7 : ((((2 : Int) * n - 0).toNat : Nat) : Int) = 2 * n := by omega
    refine wpAny_assign_Name ?_
    k_steps
    all_goals (
      refine' EndG.intro _ (by assumption) (by assumption) ⟨rfl, _, _, _, _, _, rfl, ?hI, ?h1, ?h2⟩ ?hn ?ho ?ha
      (case hn => k_allIn)
      (case ho => intro p hp; k_ownIn)
      (case h1 => assumption)
      (case h2 => assumption)
      (case ha => exact fun p hp q hq e => ho q hq p.1 (List.mem_map_of_mem hp) e.symm)
      (case hI => first | (rw [chosenAcc_no (by assumption)]; assumption) | (rw [chosenAcc_yes (by assumption)]; assumption)))
theorem chosen3 : chosenAcc 3 (2 ^ (2 * 3 : Int).toNat) = [1, 6, 9, 2] := by decide +kernel
theorem chosen4 : chosenAcc 4 (2 ^ (2 * 4 : Int).toNat) = [1, 8, 20, 16, 2] := by decide +kernel

theorem codeS_builtin {prog : Program} {w : World} {A : Around} {R : Result → Shared → Prop} {s : Shared} {id : String} {args : Args} {b : Builtin} (hc : cleanC (.builtin id args) = true) (hb : entryFor table id = some b)
    (h : wpS (model prog w) (A.under (.builtin id args)) (b args) (fun fin s' => match fin with | .done f => R (.ok f) s' | .again c' => c'.quiet = true ∧ codeS (model prog w) A c' R s') (fun e s' => R (.error e) s') s) :
    codeS (model prog w) A (.builtin id args) R s := by
  refine codeS_of_tree hc ?_
  show wpS _ _ (match entryFor table id with | some b => b args | none => unsupported ((withoutEnding? id "#data").getD id)) _ _ s
  rw [hb]; exact h
theorem mro_ba : mroOf (.type "bytearray") = pure [.type "bytearray", .type "object"] := by rw [mroOf_type]; kernel_rfl
theorem lookup_ba_new : typeLookup (.type "bytearray") "__new__" = pure (some (.builtin "bytearray.__new__")) := by rw [typeLookup_type, builtinLookup_eq_fast]; kernel_rfl
theorem slot_ba_init : Slot "bytearray" "__init__" "bytearray.__init__" :=
  .of (owner := "bytearray") (n := "__init__") (by rw [typeLookup_type, builtinLookup_eq_fast]; kernel_rfl) (by decide +kernel) (by decide +kernel) (by decide +kernel)
    (by first | exact .inl (by decide +kernel) | exact .inr (by decide +kernel)) (by rw [isSubtype_type]; kernel_rfl)
theorem made_ba : Bind.madeBy (.type "bytearray") = pure (some "bytearray.__new__") := madeBy_type mro_ba lookup_ba_new (by decide +kernel)
theorem sub_ba : isSubtype (.type "bytearray") (.type "bytearray") = pure true := by rw [isSubtype_type]; kernel_rfl
theorem typeCall_ba (a : Value) : checkTypeCall "bytearray" ⟨[a], []⟩ = pure () := by kernel_rfl
theorem newCall_ba (a : Value) : checkBuiltinCall "bytearray.__new__" ⟨[.type "bytearray", a], []⟩ = pure () := by kernel_rfl
theorem entry_ba_init : entryFor table "bytearray.__init__" = some Builtin.«bytearray.__init__» := entryFor_of_tree (by kernel_rfl)
theorem plain_ba_new : plainId "bytearray.__new__" = true := by decide +kernel
theorem args_ba_init (a b : Value) : argsOk "bytearray.__init__" ⟨[a, b], []⟩ := by unfold argsOk; kernel_rfl
theorem bind_ba (v : Value) : Builtin.Bytes.bindOptional "bytearray.__init__" "bytearray" ["source", "encoding", "errors"] [v] [] = pure [some v, none, none] := by kernel_rfl
theorem release_ba : typeLookup (.type "bytearray") "__release_buffer__" = pure (some (.builtin "bytearray.__release_buffer__")) := by rw [typeLookup_type, builtinLookup_eq_fast]; kernel_rfl
theorem clean_ba_init (args : Args) : cleanC (.builtin "bytearray.__init__" args) = true := by show (!Builtin.Bytes.decodersThatHold.contains "bytearray.__init__") = true; decide +kernel
theorem clean_type_call (args : Args) : cleanC (.builtin "type.__call__" args) = true := by show (!Builtin.Bytes.decodersThatHold.contains "type.__call__") = true; decide +kernel
theorem wpS_no {α : Type} {M : Model} {A : Around} {E : Value → Shared → Prop} {s : Shared} {c : Prop} [Decidable c] {a b : Sem α} {Q : α → Shared → Prop} (hc : ¬ c) (h : wpS M A b Q E s) : wpS M A (if c then a else b) Q E s := by rw [if_neg hc]; exact h
theorem wpS_yes {α : Type} {M : Model} {A : Around} {E : Value → Shared → Prop} {s : Shared} {c : Prop} [Decidable c] {a b : Sem α} {Q : α → Shared → Prop} (hc : c) (h : wpS M A a Q E s) : wpS M A (if c then a else b) Q E s := by rw [if_pos hc]; exact h
theorem entry_ba_new : entryFor table "bytearray.__new__" = some Builtin.«list.__new__» := by
  exact entryFor_alias (id' := "list.__new__") (by kernel_rfl) (by first | rfl | decide +kernel) (by decide +kernel) (by kernel_rfl)
theorem owner_ba_new : ("bytearray.__new__".splitOn ".__new__").headD "" = "bytearray" := by rw [split_bytearray]; rfl
section
variable {prog : Program} {w : World} {A : Around} {E : Value → Shared → Prop} {s : Shared}
theorem ownRelease_ba {M : Model} {v : Value} {Q : Bool → Shared → Prop} (hT : s.TypeIs v "bytearray") (h : Q false s) : wpAny M A (Builtin.Bytes.ownRelease v) Q E s := by
  unfold Builtin.Bytes.ownRelease
  refine wpAny_bind ?_
  unfold Builtin.Bytes.slotIsOwn
  refine wpAny_bind (wpAny_specialOf hT release_ba ?_)
  have h1 : ("bytearray.__release_buffer__".endsWith ("." ++ "__release_buffer__")) = true := by decide +kernel
  have h2 : ("bytearray.__release_buffer__".dropRight ("__release_buffer__".length + 1)) = "bytearray" := by decide +kernel
  simp only [h1, h2, Bool.not_true, Bool.false_eq_true, if_false]
  exact wpAny_isInstance hT sub_ba (wpAny_pure h)
abbrev baObj (b : Array UInt8) : Obj := { cls := .type "bytearray", data := .bytearray b }
theorem write_ba {M : Model} {a : Addr} {b : Array UInt8} {f : Array UInt8 → Array UInt8} {Q : Unit → Shared → Prop} (ho : s.heap.get? a = some (baObj b)) (hz : (f b).size ≤ sizeLine)
    (h : ∀ h', h'.get? a = some (baObj (f b)) → Heap.SameBut a s.heap h' → Q () { s with heap := h' }) : wpAny M A (Builtin.Bytes.write (.ref a) f) Q E s := by
  show wpAny M A (updateBytearray a f) Q E s
  unfold updateBytearray
  refine wpAny_bind (wpAny_load ho ?_)
  refine wpAny_bind (wpAny_update ho ?_)
  have h2 : (s.heap.update a (Obj.mapBytearray f)).get? a = some (baObj (f b)) := Heap.get?_update_self (Obj.mapBytearray f) ho rfl
  refine wpAny_lookBehind h2 ?_ (h _ h2 (Heap.SameBut.update ..))
  show (if (f b).size > sizeLine then some "bytearray:memory" else none) = none
  rw [if_neg (Nat.not_lt.mpr hz)]
theorem index_int : typeLookup (.type "int") "__index__" = pure (some (.builtin "int.__index__")) := by rw [typeLookup_type, builtinLookup_eq_fast]; kernel_rfl
theorem code_ba_new (a : Value) {Q₁ : Value → Shared → Prop} (h : Q₁ (.ref s.heap.objs.size) { s with heap := s.heap.push { cls := .type "bytearray", data := .bytearray #[] } }) :
    codeAny (model prog w) A (.call (.builtin "bytearray.__new__") ⟨[.type "bytearray", a], []⟩) (wants Q₁ E) s := by
  refine codeAny_of_tree ?_
  show wpAny _ A.in1 (do checkBuiltinCall "bytearray.__new__" ⟨[.type "bytearray", a], []⟩; again (.builtin "bytearray.__new__" ⟨[.type "bytearray", a], []⟩)) _ _ s
  refine wpAny_bind (wpAny_of_eq (newCall_ba a) (wpAny_pure ⟨plainId_quiet plain_ba_new _, codeAny_builtin_stack entry_ba_new rfl fun p st => ?_⟩))
  rw [Around.under_plainId plain_ba_new _]
  have hsub := sub_ba
  have hown := owner_ba_new
  obtain ⟨hp, g, d, tk, os⟩ := s
  simp only [hown]
  wp_walk
  exact h
theorem call_ba {n : Int} {t : Tok} {Q : Value → Shared → Prop} (hg : A.guards = some []) (h0 : 1 ≤ n) (hz : n ≤ 1000)
    (h : ∀ h', s.heap.StaysIn h' → h'.get? s.heap.objs.size = some (baObj (Array.replicate n.toNat 0)) → Q (.ref s.heap.objs.size) { s with heap := h' }) : wpS (model prog w) A (call (.type "bytearray") [.int n t]) Q E s := by
  refine wpS_call (codeS_of_tree rfl ?_)
  show wpS _ _ (callAny (.type "bytearray") _) _ _ _
  refine wpS_pure ⟨Code.quiet_builtin _ (by decide +kernel), codeS_builtin (clean_type_call _) F.entry_type_call ?_⟩
  rw [Around.under_plain (weight_type_call_type _ _ []) rfl]
  have h1 : (Value.type "bytearray" == Value.type "type") = false := by decide
  have h2 : ((Manifest.find? "bytearray").bind (·.mro.findSome? fun t => (Manifest.find? t).bind fun b => if b.noNew then some true else if b.attrs.any (·.1 == "__new__") then some false else none)).getD false = false := by decide +kernel
  unfold Builtin.«type.__call__»
  simp only [h1, h2, Bool.false_eq_true, if_false]
  refine wpS_bindA (wpAny_of_eq (typeCall_ba _) ?_)
  refine wpS_bindA (wpAny_of_eq mro_ba ?_)
  refine wpS_no (by decide) ?_
  refine wpS_bindA (wpAny_of_eq made_ba ?_)
  refine wpS_bindA (wpAny_pure ?_)
  refine wpS_bindA (wpAny_holding (wpAny_call (codeAny_mono (code_ba_new _ (Q₁ := fun v s' => v = .ref s.heap.objs.size ∧ s' = { s with heap := s.heap.push { cls := .type "bytearray", data := .bytearray #[] } }) (E := fun _ _ => False) ⟨rfl, rfl⟩) ?_)))
  rintro r s' hr
  cases r with
  | error e => exact hr.elim
  | ok fl =>
    cases fl with
    | ret v =>
      obtain ⟨rfl, rfl⟩ := hr
      have ho : (s.heap.push { cls := .type "bytearray", data := .bytearray #[] }).get? s.heap.objs.size = some { cls := .type "bytearray", data := .bytearray #[] } := Heap.get?_push_size _ rfl
      have hT : ({ s with heap := s.heap.push { cls := .type "bytearray", data := .bytearray #[] } } : Shared).TypeIs (.ref s.heap.objs.size) "bytearray" := ⟨_, ho, rfl⟩
      refine wpS_bindA (wpAny_isInstance hT sub_ba ?_)
      refine wpS_no (by decide) ?_
      refine wpS_bind (wpS_holding ?_)
      unfold callSpecial?
      refine wpS_bindA (wpAny_specialOf hT slot_ba_init.lookup ?_)
      refine wpS_holding ?_
      refine wpS_bindA (wpAny_of_eq (slot_ba_init.bind _) ?_)
      refine wpS_bind (wpS_call (codeS_of_tree rfl ?_))
      show wpS _ A.in1.in1 (do checkBuiltinCall "bytearray.__init__" ⟨[.ref s.heap.objs.size, .int n t], []⟩; again (.builtin "bytearray.__init__" ⟨[.ref s.heap.objs.size, .int n t], []⟩)) _ _ _
      refine wpS_bindA (slot_ba_init.check _ _ _ _ _ _ _ _ hT (args_ba_init _ _) (wpS_pure ⟨plainId_quiet slot_ba_init.plain _, codeS_builtin (clean_ba_init _) entry_ba_init ?_⟩))
      rw [Around.under_plainId slot_ba_init.plain _]
      unfold Builtin.«bytearray.__init__»
      refine wpS_bindA (ownRelease_ba hT ?_)
      dsimp only
      refine wpS_no (by decide) ?_
      refine wpS_bindA (wpAny_of_eq (bind_ba _) ?_)
      dsimp only
      refine wpS_bindA (wpAny_of_eq (a := ()) rfl ?_)
      refine wpS_bindA (wpAny_of_eq (a := ()) rfl ?_)
      refine wpS_bind ?_
      unfold orM
      refine wpS_bind (wpS_exported (by exact hg) ?_)
      dsimp only [toBool]
      refine wpS_of (wpAny_bind ?_)
      unfold Builtin.Bytes.exportsOf
      refine wpAny_bind (wpAny_load ho (wpAny_pure (wpAny_pure ?_)))
      refine wpS_no (by decide) ?_
      refine wpS_of ?_
      refine wpAny_bind (write_ba ho (Nat.zero_le _) fun h₁ g₁ b₁ => ?_)
      refine wpAny_bind (wpAny_of_eq (a := none) rfl ?_)
      simp only [Option.isSome_none, Bool.false_eq_true, if_false]
      refine wpAny_bind (wpAny_pure ?_)
      refine wpAny_bind (wpAny_specialOf (typeIs_int _ _ _) index_int ?_)
      simp only [Option.isSome_some, if_true]
      refine wpAny_bind (wpAny_attempt (wpAny_of_eq (a := n) rfl ?_))
      have f1 : Builtin.Bytes.fitsIndex n = true := by simp only [Builtin.Bytes.fitsIndex, Bool.and_eq_true, decide_eq_true_eq]; omega
      have f2 : ¬ n < 0 := by omega
      have f3 : (n == 2 ^ 63 - 1) = false := by simp; omega
      have f4 : Builtin.Bytes.tooLong n.toNat = false := by simp [Builtin.Bytes.tooLong, sizeLine]; omega
      simp only [f1, f2, f3, f4, Bool.not_true, Bool.false_eq_true, if_false]
      refine wpAny_bind (wpAny_rule ?_)
      rw [if_pos (by omega)]
      refine wpAny_bind (write_ba g₁ (by simp only [Array.size_replicate, sizeLine]; omega) fun h₂ g₂ b₂ => ?_)
      refine wpAny_pure ?_
      refine wpS_pure ?_
      dsimp only
      refine wpS_no (by decide) ?_
      refine wpS_pure ?_
      refine h h₂ (fun b o e => ?_) g₂
      have hb : b ≠ s.heap.objs.size := Nat.ne_of_lt (Heap.lt_size e)
      exact (b₂.2 b hb).trans ((b₁.2 b hb).trans (Heap.get?_push_of_some _ e))
    | _ => exact hr.elim
end

theorem slot_ba_set : Slot "bytearray" "__setitem__" "bytearray.__setitem__" :=
  .of (owner := "bytearray") (n := "__setitem__") (by rw [typeLookup_type, builtinLookup_eq_fast]; kernel_rfl) (by decide +kernel) (by decide +kernel) (by decide +kernel)
    (by first | exact .inl (by decide +kernel) | exact .inr (by decide +kernel)) (by rw [isSubtype_type]; kernel_rfl)
theorem entry_ba_set : entryFor table "bytearray.__setitem__" = some Builtin.«bytearray.__setitem__» := entryFor_of_tree (by kernel_rfl)
theorem args_ba_set (a b c : Value) : argsOk "bytearray.__setitem__" ⟨[a, b, c], []⟩ := by unfold argsOk; kernel_rfl
theorem buffer_ba : typeLookup (.type "bytearray") "__buffer__" = pure (some (.builtin "bytearray.__buffer__")) := by rw [typeLookup_type, builtinLookup_eq_fast]; kernel_rfl
theorem noBytes_ba : typeLookup (.type "bytearray") "__bytes__" = pure none := by rw [typeLookup_type, builtinLookup_eq_fast]; kernel_rfl
theorem noIndex_ba : typeLookup (.type "bytearray") "__index__" = pure none := by rw [typeLookup_type, builtinLookup_eq_fast]; kernel_rfl
theorem noBytes_range : typeLookup (.type "range") "__bytes__" = pure none := by rw [typeLookup_type, builtinLookup_eq_fast]; kernel_rfl
theorem noIndex_range : typeLookup (.type "range") "__index__" = pure none := by rw [typeLookup_type, builtinLookup_eq_fast]; kernel_rfl
theorem noBuffer_range : typeLookup (.type "range") "__buffer__" = pure none := by rw [typeLookup_type, builtinLookup_eq_fast]; kernel_rfl
theorem len_range : typeLookup (.type "range") "__len__" = pure (some (.builtin "range.__len__")) := by rw [typeLookup_type, builtinLookup_eq_fast]; kernel_rfl
theorem sub_range : isSubtype (.type "range") (.type "range") = pure true := by rw [isSubtype_type]; kernel_rfl
theorem split_range : splitId "range.__len__" = some ("range", "__len__") := by decide +kernel
section
variable {prog : Program} {w : World} {A : Around} {E : Value → Shared → Prop} {s : Shared}
theorem subscript_int {k : Int} {t : Tok} {Q : Option Int → Shared → Prop} (h0 : 0 ≤ k) (h1 : k < 2 ^ 63) (h : Q (some k) s) : wpAny (model prog w) A (Builtin.Bytes.subscript? (.int k t)) Q E s := by
  unfold Builtin.Bytes.subscript?
  refine wpAny_bind (wpAny_specialOf (typeIs_int s k t) index_int ?_)
  refine wpAny_ite ?_
  rw [if_neg (by simp)]
  refine wpAny_bind (wpAny_of_eq (a := k) rfl ?_)
  refine wpAny_ite ?_
  rw [if_neg (by simp [Builtin.Bytes.fitsIndex]; omega)]
  exact wpAny_pure h
theorem setItem_ba0 {a : Addr} {b : Array UInt8} {k x : Int} {t u : Tok} {Q : Unit → Shared → Prop} (ho : s.heap.get? a = some (baObj b)) (h0 : 0 ≤ k) (h1 : k < b.size) (hz : b.size ≤ sizeLine) (hx0 : 0 ≤ x) (hx1 : x < 256)
    (h : ∀ h', h'.get? a = some (baObj (b.setIfInBounds k.toNat x.toNat.toUInt8)) → Heap.SameBut a s.heap h' → Q () { s with heap := h' }) : wpAny (model prog w) A (setItem (.ref a) (.int k t) (.int x u)) Q E s := by
  have hT : s.TypeIs (.ref a) "bytearray" := ⟨_, ho, rfl⟩
  have hz' : b.size ≤ 16777216 := by rw [sizeLine_eq] at hz; exact hz
  unfold setItem
  refine wpAny_holding ?_
  refine wpAny_bind (wpAny_sequenceKey hT (by decide) ?_)
  refine wpAny_bind (wpAny_callSpecial?_slot (name := Str.ofString "__setitem__") hT slot_ba_set (wpAny_call_entry slot_ba_set hT entry_ba_set ?_ (args_ba_set _ _ _)))
  show wpAny _ _ (Builtin.Bytes.subscript? (.int k t) >>= _) _ _ s
  refine wpAny_bind (subscript_int h0 (by omega) ?_)
  dsimp only
  refine wpAny_bind ?_
  unfold Builtin.Bytes.byteValue
  refine wpAny_bind (wpAny_of_eq (a := x) rfl ?_)
  refine wpAny_ite ?_
  rw [if_neg (by simp; omega)]
  refine wpAny_pure ?_
  refine wpAny_bind ?_
  unfold Builtin.Bytes.payload Builtin.Bytes.payload?
  refine wpAny_bind (wpAny_bind (wpAny_load ho ?_))
  refine wpAny_pure (wpAny_pure ?_)
  have e : seqIndex? k b.size = some k.toNat := by
    have hn : ¬ k < 0 := by omega
    simp [seqIndex?, hn, h0, h1]
  rw [e]
  dsimp only
  refine wpAny_bind (write_ba ho (by simpa using hz) fun h' g b' => ?_)
  refine wpAny_pure ?_
  exact ⟨_, rfl, wpAny_pure (h h' g b')⟩
theorem setItem_ba {h₀ : Heap} {L D : Addr} {m : Str → Option Value} {news news' : List (Addr × Obj)} {b : Array UInt8} {k x : Int} {t u : Tok} {Q : Unit → Shared → Prop} (F : Fr h₀ L s.heap m) (N : News h₀ L s.heap news)
    (U : Upd D (baObj b) (baObj (b.setIfInBounds k.toNat x.toNat.toUInt8)) news news') (h0 : 0 ≤ k) (h1 : k < b.size) (hz : b.size ≤ sizeLine) (hx0 : 0 ≤ x) (hx1 : x < 256)
    (h : ∀ h', Fr h₀ L h' m → News h₀ L h' news' → Q () { s with heap := h' }) : wpAny (model prog w) A (setItem (.ref D) (.int k t) (.int x u)) Q E s := by
  obtain ⟨pre, post, rfl, rfl, a, b'⟩ := U.split
  have z := N (D, baObj b) (List.mem_append.mpr (.inr (.head _)))
  refine setItem_ba0 z.1 h0 h1 hz hx0 hx1 fun h' g sb => h h' (F.change sb z.2.1 z.2.2) ?_
  intro q hq
  have keep : ∀ q ∈ pre ++ post, h'.get? q.1 = some q.2 ∧ q.1 ≠ L ∧ h₀.get? q.1 = none := fun q hq => by
    have hd : q.1 ≠ D := (List.mem_append.mp hq).elim (a q) (b' q)
    have zq := N q ((List.mem_append.mp hq).elim (fun x => List.mem_append_left _ x) fun x => List.mem_append_right _ (.tail _ x))
    exact ⟨(sb.2 _ hd).trans zq.1, zq.2⟩
  rcases List.mem_append.mp hq with hq | hq
  · exact keep q (List.mem_append_left _ hq)
  · rcases List.mem_cons.mp hq with rfl | hq
    · exact ⟨g, z.2⟩
    · exact keep q (List.mem_append_right _ hq)
theorem bytes_of_ba {a : Addr} {b : Array UInt8} {Q : Value → Shared → Prop} (ho : s.heap.get? a = some (baObj b)) (hz : b.size ≤ sizeLine) (h : ∀ t k, Q (.bytes b t) { s with toks := k }) : wpAny (model prog w) A (call (.type "bytes") [.ref a]) Q E s := by
  have hT : s.TypeIs (.ref a) "bytearray" := ⟨_, ho, rfl⟩
  refine callType_codes (Q₁ := fun obj s₁ => s₁.TypeIs obj "bytes" ∧ Q obj s₁) F.bm_called (F.bm_typeCall _) F.entry_object_init ?_ fun obj s₁ h₁ =>
    ⟨h₁.1, F.args_object_init_2 obj _, object_init_meets F.bm_called.init.lookup F.bm_called.made (by decide) prog w A.in1 _ s₁ ⟨h₁.1, rfl, h₁.2⟩⟩
  refine codeAny_of_tree ?_
  show wpAny _ _ (do checkBuiltinCall "bytes.__new__" ⟨[.type "bytes", .ref a], []⟩; again (.builtin "bytes.__new__" ⟨[.type "bytes", .ref a], []⟩)) _ _ s
  refine wpAny_bind (wpAny_of_eq (F.bm_newCall _) (wpAny_pure ⟨plainId_quiet F.bm_plain _, codeAny_builtin F.bm_entry ?_⟩))
  unfold Builtin.«bytes.__new__»
  refine wpAny_bind (wpAny_of_eq (a := true) rfl ?_)
  refine bm_if_false rfl ?_
  refine wpAny_bind (wpAny_of_eq F.bm_sub ?_)
  refine bm_if_false rfl ?_
  refine wpAny_bind (wpAny_of_eq (F.bm_bind _) ?_)
  refine wpAny_bind (wpAny_of_eq (a := ()) rfl ?_)
  refine wpAny_bind (wpAny_of_eq (a := ()) rfl ?_)
  refine bm_if_false rfl ?_
  refine wpAny_bind (wpAny_specialOf hT noBytes_ba ?_)
  dsimp only
  refine wpAny_bind (wpAny_bind ?_)
  show wpAny _ _ (load a >>= _) _ _ _
  refine wpAny_bind (wpAny_load ho ?_)
  refine wpAny_pure (wpAny_pure ?_)
  refine bm_if_false rfl ?_
  refine wpAny_bind (wpAny_specialOf hT noIndex_ba ?_)
  refine bm_if_true rfl ?_
  show wpAny _ _ (Builtin.Bytes.buffer? "bytes.__new__" (.ref a) true >>= _) _ _ _
  refine wpAny_bind ?_
  unfold Builtin.Bytes.buffer?
  refine wpAny_bind (wpAny_specialOf hT buffer_ba ?_)
  dsimp only
  refine wpAny_bind ?_
  unfold Builtin.Bytes.slotIsOwn
  refine wpAny_bind (wpAny_specialOf hT buffer_ba ?_)
  have e1 : ("bytearray.__buffer__".endsWith ("." ++ "__buffer__")) = true := by decide +kernel
  have e2 : ("bytearray.__buffer__".dropRight ("__buffer__".length + 1)) = "bytearray" := by decide +kernel
  simp only [e1, e2, Bool.not_true, Bool.false_eq_true, if_false]
  refine wpAny_isInstance hT sub_ba ?_
  refine bm_if_false rfl ?_
  refine wpAny_bind (wpAny_specialOf hT buffer_ba ?_)
  refine wpAny_bind (ownRelease_ba hT ?_)
  refine bm_if_false rfl ?_
  refine wpAny_bind ?_
  unfold Builtin.Bytes.payload Builtin.Bytes.payload?
  refine wpAny_bind (wpAny_bind (wpAny_load ho ?_))
  refine wpAny_pure (wpAny_pure ?_)
  refine wpAny_pure ?_
  dsimp only
  refine wpAny_bind (wpAny_rule ?_)
  refine wpAny_bind (wpAny_mkBytes ?_ hz)
  show wpAny _ _ (if (Value.type "bytes" == Value.type "bytes") = true then _ else _) _ _ _
  refine bm_if_true (by decide) ?_
  first
    | exact wpAny_pure ⟨PySem.W.typeIs_bytes _ _ _, h _ _⟩
    | exact wpAny_bind (wpAny_pure (wpAny_pure ⟨PySem.W.typeIs_bytes _ _ _, h _ _⟩))
/-- bytes(range(n)) -/
theorem byteArr_range (i : Nat) : byteArr (rangeKs 0 (i + 1)) = (byteArr (rangeKs 0 i)).push (i : Int).toNat.toUInt8 := by
  unfold byteArr rangeKs
  rw [List.range_succ]
  simp
theorem range_loop {R : Result → Shared → Prop} {I S : Addr} {n : Nat} (hh : A.handled = none) (hn : n ≤ 256) (hIS : I ≠ S) :
    ∀ (k i : Nat) (s : Shared), n - i = k → i ≤ n → IsRangeIter s.heap I (i : Int) ((n : Int) - (i : Int)) 1 → s.heap.get? S = some (baObj (byteArr (rangeKs 0 i))) →
      (∀ h' t k', (∀ b o, b ≠ I → b ≠ S → s.heap.get? b = some o → h'.get? b = some o) → R (.ok (.ret (.bytes (byteArr (rangeKs 0 n)) t))) { s with heap := h', toks := k' }) →
      codeAny (model prog w) A (.builtin "bytes.__new__.loop" ⟨[.type "bytes", .ref I, .ref S], []⟩) R s := by
  intro k
  induction k with
  | zero =>
    intro i s hk hle hit hS hR
    have hin : i = n := by omega
    subst hin
    refine codeAny_builtin F.bm_entry_loop ?_
    rw [Around.under_plainId F.bm_plain_loop _]
    show wpAny _ A.in1 (pyNext (.ref I) >>= _) _ _ s
    refine wpAny_bind (wpAny_pyNext_range_end hh hit (by omega) fun h' he => ?_)
    have hS' := he S _ (Ne.symm hIS) hS
    refine wpAny_bind ?_
    unfold Builtin.Bytes.payload Builtin.Bytes.payload?
    refine wpAny_bind (wpAny_bind (wpAny_load hS' ?_))
    refine wpAny_pure (wpAny_pure ?_)
    refine wpAny_bind (wpAny_mkBytes ?_ (by rw [byteArr_size, rangeKs_length, sizeLine_eq]; omega))
    show wpAny _ _ (if (Value.type "bytes" == Value.type "bytes") = true then _ else _) _ _ _
    refine bm_if_true (by decide) ?_
    first
      | exact wpAny_pure (hR h' _ _ fun b o hb _ e => he b o hb e)
      | exact wpAny_bind (wpAny_pure (wpAny_pure (hR h' _ _ fun b o hb _ e => he b o hb e)))
  | succ k ih =>
    intro i s hk hle hit hS hR
    have hlt : i < n := by omega
    refine codeAny_builtin F.bm_entry_loop ?_
    rw [Around.under_plainId F.bm_plain_loop _]
    show wpAny _ A.in1 (pyNext (.ref I) >>= _) _ _ s
    refine wpAny_bind (wpAny_pyNext_range_item hit (by omega) fun h' hit' hs => ?_)
    have hS' : h'.get? S = some (baObj (byteArr (rangeKs 0 i))) := (hs.2 S (Ne.symm hIS)).trans hS
    refine wpAny_bind (wpAny_holding (wpAny_of_eq (rfl : asIndex (.int (i : Int) _) = pure (i : Int)) ?_))
    refine wpAny_bind (wpAny_letGo ?_)
    refine bm_if_false (by simp only [Bool.or_eq_false_iff, decide_eq_false_iff_not]; omega) ?_
    refine wpAny_bind (write_ba hS' (by rw [← byteArr_range, byteArr_size, rangeKs_length, sizeLine_eq]; omega) fun h₂ g₂ sb => ?_)
    refine wpAny_pure ⟨plainId_quiet F.bm_plain_loop _, ih (i + 1) { s with heap := h₂, toks := s.toks + 1 } (by omega) hlt ?_ ?_ fun h3 t' k' hk3 => ?_⟩
    · have e1 : (i : Int) + 1 = ((i + 1 : Nat) : Int) := by omega
      have e2 : (n : Int) - (i : Int) - 1 = (n : Int) - ((i + 1 : Nat) : Int) := by omega
      rw [e1, e2] at hit'
      exact (sb.2 I hIS).trans hit'
    · rw [byteArr_range]
      exact g₂
    · exact hR h3 t' k' fun b o hbI hbS e => hk3 b o hbI hbS ((sb.2 b hbS).trans (hs.extBut b o hbI e))
theorem range_len (r : Addr) (a b c : Int) (t u v : Tok) (hc0 : ¬ Builtin.Range.rangeSize a b c ≥ 2 ^ 63) :
    Meets (Builtin.«range.__len__» ⟨[.ref r], []⟩) (fun _ R s => s.heap.get? r = some { cls := .type "range", dict := none, data := .fields #[.int a t, .int b u, .int c v], slots := #[] } ∧ R (.ok (.ret (Value.int (Builtin.Range.rangeSize a b c) s.toks))) { s with toks := s.toks + 1 }) :=
  .of_wp fun prog w A R s h => by obtain ⟨hp, g, d, tk, os⟩ := s; obtain ⟨hl, h⟩ := h; wp_walk; rw [if_neg hc0]; exact wpAny_ret_mkInt h
theorem bytes_of_range {r : Addr} {n : Nat} {t u v : Tok} {Q : Value → Shared → Prop} (hh : A.handled = none) (hr : IsRange s.heap r 0 (n : Int) 1 t u v) (hn : n ≤ 256)
    (h : ∀ h' t k, (∀ b o, s.heap.get? b = some o → h'.get? b = some o) → Q (.bytes (byteArr (rangeKs 0 n)) t) { s with heap := h', toks := k }) : wpAny (model prog w) A (call (.type "bytes") [.ref r]) Q E s := by
  have hT : s.TypeIs (.ref r) "range" := ⟨_, hr, rfl⟩
  refine callType_codes (Q₁ := fun obj s₁ => s₁.TypeIs obj "bytes" ∧ Q obj s₁) F.bm_called (F.bm_typeCall _) F.entry_object_init ?_ fun obj s₁ h₁ =>
    ⟨h₁.1, F.args_object_init_2 obj _, object_init_meets F.bm_called.init.lookup F.bm_called.made (by decide) prog w A.in1 _ s₁ ⟨h₁.1, rfl, h₁.2⟩⟩
  refine codeAny_of_tree ?_
  show wpAny _ _ (do checkBuiltinCall "bytes.__new__" ⟨[.type "bytes", .ref r], []⟩; again (.builtin "bytes.__new__" ⟨[.type "bytes", .ref r], []⟩)) _ _ s
  refine wpAny_bind (wpAny_of_eq (F.bm_newCall _) (wpAny_pure ⟨plainId_quiet F.bm_plain _, codeAny_builtin F.bm_entry ?_⟩))
  unfold Builtin.«bytes.__new__»
  refine wpAny_bind (wpAny_of_eq (a := true) rfl ?_)
  refine bm_if_false rfl ?_
  refine wpAny_bind (wpAny_of_eq F.bm_sub ?_)
  refine bm_if_false rfl ?_
  refine wpAny_bind (wpAny_of_eq (F.bm_bind _) ?_)
  refine wpAny_bind (wpAny_of_eq (a := ()) rfl ?_)
  refine wpAny_bind (wpAny_of_eq (a := ()) rfl ?_)
  refine bm_if_false rfl ?_
  refine wpAny_bind (wpAny_specialOf hT noBytes_range ?_)
  dsimp only
  refine wpAny_bind (wpAny_bind ?_)
  show wpAny _ _ (load r >>= _) _ _ _
  refine wpAny_bind (wpAny_load hr ?_)
  refine wpAny_pure (wpAny_pure ?_)
  refine bm_if_false rfl ?_
  refine wpAny_bind (wpAny_specialOf hT noIndex_range ?_)
  refine bm_if_true rfl ?_
  show wpAny _ _ (Builtin.Bytes.buffer? "bytes.__new__" (.ref r) true >>= _) _ _ _
  refine wpAny_bind ?_
  unfold Builtin.Bytes.buffer?
  refine wpAny_bind (wpAny_specialOf hT noBuffer_range ?_)
  refine wpAny_bind (wpAny_specialOf hT noBuffer_range ?_)
  refine wpAny_pure ?_
  refine wpAny_bind (wpAny_tryCatch (wpAny_pyIter_range hr ?_ ?_))
  · exact small_one (by decide) (by decide) (by omega) (by omega)
  refine wpAny_bind (wpAny_holding ?_)
  unfold Builtin.Bytes.lengthHint
  refine wpAny_bind (wpAny_specialOf (T := "range") ⟨_, Heap.get?_push_of_some _ hr, rfl⟩ len_range ?_)
  dsimp only
  rw [split_range]
  dsimp only
  refine wpAny_bind (wpAny_isInstance (T := "range") ⟨_, Heap.get?_push_of_some _ hr, rfl⟩ sub_range ?_)
  refine bm_if_false rfl ?_
  have hsz : Builtin.Range.rangeSize 0 (n : Int) 1 = (n : Int) := by rw [rangeSize_nat]; omega
  refine bm_if_false (by decide +kernel) ?_
  refine bm_if_true rfl ?_
  refine wpAny_bind (wpAny_rule ?_)
  have hr₁ : IsRange (s.heap.push { cls := .type "range_iterator", data := .fields #[rawInt 0, rawInt (Builtin.Range.rangeSize 0 (n : Int) 1), rawInt 1] }) r 0 (n : Int) 1 t u v := Heap.get?_push_of_some _ hr
  refine wpAny_bind (wpAny_attempt (call_len_meets (T := "range") ⟨_, hr₁, rfl⟩ F.slot_range_len F.entry_range_len (F.args_range_len_1 _) (range_len r 0 n 1 t u v (by rw [hsz]; omega)) (by rw [hsz]; omega) (by rw [hsz]; omega) (fun Q' hq => ⟨hr₁, hq⟩) ?_))
  dsimp only
  refine wpAny_bind (wpAny_of_eq (a := some (Builtin.Range.rangeSize 0 (n : Int) 1)) rfl ?_)
  dsimp only
  rw [hsz]
  refine bm_if_false (by simp [Builtin.Bytes.tooLong, sizeLine]; omega) ?_
  refine wpAny_pure ?_
  refine wpAny_bind ?_
  unfold Builtin.Bytes.newBytearray
  refine wpAny_newObj_type ?_ (Nat.zero_le _)
  have hlt : r < s.heap.objs.size := Heap.lt_size hr
  have hsz2 : (s.heap.push { cls := .type "range_iterator", data := .fields #[rawInt 0, rawInt (n : Int), rawInt 1] }).objs.size = s.heap.objs.size + 1 := Heap.size_push _ _
  have main := range_loop (prog := prog) (w := w) (A := A.in1) (R := wants (fun obj s₁ => s₁.TypeIs obj "bytes" ∧ Q obj s₁) E) (I := s.heap.objs.size) (S := (s.heap.push { cls := .type "range_iterator", data := .fields #[rawInt 0, rawInt (n : Int), rawInt 1] }).objs.size) hh hn (by rw [hsz2]; exact Nat.ne_of_lt (Nat.lt_succ_self _))
    n 0 { s with heap := (s.heap.push { cls := .type "range_iterator", data := .fields #[rawInt 0, rawInt (n : Int), rawInt 1] }).push { cls := .type "bytearray", data := .bytearray #[] }, toks := s.toks + 1 + 1 } rfl (Nat.zero_le _)
    (Heap.get?_push_of_some _ (by simpa using Heap.get?_push_size _ rfl)) (Heap.get?_push_size _ rfl)
    fun h' t k hk => ⟨PySem.W.typeIs_bytes _ _ _, h h' t k fun b o e => hk b o (Nat.ne_of_lt (Heap.lt_size e)) (by rw [hsz2]; exact Nat.ne_of_lt (Nat.lt_succ_of_lt (Heap.lt_size e))) (Heap.get?_push_of_some _ (Heap.get?_push_of_some _ e))⟩
  first
    | exact wpAny_pure ⟨plainId_quiet F.bm_plain_loop _, main⟩
    | exact wpAny_pure (wpAny_pure ⟨plainId_quiet F.bm_plain_loop _, main⟩)
end

/-- what a call of _byteswap asks of where it stands, and hands back -/
def SwapP (w : World) (b out : Array UInt8) (n : Int) (t u : Tok) : Prop :=
  ∀ (p : Program) (loose : List Str) (mean : ExcName → Option Value) (mg mb : Str → Option Value) (dp un : Nat) (cn : Str) (cs : Scope) (a : Addr) (ccd : Value) (cl : List (Str × Addr)) (outer : List Env) (A₀ : Around) (base h₀ : Heap) (L : Addr) (m : Str → Option Value) (s : Shared) (Q E : Value → Shared → Prop),
    Below A₀ base outer h₀ → Fr h₀ L s.heap m → (Mine.hd.heap_39 w.params).In h₀ → Top p loose mean mg mb h₀ → cs.kind = .function → dp + 3 < recursionLimit → un + 24 < cLine →
    (∀ t' h' tk', s.heap.StaysIn h' → Q (.bytes out t') { s with heap := h', toks := tk' }) →
    wpS (model PG w) (ktrTop dp un (some []) cn cs L a ccd cl outer) (call (.ref 21) [.bytes b t, .int n u]) Q E s
theorem keeps_type {M : Model} {T : String} (h : Heap) (_ : True) : ∃ k, (k = Keeper.frame ∨ k = Keeper.machine ∨ k = Keeper.boundFrame) ∧ Looks M h (keeperOf (.type T)) k := ⟨_, .inr (.inl rfl), .now⟩
/-- after t octets in the text's order -/
def swapAcc (ks : List Int) (n : Nat) : Nat → Array UInt8
  | 0 => Array.replicate ks.length 0
  | t + 1 => (swapAcc ks n t).setIfInBounds (((t / n : Nat) : Int) * (n : Int) + (n : Int) - 1 - ((t % n : Nat) : Int)).toNat (ks.getD t 0).toNat.toUInt8
theorem swapAcc_size (ks : List Int) (n : Nat) : ∀ t, (swapAcc ks n t).size = ks.length
  | 0 => by simp [swapAcc]
  | t + 1 => by rw [swapAcc, Array.size_setIfInBounds, swapAcc_size]
theorem swap_range : ∀ q : Fin 9, ∀ n : Fin 5, 1 ≤ n.val → Builtin.Range.small 0 ((q.val * n.val : Nat) : Int) (n.val : Int) = true ∧ Builtin.Range.rangeSize 0 ((q.val * n.val : Nat) : Int) (n.val : Int) = ((q.val : Nat) : Int) ∧ Builtin.Range.small 0 (n.val : Int) 1 = true ∧ Builtin.Range.rangeSize 0 (n.val : Int) 1 = ((n.val : Nat) : Int) := by decide +kernel
theorem two_names (m : Str → Option Value) (a b : Str) : m = fun z => if z = a then m a else if z = b then m b else m z := funext fun z => by
  by_cases h : z = a
  · rw [if_pos h, h]
  · rw [if_neg h]
    by_cases h : z = b
    · rw [if_pos h, h]
    · rw [if_neg h]
theorem one_name (m : Str → Option Value) (a : Str) : m = fun z => if z = a then m a else m z := funext fun z => by
  by_cases h : z = a
  · rw [if_pos h, h]
  · rw [if_neg h]
theorem swap_name {z a : Str} {d1 d2 d3 : Decidable (z = a)} (x y v : Option Value) : @ite _ (z = a) d1 x (@ite _ (z = a) d2 y v) = @ite _ (z = a) d3 x v := by
  by_cases h : z = a
  · rw [if_pos h, if_pos h]
  · rw [if_neg h, if_neg h, if_neg h]
theorem swap_names {c a b : Str} {d1 d2 d5 : Decidable (c = a)} {d3 d4 d6 : Decidable (c = b)} (x y z v u : Option Value) : @ite _ (c = a) d1 x (@ite _ (c = b) d3 y (@ite _ (c = a) d2 z (@ite _ (c = b) d4 v u))) = @ite _ (c = a) d5 x (@ite _ (c = b) d6 y u) := by
  by_cases h : c = a
  · rw [if_pos h, if_pos h]
  · rw [if_neg h, if_neg h, if_neg h]
    by_cases h : c = b
    · rw [if_pos h, if_pos h]
    · rw [if_neg h, if_neg h, if_neg h]
theorem swapAcc_turn (ks : List Int) {n : Nat} (i : Nat) {j : Nat} (hj : j < n) : swapAcc ks n (i * n + (j + 1)) = (swapAcc ks n (i * n + j)).setIfInBounds (0 + (i : Int) * (n : Int) + (n : Int) - 1 - (0 + (j : Int) * 1)).toNat (ks.getD (0 + (i : Int) * (n : Int) + (0 + (j : Int) * 1)).toNat 0).toNat.toUInt8 := by
  have e1 : (i * n + j) / n = i := by rw [Nat.mul_comm, Nat.mul_add_div (by omega), Nat.div_eq_of_lt hj]; rfl
  have e2 : (i * n + j) % n = j := by rw [Nat.mul_comm, Nat.mul_add_mod, Nat.mod_eq_of_lt hj]
  have e3 : (0 + (i : Int) * (n : Int) + (0 + (j : Int) * 1)).toNat = i * n + j := by
    rw [← Int.natCast_mul]; omega
  rw [← Nat.add_assoc, swapAcc, e1, e2, e3, Int.zero_add, Int.zero_add, Int.mul_one]
section SwapS
local macro_rules | `(tactic| walk_at "call type:bytes") => `(tactic| (k_here; (with_reducible show wpAny _ _ (call (Value.type "bytes") [Value.ref _]) _ _ _); k_dflt (refine' bytes_of_ba ?g ?z ?_; (case g => exact (News.get (by k_asm) (by k_mem))); (case z => (rw [swapAcc_size]; rw [sizeLine_eq]; omega))); intro t9 k9))
local macro_rules | `(tactic| walk_at "setItem ref int") => `(tactic| (k_here; k_dflt (refine' setItem_ba ?F ?N ?U ?h0 ?h1 ?hz ?x0 ?x1 ?_; (case F => k_asm); (case N => k_asm); (case U => k_upd); (case h0 => omega); (case h1 => (rw [swapAcc_size]; omega)); (case hz => (rw [swapAcc_size, sizeLine_eq]; omega)); (case x0 => omega); (case x1 => omega); k_whole); intro h9 F9 N9))
theorem swap_call (w : World) (b : Array UInt8) (ks : List Int) (q n : Nat) (t u : Tok) (hb : KBw.bInts b = ks) (h8 : ks.length ≤ 8) (h1 : 1 ≤ n) (h4 : n ≤ 4) (hq1 : 1 ≤ q) (hq : q * n = ks.length) : SwapP w b (swapAcc ks n (q * n)) n t u := by
  w_top off
  intro p loose mean mg mb dp un cn cs a ccd cl outer A₀ base h₀ L m s Q E B F X T hks hdp hun hret
  have hlen1 : 1 ≤ ks.length := by rw [← hq]; exact Nat.mul_pos hq1 h1
  refine wpS_call ?_
  k_dflt (refine' code_pureS ?k1 ?k2 ?k4 ?k5 ?kA ?kF ?kK ?k6 ?k7 ?k8 ?k9 ?kB ?_ ?c2 ?c3 ?c4 ?c5; (case kA => exact rfl); (case kF => exact rfl); (case kK => assumption); (case k1 => k_asm); (case k2 => k_asm); (case k4 => k_asm); (case k5 => k_asm); (case k6 => k_is); (case k7 => k_is); (case k8 => ktr_room); (case k9 => exact BindsTo.of_eq rfl); (case c5 => decide); (case kB => exact locs rfl); (case c2 => exact rfl); (case c3 => exact rfl); (case c4 => exact rfl); k_whole; intro L1 h1' F1 N1 B1 X1 T1; (try dsimp only); (try k_fold))
  refine wpS_execs_cons (wpS_Assign_Name (wpS_Call ?_))
  k_steps
  refine wpS_callE (P := fun _ => True) (keeps_type (T := "bytearray")) (wpS_of ?_)
  k_steps
  · exact trivial
  rename_i kF1
  obtain ⟨D, hD⟩ : ∃ D, D = h1'.objs.size := ⟨_, rfl⟩
  refine call_ba rfl (by omega) (by omega) fun h2 st2 g2 => ?_
  dsimp only at st2 g2 ⊢
  have gn : h1'.get? h1'.objs.size = none := by
    cases e : h1'.get? h1'.objs.size with
    | none => rfl
    | some o => exact absurd (Heap.lt_size e) (Nat.lt_irrefl _)
  have F2 := frStays (s := { s with heap := h1' }) kF1 st2
  have N2 := newsMore (s := { s with heap := h1' }) kF1 N1 st2 g2 gn
  rw [← hD] at g2 N2 ⊢
  rw [show ((ks.length : Int)).toNat = ks.length by omega] at N2
  clear g2 gn hD st2 kF1 N1
  k_steps
  refine wpS_of ?_
  refine wpAny_execs_cons ?_
  refine wpAny_For ?_ (by intro _; rfl)
  k_steps
  rename_i h3 tk3 t3 u3 v3 hr3 kF3 kN3 kk3
  dsimp only at hr3 kF3 kN3 ⊢
  clear kk3
  have q8 : q ≤ 8 := by
    have : q * 1 ≤ q * n := Nat.mul_le_mul_left q h1
    omega
  obtain ⟨sm1, sz1, sm2, sz2⟩ := swap_range ⟨q, by omega⟩ ⟨n, by omega⟩ h1
  dsimp only at sm1 sz1 sm2 sz2
  rw [hq] at sm1 sz1
  generalize hm0 : (fun y => if y = Str.ofString "swapped_data" then some (Value.ref D) else List.lookup y _) = m₀ at kF3
  refine loopG_range (n := q) (m₀ := m₀) (news := [(D, baObj (Array.replicate ks.length 0))]) (fun i m nx => (∃ x y, m = fun z => if z = Str.ofString "j" then y else if z = Str.ofString "i" then x else m₀ z) ∧ nx = [(D, baObj (swapAcc ks n (i * n)))]) ?c1 hr3 sm1 sz1 kF3 kN3 ?c4 ?c5 ?c6 ?c7 ?c8
  case c1 => rfl
  case c4 =>
    exact ⟨⟨m₀ (Str.ofString "i"), m₀ (Str.ofString "j"), two_names m₀ _ _⟩, by rw [Nat.zero_mul]; rfl⟩
  case c5 => exact PassesOwn.never
  case c6 => intro _ _; rfl
  case c8 =>
    rintro m1 nx h4 tk4 ⟨⟨x, y, rfl⟩, rfl⟩ F4 N4
    subst hm0
    k_steps
    exact hret _ _ _ (by assumption)
  case c7 =>
    rintro i t5 m1 nx h5 tk5 own hi ho ⟨⟨x, y, rfl⟩, rfl⟩ F5 N5
    subst hm0
    simp only [List.map_cons, List.map_nil, List.cons_append, List.nil_append] at ho N5
    refine wpAny_assign_Name ?_
    walk1
    dsimp only
    refine wpAny_execs_cons ?_
    refine wpAny_For ?_ (by intro _; rfl)
    k_steps
    rename_i h6 tk6 t6 u6 v6 hr6 kF6 kN6 kk6
    dsimp only at hr6 kF6 kN6 ⊢
    clear kk6
    generalize hmI : (fun y_1 => if y_1 = Str.ofString "i" then _ else _) = mI at kF6
    have hin : (i + 1) * n ≤ q * n := Nat.mul_le_mul_right n hi
    rw [Nat.succ_mul] at hin
    have iv2 : (i * n + n : Nat) ≤ ks.length := hq ▸ hin
    have iv0 : (0 : Int) ≤ 0 + (i : Int) * (n : Int) := by rw [← Int.natCast_mul]; omega
    have iv1 : 0 + (i : Int) * (n : Int) + n ≤ ks.length := by rw [← Int.natCast_mul]; omega
    refine loopG_range (n := n) (m₀ := mI) (news := (D, baObj (swapAcc ks n (i * n))) :: own) (fun j m nx => (∃ y, m = fun z => if z = Str.ofString "j" then y else mI z) ∧ nx = (D, baObj (swapAcc ks n (i * n + j))) :: own) ?d1 hr6 sm2 sz2 kF6 kN6 ?d4 ?d5 ?d6 ?d7 ?d8
    case d1 => rfl
    case d4 => exact ⟨⟨_, one_name mI _⟩, rfl⟩
    case d5 => exact PassesOwn.never
    case d6 => intro _ _; rfl
    case d8 =>
      rintro m1 nx h8 tk8 ⟨⟨y2, rfl⟩, rfl⟩ F8 N8
      subst hmI
      k_steps
      refine EndG.intro [(D, baObj (swapAcc ks n ((i + 1) * n)))] F8 N8 ⟨⟨some (.int (0 + (i : Int) * (n : Int)) t5), y2, funext fun z => swap_names _ _ _ _ _⟩, rfl⟩ ?hn ?ho ?ha
      case hn => exact fun p hp => by rw [List.mem_singleton.mp hp, Nat.succ_mul]; exact .head _
      case ho => exact fun p hp => .tail _ hp
      case ha => exact fun p hp q hq e => by rw [List.mem_singleton.mp hp] at e; exact ho q hq p.1 (by rw [List.mem_singleton.mp hp]; exact .head _) (by rw [List.mem_singleton.mp hp]; exact e.symm)
    case d7 =>
      rintro j t7 m1 nx h7 tk7 own2 hj ho2 ⟨⟨y2, rfl⟩, rfl⟩ F7 N7
      subst hmI
      simp only [List.map_cons, List.map_nil, List.cons_append, List.nil_append] at ho2 N7
      refine wpAny_assign_Name ?_
      k_steps
      have offD : ∀ p ∈ own ++ own2, p.1 ≠ D := fun p hp => (List.mem_append.mp hp).elim (fun hp => ho p hp D (.head _)) fun hp => ho2 p hp D (.head _)
      rename_i kF7 kN7 t8 k8 lo7 hi7
      refine setItem_ba kF7 kN7 (.head offD) (by omega) (by rw [swapAcc_size]; omega) (by rw [swapAcc_size, sizeLine_eq]; omega) lo7 hi7 fun h9 F9 N9 => ?_
      k_steps
      refine EndG.intro ((D, baObj (swapAcc ks n (i * n + (j + 1)))) :: own) F9 (swapAcc_turn ks i hj ▸ N9) ⟨⟨some (.int (0 + (j : Int) * 1) t7), funext fun z => swap_name _ _ _⟩, rfl⟩ ?en ?eo ?ea
      case en =>
        intro p hp
        rcases List.mem_cons.mp hp with rfl | hp
        · exact .head _
        · exact .tail _ (List.mem_append_left _ hp)
      case eo => exact fun p hp => .tail _ (List.mem_append_right _ hp)
      case ea =>
        intro p hp q hq e
        refine ho2 q hq p.1 ?_ e.symm
        rcases List.mem_cons.mp hp with rfl | hp
        · exact .head _
        · exact .tail _ (List.mem_map_of_mem hp)
end SwapS

/-- a dict object by its entries, whatever its keys are -/
def IsRaw (h : Heap) (d : Addr) (es : Array DictEntry) (ep : Nat) : Prop := ∃ o, h.get? d = some o ∧ o.ExactDict ∧ o.data = .dict es ep
theorem IsRaw.typeIs {s : Shared} {d : Addr} {es : Array DictEntry} {ep : Nat} (x : IsRaw s.heap d es ep) : s.TypeIs (.ref d) "dict" := let ⟨o, ho, hc, _⟩ := x; ⟨o, ho, hc.1⟩
theorem IsRaw.at {h h' : Heap} {d : Addr} {es : Array DictEntry} {ep : Nat} (x : IsRaw h d es ep) (e : ∀ o, h.get? d = some o → h'.get? d = some o) : IsRaw h' d es ep := let ⟨o, ho, r⟩ := x; ⟨o, e _ ho, r⟩
theorem dictOfH_raw {prog : Program} {w : World} {K : Type} [DecidableEq K] {knd : HeapKind prog w K} {h : Heap} {d : Addr} {xs : List (K × Addr × Value)} (hm : h.DictOfH knd d xs) : ∃ es ep, IsRaw h d es ep ∧ es.toList = xs.map (entryOfKey knd) :=
  let ⟨o, es, ep, ho, hc, hd, he, _⟩ := hm; ⟨es, ep, ⟨o, ho, hc, hd⟩, he⟩
section
variable {prog : Program} {w : World} {A : Around} {E : Value → Shared → Prop} {s : Shared} {it d v : Addr} {es : Array DictEntry} {ep i : Nat} {ok ov : Value}
theorem meets_raw_items (hd : (d == sysModules) = false) : MeetsIn prog w (Builtin.«dict.items» ⟨[.ref d], []⟩) (fun _ R s => (∃ es ep, IsRaw s.heap d es ep) ∧
      R (.ok (.ret (.ref s.heap.objs.size))) { s with heap := s.heap.push { cls := .type "dict_items", data := .fields #[.ref d] } }) :=
  .of_wp fun A R s ⟨⟨es, ep, hm⟩, h⟩ => by
    refine wpAny_bind (wpAny_bind (wpAny_notOrdered_dict hm.typeIs (wpAny_pure ?_)))
    show wpAny _ _ (Builtin.Dict.showsAll d >>= _) _ _ s
    unfold Builtin.Dict.showsAll
    rw [if_neg (by rw [hd]; exact Bool.false_ne_true)]
    exact wpAny_bind (wpAny_pure (wpAny_bind (wpAny_newObj_type (wpAny_pure ⟨_, rfl, h⟩))))
theorem meets_raw_values (hd : (d == sysModules) = false) : MeetsIn prog w (Builtin.«dict.values» ⟨[.ref d], []⟩) (fun _ R s => (∃ es ep, IsRaw s.heap d es ep) ∧
      R (.ok (.ret (.ref s.heap.objs.size))) { s with heap := s.heap.push { cls := .type "dict_values", data := .fields #[.ref d] } }) :=
  .of_wp fun A R s ⟨⟨es, ep, hm⟩, h⟩ => by
    refine wpAny_bind (wpAny_bind (wpAny_notOrdered_dict hm.typeIs (wpAny_pure ?_)))
    show wpAny _ _ (Builtin.Dict.showsAll d >>= _) _ _ s
    unfold Builtin.Dict.showsAll
    rw [if_neg (by rw [hd]; exact Bool.false_ne_true)]
    exact wpAny_bind (wpAny_pure (wpAny_bind (wpAny_newObj_type (wpAny_pure ⟨_, rfl, h⟩))))
theorem iter_raw_items {Q : Value → Shared → Prop} (hv : s.heap.IsItemsView v d) (hm : IsRaw s.heap d es ep)
    (hQ : Q (.ref s.heap.objs.size) { s with heap := s.heap.push { cls := .type "dict_itemiterator", data := .fields #[.none, .bool false, .ref d, .int 0 0, .int es.size 0, .int ep 0, .none, .none] } }) :
    wpAny (model prog w) A (pyIter (.ref v)) Q E s := by
  obtain ⟨ov, hov, hcv, hdv⟩ := id hv
  obtain ⟨o, ho, hc, hdat⟩ := id hm
  refine wpAny_pyIter_slot hv.typeIs PySem.F.slot_dict_items_iter (wpAny_call_entry PySem.F.slot_dict_items_iter hv.typeIs PySem.F.entry_dict_items_iter ?_ (PySem.F.args_dict_items_iter_1 _))
  unfold Builtin.«dict_items.__iter__»
  refine wpAny_bind (wpAny_pure (wpAny_bind ?_))
  unfold Builtin.Dict_items.dictOf
  refine wpAny_bind (wpAny_field hov hdv (x := .ref d) rfl (wpAny_pure (wpAny_bind ?_)))
  unfold Builtin.Dict_items.newIterator
  refine wpAny_bind (wpAny_dictEntries ho hdat (wpAny_bind (wpAny_dictEpoch ho hdat ?_)))
  simp only [show Builtin.Dict_items.ownsTuple "dict_itemiterator" = true by decide, if_true]
  refine wpAny_newObj_type (wpAny_pure ⟨_, rfl, "dict_itemiterator", _, ⟨_, Heap.get?_push_size _ rfl, rfl⟩, PySem.F.slot_dict_itemiterator_next.lookup, ?_⟩)
    (by simp only [sizeOk, Builtin.Dict_items.ownedTupleFields, List.size_toArray, List.length_append, List.length_cons, List.length_nil, sizeLine_eq]; omega)
  simpa [rawInt, Builtin.Dict_items.ownedTupleFields] using hQ
theorem iter_raw_values {Q : Value → Shared → Prop} (hv : s.heap.IsValuesView v d) (hm : IsRaw s.heap d es ep)
    (hQ : Q (.ref s.heap.objs.size) { s with heap := s.heap.push { cls := .type "dict_valueiterator", data := .fields #[.ref d, .int 0 0, .int es.size 0, .int ep 0] } }) :
    wpAny (model prog w) A (pyIter (.ref v)) Q E s := by
  obtain ⟨ov, hov, hcv, hdv⟩ := id hv
  obtain ⟨o, ho, hc, hdat⟩ := id hm
  refine wpAny_pyIter_slot hv.typeIs PySem.F.slot_dict_values_iter (wpAny_call_entry PySem.F.slot_dict_values_iter hv.typeIs PySem.F.entry_dict_values_iter ?_ (PySem.F.args_dict_values_iter_1 _))
  unfold Builtin.«dict_values.__iter__»
  refine wpAny_bind (wpAny_pure (wpAny_bind ?_))
  unfold Builtin.Dict_items.dictOf
  refine wpAny_bind (wpAny_field hov hdv (x := .ref d) rfl (wpAny_pure (wpAny_bind ?_)))
  unfold Builtin.Dict_items.newIterator
  refine wpAny_bind (wpAny_dictEntries ho hdat (wpAny_bind (wpAny_dictEpoch ho hdat ?_)))
  simp only [show Builtin.Dict_items.ownsTuple "dict_valueiterator" = false by decide, Bool.false_eq_true, if_false]
  refine wpAny_newObj_type (wpAny_pure ⟨_, rfl, "dict_valueiterator", _, ⟨_, Heap.get?_push_size _ rfl, rfl⟩, PySem.F.slot_dict_valueiterator_next.lookup, ?_⟩)
  simpa [rawInt] using hQ
theorem next_raw_values {Q : Option Value → Shared → Prop} (hit : s.heap.IsValIter it d i es.size ep) (hm : IsRaw s.heap d es ep) (hlt : i < es.size)
    (hQ : ∀ h', h'.IsValIter it d (i + 1) es.size ep → Heap.SameBut it s.heap h' → Q (some es[i].val) { s with heap := h' }) : wpAny (model prog w) A (pyNext (.ref it)) Q E s := by
  obtain ⟨o, ho, hc, hd⟩ := id hit
  obtain ⟨od, hod, hcd, hdd⟩ := id hm
  unfold pyNext
  refine wpAny_bind (wpAny_attempt (wpAny_callSpecial?_slot (name := Str.ofString "__next__") hit.typeIs PySem.F.slot_dict_valueiterator_next
    (wpAny_call_entry PySem.F.slot_dict_valueiterator_next hit.typeIs PySem.F.entry_dict_valueiterator_next ?_ (PySem.F.args_dict_valueiterator_next_1 _))))
  refine wpAny_bind (wpAny_pure (wpAny_bind (wpAny_bind ?_)))
  first | refine wpAny_bind (wpAny_typeNameOfWhole_valiter hit.typeIs (wpAny_pure ?_)) | refine wpAny_bind (wpAny_typeNameOf_valiter hit.typeIs (wpAny_pure ?_))
  refine wpAny_bind (wpAny_fieldsOf ho hd ?_)
  simp only [show Builtin.Dict_items.ownsTuple "dict_valueiterator" = false by decide, Bool.false_eq_true, if_false]
  show wpAny _ _ (if (Value.ref d == Value.none) = true then _ else _) _ _ s
  rw [if_neg (show ¬ ((Value.ref d == Value.none) = true) from Bool.false_ne_true)]
  refine wpAny_bind (wpAny_pure (wpAny_bind (wpAny_dictEntries hod hdd ?_)))
  rw [if_neg (by simp)]
  refine wpAny_bind (wpAny_pure (wpAny_bind (wpAny_dictEpoch hod hdd ?_)))
  rw [if_neg (by simp)]
  refine wpAny_pure ?_
  simp only [show ¬ ((i : Int) < 0) from by omega, if_false, Int.toNat_natCast, Array.getElem?_eq_getElem hlt]
  refine wpAny_bind ?_
  first | refine wpAny_bind (wpAny_typeNameOfWhole_valiter hit.typeIs (wpAny_pure ?_)) | refine wpAny_bind (wpAny_typeNameOf_valiter hit.typeIs (wpAny_pure ?_))
  refine wpAny_bind (wpAny_isOneOf_valiter hit.typeIs ?_)
  show wpAny _ _ (setField (.ref it) 1 (rawInt ((i : Int) + 1)) >>= _) _ _ s
  refine wpAny_bind (wpAny_setField ho hd (by simp) ?_)
  have hit' : (s.heap.update it (Obj.mapFields (·.setIfInBounds 1 (rawInt ((i : Int) + 1))))).IsValIter it d (i + 1) es.size ep :=
    ⟨_, Heap.get?_update_self _ ho (Obj.isFreed_of_fields (Obj.data_mapFields hd _)), (Obj.cls_mapFields ..).trans hc, by rw [Obj.data_mapFields hd]; simp [rawInt]⟩
  have hT' : Shared.TypeIs { s with heap := s.heap.update it (Obj.mapFields (·.setIfInBounds 1 (rawInt ((i : Int) + 1)))) } (.ref it) "dict_valueiterator" := hit'.typeIs (s := { s with heap := s.heap.update it (Obj.mapFields (·.setIfInBounds 1 (rawInt ((i : Int) + 1)))) })
  refine wpAny_bind (wpAny_holding (wpAny_bind (wpAny_isOneOf_valiter hT' (wpAny_bind (wpAny_isOneOf_valiter hT' ?_)))))
  show wpAny _ _ (pure es[i].val) _ _ _
  exact wpAny_pure (wpAny_pure ⟨_, rfl, wpAny_pure (hQ _ hit' (Heap.SameBut.update ..))⟩)
theorem next_raw_values_end {Q : Option Value → Shared → Prop} (hh : A.handled = none) (hit : s.heap.IsValIter it d i es.size ep) (hm : IsRaw s.heap d es ep) (hge : es.size ≤ i)
    (hQ : ∀ h', Heap.ExtBut it s.heap h' → Q none { s with heap := h' }) : wpAny (model prog w) A (pyNext (.ref it)) Q E s := by
  obtain ⟨o, ho, hc, hd⟩ := id hit
  obtain ⟨od, hod, hcd, hdd⟩ := id hm
  unfold pyNext
  refine wpAny_bind (wpAny_attempt (wpAny_callSpecial?_slot (name := Str.ofString "__next__") hit.typeIs PySem.F.slot_dict_valueiterator_next
    (wpAny_call_entry PySem.F.slot_dict_valueiterator_next hit.typeIs PySem.F.entry_dict_valueiterator_next ?_ (PySem.F.args_dict_valueiterator_next_1 _))))
  refine wpAny_bind (wpAny_pure (wpAny_bind (wpAny_bind ?_)))
  first | refine wpAny_bind (wpAny_typeNameOfWhole_valiter hit.typeIs (wpAny_pure ?_)) | refine wpAny_bind (wpAny_typeNameOf_valiter hit.typeIs (wpAny_pure ?_))
  refine wpAny_bind (wpAny_fieldsOf ho hd ?_)
  simp only [show Builtin.Dict_items.ownsTuple "dict_valueiterator" = false by decide, Bool.false_eq_true, if_false]
  show wpAny _ _ (if (Value.ref d == Value.none) = true then _ else _) _ _ s
  rw [if_neg (show ¬ ((Value.ref d == Value.none) = true) from Bool.false_ne_true)]
  refine wpAny_bind (wpAny_pure (wpAny_bind (wpAny_dictEntries hod hdd ?_)))
  rw [if_neg (by simp)]
  refine wpAny_bind (wpAny_pure (wpAny_bind (wpAny_dictEpoch hod hdd ?_)))
  rw [if_neg (by simp)]
  refine wpAny_pure ?_
  simp only [show ¬ ((i : Int) < 0) from by omega, if_false, Int.toNat_natCast, Array.getElem?_eq_none hge]
  refine wpAny_bind ?_
  first | refine wpAny_bind (wpAny_typeNameOfWhole_valiter hit.typeIs (wpAny_pure ?_)) | refine wpAny_bind (wpAny_typeNameOf_valiter hit.typeIs (wpAny_pure ?_))
  show wpAny _ _ (setField (.ref it) 0 .none >>= _) _ _ s
  refine wpAny_bind (wpAny_setField ho hd (by simp) ?_)
  show wpAny _ _ (newExc (.type "StopIteration") [] >>= _) _ _ _
  refine wpAny_bind ?_
  simp only [newExc, newTuple]
  refine wpAny_bind (wpAny_newObj_type ?_ (by size_fits))
  refine wpAny_bind (m := firstArgMember _ _) (wpAny_of_eq (a := Value.none) (by first | rfl | (simp only [firstArgMember]; rfl)) ?_)
  refine wpAny_newObj_type ?_ (by size_fits)
  simp only [raiseNew]
  refine wpAny_bind (wpAny_handled ?_)
  rw [show A.in1.handled = none from hh]
  refine wpAny_bind (wpAny_pure (wpAny_throw ?_))
  exact wpAny_bind (wpAny_isInstance (T := "StopIteration") (b := true) ⟨_, Heap.get?_push_size _ rfl, rfl⟩ isSubtype_stop (wpAny_pure (hQ _ (((Heap.SameBut.update ..).extBut.push _).push _))))
theorem next_raw_items_end {Q : Option Value → Shared → Prop} (hh : A.handled = none) (hit : IsItemIter s.heap it d i es.size ep ok ov) (hm : IsRaw s.heap d es ep) (hge : es.size ≤ i)
    (hQ : ∀ h', Heap.ExtBut it s.heap h' → Q none { s with heap := h' }) : wpAny (model prog w) A (pyNext (.ref it)) Q E s := by
  obtain ⟨od, hod, hcd, hdd⟩ := id hm
  have hT : s.TypeIs (.ref it) "dict_itemiterator" := ⟨_, hit, rfl⟩
  unfold pyNext
  refine wpAny_bind (wpAny_attempt (wpAny_callSpecial?_slot (name := Str.ofString "__next__") hT PySem.F.slot_dict_itemiterator_next
    (wpAny_call_entry PySem.F.slot_dict_itemiterator_next hT PySem.F.entry_dict_itemiterator_next ?_ (PySem.F.args_dict_itemiterator_next_1 _))))
  refine wpAny_bind (wpAny_pure (wpAny_bind (wpAny_bind ?_)))
  first | refine wpAny_bind (wpAny_typeNameOfWhole_itemiter hT (wpAny_pure ?_)) | refine wpAny_bind (wpAny_typeNameOf_itemiter hT (wpAny_pure ?_))
  refine wpAny_bind (wpAny_fieldsOf hit rfl ?_)
  simp only [show Builtin.Dict_items.ownsTuple "dict_itemiterator" = true by decide, if_true]
  show wpAny _ _ (if (Value.ref d == Value.none) = true then _ else _) _ _ s
  rw [if_neg (show ¬ ((Value.ref d == Value.none) = true) from Bool.false_ne_true)]
  refine wpAny_bind (wpAny_pure (wpAny_bind (wpAny_dictEntries hod hdd ?_)))
  rw [if_neg (by simp)]
  refine wpAny_bind (wpAny_pure (wpAny_bind (wpAny_dictEpoch hod hdd ?_)))
  rw [if_neg (by simp)]
  refine wpAny_pure ?_
  simp only [show ¬ ((i : Int) < 0) from by omega, if_false, Int.toNat_natCast, Array.getElem?_eq_none hge]
  refine wpAny_bind ?_
  first | refine wpAny_bind (wpAny_typeNameOfWhole_itemiter hT (wpAny_pure ?_)) | refine wpAny_bind (wpAny_typeNameOf_itemiter hT (wpAny_pure ?_))
  show wpAny _ _ (setField (.ref it) 2 .none >>= _) _ _ s
  refine wpAny_bind (wpAny_setField hit rfl (by simp) ?_)
  show wpAny _ _ (newExc (.type "StopIteration") [] >>= _) _ _ _
  refine wpAny_bind ?_
  simp only [newExc, newTuple]
  refine wpAny_bind (wpAny_newObj_type ?_ (by size_fits))
  refine wpAny_bind (m := firstArgMember _ _) (wpAny_of_eq (a := Value.none) (by first | rfl | (simp only [firstArgMember]; rfl)) ?_)
  refine wpAny_newObj_type ?_ (by size_fits)
  simp only [raiseNew]
  refine wpAny_bind (wpAny_handled ?_)
  rw [show A.in1.handled = none from hh]
  refine wpAny_bind (wpAny_pure (wpAny_throw ?_))
  exact wpAny_bind (wpAny_isInstance (T := "StopIteration") (b := true) ⟨_, Heap.get?_push_size _ rfl, rfl⟩ isSubtype_stop (wpAny_pure (hQ _ (((Heap.SameBut.update ..).extBut.push _).push _))))
theorem next_raw_items {Q : Option Value → Shared → Prop} (hit : IsItemIter s.heap it d i es.size ep ok ov) (hm : IsRaw s.heap d es ep) (hlt : i < es.size)
    (hQ : ∀ h', IsItemIterOut h' it d (i + 1) es.size ep es[i].key es[i].val s.heap.objs.size →
      h'.get? s.heap.objs.size = some { cls := .type "tuple", data := .seq #[es[i].key, es[i].val] } → h'.objs.size = s.heap.objs.size + 1 →
      (∀ b o, b ≠ it → s.heap.get? b = some o → h'.get? b = some o) → Q (some (.ref s.heap.objs.size)) { s with heap := h' }) :
    wpAny (model prog w) A (pyNext (.ref it)) Q E s := by
  obtain ⟨hp, g, dr, tk, os⟩ := s
  obtain ⟨od, hod, hcd, hdd⟩ := id hm
  have hT : Shared.TypeIs ⟨hp, g, dr, tk, os⟩ (.ref it) "dict_itemiterator" := ⟨_, hit, rfl⟩
  unfold pyNext
  refine wpAny_bind (wpAny_attempt (wpAny_callSpecial?_slot (name := Str.ofString "__next__") hT PySem.F.slot_dict_itemiterator_next
    (wpAny_call_entry PySem.F.slot_dict_itemiterator_next hT PySem.F.entry_dict_itemiterator_next ?_ (PySem.F.args_dict_itemiterator_next_1 _))))
  refine wpAny_bind (wpAny_pure (wpAny_bind (wpAny_bind ?_)))
  first | refine wpAny_bind (wpAny_typeNameOfWhole_itemiter hT (wpAny_pure ?_)) | refine wpAny_bind (wpAny_typeNameOf_itemiter hT (wpAny_pure ?_))
  refine wpAny_bind (wpAny_fieldsOf hit rfl ?_)
  simp only [show Builtin.Dict_items.ownsTuple "dict_itemiterator" = true by decide, if_true]
  show wpAny _ _ (if (Value.ref d == Value.none) = true then _ else _) _ _ _
  rw [if_neg (show ¬ ((Value.ref d == Value.none) = true) from Bool.false_ne_true)]
  refine wpAny_bind (wpAny_pure (wpAny_bind (wpAny_dictEntries hod hdd ?_)))
  rw [if_neg (by simp)]
  refine wpAny_bind (wpAny_pure (wpAny_bind (wpAny_dictEpoch hod hdd ?_)))
  rw [if_neg (by simp)]
  refine wpAny_pure ?_
  simp only [show ¬ ((i : Int) < 0) from by omega, if_false, Int.toNat_natCast, Array.getElem?_eq_getElem hlt]
  refine wpAny_bind ?_
  first | refine wpAny_bind (wpAny_typeNameOfWhole_itemiter hT (wpAny_pure ?_)) | refine wpAny_bind (wpAny_typeNameOf_itemiter hT (wpAny_pure ?_))
  refine wpAny_bind (wpAny_isOneOf_itemiter hT ?_)
  show wpAny _ _ (setField (.ref it) 3 (rawInt ((i : Int) + 1)) >>= _) _ _ ⟨hp, g, dr, tk, os⟩
  refine wpAny_bind (wpAny_setField_rec hit (by simp) fun h₁ he₁ hs₁ => ?_)
  replace hs₁ : Heap.SameBut it hp h₁ := hs₁
  replace he₁ : IsItemIter h₁ it d (i + 1) es.size ep ok ov := by
    have e : ((i + 1 : Nat) : Int) = (i : Int) + 1 := by omega
    unfold IsItemIter; rw [e]; simpa [rawInt] using he₁
  have hT₁ : Shared.TypeIs ⟨h₁, g, dr, tk, os⟩ (.ref it) "dict_itemiterator" := ⟨_, he₁, rfl⟩
  refine wpAny_bind (wpAny_holding (wpAny_bind (wpAny_isOneOf_itemiter hT₁ (wpAny_bind (wpAny_isOneOf_itemiter hT₁ ?_)))))
  show wpAny _ _ (Builtin.Dict_items.pairFromOwner (.ref it) 6 es[i].key es[i].val) _ _ ⟨h₁, g, dr, tk, os⟩
  unfold Builtin.Dict_items.pairFromOwner
  refine wpAny_bind (wpAny_newTuple ?_)
  have he₂ : IsItemIter (h₁.push { cls := .type "tuple", data := .seq #[es[i].key, es[i].val] }) it d (i + 1) es.size ep ok ov := Heap.get?_push_of_some _ he₁
  generalize hh₂ : h₁.push { cls := .type "tuple", data := .seq #[es[i].key, es[i].val] } = h₂ at he₂
  have hz₁ : h₁.objs.size = hp.objs.size := hs₁.1
  have hil : it < hp.objs.size := Heap.lt_size hit
  have ht₂ : h₂.get? hp.objs.size = some { cls := .type "tuple", data := .seq #[es[i].key, es[i].val] } := by rw [← hh₂, ← hz₁]; exact Heap.get?_push_size _ rfl
  have hz₂ : h₂.objs.size = hp.objs.size + 1 := by rw [← hh₂, Heap.size_push, hz₁]
  have hk₂ : ∀ b o, b ≠ it → hp.get? b = some o → h₂.get? b = some o := fun b o hb e => by rw [← hh₂]; exact Heap.get?_push_of_some _ (hs₁.extBut b o hb e)
  show wpAny _ _ (Builtin.Dict_items.ownedTupleIsFree (.ref it) >>= _) _ _ ⟨h₂, g, dr, tk, os⟩
  rw [hz₁]
  clear hh₂ he₁ hs₁ hT₁ hz₁ h₁
  refine wpAny_bind ?_
  unfold Builtin.Dict_items.ownedTupleIsFree
  refine wpAny_bind (wpAny_field he₂ rfl (x := .none) rfl (wpAny_pure ?_))
  simp only [if_true]
  refine wpAny_bind (wpAny_field he₂ rfl (x := ok) rfl (wpAny_bind (wpAny_field he₂ rfl (x := ov) rfl ?_)))
  refine wpAny_bind (wpAny_setField_rec he₂ (by simp) fun h₃ he₃ hs₃ => ?_)
  replace hs₃ : Heap.SameBut it h₂ h₃ := hs₃
  replace he₃ : IsItemIter h₃ it d (i + 1) es.size ep es[i].key ov := he₃
  refine wpAny_bind (wpAny_setField_rec he₃ (by simp) fun h₄ he₄ hs₄ => ?_)
  replace hs₄ : Heap.SameBut it h₃ h₄ := hs₄
  replace he₄ : IsItemIter h₄ it d (i + 1) es.size ep es[i].key es[i].val := he₄
  refine wpAny_bind (wpAny_setField_rec he₄ (by simp) fun h₅ he₅ hs₅ => ?_)
  replace hs₅ : Heap.SameBut it h₄ h₅ := hs₅
  replace he₅ : IsItemIterOut h₅ it d (i + 1) es.size ep es[i].key es[i].val hp.objs.size := he₅
  refine wpAny_bind (wpAny_setField_rec he₅ (by simp) fun h₆ he₆ hs₆ => ?_)
  replace hs₆ : Heap.SameBut it h₅ h₆ := hs₆
  replace he₆ : IsItemIterOut h₆ it d (i + 1) es.size ep es[i].key es[i].val hp.objs.size := he₆
  refine wpAny_bind (wpAny_letGo (wpAny_pure (wpAny_pure ⟨_, rfl, wpAny_pure (hQ h₆ he₆ ?_ ?_ ?_)⟩)))
  · exact hs₆.extBut _ _ (Nat.ne_of_gt hil) (hs₅.extBut _ _ (Nat.ne_of_gt hil) (hs₄.extBut _ _ (Nat.ne_of_gt hil) (hs₃.extBut _ _ (Nat.ne_of_gt hil) ht₂)))
  · show h₆.objs.size = hp.objs.size + 1
    rw [hs₆.1, hs₅.1, hs₄.1, hs₃.1, hz₂]
  · exact fun b o hb e => hs₆.extBut b o hb (hs₅.extBut b o hb (hs₄.extBut b o hb (hs₃.extBut b o hb (hk₂ b o hb e))))
theorem walksValues (hh : A.handled = none) (I d : Addr) (hne : d ≠ I) (es : Array DictEntry) (ep : Nat) :
    Walks prog w A I [I, d] [I] es.size (fun i v => ∃ hi : i < es.size, es[i].val = v) (fun i h => h.IsValIter I d i es.size ep ∧ IsRaw h d es ep) where
  sub := fun b hb => by simp at hb; simp [hb]
  frame := fun _ _ _ st hk => ⟨st.1.at fun o e => hk I (by simp) o e, st.2.at fun o e => hk d (by simp) o e⟩
  item := fun i s Q E hi st hQ => next_raw_values st.1 st.2 hi fun h' hit' hs' => hQ _ h' s.toks ⟨hi, rfl⟩ ⟨hit', st.2.at fun o e => hs'.extBut d o hne e⟩ fun b o hb e => hs'.extBut b o (fun h => hb (by simp [h])) e
  done := fun s Q E st hQ => next_raw_values_end hh st.1 st.2 (Nat.le_refl _) fun h' he' => hQ h' s.toks fun b o hb e => he' b o (fun h => hb (by simp [h])) e
  self := fun _ _ _ _ st hQ => wpAny_pyIter_valiter st.1 hQ
end

abbrev itObj (d : Addr) (i n ep : Nat) (ok ov : Value) : Obj := { cls := .type "dict_itemiterator", dict := none, data := .fields #[.none, .bool false, .ref d, .int i 0, .int n 0, .int ep 0, ok, ov], slots := #[] }
section
variable {prog : Program} {w : World} {A : Around} {E : Value → Shared → Prop} {s : Shared} {env : Env} {h₀ : Heap} {body : List Stmt} {Q : Flow → Shared → Prop}
/-- for a, b in the items of a dict of the ground, for two names of the frame -/
theorem loopI {xk xv : Str} {pk pv pt : Pos} {x1} {I d : Addr} {es : Array DictEntry} {ep : Nat} {m₀ : Str → Option Value} {news : List (Addr × Obj)} (J : Nat → (Str → Option Value) → List (Addr × Obj) → Prop)
    (hh : A.handled = none) (hxk : env.kindOf xk = some .local) (hxv : env.kindOf xv = some .local) (hp : (env.scope.kind == .class || (env.scope.kind == .module && env.locals != env.globals)) = false)
    (hIL : I ≠ env.locals) (hI0 : h₀.get? I = none) (hnI : ∀ q ∈ news, q.1 ≠ I) (hit : IsItemIter s.heap I d 0 es.size ep .none .none) (hm : IsRaw h₀ d es ep) (F : Fr h₀ env.locals s.heap m₀) (N : News h₀ env.locals s.heap news) (hj : J 0 m₀ news)
    (hE : PassesOwn (model prog w) A env E)
    (turn : ∀ i (hi : i < es.size) m₁ nx h tk oI, J i m₁ nx → (∀ q ∈ nx, q.1 ≠ I) → Fr h₀ env.locals h (fun y => if y = xv then some es[i].val else if y = xk then some es[i].key else m₁ y) → News h₀ env.locals h (nx ++ [(I, oI)]) →
      wpAny (model prog w) A (execs body env) (PostG h₀ env.locals (J (i + 1)) [(I, oI)] { s with heap := h, toks := tk } Q) E { s with heap := h, toks := tk })
    (done : ∀ m₁ nx h tk, J es.size m₁ nx → Fr h₀ env.locals h m₁ → News h₀ env.locals h nx → Q .next { s with heap := h, toks := tk }) :
    codeAny (model prog w) A (.forLoop (.Tuple [.Name xk pk, .Name xv pv] x1 pt) (.ref I) body [] env) (fun r s' => match r with | .ok f => Q f s' | .error e => cameBackBy (model prog w) A env E e s') s := by
  have old : ∀ b o, h₀.get? b = some o → b ≠ I := fun b o e hb => by rw [hb, hI0] at e; cases e
  refine codeAny_forLoop_any
    (fun k s' => ∃ h' tk m' news' i ok ov, s' = { s with heap := h', toks := tk } ∧ IsItemIter h' I d i es.size ep ok ov ∧ Fr h₀ env.locals h' m' ∧ News h₀ env.locals h' news' ∧ (∀ p ∈ news', p.1 ≠ I) ∧ J i m' news' ∧ i ≤ es.size ∧ k = es.size + 1 - i) ?_ (es.size + 1)
    ⟨s.heap, s.toks, m₀, news, 0, .none, .none, rfl, hit, F, N, hnI, hj, Nat.zero_le _, rfl⟩
  rintro k s' ⟨H, tk, m', news', i, ok, ov, rfl, hit', F', N', hn', hJ, hi, rfl⟩
  have hmH : IsRaw H d es ep := hm.at fun o e => F'.keep _ _ e
  by_cases hlt : i < es.size
  · have hiH : I < H.objs.size := Heap.lt_size hit'
    refine next_raw_items hit' hmH hlt fun h₁ he₁ ht₁ hz₁ hk₁ => ?_
    refine wpAny_letOwnedTupleGo_items he₁ fun h₂ he₂ hs₂ => ?_
    replace hs₂ : Heap.SameBut I h₁ h₂ := hs₂
    have ht₂ : h₂.IsTuple H.objs.size #[es[i].key, es[i].val] := ⟨_, (hs₂.2 _ (Nat.ne_of_gt hiH)).trans ht₁, rfl, _, rfl⟩
    have hz₂ : h₂.objs.size = H.objs.size + 1 := hs₂.1.trans hz₁
    refine wpAny_assign_Tuple hh ht₂ rfl rfl fun h₃ hx₃ => ?_
    replace hx₃ : Heap.ExtBut h₂.objs.size h₂ h₃ := hx₃
    have keep : ∀ b o, b ≠ I → H.get? b = some o → h₃.get? b = some o := fun b o hb e =>
      hx₃ b o (by rw [hz₂]; exact Nat.ne_of_lt (Nat.lt_succ_of_lt (Heap.lt_size e))) ((hs₂.2 b hb).trans (hk₁ b o hb e))
    have he₃ : IsItemIter h₃ I d (i + 1) es.size ep es[i].key es[i].val := hx₃ I _ (by rw [hz₂]; exact Nat.ne_of_lt (Nat.lt_succ_of_lt hiH)) he₂
    have F₃ : Fr h₀ env.locals h₃ m' := ⟨F'.ns.at' fun o e => keep _ o hIL.symm e, fun b o e => keep b o (old b o e) (F'.keep b o e), F'.above⟩
    have N₃ : News h₀ env.locals h₃ (news' ++ [(I, itObj d (i + 1) es.size ep es[i].key es[i].val)]) := fun p hp => by
      rcases List.mem_append.mp hp with hp | hp
      · exact ⟨keep _ _ (hn' p hp) (N' p hp).1, (N' p hp).2⟩
      · rw [List.mem_singleton.mp hp]
        exact ⟨he₃, hIL, hI0⟩
    show wpAny _ _ (do holding [es[i].val] (assign (.Name xk pk) env es[i].key); do holding [] (assign (.Name xv pv) env es[i].val); pure ()) _ _ _
    refine wpAny_bind (wpAny_holding (wpAny_assign_Name (wpAny_storeName_local hxk F₃.ns (fun h₄ hn₄ hs₄ => ?_) hp)))
    refine wpAny_bind (wpAny_holding (wpAny_assign_Name (wpAny_storeName_local hxv hn₄ (fun h₅ hn₅ hs₅ => wpAny_pure ?_) hp)))
    have F₅ := (F₃.set hn₄ hs₄).set hn₅ hs₅
    have N₅ := (N₃.set hs₄).set hs₅
    refine wpAny_passesOwn hE (wpAny_mono (turn i hlt m' news' h₅ _ _ hJ hn' F₅ N₅) (fun f s₃ h₃ => ?_) fun _ _ e => e)
    have fin : ∀ tk₅, EndG h₀ env.locals (J (i + 1)) [(I, itObj d (i + 1) es.size ep es[i].key es[i].val)] { s with heap := h₅, toks := tk₅ } s₃ → ∃ m, m < es.size + 1 - i ∧ ∃ h' tk m' news' j ok ov, s₃ = { s with heap := h', toks := tk } ∧ IsItemIter h' I d j es.size ep ok ov ∧ Fr h₀ env.locals h' m' ∧ News h₀ env.locals h' news' ∧ (∀ p ∈ news', p.1 ≠ I) ∧ J j m' news' ∧ j ≤ es.size ∧ m = es.size + 1 - j := by
      rintro tk₅ ⟨h₆, tk₆, m₂, news₂, nx, rfl, F₆, N₆, hn₆, ho₆, ha₆, hJ₆⟩
      exact ⟨es.size + 1 - (i + 1), by omega, h₆, tk₆, m₂, nx, i + 1, _, _, rfl, (N₆ _ (ho₆ _ (.head _))).1, F₆, fun p hp => N₆ p (hn₆ p hp), fun p hp => ha₆ p hp _ (.head _), hJ₆, hlt, rfl⟩
    cases f with
    | ret v => exact h₃
    | brk => exact h₃
    | cont => exact fin _ h₃
    | next => exact fin _ h₃
  · obtain rfl : i = es.size := by omega
    refine next_raw_items_end hh hit' hmH (Nat.le_refl _) fun h₁ he₁ => wpAny_execs_nil ?_
    exact done m' news' h₁ tk hJ ⟨F'.ns.at' fun o e => he₁ _ o hIL.symm e, fun b o e => he₁ b o (old b o e) (F'.keep b o e), F'.above⟩ fun p hp => ⟨he₁ _ _ (hn' p hp) (N' p hp).1, (N' p hp).2⟩
/-- the same from the view that items() hands back -/
theorem loopItems {xk xv : Str} {pk pv pt : Pos} {x1} {d : Addr} {es : Array DictEntry} {ep : Nat} {m₀ : Str → Option Value} {news : List (Addr × Obj)} (J : Nat → (Str → Option Value) → List (Addr × Obj) → Prop)
    (hh : A.handled = none) (hxk : env.kindOf xk = some .local) (hxv : env.kindOf xv = some .local) (hp : (env.scope.kind == .class || (env.scope.kind == .module && env.locals != env.globals)) = false)
    (hm : IsRaw h₀ d es ep) (F : Fr h₀ env.locals s.heap m₀) (N : News h₀ env.locals s.heap news) (hj : J 0 m₀ news) (hE : PassesOwn (model prog w) A env E)
    (turn : ∀ I i (hi : i < es.size) m₁ nx h tk oI, J i m₁ nx → (∀ q ∈ nx, q.1 ≠ I) → Fr h₀ env.locals h (fun y => if y = xv then some es[i].val else if y = xk then some es[i].key else m₁ y) → News h₀ env.locals h (nx ++ [(I, oI)]) →
      wpAny (model prog w) A (execs body env) (PostG h₀ env.locals (J (i + 1)) [(I, oI)] { s with heap := h, toks := tk } Q) E { s with heap := h, toks := tk })
    (done : ∀ m₁ nx h tk, J es.size m₁ nx → Fr h₀ env.locals h m₁ → News h₀ env.locals h nx → Q .next { s with heap := h, toks := tk }) :
    wpAny (model prog w) A (pyIter (.ref s.heap.objs.size)) (fun it s₂ => codeAny (model prog w) A (.forLoop (.Tuple [.Name xk pk, .Name xv pv] x1 pt) it body [] env) (fun r s' => match r with | .ok f => Q f s' | .error e => cameBackBy (model prog w) A env E e s') s₂) E
      { s with heap := s.heap.push { cls := .type "dict_items", data := .fields #[.ref d] } } := by
  have F₁ := F.push { cls := .type "dict_items", data := .fields #[.ref d] }
  have F₂ := F₁.push { cls := .type "dict_itemiterator", data := .fields #[.none, .bool false, .ref d, .int 0 0, .int es.size 0, .int ep 0, .none, .none] }
  refine iter_raw_items (d := d) (es := es) (ep := ep) ⟨_, Heap.get?_push_size _ rfl, rfl, rfl⟩ (hm.at fun _ e => F₁.keep _ _ e) ?_
  refine loopI (s := { s with heap := _ }) J hh hxk hxv hp ?_ (next_is_new F₁) ?_ (Heap.get?_push_size _ rfl) hm F₂ (fun q hq => ⟨Heap.get?_push_of_some _ (Heap.get?_push_of_some _ (N q hq).1), (N q hq).2⟩) hj hE (turn _) done
  · intro e
    exact absurd F₁.ns.lt (e ▸ Nat.lt_irrefl _)
  · intro q hq e
    exact absurd (Heap.lt_size (Heap.get?_push_of_some { cls := .type "dict_items", data := .fields #[.ref d] } (N q hq).1)) (e ▸ Nat.lt_irrefl _)
end

section
variable {prog : Program} {w : World} {A : Around} {E : Value → Shared → Prop} {s : Shared}
theorem eqBool_str_int {a : Str} {t : Tok} {b : Int} {u : Tok} {Q : Bool → Shared → Prop} (h : Q false s) : wpAny (model prog w) A (eqBool (.str a t) (.int b u)) Q E s := by
  unfold eqBool
  refine wpAny_holding ?_
  show wpAny _ _ (if (Value.str a t == Value.int b u) = true then _ else _) Q E s
  rw [if_neg (show ¬ ((Value.str a t == Value.int b u) = true) from Bool.false_ne_true)]
  have e := EqMixed.eq_str_int (prog := prog) (w := w) (A := A) (E := E) (s := s) (a := a) (t := t) (b := b) (u := u) (Q := fun v s' => v = .bool false ∧ s' = s) ⟨rfl, rfl⟩
  refine wpAny_bind (wpAny_mono (show wpAny _ _ (richCompare .Eq _ _) _ _ _ from e) ?_ fun _ _ x => x)
  rintro v s' ⟨rfl, rfl⟩
  exact wpAny_truthy_bool h
theorem eqBool_int_str {a : Int} {t : Tok} {b : Str} {u : Tok} {Q : Bool → Shared → Prop} (h : Q false s) : wpAny (model prog w) A (eqBool (.int a t) (.str b u)) Q E s := by
  unfold eqBool
  refine wpAny_holding ?_
  show wpAny _ _ (if (Value.int a t == Value.str b u) = true then _ else _) Q E s
  rw [if_neg (show ¬ ((Value.int a t == Value.str b u) = true) from Bool.false_ne_true)]
  have e := EqMixed.eq_int_str (prog := prog) (w := w) (A := A) (E := E) (s := s) (a := a) (t := t) (b := b) (u := u) (Q := fun v s' => v = .bool false ∧ s' = s) ⟨rfl, rfl⟩
  refine wpAny_bind (wpAny_mono (show wpAny _ _ (richCompare .Eq _ _) _ _ _ from e) ?_ fun _ _ x => x)
  rintro v s' ⟨rfl, rfl⟩
  exact wpAny_truthy_bool h
end
abbrev KI := Str ⊕ Int
def isKI : KI → Value → Bool
  | .inl x, v => Value.isStrOf x v
  | .inr i, v => Value.isInt i v
/-- a key is a text or an int -/
def mixKind (prog : Program) (w : World) : KeyKind prog w KI where
  is := isKI
  hash := fun k => match k with | .inl x => hashStr w x | .inr i => hashInt i
  inj := fun v a b ha hb => by
    cases a with
    | inl x =>
      have ha : Value.isStrOf x v = true := ha
      cases b with
      | inl y =>
        have hb : Value.isStrOf y v = true := hb
        exact congrArg _ (Value.isStrOf_inj _ _ _ ha hb)
      | inr j =>
        have hb : Value.isInt j v = true := hb
        obtain ⟨t, rfl⟩ := Value.isStrOf_shape ha
        obtain ⟨u, e⟩ := Value.isInt_shape hb
        cases e
    | inr i =>
      have ha : Value.isInt i v = true := ha
      cases b with
      | inl y =>
        have hb : Value.isStrOf y v = true := hb
        obtain ⟨t, rfl⟩ := Value.isInt_shape ha
        obtain ⟨u, e⟩ := Value.isStrOf_shape hb
        cases e
      | inr j =>
        have hb : Value.isInt j v = true := hb
        exact congrArg _ (Value.isInt_inj _ _ _ ha hb)
  byValue := fun k v h => by
    cases k with
    | inl x => obtain ⟨t, rfl⟩ := Value.isStrOf_shape h; rfl
    | inr i => obtain ⟨t, rfl⟩ := Value.isInt_shape h; rfl
  pyHash := fun {A E s k v Q} hv h => by
    cases k with
    | inl x => exact (strKind prog w).pyHash hv h
    | inr i => exact (intKind prog w).pyHash hv h
  eqBool := fun {A E s a b u v Q} hu hv h => by
    cases a with
    | inl x =>
      cases b with
      | inl y => exact (strKind prog w).eqBool hu hv (by simpa using h)
      | inr j =>
        obtain ⟨t, rfl⟩ := Value.isStrOf_shape hu
        obtain ⟨t', rfl⟩ := Value.isInt_shape hv
        exact eqBool_str_int (by simpa using h)
    | inr i =>
      cases b with
      | inl y =>
        obtain ⟨t, rfl⟩ := Value.isInt_shape hu
        obtain ⟨t', rfl⟩ := Value.isStrOf_shape hv
        exact eqBool_int_str (by simpa using h)
      | inr j => exact (intKind prog w).eqBool hu hv (by simpa using h)
  «strs» := fun k x t v h => by
    cases k with
    | inl y => exact (strKind prog w).strs y x t v h
    | inr i =>
      have h : Value.isInt i (.str x t) = true := h
      obtain ⟨u, e⟩ := Value.isInt_shape h
      cases e
abbrev MK (w : World) : HeapKind PG w (List KI) := tupleKind (mixKind PG w)
abbrev Ent := List KI × Addr × Value
/-- the object of a dict with such tuples for keys -/
def Tab (w : World) (o : Obj) (xs : List Ent) : Prop := o.ExactDict ∧ ∃ es ep, o.data = .dict es ep ∧ es.toList = xs.map (entryOfKey (MK w)) ∧ (xs.map (·.1)).Nodup
def KeysIn (w : World) (h : Heap) (xs : List Ent) : Prop := ∀ x ∈ xs, (MK w).is h x.1 x.2.1
section
variable {w : World} {o : Obj} {xs : List Ent} {h h' : Heap} {d : Addr}
theorem Tab.dictOf (T : Tab w o xs) (ho : h.get? d = some o) (hk : KeysIn w h xs) : h.DictOfH (MK w) d xs := let ⟨hc, es, ep, hd, he, hn⟩ := T; ⟨o, es, ep, ho, hc, hd, he, hk, hn⟩
theorem tab_of (hm : h.DictOfH (MK w) d xs) : ∃ o, h.get? d = some o ∧ Tab w o xs ∧ KeysIn w h xs := let ⟨o, es, ep, ho, hc, hd, he, hk, hn⟩ := hm; ⟨o, ho, ⟨hc, es, ep, hd, he, hn⟩, hk⟩
theorem is_mono {k : List KI} {a : Addr} (x : (MK w).is h k a) (e : ∀ o, h.get? a = some o → h'.get? a = some o) : (MK w).is h' k a := let ⟨o, items, n, ho, r⟩ := x; ⟨o, items, n, e _ ho, r⟩
theorem KeysIn.mono (x : KeysIn w h xs) (e : h.StaysIn h') : KeysIn w h' xs := fun y hy => is_mono (x y hy) fun o ho => e _ _ ho
theorem dictOf_mono (x : h.DictOfH (MK w) d xs) (e : h.StaysIn h') : h'.DictOfH (MK w) d xs := let ⟨_, ho, T, K⟩ := tab_of x; T.dictOf (e _ _ ho) (K.mono e)
theorem Tab.nil {kk : KeyKind PG w Str} (hd : o.IsDictOf kk []) : Tab w o [] := by
  obtain ⟨es, ep, hc, hdat, _, hp, _⟩ := hd
  refine ⟨hc, es, ep, hdat, ?_, List.nodup_nil⟩
  cases he : es.toList with
  | nil => rfl
  | cons e r => rw [he] at hp; cases hp
end
section
variable {w : World} {A : Around} {E : Value → Shared → Prop} {s : Shared} {h₀ : Heap} {L d a : Addr} {m : Str → Option Value} {rest : List (Addr × Obj)} {o : Obj} {xs : List Ent} {k : List KI} {v : Value}
theorem setItem_tab {Q : Unit → Shared → Prop} (F : Fr h₀ L s.heap m) (N : News h₀ L s.heap ((d, o) :: rest)) (hr : ∀ q ∈ rest, q.1 ≠ d) (T : Tab w o xs) (hk : KeysIn w s.heap xs) (hkey : (MK w).is s.heap k a) (hu : A.units + 1 < cLine) (hsz : xs.length ≤ sizeLine)
    (h : ∀ h' o' tk', Tab w o' (storedH xs k a v) → Fr h₀ L h' m → News h₀ L h' ((d, o') :: rest) → Q () { s with heap := h', toks := tk' }) : wpAny (model PG w) A (setItem (.ref d) (.ref a) v) Q E s := by
  have hm := N (d, o) (.head _)
  refine wpAny_setItem_heap (hsz := hsz) (tupleKind_room_in1 hu) hkey (T.dictOf hm.1 hk) fun h' hd hs => ?_
  obtain ⟨o', ho', T', _⟩ := tab_of hd
  refine h h' o' _ T' (F.change hs hm.2.1 hm.2.2) fun q hq => ?_
  rcases List.mem_cons.mp hq with rfl | hq
  · exact ⟨ho', hm.2⟩
  · have z := N q (.tail _ hq)
    exact ⟨(hs.2 _ (hr q hq)).trans z.1, z.2⟩
theorem getItem_tab {value slice : Expr} {p : Addr × Value} {Q : Value → Shared → Prop} (N : News h₀ L s.heap ((d, o) :: rest)) (T : Tab w o xs) (hk : KeysIn w s.heap xs) (hkey : (MK w).is s.heap k a) (hu : A.units + 1 < cLine) (hp : atKey xs k = some p)
    (h : ∀ tk', Q p.2 { s with toks := tk' }) (hs : subscripted slice false (.ref d) (.ref a) = operate [.ref d, .ref a] (getItem (.ref d) (.ref a)) := by with_unfolding_all rfl) (hg : ∀ r, letTemporaryGo value (.ref d) r = pure () := by intro _; with_unfolding_all rfl) :
    wpAny (model PG w) A (subscriptTail value slice (.ref d) (.ref a)) Q E s := by
  have hD := T.dictOf (N (d, o) (.head _)).1 hk
  exact subscriptTail_builtin hD.typeIs slot_dict_getitem.lookup (wpAny_getItem_heap (tupleKind_room_in1 hu) hkey hD hp (h _)) hs hg
theorem in_tab {Q : Value → Shared → Prop} (N : News h₀ L s.heap ((d, o) :: rest)) (T : Tab w o xs) (hk : KeysIn w s.heap xs) (hkey : (MK w).is s.heap k a) (hu : A.units + 1 < cLine) (lo : (d == sysModules) = false)
    (h : ∀ tk', Q (.bool (atKey xs k).isSome) { s with toks := tk' }) : wpAny (model PG w) A (compareOp .In (.ref a) (.ref d)) Q E s :=
  wpAny_in_heap (tupleKind_room_in1 hu) hkey lo (T.dictOf (N (d, o) (.head _)).1 hk) (h _)
end
section
variable {prog : Program} {w : World} {A : Around} {E : Value → Shared → Prop} {s : Shared} {d : Addr} {es : Array DictEntry} {ep : Nat}
theorem raw_noDict (hm : IsRaw s.heap d es ep) : ∀ b, Value.ref d = .ref b → ∃ ob, s.heap.get? b = some ob ∧ ob.dict = none :=
  fun b e => by injection e with e; subst e; exact let ⟨o, ho, hc, _⟩ := hm; ⟨o, ho, hc.2.1⟩
theorem getMethod_raw {name : Str} {id : String} {pl : Sem Bool} {Q : Value × List Value → Shared → Prop} (slot : Slot "dict" name id) (hty : typeOf (.builtin id) = pure (.type "method_descriptor"))
    (hm : IsRaw s.heap d es ep) (h : Q (.builtin id, [.ref d]) s) : wpAny (model prog w) A (getMethod (.ref d) name pl) Q E s :=
  getMethod_builtin hm.typeIs PySem.F.plainAttrs_dict slot hty (raw_noDict hm) h
theorem call_items_raw {Q : Value → Shared → Prop} (hd : (d == sysModules) = false) (hm : IsRaw s.heap d es ep) (h : Q (.ref s.heap.objs.size) { s with heap := s.heap.push { cls := .type "dict_items", data := .fields #[.ref d] } }) :
    wpAny (model prog w) A (call (.builtin "dict.items") [.ref d]) Q E s :=
  call_meetsIn PySem.F.slot_dict_items hm.typeIs PySem.F.entry_dict_items (PySem.F.args_dict_items_1 _) (meets_raw_items hd) ⟨⟨es, ep, hm⟩, h⟩
theorem call_values_raw {Q : Value → Shared → Prop} (hd : (d == sysModules) = false) (hm : IsRaw s.heap d es ep) (h : Q (.ref s.heap.objs.size) { s with heap := s.heap.push { cls := .type "dict_values", data := .fields #[.ref d] } }) :
    wpAny (model prog w) A (call (.builtin "dict.values") [.ref d]) Q E s :=
  call_meetsIn PySem.F.slot_dict_values hm.typeIs PySem.F.entry_dict_values (PySem.F.args_dict_values_1 _) (meets_raw_values hd) ⟨⟨es, ep, hm⟩, h⟩
end
/-- the marks that the rows below look for -/
def RawMark (g : Heap) (d : Addr) (es : Array DictEntry) (ep : Nat) : Prop := IsRaw g d es ep ∧ (d == sysModules) = false
theorem RawMark.lo {g : Heap} {d : Addr} {es : Array DictEntry} {ep : Nat} (x : RawMark g d es ep) : (d == sysModules) = false := x.2
theorem RawMark.at {g h : Heap} {L : Addr} {m : Str → Option Value} {d : Addr} {es : Array DictEntry} {ep : Nat} (x : RawMark g d es ep) (F : Fr g L h m) : IsRaw h d es ep := x.1.at fun _ e => F.keep _ _ e
local macro_rules | `(tactic| walk_at "getMethod ref") => `(tactic| (k_here; (with_reducible show wpAny _ _ (getMethod (Value.ref _) _ _) _ _ _); k_dflt (first | refine getMethod_raw PySem.F.slot_dict_items PySem.F.type_dict_items (RawMark.at (by assumption) (by k_asm)) ?_ | refine getMethod_raw PySem.F.slot_dict_values PySem.F.type_dict_values (RawMark.at (by assumption) (by k_asm)) ?_)))
local macro_rules | `(tactic| walk_at "call builtin:dict.items") => `(tactic| (k_here; k_dflt (refine call_items_raw (RawMark.lo (by assumption)) (RawMark.at (by assumption) (by k_asm)) ?_)))
local macro_rules | `(tactic| walk_at "call builtin:dict.values") => `(tactic| (k_here; k_dflt (refine call_values_raw (RawMark.lo (by assumption)) (RawMark.at (by assumption) (by k_asm)) ?_)))

section
variable {prog : Program} {w : World} {A : Around} {E : Value → Shared → Prop} {s : Shared} {env : Env} {h₀ : Heap} {target : Expr} {body : List Stmt} {Q : Flow → Shared → Prop}
theorem ground_ne {L b : Addr} {h : Heap} {m : Str → Option Value} {o : Obj} (F : Fr h₀ L h m) (e : h₀.get? b = some o) : b ≠ L := Nat.ne_of_lt (Nat.lt_of_lt_of_le (Heap.lt_size e) F.above)
/-- for a name over the values of a dict of the ground -/
theorem loopV {d : Addr} {es : Array DictEntry} {ep : Nat} {m₀ : Str → Option Value} {news : List (Addr × Obj)} (J : Nat → (Str → Option Value) → List (Addr × Obj) → Prop)
    (hh : A.handled = none) (rm : RawMark h₀ d es ep) (F : Fr h₀ env.locals s.heap m₀) (N : News h₀ env.locals s.heap news) (hj : J 0 m₀ news)
    (hE : PassesOwn (model prog w) A env E) (ht : ∀ I v, letOwnedTupleGo target (.ref I) v = pure ())
    (turn : ∀ i (hi : i < es.size) m₁ nx h tk own, OwnOff own (nx.map (·.1)) → J i m₁ nx → Fr h₀ env.locals h m₁ → News h₀ env.locals h (nx ++ own) →
      wpAny (model prog w) A (assign target env es[i].val) (fun _ s₂ => wpAny (model prog w) A (execs body env) (PostG h₀ env.locals (J (i + 1)) own { s with heap := h, toks := tk } Q) E s₂) E { s with heap := h, toks := tk })
    (done : ∀ m₁ nx h tk, J es.size m₁ nx → Fr h₀ env.locals h m₁ → News h₀ env.locals h nx → Q .next { s with heap := h, toks := tk }) :
    wpAny (model prog w) A (pyIter (.ref s.heap.objs.size)) (fun it s₂ => codeAny (model prog w) A (.forLoop target it body [] env) (fun r s' => match r with | .ok f => Q f s' | .error e => cameBackBy (model prog w) A env E e s') s₂) E
      { s with heap := s.heap.push { cls := .type "dict_values", data := .fields #[.ref d] } } := by
  obtain ⟨od, hod, _⟩ := id rm.1
  have F₁ := F.push { cls := .type "dict_values", data := .fields #[.ref d] }
  have F₂ := F₁.push { cls := .type "dict_valueiterator", data := .fields #[.ref d, .int 0 0, .int es.size 0, .int ep 0] }
  have up : ∀ b o, s.heap.get? b = some o → ((s.heap.push { cls := .type "dict_values", data := .fields #[.ref d] }).push { cls := .type "dict_valueiterator", data := .fields #[.ref d, .int 0 0, .int es.size 0, .int ep 0] }).get? b = some o := fun b o e => Heap.get?_push_of_some _ (Heap.get?_push_of_some _ e)
  have hI : h₀.get? (s.heap.push { cls := .type "dict_values", data := .fields #[.ref d] }).objs.size = none := next_is_new F₁
  have hne : d ≠ (s.heap.push { cls := .type "dict_values", data := .fields #[.ref d] }).objs.size := fun e => by rw [← e, hod] at hI; cases hI
  refine iter_raw_values (d := d) (es := es) (ep := ep) ⟨_, Heap.get?_push_size _ rfl, rfl, rfl⟩ (rm.at F₁) ?_
  refine loopG (s := { s with heap := _ }) J (walksValues hh _ d hne es ep) ?_ ?_ ?_ ?_ ⟨⟨_, Heap.get?_push_size _ rfl, rfl, rfl⟩, rm.at F₂⟩ F₂ (fun q hq => ⟨up _ _ (N q hq).1, (N q hq).2⟩) hj hE (ht _) ?_ done
  · rintro i h ⟨⟨o, ho, _⟩, ⟨o', ho', _⟩⟩ b hb
    rcases List.mem_cons.mp hb with rfl | hb
    · exact ⟨_, ho⟩
    · rw [List.mem_singleton.mp hb]; exact ⟨_, ho'⟩
  · intro hm
    rcases List.mem_cons.mp hm with hm | hm
    · exact absurd F₁.ns.lt (hm ▸ Nat.lt_irrefl _)
    · exact ground_ne F hod (List.mem_singleton.mp hm).symm
  · intro b hb
    rw [List.mem_singleton.mp hb]
    exact hI
  · intro q hq hm
    rcases List.mem_cons.mp hm with hm | hm
    · exact absurd (Heap.lt_size (Heap.get?_push_of_some { cls := .type "dict_values", data := .fields #[.ref d] } (N q hq).1)) (hm ▸ Nat.lt_irrefl _)
    · have z := (N q hq).2.2
      rw [List.mem_singleton.mp hm, hod] at z
      cases z
  · rintro i v m₁ nx h tk own hi ⟨hi', rfl⟩ ho hJ F' N'
    exact turn i hi m₁ nx h tk own ho hJ F' N'
end
def countPre (w : World) (T : Addr) (xs : List Ent) (vs : List Int) (g : Heap) : Prop := g.DictOfH (MK w) T xs ∧ IntsAre (xs.map (·.2.2)) vs ∧ (T == sysModules) = false
theorem raw_entry {prog : Program} {w : World} {K : Type} [DecidableEq K] {knd : HeapKind prog w K} {es : Array DictEntry} {xs : List (K × Addr × Value)} (he : es.toList = xs.map (entryOfKey knd)) {i : Nat} (hi : i < es.size) : ∃ x, xs[i]? = some x ∧ es[i] = entryOfKey knd x := by
  have h1 := entry_at he i
  rw [Array.getElem?_eq_getElem hi] at h1
  cases hx : xs[i]? with
  | none => rw [hx] at h1; cases h1
  | some x => rw [hx] at h1; exact ⟨x, rfl, Option.some.inj h1⟩
theorem ints_length : ∀ {vs : List Value} {ns : List Int}, IntsAre vs ns → vs.length = ns.length
  | _, _, .nil => rfl
  | _, _, .cons _ _ r => by rw [List.length_cons, List.length_cons, ints_length r]
theorem sum_take : ∀ (vs : List Int) (i : Nat) (a : Int), i < vs.length → (vs.take (i + 1)).foldl (· + ·) a = (vs.take i).foldl (· + ·) a + vs.getD i 0
  | [], _, _, h => absurd h (Nat.not_lt_zero _)
  | v :: vs, 0, a, _ => by simp
  | v :: vs, i + 1, a, h => by simpa using sum_take vs i (a + v) (by simpa using h)
theorem names_turn {c a b : Str} {d1 d4 d6 : Decidable (c = a)} {d2 d3 d5 : Decidable (c = b)} (hab : a ≠ b) (x y z v u : Option Value) :
    @ite _ (c = a) d1 x (@ite _ (c = b) d2 y (@ite _ (c = b) d3 z (@ite _ (c = a) d4 v u))) = @ite _ (c = b) d5 y (@ite _ (c = a) d6 x u) := by
  by_cases h : c = a
  · rw [if_pos h, if_pos h, if_neg (fun e => hab (h.symm.trans e))]
  · rw [if_neg h, if_neg h, if_neg h]
    by_cases h : c = b
    · rw [if_pos h, if_pos h]
    · rw [if_neg h, if_neg h, if_neg h]
section CountS
local macro_rules | `(tactic| walk_at "exec For Name Call cons nil") => `(tactic| (k_dflt (refine' wpAny_For ?_ ?hs; (case hs => exact fun _ => rfl))))
theorem count_call (w : World) (T : Addr) (xs : List Ent) (vs : List Int) : CallP w 35 3 24 [.ref T] (countPre w T xs vs) (IntIs (vs.foldl (· + ·) 0)) := by
  w_top off
  intro p loose mean mg mb dp un gd cn cs a ccd cl outer A₀ base h₀ L m s Q E B F X T' hks hdp hun hpre hret
  obtain ⟨hd, hvs, lo⟩ := hpre
  obtain ⟨es, ep, raw, hes⟩ := dictOfH_raw hd
  have rm : RawMark s.heap T es ep := ⟨raw, lo⟩
  clear raw
  refine wpAny_call ?_
  k_dflt cell_enter
  k_steps
  rename_i L1 h1 B1 X1 T1 h2 F2 N2
  have hsz : es.size = xs.length := size_of_entries hes
  have hval : ∀ i (hi : i < es.size), ∃ t, es[i].val = .int (vs.getD i 0) t := by
    intro i hi
    obtain ⟨x, hx, he⟩ := raw_entry hes hi
    obtain ⟨t, ht⟩ := hvs.int_at i x.2.2 (by rw [List.getElem?_map, hx]; rfl)
    exact ⟨t, by rw [he]; exact ht⟩
  have hvl : xs.length = vs.length := by rw [← ints_length hvs, List.length_map]
  generalize hm0 : (fun y => if y = Str.ofString "nc" then _ else _) = m₀ at F2
  refine loopV (fun i m nx => (∃ y t, m = fun z => if z = Str.ofString "calls" then y else if z = Str.ofString "nc" then some (.int ((vs.take i).foldl (· + ·) 0) t) else m₀ z) ∧ nx = []) ?c1 rm F2 N2 ?c4 ?c5 ?c6 ?c7 ?c8
  case c1 => rfl
  case c4 =>
    obtain ⟨t0, e⟩ : ∃ t0, m₀ (Str.ofString "nc") = some (Value.int 0 t0) := ⟨_, by rw [← hm0]; exact if_pos rfl⟩
    refine ⟨⟨m₀ (Str.ofString "calls"), t0, (two_names m₀ (Str.ofString "calls") (Str.ofString "nc")).trans ?_⟩, rfl⟩
    rw [e]
    rfl
  case c5 => exact PassesOwn.never
  case c6 => intro _ _; rfl
  case c8 =>
    rintro m1 nx h4 tk4 ⟨⟨y, t, rfl⟩, rfl⟩ F4 N4
    subst hm0
    k_steps
    have e : vs.take es.size = vs := List.take_of_length_le (by rw [hsz, ← hvl]; exact Nat.le_refl _)
    exact hret _ _ _ (by assumption) ⟨t, by rw [e]⟩
  case c7 =>
    rintro i hi m1 nx h4 tk4 own ho ⟨⟨y, t, rfl⟩, rfl⟩ F4 N4
    subst hm0
    obtain ⟨t', ht'⟩ := hval i hi
    rw [ht']
    refine wpAny_assign_Name ?_
    k_steps
    rename_i h5 tk5 h6 F6 N6
    rw [← sum_take vs i 0 (by omega)] at F6
    exact EndG.intro [] F6 N6 ⟨⟨some (.int (vs.getD i 0) t'), _, funext fun z => names_turn (by decide) _ _ _ _ _⟩, rfl⟩ (fun _ hp => nomatch hp) (fun p hp => hp) fun _ hp => nomatch hp
end CountS

/-- what a copy with one more count holds -/
def Bump (xs : List Ent) (k : List KI) (a : Addr) (i : Int) (ys : List Ent) : Prop :=
  (atKey xs k = none → ∃ t, ys = xs ++ [(k, a, .int i t)]) ∧ ∀ p j u, atKey xs k = some (p, .int j u) → ∃ t, ys = xs.map (putAt k (.int (j + i) t))
def addPre (w : World) (T S : Addr) (xs : List Ent) (k : List KI) (a : Addr) (i : Int) (t : Tok) (g : Heap) : Prop :=
  g.DictOfH (MK w) T xs ∧ g.DictOfH (MK w) S [(k, a, .int i t)] ∧ (T == sysModules) = false ∧ (S == sysModules) = false ∧ (∀ x ∈ xs, ∃ j u, x.2.2 = .int j u) ∧ xs.length ≤ 1000
def AddPost (w : World) (xs : List Ent) (k : List KI) (a : Addr) (i : Int) (g h : Heap) (r : Value) : Prop := ∃ R o ys, r = .ref R ∧ h.get? R = some o ∧ g.get? R = none ∧ (R == sysModules) = false ∧ Tab w o ys ∧ Bump xs k a i ys
theorem take_stored {xs : List Ent} (hn : (xs.map (·.1)).Nodup) {i : Nat} {e : Ent} (he : xs[i]? = some e) : storedH (xs.take i) e.1 e.2.1 e.2.2 = xs.take (i + 1) := by
  rw [storedH_new (atKey_none_of_get fun j p hj => ?_), List.take_add_one, he]
  · rfl
  · rw [List.getElem?_take] at hj
    split at hj
    · rename_i hji
      exact absurd (idxH_unique hn hj he) (by omega)
    · cases hj
section AddS
local macro_rules | `(tactic| walk_at "zz AddCallers 0") => `(tactic| fail "none")
local macro_rules | `(tactic| walk_at "exec For") => `(tactic| (k_dflt (refine' wpAny_For ?_ ?hs; (case hs => exact fun _ => rfl))))
theorem add_call (w : World) (T S : Addr) (xs : List Ent) (k : List KI) (a : Addr) (j : Int) (t : Tok) : CallP w 28 3 40 [.ref T, .ref S] (addPre w T S xs k a j t) (AddPost w xs k a j) := by
  w_top off
  intro p loose mean mg mb dp un gd cn cs af ccd cl outer A₀ base h₀ L m s Q E B F X Tp hks hdp hun hpre hret
  obtain ⟨hT, hS, loT, loS, hints, hlen⟩ := hpre
  have hK : KeysIn w s.heap xs := let ⟨_, _, _, K⟩ := tab_of hT; K
  have hnod : (xs.map (·.1)).Nodup := let ⟨_, _, T, _⟩ := tab_of hT; let ⟨_, _, _, _, _, n⟩ := T; n
  have hKa : (MK w).is s.heap k a := let ⟨_, _, _, K⟩ := tab_of hS; K _ (.head _)
  obtain ⟨es, ep, raw, hes⟩ := dictOfH_raw hT
  have rm : RawMark s.heap T es ep := ⟨raw, loT⟩
  clear raw
  obtain ⟨fs, fp, raw, hfs⟩ := dictOfH_raw hS
  have rm' : RawMark s.heap S fs fp := ⟨raw, loS⟩
  clear raw
  have hsz : es.size = xs.length := size_of_entries hes
  have hsf : fs.size = 1 := size_of_entries hfs
  refine wpAny_call ?_
  k_dflt cell_enter
  k_steps
  rename_i L1 h1 B1 X1 T1 D h2 o2 lo2 hs2 fs2 hi2 fi2 l9 h3 F3 N3
  have Tb : Tab w o2 [] := Tab.nil hs2
  clear hs2 fs2 hi2 fi2
  generalize hm0 : (fun y => if y = Str.ofString "new_callers" then _ else _) = m₀ at F3
  refine loopItems (fun i m nx => (∃ x y, m = fun z => if z = Str.ofString "caller" then y else if z = Str.ofString "func" then x else m₀ z) ∧ ∃ o, nx = [(D, o)] ∧ Tab w o (xs.take i)) ?c1 ?c2 ?c3 ?c4 rm.1 F3 N3 ⟨⟨_, _, two_names _ _ _⟩, o2, rfl, Tb⟩ PassesOwn.never ?c7 ?c8
  case c1 => rfl
  case c2 => rfl
  case c3 => rfl
  case c4 => rfl
  case c8 =>
    rintro m₁ nx h4 tk4 ⟨⟨x, y, hm1⟩, o4, rfl, T4⟩ F4 N4
    rw [hm1] at F4
    rw [← hm0] at F4
    k_steps
    rw [hsz, List.take_length] at T4
    refine loopItems (fun i m nx => (∃ x y, m = fun z => if z = Str.ofString "caller" then y else if z = Str.ofString "func" then x else m₀ z) ∧ ∃ o ys, nx = [(D, o)] ∧ Tab w o ys ∧ (i = 0 → ys = xs) ∧ (i = 1 → Bump xs k a j ys)) ?d1 ?d2 ?d3 ?d4 rm'.1 ?dF ?dN ⟨⟨x, y, by rw [← hm0]⟩, o4, xs, rfl, T4, fun _ => rfl, fun h => nomatch h⟩ PassesOwn.never ?d7 ?d8
    case dF => exact F4
    case dN => exact N4
    case d1 => rfl
    case d2 => rfl
    case d3 => rfl
    case d4 => rfl
    case d8 =>
      rintro m1 nx h5 tk5 ⟨⟨x, y, rfl⟩, o5, ys, rfl, T5, _, hB5⟩ F5 N5
      subst hm0
      k_steps
      exact hret (.ref D) h5 tk5 (by assumption) ⟨D, o5, ys, rfl, (N5 _ (.head _)).1, (N5 _ (.head _)).2.2, lo2, T5, hB5 hsf⟩
    case d7 =>
      rintro I i hi m1 nx h5 tk5 oI ⟨⟨x, y, rfl⟩, o5, ys, rfl, T5, hy, _⟩ hnI F5 N5
      subst hm0
      obtain rfl : i = 0 := by omega
      obtain rfl := hy rfl
      obtain ⟨e, he, hee⟩ := raw_entry hfs hi
      obtain rfl : (k, a, Value.int j t) = e := Option.some.inj he
      rw [hee] at F5
      simp only [entryOfKey] at F5
      have off5 : ∀ q ∈ [(I, oI)], q.1 ≠ D := fun q hq e => hnI _ (.head _) (by rw [List.mem_singleton.mp hq] at e; exact e.symm)
      have K5 : KeysIn w h5 ys := hK.mono fun b o e => F5.keep b o e
      have Ka5 : (MK w).is h5 k a := is_mono hKa fun o e => F5.keep _ _ e
      k_steps
      refine in_tab (rest := [(I, oI)]) N5 T5 K5 Ka5 (by ktr_units) lo2 fun tk6 => ?_
      cases hat : atKey ys k with
      | none =>
        simp only [Option.isSome_none]
        k_steps
        refine setItem_tab (rest := [(I, oI)]) F5 N5 off5 T5 K5 Ka5 (by ktr_units) (by rw [sizeLine_eq]; omega) fun h6 o6 tk6 T6 F6 N6 => ?_
        rw [storedH_new hat] at T6
        k_steps
        refine EndG.intro [(D, o6)] F6 N6 ⟨⟨_, _, funext fun z => swap_names _ _ _ _ _⟩, o6, _, rfl, T6, (fun e => nomatch e), fun _ => ⟨fun _ => ⟨t, rfl⟩, fun p j' u e => ?_⟩⟩ ?f2 ?f3 ?f4
        · rw [hat] at e; cases e
        case f2 => exact fun p hp => by rw [List.mem_singleton.mp hp]; exact .head _
        case f3 => exact fun p hp => .tail _ hp
        case f4 => exact fun p hp q hq e => hnI _ (.head _) (by rw [List.mem_singleton.mp hp, List.mem_singleton.mp hq] at e; exact e)
      | some p =>
        simp only [Option.isSome_some]
        obtain ⟨j', u', hp'⟩ : ∃ j' u', p.2 = .int j' u' := by
          cases hf : ys.find? (fun x => decide (x.1 = k)) with
          | none => rw [atKey, hf] at hat; cases hat
          | some x =>
            rw [atKey, hf] at hat
            obtain rfl : x.2 = p := Option.some.inj hat
            exact hints x (List.mem_of_find?_eq_some hf)
        obtain ⟨pa, pv⟩ := p
        obtain rfl : pv = .int j' u' := hp'
        k_steps
        refine wpAny_getItem_heap (tupleKind_room_in1 (by ktr_units)) Ka5 (T5.dictOf (N5 (D, o5) (.head _)).1 K5) hat ?_
        k_steps
        refine setItem_tab (rest := [(I, oI)]) F5 N5 off5 T5 K5 Ka5 (by ktr_units) (by rw [sizeLine_eq]; omega) fun h6 o6 tk6 T6 F6 N6 => ?_
        rw [storedH_old hat] at T6
        k_steps
        refine EndG.intro [(D, o6)] F6 N6 ⟨⟨_, _, funext fun z => swap_names _ _ _ _ _⟩, o6, _, rfl, T6, (fun e => nomatch e), fun _ => ⟨fun e => ?_, fun p2 j2 u2 e => ?_⟩⟩ ?g2 ?g3 ?g4
        · rw [hat] at e; cases e
        · rw [hat] at e
          cases e
          exact ⟨_, rfl⟩
        case g2 => exact fun p hp => by rw [List.mem_singleton.mp hp]; exact .head _
        case g3 => exact fun p hp => .tail _ hp
        case g4 => exact fun p hp q hq e => hnI _ (.head _) (by rw [List.mem_singleton.mp hp, List.mem_singleton.mp hq] at e; exact e)
  case c7 =>
    rintro I i hi m1 nx h4 tk4 oI ⟨⟨x, y, rfl⟩, o4, rfl, T4⟩ hnI F4 N4
    subst hm0
    obtain ⟨e, he, hee⟩ := raw_entry hes hi
    rw [hee] at F4
    simp only [entryOfKey] at F4
    k_steps
    have K4 : KeysIn w h4 xs := hK.mono fun b o e => F4.keep b o e
    have hmem : e ∈ xs := List.mem_of_getElem? he
    refine setItem_tab (rest := [(I, oI)]) F4 N4 ?f1 T4 (fun q hq => K4 q (List.mem_of_mem_take hq)) (K4 e hmem) (by ktr_units) (by rw [List.length_take, sizeLine_eq]; omega) fun h5 o5 tk5 T5 F5 N5 => ?_
    case f1 => exact fun q hq e => hnI _ (.head _) (by rw [List.mem_singleton.mp hq] at e; exact e.symm)
    rw [take_stored hnod he] at T5
    k_steps
    refine EndG.intro [(D, o5)] F5 N5 ⟨⟨_, _, funext fun z => swap_names _ _ _ _ _⟩, o5, rfl, T5⟩ ?f2 ?f3 ?f4
    case f2 => exact fun p hp => by rw [List.mem_singleton.mp hp]; exact .head _
    case f3 => exact fun p hp => .tail _ hp
    case f4 => exact fun p hp q hq e => hnI _ (.head _) (by rw [List.mem_singleton.mp hp, List.mem_singleton.mp hq] at e; exact e)
end AddS

/-- a comprehension over a list, the ledger standing -/
theorem compRest_list {prog : Program} {w : World} {A : Around} {s : Shared} {h₀ : Heap} {L : Addr} {m : Str → Option Value} {env : Env} {elt : Expr} {x : Str} {scope : Scope} {cl : List (Str × Addr)} {S : List (Addr × Obj) → Prop} {P : Nat → Value → Prop} {Fin : List Value → List (Addr × Obj) → Prop} {n : Nat} {news : List (Addr × Obj)} (K : Nat → List Value → Prop)
    (turn : ∀ i v ys I oI C oC D m₂ h tk (E' : Value → Shared → Prop), i < n → P i v → K i ys → LCg.NsObj oC m₂ → m₂ x = some v → Fr h₀ L h m → News h₀ L h ((I, oI) :: (C, oC) :: (D, LCg.lst ys) :: news) → LCg.Off3 I C D news → ((@Ne Nat I C) ∧ (@Ne Nat I D) ∧ (@Ne Nat C D)) →
      wpAny (model prog w) A (eval elt (compEnvC scope cl C env)) (LCg.CompEnd h₀ L m { s with heap := h, toks := tk } I oI C oC D (LCg.lst ys) S (fun y news' => news' = news ∧ K (i + 1) (ys ++ [y]))) E' { s with heap := h, toks := tk })
    (fin : ∀ ys, K n ys → Fin ys news) : ∀ k i ys, k + i = n → K i ys → LCg.CompRest prog w A h₀ L m env elt x scope cl s S P Fin k i ys news
  | 0, i, ys, e, hK => fin ys (by rw [← e, Nat.zero_add]; exact hK)
  | k + 1, i, ys, e, hK => fun v I oI C oC D m₂ h tk E' hP hC hx F N off ne => wpAny_mono (turn i v ys I oI C oC D m₂ h tk E' (by omega) hP hK hC hx F N off ne) (by
      rintro y s₂ ⟨h', tk', news', rfl, F', N', off', hS, rfl, hK'⟩
      exact ⟨h', tk', news', rfl, F', N', off', hS, compRest_list K turn fin k (i + 1) _ (by omega) hK'⟩) fun _ _ e => e
/-- a list's values are octets, each by its numbers -/
inductive BytesAre : List Value → List (List Int) → Prop
  | nil : BytesAre [] []
  | cons {b : Array UInt8} {ks : List Int} (t : Tok) {vs : List Value} {L : List (List Int)} : KBw.bInts b = ks → BytesAre vs L → BytesAre (.bytes b t :: vs) (ks :: L)
abbrev BytesOut (L : List (List Int)) : Heap → Heap → Value → Prop := fun g h r => ∃ l vs k, r = .ref l ∧ h.get? l = some (W.listOf (List.toArray vs) k) ∧ g.get? l = none ∧ BytesAre vs L
def ordersL : Nat → List Int → List (List Int)
  | 0, ks => [ks]
  | n + 1, ks => if ks.length < 2 then [ks] else (List.range ks.length).flatMap fun k => (ordersL n (ks.take k ++ ks.drop (k + 1))).map fun r => (ks.drop k).take 1 ++ r
def ordersTo (n : Nat) (ks : List Int) (i : Nat) : List (List Int) := (List.range i).flatMap fun k => (ordersL n (ks.take k ++ ks.drop (k + 1))).map fun r => (ks.drop k).take 1 ++ r
theorem BytesAre.at : ∀ {vs : List Value} {L : List (List Int)}, BytesAre vs L → ∀ (j : Nat) (v : Value), vs[j]? = some v → ∃ b t ks, v = .bytes b t ∧ L[j]? = some ks ∧ KBw.bInts b = ks
  | _, _, .nil, _, _, h => by simp at h
  | _, _, .cons t hb r, 0, v, h => ⟨_, t, _, (Option.some.inj h).symm, rfl, hb⟩
  | _, _, .cons t hb r, j + 1, v, h => r.at j v h
theorem BytesAre.append : ∀ {vs ws : List Value} {L M : List (List Int)}, BytesAre vs L → BytesAre ws M → BytesAre (vs ++ ws) (L ++ M)
  | _, _, _, _, .nil, h => h
  | _, _, _, _, .cons t hb r, h => .cons t hb (r.append h)
theorem BytesAre.length : ∀ {vs : List Value} {L : List (List Int)}, BytesAre vs L → vs.length = L.length
  | _, _, .nil => rfl
  | _, _, .cons _ _ r => by rw [List.length_cons, List.length_cons, r.length]
theorem ordersTo_succ (n : Nat) (ks : List Int) (i : Nat) : ordersTo n ks (i + 1) = ordersTo n ks i ++ (ordersL n (ks.take i ++ ks.drop (i + 1))).map fun r => (ks.drop i).take 1 ++ r := by
  rw [ordersTo, List.range_succ, List.flatMap_append, ordersTo]
  simp
theorem ordersTo_len {n : Nat} {c : Nat} (h : ∀ ks : List Int, ks.length ≤ 4 → (ordersL n ks).length ≤ c) {ks : List Int} (hk : ks.length ≤ 4) : ∀ i, (ordersTo n ks i).length ≤ i * c
  | 0 => Nat.zero_le _
  | i + 1 => by
    rw [ordersTo_succ, List.length_append, List.length_map, Nat.succ_mul]
    refine Nat.add_le_add (ordersTo_len h hk i) (h _ ?_)
    rw [List.length_append, List.length_take, List.length_drop]
    omega
theorem ordersL_len : ∀ (n : Nat) (ks : List Int), ks.length ≤ 4 → (ordersL n ks).length ≤ 4 ^ n
  | 0, _, _ => Nat.le_refl _
  | n + 1, ks, h => by
    rw [ordersL]
    split
    · exact Nat.pow_pos (by omega)
    · refine Nat.le_trans (ordersTo_len (ordersL_len n) h ks.length) ?_
      rw [Nat.pow_succ, Nat.mul_comm]
      exact Nat.mul_le_mul_left _ h
theorem ordersL_each : ∀ (n : Nat) (ks r : List Int), r ∈ ordersL n ks → r.length = ks.length
  | 0, ks, r, h => by rw [List.mem_singleton.mp h]
  | n + 1, ks, r, h => by
    rw [ordersL] at h
    split at h
    · rw [List.mem_singleton.mp h]
    · obtain ⟨k, hk, h⟩ := List.mem_flatMap.mp h
      obtain ⟨r', hr', rfl⟩ := List.mem_map.mp h
      have := List.mem_range.mp hk
      rw [List.length_append, List.length_take, List.length_drop, ordersL_each n _ r' hr', List.length_append, List.length_take, List.length_drop]
      omega
section OrdersS
local macro_rules | `(tactic| walk_at "zz Orders 0") => `(tactic| fail "none")
local macro_rules | `(tactic| walk_at "zz Orders 1") => `(tactic| fail "none")
local macro_rules | `(tactic| walk_at "eval ListComp") => `(tactic| (k_here; k_dflt (refine LCg.ListComp_U (F₀ := by k_asm) (by with_unfolding_all rfl) (by decide) (by rfl) (by decide) (by rfl) ?_)))
theorem orders_call (w : World) : ∀ (n : Nat) (b : Array UInt8) (ks : List Int) (t : Tok), KBw.bInts b = ks → ks.length ≤ n + 1 → n ≤ 3 → CallP w 40 (2 * n + 4) (128 * (n + 1)) [.bytes b t] NoPre (BytesOut (ordersL n ks))
  | 0, b, ks, t, hb, hlen, hn => by
    w_top off
    intro p loose mean mg mb dp un gd cn cs a ccd cl outer A₀ base h₀ L m s Q E B F X T hks hdp hun hpre hret
    refine wpAny_call ?_
    k_dflt cell_enter
    k_steps
    exact hret _ _ _ (by assumption) ⟨_, _, _, rfl, (by rename_i kN; exact (kN _ (.head _)).1), (by rename_i kN; exact (kN _ (.head _)).2.2), .cons t hb .nil⟩
  | n + 1, b, ks, t, hb, hlen, hn => by
    have ih := orders_call w n
    w_top off
    intro p loose mean mg mb dp un gd cn cs a ccd cl outer A₀ base h₀ L m s Q E B F X T hks hdp hun hpre hret
    refine wpAny_call ?_
    k_dflt cell_enter
    k_steps
    · refine hret _ _ _ (by assumption) ⟨_, _, _, rfl, (by rename_i kN; exact (kN _ (.head _)).1), (by rename_i kN; exact (kN _ (.head _)).2.2), ?_⟩
      rw [ordersL, if_pos (by omega)]
      exact .cons t hb .nil
    refine wpAny_For ?_ (by intro _; rfl)
    k_steps
    rename_i L1 h1 tk1 B1 X1 T1 oK oO dK dO hge tk0 lf h2 l1 h3 F3 N3 h4 tk4 t4 u4 v4 hr kF kN kk
    have dO' : oO.data = .cell (some (.bytes b t)) := dO.trans (by with_unfolding_all rfl)
    clear kk F3 N3 dO
    have hsm : Builtin.Range.small 0 (ks.length : Int) 1 = true := small_one (by omega) (by omega) (by omega) (by omega)
    have hsz : Builtin.Range.rangeSize 0 (ks.length : Int) 1 = (ks.length : Int) := by rw [rangeSize_nat]; omega
    generalize bindL _ _ _ = m₀ at kF
    refine loopG_range (n := ks.length) (fun i m nx => ∃ v o lf vs kf, m = (fun z => if z = Str.ofString "found" then some (.ref lf) else m₀ z) ∧ nx = [(lf, W.listOf (List.toArray vs) kf), (L1 + 1 + 1, o), (L1 + 1, oO)] ∧ BytesAre vs (ordersTo n ks i) ∧ o.data = .cell v ∧ @LT.lt Nat _ (@HAdd.hAdd Nat Nat Nat _ (@HAdd.hAdd Nat Nat Nat _ L1 1) 1) lf ∧ @LT.lt Nat _ (@HAdd.hAdd Nat Nat Nat _ L1 1) lf) ?c1 hr hsm hsz kF kN ?c4 PassesOwn.never ?c6 ?c7 ?c8
    case c1 => rfl
    case c6 => intro _ _; rfl
    case c4 => exact ⟨_, _, lf, [], 0, rfl, rfl, .nil, dK, l1⟩
    case c8 =>
      rintro m1 nx h5 tk5 ⟨v, o, lf, vs, kf, rfl, rfl, hB, dk, l1a, l1b⟩ F5 N5
      k_steps
      refine hret _ _ _ (by assumption) ⟨lf, vs, kf, rfl, (N5 _ (.head _)).1, (N5 _ (.head _)).2.2, ?_⟩
      rw [ordersL, if_neg (by omega)]
      exact hB
    case c7 =>
      rintro i t6 m1 nx h5 tk5 own hi ho ⟨v, o, lf, vs, kf, rfl, rfl, hB, dk, l1a, l1b⟩ F5 N5
      simp only [List.map_cons, List.map_nil, List.cons_append, List.nil_append] at ho N5
      rw [show ((0 : Int) + (i : Int) * 1) = (i : Int) by omega]
      refine wpAny_assign_Name ?_
      k_steps
      rename_i h6 o6 kF6 kN6 d6 h7 t7 k7 kF7 kN7 kb1 h8 t8 k8 kF8 kN8 kb2 t9 k9 kb3
      have hKS : KBw.bInts (KBy.picked b none (some (i : Int)) ++ KBy.picked b (some ((i : Int) + 1)) none) = ks.take i ++ ks.drop (i + 1) := by
        rw [kb3, show ((i : Int) + 1) = ((i + 1 : Nat) : Int) by omega, clipAt_nat]
        rw [Nat.min_eq_left (by omega), Nat.min_eq_left (by omega), List.take_of_length_le (l := ks.drop (i + 1)) (by rw [List.length_drop]; omega)]
      refine CallP.use (ih _ _ t9 hKS ?len (by omega)) (by k_asm) kF8 (by k_asm) kN8 (by k_asm) rfl (by ktr_room) (by ktr_units) trivial ?_
      case len =>
        rw [List.length_append, List.length_take, List.length_drop]
        omega
      rintro r h9 tk9 F9 N9 st9 ⟨l, ws, kw, rfl, hg, hn9, hW⟩
      have N10 := newsMore kF8 kN8 st9 hg hn9
      have hap := newsApart kN8 hn9
      have hcard : (ordersL n (ks.take i ++ ks.drop (i + 1))).length ≤ 64 := by
        refine Nat.le_trans (ordersL_len n _ ?_) (Nat.le_trans (Nat.pow_le_pow_right (by omega) (show n ≤ 3 by omega)) (by decide))
        rw [List.length_append, List.length_take, List.length_drop]
        omega
      have hacc : (ordersTo n ks i).length ≤ 4 * 64 := by
        refine Nat.le_trans (ordersTo_len (c := 64) (fun ks' h' => Nat.le_trans (ordersL_len n ks' h') (Nat.le_trans (Nat.pow_le_pow_right (by omega) (show n ≤ 3 by omega)) (by decide))) (by omega) i) ?_
        exact Nat.mul_le_mul_right _ (by omega)
      refine LCg.CompSrc.ledger rfl F9 N10 (.head _) ?size fun g => ?_
      case size =>
        show ws.toArray.size ≤ _
        rw [List.size_toArray, hW.length, sizeLine_eq]
        omega
      refine compRest_list (fun j ys => BytesAre ys (((ordersL n (ks.take i ++ ks.drop (i + 1))).take j).map fun r => (ks.drop i).take 1 ++ r)) ?turn ?fin _ 0 [] (by rw [Nat.add_zero]) .nil
      case fin =>
        intro ys hys
        k_steps
        rename_i D12 h12 tk12 kF12 kN12 o12
        rw [List.size_toArray, hW.length, List.take_length] at hys
        refine kmk_add_lit kF12 kN12 (News.isList kN12 (.tail _ (.tail _ (.head _)))) (News.isList kN12 (.head _)) rfl (fun D h13 F13 N13 l13 => ?_) ?_
        · k_steps
          rename_i h16 F16 N16
          refine EndG.intro [(D, W.listOf (List.toArray (vs ++ ys)) 0), (L1 + 1 + 1, o6), (L1 + 1, oO)] F16 N16 ⟨_, o6, D, vs ++ ys, 0, funext fun z => swap_name _ _ _, rfl, ?hb, d6, ?hd1, ?hd2⟩ ?hn ?hw ?hx
          case hb => rw [ordersTo_succ]; exact hB.append hys
          case hd1 => exact l13 (L1 + 1 + 1, o6) (.tail _ (.tail _ (.tail _ (.head _))))
          case hd2 => exact l13 (L1 + 1, oO) (.tail _ (.tail _ (.tail _ (.tail _ (.head _)))))
          case hn =>
            intro p hp
            rcases List.mem_cons.mp hp with rfl | hp
            · exact .head _
            · rcases List.mem_cons.mp hp with rfl | hp
              · exact .tail _ (.tail _ (.tail _ (.tail _ (.head _))))
              · rw [List.mem_singleton.mp hp]
                exact .tail _ (.tail _ (.tail _ (.tail _ (.tail _ (.head _)))))
          case hw => exact fun p hp => .tail _ (.tail _ (.tail _ (.tail _ (.tail _ (.tail _ hp)))))
          case hx =>
            intro p hp q hq e
            rcases List.mem_cons.mp hp with rfl | hp
            · exact absurd (l13 q (.tail _ (.tail _ (.tail _ (.tail _ (.tail _ hq)))))) (by rw [← e]; exact Nat.lt_irrefl _)
            · rcases List.mem_cons.mp hp with rfl | hp
              · exact ho q hq (L1 + 1 + 1) (.tail _ (.head _)) e.symm
              · rw [List.mem_singleton.mp hp] at e
                exact ho q hq (L1 + 1) (.tail _ (.tail _ (.head _))) e.symm
        · show vs.length + ys.length ≤ _
          rw [hB.length, hys.length, List.length_map, sizeLine_eq]
          omega
      case turn =>
        intro j v ys I oI C oC D m₂ h11 tk11 E' hj hv hK hC hx F11 N11 off ne
        obtain ⟨b', tb, ks', rfl, hLj, hb'⟩ := hW.at j v (by rw [← hv]; simp)
        have hl' : ks'.length ≤ 4 := by
          rw [ordersL_each n _ _ (List.mem_of_getElem? hLj), List.length_append, List.length_take, List.length_drop]
          omega
        k_steps
        rename_i h14 t14 k14 kF14 kN14 kb14 t15 k15 kb15
        refine LCg.CompEnd.intro kF14 kN14 _ (fun p hp => hp) off (.inr ⟨_, .head _, rfl, _, rfl⟩) ⟨rfl, ?_⟩
        have ht : (ordersL n (ks.take i ++ ks.drop (i + 1))).take (j + 1) = (ordersL n (ks.take i ++ ks.drop (i + 1))).take j ++ [ks'] := by rw [List.take_add_one, hLj]; rfl
        rw [ht, List.map_append]
        refine hK.append (.cons _ ?_ .nil)
        rw [kb15, show ((i : Int) + 1) = ((i + 1 : Nat) : Int) by omega, clipAt_nat]
        rw [Nat.min_eq_left (by omega), Nat.min_eq_left (by omega)]
        rw [show i + 1 - i = 1 by omega]
end OrdersS

section
variable {prog : Program} {w : World} {A : Around} {s : Shared} {R : Result → Shared → Prop} {E : Value → Shared → Prop}
theorem enter_callS {f : Value} {pos : List Value} {kw : List (Str × Value)} {c : ClaimW} {cl : Str → Option Addr} {mean : ExcName → Option Value} {args : List WData} {s₁ : Shared} {M : Model}
    (h : codeS M A (.call f ⟨pos, kw⟩) (GoodWG c cl mean args s₁) s) : wpS M A (PySem.call f pos kw) (fun v s' => GoodWG c cl mean args s₁ (.ok (.ret v)) s') (fun e s' => GoodWG c cl mean args s₁ (.error e) s') s :=
  wpS_call (codeS_mono h fun res s' g => by rcases g.1 with ⟨v, _, _, rfl, _⟩ | ⟨e, _, _, rfl, _⟩ <;> exact g)
theorem call_cellsS {name : Str} {params : Arguments} {body : List Stmt} {scope : Scope} {pm cd doc : Value} {a : Addr} {o : Obj} {args : List Value} {binds : List (Str × Value)}
    (hroom : A.depth < recursionLimit) (ho : s.heap.get? a = some o) (hdata : o.data = .func (Calls.docDef name params body scope pm cd doc)) (hlim : s.heap.NoLimit) (hcd : s.heap.CodeRec cd name)
    (hbind : bindArgs (Calls.docDef name params body scope pm cd doc) ⟨args, []⟩ = pure binds)
    (hkind : (binds.all fun y => scope.names.lookup y.1 == some .local || scope.names.lookup y.1 == some .cell) = true)
    (hnd : ((cellsFrom 0 scope.names []).map (·.1)).Nodup)
    (h : ∀ h₁ tk cells, Fr s.heap s.heap.objs.size h₁ (bindL (envOfC name scope s.heap.objs.size a cd).kindOf binds fun _ => none) → News s.heap s.heap.objs.size h₁ cells →
      CellsAre (bindC (envOfC name scope s.heap.objs.size a cd).kindOf binds fun _ => none) (cellsFrom (s.heap.objs.size + 1) scope.names []) cells →
      wpS (model prog w) (A.deeper (envOfC name scope s.heap.objs.size a cd)) (execs body (envOfC name scope s.heap.objs.size a cd))
        (fun f s' => R (.ok (.ret (match f with | .ret v => v | _ => .none))) s') (fun _ _ => False) { s with heap := h₁, toks := tk })
    (hco : scope.isCoroutine = false := by rfl) (hgen : scope.isGenerator = false := by rfl) (hk : scope.kind = .function := by rfl) :
    codeS (model prog w) A (.call (.ref a) ⟨args, []⟩) R s := by
  refine codeS_call_function hroom ho hdata hco hgen rfl hcd (wpAny_of_eq hbind ?_)
  refine wpAny_newFunctionEnv_cells hk (kindsX hkind _) fun env' he s' x => ?_
  subst he
  refine ⟨hlim.keeps x.toInCall.keep, codeS_func ?_⟩
  obtain ⟨h₁, tk, rfl, _⟩ := x.done
  have hk₁ := x.toInCall.keep
  obtain ⟨cells, NC, Y⟩ := Cl.news (h₀ := s.heap) (Nat.le_refl _) fun n c hm => ⟨x.cell n c (lookup_of_mem_nodup (cellsFrom_names scope.names 0 (s.heap.objs.size + 1) [] [] rfl ▸ hnd) hm), x.above n c hm⟩
  exact wpS_mono (h h₁ tk cells ⟨x.toInCall.ns, fun b o e => hk₁ b o e, Nat.le_refl _⟩ NC Y) (fun _ _ y => y) fun _ _ y => y.elim
theorem wpS_execs_at {M : Model} {env : Env} {l : List Stmt} {Q : Flow → Shared → Prop} (n : Nat) (h : wpAny M A (execs (l.take n) env) (fun f s' => match f with | .next => wpS M A (execs (l.drop n) env) Q E s' | f => Q f s') E s) : wpS M A (execs l env) Q E s := by
  have := wpS_execs_cut (M := M) (A := A) (E := E) (s := s) (env := env) (Q := Q) (l.take n) (post := l.drop n) h
  rwa [List.take_append_drop] at this
end

abbrev keyOf (i : Int) : List KI := [.inl (Str.ofString "hits"), .inr i, .inl (Str.ofString "orders")]
theorem keyOf_inj {i j : Int} (h : keyOf i = keyOf j) : i = j := by
  injection h with _ h
  injection h with h _
  exact Sum.inr.inj h
/-- the table's counts, by hits -/
inductive Cnt : List Ent → List (Int × Int) → Prop
  | nil : Cnt [] []
  | cons (i j : Int) (a : Addr) (t : Tok) {xs : List Ent} {cs : List (Int × Int)} : Cnt xs cs → Cnt ((keyOf i, a, .int j t) :: xs) ((i, j) :: cs)
def plusOne (i : Int) (c : Int × Int) : Int × Int := if c.1 = i then (c.1, c.2 + 1) else c
def bumpC (cs : List (Int × Int)) (i : Int) : List (Int × Int) := if cs.any (fun c => decide (c.1 = i)) then cs.map (plusOne i) else cs ++ [(i, 1)]
theorem Cnt.append : ∀ {xs ys : List Ent} {cs ds : List (Int × Int)}, Cnt xs cs → Cnt ys ds → Cnt (xs ++ ys) (cs ++ ds)
  | _, _, _, _, .nil, h => h
  | _, _, _, _, .cons i j a t r, h => .cons i j a t (r.append h)
theorem Cnt.length : ∀ {xs : List Ent} {cs : List (Int × Int)}, Cnt xs cs → xs.length = cs.length
  | _, _, .nil => rfl
  | _, _, .cons _ _ _ _ r => by rw [List.length_cons, List.length_cons, r.length]
theorem Cnt.ints : ∀ {xs : List Ent} {cs : List (Int × Int)}, Cnt xs cs → IntsAre (xs.map (·.2.2)) (cs.map (·.2))
  | _, _, .nil => .nil
  | _, _, .cons _ j _ t r => .cons j t r.ints
theorem Cnt.vals : ∀ {xs : List Ent} {cs : List (Int × Int)}, Cnt xs cs → ∀ x ∈ xs, ∃ j u, x.2.2 = .int j u
  | _, _, .nil, _, h => nomatch h
  | _, _, .cons i j a t r, x, h => by
    rcases List.mem_cons.mp h with rfl | h
    · exact ⟨j, t, rfl⟩
    · exact r.vals x h
theorem Cnt.none : ∀ {xs : List Ent} {cs : List (Int × Int)} {i : Int}, Cnt xs cs → atKey xs (keyOf i) = none → cs.any (fun c => decide (c.1 = i)) = false
  | _, _, _, .nil, _ => rfl
  | _, _, i, .cons i' j a t r, h => by
    by_cases e : i' = i
    · subst e; simp [atKey] at h
    · have ne : ¬ keyOf i' = keyOf i := fun q => e (keyOf_inj q)
      rw [List.any_cons, r.none (by simpa [atKey, List.find?_cons, ne] using h), decide_eq_false e]; rfl
theorem Cnt.skip : ∀ {xs : List Ent} {cs : List (Int × Int)} {i : Int}, Cnt xs cs → keyOf i ∉ xs.map (·.1) → cs.map (plusOne i) = cs
  | _, _, _, .nil, _ => rfl
  | _, _, i, .cons i' j a t r, h => by
    rw [List.map_cons, List.mem_cons, not_or] at h
    rw [List.map_cons, r.skip h.2, plusOne, if_neg fun e => h.1 (by rw [← e])]
theorem Cnt.some : ∀ {xs : List Ent} {cs : List (Int × Int)} {i j : Int} {p : Addr} {u t : Tok}, Cnt xs cs → (xs.map (·.1)).Nodup → atKey xs (keyOf i) = some (p, .int j u) →
    Cnt (xs.map (putAt (keyOf i) (.int (j + 1) t))) (cs.map (plusOne i)) ∧ cs.any (fun c => decide (c.1 = i)) = true
  | _, _, _, _, _, _, _, .nil, _, h => by simp [atKey] at h
  | _, _, i, j, p, u, t, .cons i' j' a t' r, hn, h => by
    rw [List.map_cons, List.nodup_cons] at hn
    by_cases e : i' = i
    · subst e
      have h' : (a, Value.int j' t') = (p, Value.int j u) := by simpa [atKey] using h
      injection h' with h1 h2
      injection h2 with h2 _
      subst h1 h2
      rw [List.map_cons, List.map_cons, map_putAt_of_not_mem _ _ _ hn.1, r.skip hn.1, putAt, if_pos rfl, plusOne, if_pos rfl]
      exact ⟨.cons _ _ _ _ r, by simp⟩
    · have ne : ¬ keyOf i' = keyOf i := fun q => e (keyOf_inj q)
      obtain ⟨h1, h2⟩ := r.some (t := t) hn.2 (by simpa [atKey, List.find?_cons, ne] using h)
      rw [List.map_cons, List.map_cons, putAt, if_neg ne, plusOne, if_neg e]
      exact ⟨.cons _ _ _ _ h1, by rw [List.any_cons, h2, Bool.or_true]⟩
theorem Cnt.bump {xs ys : List Ent} {cs : List (Int × Int)} {i : Int} {a : Addr} (C : Cnt xs cs) (hn : (xs.map (·.1)).Nodup) (B : Bump xs (keyOf i) a 1 ys) : Cnt ys (bumpC cs i) := by
  cases h : atKey xs (keyOf i) with
  | none =>
    obtain ⟨t, rfl⟩ := B.1 h
    rw [bumpC, C.none h, if_neg Bool.false_ne_true]
    exact C.append (.cons _ _ _ _ .nil)
  | some p =>
    obtain ⟨pa, pv⟩ := p
    have hv : ∃ j u, pv = .int j u := by
      cases hf : xs.find? (fun x => decide (x.1 = keyOf i)) with
      | none => rw [atKey, hf] at h; cases h
      | some x =>
        rw [atKey, hf] at h
        have e : x.2 = (pa, pv) := Option.some.inj h
        obtain ⟨j, u, q⟩ := C.vals x (List.mem_of_find?_eq_some hf)
        rw [e] at q
        exact ⟨j, u, q⟩
    obtain ⟨j, u, rfl⟩ := hv
    obtain ⟨t, rfl⟩ := B.2 _ _ _ h
    obtain ⟨h1, h2⟩ := C.some (t := t) hn h
    rw [bumpC, h2, if_pos rfl]
    exact h1
/-- where the keys of a bumped table lie -/
theorem bump_keys {xs ys : List Ent} {k : List KI} {a : Addr} {i : Int} (hv : ∀ x ∈ xs, ∃ j u, x.2.2 = .int j u) (B : Bump xs k a i ys) : ∀ y ∈ ys, (∃ x ∈ xs, y.1 = x.1 ∧ y.2.1 = x.2.1) ∨ (y.1 = k ∧ y.2.1 = a) := by
  intro y hy
  cases h : atKey xs k with
  | none =>
    obtain ⟨t, rfl⟩ := B.1 h
    rcases List.mem_append.mp hy with hy | hy
    · exact .inl ⟨y, hy, rfl, rfl⟩
    · rw [List.mem_singleton.mp hy]; exact .inr ⟨rfl, rfl⟩
  | some p =>
    obtain ⟨pa, pv⟩ := p
    have hv : ∃ j u, pv = .int j u := by
      cases hf : xs.find? (fun x => decide (x.1 = k)) with
      | none => rw [atKey, hf] at h; cases h
      | some x =>
        rw [atKey, hf] at h
        have e : x.2 = (pa, pv) := Option.some.inj h
        obtain ⟨j, u, q⟩ := hv x (List.mem_of_find?_eq_some hf)
        rw [e] at q
        exact ⟨j, u, q⟩
    obtain ⟨j, u, rfl⟩ := hv
    obtain ⟨t, rfl⟩ := B.2 _ _ _ h
    obtain ⟨x, hx, rfl⟩ := List.mem_map.mp hy
    refine .inl ⟨x, hx, ?_⟩
    unfold putAt
    split <;> exact ⟨rfl, rfl⟩
/-- a ledger that holds such a table at R -/
def TabIn (w : World) (nx : List (Addr × Obj)) (R : Addr) (cs : List (Int × Int)) : Prop :=
  ∃ o xs, (R, o) ∈ nx ∧ Tab w o xs ∧ Cnt xs cs ∧ ∀ x ∈ xs, ∃ ok, (x.2.1, ok) ∈ nx ∧ TupKeyObj (mixKind PG w) x.1 ok
theorem TabIn.mono {w : World} {nx ny : List (Addr × Obj)} {R : Addr} {cs : List (Int × Int)} (T : TabIn w nx R cs) (h : ∀ p ∈ nx, p ∈ ny) : TabIn w ny R cs :=
  let ⟨o, xs, a, b, c, d⟩ := T; ⟨o, xs, h _ a, b, c, fun x hx => let ⟨ok, e, f⟩ := d x hx; ⟨ok, h _ e, f⟩⟩
theorem TabIn.dict {w : World} {h₀ h : Heap} {L : Addr} {nx : List (Addr × Obj)} {R : Addr} {cs : List (Int × Int)} (T : TabIn w nx R cs) (N : News h₀ L h nx) : ∃ o xs, (R, o) ∈ nx ∧ Tab w o xs ∧ Cnt xs cs ∧ h.DictOfH (MK w) R xs ∧ ∀ x ∈ xs, ∃ ok, (x.2.1, ok) ∈ nx ∧ TupKeyObj (mixKind PG w) x.1 ok :=
  let ⟨o, xs, a, b, c, d⟩ := T
  ⟨o, xs, a, b, c, b.dictOf (N _ a).1 fun x hx => let ⟨ok, e, f⟩ := d x hx; f.key (N _ e).1, d⟩
/-- the table behind a call of add_callers -/
theorem TabIn.bump {w : World} {nx ny : List (Addr × Obj)} {R a : Addr} {o ok : Obj} {xs ys : List Ent} {cs : List (Int × Int)} {i : Int} (C : Cnt xs cs) (hn : (xs.map (·.1)).Nodup) (hk : ∀ x ∈ xs, ∃ ok, (x.2.1, ok) ∈ nx ∧ TupKeyObj (mixKind PG w) x.1 ok)
    (B : Bump xs (keyOf i) a 1 ys) (T : Tab w o ys) (hR : (R, o) ∈ ny) (ha : (a, ok) ∈ ny) (hok : TupKeyObj (mixKind PG w) (keyOf i) ok) (hsub : ∀ p ∈ nx, p ∈ ny) : TabIn w ny R (bumpC cs i) := by
  refine ⟨o, ys, hR, T, C.bump hn B, fun y hy => ?_⟩
  rcases bump_keys C.vals B y hy with ⟨x, hx, e1, e2⟩ | ⟨e1, e2⟩
  · obtain ⟨ok', h1, h2⟩ := hk x hx
    rw [e1, e2]
    exact ⟨ok', hsub _ h1, h2⟩
  · rw [e1, e2]
    exact ⟨ok, ha, hok⟩
def hitsOf (N : Nat) : List Int := (ordersL 3 (rangeKs 0 N)).map hitsI
def rounds (N : Nat) : Nat → List (Int × Int)
  | 0 => []
  | i + 1 => (hitsOf N).foldl bumpC (rounds N i)
theorem bumpC_len (cs : List (Int × Int)) (i : Int) : (bumpC cs i).length ≤ cs.length + 1 := by
  unfold bumpC
  split
  · rw [List.length_map]; omega
  · rw [List.length_append, List.length_singleton]; exact Nat.le_refl _
theorem bumps_len : ∀ (l : List Int) (cs : List (Int × Int)), (l.foldl bumpC cs).length ≤ cs.length + l.length
  | [], _ => Nat.le_refl _
  | i :: l, cs => by
    rw [List.foldl_cons, List.length_cons]
    have := bumps_len l (bumpC cs i)
    have := bumpC_len cs i
    omega
theorem hitsOf_len {N : Nat} (h : N ≤ 4) : (hitsOf N).length ≤ 64 := by
  rw [hitsOf, List.length_map]
  exact ordersL_len 3 _ (by rw [rangeKs_length]; exact h)
theorem rounds_len {N : Nat} (h : N ≤ 4) : ∀ i, (rounds N i).length ≤ i * 64
  | 0 => Nat.le_refl _
  | i + 1 => by
    rw [rounds]
    have h1 := bumps_len (hitsOf N) (rounds N i)
    have h2 := rounds_len h i
    have h3 := hitsOf_len h
    omega
theorem counts3 : ((rounds 3 2).map (·.2)).foldl (· + ·) 0 = 2 * factI ((3 : Nat) : Int) := by decide +kernel
theorem counts4 : ((rounds 4 2).map (·.2)).foldl (· + ·) 0 = 2 * factI ((4 : Nat) : Int) := by decide +kernel
theorem counts_ok {N : Nat} (h3 : 3 ≤ N) (h4 : N ≤ 4) : ((rounds N 2).map (·.2)).foldl (· + ·) 0 = 2 * factI (N : Int) := by
  obtain rfl | rfl : N = 3 ∨ N = 4 := by omega
  · exact counts3
  · exact counts4

section
variable {w : World} {A : Around} {E : Value → Shared → Prop} {s : Shared} {env : Env} {h₀ : Heap} {L D a : Addr} {m : Str → Option Value} {news : List (Addr × Obj)}
/-- {key: value} -/
theorem dict1 {keyE valE : Expr} {pos : Pos} {Q : Value → Shared → Prop} (F : Fr h₀ L s.heap m) (N : News h₀ L s.heap news) (hnl : h₀.NoLimit)
    (h : ∀ D h' o, Tab w o [] → Fr h₀ L h' m → News h₀ L h' ((D, o) :: news) → (∀ p ∈ news, p.1 < D) → (D == sysModules) = false →
      wpAny (model PG w) A (eval keyE env) (fun kv s₁ => wpAny (model PG w) A (eval valE env) (fun vv s₂ => wpAny (model PG w) A (dictSet D kv vv) (fun _ s₃ => Q (.ref D) s₃) E s₂) E s₁) E { s with heap := h' }) :
    wpAny (model PG w) A (eval (.Dict [some keyE] [valE] pos) env) Q E s := by
  refine wpAny_Dict_any rfl rfl (List.cons_ne_nil _ _) (Nat.le_add_left 1 14) ?_
  refine wpAny_bind (wpAny_mono (h _ _ { cls := .type "dict", data := .dict #[] } ⟨⟨rfl, rfl, rfl⟩, #[], 0, rfl, rfl, List.nodup_nil⟩ (F.push _) (News.push F N _ rfl) (fun p hp => Heap.lt_size (N p hp).1) (F.notModules (modules_low hnl))) (fun kv s₁ h₁ => ?_) fun _ _ e => e)
  refine wpAny_bind (wpAny_holding (wpAny_bind (wpAny_mono h₁ (fun vv s₂ h₂ => ?_) fun _ _ e => e)))
  refine wpAny_bind (wpAny_standAt (wpAny_pure ?_))
  refine wpAny_bind (wpAny_holding (wpAny_pure ?_))
  refine wpAny_pure ?_
  unfold storeAll
  simp only [List.forIn_cons, List.forIn_nil]
  refine wpAny_bind (wpAny_bind (wpAny_mono h₂ (fun _ s₃ h₃ => wpAny_pure (wpAny_pure h₃)) fun _ _ e => e))
theorem dictSet_tab {o : Obj} {k : List KI} {v : Value} {Q : Unit → Shared → Prop} (F : Fr h₀ L s.heap m) (pre post : List (Addr × Obj)) (hnews : news = pre ++ (D, o) :: post) (N : News h₀ L s.heap news) (hp : ∀ q ∈ pre, q.1 ≠ D) (hq : ∀ q ∈ post, q.1 ≠ D) (T : Tab w o []) (hkey : (MK w).is s.heap k a) (hu : A.units < cLine)
    (h : ∀ h' o' tk', Tab w o' [(k, a, v)] → Fr h₀ L h' m → News h₀ L h' (pre ++ (D, o') :: post) → Q () { s with heap := h', toks := tk' }) : wpAny (model PG w) A (dictSet D (.ref a) v) Q E s := by
  subst hnews
  have hm := N (D, o) (List.mem_append_right _ (.head _))
  refine wpAny_dictSet_heap (hsz := Nat.zero_le _) hu hkey (T.dictOf hm.1 fun _ hx => nomatch hx) fun h' hd hs => ?_
  obtain ⟨o', ho', T', _⟩ := tab_of hd
  exact h h' o' _ T' (F.change hs hm.2.1 hm.2.2) (N.setIn hp hq hs ho')
end
local macro_rules | `(tactic| walk_at "eval Dict") => `(tactic| (k_here; (with_reducible show wpAny _ _ (eval (Expr.Dict [some _] [_] _) _) _ _ _); k_dflt (refine' Mine.dict1 ?F ?N ?n ?_; (case F => k_asm); (case N => k_asm); (case n => exact TopRead.nolimit (by k_asm)); k_whole); intro D' h' o' TD' F' N' l1 lo'; (try k_lt l1)))

theorem ints_range {N : Nat} (h : N ≤ 256) : KBw.bInts (byteArr (rangeKs 0 N)) = rangeKs 0 N := by
  unfold byteArr
  rw [KBw.ints_list, List.map_map]
  unfold rangeKs
  rw [List.map_map]
  refine List.map_congr_left fun i hi => ?_
  have := List.mem_range.mp hi
  simp only [Function.comp]
  have e : (0 + (i : Int)).toNat = i := by omega
  rw [e, Nat.toUInt8_eq, UInt8.toNat_ofNat', Nat.mod_eq_of_lt (by omega)]
  omega
/-- the walk halts here -/
def Stop (P : Prop) : Prop := P
theorem stopAt {P : Prop} (h : Stop P) : P := h
theorem Stop.go {P : Prop} (h : P) : Stop P := h
local macro_rules | `(tactic| walk_at "call ref") => `(tactic| (k_here; (with_reducible first | show wpAny _ _ (call (Value.ref 40) _) _ _ _ | show wpAny _ _ (call (Value.ref 28) _) _ _ _ | show wpAny _ _ (call (Value.ref 35) _) _ _ _ | show wpAny _ _ (call (Value.ref 50) _) _ _ _ | show wpAny _ _ (call (Value.ref 21) _) _ _ _); refine Mine.stopAt ?_))
theorem chosen_ok {N : Nat} (h3 : 3 ≤ N) (h4 : N ≤ 4) : chosenAcc (N : Int) (2 ^ (2 * (N : Int)).toNat) = List.map (fun k' => (2 * (N : Int) * waysI (2 * (N : Int) - k') k').fdiv (2 * (N : Int) - k')) (rangeKs 0 ((N : Int) + 1 - 0).toNat) := by
  obtain rfl | rfl : N = 3 ∨ N = 4 := by omega
  all_goals decide +kernel
theorem fact_mul (a n : Int) (h0 : 0 ≤ n) (h8 : n ≤ 8) : IntMulOk a (factI n) := PySem.IntMulOk.of_right (PySem.intBits_le_64 (by have := fact_pos n h0 h8; omega) (by have := fact_pos n h0 h8; omega))
theorem sign_mul (a k : Int) : IntMulOk a (1 - 2 * k.fmod 2) :=
  have h1 := Int.fmod_nonneg_of_pos k (show (0 : Int) < 2 by omega)
  have h2 := Int.fmod_lt_of_pos k (show (0 : Int) < 2 by omega)
  PySem.IntMulOk.of_right (PySem.intBits_le_64 (by omega) (by omega))
local macro_rules | `(tactic| walk_at "binaryOp Mult int int") => `(tactic| (k_here; (with_reducible show wpAny _ _ (binaryOp _ (Value.int _ _) (Value.int (factI _) _)) _ _ _); k_dflt (refine mul_int ?_ (Mine.fact_mul _ _ (by omega) (by omega)))))
local macro_rules | `(tactic| walk_at "binaryOp Mult int int") => `(tactic| (k_here; (with_reducible show wpAny _ _ (binaryOp _ (Value.int _ _) (Value.int (_ - _ * Int.fmod _ _) _)) _ _ _); k_dflt (refine mul_int ?_ (Mine.sign_mul _ _))))
theorem told_ok {N : Nat} {ch : List Int} (h3 : 3 ≤ N) (h4 : N ≤ 4) (hch : ch = chosenAcc (N : Int) (2 ^ (2 * (N : Int)).toNat)) : (List.map (fun k' => ch.getD k'.toNat 0 * factI ((N : Int) - k') * (1 - 2 * k'.fmod 2)) (rangeKs 0 ((N : Int) + 1 - 0).toNat)).sum = (N : Int) - 2 := by
  obtain rfl | rfl : N = 3 ∨ N = 4 := by omega
  · subst hch; decide +kernel
  · subst hch; decide +kernel
theorem idx_ok {N : Nat} (h3 : 3 ≤ N) (h4 : N ≤ 4) : (N : Int) - 2 = List.getD [1, 2] ((N : Int) - 3).toNat 0 := by
  obtain rfl | rfl : N = 3 ∨ N = 4 := by omega
  · rfl
  · rfl
def getC : List (Int × Int) → Int → Int
  | [], _ => 0
  | c :: r, i => if c.1 = i then c.2 else getC r i
theorem Cnt.get : ∀ {xs : List Ent} {cs : List (Int × Int)} (_ : Cnt xs cs) (i : Int) (t : Tok), ∃ u, ((atKey xs (keyOf i)).map (·.2)).getD (.int 0 t) = .int (getC cs i) u
  | _, _, .nil, _, t => ⟨t, rfl⟩
  | _, _, .cons i' j a t' r, i, t => by
    by_cases e : i' = i
    · subst e
      exact ⟨t', by simp [atKey, getC]⟩
    · have ne : ¬ keyOf i' = keyOf i := fun q => e (keyOf_inj q)
      obtain ⟨u, h⟩ := r.get i t
      refine ⟨u, ?_⟩
      rw [getC, if_neg e, ← h]
      simp [atKey, List.find?_cons, ne]
theorem call_get_tab {w : World} {A : Around} {E : Value → Shared → Prop} {s : Shared} {d a : Addr} {xs : List Ent} {cs : List (Int × Int)} {i : Int} {t : Tok} {Q : Value → Shared → Prop} (hu : A.units + 1 < cLine) (lo : (d == sysModules) = false) (hkey : (MK w).is s.heap (keyOf i) a) (D : s.heap.DictOfH (MK w) d xs) (C : Cnt xs cs)
    (h : ∀ u tk', Q (.int (getC cs i) u) { s with toks := tk' }) : wpAny (model PG w) A (call (.builtin "dict.get") [.ref d, .ref a, .int 0 t]) Q E s := by
  refine call_meetsIn PySem.F.slot_dict_get D.typeIs PySem.F.entry_dict_get (PySem.F.args_dict_get_3 _ _ _) (meetsH_dict_get_default (MK w) d a lo _) ⟨tupleKind_room_in1 hu, _, xs, hkey, D, ?_⟩
  obtain ⟨u, e⟩ := C.get i t
  rw [e]
  exact h _ _
theorem get_ok {N : Nat} (h3 : 3 ≤ N) (h4 : N ≤ 4) : getC (rounds N 2) 0 = 2 * ((N : Int) - 2) := by
  obtain rfl | rfl : N = 3 ∨ N = 4 := by omega
  · decide +kernel
  · decide +kernel

section
open PyProof.Rows.LCg
variable {prog : Program} {w : World} {A : Around} {E : Value → Shared → Prop} {s : Shared} {h₀ : Heap} {L : Addr} {m : Str → Option Value} {env : Env} {es : Array DictEntry} {ep : Nat}
abbrev pairsOf (es : Array DictEntry) : List ((Tok → Value) × Value) := es.toList.map fun e => (fun _ => e.key, e.val)
theorem raw_block {elt iter c : PySem.Expr} {a b : Str} {pa pb tp : Pos} {kk : Nat} {scope : Scope} {cl : List (Str × Addr)} {pos : Pos} {s₂ : Shared} {I d : Addr} {news : List (Addr × Obj)} {S : List (Addr × Obj) → Prop}
    {Fin : List Value → List (Addr × Obj) → Prop} {RR : Value → Addr → Result → Shared → Prop}
    (hh : A.handled = none) (hsz : es.size ≤ sizeLine) (hraw : ∀ h nw, News h₀ L h nw → S nw → IsRaw h d es ep)
    (hit : IsItemIter s₂.heap I d 0 es.size ep .none .none) (hS : S news)
    (hcell : ∀ y ∈ scope.names, y.2 ≠ .cell) (hkind : scope.kind = .function) (hxa : scope.names.lookup a = some .local) (hxb : scope.names.lookup b = some .local) (hab : ¬ a = b)
    (F : Fr h₀ L s₂.heap m) (N : News h₀ L s₂.heap news) (hIL : L ≠ I) (hI₀ : h₀.get? I = none) (off : ∀ p ∈ news, p.1 ≠ I)
    (R : KctRest prog w A h₀ L m env c elt a b scope cl s₂ S Fin (pairsOf es) [] news)
    (hRR : ∀ D C h tk m' ys news', Fr h₀ L h m → News h₀ L h ((D, lst ys) :: news') → Off1 D news' → h.Ns C m' → h₀.get? C = none → h₀.get? D = none → C ≠ L → D ≠ L → C ≠ D → (∀ p ∈ news', p.1 ≠ C) → Fin ys news' → RR (.ref D) C (.ok .next) { s₂ with heap := h, toks := tk }) :
    wpAny (model prog w) A (newList []) (fun acc s₃ => wpAny (model prog w) A (newFunctionEnv scope env.globals cl [] env.qual none .none (some env)) (fun cenv s₄ =>
      codeAny (model prog w) A (.compStart (.ListComp elt [⟨.Tuple [.Name a pa, .Name b pb] kk tp, iter, [c], 0⟩] scope pos) 0 (.ref I) acc { cenv with scope := relabel scope env }) (RR acc cenv.locals) s₄) E s₃) E s₂ := by
  refine wpAny_newObj_type (wpAny_newFunctionEnv hcell (by intro y hy; simp at hy) (fun h₁ hns₁ hsb₁ => ?_) hkind)
  dsimp only at hns₁ hsb₁ ⊢
  generalize hH2 : s₂.heap.push { cls := .type "list", dict := none, data := .seq ([] : List Value).toArray } = H2 at hns₁ hsb₁ ⊢
  have hC : H2.objs.size = s₂.heap.objs.size + 1 := by rw [← hH2, Heap.size_push]
  have hDC : s₂.heap.objs.size ≠ H2.objs.size := by rw [hC]; exact Nat.ne_of_lt (Nat.lt_succ_self _)
  have below : ∀ b, b < s₂.heap.objs.size → b ≠ H2.objs.size ∧ b ≠ s₂.heap.objs.size := fun b hb => ⟨by rw [hC]; exact Nat.ne_of_lt (Nat.lt_succ_of_lt hb), Nat.ne_of_lt hb⟩
  have hIlt : I < s₂.heap.objs.size := Heap.lt_size hit
  have old : ∀ b o, s₂.heap.get? b = some o → h₁.get? b = some o := fun b o e => hsb₁.extBut b o (below b (Heap.lt_size e)).1 (Heap.get?_push_of_some _ (hH2 ▸ Heap.get?_push_of_some _ e))
  have hacc : h₁.get? s₂.heap.objs.size = some (lst []) := hsb₁.extBut _ _ hDC (Heap.get?_push_of_some _ (hH2 ▸ Heap.get?_push_size _ rfl))
  have hit₁ : IsItemIter h₁ I d 0 es.size ep .none .none := old _ _ hit
  have fresh : ∀ a, s₂.heap.objs.size ≤ a → s₂.heap.get? a = none := fun a ha => by
    cases e : s₂.heap.get? a with
    | none => rfl
    | some o' => exact absurd (Heap.lt_size e) (Nat.not_lt.mpr ha)
  have fresh₀ : ∀ a, s₂.heap.objs.size ≤ a → h₀.get? a = none := fun a ha => by
    cases e : h₀.get? a with
    | none => rfl
    | some o' => have := F.keep a o' e; rw [fresh a ha] at this; cases this
  have hD₀ : h₀.get? s₂.heap.objs.size = none := fresh₀ _ (Nat.le_refl _)
  have hC₀ : h₀.get? H2.objs.size = none := fresh₀ _ (by rw [hC]; exact Nat.le_succ _)
  have hLlt : L < s₂.heap.objs.size := F.ns.lt
  have hDL : s₂.heap.objs.size ≠ L := Ne.symm (below L hLlt).2
  have hCL : H2.objs.size ≠ L := Ne.symm (below L hLlt).1
  have hCI : I ≠ H2.objs.size := (below I hIlt).1
  have hDI : I ≠ s₂.heap.objs.size := (below I hIlt).2
  have off₀ : Off3 I H2.objs.size s₂.heap.objs.size news := Off3.of fun p hp => ⟨off p hp, (below _ (Heap.lt_size (N p hp).1)).1, (below _ (Heap.lt_size (N p hp).1)).2⟩
  have loop : ∀ s₃ : Shared, s₃ = { s₂ with heap := h₁, toks := s₂.toks + ([] : List (Str × Value)).length } →
      codeAny (model prog w) A (.compLoop (.ListComp elt [⟨.Tuple [.Name a pa, .Name b pb] kk tp, iter, [c], 0⟩] scope pos) 0 (.ref I) (.ref s₂.heap.objs.size) (compEnvC scope cl H2.objs.size env))
        (RR (.ref s₂.heap.objs.size) H2.objs.size) s₃ := by
    rintro s₃ rfl
    refine kct_loop
      (fun k s' => ∃ h' tk i ys m' news', s' = { s₂ with heap := h', toks := tk } ∧ i ≤ es.size ∧ k = es.size + 1 - i ∧ ys.length ≤ i ∧ (∃ ok ov, IsItemIter h' I d i es.size ep ok ov) ∧ Fr h₀ L h' m ∧ h'.Ns H2.objs.size m' ∧
        News h₀ L h' ((s₂.heap.objs.size, lst ys) :: news') ∧ Off3 I H2.objs.size s₂.heap.objs.size news' ∧ S news' ∧ KctRest prog w A h₀ L m env c elt a b scope cl s₂ S Fin ((pairsOf es).drop i) ys news') ?_ (es.size + 1)
      ⟨h₁, _, 0, [], _, news, rfl, Nat.zero_le _, rfl, Nat.le_refl _, ⟨_, _, hit₁⟩, F.keeps old, hns₁, fun p hp => ?_, off₀, hS, by rw [List.drop_zero]; exact R⟩
    · rintro k s' ⟨h', tk, i, ys, m', news', rfl, hi, rfl, hyl, ⟨ok, ov, hit'⟩, F', hn', N', off', hS', R'⟩
      have off3 := off'.mem
      have hD' : IsRaw h' d es ep := hraw h' news' (fun p hp => N' p (List.mem_cons_of_mem _ hp)) hS'
      by_cases hlt : i < es.size
      · refine next_raw_items hit' hD' hlt fun h2 he2 ht2 hz2 hk2 => ?_
        refine wpAny_letOwnedTupleGo_items he2 fun h3 he3 hs3 => ?_
        replace hs3 : Heap.SameBut I h2 h3 := hs3
        have hI' : I < h'.objs.size := Heap.lt_size hit'
        have ht3 : h3.IsTuple h'.objs.size #[es[i].key, es[i].val] := ⟨_, (hs3.2 _ (Nat.ne_of_gt hI')).trans ht2, rfl, _, rfl⟩
        have hz3 : h3.objs.size = h'.objs.size + 1 := hs3.1.trans hz2
        refine wpAny_assign_Tuple hh ht3 rfl rfl fun h4 hx4 => ?_
        replace hx4 : Heap.ExtBut h3.objs.size h3 h4 := hx4
        have keep : ∀ b o, b ≠ I → h'.get? b = some o → h4.get? b = some o := fun b o hb e =>
          hx4 b o (by rw [hz3]; exact Nat.ne_of_lt (Nat.lt_succ_of_lt (Heap.lt_size e))) ((hs3.2 b hb).trans (hk2 b o hb e))
        have he4 : IsItemIter h4 I d (i + 1) es.size ep es[i].key es[i].val := hx4 I _ (by rw [hz3]; exact Nat.ne_of_lt (Nat.lt_succ_of_lt hI')) he3
        show wpAny _ _ (do holding [es[i].val] (assign (.Name a pa) (compEnvC scope cl H2.objs.size env) es[i].key); do holding [] (assign (.Name b pb) (compEnvC scope cl H2.objs.size env) es[i].val); pure ()) _ _ _
        refine wpAny_bind (wpAny_holding (wpAny_assign_Name (wpAny_storeName_local (lookup_relabel_local hxa) (hn'.at' fun o e => keep _ o (Ne.symm hCI) e) (fun h₆ hn₆ hs₆ => ?_) (by simp [compEnvC, relabel, hkind]))))
        refine wpAny_bind (wpAny_holding (wpAny_assign_Name (wpAny_storeName_local (lookup_relabel_local hxb) hn₆ (fun h₄ hn₄ hs₄ => wpAny_pure ?_) (by simp [compEnvC, relabel, hkind]))))
        have up : ∀ c o, c ≠ I → c ≠ H2.objs.size → h'.get? c = some o → h₄.get? c = some o := fun c o h1 h2 e => hs₄.extBut c o h2 (hs₆.extBut c o h2 (keep c o h1 e))
        have hI₄ : IsItemIter h₄ I d (i + 1) es.size ep es[i].key es[i].val := hs₄.extBut I _ hCI (hs₆.extBut I _ hCI he4)
        obtain ⟨oI, heI, hoI⟩ : ∃ oI : Obj, h₄.get? I = some oI ∧ ∀ h : Heap, h.get? I = some oI → ∃ ok ov, IsItemIter h I d (i + 1) es.size ep ok ov := ⟨_, hI₄, fun _ e => ⟨_, _, e⟩⟩
        obtain ⟨oC, heC, hoC⟩ := ns_obj hn₄
        have F₄ : Fr h₀ L h₄ m := ⟨F'.ns.at' fun o e => up _ o hIL (Ne.symm hCL) e, fun c o e => up c o (fun q => by rw [q, hI₀] at e; cases e) (fun q => by rw [q, hC₀] at e; cases e) (F'.keep c o e), F'.above⟩
        have hdrop : (pairsOf es).drop i = (fun _ => es[i].key, es[i].val) :: (pairsOf es).drop (i + 1) := by
          have hlt' : i < (pairsOf es).length := by rw [List.length_map, Array.length_toList]; exact hlt
          rw [List.drop_eq_getElem_cons hlt']
          congr 1
          rw [List.getElem_map, Array.getElem_toList]
        have R'' : KctRest prog w A h₀ L m env c elt a b scope cl s₂ S Fin ((fun _ => es[i].key, es[i].val) :: (pairsOf es).drop (i + 1)) ys news' := by rw [← hdrop]; exact R'
        have N₄ : News h₀ L h₄ ((I, oI) :: (H2.objs.size, oC) :: (s₂.heap.objs.size, lst ys) :: news') := fun q hq => by
          rcases List.mem_cons.mp hq with rfl | hq
          · exact ⟨heI, Ne.symm hIL, hI₀⟩
          · rcases List.mem_cons.mp hq with rfl | hq
            · exact ⟨heC, hCL, hC₀⟩
            · have z := N' q hq
              refine ⟨up _ _ ?_ ?_ z.1, z.2⟩
              · rcases List.mem_cons.mp hq with rfl | hq
                · exact Ne.symm hDI
                · exact (off3 q hq).1
              · rcases List.mem_cons.mp hq with rfl | hq
                · exact hDC
                · exact (off3 q hq).2.1
        have fin : ∀ (ys' : List Value) (h₅ : Heap) (tk₅ : Nat) (news₅ : List (Addr × Obj)), ys'.length ≤ i + 1 → Fr h₀ L h₅ m → News h₀ L h₅ ((I, oI) :: (H2.objs.size, oC) :: (s₂.heap.objs.size, lst ys') :: news₅) → Off3 I H2.objs.size s₂.heap.objs.size news₅ → S news₅ →
            KctRest prog w A h₀ L m env c elt a b scope cl s₂ S Fin ((pairsOf es).drop (i + 1)) ys' news₅ →
            ∃ q', q' < es.size + 1 - i ∧ (∃ h' tk i ys m' news', ({ s₂ with heap := h₅, toks := tk₅ } : Shared) = { s₂ with heap := h', toks := tk } ∧ i ≤ es.size ∧ q' = es.size + 1 - i ∧ ys.length ≤ i ∧ (∃ ok ov, IsItemIter h' I d i es.size ep ok ov) ∧ Fr h₀ L h' m ∧ h'.Ns H2.objs.size m' ∧
        News h₀ L h' ((s₂.heap.objs.size, lst ys) :: news') ∧ Off3 I H2.objs.size s₂.heap.objs.size news' ∧ S news' ∧ KctRest prog w A h₀ L m env c elt a b scope cl s₂ S Fin ((pairsOf es).drop i) ys news') := by
          intro ys' h₅ tk₅ news₅ hl F₅ N₅ off₅ hS₅ R₅
          have zI := (N₅ (I, oI) List.mem_cons_self).1
          have zC := (N₅ (H2.objs.size, oC) (List.mem_cons_of_mem _ List.mem_cons_self)).1
          exact ⟨es.size + 1 - (i + 1), by omega, h₅, tk₅, i + 1, ys', _, news₅, rfl, hlt, rfl, hl, hoI h₅ zI, F₅, hoC.ns zC, fun q hq => N₅ q (List.mem_cons_of_mem _ (List.mem_cons_of_mem _ hq)), off₅, hS₅, R₅⟩
        refine wpAny_mono (R'' 0 I oI H2.objs.size oC s₂.heap.objs.size _ h₄ _ _ hoC (by simp [hab]) (by simp) F₄ N₄ off' ⟨hCI, hDI, Ne.symm hDC⟩) (fun okb s₅ h₅ => ?_) fun _ _ e => e
        cases okb with
        | false =>
          simp only [Bool.false_eq_true, if_false] at h₅ ⊢
          obtain ⟨h₅, tk₅, news₅, rfl, F₅, N₅, off₅, hS₅, R₅⟩ := h₅
          exact fin ys h₅ tk₅ news₅ (Nat.le_succ_of_le hyl) F₅ N₅ off₅ hS₅ R₅
        | true =>
          simp only [if_true] at h₅ ⊢
          refine wpAny_mono h₅ (fun y s₆ h₆ => ?_) fun _ _ e => e
          obtain ⟨h₅, tk₅, news₅, rfl, F₅, N₅, off₅, hS₅, R₅⟩ := h₆
          have zI := (N₅ (I, oI) List.mem_cons_self).1
          have zC := (N₅ (H2.objs.size, oC) (List.mem_cons_of_mem _ List.mem_cons_self)).1
          have zD := (N₅ (s₂.heap.objs.size, lst ys) (List.mem_cons_of_mem _ (List.mem_cons_of_mem _ List.mem_cons_self))).1
          have N₅' : News h₀ L h₅ news₅ := fun q hq => N₅ q (List.mem_cons_of_mem _ (List.mem_cons_of_mem _ (List.mem_cons_of_mem _ hq)))
          refine append_at (hsz := by show ys.toArray.size ≤ sizeLine; rw [List.size_toArray]; exact Nat.le_trans hyl (Nat.le_trans hi hsz)) zD fun h₆ hs₆ hD₆ => ?_
          have off5 := off₅.mem
          refine fin (ys ++ [y]) h₆ _ news₅ (by rw [List.length_append, List.length_singleton]; exact Nat.succ_le_succ hyl) (F₅.change hs₆ hDL hD₀) (fun q hq => ?_) off₅ hS₅ R₅
          rcases List.mem_cons.mp hq with rfl | hq
          · exact ⟨hs₆.extBut I oI hDI zI, Ne.symm hIL, hI₀⟩
          rcases List.mem_cons.mp hq with rfl | hq
          · exact ⟨hs₆.extBut _ oC (Ne.symm hDC) zC, hCL, hC₀⟩
          rcases List.mem_cons.mp hq with rfl | hq
          · exact ⟨hD₆.trans (congrArg some (lst_snoc ys y)), hDL, hD₀⟩
          · exact ⟨hs₆.extBut _ _ (off5 q hq).2.2 (N₅' q hq).1, (N₅' q hq).2⟩
      · have hin : i = es.size := Nat.le_antisymm hi (Nat.not_lt.mp hlt)
        subst hin
        have hnil : (pairsOf es).drop es.size = [] := List.drop_eq_nil_of_le (by rw [List.length_map, Array.length_toList]; exact Nat.le_refl _)
        rw [hnil] at R'
        refine next_raw_items_end hh hit' hD' (Nat.le_refl _) fun h₂ he₂ => ?_
        have hk₂ : ∀ b o, b ∉ [I] → h'.get? b = some o → h₂.get? b = some o := fun b o hb e => he₂ b o (by simpa using hb) e
        exact hRR _ _ h₂ _ _ ys news' (fr_but F' hk₂ hIL hI₀) (news_but N' hk₂ fun p hp => by
          rcases List.mem_cons.mp hp with rfl | hp
          · exact Ne.symm hDI
          · exact (off3 p hp).1) off'.one (hn'.at' fun o e => hk₂ _ o (by simpa using Ne.symm hCI) e) hC₀ hD₀ hCL hDL (Ne.symm hDC) (fun p hp => (off3 p hp).2.1) R'
    · rcases List.mem_cons.mp hp with rfl | hp
      · exact ⟨hacc, hDL, hD₀⟩
      · exact ⟨old _ _ (N p hp).1, (N p hp).2⟩
  exact codeAny_compStart_list (loop _ rfl) (kcp_self hit₁ (loop _ rfl))
def RawSrc (prog : Program) (w : World) (A : Around) (h₀ : Heap) (L : Addr) (m : Str → Option Value) (env : Env) (c elt : PySem.Expr) (a b : Str) (scope : Scope) (cl : List (Str × Addr)) (Fin : Shared → List Value → List (Addr × Obj) → Prop) (xv : Value) (s₁ : Shared) : Prop :=
  ∃ (vw d : Addr) (es : Array DictEntry) (ep : Nat) (news : List (Addr × Obj)) (S : List (Addr × Obj) → Prop), xv = .ref vw ∧ A.handled = none ∧ Fr h₀ L s₁.heap m ∧ News h₀ L s₁.heap news ∧ s₁.heap.IsItemsView vw d ∧ es.size ≤ sizeLine ∧
    (∀ h nw, News h₀ L h nw → S nw → IsRaw h d es ep) ∧ S news ∧ ∀ g : Heap, KctRest prog w A h₀ L m env c elt a b scope cl { s₁ with heap := g } S (Fin { s₁ with heap := g }) (pairsOf es) [] news
theorem ListComp_raw {elt iter c : PySem.Expr} {a b : Str} {pa pb tp : Pos} {kk : Nat} {scope : Scope} {cl : List (Str × Addr)} {pos : Pos} {Q : Value → Shared → Prop} (_F₀ : Fr h₀ L s.heap m)
    (hclos : closureFor scope env = pure cl) (hcell : ∀ y ∈ scope.names, y.2 ≠ .cell) (hkind : scope.kind = .function)
    (hnames : ∀ y ∈ scope.names, y.2 = .local → scope.names.lookup y.1 = some .local) (hxa : scope.names.lookup a = some .local) (hxb : scope.names.lookup b = some .local) (hab : ¬ a = b)
    (h : wpAny (model prog w) A (eval iter env) (RawSrc prog w A h₀ L m env c elt a b scope cl (fun s₂ => FinE h₀ L m s₂ Q)) E s)
    (hs : ∀ x, foldedSetIterable iter env x = pure x := by intro _; rfl) :
    wpAny (model prog w) A (eval (.ListComp elt [⟨.Tuple [.Name a pa, .Name b pb] kk tp, iter, [c], 0⟩] scope pos) env) Q E s := by
  rw [eval_ListComp]
  refine wpAny_comprehension_free (use := none) rfl hs hclos hkind hnames (wpAny_mono h (fun xv s₁ h₁ => ?_) fun _ _ e => e)
  obtain ⟨vw, d, es, ep, news, S, rfl, hh, F, N, hv, hsz, hraw, hS, R⟩ := h₁
  refine iter_raw_items hv (hraw _ _ N hS) ?_
  refine raw_block hh hsz hraw (Heap.get?_push_size _ rfl) hS hcell hkind hxa hxb hab (F.push _)
    (fun p hp => ⟨Heap.get?_push_of_some _ (N p hp).1, (N p hp).2⟩) (Nat.ne_of_lt F.ns.lt) (next_is_new F) (fun p hp => Nat.ne_of_lt (Heap.lt_size (N p hp).1)) (R _) ?_
  intro D C h tk m' ys news' F' N' o1 hn hC₀ hD₀ hCL hDL hCD offC fin
  refine ⟨m', hn, fun h'' hs'' => fin D h'' tk (F'.change hs'' hCL hC₀) (fun p hp => ?_) o1⟩
  refine ⟨hs''.extBut _ _ ?_ (N' p hp).1, (N' p hp).2⟩
  rcases List.mem_cons.mp hp with rfl | hp
  · exact Ne.symm hCD
  · exact offC p hp
end
local macro_rules | `(tactic| walk_at "eval ListComp") => `(tactic| (k_here; (with_reducible show wpAny _ _ (eval (Expr.ListComp _ [⟨Expr.Tuple _ _ _, _, _, _⟩] _ _) _) _ _ _); refine Mine.stopAt ?_))
theorem ints_snoc : ∀ {vs : List Value} {ns : List Int} (j : Int) (u : Tok), IntsAre vs ns → IntsAre (vs ++ [.int j u]) (ns ++ [j])
  | _, _, j, u, .nil => .cons j u .nil
  | _, _, j, u, .cons i t r => .cons i t (ints_snoc j u r)
section
open PyProof.Rows.LCg
variable {prog : Program} {w : World} {A : Around} {s : Shared} {h₀ : Heap} {L : Addr} {m : Str → Option Value} {env : Env}
abbrev sumFew (few : Int) (val : Int → Int → Int) (cs : List (Int × Int)) : List Int := (cs.filter (fun c => decide (few ≤ c.1))).map fun c => val c.1 c.2
theorem kct_cnt {elt c : PySem.Expr} {a b : Str} {scope : Scope} {cl : List (Str × Addr)} {S : List (Addr × Obj) → Prop} {Fin : List Value → List (Addr × Obj) → Prop} {news : List (Addr × Obj)} (few : Int) (val : Int → Int → Int) (good : Int → Int → Prop) (kOK : List KI → Addr → Prop)
    (turn : ∀ i j p t ys (K : List Value → List (Addr × Obj) → Prop), good i j → kOK (keyOf i) p → (few ≤ i → ∀ u, K (ys ++ [.int (val i j) u]) news) → (¬ few ≤ i → K ys news) →
      ∀ I oI C oC D m₂ h tk (E' : Value → Shared → Prop), NsObj oC m₂ → m₂ a = some (.ref p) → m₂ b = some (.int j t) → Fr h₀ L h m → News h₀ L h ((I, oI) :: (C, oC) :: (D, lst ys) :: news) → Off3 I C D news → ((@Ne Nat I C) ∧ (@Ne Nat I D) ∧ (@Ne Nat C D)) →
      wpAny (model prog w) A (isTrue c (compEnvC scope cl C env) (eval c (compEnvC scope cl C env))) (fun okb s₃ => if okb = true then
        wpAny (model prog w) A (eval elt (compEnvC scope cl C env)) (CompEnd h₀ L m { s with heap := h, toks := tk } I oI C oC D (lst ys) S (fun y news' => K (ys ++ [y]) news')) E' s₃
        else CompEnd h₀ L m { s with heap := h, toks := tk } I oI C oC D (lst ys) S (fun _ news' => K ys news') .none s₃) E' { s with heap := h, toks := tk }) :
    ∀ {xs : List Ent} {cs : List (Int × Int)}, Cnt xs cs → (∀ c ∈ cs, good c.1 c.2) → (∀ x ∈ xs, kOK x.1 x.2.1) → ∀ (ys : List Value) (js : List Int), IntsAre ys js →
      (∀ ys', IntsAre ys' (js ++ sumFew few val cs) → Fin ys' news) → KctRest prog w A h₀ L m env c elt a b scope cl s S Fin (xs.map fun x => (fun _ => .ref x.2.1, x.2.2)) ys news
  | _, _, .nil, _, _, ys, js, hi, fin => KctRest.nil (fin ys (by rw [sumFew, List.filter_nil, List.map_nil, List.append_nil]; exact hi))
  | _, _, .cons i j p t r, hg, hk, ys, js, hi, fin => KctRest.cons fun _ => turn i j p t ys (fun ys nw => KctRest prog w A h₀ L m env c elt a b scope cl s S Fin _ ys nw) (hg _ (.head _)) (hk _ (.head _))
      (fun hle u => kct_cnt few val good kOK turn r (fun c hc => hg c (.tail _ hc)) (fun x hx => hk x (.tail _ hx)) _ _ (ints_snoc _ u hi) fun ys' h' => fin ys' (by
        rw [sumFew, List.filter_cons_of_pos (by exact decide_eq_true hle), List.map_cons]; rw [List.append_assoc] at h'; exact h'))
      fun hlt => kct_cnt few val good kOK turn r (fun c hc => hg c (.tail _ hc)) (fun x hx => hk x (.tail _ hx)) _ _ hi fun ys' h' => fin ys' (by
        rw [sumFew, List.filter_cons_of_neg (by simpa using hlt)]; exact h')
end
/-- what the law asks of a table of counts -/
def sumOK (N : Nat) (i : Nat) : Bool := decide ((sumFew (i : Int) (fun a c => c.fdiv 2 * waysI a (i : Int)) (rounds N 2)).sum = (chosenAcc (N : Int) (2 ^ (2 * (N : Int)).toNat)).getD i 0 * factI ((N : Int) - (i : Int)))
theorem sumOK3 : ∀ i : Fin 4, sumOK 3 i.val = true := by decide +kernel
theorem sumOK4 : ∀ i : Fin 5, sumOK 4 i.val = true := by decide +kernel
theorem sum_ok {N i : Nat} (h3 : 3 ≤ N) (h4 : N ≤ 4) (hi : i < N + 1) : (sumFew (i : Int) (fun a c => c.fdiv 2 * waysI a (i : Int)) (rounds N 2)).sum = (chosenAcc (N : Int) (2 ^ (2 * (N : Int)).toNat)).getD i 0 * factI ((N : Int) - (i : Int)) := by
  obtain rfl | rfl : N = 3 ∨ N = 4 := by omega
  · exact of_decide_eq_true (sumOK3 ⟨i, hi⟩)
  · exact of_decide_eq_true (sumOK4 ⟨i, hi⟩)
abbrev goodC (N : Nat) (i j : Int) : Prop := 0 ≤ i ∧ i ≤ (N : Int) ∧ 0 ≤ j ∧ j ≤ 48
theorem goods {N : Nat} (h3 : 3 ≤ N) (h4 : N ≤ 4) : ∀ c ∈ rounds N 2, goodC N c.1 c.2 := by
  obtain rfl | rfl : N = 3 ∨ N = 4 := by omega
  · decide +kernel
  · decide +kernel
theorem word_at {w : World} {i : Int} {items : Array Value} (hi : PySem.ItemsAre (mixKind PG w) (keyOf i) items.toList) : ∃ t, items[1]? = some (.int i t) ∧ seqIndex? 1 items.size = some 1 := by
  obtain ⟨l⟩ := items
  dsimp only at hi
  cases hi with
  | cons _ r =>
    cases r with
    | cons h1 r =>
      have h1 : Value.isInt i _ = true := h1
      obtain ⟨t1, rfl⟩ := Value.isInt_shape h1
      cases r with
      | cons _ r => cases r; exact ⟨t1, rfl, rfl⟩
theorem ints_app : ∀ {vs ws : List Value} {ns ms : List Int}, IntsAre vs ns → IntsAre ws ms → IntsAre (vs ++ ws) (ns ++ ms)
  | _, _, _, _, .nil, h => h
  | _, _, _, _, .cons i t r, h => .cons i t (ints_app r h)
theorem ints_rep (t : Tok) : ∀ n : Nat, IntsAre (List.replicate n #[Value.int 0 t].toList).flatten (List.replicate n 0)
  | 0 => .nil
  | n + 1 => by rw [List.replicate_succ, List.flatten_cons, List.replicate_succ]; exact .cons _ _ (ints_rep t n)
theorem ints_take : ∀ {vs : List Value} {ns : List Int}, IntsAre vs ns → ∀ n, IntsAre (vs.take n) (ns.take n)
  | _, _, _, 0 => .nil
  | _, _, .nil, n + 1 => .nil
  | _, _, .cons i t r, n + 1 => .cons i t (ints_take r n)

abbrev Pile := List Int × List Int
def drawAt (p : Pile) (k : Nat) : Pile := (p.1 ++ [p.2.getD k 0], p.2.take k ++ p.2.drop (k + 1))
/-- what may be drawn after j turns -/
def reach (N : Nat) : Nat → List Pile
  | 0 => [([], rangeKs 0 N)]
  | j + 1 => (reach N j).flatMap fun p => (List.range p.2.length).map (drawAt p)
theorem reach_len {N : Nat} : ∀ {j : Nat} {p : Pile}, p ∈ reach N j → p.1.length = j ∧ p.1.length + p.2.length = N
  | 0, p, h => by
    rw [List.mem_singleton.mp h]
    exact ⟨rfl, by rw [rangeKs_length]; simp⟩
  | j + 1, p, h => by
    obtain ⟨q, hq, h⟩ := List.mem_flatMap.mp h
    obtain ⟨k, hk, rfl⟩ := List.mem_map.mp h
    have hk := List.mem_range.mp hk
    obtain ⟨h1, h2⟩ := reach_len hq
    refine ⟨by simp [drawAt, h1], ?_⟩
    simp only [drawAt, List.length_append, List.length_take, List.length_drop, List.length_cons, List.length_nil]
    omega
theorem reach_step {N j : Nat} {dr lf : List Int} {k : Nat} (h : (dr, lf) ∈ reach N j) (hk : k < lf.length) : (dr ++ [lf.getD k 0], lf.take k ++ lf.drop (k + 1)) ∈ reach N (j + 1) :=
  List.mem_flatMap.mpr ⟨_, h, List.mem_map.mpr ⟨k, List.mem_range.mpr hk, rfl⟩⟩
theorem cut_at : ∀ (l : List Value) (k : Nat) (y : Value), l[k]? = some y → kl_cut l k = some (l.take k, y, l.drop (k + 1))
  | [], _, _, h => by simp at h
  | x :: r, 0, y, h => by
    have e : x = y := by simpa using h
    rw [e]; rfl
  | x :: r, k + 1, y, h => by
    have e := cut_at r k y (by simpa using h)
    unfold kl_cut
    rw [e]
    rfl
theorem ints_drop : ∀ {vs : List Value} {ns : List Int}, IntsAre vs ns → ∀ n, IntsAre (vs.drop n) (ns.drop n)
  | _, _, h, 0 => h
  | _, _, .nil, _ + 1 => .nil
  | _, _, .cons _ _ r, n + 1 => ints_drop r n
section
variable {prog : Program} {w : World} {A : Around} {E : Value → Shared → Prop} {s : Shared} {h₀ : Heap} {L D : Addr} {m : Str → Option Value} {news news' : List (Addr × Obj)} {c : Nat}
/-- D.pop(i) of a list of ints, i within -/
theorem pop_int {lv : List Value} {lf : List Int} {k : Nat} {u : Tok} {Q : Value → Shared → Prop} (F : Fr h₀ L s.heap m) (N : News h₀ L s.heap news) (hi : IntsAre lv lf) (hk : k < lf.length) (h8 : lf.length ≤ 8)
    (U : Upd D (listOf lv.toArray c) (listOf (lv.take k ++ lv.drop (k + 1)).toArray (c + 1)) news news')
    (h : ∀ h' t, Fr h₀ L h' m → News h₀ L h' news' → IntsAre (lv.take k ++ lv.drop (k + 1)) (lf.take k ++ lf.drop (k + 1)) → Q (.int (lf.getD k 0) t) { s with heap := h' }) :
    wpAny (model prog w) A (call (.builtin "list.pop") [.ref D, .int (k : Int) u]) Q E s := by
  have hl : lv.length = lf.length := ints_length hi
  obtain ⟨y, hy⟩ : ∃ y, lv[k]? = some y := ⟨_, List.getElem?_eq_getElem (by omega)⟩
  obtain ⟨n, t, rfl, hn⟩ := hi.at k y hy
  have en : lf.getD k 0 = n := by rw [List.getD_eq_getElem?_getD, hn]; rfl
  rw [en] at h
  refine kl_popAt (its := lv.toArray) (k := k) F N ?_ ?_ (cut_at lv k _ hy) U ?_ fun h' F' N' => h h' t F' N' (ints_app (ints_take hi k) (ints_drop hi (k + 1)))
  · show (decide (-(2 ^ 63 : Int) ≤ (k : Int)) && decide ((k : Int) < 2 ^ 63)) = true
    rw [decide_eq_true (by omega), decide_eq_true (by omega)]; rfl
  · unfold seqIndex?
    rw [if_neg (show ¬ (k : Int) < 0 by omega)]
    have e : (decide (0 ≤ (k : Int)) && decide ((k : Int) < (lv.toArray.size : Int))) = true := by
      rw [decide_eq_true (by omega), decide_eq_true (by rw [List.size_toArray]; omega)]; rfl
    simp only [e, if_true, Int.toNat_natCast]
  · show lv.length ≤ sizeLine
    exact Nat.le_trans (show lv.length ≤ 8 by omega) (by decide)
end
theorem pick_take (l : List Value) (n : Nat) (h : n ≤ l.length) : kms_pick l none (some (n : Int)) = l.take n := by
  unfold kms_pick kms_lo kms_hi
  dsimp only
  rw [if_neg (by omega), List.drop_zero, Nat.sub_zero, Int.toNat_natCast, Nat.min_eq_left h]

def movedL (N : Nat) (dr : List Int) : List Int := List.map (fun k' => if 0 ≤ dr.getD ((k' - 1).fmod (N : Int)).toNat 0 ∧ dr.getD ((k' - 1).fmod (N : Int)).toNat 0 < 256 then (dr.getD ((k' - 1).fmod (N : Int)).toNat 0 + 1).fmod (N : Int) else k') (rangeKs 0 ((N : Int) - 0).toNat)
def turnedL (N : Nat) (sw : List Int) : List Int := sw.map fun o => ((N : Int) - o).fmod (N : Int)
structure DrawOK (N : Nat) (dr : List Int) : Prop where
  dom : ∀ x ∈ dr, 0 ≤ x ∧ x < (N : Int)
  mdom : ∀ x ∈ movedL N dr, 0 ≤ x ∧ x < 256
  mlen : (movedL N dr).length = N
  moved : hitsI (movedL N dr) = hitsI dr
  one : KBw.bInts (swapAcc dr 1 N) = dr
  all : KBw.bInts (swapAcc dr N N) = dr.reverse
  both : KBw.bInts (swapAcc (dr ++ dr) N (2 * N)) = dr.reverse ++ dr.reverse
  turned : hitsI (turnedL N dr.reverse) = hitsI dr
def drawOK (N : Nat) (dr : List Int) : Bool := dr.all (fun x => decide (0 ≤ x ∧ x < (N : Int))) && (movedL N dr).all (fun x => decide (0 ≤ x ∧ x < 256)) && ((movedL N dr).length == N) && (hitsI (movedL N dr) == hitsI dr) && (KBw.bInts (swapAcc dr 1 N) == dr) && (KBw.bInts (swapAcc dr N N) == dr.reverse) &&
  (KBw.bInts (swapAcc (dr ++ dr) N (2 * N)) == dr.reverse ++ dr.reverse) && (hitsI (turnedL N dr.reverse) == hitsI dr)
theorem drawOK_of {N : Nat} {dr : List Int} (h : drawOK N dr = true) : DrawOK N dr := by
  simp only [drawOK, Bool.and_eq_true, beq_iff_eq, List.all_eq_true, decide_eq_true_eq] at h
  obtain ⟨⟨⟨⟨⟨⟨⟨a, m⟩, l⟩, b⟩, c⟩, d⟩, e⟩, f⟩ := h
  exact ⟨a, m, l, b, c, d, e, f⟩
theorem draws3 : (reach 3 3).all (fun p => drawOK 3 p.1) = true := by decide +kernel
theorem draws4 : (reach 4 4).all (fun p => drawOK 4 p.1) = true := by decide +kernel
theorem draw_ok {N : Nat} {dr lf : List Int} (h3 : 3 ≤ N) (h4 : N ≤ 4) (h : (dr, lf) ∈ reach N N) : DrawOK N dr := by
  obtain rfl | rfl : N = 3 ∨ N = 4 := by omega
  · exact drawOK_of (List.all_eq_true.mp draws3 _ h)
  · exact drawOK_of (List.all_eq_true.mp draws4 _ h)
theorem octets_inj : ∀ {l m : List UInt8}, (l.map fun c => ((c.toNat : Nat) : Int)) = (m.map fun c => ((c.toNat : Nat) : Int)) → l = m
  | [], [], _ => rfl
  | [], _ :: _, h => by cases h
  | _ :: _, [], h => by cases h
  | a :: l, b :: m, h => by
    rw [List.map_cons, List.map_cons] at h
    injection h with h1 h2
    rw [UInt8.toNat_inj.mp (Int.ofNat.inj h1), octets_inj h2]
theorem ints_inj {a b : Array UInt8} (h : KBw.bInts a = KBw.bInts b) : a = b := Array.ext' (octets_inj h)
theorem bytes_ints {ns : List Int} (h : ∀ n ∈ ns, 0 ≤ n ∧ n < 256) : KBw.bInts (byteArr ns) = ns := by
  unfold byteArr
  rw [KBw.ints_list, List.map_map]
  refine (List.map_congr_left fun i hi => ?_).trans (List.map_id ns)
  have := h i hi
  simp only [Function.comp]
  rw [Nat.toUInt8_eq, UInt8.toNat_ofNat', Nat.mod_eq_of_lt (by omega)]
  show (i.toNat : Int) = i
  omega
section
variable {prog : Program} {w : World} {A : Around} {E : Value → Shared → Prop} {s : Shared} {h₀ : Heap} {L l : Addr} {m : Str → Option Value} {news : List (Addr × Obj)} {Q : Value → Shared → Prop}
theorem bytes_of_list {vs : List Value} {ns : List Int} (F : Fr h₀ L s.heap m) (N : News h₀ L s.heap news) (hl : s.heap.IsList l vs.toArray) (hi : IntsAre vs ns) (hr : ∀ n ∈ ns, 0 ≤ n ∧ n < 256) (h8 : ns.length ≤ 8) (hh : A.handled = none)
    (h : ∀ b h' t k, Fr h₀ L h' m → News h₀ L h' news → KBw.bInts b = ns → Q (.bytes b t) { s with heap := h', toks := k }) : wpAny (model prog w) A (call (.type "bytes") [.ref l]) Q E s :=
  bytes_K F N hl hi hr (by rw [ints_length hi]; exact Nat.le_trans h8 (by decide)) hh fun h' t k F' N' _ => h _ h' t k F' N' (bytes_ints hr)
end
theorem mod_at {ks : List Int} {n : Nat} (hl : ks.length = n) (h3 : 3 ≤ n) (i : Int) : 0 ≤ i.fmod (n : Int) ∧ i.fmod (n : Int) < (ks.length : Int) :=
  ⟨Int.fmod_nonneg_of_pos i (by omega), by have := Int.fmod_lt_of_pos i (show (0 : Int) < (n : Int) by omega); omega⟩
local macro_rules | `(tactic| walk_at "subscriptTail") => `(tactic| (k_here; (with_reducible show wpAny _ _ (subscriptTail _ _ (Value.bytes _ _) (Value.int (Int.fmod _ _) _)) _ _ _); (refine KBw.item_K (by kba_ints) (by kba_size) (Mine.mod_at (by assumption) (by omega) _).1 (Mine.mod_at (by assumption) (by omega) _).2 ?_); intro _ _ kbaLo kbaHi))

section
open PyProof.Rows.LCg
variable {prog : Program} {w : World} {A : Around} {E : Value → Shared → Prop} {s : Shared} {h₀ : Heap} {L : Addr} {m : Str → Option Value} {env : Env}
theorem wpAny_pure_out {α β : Type} {M : Model} {v : α} {f : α → Sem β} {Q : β → Shared → Prop} (h : wpAny M A (pure v >>= f) Q E s) : wpAny M A (f v) Q E s := by
  exact h
abbrev ByteAt (b : Array UInt8) : Nat → Value → Prop := fun i v => ∃ (c : UInt8) (u : Tok), b[i]? = some c ∧ v = .int (c.toNat : Int) u
theorem wpS_ListComp_bytes {elt iter : Expr} {x : Str} {px : Pos} {scope : Scope} {cl : List (Str × Addr)} {pos : Pos} {Q : Value → Shared → Prop} (_F₀ : Fr h₀ L s.heap m)
    (hclos : closureFor scope env = pure cl) (hcell : ∀ y ∈ scope.names, y.2 ≠ .cell) (hkind : scope.kind = .function)
    (hnames : ∀ y ∈ scope.names, y.2 = .local → scope.names.lookup y.1 = some .local) (hx : scope.names.lookup x = some .local)
    (h : wpS (model prog w) A (eval iter env) (fun xv s₁ => ∃ b t news, xv = .bytes b t ∧ A.handled = none ∧ Fr h₀ L s₁.heap m ∧ News h₀ L s₁.heap news ∧ b.size ≤ sizeLine ∧
      ∀ s₂ : Shared, (∃ h, s₂ = { s₁ with heap := h }) → CompRest prog w A h₀ L m env elt x scope cl s₂ (fun _ => True) (ByteAt b) (FinE h₀ L m s₂ Q) b.size 0 [] news) E s)
    (hs : ∀ x, foldedSetIterable iter env x = pure x := by intro _; rfl) :
    wpS (model prog w) A (eval (.ListComp elt [⟨.Name x px, iter, [], 0⟩] scope pos) env) Q E s := by
  rw [eval_ListComp]
  unfold comprehension
  refine wpS_bind (wpS_mono h (fun v s₁ h₁ => wpS_of ?_) fun _ _ e => e)
  obtain ⟨b, t, news, rfl, hh, F, N, hsz, R⟩ := h₁
  have H : wpAny (model prog w) A (comprehension (.ListComp elt [⟨.Name x px, iter, [], 0⟩] scope pos) scope env (firstIterPos [⟨.Name x px, iter, [], 0⟩] pos) (newList []) (firstAsync [⟨.Name x px, iter, [], 0⟩]) (pure (.bytes b t))) Q E s₁ := by
    refine wpAny_comprehension_free (use := none) rfl hs hclos hkind hnames (wpAny_pure ?_)
    refine KBw.pyIter_bytes ?_
    refine block_U (KBw.walks hh s₁.heap.objs.size b t) hsz (fun i h st => let ⟨o, ho, _⟩ := st; ⟨o, ho⟩) (fun i h h' o nw st e e' _ _ _ => by
        obtain ⟨o', q, r⟩ := st
        rw [e] at q; cases q
        exact ⟨o, e', r⟩) hcell hkind hx ⟨_, Heap.get?_push_size _ rfl, rfl, rfl⟩ (fun c hc => ?_)
      (F.keeps fun _ _ e => Heap.get?_push_of_some _ e) (N.grown fun _ _ e => Heap.get?_push_of_some _ e) (Nat.ne_of_lt F.ns.lt) (next_is_new F) (fun p hp => Nat.ne_of_lt (Heap.lt_size (N p hp).1)) trivial (R _ ⟨_, rfl⟩) ?_
    · rw [List.mem_singleton.mp hc]
      show s₁.heap.objs.size < (s₁.heap.push _).objs.size
      rw [Heap.size_push]; exact Nat.lt_succ_self _
    · intro D C h tk m' ys news' F' N' o1 hn hC₀ hD₀ hCL hDL hCD offC fin
      refine ⟨m', hn, fun h'' hs'' => fin D h'' tk (F'.change hs'' hCL hC₀) (fun p hp => ?_) o1⟩
      refine ⟨hs''.extBut _ _ ?_ (N' p hp).1, (N' p hp).2⟩
      rcases List.mem_cons.mp hp with rfl | hp
      · exact Ne.symm hCD
      · exact offC p hp
  unfold comprehension at H
  exact wpAny_pure_out H
theorem wpS_spliced1 {x : Sem Value} {Q : List Value → Shared → Prop} {M : Model} (h : wpS M A x (fun v s' => Q [v] s') E s) : wpS M A (spliced [(false, x)]) Q E s := by
  unfold spliced
  refine wpS_bind (wpS_mono h (fun v s' h' => wpS_of ?_) fun _ _ e => e)
  refine wpAny_bind (wpAny_pure ?_)
  refine wpAny_bind (wpAny_holding ?_)
  unfold spliced
  exact wpAny_pure (wpAny_pure h')
end
theorem turned_len (N : Nat) (l : List Int) : (turnedL N l).length = l.length := by rw [turnedL, List.length_map]
theorem turned_in {N : Nat} (h3 : 3 ≤ N) (h4 : N ≤ 4) (l : List Int) : ∀ n ∈ turnedL N l, 0 ≤ n ∧ n < 256 := by
  intro n hn
  obtain ⟨o, _, rfl⟩ := List.mem_map.mp hn
  have h1 := Int.fmod_nonneg_of_pos ((N : Int) - o) (show (0 : Int) < (N : Int) by omega)
  have h2 := Int.fmod_lt_of_pos ((N : Int) - o) (show (0 : Int) < (N : Int) by omega)
  omega
theorem turned_take {N i : Nat} {l : List Int} {k : Int} (h : l[i]? = some k) : (turnedL N l).take (i + 1) = (turnedL N l).take i ++ [((N : Int) - k).fmod (N : Int)] := by
  rw [List.take_add_one, turnedL, List.getElem?_map, h]
  rfl

structure Hold (P : Prop) : Prop where
  out : P
set_option maxRecDepth 100000 in
set_option maxHeartbeats 200000000 in
def C1 : { P : Prop // Hold P → PySem.Challenge.rw_id0001_01.Holds } := by
  refine ⟨?PP0, fun hP => ?_⟩
  rotate_left
  · skip
    refine Mine.hd ?_
    intro w s₀ s₁ mg mb G Y fa o pm cd doc dV kV ho hd hcd hD hmg hg args vals as hpre hlay hrd hwl hlo
    have KX := kIn_of Y
    have X := (Ground.X G).1
    have V := (Ground.X G).2
    (try w_nolog (first | (have GL := glob_more (Ground.glob G (by first | k_qdec | decide +kernel) (by first | k_qdec | decide +kernel)) V) | (have GL := glob_more (Ground.glob G (by decide +kernel)) V)))
    refine Ground.open G ?_
    intro T B D TE TW
    (try (refine guard_noD D (by decide +kernel) ?_; clear D))
    obtain ⟨_, _, M⟩ := bmod_of_top T
    have TA := at_of_top T
    (try (obtain ⟨_, _, he, B0⟩ := based_of_top T rfl hmg ho hd; have he' : cd = _ := he; subst he'; clear he))
    clear hmg
    wrow_args hpre hlay hrd hwl hlo
    refine Mine.enter_callS ?_
    w_top on
    refine Mine.codeS_mono ?_ (fun _ _ g => GoodW.toG g)
    have K0 := below_caller (Top.heap T)
    have he := Dflts.none hD rfl
    subst he
    have he := Dflts.noKw hD
    subst he
    refine Mine.call_cellsS (by decide) ho (fd_plain hd) (Top.nolimit T) hcd rfl rfl (by decide) fun h1 tk1 cells F N0 X0 => ?_
    cells_open X0
    clear hd TA
    refine Mine.wpS_execs_at 1 ?_
    dsimp only [List.take, List.drop]
    k_steps
    rename_i ns hs0 hlay1 hlay2 hhas hl2 lS1 lS2 aS vS lS3 hS ra w1 r0 hI hrr hc1 hc2 oFew oCh oOrd oM0 dFew dCh dOrd dM0 h2 tkx tx h3 oMany F2 N2 dMany
    obtain ⟨n, hn⟩ : ∃ n : Int, n = 3 + ns.sum.fmod 2 := ⟨_, rfl⟩
    rw [← hn] at dMany
    have h03 : 3 ≤ n := by have := Int.fmod_nonneg_of_pos ns.sum (show (0 : Int) < 2 by omega); omega
    have h04 : n ≤ 4 := by have := Int.fmod_lt_of_pos ns.sum (show (0 : Int) < 2 by omega); omega
    clear hn
    dsimp only
    have hc3 : ns.length ≤ 63 := by omega
    clear hc1 hc2 X0 dM0 TW TE M
    obtain ⟨N, rfl⟩ : ∃ N : Nat, n = (N : Int) := ⟨n.toNat, by omega⟩
    obtain ⟨tM, dM⟩ : ∃ t, oMany.data = .cell (some (.int (N : Int) t)) := ⟨_, dMany⟩
    have B : Below callerA s₁.heap [] s₁.heap := below_caller _
    clear K0 dMany
    clear hcd hD
    w_top off
    refine Mine.wpS_execs_at 1 ?_
    dsimp only [List.take, List.drop]
    k_steps
    rename_i h4 tk4 t4 u4 v4 hr4 F4 N4 st4
    refine bytes_of_range rfl hr4 (by omega) fun h5 t5 tk5 st5 => ?_
    have F5 := frStays (s := { s₁ with heap := h4 }) F4 st5
    have N5 := newsStays (s := { s₁ with heap := h4 }) N4 st5
    k_steps
    have hlen : (rangeKs 0 N).length ≤ 3 + 1 := by rw [rangeKs_length]; omega
    refine Stop.go ?_
    refine CallP.use (orders_call w 3 _ _ t5 (ints_range (by omega)) hlen (by omega)) B F5 KX N5 T rfl (by ktr_room) (by ktr_units) trivial ?_
    rintro r h6 tk6 F6 N6 st6 ⟨lO, vO, kO, rfl, hg6, hn6, hO⟩
    have N7 := newsMore (s := { s₁ with heap := h5 }) F5 N5 st6 hg6 hn6
    have ap7 := newsApart (s := { s₁ with heap := h5 }) N5 hn6
    k_steps
    rename_i D0 hw oD lo hs fs hi fi l1a DT hz l1b hy hx h7 F7 N7'
    dsimp only
    have TD : Tab w oD [] := Tab.nil hs
    have N8 := newsSub N7' (news' := (lO, W.listOf (List.toArray vO) kO) :: (s₁.heap.objs.size + 1 + 1 + 1 + 1, oFew) :: (s₁.heap.objs.size + 1 + 1 + 1, oCh) :: (s₁.heap.objs.size + 1 + 1, oOrd) :: (s₁.heap.objs.size + 1, oMany) :: [(D0, oD)]) (by
      intro q hq
      simp only [List.mem_cons, List.not_mem_nil, or_false] at hq ⊢
      rcases hq with h | h | h | h | h | h
      · exact .inr (.inr (.inl h))
      · exact .inr (.inr (.inr (.inl h)))
      · exact .inr (.inr (.inr (.inr (.inl h))))
      · exact .inr (.inr (.inr (.inr (.inr (.inl h)))))
      · exact .inr (.inr (.inr (.inr (.inr (.inr h)))))
      · exact .inr (.inl h))
    have off0 : OwnOff [(D0, oD)] [lO, s₁.heap.objs.size + 1 + 1 + 1 + 1, s₁.heap.objs.size + 1 + 1 + 1, s₁.heap.objs.size + 1 + 1, s₁.heap.objs.size + 1] := by
      intro p hp b hb
      rw [List.mem_singleton.mp hp]
      simp only [List.mem_cons, List.not_mem_nil, or_false] at hb
      obtain ⟨a1, a2, a3, a4, a5⟩ := l1a
      rcases hb with rfl | rfl | rfl | rfl | rfl
      · exact Nat.ne_of_gt a1
      · exact Nat.ne_of_gt a2
      · exact Nat.ne_of_gt a3
      · exact Nat.ne_of_gt a4
      · exact Nat.ne_of_gt a5
    have offc : lO ≠ s₁.heap.objs.size + 1 + 1 + 1 + 1 ∧ lO ≠ s₁.heap.objs.size + 1 + 1 + 1 ∧ lO ≠ s₁.heap.objs.size + 1 + 1 ∧ lO ≠ s₁.heap.objs.size + 1 :=
      ⟨Ne.symm (ap7 _ (.head _)), Ne.symm (ap7 _ (.tail _ (.head _))), Ne.symm (ap7 _ (.tail _ (.tail _ (.head _)))), Ne.symm (ap7 _ (.tail _ (.tail _ (.tail _ (.head _)))))⟩
    clear hs fs hi fi l1a l1b ap7 N7' hr4 st4 st5 st6 hg6 hn6
    w_top off
    refine Mine.wpS_execs_at 1 ?_
    dsimp only [List.take, List.drop]
    refine wpAny_execs_cons ?_
    refine wpAny_For ?_ (by intro _; rfl)
    k_steps
    rename_i h8 tk8 t8 u8 v8 hr8 F8 N8 st8
    dsimp only at hr8 F8 N8 ⊢
    clear st8
    generalize hm0 : (fun y => if y = Str.ofString "orders" then _ else _) = m₀ at F8
    refine loopG_range (h₀ := s₁.heap) (m₀ := m₀) (news := (lO, W.listOf (List.toArray vO) kO) :: (s₁.heap.objs.size + 1 + 1 + 1 + 1, oFew) :: (s₁.heap.objs.size + 1 + 1 + 1, oCh) :: (s₁.heap.objs.size + 1 + 1, oOrd) :: (s₁.heap.objs.size + 1, oMany) :: [(D0, oD)]) (n := 2) (fun i m nx => ∃ x oL o2 v R rest, m = (fun z => if z = Str.ofString "turn" then x else if z = Str.ofString "calls" then some (.ref R) else m₀ z) ∧
      nx = (lO, oL) :: (s₁.heap.objs.size + 1 + 1 + 1 + 1, oFew) :: (s₁.heap.objs.size + 1 + 1 + 1, oCh) :: (s₁.heap.objs.size + 1 + 1, o2) :: (s₁.heap.objs.size + 1, oMany) :: rest ∧
      oL.cls = .type "list" ∧ (∃ k, oL.data = .seq (List.toArray vO) k) ∧ o2.data = .cell v ∧ TabIn w rest R (rounds N i) ∧
      OwnOff rest [lO, s₁.heap.objs.size + 1 + 1 + 1 + 1, s₁.heap.objs.size + 1 + 1 + 1, s₁.heap.objs.size + 1 + 1, s₁.heap.objs.size + 1] ∧ (R == sysModules) = false) ?e1 hr8 (by decide) (by decide) ?eF ?eN ?e4 PassesOwn.never ?e6 ?e7 ?e8
    case e1 => rfl
    case e6 => intro _ _; rfl
    case eF => exact F8
    case eN => exact N8
    case e4 =>
      have eC : m₀ (Str.ofString "calls") = some (.ref D0) := by rw [← hm0]; exact (if_neg (by decide)).trans (if_pos rfl)
      refine ⟨m₀ (Str.ofString "turn"), _, _, _, D0, _, (two_names m₀ (Str.ofString "turn") (Str.ofString "calls")).trans ?_, rfl, rfl, ⟨_, rfl⟩, dOrd, ⟨oD, [], .head _, TD, .nil, fun x hx => nomatch hx⟩, off0, lo⟩
      rw [eC]
    case e7 =>
      rintro i t9 m1 nx h9 tk9 own hi ho ⟨x, oL, o2, v, R, rest, rfl, rfl, cL, dL, d2, TR, offR, loR⟩ F9 N9
      subst hm0
      refine wpAny_assign_Name ?_
      walk1
      dsimp only
      refine wpAny_execs_cons ?_
      refine wpAny_For ?_ (by intro _; rfl)
      k_steps
      rename_i h10 F10 N10
      generalize hm1 : (fun y => if y = Str.ofString "turn" then _ else _) = m₁ at F10
      have ap1 : OwnOff own (lO :: (s₁.heap.objs.size + 1 + 1 + 1 + 1) :: (s₁.heap.objs.size + 1 + 1 + 1) :: (s₁.heap.objs.size + 1 + 1) :: (s₁.heap.objs.size + 1) :: rest.map (·.1)) := ho
      refine loopG_listK (h₀ := s₁.heap) (l := lO) (ol := oL) (vs := vO) (m₀ := m₁) (news := (s₁.heap.objs.size + 1 + 1 + 1 + 1, oFew) :: (s₁.heap.objs.size + 1 + 1 + 1, oCh) :: (s₁.heap.objs.size + 1 + 1, o2) :: (s₁.heap.objs.size + 1, oMany) :: (rest ++ own))
        (fun j m nx => ∃ o2 v R rs, m = (fun z => if z = Str.ofString "calls" then some (.ref R) else m₁ z) ∧
          nx = (s₁.heap.objs.size + 1 + 1 + 1 + 1, oFew) :: (s₁.heap.objs.size + 1 + 1 + 1, oCh) :: (s₁.heap.objs.size + 1 + 1, o2) :: (s₁.heap.objs.size + 1, oMany) :: (rs ++ own) ∧ o2.data = .cell v ∧
          TabIn w rs R (((hitsOf N).take j).foldl bumpC (rounds N i)) ∧ OwnOff rs [lO, s₁.heap.objs.size + 1 + 1 + 1 + 1, s₁.heap.objs.size + 1 + 1 + 1, s₁.heap.objs.size + 1 + 1, s₁.heap.objs.size + 1] ∧
          (∀ p ∈ rs, ∀ q ∈ own, p.1 ≠ q.1) ∧ (R == sysModules) = false) ?g1 cL dL ?g2 ?gF ?gN ?g4 PassesOwn.never ?g6 ?g7 ?g8
      case g1 => rfl
      case g6 => intro _ _; rfl
      case g2 =>
        obtain ⟨b4, b3, b2, b1⟩ := offc
        intro q hq
        rcases List.mem_cons.mp hq with rfl | hq
        · exact Ne.symm b4
        rcases List.mem_cons.mp hq with rfl | hq
        · exact Ne.symm b3
        rcases List.mem_cons.mp hq with rfl | hq
        · exact Ne.symm b2
        rcases List.mem_cons.mp hq with rfl | hq
        · exact Ne.symm b1
        rcases List.mem_append.mp hq with hq | hq
        · exact offR q hq _ (.head _)
        · exact ap1 q hq _ (.head _)
      case gF => exact F10
      case gN => exact N10
      case g4 =>
        have eC : m₁ (Str.ofString "calls") = some (.ref R) := by rw [← hm1]; exact (if_neg (by decide)).trans ((if_neg (by decide)).trans (if_pos rfl))
        refine ⟨o2, v, R, rest, (one_name m₁ (Str.ofString "calls")).trans ?_, rfl, d2, TR, offR, fun p hp q hq e => ap1 q hq p.1 (.tail _ (.tail _ (.tail _ (.tail _ (.tail _ (List.mem_map_of_mem hp)))))) e.symm, loR⟩
        rw [eC]
      case g8 =>
        rintro m2 nx h11 tk11 ol' cL' dL' ⟨o2', v', R', rs, rfl, rfl, d2', TR', offR', apR', loR'⟩ F11 N11
        subst hm1
        k_steps
        have et : (hitsOf N).take vO.length = hitsOf N := List.take_of_length_le (by rw [hO.length, hitsOf, List.length_map]; exact Nat.le_refl _)
        rw [et] at TR'
        refine EndG.intro ((lO, ol') :: (s₁.heap.objs.size + 1 + 1 + 1 + 1, oFew) :: (s₁.heap.objs.size + 1 + 1 + 1, oCh) :: (s₁.heap.objs.size + 1 + 1, o2') :: (s₁.heap.objs.size + 1, oMany) :: rs) F11 N11
          ⟨_, ol', o2', v', R', rs, funext fun z => names_turn (by decide) _ _ _ _ _, rfl, cL', dL', d2', TR', offR', loR'⟩ ?r1 ?r2 ?r3
        case r1 =>
          intro p hp
          rcases List.mem_cons.mp hp with rfl | hp
          · exact .head _
          rcases List.mem_cons.mp hp with rfl | hp
          · exact .tail _ (.head _)
          rcases List.mem_cons.mp hp with rfl | hp
          · exact .tail _ (.tail _ (.head _))
          rcases List.mem_cons.mp hp with rfl | hp
          · exact .tail _ (.tail _ (.tail _ (.head _)))
          rcases List.mem_cons.mp hp with rfl | hp
          · exact .tail _ (.tail _ (.tail _ (.tail _ (.head _))))
          · exact .tail _ (.tail _ (.tail _ (.tail _ (.tail _ (List.mem_append_left _ hp)))))
        case r2 => exact fun p hp => .tail _ (.tail _ (.tail _ (.tail _ (.tail _ (List.mem_append_right _ hp)))))
        case r3 =>
          intro p hp q hq e
          have e' := e.symm
          rcases List.mem_cons.mp hp with rfl | hp
          · exact ap1 q hq _ (.head _) e'
          rcases List.mem_cons.mp hp with rfl | hp
          · exact ap1 q hq _ (.tail _ (.head _)) e'
          rcases List.mem_cons.mp hp with rfl | hp
          · exact ap1 q hq _ (.tail _ (.tail _ (.head _))) e'
          rcases List.mem_cons.mp hp with rfl | hp
          · exact ap1 q hq _ (.tail _ (.tail _ (.tail _ (.head _)))) e'
          rcases List.mem_cons.mp hp with rfl | hp
          · exact ap1 q hq _ (.tail _ (.tail _ (.tail _ (.tail _ (.head _))))) e'
          · exact apR' p hp q hq e
      case g7 =>
        rintro j v m2 nx h11 tk11 own2 hv ho2 ⟨oLO, hLO⟩ ⟨o2', v', R', rs, rfl, rfl, d2', TR', offR', apR', loR'⟩ F11 N11
        subst hm1
        obtain ⟨b', tb, ks', rfl, hLj, hb'⟩ := hO.at j v hv
        have hl' : ks'.length ≤ 4 := by
          rw [ordersL_each 3 _ _ (List.mem_of_getElem? hLj), rangeKs_length]
          omega
        obtain ⟨Z, hZ⟩ : ∃ Z, Z = rs ++ own ++ own2 := ⟨_, rfl⟩
        have N12 : News s₁.heap s₁.heap.objs.size h11 ((s₁.heap.objs.size + 1 + 1 + 1 + 1, oFew) :: (s₁.heap.objs.size + 1 + 1 + 1, oCh) :: (s₁.heap.objs.size + 1 + 1, o2') :: (s₁.heap.objs.size + 1, oMany) :: Z) := by rw [hZ]; exact N11
        have hoZ : OwnOff Z [s₁.heap.objs.size + 1 + 1 + 1 + 1, s₁.heap.objs.size + 1 + 1 + 1, s₁.heap.objs.size + 1 + 1, s₁.heap.objs.size + 1] := by
          intro p hp b hb
          rw [hZ] at hp
          rcases List.mem_append.mp hp with hp | hp
          · rcases List.mem_append.mp hp with hp | hp
            · exact offR' p hp b (.tail _ hb)
            · refine ap1 p hp b ?_
              simp only [List.mem_cons, List.not_mem_nil, or_false] at hb ⊢
              rcases hb with h | h | h | h
              · exact .inr (.inl h)
              · exact .inr (.inr (.inl h))
              · exact .inr (.inr (.inr (.inl h)))
              · exact .inr (.inr (.inr (.inr (.inl h))))
          · refine ho2 p hp b ?_
            simp only [List.map_cons, List.mem_cons, List.not_mem_nil, or_false] at hb ⊢
            rcases hb with h | h | h | h
            · exact .inl h
            · exact .inr (.inl h)
            · exact .inr (.inr (.inl h))
            · exact .inr (.inr (.inr (.inl h)))
        clear N11
        refine wpAny_assign_Name ?_
        k_steps
        rename_i h13 o13 d13 D1 h14 o14 TD1 lo1 l14 t15 h15 tk15 st15 Dk h16 F16 N16 l16
        obtain ⟨okk, hmk, KO⟩ : ∃ ok, h16.get? Dk = some ok ∧ TupKeyObj (mixKind PG w) (keyOf (hitsI ks')) ok :=
          ⟨_, (N16 _ (.head _)).1, rfl, _, _, rfl, .cons (by simp [mixKind, isKI, Value.isStrOf]) (.cons (by simp [mixKind, isKI, Value.isInt]) (.cons (by simp [mixKind, isKI, Value.isStrOf]) .nil))⟩
        have heq := Option.some.inj (hmk.symm.trans (N16 _ (.head _)).1)
        dsimp only at heq
        rw [← heq] at N16
        refine dictSet_tab F16 [(Dk, okk)] _ rfl N16 ?p1 ?p2 TD1 (KO.key hmk) (by ktr_units) fun h17 o17 tk17 T17 F17 N17 => ?_
        case p1 => exact fun q hq => by rw [List.mem_singleton.mp hq]; exact Nat.ne_of_gt l16.1
        case p2 => k_all
        k_steps
        obtain ⟨oR, xsR, hRm, TR2, CR, dR, kR⟩ := TR'.dict (newsSub N17 fun p hp => List.mem_append_right _ (.tail _ (.tail _ (.tail _ (.tail _ (.tail _ (by rw [hZ]; exact List.mem_append_left _ (List.mem_append_left _ hp))))))))
        have dS := T17.dictOf (N17 (D1, o17) (.tail _ (.head _))).1 fun x hx => by rw [List.mem_singleton.mp hx]; exact KO.key (N17 _ (.head _)).1
        have hlen9 : xsR.length ≤ 1000 := by
          have h1 := bumps_len ((hitsOf N).take j) (rounds N i)
          have h2 := rounds_len (N := N) (by omega) i
          have h3 := hitsOf_len (N := N) (by omega)
          rw [CR.length]
          rw [List.length_take] at h1
          omega
        refine Stop.go ?_
        refine CallP.use (add_call w R' D1 xsR (keyOf (hitsI ks')) Dk 1 _) B F17 KX N17 T rfl (by ktr_room) (by ktr_units) ⟨dR, dS, loR', lo1, CR.vals, hlen9⟩ ?_
        rintro r h18 tk18 F18 N18 st18 ⟨R2, o18, ys, rfl, hg18, hn18, lo18, T18, B18⟩
        have N19 := newsMore F17 N17 st18 hg18 hn18
        have ap19 := newsApart N17 hn18
        k_steps
        rename_i h20 F20 N20
        have zs : ∀ p ∈ Z, p ∈ (R2, o18) :: ([(Dk, okk)] ++ (D1, o17) :: (s₁.heap.objs.size + 1 + 1 + 1 + 1, oFew) :: (s₁.heap.objs.size + 1 + 1 + 1, oCh) :: (s₁.heap.objs.size + 1 + 1, o13) :: (s₁.heap.objs.size + 1, oMany) :: Z) := fun p hp => .tail _ (List.mem_append_right _ (.tail _ (.tail _ (.tail _ (.tail _ (.tail _ hp))))))
        have nodR : (xsR.map (·.1)).Nodup := let ⟨_, _, _, _, _, n⟩ := TR2; n
        have zr : ∀ p ∈ rs, p ∈ Z := fun p hp => by rw [hZ]; exact List.mem_append_left _ (List.mem_append_left _ hp)
        have zo : ∀ p ∈ own, p ∈ Z := fun p hp => by rw [hZ]; exact List.mem_append_left _ (List.mem_append_right _ hp)
        have zo2 : ∀ p ∈ own2, p ∈ Z := fun p hp => by rw [hZ]; exact List.mem_append_right _ hp
        have ltZ : ∀ p ∈ Z, p.1 < Dk := by
          obtain ⟨_, _, _, _, _, a6⟩ := l16
          exact tb_ltOf a6
        refine EndG.intro ((s₁.heap.objs.size + 1 + 1 + 1 + 1, oFew) :: (s₁.heap.objs.size + 1 + 1 + 1, oCh) :: (s₁.heap.objs.size + 1 + 1, o13) :: (s₁.heap.objs.size + 1, oMany) :: (((R2, o18) :: (Dk, okk) :: rs) ++ own)) F20 N20
          ⟨o13, _, R2, (R2, o18) :: (Dk, okk) :: rs, funext fun z => swap_name _ _ _, rfl, d13, ?q1, ?q2, ?q3, lo18⟩ ?q4 ?q5 ?q6
        case q1 =>
          have ht : (hitsOf N).take (j + 1) = (hitsOf N).take j ++ [hitsI ks'] := by
            rw [List.take_add_one, hitsOf, List.getElem?_map, hLj]
            rfl
          rw [ht, List.foldl_append]
          exact TabIn.bump CR nodR kR B18 T18 (.head _) (.tail _ (.head _)) KO fun p hp => .tail _ (.tail _ hp)
        case q2 =>
          intro p hp b hb
          rcases List.mem_cons.mp hp with rfl | hp
          · intro e
            have e' : b = R2 := e.symm
            simp only [List.mem_cons, List.not_mem_nil, or_false] at hb
            rcases hb with rfl | rfl | rfl | rfl | rfl
            · exact ap19 _ (List.mem_append_right _ (.tail _ (.tail _ (.tail _ (.tail _ (.tail _ (zo2 _ hLO))))))) e'
            · exact ap19 _ (List.mem_append_right _ (.tail _ (.head _))) e'
            · exact ap19 _ (List.mem_append_right _ (.tail _ (.tail _ (.head _)))) e'
            · exact ap19 _ (List.mem_append_right _ (.tail _ (.tail _ (.tail _ (.head _))))) e'
            · exact ap19 _ (List.mem_append_right _ (.tail _ (.tail _ (.tail _ (.tail _ (.head _)))))) e'
          · rcases List.mem_cons.mp hp with rfl | hp
            · obtain ⟨a1, a2, a3, a4, a5, _⟩ := l16
              simp only [List.mem_cons, List.not_mem_nil, or_false] at hb
              rcases hb with rfl | rfl | rfl | rfl | rfl
              · exact Nat.ne_of_gt (ltZ _ (zo2 _ hLO))
              · exact Nat.ne_of_gt a2
              · exact Nat.ne_of_gt a3
              · exact Nat.ne_of_gt a4
              · exact Nat.ne_of_gt a5
            · exact offR' p hp b hb
        case q3 =>
          intro p hp q hq
          rcases List.mem_cons.mp hp with rfl | hp
          · exact Ne.symm (ap19 q (List.mem_append_right _ (.tail _ (.tail _ (.tail _ (.tail _ (.tail _ (zo _ hq))))))))
          · rcases List.mem_cons.mp hp with rfl | hp
            · exact Nat.ne_of_gt (ltZ q (zo _ hq))
            · exact apR' p hp q hq
        case q4 =>
          intro p hp
          rcases List.mem_cons.mp hp with rfl | hp
          · exact .tail _ (List.mem_append_right _ (.tail _ (.head _)))
          rcases List.mem_cons.mp hp with rfl | hp
          · exact .tail _ (List.mem_append_right _ (.tail _ (.tail _ (.head _))))
          rcases List.mem_cons.mp hp with rfl | hp
          · exact .tail _ (List.mem_append_right _ (.tail _ (.tail _ (.tail _ (.head _)))))
          rcases List.mem_cons.mp hp with rfl | hp
          · exact .tail _ (List.mem_append_right _ (.tail _ (.tail _ (.tail _ (.tail _ (.head _))))))
          rcases List.mem_append.mp hp with hp | hp
          · rcases List.mem_cons.mp hp with rfl | hp
            · exact .head _
            rcases List.mem_cons.mp hp with rfl | hp
            · exact .tail _ (.head _)
            · exact zs p (zr p hp)
          · exact zs p (zo p hp)
        case q5 => exact fun p hp => zs p (zo2 p hp)
        case q6 =>
          intro p hp q hq e
          have e' := e.symm
          rcases List.mem_cons.mp hp with rfl | hp
          · exact ho2 q hq _ (.head _) e'
          rcases List.mem_cons.mp hp with rfl | hp
          · exact ho2 q hq _ (.tail _ (.head _)) e'
          rcases List.mem_cons.mp hp with rfl | hp
          · exact ho2 q hq _ (.tail _ (.tail _ (.head _))) e'
          rcases List.mem_cons.mp hp with rfl | hp
          · exact ho2 q hq _ (.tail _ (.tail _ (.tail _ (.head _)))) e'
          have inn : ∀ p ∈ rs ++ own, p.1 ≠ q.1 := fun p hp e => ho2 q hq p.1 (.tail _ (.tail _ (.tail _ (.tail _ (List.mem_map_of_mem hp))))) e.symm
          rcases List.mem_append.mp hp with hp | hp
          · rcases List.mem_cons.mp hp with rfl | hp
            · exact ap19 q (List.mem_append_right _ (.tail _ (.tail _ (.tail _ (.tail _ (.tail _ (zo2 _ hq))))))) e'
            rcases List.mem_cons.mp hp with rfl | hp
            · exact absurd (ltZ q (zo2 _ hq)) (by rw [← e]; exact Nat.lt_irrefl _)
            · exact inn p (List.mem_append_left _ hp) e
          · exact inn p (List.mem_append_right _ hp) e
    rintro m1 nx h9 tk9 ⟨x, oL, o2, v, R, rest, rfl, rfl, cL, dL, d2, TR, offR, loR⟩ F9 N9
    subst hm0
    k_steps
    dsimp only
    clear hr8 N8 off0 TD lo dOrd
    rename_i z8 z7 z6 z5 z4 z3 z2 z1
    revert w s₀ s₁ mg mb G Y fa o pm doc ho hg KX X V GL T z8 z7 z6 z5 z4 B0 ns hs0 hlay1 hlay2 hhas hl2 lS1 lS2 aS vS lS3 hS ra w1 r0 hI hrr h1 tk1 oFew oCh oOrd oM0 dFew dCh h2 tkx tx h3 oMany z3 hc3 N h03 h04 tM dM B h4 tk4 t4 u4 v4 h5 t5 tk5 hlen h6 tk6 lO vO kO hO D0 hw oD DT hz hy hx h7 z2 tk z1 offc h8 tk8 t8 u8 v8 h9 tk9 x oL o2 v R rest cL dL d2 TR offR loR N9 F8 F9
    exact hP.out
set_option maxRecDepth 100000 in
set_option maxHeartbeats 200000000 in
def C4 : { P : Prop // Hold P → C1.1 } := by
  refine ⟨?PP0, fun hP => ?_⟩
  rotate_left
  · skip
    intro w s₀ s₁ mg mb G Y fa o pm doc ho hg KX X V GL T _ _ _ _ _ B0 ns hs0 hlay1 hlay2 hhas hl2 lS1 lS2 aS vS lS3 hS ra w1 r0 hI hrr h1 tk1 oFew oCh oOrd oM0 dFew dCh h2 tkx tx h3 oMany _ hc3 N h03 h04 tM dM B h4 tk4 t4 u4 v4 h5 t5 tk5 hlen h6 tk6 lO vO kO hO D0 hw oD DT hz hy hx h7 _ tk _ offc h8 tk8 t8 u8 v8 h9 tk9 x oL o2 v R rest cL dL d2 TR offR loR N9 F8 F9
    w_top off
    refine Mine.wpS_execs_at 1 ?_
    dsimp only [List.take, List.drop]
    k_steps
    obtain ⟨oR, xs, hRm, TT, CC, dR, kR⟩ := TR.dict (newsSub N9 fun p hp => .tail _ (.tail _ (.tail _ (.tail _ (.tail _ hp)))))
    refine Stop.go ?_
    refine CallP.useI (count_call w R xs ((rounds N 2).map (·.2))) B F9 KX N9 T rfl (by ktr_room) (by ktr_units) ⟨dR, CC.ints, loR⟩ fun t10 h10 tk10 F10 N10 st10 => ?_
    rw [counts_ok (by omega) (by omega)]
    clear F9 N9 dR
    k_steps
    rename_i t11 h11 tk11 F11 N11 st11 ha
    dsimp only
    clear ha st11 F10 N10 st10
    w_top off
    refine Mine.wpS_execs_at 1 ?_
    dsimp only [List.take, List.drop]
    k_steps
    refine Stop.go ?_
    refine CallP.use (chosen_call w (N : Int) tM (by omega) (by omega)) B F11 KX N11 T rfl (by ktr_room) (by ktr_units) trivial ?_
    rintro r h12 tk12 F12 N12 st12 ⟨lC, vC, kC, rfl, hg12, hn12, hC⟩
    have N13 := newsMore F11 N11 st12 hg12 hn12
    have ap13 := newsApart N11 hn12
    have nO : @Ne Nat lO (s₁.heap.objs.size + 1 + 1 + 1 + 1) ∧ @Ne Nat lO (s₁.heap.objs.size + 1 + 1 + 1) ∧ @Ne Nat lO (s₁.heap.objs.size + 1 + 1) ∧ @Ne Nat lO (s₁.heap.objs.size + 1) := offc
    have nC : @Ne Nat lC lO ∧ @Ne Nat lC (s₁.heap.objs.size + 1 + 1 + 1 + 1) ∧ @Ne Nat lC (s₁.heap.objs.size + 1 + 1 + 1) ∧ @Ne Nat lC (s₁.heap.objs.size + 1 + 1) ∧ @Ne Nat lC (s₁.heap.objs.size + 1) :=
      ⟨Ne.symm (ap13 _ (.head _)), Ne.symm (ap13 _ (.tail _ (.head _))), Ne.symm (ap13 _ (.tail _ (.tail _ (.head _)))), Ne.symm (ap13 _ (.tail _ (.tail _ (.tail _ (.head _))))), Ne.symm (ap13 _ (.tail _ (.tail _ (.tail _ (.tail _ (.head _))))))⟩
    have offR2 : OwnOff rest [lC, lO, s₁.heap.objs.size + 1 + 1 + 1 + 1, s₁.heap.objs.size + 1 + 1 + 1, s₁.heap.objs.size + 1 + 1, s₁.heap.objs.size + 1] := by
      intro p hp b hb
      rcases List.mem_cons.mp hb with rfl | hb
      · exact ap13 p (.tail _ (.tail _ (.tail _ (.tail _ (.tail _ hp)))))
      · exact offR p hp b hb
    clear F11 N11 N12 st12 ap13 offR offc
    k_steps
    rename_i h14 o14 F14 N14 d14
    dsimp only
    clear dCh hg12 hn12
    w_top off
    refine Mine.wpS_execs_at 1 ?_
    dsimp only [List.take, List.drop]
    k_steps
    all_goals (try k_data)
    rotate_left
    · exact absurd (chosen_ok (N := N) (by omega) (by omega)) (by assumption)
    rename_i hk2 hk1 g9 hI8 hL8 D15 h15 tk15 F15 N15 o15 ha
    dsimp only
    have N16 := newsSub N15 fun p hp => List.Mem.tail _ hp
    clear ha o15 N15 hL8 hI8 hk1 hk2
    w_top off
    refine Mine.wpS_execs_at 1 ?_
    dsimp only [List.take, List.drop]
    obtain ⟨ch, hch⟩ : ∃ ch, ch = chosenAcc (N : Int) (2 ^ (2 * (N : Int)).toNat) := ⟨_, rfl⟩
    rw [← hch] at hC
    have hcl : ch.length = N + 1 := by rw [hch, chosenAcc_length]; omega
    k_steps
    rename_i hk1 g18 hI8 hL8 D18 h18 tk18 o18 h19 tk19 t19 h20 F20 N20
    dsimp only
    have N21 := newsSub N20 fun p hp => List.Mem.tail _ hp
    clear N20 o18 hI8 hL8 hk1
    rw [told_ok (by omega) (by omega) hch] at F20
    w_top off
    refine Mine.wpS_execs_at 1 ?_
    dsimp only [List.take, List.drop]
    iterate 20 (first | walk1 | (dsimp only; walk1))
    rename_i h23 F23 N23 l23 t22
    rw [if_neg (show ¬ (((N : Int) - 2 != List.getD [1, 2] ((N : Int) - 3).toNat 0) = true) by rw [← idx_ok (N := N) (by omega) (by omega), bne_self_eq_false]; exact Bool.false_ne_true)]
    iterate 4 (first | walk1 | (dsimp only; walk1))
    obtain ⟨oR', xs', hRm', TT', CC', dR', kR'⟩ := TR.dict (newsSub N23 fun p hp => .tail _ <| .tail _ (.tail _ (.tail _ (.tail _ (.tail _ (.tail _ hp))))))
    obtain ⟨es', ep', raw', _⟩ := dictOfH_raw dR'
    dsimp only
    refine getMethod_raw PySem.F.slot_dict_get PySem.F.type_dict_get raw' ?_
    iterate 14 (first | walk1 | (dsimp only; walk1))
    rename_i D24 h24 F24 N24 l24
    clear raw' dR' kR' CC' TT' hRm'
    have hk24 : (MK w).is h24 (keyOf 0) D24 := TupKeyObj.key ⟨rfl, _, _, rfl, .cons (by simp [mixKind, isKI, Value.isStrOf]) (.cons (by simp [mixKind, isKI, Value.isInt]) (.cons (by simp [mixKind, isKI, Value.isStrOf]) .nil))⟩ (N24 _ (.head _)).1
    obtain ⟨oR', xs', hRm', TT', CC', dR', kR'⟩ := TR.dict (newsSub N24 fun p hp => .tail _ <| .tail _ <| .tail _ (.tail _ (.tail _ (.tail _ (.tail _ (.tail _ hp))))))
    refine call_get_tab (by ktr_units) loR hk24 dR' CC' fun u25 tk25 => ?_
    rw [get_ok (by omega) (by omega)]
    iterate 6 (first | walk1 | (dsimp only; walk1))
    rw [if_neg (show ¬ ((2 * ((N : Int) - 2) != 2 * ((N : Int) - 2)) = true) by rw [bne_self_eq_false]; exact Bool.false_ne_true)]
    k_steps
    dsimp only
    have N25 := newsSub N24 fun p hp => List.Mem.tail _ (List.Mem.tail _ hp)
    clear N24 hk24 dR' kR' CC' TT' hRm'
    rename_i z30 z29 z28 z27 z26 z25 z24 z23 z22 z21 z20 z19 z18 z17 z16 z15 z14 z13 z12 z11 z10 z9 z8 z7 z6 z5 z4 z3 z2 z1
    revert w s₀ s₁ mg mb G Y fa o pm doc ho hg KX X V GL T z30 z29 z28 z27 z26 B0 ns hs0 hlay1 hlay2 hhas hl2 lS1 lS2 aS vS lS3 hS ra w1 r0 hI hrr h1 tk1 oFew oCh oOrd oM0 dFew h2 tkx tx h3 oMany z25 hc3 N h03 h04 tM dM B h4 tk4 t4 u4 v4 h5 t5 tk5 hlen h6 tk6 lO vO kO hO D0 hw oD DT hz hy hx h7 z24 h8 tk8 t8 u8 v8 h9 tk9 x oL o2 v R rest cL dL d2 TR loR oR xs hRm TT CC kR t10 h10 tk10 t11 h11 tk11 z23 h12 tk12 lC vC kC nO nC offR2 h14 o14 d14 z22 z21 z20 z19 z18 z17 z16 z15 g9 z14 D15 h15 tk15 ch hC hch hcl z13 z12 z11 z10 z9 z8 z7 z6 g18 ys D18 h18 tk18 h19 tk19 t19 h20 z5 z4 h23 l23 t22 z3 z2 es' ep' z1 D24 h24 F24 l24 oR' xs' u25 tk25 tk N25
    exact hP.out
set_option maxRecDepth 100000 in
set_option maxHeartbeats 200000000 in
def C9 : { P : Prop // Hold P → C4.1 } := by
  refine ⟨?PP0, fun hP => ?_⟩
  rotate_left
  · skip
    intro w s₀ s₁ mg mb G Y fa o pm doc ho hg KX X V GL T _ _ _ _ _ B0 ns hs0 hlay1 hlay2 hhas hl2 lS1 lS2 aS vS lS3 hS ra w1 r0 hI hrr h1 tk1 oFew oCh oOrd oM0 dFew h2 tkx tx h3 oMany _ hc3 N h03 h04 tM dM B h4 tk4 t4 u4 v4 h5 t5 tk5 hlen h6 tk6 lO vO kO hO D0 hw oD DT hz hy hx h7 _ h8 tk8 t8 u8 v8 h9 tk9 x oL o2 v R rest cL dL d2 TR loR oR xs hRm TT CC kR t10 h10 tk10 t11 h11 tk11 _ h12 tk12 lC vC kC nO nC offR2 h14 o14 d14 _ _ _ _ _ _ _ _ g9 _ D15 h15 tk15 ch hC hch hcl _ _ _ _ _ _ _ _ g18 ys D18 h18 tk18 h19 tk19 t19 h20 _ _ h23 l23 t22 _ _ es' ep' _ D24 h24 F24 l24 oR' xs' u25 tk25 tk N25
    w_top off
    refine Mine.wpS_execs_at 1 ?_
    dsimp only [List.take, List.drop]
    refine wpAny_execs_cons ?_
    refine wpAny_For ?_ (by intro _; rfl)
    k_steps
    rename_i h26 tk26 t26 u26 v26 hr26 F26 N26 st26
    dsimp only at hr26 F26 N26 ⊢
    clear st26
    have hsm : Builtin.Range.small 0 ((N : Int) + 1) 1 = true := small_one (by omega) (by omega) (by omega) (by omega)
    have hsz : Builtin.Range.rangeSize 0 ((N : Int) + 1) 1 = ((N + 1 : Nat) : Int) := by rw [show (N : Int) + 1 = ((N + 1 : Nat) : Int) by omega, rangeSize_nat]; omega
    have B' := B
    refine loopG_rangeC (h₀ := s₁.heap) (news := (lC, W.listOf vC.toArray kC) :: (lO, oL) :: (s₁.heap.objs.size + 1 + 1 + 1 + 1, oFew) :: (s₁.heap.objs.size + 1 + 1 + 1, o14) :: (s₁.heap.objs.size + 1 + 1, o2) :: (s₁.heap.objs.size + 1, oMany) :: rest) (n := N + 1)
      (fun i nx => ∃ oF v, nx = (lC, W.listOf vC.toArray kC) :: (lO, oL) :: (s₁.heap.objs.size + 1 + 1 + 1 + 1, oF) :: (s₁.heap.objs.size + 1 + 1 + 1, o14) :: (s₁.heap.objs.size + 1 + 1, o2) :: (s₁.heap.objs.size + 1, oMany) :: rest ∧ oF.data = .cell v) ?e1 hr26 hsm hsz F26 N26 ?e4 PassesOwn.never ?e6 ?e7 ?e8
    case e1 => rfl
    case e6 => intro _ _; rfl
    case e4 => exact ⟨oFew, _, rfl, dFew⟩
    case e7 =>
      rintro i t27 nx h27 tk27 own hi ho ⟨oF, v, rfl, dF⟩ F27 N27
      clear F26 N26
      have ho' : OwnOff own (lC :: lO :: (s₁.heap.objs.size + 1 + 1 + 1 + 1) :: (s₁.heap.objs.size + 1 + 1 + 1) :: (s₁.heap.objs.size + 1 + 1) :: (s₁.heap.objs.size + 1) :: rest.map (·.1)) := ho
      obtain ⟨Z, hZ⟩ : ∃ Z, Z = rest ++ own := ⟨_, rfl⟩
      have N28 : News s₁.heap s₁.heap.objs.size h27 ((lC, W.listOf vC.toArray kC) :: (lO, oL) :: (s₁.heap.objs.size + 1 + 1 + 1 + 1, oF) :: (s₁.heap.objs.size + 1 + 1 + 1, o14) :: (s₁.heap.objs.size + 1 + 1, o2) :: (s₁.heap.objs.size + 1, oMany) :: Z) := by rw [hZ]; exact N27
      have F28 : Fr s₁.heap s₁.heap.objs.size h27 _ := F27
      have hoZ : OwnOff Z [lC, lO, s₁.heap.objs.size + 1 + 1 + 1 + 1, s₁.heap.objs.size + 1 + 1 + 1, s₁.heap.objs.size + 1 + 1, s₁.heap.objs.size + 1] := by
        intro p hp b hb
        rw [hZ] at hp
        rcases List.mem_append.mp hp with hp | hp
        · exact offR2 p hp b hb
        · refine ho' p hp b ?_
          simp only [List.mem_cons, List.not_mem_nil, or_false] at hb ⊢
          rcases hb with h | h | h | h | h | h
          · exact .inl h
          · exact .inr (.inl h)
          · exact .inr (.inr (.inl h))
          · exact .inr (.inr (.inr (.inl h)))
          · exact .inr (.inr (.inr (.inr (.inl h))))
          · exact .inr (.inr (.inr (.inr (.inr (.inl h)))))
      clear N27 F27
      have TRZ : TabIn w Z R (rounds N 2) := TR.mono fun p hp => by rw [hZ]; exact List.mem_append_left _ hp
      refine wpAny_assign_Name ?_
      walk1
      rename_i h28 oF2 F29 N29 dF2
      dsimp only
      k_steps
      w_top off
      refine Stop.go ?_
      rw [Int.mul_one, Int.zero_add] at dF2
      obtain ⟨oR9, xs9, hRm9, TT9, CC9, dR9, kR9⟩ := TRZ.dict (newsSub N29 fun p hp => .tail _ (.tail _ (.tail _ (.tail _ (.tail _ (.tail _ hp))))))
      obtain ⟨es9, ep9, raw9, hes9⟩ := dictOfH_raw dR9
      have hsz9 : es9.size ≤ 128 := by
        rw [size_of_entries hes9, CC9.length]
        exact rounds_len (N := N) (by omega) 2
      have hp9 : Mine.pairsOf es9 = xs9.map fun x => (fun _ => Value.ref x.2.1, x.2.2) := by
        rw [Mine.pairsOf, hes9, List.map_map]
        rfl
      refine ListComp_raw F29 (by rfl) (by decide) (by rfl) (by decide) (by rfl) (by rfl) (by decide) ?_
      walk1
      walk1
      refine getMethod_raw PySem.F.slot_dict_items PySem.F.type_dict_items raw9 ?_
      walk1
      refine call_items_raw loR raw9 ?_
      obtain ⟨oR8, hR8, cR8, dR8⟩ := raw9
      have eR8 : oR8 = oR9 := Option.some.inj (hR8.symm.trans (N29 _ (.tail _ (.tail _ (.tail _ (.tail _ (.tail _ (.tail _ hRm9))))))).1)
      have hSS : ∃ o, (R, o) ∈ (lC, W.listOf vC.toArray kC) :: (lO, oL) :: (s₁.heap.objs.size + 1 + 1 + 1 + 1, oF2) :: (s₁.heap.objs.size + 1 + 1 + 1, o14) :: (s₁.heap.objs.size + 1 + 1, o2) :: (s₁.heap.objs.size + 1, oMany) :: Z ∧ o.ExactDict ∧ o.data = .dict es9 ep9 := ⟨oR9, .tail _ (.tail _ (.tail _ (.tail _ (.tail _ (.tail _ hRm9))))), eR8 ▸ cR8, eR8 ▸ dR8⟩
      refine ⟨_, R, es9, ep9, (lC, W.listOf vC.toArray kC) :: (lO, oL) :: (s₁.heap.objs.size + 1 + 1 + 1 + 1, oF2) :: (s₁.heap.objs.size + 1 + 1 + 1, o14) :: (s₁.heap.objs.size + 1 + 1, o2) :: (s₁.heap.objs.size + 1, oMany) :: Z, fun nw => ∃ o, (R, o) ∈ nw ∧ o.ExactDict ∧ o.data = .dict es9 ep9, rfl, rfl, F29.push _, fun p hp => ⟨Heap.get?_push_of_some _ (N29 p hp).1, (N29 p hp).2⟩, ⟨_, Heap.get?_push_size _ rfl, rfl, rfl⟩, Nat.le_trans hsz9 (by decide), fun h nw N' ⟨o, hm, hc, hd⟩ => ⟨o, (N' _ hm).1, hc, hd⟩, hSS, fun g9 => ?_⟩
      rw [hp9]
      refine kct_cnt (i : Int) (fun a c => c.fdiv 2 * waysI a (i : Int)) (goodC N) (fun k a => ∃ ok, (a, ok) ∈ Z ∧ TupKeyObj (mixKind PG w) k ok) ?turn CC9 (goods (by omega) (by omega)) kR9 [] [] .nil ?fin
      case turn =>
        rintro i' j p t ys K ⟨g1, g2, g3, g4⟩ ⟨ok, hok, TK⟩ hyes hno I oI C oC D m₂ h30 tk30 E' hC hw hof F30 N30 off30 ne30
        clear hR8 cR8 dR8 eR8 hp9 hsz9 hes9 kR9 dR9 CC9 TT9 hRm9 N29 F29
        obtain ⟨hc, items, nk, hd, hi⟩ := TK
        have hIt : IsTup h30 p items := ⟨ok, (N30 _ (.tail _ (.tail _ (.tail _ (.tail _ (.tail _ (.tail _ (.tail _ (.tail _ (.tail _ hok)))))))))).1, hc, nk, hd⟩
        obtain ⟨t1, hx1, hn1⟩ := word_at hi
        dsimp only
        walk1
        walk1
        walk1
        walk1
        refine item_tuple hIt (by decide) (by decide) (j := 1) hn1 hx1 ?_
        k_steps
        · refine item_tuple hIt (by decide) (by decide) (j := 1) hn1 hx1 ?_
          k_steps
          rename_i hle cE t31 h31 tk31 F31 N31 st31
          exact LCg.CompEnd.intro F31 N31 _ (fun p hp => hp) off30 hSS (hyes hle _)
        · rename_i hlt
          exact LCg.CompEnd.intro F30 N30 _ (fun p hp => hp) off30 hSS (hno hlt)
      case fin =>
        intro ys hys
        rw [List.nil_append] at hys
        clear hR8 cR8 dR8 eR8 hp9 hsz9 hes9 kR9 dR9 CC9 TT9 hRm9 N29 F29 hSS
        have hs9 := sum_ok (N := N) (i := i) (by omega) (by omega) hi
        rw [← hch] at hs9
        k_steps
        · rename_i t31 h31 tk31 F31 N31 st31 hne
          rw [Int.toNat_natCast] at hne
          exact absurd hs9 hne
        · rename_i D31 h30 tk30 F30 N30 o30 t31 h31 tk31 F31 N31 st31 hne
          refine EndG.intro ((lC, W.listOf vC.toArray kC) :: (lO, oL) :: (s₁.heap.objs.size + 1 + 1 + 1 + 1, oF2) :: (s₁.heap.objs.size + 1 + 1 + 1, o14) :: (s₁.heap.objs.size + 1 + 1, o2) :: (s₁.heap.objs.size + 1, oMany) :: rest) F31 N31 ⟨rfl, oF2, _, rfl, dF2⟩ ?r1 ?r2 ?r3
          case r1 =>
            intro p hp
            rcases List.mem_cons.mp hp with rfl | hp
            · exact .tail _ (.head _)
            rcases List.mem_cons.mp hp with rfl | hp
            · exact .tail _ (.tail _ (.head _))
            rcases List.mem_cons.mp hp with rfl | hp
            · exact .tail _ (.tail _ (.tail _ (.head _)))
            rcases List.mem_cons.mp hp with rfl | hp
            · exact .tail _ (.tail _ (.tail _ (.tail _ (.head _))))
            rcases List.mem_cons.mp hp with rfl | hp
            · exact .tail _ (.tail _ (.tail _ (.tail _ (.tail _ (.head _)))))
            rcases List.mem_cons.mp hp with rfl | hp
            · exact .tail _ (.tail _ (.tail _ (.tail _ (.tail _ (.tail _ (.head _))))))
            · exact .tail _ (.tail _ (.tail _ (.tail _ (.tail _ (.tail _ (.tail _ (by rw [hZ]; exact List.mem_append_left _ hp)))))))
          case r2 => exact fun p hp => .tail _ (.tail _ (.tail _ (.tail _ (.tail _ (.tail _ (.tail _ (by rw [hZ]; exact List.mem_append_right _ hp)))))))
          case r3 => exact fun p hp q hq => Ne.symm (ho' q hq p.1 (List.mem_map_of_mem (f := fun x => x.1) hp))
    rintro nx h27 tk27 ⟨oF, v27, rfl, dF⟩ F27 N27
    clear F26 N26
    k_steps
    dsimp only
    w_top off
    refine Mine.wpS_execs_at 1 ?_
    dsimp only [List.take, List.drop]
    have N28 : News s₁.heap s₁.heap.objs.size h27 [(s₁.heap.objs.size + 1 + 1, o2), (s₁.heap.objs.size + 1, oMany)] := newsSub N27 fun p hp => by
      rcases List.mem_cons.mp hp with rfl | hp
      · exact .tail _ (.tail _ (.tail _ (.tail _ (.head _))))
      · rw [List.mem_singleton.mp hp]
        exact .tail _ (.tail _ (.tail _ (.tail _ (.tail _ (.head _)))))
    have F28 : Fr s₁.heap s₁.heap.objs.size h27 _ := F27
    clear N27 F27 dF nC nO offR2 hC hch hO TR
    clear TT CC kR
    rename_i iA sA ysq hB tkB tB1 tB2 tB3 iB sB hkl tkq lS oRq xsq rS F24' N24'
    clear iA sA iB sB rS F24' N24'
    k_steps
    rename_i h29 tk29 t29 u29 v29 hr29 F29 N29 st29
    refine kll_range (n := N) (by rfl) F29 N29 hr29 (small_one (by omega) (by omega) (by omega) (by omega)) (by rw [rangeSize_nat]; omega) (by omega) fun D30 us c30 h30 tk30 F30 N30 l30 hus => ?_
    clear F29 N29 hr29 st29
    k_steps
    rename_i lD hA l31 DT hB l32 hC hD h31 F31 N31
    dsimp only
    have N32 := newsSub N31 fun p hp => List.Mem.tail _ hp
    clear N31 l32
    rename_i z18 z17 z16 z15 z14 z12 z11 z10 z9 z8 z7 z6 z5 z4 z3 z2 z1
    revert w s₀ s₁ mg mb G Y fa o pm doc ho hg KX X V GL T z18 z17 z16 z15 z14 B0 ns hs0 hlay1 hlay2 hhas hl2 lS1 lS2 aS vS lS3 hS ra w1 r0 hI hrr h1 tk1 oFew oCh oOrd oM0 dFew h2 tkx tx h3 oMany z12 hc3 N h03 h04 tM dM B h4 tk4 t4 u4 v4 h5 t5 tk5 hlen h6 tk6 lO vO kO D0 hw oD z11 hz hy hx h7 z10 h8 tk8 t8 u8 v8 h9 tk9 x oL o2 v R rest cL dL d2 loR oR xs hRm t10 h10 tk10 t11 h11 tk11 z9 h12 tk12 lC vC kC h14 o14 d14 z8 z7 z6 z5 z4 z3 g9 ysq D15 h15 tk15 ch hcl z2 tkB tB1 tB2 tB3 hkl g18 ys D18 h18 tk18 h19 tk19 t19 h20 tkq lS h23 l23 t22 oRq xsq es' ep' D24 h24 l24 oR' xs' u25 tk25 z1 h26 tk26 t26 u26 v26 hr26 hsm hsz B' h27 tk27 oF v27 h29 tk29 t29 u29 v29 D30 us c30 h30 tk30 l30 hus lD hA l31 DT hB hC hD h31 F31 tk N32
    exact hP.out
set_option maxRecDepth 100000 in
set_option maxHeartbeats 200000000 in
def C12 : { P : Prop // Hold P → C9.1 } := by
  refine ⟨?PP0, fun hP => ?_⟩
  rotate_left
  · skip
    intro w s₀ s₁ mg mb G Y fa o pm doc ho hg KX X V GL T _ _ _ _ _ B0 ns hs0 hlay1 hlay2 hhas hl2 lS1 lS2 aS vS lS3 hS ra w1 r0 hI hrr h1 tk1 oFew oCh oOrd oM0 dFew h2 tkx tx h3 oMany _ hc3 N h03 h04 tM dM B h4 tk4 t4 u4 v4 h5 t5 tk5 hlen h6 tk6 lO vO kO D0 hw oD _ hz hy hx h7 _ h8 tk8 t8 u8 v8 h9 tk9 x oL o2 v R rest cL dL d2 loR oR xs hRm t10 h10 tk10 t11 h11 tk11 _ h12 tk12 lC vC kC h14 o14 d14 _ _ _ _ _ _ g9 ysq D15 h15 tk15 ch hcl _ tkB tB1 tB2 tB3 hkl g18 ys D18 h18 tk18 h19 tk19 t19 h20 tkq lS h23 l23 t22 oRq xsq es' ep' D24 h24 l24 oR' xs' u25 tk25 _ h26 tk26 t26 u26 v26 hr26 hsm hsz B' h27 tk27 oF v27 h29 tk29 t29 u29 v29 D30 us c30 h30 tk30 l30 hus lD hA l31 DT hB hC hD h31 F31 tk N32
    w_top off
    refine Mine.wpS_execs_at 1 ?_
    dsimp only [List.take, List.drop]
    refine wpAny_execs_cons ?_
    refine wpAny_For ?_ (by intro _; rfl)
    k_steps
    rename_i lQ h32 F32 hn32 l32 h33 F33 N33 hZ0 hZL hZC
    dsimp only at hZL ⊢
    have hSh : h33.IsList aS vS.toArray := let ⟨o, ho, r⟩ := hS; ⟨o, F33.keep _ _ ho, r⟩
    obtain ⟨zV, hzV⟩ : ∃ zV, zV = (List.replicate (N : Int).toNat [Value.int 0 tk]).flatten := ⟨_, rfl⟩
    rw [← hzV] at hZL
    have hzI : IntsAre zV (List.replicate N 0) := by rw [hzV, Int.toNat_natCast]; exact ints_rep _ N
    have hvI : IntsAre (vS ++ zV) (ns ++ List.replicate N 0) := ints_app hI hzI
    have hvl : (vS ++ zV).length = ns.length + N := by rw [ints_length hvI, List.length_append, List.length_replicate]
    refine kmk_add_lit (its := vS.toArray) (its2 := zV.toArray) (zs := vS ++ zV) F33 N33 hSh hZL rfl (fun D34 h34 F34 N34 l34 => ?_) (by rw [← List.length_append]; exact Nat.le_trans (Nat.le_of_eq hvl) (Nat.le_trans (show ns.length + N ≤ 128 by omega) (by decide)))
    clear hZC hZL hZ0 hSh hn32 F32
    iterate 6 (first | walk1 | (dsimp only; walk1))
    refine kms_slice_lit (s := { s₁ with heap := h34, toks := _ }) (its := (vS ++ zV).toArray) (zs := (vS ++ zV).take N) (lo := none) (hi := some (N : Int)) F34 N34 (N34.isList (.head _)) ?p1 ?p2 ?p3 (fun D35 h35 F35 N35 l35 => ?_) (by with_unfolding_all rfl) (by intro _; with_unfolding_all rfl) ?p4
    case p1 => exact IsPart.none
    case p2 => exact IsPart.int _ _
    case p3 => exact pick_take (vS ++ zV) N (by omega)
    case p4 =>
      rw [List.size_toArray]
      exact Nat.le_trans (show (vS ++ zV).length ≤ 128 by omega) (by decide)
    have N36 : News s₁.heap s₁.heap.objs.size h35 [(lD, W.listOf #[] 0), (D30, W.listOf us.toArray c30), (s₁.heap.objs.size + 1 + 1, o2), (s₁.heap.objs.size + 1, oMany)] := newsSub N35 fun p hp => .tail _ (.tail _ (.tail _ hp))
    have hl35 : h35.IsList D35 ((vS ++ zV).take N).toArray := N35.isList (.head _)
    have z35 := N35 _ (.head _)
    have hn35 : ∀ q ∈ [(lD, W.listOf #[] 0), (D30, W.listOf us.toArray c30), (s₁.heap.objs.size + 1 + 1, o2), (s₁.heap.objs.size + 1, oMany)], q.1 ≠ D35 := fun q hq => Nat.ne_of_lt (l35 q (.tail _ (.tail _ hq)))
    have hvT : IntsAre ((vS ++ zV).take N) ((ns ++ List.replicate N 0).take N) := ints_take hvI N
    have hvN : ((vS ++ zV).take N).length = N := by rw [List.length_take]; omega
    clear N34 F34 N33 F33 l34 l35 N35
    generalize (vS ++ zV).take N = tV at hl35 hvT hvN ⊢
    generalize (ns ++ List.replicate N 0).take N = tN at hvT
    generalize hm0 : (fun y => if y = Str.ofString "left" then _ else _) = m₀ at F35
    refine loopG_list (h₀ := s₁.heap) (m₀ := m₀) (vs := tV) (news := [(lD, W.listOf #[] 0), (D30, W.listOf us.toArray c30), (s₁.heap.objs.size + 1 + 1, o2), (s₁.heap.objs.size + 1, oMany)])
      (fun i m nx => ∃ x dv lv cd cl dr lf, m = (fun z => if z = Str.ofString "number" then x else m₀ z) ∧
        nx = [(lD, W.listOf (List.toArray dv) cd), (D30, W.listOf (List.toArray lv) cl), (s₁.heap.objs.size + 1 + 1, o2), (s₁.heap.objs.size + 1, oMany)] ∧ IntsAre dv dr ∧ IntsAre lv lf ∧ (dr, lf) ∈ reach N i) ?e1 hl35 z35.2.1 hn35 F35 N36 ?e4 PassesOwn.never ?e6 ?e7 ?e8
    case e1 => rfl
    case e6 => intro _ _; rfl
    case e4 => exact ⟨_, [], us, 0, c30, [], _, one_name m₀ (Str.ofString "number"), rfl, .nil, hus, .head _⟩
    case e7 =>
      rintro i v37 m1 nx h37 tk37 own hv ho ⟨x', dv, lv, cd, cl, dr, lf, rfl, rfl, hdv, hlv, hR⟩ F37 N37
      have F38 : Fr s₁.heap s₁.heap.objs.size h37 _ := F37
      have N38 : News s₁.heap s₁.heap.objs.size h37 ((lD, W.listOf (List.toArray dv) cd) :: (D30, W.listOf (List.toArray lv) cl) :: (s₁.heap.objs.size + 1 + 1, o2) :: (s₁.heap.objs.size + 1, oMany) :: own) := N37
      have ho' : OwnOff own [lD, D30, s₁.heap.objs.size + 1 + 1, s₁.heap.objs.size + 1] := ho
      obtain ⟨hdl, hll⟩ := reach_len hR
      have hi : i < N := by
        have := List.getElem?_eq_some_iff.mp hv
        obtain ⟨hx, _⟩ := this
        omega
      obtain ⟨k37, t37, rfl, _⟩ := hvT.at i v37 hv
      clear F37 N37 F35 N36 hl35 hn35
      subst hm0
      refine wpAny_assign_Name ?_
      k_steps
      rename_i rT h39 F39 N39
      w_top off
      dsimp only at hdl hll
      have hll8 : lv.length = lf.length := ints_length hlv
      refine len_list (items := lv.toArray) (N39.isList (.tail _ (.head _))) (by rw [List.size_toArray]; omega) ?_
      dsimp only
      have eL : ((lv.toArray.size : Nat) : Int) = ((lf.length : Nat) : Int) := by rw [List.size_toArray, hll8]
      rw [eL]
      have hpos : 0 < (lf.length : Int) := by omega
      k_steps
      obtain ⟨k, hk⟩ : ∃ k : Nat, k37.fmod (lf.length : Int) = (k : Int) := ⟨(k37.fmod (lf.length : Int)).toNat, by have := Int.fmod_nonneg_of_pos k37 hpos; omega⟩
      have hkl : k < lf.length := by have := Int.fmod_lt_of_pos k37 hpos; omega
      rw [hk]
      have neD : lD ≠ D30 := Nat.ne_of_gt l31.1
      have offD : ∀ p ∈ (s₁.heap.objs.size + 1 + 1, o2) :: (s₁.heap.objs.size + 1, oMany) :: own, p.1 ≠ D30 := by
        intro p hp
        rcases List.mem_cons.mp hp with rfl | hp
        · exact Nat.ne_of_lt (l30 _ (.head _))
        rcases List.mem_cons.mp hp with rfl | hp
        · exact Nat.ne_of_lt (l30 _ (.tail _ (.head _)))
        · exact ho' p hp _ (.tail _ (.head _))
      refine pop_int F39 N39 hlv hkl (by omega) (.tail neD (.head offD)) fun h40 t40 F40 N40 hlv' => ?_
      dsimp only
      clear F39 N39
      k_steps
      rename_i h41 F41 N41
      have hdv' := ints_snoc (lf.getD k 0) t40 hdv
      have eP : dv.toArray.push (Value.int (lf.getD k 0) t40) = (dv ++ [Value.int (lf.getD k 0) t40]).toArray := by simp
      rw [eP] at N41
      refine EndG.intro [(lD, W.listOf (dv ++ [Value.int (lf.getD k 0) t40]).toArray (cd + 1)), (D30, W.listOf (lv.take k ++ lv.drop (k + 1)).toArray (cl + 1)), (s₁.heap.objs.size + 1 + 1, o2), (s₁.heap.objs.size + 1, oMany)] F41 N41
        ⟨some (.int k37 t37), _, _, _, _, _, _, funext fun z => ?w1, rfl, hdv', hlv', reach_step hR hkl⟩ ?r1 ?r2 ?r3
      case w1 =>
        by_cases hz : z = Str.ofString "number"
        · rw [if_pos hz, if_pos hz]
        · rw [if_neg hz, if_neg hz, if_neg hz]
      case r1 => exact fun p hp => List.mem_append_left own hp
      case r2 => exact fun p hp => .tail _ (.tail _ (.tail _ (.tail _ hp)))
      case r3 => exact fun p hp q hq => Ne.symm (ho' q hq p.1 (List.mem_map_of_mem (f := fun x => x.1) hp))
    rintro m1 nx h37 tk37 ⟨x', dv, lv, cd, cl, dr, lf, rfl, rfl, hdv, hlv, hR⟩ F37 N37
    rw [hvN] at hR
    subst hm0
    have F38 : Fr s₁.heap s₁.heap.objs.size h37 _ := F37
    have N38 : News s₁.heap s₁.heap.objs.size h37 [(lD, W.listOf (List.toArray dv) cd), (D30, W.listOf (List.toArray lv) cl), (s₁.heap.objs.size + 1 + 1, o2), (s₁.heap.objs.size + 1, oMany)] := N37
    clear F37 N37 F35 N36 hl35 hn35 z35 hvT hvN hvI hvl
    dsimp only
    k_steps
    dsimp only
    w_top off
    refine Mine.wpS_execs_at 1 ?_
    dsimp only [List.take, List.drop]
    have OK := draw_ok (N := N) (by omega) (by omega) hR
    have hdl : dr.length = N := (reach_len hR).1
    have F39 := F38
    dsimp only at F39
    have N39 : News s₁.heap s₁.heap.objs.size h37 [(lD, W.listOf (List.toArray dv) cd), (s₁.heap.objs.size + 1 + 1, o2), (s₁.heap.objs.size + 1, oMany)] := newsSub N38 fun p hp => by
      rcases List.mem_cons.mp hp with rfl | hp
      · exact .head _
      · exact .tail _ (.tail _ hp)
    have nD : @LT.lt Nat _ (s₁.heap.objs.size + 1 + 1) lD ∧ @LT.lt Nat _ (s₁.heap.objs.size + 1) lD := l31.2
    clear N38 F38 l31 l30 hlv hR
    k_steps
    refine bytes_of_list F39 N39 (N39.isList (.head _)) hdv (fun n hn => by have := OK.dom n hn; omega) (by omega) (by rfl) fun b40 h40 t40 tk40 F40 N40 hb40 => ?_
    clear F39 N39
    k_steps
    rename_i h41 oO F41 N41 dO
    dsimp only
    clear d2
    w_top off
    refine Mine.wpS_execs_at 1 ?_
    dsimp only [List.take, List.drop]
    k_steps
    rename_i hI8 hL8 D42 h42 tk42 F42 N42 o42
    clear hL8
    change IntsAre _ (movedL N dr) at hI8
    refine bytes_of_list F42 N42 (N42.isList (.head _)) hI8 OK.mdom (by rw [OK.mlen]; omega) (by rfl) fun b43 h43 t43 tk43 F43 N43 hb43 => ?_
    clear F42 N42
    k_steps
    rename_i iR43 sT43 q1 q2 q3 q4 g44 h44 F44 N44
    clear iR43 sT43 hI8
    dsimp only
    have N45 := newsSub N44 fun p hp => List.Mem.tail _ hp
    clear N44
    rename_i z26 z25 z24 z23 z22 z20 z19 z18 z17 z16 z15 z14 z13 z12 z11 z10 z9 z8 z7 z6 z5 z4 z3 z2 z1
    revert w s₀ s₁ mg mb G Y fa o pm doc ho hg KX X V GL T z26 z25 z24 z23 z22 B0 ns hs0 hlay1 hlay2 hhas hl2 lS1 lS2 aS vS lS3 hS ra w1 r0 hI hrr h1 tk1 oFew oCh oOrd oM0 dFew h2 tkx tx h3 oMany z20 hc3 N h03 h04 tM dM B h4 tk4 t4 u4 v4 h5 t5 tk5 hlen h6 tk6 lO vO kO D0 hw oD z19 hz hy hx h7 z18 h8 tk8 t8 u8 v8 h9 tk9 x oL o2 v R rest cL dL loR oR xs hRm t10 h10 tk10 t11 h11 tk11 z17 h12 tk12 lC vC kC h14 o14 d14 z16 z15 z14 z13 z12 z11 g9 ysq D15 h15 tk15 ch hcl z10 tkB tB1 tB2 tB3 hkl g18 z9 D18 h18 tk18 h19 tk19 t19 h20 tkq lS h23 l23 t22 oRq xsq es' ep' D24 h24 l24 oR' xs' u25 tk25 z8 h26 tk26 t26 u26 v26 hr26 hsm hsz B' h27 tk27 oF v27 h29 tk29 t29 u29 v29 D30 us c30 h30 tk30 hus lD hA DT hB hC hD h31 z7 lQ h32 l32 h33 zV hzV hzI D34 h34 D35 h35 tV tN h37 tk37 x' dv lv cd cl dr lf hdv OK hdl nD b40 h40 t40 tk40 hb40 h41 oO dO z6 z5 z4 z3 z2 z1 q1 q2 q3 q4 g44 ys D42 h42 tk42 o42 b43 h43 t43 tk43 hb43 h44 F44 tk N45
    exact hP.out
set_option maxRecDepth 100000 in
set_option maxHeartbeats 200000000 in
theorem C16 : C12.1 := by
  intro w s₀ s₁ mg mb G Y fa o pm doc ho hg KX X V GL T _ _ _ _ _ B0 ns hs0 hlay1 hlay2 hhas hl2 lS1 lS2 aS vS lS3 hS ra w1 r0 hI hrr h1 tk1 oFew oCh oOrd oM0 dFew h2 tkx tx h3 oMany _ hc3 N h03 h04 tM dM B h4 tk4 t4 u4 v4 h5 t5 tk5 hlen h6 tk6 lO vO kO D0 hw oD _ hz hy hx h7 _ h8 tk8 t8 u8 v8 h9 tk9 x oL o2 v R rest cL dL loR oR xs hRm t10 h10 tk10 t11 h11 tk11 _ h12 tk12 lC vC kC h14 o14 d14 _ _ _ _ _ _ g9 ysq D15 h15 tk15 ch hcl _ tkB tB1 tB2 tB3 hkl g18 _ D18 h18 tk18 h19 tk19 t19 h20 tkq lS h23 l23 t22 oRq xsq es' ep' D24 h24 l24 oR' xs' u25 tk25 _ h26 tk26 t26 u26 v26 hr26 hsm hsz B' h27 tk27 oF v27 h29 tk29 t29 u29 v29 D30 us c30 h30 tk30 hus lD hA DT hB hC hD h31 _ lQ h32 l32 h33 zV hzV hzI D34 h34 D35 h35 tV tN h37 tk37 x' dv lv cd cl dr lf hdv OK hdl nD b40 h40 t40 tk40 hb40 h41 oO dO _ _ _ _ _ _ q1 q2 q3 q4 g44 ys D42 h42 tk42 o42 b43 h43 t43 tk43 hb43 h44 F44 tk N45
  w_top off
  refine Mine.wpS_execs_cons (Mine.wpS_If (Mine.wpS_or (Mine.wpS_of ?_)))
  have h3N : 3 ≤ N := by omega
  have h4N : N ≤ 4 := by omega
  have h1N : 1 ≤ N := by omega
  have hd8 : dr.length ≤ 8 := by rw [hdl]; exact Nat.le_trans h4N (by decide)
  have eM := OK.moved
  have hm4 : (movedL N dr).length = N := OK.mlen
  have hd4 : dr.length = N := hdl
  generalize movedL N dr = mv at hb43 hm4 eM
  k_steps
  rename_i t46 h46 tk46 F46 N46 st46 t47 h47 tk47 F47 N47 st47 e47
  clear F46 N46 st46 st47 e47 F44 N45
  refine Mine.wpS_or (Mine.wpS_Compare1 (Mine.wpS_Call ?_))
  k_steps
  refine Mine.wpS_callE (P := (Mine.hd.heap_39 w.params).In) (keeps_K (by k_is)) (Mine.wpS_of ?_)
  k_steps
  have SW1 : ∀ u, SwapP w b40 (swapAcc dr 1 (N * 1)) 1 t40 u := fun u => swap_call w b40 dr N 1 t40 u hb40 hd8 (Nat.le_refl 1) (by decide) h1N (by rw [hdl, Nat.mul_one])
  refine SW1 _ _ _ _ _ _ _ _ _ _ _ _ _ _ _ _ _ _ _ _ _ _ B F47 KX T rfl (by ktr_room) (by ktr_units) fun t48 h48 tk48 st48 => ?_
  have F48 := frStays (s := { s₁ with heap := h47 }) F47 st48
  have N48 := newsStays (s := { s₁ with heap := h47 }) N47 st48
  clear F47 N47 st48
  rw [Nat.mul_one, ints_inj ((OK.one).trans hb40.symm)]
  k_steps
  rename_i e48
  clear e48
  refine Mine.wpS_or (Mine.wpS_Compare1 (Mine.wpS_Call ?_))
  k_steps
  refine Mine.wpS_callE (P := (Mine.hd.heap_39 w.params).In) (keeps_K (by k_is)) (Mine.wpS_of ?_)
  k_steps
  have SW2 : ∀ u, SwapP w b40 (swapAcc dr N (1 * N)) (N : Int) t40 u := fun u => swap_call w b40 dr 1 N t40 u hb40 hd8 h1N h4N (Nat.le_refl 1) (by rw [hdl, Nat.one_mul])
  refine SW2 _ _ _ _ _ _ _ _ _ _ _ _ _ _ _ _ _ _ _ _ _ _ B F48 KX T rfl (by ktr_room) (by ktr_units) fun t49 h49 tk49 st49 => ?_
  have F49 := frStays (s := { s₁ with heap := h48 }) F48 st49
  have N49 := newsStays (s := { s₁ with heap := h48 }) N48 st49
  clear F48 N48 st49
  k_steps
  rename_i D50 ws50 h50 F50 N50 hI50 hC50 l50
  have hrv : dr.reverse.length = N := by rw [hC50]; omega
  refine bytes_of_list F50 N50 (N50.isList (.head _)) hI50 (fun n hn => by have := OK.dom n (List.mem_reverse.mp hn); omega) (by omega) (by rfl) fun b51 h51 t51 tk51 F51 N51 hb51 => ?_
  clear F50 N50
  rw [Nat.one_mul, ints_inj ((OK.all).trans hb51.symm)]
  k_steps
  rename_i e51
  have N52 := newsSub N51 fun p hp => List.Mem.tail _ hp
  clear e51 N51 l50 hI50
  refine Mine.wpS_of (wpAny_of_eq (a := false) rfl ?_)
  dsimp only
  k_steps
  w_top off
  dsimp only
  refine Mine.wpS_execs_cons (Mine.wpS_Assign_Name (Mine.wpS_Call ?_))
  k_steps
  refine Mine.wpS_callE (P := (Mine.hd.heap_39 w.params).In) (keeps_K (by k_is)) (Mine.wpS_of ?_)
  k_steps
  rename_i t53 k53 hb53
  have SW3 : ∀ t u, SwapP w (b40 ++ b40) (swapAcc (dr ++ dr) N (2 * N)) (N : Int) t u := fun t u => swap_call w (b40 ++ b40) (dr ++ dr) 2 N t u hb53 (by rw [List.length_append, hdl]; exact Nat.add_le_add h4N h4N) h1N h4N (by decide) (by rw [List.length_append, hdl, Nat.two_mul])
  refine SW3 _ _ _ _ _ _ _ _ _ _ _ _ _ _ _ _ _ _ _ _ _ _ _ B F51 KX T rfl (by ktr_room) (by ktr_units) fun t54 h54 tk54 st54 => ?_
  have F54 := frStays (s := { s₁ with heap := h51 }) F51 st54
  have N54 := newsStays (s := { s₁ with heap := h51 }) N52 st54
  clear F51 N52 st54
  k_steps
  rename_i h55 F55 N55
  refine Mine.wpS_execs_at 1 ?_
  dsimp only [List.take, List.drop]
  k_steps
  rename_i D56 ws56 h56 F56 N56 hI56 l56
  have hrr : (dr.reverse ++ dr.reverse).length ≤ 8 := by rw [List.length_append]; omega
  refine bytes_of_list F56 N56 (N56.isList (.head _)) hI56 (fun n hn => by
    have hn' : n ∈ dr := by rcases List.mem_append.mp hn with h | h <;> exact List.mem_reverse.mp h
    have := OK.dom n hn'
    omega) hrr (by rfl) fun b57 h57 t57 tk57 F57 N57 hb57 => ?_
  clear F56 N56
  have e57 : swapAcc (dr ++ dr) N (2 * N) = b57 := ints_inj ((OK.both).trans hb57.symm)
  rw [e57] at F57
  k_steps
  rename_i e58
  have N58 := newsSub N57 (news' := [(lD, W.listOf (List.toArray dv) cd), (s₁.heap.objs.size + 1 + 1, oO), (s₁.heap.objs.size + 1, oMany)]) fun p hp => .tail _ (.tail _ (.tail _ hp))
  clear e58 N57
  dsimp only
  w_top off
  refine Mine.wpS_execs_cons (Mine.wpS_Assign_Name (Mine.wpS_Call ?_))
  k_steps
  refine Mine.wpS_callE (P := fun _ => True) (keeps_type (T := "bytes")) (Mine.wpS_spliced1 ?_)
  refine Mine.wpS_ListComp_bytes F57 (by rfl) (by decide) (by rfl) (by decide) (by rfl) (Mine.wpS_Call ?_)
  k_steps
  refine Mine.wpS_callE (P := (Mine.hd.heap_39 w.params).In) (keeps_K (by k_is)) (Mine.wpS_of ?_)
  k_steps
  have SW2 : ∀ u, SwapP w b40 (swapAcc dr N (1 * N)) (N : Int) t40 u := fun u => swap_call w b40 dr 1 N t40 u hb40 hd8 h1N h4N (Nat.le_refl 1) (by rw [hdl, Nat.one_mul])
  refine SW2 _ _ _ _ _ _ _ _ _ _ _ _ _ _ _ _ _ _ _ _ _ _ B F57 KX T rfl (by ktr_room) (by ktr_units) fun t59 h59 tk59 st59 => ?_
  have F59 := frStays (s := { s₁ with heap := h57 }) F57 st59
  have N59 := newsStays (s := { s₁ with heap := h57 }) N58 st59
  clear F57 N58 st59
  rw [Nat.one_mul, ints_inj ((OK.all).trans hb51.symm)]
  have hz51 : b51.size = N := by rw [← KBw.ints_length, hb51, hrv]
  have ht51 : (turnedL N dr.reverse).length = N := (turned_len N _).trans hrv
  refine ⟨b51, t59, _, rfl, rfl, F59, N59, Nat.le_trans (show b51.size ≤ 8 by omega) (by decide), ?_⟩
  rintro s60 ⟨g60, rfl⟩
  dsimp only
  refine compRest_list (n := b51.size) (fun j ys => IntsAre ys ((turnedL N dr.reverse).take j)) ?turn ?fin _ 0 [] (by rw [Nat.add_zero]) .nil
  case turn =>
    rintro i v ys I oI C oC D m₂ h61 tk61 E' hi ⟨c, u, hc, rfl⟩ hK hC hx F61 N61 off61 ne61
    have hg : dr.reverse[i]? = some (c.toNat : Int) := by rw [← hb51]; exact KBw.ints_get hc
    have hT := turned_take (N := N) hg
    generalize ((c.toNat : Nat) : Int) = k at hx hg hT
    clear F59 N59
    k_steps
    exact LCg.CompEnd.intro F61 N61 _ (fun p hp => hp) off61 trivial ⟨rfl, by rw [hT]; exact ints_snoc _ _ hK⟩
  case fin =>
    intro ys hys
    rw [hz51, List.take_of_length_le (by omega)] at hys
    clear F59 N59
    intro D62 h62 tk62 F62 N62 o62
    refine ⟨trivial, Mine.wpS_of ?_⟩
    refine bytes_of_list F62 N62 (N62.isList (.head _)) hys (turned_in h3N h4N _) (by omega) (by rfl) fun b63 h63 t63 tk63 F63 N63 hb63 => ?_
    clear F62 N62
    k_steps
    refine Mine.wpS_execs_at 1 ?_
    dsimp only [List.take, List.drop]
    have hb64 : hitsI (turnedL N dr.reverse) = hitsI dr := OK.turned
    have hm64 : (turnedL N dr.reverse).length = N := ht51
    generalize turnedL N dr.reverse = tu at hb63 hb64 hm64
    k_steps
end Mine
theorem PySem.Challenge.cw_id0001_01_holds : PySem.Challenge.rw_id0001_01.Holds := by
  exact Mine.C1.2 ⟨Mine.C4.2 ⟨Mine.C9.2 ⟨Mine.C12.2 ⟨Mine.C16⟩⟩⟩⟩

