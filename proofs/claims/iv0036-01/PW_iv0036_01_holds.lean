import PyProof.Rows.All
import Wide.All
import OpenK.AllK
import Wide.FinOn
import Lean
import PySem.Challenge.RW_iv0036_01
open PySem PySem.W PySem.Calls PyProof.Rows
set_option Elab.async false
set_option maxRecDepth 100000
namespace Mine

/-- a code that may hold a bytearray's buffer while it stands on the stack -/
def badCode : Code → Bool
  | .builtin id _ => guardIds.contains id || Builtin.Bytes.decodersThatHold.contains id
  | _ => false
def CleanB (Γ : Ctx) : Prop := ∀ x ∈ Γ.below, badCode x.1 = false
def Clean (Γ : Ctx) : Prop := badCode Γ.code = false ∧ CleanB Γ

/-- wpAny, of the clean contexts alone -/
def wpN {α : Type} (M : Model) (A : Around) (t : Sem α) (Q : α → Shared → Prop) (E : Value → Shared → Prop) (s : Shared) : Prop :=
  ∀ Γ p, Γ.In A → Clean Γ → Sem.wp M Γ t (fun a _ s' => Q a s') (fun e _ s' => E e s') p s
def codeN (M : Model) (A : Around) (c : Code) (R : Result → Shared → Prop) (s : Shared) : Prop :=
  ∀ Γ p, Γ.code = c → Γ.Below A → CleanB Γ → wpCode M Γ R p s

section
variable {α β : Type} {M : Model} {A : Around} {E : Value → Shared → Prop} {s : Shared}

theorem N_any {t : Sem α} {Q : α → Shared → Prop} (h : wpAny M A t Q E s) : wpN M A t Q E s := fun Γ p hΓ _ => h Γ p hΓ
theorem codeN_any {c : Code} {R : Result → Shared → Prop} (h : codeAny M A c R s) : codeN M A c R s := fun Γ p hc hΓ _ => h Γ p hc hΓ
theorem N_mono {t : Sem α} {Q Q' : α → Shared → Prop} {E' : Value → Shared → Prop} (h : wpN M A t Q E s)
    (hQ : ∀ a s, Q a s → Q' a s) (hE : ∀ e s, E e s → E' e s) : wpN M A t Q' E' s :=
  fun Γ p hΓ hc => Sem.wp_mono M Γ t (fun a _ s => hQ a s) (fun e _ s => hE e s) p s (h Γ p hΓ hc)
theorem N_bind {m : Sem α} {f : α → Sem β} {Q : β → Shared → Prop} (h : wpN M A m (fun a s' => wpN M A (f a) Q E s') E s) :
    wpN M A (m >>= f) Q E s := fun Γ p hΓ hc => by
  rw [Sem.wp_bind']
  exact Sem.wp_mono M Γ m (fun a p' s' h' => h' Γ p' hΓ hc) (fun _ _ _ h' => h') p s (h Γ p hΓ hc)
theorem N_pre {m : Sem α} {f : α → Sem β} {Q : β → Shared → Prop} (h : wpAny M A m (fun a s' => wpN M A (f a) Q E s') E s) :
    wpN M A (m >>= f) Q E s := N_bind (N_any h)
theorem N_pure {a : α} {Q : α → Shared → Prop} (h : Q a s) : wpN M A (pure a) Q E s := fun _ _ _ _ => h
theorem N_holding {vs : List Value} {m : Sem α} {Q : α → Shared → Prop} (h : wpN M A m Q E s) : wpN M A (holding vs m) Q E s :=
  fun Γ p hΓ hc => by rw [Sem.wp_holding]; exact h Γ p hΓ hc
theorem N_keep {vs : List Value} {m : Sem α} {Q : α → Shared → Prop} (h : wpN M A m Q E s) : wpN M A (m.keep vs) Q E s :=
  fun Γ p hΓ hc => by rw [Sem.wp_keep]; exact h Γ p hΓ hc
theorem N_onRaise {m : Sem α} {k : Value → Sem Unit} {Q : α → Shared → Prop}
    (h : wpN M A m Q (fun e s' => wpN M A (k e) (fun _ s'' => E e s'') E s') s) : wpN M A (m.onRaise k) Q E s := fun Γ p hΓ hc => by
  rw [Sem.wp_onRaise]
  exact Sem.wp_mono M Γ m (fun _ _ _ h' => h') (fun e p' s' h' => h' Γ p' hΓ hc) p s (h Γ p hΓ hc)
theorem N_iteF {c : Bool} {a b : Sem α} {Q : α → Shared → Prop} (hc : c = false) (h : wpN M A b Q E s) : wpN M A (if c = true then a else b) Q E s := by
  subst hc; exact h
theorem N_iteT {c : Bool} {a b : Sem α} {Q : α → Shared → Prop} (hc : c = true) (h : wpN M A a Q E s) : wpN M A (if c = true then a else b) Q E s := by
  subst hc; exact h

theorem codeN_mono {c : Code} {R R' : Result → Shared → Prop} (h : codeN M A c R s) (hR : ∀ r s, R r s → R' r s) : codeN M A c R' s :=
  fun Γ p hc hΓ hb => wpCode_mono hR (h Γ p hc hΓ hb)

/-- what a code's tree may come to: an end, or the next code -/
def finN (M : Model) (A : Around) (R : Result → Shared → Prop) (fin : Fin) (s' : Shared) : Prop :=
  match fin with
  | .done f => R (.ok f) s'
  | .again c' => c'.quiet = true ∧ codeN M A c' R s'
theorem codeN_tree {c : Code} {R : Result → Shared → Prop} (hb : badCode c = false)
    (h : wpN M (A.under c) (M.den c) (finN M A R) (fun e s' => R (.error e) s') s) : codeN M A c R s := fun Γ p hc hΓ hcl => by
  rw [wpCode_iff_wp, hc]
  refine Sem.wp_mono M Γ _ (fun fin p' s' h' => ?_) (fun _ _ _ h' => h') p s (h Γ p (hc ▸ hΓ.in) ⟨by rw [hc]; exact hb, hcl⟩)
  cases fin with
  | done f => exact h'
  | again c' => exact ⟨h'.1, h'.2 (Γ.goto c') p' rfl (hΓ.goto c') hcl⟩
theorem enter_clean {Γ : Ctx} (h : Clean Γ) (c : Code) (hd : Option Value) (p : Pos) : CleanB (Γ.enter c hd p) := by
  intro x hx
  rcases List.mem_cons.mp hx with rfl | hx
  · exact h.1
  · exact h.2 x hx
theorem N_run {c : Code} {h : Option Value} {Q : Flow → Shared → Prop}
    (hc : codeN M (A.mark h) c (fun r s' => match r with | .ok f => Q f s' | .error e => E e s') s) (hnb : h ≠ some byPass := by intro x; cases x) :
    wpN M A (run c h) Q E s := fun Γ p hΓ hcl => by rw [Sem.wp_run]; exact hc _ p rfl (hΓ.enter c h p hnb) (enter_clean hcl c h p)
theorem N_runValue {c : Code} {Q : Value → Shared → Prop}
    (hc : codeN M A c (fun r s' => match r with | .ok (.ret v) => Q v s' | .ok _ => False | .error e => E e s') s) :
    wpN M A (runValue c) Q E s := fun Γ p hΓ hcl => by rw [Sem.wp_runValue]; exact hc _ p rfl (hΓ.enter c none p (by intro x; cases x)) (enter_clean hcl c none p)
theorem N_call {f : Value} {pos : List Value} {kw : List (Str × Value)} {Q : Value → Shared → Prop}
    (hc : codeN M A (.call f ⟨pos, kw⟩) (fun r s' => match r with | .ok (.ret v) => Q v s' | .ok _ => False | .error e => E e s') s) :
    wpN M A (call f pos kw) Q E s := N_runValue hc

theorem N_exported {self : Value} {Q : Bool → Shared → Prop} (h : Q false s) : wpN M A (Builtin.Bytes.exported self) Q E s := fun Γ p hΓ hcl => by
  unfold Builtin.Bytes.exported
  show Sem.wp M Γ (stack >>= fun l => pure (l.any _)) _ _ p s
  rw [Sem.wp_bind']
  unfold stack
  rw [Sem.wp_stack]
  simp only [Sem.wp_pure, Sem.wp_pure']
  rw [List.any_eq_false.mpr (fun x hx => by
    have hb : badCode x.1 = false := by
      rcases List.mem_cons.mp hx with rfl | hx
      · exact hcl.1
      · exact hcl.2 x hx
    split
    all_goals first
      | exact Bool.false_ne_true
      | (rename_i hid
         have h2 : Builtin.Bytes.decodersThatHold.contains _ = false := (Bool.or_eq_false_iff.mp hb).2
         rw [h2, Bool.and_false]
         exact Bool.false_ne_true)
      | (exact absurd hb (by simp [badCode, guardIds])))]
  exact h
end
end Mine

open PySem PySem.W PySem.Calls PyProof.Rows
set_option Elab.async false
set_option maxRecDepth 100000
namespace Mine

theorem caller_clean : Clean ⟨.builtin "claim.caller" {}, none, none, [], none⟩ :=
  ⟨by show (guardIds.contains "claim.caller" || Builtin.Bytes.decodersThatHold.contains "claim.caller") = false; decide +kernel, fun _ hx => nomatch hx⟩

theorem thread_ends_clean {prog : Program} {w : World} {t : Sem Fin} {s : Shared} {R : Result → Shared → Prop} (hreg : s.asleep)
    (h : wpN (model prog w) callerA t (fun fin s' => ∃ f, fin = .done f ∧ (R (.ok f) s' ∧ leftWithCleanup s'.gens = false)) (fun e s' => R (.error e) s' ∧ leftWithCleanup s'.gens = false) s) :
    ∃ n r s' s'', runN (denote table) prog w n s ⟨t, .builtin "claim.caller" {}, default, []⟩ = .halted (outcomeOf r) s' ∧
      schedN (denote table) prog w n (.single s ⟨t, .builtin "claim.caller" {}, default, []⟩) = .halted (outcomeOf r) s' ∧ s'.forget = s''.forget ∧ R r s'' := by
  obtain ⟨n, r, s₁, s₂, hs, hn, hfo, hR⟩ := wp_halts_full (M := model prog w) (R := R) hreg
    (Sem.wp_mono _ _ t (fun fin p' s' h' => by obtain ⟨f, rfl, hf⟩ := h'; exact hf) (fun _ _ _ h' => h') default s (h _ default caller_in caller_clean))
  exact ⟨n, r, s₂, s₁, hn, hs, hfo, hR⟩

theorem callFrom_clean {c : ClaimW} {tree : List Value → Sem Fin} {w : World} {s : Shared} {free : Addr → Prop} {gens : Prop} {kept : Heap → Prop} (hz : s.asleep) (hgens : s.gens = #[])
    (hspec : ∀ args, c.pre args = true → WData.layableAll args = true →
      ∀ ord : List DictEntry → List DictEntry, (∀ l, (ord l).Perm l) →
      ∃ vs s₁, layAllW c.records (classAt s.heap) w.params ord args s = some (vs, s₁) ∧
        wpN (model c.prog w) callerA (tree vs) (fun fin s' => ∃ f, fin = .done f ∧ (c.Ends s args vs s₁ (.ok f) s' ∧ s'.os = s.os ∧ AllBare s'.gens ∧ kept s'.heap))
          (fun e s' => c.Ends s args vs s₁ (.error e) s' ∧ s'.os = s.os ∧ AllBare s'.gens ∧ kept s'.heap) s₁) :
    c.CallFrom (fun vs => ⟨tree vs, .builtin "claim.caller" {}, default, []⟩) w free gens kept s := by
  intro args hpre hlay ord hord
  obtain ⟨vs, s₁, hlaid, hcode⟩ := hspec args hpre hlay ord hord
  have hal := layAllW_rest _ _ _ hlaid
  obtain ⟨k, r, s', s'', hrun, hsched, hfo, hcase, hos, hkp⟩ := thread_ends_clean (prog := c.prog) (w := w) (t := tree vs) (s := s₁)
    (R := fun r s' => c.Ends s args vs s₁ r s' ∧ s'.os = s.os ∧ kept s'.heap)
    (Shared.asleep_of_life hal.2.2.2 hz)
    (N_mono hcode (by
      rintro fin s' ⟨f, e, h1, h2, h3, h4⟩
      exact ⟨f, e, ⟨h1, h2, h4⟩, leftWithCleanup_false_of_bare h3⟩) (by
      rintro e s' ⟨h1, h2, h3, h4⟩
      exact ⟨⟨h1, h2, h4⟩, leftWithCleanup_false_of_bare h3⟩))
  obtain ⟨eh, _, _, eo, _⟩ := Shared.forget_eq hfo
  have hcase := hcase.congr eh
  have hkp : kept s'.heap := by first | exact eh ▸ hkp | (rw [eh] at hkp; exact hkp) | (rw [← eh] at hkp; exact hkp)
  rw [← eo] at hos
  have hlife : s'.heap.life = s.heap.life := (runN_life _ _ _ hrun).trans hal.2.2.2
  refine ⟨vs, s₁, hlaid, k, _, s', hsched, ?_, (fun _ i x hx => by rw [hgens] at hx; simp at hx), hkp, by rw [hlife], Shared.rest_eq hos⟩
  rcases hcase with ⟨v, rfl, d1, d2, d3, d4, d5⟩ | ⟨e, ob, cls, rfl, d1, d2, d3, d4, d5⟩
  · exact .inl ⟨v, rfl, d1, d2, d3, fun b o y _ => d4 b o y, d5⟩
  · exact .inr ⟨e, ob, cls, rfl, d1, d2, d3, d4, fun b o y _ => d5 b o y⟩

theorem open_clean {r : RowW} {run : Value → List Value → Sem Value} {tree : List Value → Sem Fin} {q : Program} {loose defs kps : List Str} {writes : Bool} {Xt : Shared → Bool} {XP : (Str → Option Value) → Heap → Prop} {α : Type} {Yf : Shared → α} {Ya : World → α} {YP : World → Heap → Prop} {N : Nat}
    (left : LeftO r.prog q loose Xt Yf Ya N) (hY : ∀ w s, Yf s = Ya w → YP w s.heap) (hYk : ∀ w h h', YP w h → (∀ b o, h.get? b = some o → h'.get? b = some o) → YP w h') (hX : ∀ s, Xt s = true → XP (s.heap.nsMap mainGlobals) s.heap) (hXk : ∀ mg h h', XP mg h → (∀ b o, h.get? b = some o → h'.get? b = some o) → XP mg h')
    (hRf : ∀ s, Xt s = true → RecFacts r.records s.heap) (hwr : (!writes || r.records.isEmpty) = true) (ok : (chainsOk q && opensWell r.prog && (frees r && r.within.isEmpty)) = true) (hb : r.prog.bare) (hw : r.promised)
    (ht : ∀ vs (w : World) (s : Shared) mg f (Q : Fin → Shared → Prop) (E : Value → Shared → Prop), s.heap.Ns mainGlobals mg → mg r.name = some f → wpN (model r.prog w) callerA (run f vs) (fun v s' => Q (.done (.ret v)) s') E s → wpN (model r.prog w) callerA (tree vs) Q E s)
    (pin : ∀ w s, s.heap.isNs mainGlobals = true → Ground q loose [] XP w s (s.heap.nsMap mainGlobals) (s.heap.nsMap builtinsNs) s.heap → ∀ n ∈ defs, isTheDefsW r.prog s.heap n)
    (call : ∀ (w : World) (s₀ s₁ : Shared) (mg mb : Str → Option Value), Ground q loose r.records XP w s₀ mg mb s₁.heap → YP w s₁.heap → ∀ (args : List WData) (vs : List Value) (as : List Addr),
      r.claim.pre args = true → WData.layableAll args = true → Laid r.records w s₀ s₁ args vs as → sysModules < s₀.heap.objs.size → ∃ f, mg r.name = some f ∧
        wpN (model r.prog w) callerA (run f vs) (fun v s' => GoodWG r.claim (classAt s₀.heap) (ExcName.means s₀.heap) args s₁ (.ok (.ret v)) s')
          (fun e s' => GoodWG r.claim (classAt s₀.heap) (ExcName.means s₀.heap) args s₁ (.error e) s') s₁) : r.claim.HoldsOpenBy (fun vs => ⟨tree vs, .builtin "claim.caller" {}, default, []⟩) defs kps writes := by
  obtain ⟨ok, k5⟩ := Bool.and_eq_true_iff.mp ok
  obtain ⟨hch, o1⟩ := Bool.and_eq_true_iff.mp ok
  obtain ⟨k5, k6⟩ := Bool.and_eq_true_iff.mp k5
  obtain ⟨hsame, hu, ha, hap, hm⟩ := frees_parts k5
  refine ⟨⟨hb, o1, by show r.makers.map _ = []; rw [hm]; rfl⟩, hw.witness, fun w => ⟨(left.behind hX hch w).1, fun s' hs' => ?_⟩⟩
  obtain ⟨s₀, hf, hg0, s, hT, hz, hgens, hg, G00, y⟩ := (left.behind (XP := fun mg h => XP mg h ∧ RecFacts r.records h) (fun s hs => ⟨hX s hs, hRf s hs⟩) hch w).2 s' hs'
  have G0 : Ground q loose [] XP w s (s.heap.nsMap mainGlobals) (s.heap.nsMap builtinsNs) s.heap := ⟨G00.T, G00.B, G00.D, G00.TE, G00.TD, G00.W, G00.X.1, G00.cls, G00.has, G00.apart, G00.once, G00.K⟩
  have RF := G00.X.2
  have hT' := hT
  refine ⟨s₀, hf, hg0, s, hT, pin w s hg G0, RF.1, RF.2.1, ?_⟩
  have hgens : s.gens = #[] := Array.eq_empty_of_size_eq_zero (beq_iff_eq.mp hgens)
  have G : Ground q loose r.records XP w s _ _ s.heap := RF.ground G0
  refine callFrom_clean (c := r.claim) hz hgens fun args hpre hlay ord hord => ?_
  obtain ⟨⟨vs, s₁⟩, hlaid⟩ := Option.isSome_iff_exists.mp (layAllW_isSome (P := w.params) (ord := ord) G.has args r.args s (pre_splitW hpre).1)
  have keeps := layAllW_keeps _ _ _ hlaid
  have hal := layAllW_rest _ _ _ hlaid
  obtain ⟨as, hrd, hin, hold⟩ := reads_layAllW hord _ _ _ hlaid hlay s₁.heap (fun _ _ e => e)
  have L : Laid r.records w s s₁ args vs as := ⟨⟨ord, hord, hlaid⟩, hrd, hin, hold, keeps, hal.1.trans hgens, hal.2.2.1⟩
  have G₁ := G.keeps hXk keeps
  obtain ⟨f, hf, h⟩ := call w s s₁ _ _ G₁ (hYk _ _ _ (hY w s y) keeps) args vs as hpre hlay L G.low
  have hi := ident_freeW hu ha hap
  have hwi : r.claim.within = [] := List.isEmpty_iff.mp k6
  exact ⟨vs, s₁, hlaid, ht vs w s₁ _ f _ _ G₁.T.g hf (N_mono h (fun v s' g => ⟨_, rfl, have z := g.laid (c := r.claim) hsame hwi hi L; ⟨z.1, z.2.1, z.2.2, fun q => ⟨namesKept_of hT' hg kps keeps g.2.1.old, noTable hwr q⟩⟩⟩) fun e s' g => have z := g.laid (c := r.claim) hsame hwi hi L; ⟨z.1, z.2.1, z.2.2, fun q => ⟨namesKept_of hT' hg kps keeps g.2.1.old, noTable hwr q⟩⟩)⟩

abbrev WalkC (q : Program) (loose : List Str) (XP : (Str → Option Value) → Heap → Prop) (YP : World → Heap → Prop) (r : RowW) (d : DefRec) (kwd : List (Str × Expr)) (run : Value → List Value → Sem Value) : Prop :=
  ∀ (w : World) (s₀ s₁ : Shared) (mg mb : Str → Option Value), Ground q loose r.records XP w s₀ mg mb s₁.heap → YP w s₁.heap → ∀ (a : Addr) (o : Obj) (pm cd doc dV kV : Value), s₁.heap.get? a = some o →
    o.data = .func { docDef d.name d.params d.body d.scope pm cd doc with defaults := dV, kwdefaults := kV } → s₁.heap.CodeRec cd d.name → Dflts mg s₁.heap d.params kwd dV kV → mg d.name = some (.ref a) → s₁.gens = #[] →
    ∀ (args : List WData) (vals : List Value) (as : List Addr), r.claim.pre args = true → WData.layableAll args = true → ReadsAllW r.records (classAt s₀.heap) s₁.heap vals args as → WellAll w.params s₁.heap vals args → (∀ a ∈ as, (a == sysModules) = false) →
      wpN (model r.prog w) callerA (run (.ref a) vals) (fun v s' => GoodWG r.claim (classAt s₀.heap) (ExcName.means s₀.heap) args s₁ (.ok (.ret v)) s')
        (fun e s' => GoodWG r.claim (classAt s₀.heap) (ExcName.means s₀.heap) args s₁ (.error e) s') s₁

theorem PySem.W.holds_open {r : OpenRow} {q : Program} {loose : List Str} {Xt : Shared → Bool} {XP : (Str → Option Value) → Heap → Prop} {α : Type} {Yf : Shared → α} {Ya : World → α} {YP : World → Heap → Prop} {d : DefRec} {kwd : List (Str × Expr)} {N : Nat}
    (left : LeftO r.prog q loose Xt Yf Ya N) (hY : ∀ w s, Yf s = Ya w → YP w s.heap) (hYk : ∀ w h h', YP w h → (∀ b o, h.get? b = some o → h'.get? b = some o) → YP w h')
    (hX : ∀ s, Xt s = true → XP (s.heap.nsMap mainGlobals) s.heap) (hXk : ∀ mg h h', XP mg h → (∀ b o, h.get? b = some o → h'.get? b = some o) → XP mg h')
    (hdef : defOf q r.name = some (d, kwd)) (hp : r.prog.theDef r.name = some (d.params, d.body, d.scope)) (hk : kwWritten? d.params.kwonlyargs d.params.kw_defaults = some kwd) (hRf : ∀ s, Xt s = true → RecFacts r.records s.heap) (hwr : (!r.writes || r.records.isEmpty) = true)
    (k1 : r.wellSaid = true) (ok : (chainsOk q && opensWell r.prog && (frees r.toRowW && r.within.isEmpty)) = true) (hb : r.prog.bare) (hw : r.toRowW.promised)
    (call : WalkC q loose XP YP r.toRowW d kwd fun f vs => PySem.call f vs) : r.Holds := by
  refine ⟨k1, hw, open_clean (r := r.toRowW) (run := fun f vs => PySem.call f vs) (tree := fun vs => do match ← nsGet mainNs r.name with
      | some f => do ret (← PySem.call f vs)
      | none => unsupported "claim.caller:no-such-global") left hY hYk hX hXk hRf hwr ok hb hw
    (fun vs w s mg f Q E hg hf h => N_pre (wpAny_nsGet hg (by rw [hf]; exact N_bind (N_mono h (fun _ _ x => N_pure x) fun _ _ x => x))))
    (fun w s hg G n hn => ?_) fun w s₀ s₁ mg mb G Y args vs as hpre hlay L low => ?_⟩
  · obtain rfl : n = r.name := by split at hn <;> simp_all
    exact pinned_of_view hg G hdef hp hk
  · obtain ⟨a, o, pm, cd, doc, dV, kV, h1, h2, h3, h4, h5⟩ := G.fn hdef
    exact ⟨.ref a, h1, call w s₀ s₁ mg mb G Y a o pm cd doc dV kV h2 h3 h4 h5 (defOf_name hdef ▸ h1) L.gens args vs as hpre hlay L.reads L.well (L.low low)⟩
end Mine

open PySem PySem.W PyProof.Rows
set_option Elab.async false
namespace Mine
set_option maxRecDepth 100000 in
set_option maxHeartbeats 8000000 in
open_top hd for PySem.Challenge.rw_iv0036_01
end Mine

open PySem PySem.W PySem.Calls PyProof.Rows
set_option Elab.async false
set_option maxRecDepth 100000
namespace Mine

abbrev baObj (b : Array UInt8) : Obj := { cls := .type "bytearray", data := .bytearray b }

theorem look_ba_buffer : typeLookup (.type "bytearray") "__buffer__" = pure (some (.builtin "bytearray.__buffer__")) := by rw [typeLookup_type, builtinLookup_eq_fast]; kernel_rfl
theorem look_ba_release : typeLookup (.type "bytearray") "__release_buffer__" = pure (some (.builtin "bytearray.__release_buffer__")) := by rw [typeLookup_type, builtinLookup_eq_fast]; kernel_rfl
theorem look_ba_index : typeLookup (.type "bytearray") "__index__" = pure none := by rw [typeLookup_type, builtinLookup_eq_fast]; kernel_rfl
theorem look_ba_bytes : typeLookup (.type "bytearray") "__bytes__" = pure none := by rw [typeLookup_type, builtinLookup_eq_fast]; kernel_rfl
theorem look_bytes_index : typeLookup (.type "bytes") "__index__" = pure none := by rw [typeLookup_type, builtinLookup_eq_fast]; kernel_rfl
theorem sub_ba : isSubtype (.type "bytearray") (.type "bytearray") = pure true := by rw [isSubtype_type]; kernel_rfl

section
variable {M : Model} {A : Around} {E : Value → Shared → Prop} {s : Shared} {a : Addr} {b : Array UInt8}
theorem typeIs_ba (h : s.heap.get? a = some (baObj b)) : s.TypeIs (.ref a) "bytearray" := ⟨_, h, rfl⟩
theorem iteF {α : Type} {c : Bool} {x y : Sem α} {Q : α → Shared → Prop} (hc : c = false) (h : wpAny M A y Q E s) : wpAny M A (if c = true then x else y) Q E s := by
  subst hc; exact h
theorem iteT {α : Type} {c : Bool} {x y : Sem α} {Q : α → Shared → Prop} (hc : c = true) (h : wpAny M A x Q E s) : wpAny M A (if c = true then x else y) Q E s := by
  subst hc; exact h
theorem payload_ba {Q : Array UInt8 → Shared → Prop} (h : s.heap.get? a = some (baObj b)) (hQ : Q b s) : wpAny M A (Builtin.Bytes.payload (.ref a)) Q E s := by
  unfold Builtin.Bytes.payload Builtin.Bytes.payload?
  exact wpAny_bind (wpAny_bind (wpAny_load h (wpAny_pure (wpAny_pure hQ))))
theorem slotOwn_buffer {Q : Bool → Shared → Prop} (h : s.heap.get? a = some (baObj b)) (hQ : Q true s) : wpAny M A (Builtin.Bytes.slotIsOwn (.ref a) "__buffer__") Q E s := by
  unfold Builtin.Bytes.slotIsOwn
  refine wpAny_bind (wpAny_specialOf (typeIs_ba h) look_ba_buffer ?_)
  refine iteF (by decide +kernel) ?_
  rw [show (String.dropRight "bytearray.__buffer__" (String.length "__buffer__" + 1)) = "bytearray" by decide +kernel]
  exact wpAny_isInstance (typeIs_ba h) sub_ba hQ
theorem slotOwn_release {Q : Bool → Shared → Prop} (h : s.heap.get? a = some (baObj b)) (hQ : Q true s) : wpAny M A (Builtin.Bytes.slotIsOwn (.ref a) "__release_buffer__") Q E s := by
  unfold Builtin.Bytes.slotIsOwn
  refine wpAny_bind (wpAny_specialOf (typeIs_ba h) look_ba_release ?_)
  refine iteF (by decide +kernel) ?_
  rw [show (String.dropRight "bytearray.__release_buffer__" (String.length "__release_buffer__" + 1)) = "bytearray" by decide +kernel]
  exact wpAny_isInstance (typeIs_ba h) sub_ba hQ
theorem ownRelease_ba {Q : Bool → Shared → Prop} (h : s.heap.get? a = some (baObj b)) (hQ : Q false s) : wpAny M A (Builtin.Bytes.ownRelease (.ref a)) Q E s := by
  unfold Builtin.Bytes.ownRelease
  exact wpAny_bind (slotOwn_release h (wpAny_pure hQ))
theorem buffer_ba {id : String} {full : Bool} {Q : Option (Array UInt8) → Shared → Prop} (h : s.heap.get? a = some (baObj b)) (hQ : Q (some b) s) :
    wpAny M A (Builtin.Bytes.buffer? id (.ref a) full) Q E s := by
  unfold Builtin.Bytes.buffer?
  refine wpAny_bind (wpAny_specialOf (typeIs_ba h) look_ba_buffer ?_)
  refine wpAny_bind (slotOwn_buffer h ?_)
  refine iteF rfl ?_
  refine wpAny_bind (wpAny_specialOf (typeIs_ba h) look_ba_buffer ?_)
  refine wpAny_bind (ownRelease_ba h ?_)
  refine iteF rfl ?_
  exact wpAny_bind (payload_ba h (wpAny_pure hQ))
theorem takeBuffer_ba {id : String} {fl : Int} {Q : Option (Array UInt8 × Option Value) → Shared → Prop} (h : s.heap.get? a = some (baObj b)) (hQ : Q (some (b, none)) s) :
    wpAny M A (Builtin.Bytes.takeBuffer? id (.ref a) fl) Q E s := by
  unfold Builtin.Bytes.takeBuffer?
  refine wpAny_bind (wpAny_specialOf (typeIs_ba h) look_ba_buffer ?_)
  refine wpAny_bind (slotOwn_buffer h ?_)
  refine iteF rfl ?_
  refine wpAny_bind (wpAny_specialOf (typeIs_ba h) look_ba_buffer ?_)
  exact wpAny_bind (buffer_ba h (wpAny_pure hQ))
theorem takeBufferQ_ba {id : String} {fl : Int} {Q : Option (Array UInt8 × Option Value) → Shared → Prop} (h : s.heap.get? a = some (baObj b)) (hQ : Q (some (b, none)) s) :
    wpAny M A (Builtin.Bytes.takeBufferQuiet? id (.ref a) fl) Q E s := by
  unfold Builtin.Bytes.takeBufferQuiet?
  exact wpAny_bind (wpAny_attempt (takeBuffer_ba h (wpAny_pure hQ)))
theorem exportsOf_ba {Q : Nat → Shared → Prop} (h : s.heap.get? a = some (baObj b)) (hQ : Q 0 s) : wpAny M A (Builtin.Bytes.exportsOf (.ref a)) Q E s := by
  unfold Builtin.Bytes.exportsOf
  exact wpAny_bind (wpAny_load h (wpAny_pure hQ))
/-- a write to a bytearray that the caller knows -/
theorem write_ba {f : Array UInt8 → Array UInt8} {Q : Unit → Shared → Prop} (h : s.heap.get? a = some (baObj b)) (hz : (f b).size ≤ sizeLine)
    (hQ : (s.heap.update a (Obj.mapBytearray f)).get? a = some (baObj (f b)) → Q () { s with heap := s.heap.update a (Obj.mapBytearray f) }) : wpAny M A (Builtin.Bytes.write (.ref a) f) Q E s := by
  show wpAny M A (updateBytearray a f) Q E s
  have h2 : (s.heap.update a (Obj.mapBytearray f)).get? a = some (baObj (f b)) := Heap.get?_update_self (Obj.mapBytearray f) h rfl
  unfold updateBytearray
  refine wpAny_bind (wpAny_load h ?_)
  show wpAny M A (update a (Obj.mapBytearray f) >>= fun _ => lookBehind a) _ _ _
  refine wpAny_bind (wpAny_update h ?_)
  refine wpAny_lookBehind h2 ?_ (hQ h2)
  show (if (f b).size > sizeLine then some "bytearray:memory" else none) = none
  rw [if_neg (Nat.not_lt.mpr hz)]
/-- may it grow? on a clean stack it may -/
theorem N_checkResize {Q : Unit → Shared → Prop} (h : s.heap.get? a = some (baObj b)) (hQ : Q () s) : wpN M A (Builtin.Bytes.checkResize (.ref a)) Q E s := by
  unfold Builtin.Bytes.checkResize
  refine N_bind (N_bind (N_exported ?_))
  refine N_any (wpAny_bind (exportsOf_ba h (wpAny_pure ?_)))
  exact N_iteF (by decide) (N_pure hQ)
end

theorem mro_ba : mroOf (.type "bytearray") = pure [.type "bytearray", .type "object"] := by rw [mroOf_type]; kernel_rfl
theorem look_ba_new : typeLookup (.type "bytearray") "__new__" = pure (some (.builtin "bytearray.__new__")) := by rw [typeLookup_type, builtinLookup_eq_fast]; kernel_rfl
theorem slot_ba_init : Slot "bytearray" "__init__" "bytearray.__init__" :=
  .of (owner := "bytearray") (n := "__init__") (by rw [typeLookup_type, builtinLookup_eq_fast]; kernel_rfl) (by decide +kernel) (by decide +kernel) (by decide +kernel)
    (by first | exact .inl (by decide +kernel) | exact .inr (by decide +kernel)) (by rw [isSubtype_type]; kernel_rfl)
theorem called_ba : TypeCalled "bytearray" "bytearray.__new__" "bytearray.__init__" :=
  ⟨by decide +kernel, by decide +kernel, ⟨_, _, mro_ba⟩, madeBy_type mro_ba look_ba_new (by decide +kernel), by decide +kernel, by rw [isSubtype_type]; kernel_rfl, slot_ba_init⟩
theorem typeCall_ba (x : Value) : checkTypeCall "bytearray" ⟨[x], []⟩ = pure () := by kernel_rfl
theorem newCall_ba (x : Value) : checkBuiltinCall "bytearray.__new__" ⟨[.type "bytearray", x], []⟩ = pure () := by kernel_rfl
theorem entry_ba_new : entryFor table "bytearray.__new__" = some Builtin.«list.__new__» := entryFor_alias (id' := "list.__new__") (by kernel_rfl) rfl (by decide +kernel) (by kernel_rfl)
theorem plain_ba_new : plainId "bytearray.__new__" = true := by decide +kernel
theorem entry_ba_init : entryFor table "bytearray.__init__" = some Builtin.«bytearray.__init__» := by first | exact entryFor_of_fast (by kernel_rfl) | exact entryFor_of_tree (by kernel_rfl)
theorem args_ba_init (x y : Value) : argsOk "bytearray.__init__" ⟨[x, y], []⟩ := by unfold argsOk; kernel_rfl
theorem bind_ba_init (v : Value) : Builtin.Bytes.bindOptional "bytearray.__init__" "bytearray" ["source", "encoding", "errors"] [v] [] = pure [some v, none, none] := by kernel_rfl
set_option maxRecDepth 1000000 in
set_option maxHeartbeats 4000000 in
theorem owner_ba_new : ("bytearray.__new__".splitOn ".__new__").headD "" = "bytearray" := by simp +decide [String.splitOn, String.splitOnAux]
section
variable {prog : Program} {w : World} {A : Around} {E : Value → Shared → Prop} {s : Shared}
theorem code_ba_new (x : Value) {Q₁ : Value → Shared → Prop}
    (h : Q₁ (.ref s.heap.objs.size) { s with heap := s.heap.push (baObj #[]) }) :
    codeAny (model prog w) A (.call (.builtin "bytearray.__new__") ⟨[.type "bytearray", x], []⟩) (wants Q₁ E) s := by
  refine codeAny_of_tree ?_
  show wpAny _ A.in1 (do checkBuiltinCall "bytearray.__new__" ⟨[.type "bytearray", x], []⟩; again (.builtin "bytearray.__new__" ⟨[.type "bytearray", x], []⟩)) _ _ s
  refine wpAny_bind (wpAny_of_eq (newCall_ba x) (wpAny_pure ⟨plainId_quiet plain_ba_new _, codeAny_builtin_stack entry_ba_new rfl fun p st => ?_⟩))
  rw [Around.under_plainId plain_ba_new _]
  have hsub := sub_ba
  have hown := owner_ba_new
  obtain ⟨hp, g, d, tk, os⟩ := s
  simp only [hown]
  wp_walk
  exact h
end
end Mine

open PySem PySem.W PySem.Calls PyProof.Rows
set_option Elab.async false
set_option maxRecDepth 100000
namespace Mine
theorem okId {id : String} {args : Args} (h : (guardIds.contains id || Builtin.Bytes.decodersThatHold.contains id) = false) : badCode (.builtin id args) = false := h
section
variable {prog : Program} {w : World} {A : Around} {E : Value → Shared → Prop} {s : Shared}
theorem codeN_builtin {id : String} {args : Args} {b : Builtin} {R : Result → Shared → Prop} (hg : (guardIds.contains id || Builtin.Bytes.decodersThatHold.contains id) = false) (hb : entryFor table id = some b)
    (h : wpN (model prog w) (A.under (.builtin id args)) (b args) (finN (model prog w) A R) (fun e s' => R (.error e) s') s) : codeN (model prog w) A (.builtin id args) R s := by
  refine codeN_tree (okId hg) ?_
  show wpN _ _ (match entryFor table id with | some b => b args | none => unsupported ((withoutEnding? id "#data").getD id)) _ _ s
  rw [hb]; exact h
theorem N_call_ba {x : Value} {Q : Value → Shared → Prop}
    (hinit : ∀ a s₁, s₁ = { s with heap := s.heap.push (baObj #[]) } → a = s.heap.objs.size → ∀ A', codeN (model prog w) A' (.call (.builtin "bytearray.__init__") ⟨[.ref a, x], []⟩) (fun r s' => match r with | .ok (.ret v) => v = .none ∧ Q (.ref a) s' | .ok _ => False | .error e => E e s') s₁) :
    wpN (model prog w) A (call (.type "bytearray") [x]) Q E s := by
  refine N_call (codeN_tree rfl ?_)
  show wpN _ _ (pure (Fin.again (.builtin "type.__call__" ⟨[.type "bytearray", x], []⟩))) _ _ _
  refine N_pure ?_
  refine And.intro (Code.quiet_builtin _ (by decide +kernel)) ?_
  refine codeN_builtin (by decide +kernel) F.entry_type_call ?_
  unfold Builtin.«type.__call__»
  refine N_iteF (c := (Value.type "bytearray" == Value.type "type")) called_ba.notType ?_
  refine N_iteF called_ba.canCreate ?_
  refine N_pre (wpAny_of_eq (typeCall_ba x) ?_)
  refine N_pre (wpAny_of_eq mro_ba ?_)
  refine N_iteF rfl ?_
  refine N_pre (wpAny_of_eq called_ba.made ?_)
  refine N_bind (N_pure ?_)
  refine N_pre (wpAny_holding (wpAny_call ?_))
  refine codeAny_mono (code_ba_new x (Q₁ := fun v s₁ => v = .ref s.heap.objs.size ∧ s₁ = { s with heap := s.heap.push (baObj #[]) }) (E := fun _ _ => False) ⟨rfl, rfl⟩) fun r s₁ hr => ?_
  cases r with
  | error e => exact hr.elim
  | ok fl =>
    cases fl with
    | ret v =>
      obtain ⟨rfl, hs⟩ : v = .ref s.heap.objs.size ∧ s₁ = { s with heap := s.heap.push (baObj #[]) } := hr
      have hT : s₁.TypeIs (.ref s.heap.objs.size) "bytearray" := ⟨_, by rw [hs]; exact Heap.get?_push_size _ rfl, rfl⟩
      refine N_pre (wpAny_isInstance hT sub_ba ?_)
      refine N_iteF rfl ?_
      unfold callSpecial?
      refine N_bind (N_holding (N_pre (wpAny_specialOf hT slot_ba_init.lookup ?_)))
      refine N_holding (N_pre (wpAny_of_eq (slot_ba_init.bind _) ?_))
      refine N_bind (N_call (codeN_mono (hinit _ s₁ hs rfl _) fun r s₂ hr => ?_))
      cases r with
      | error e => exact hr
      | ok fl =>
        cases fl with
        | ret v =>
          obtain ⟨rfl, hq⟩ := hr
          refine N_pure ?_
          refine N_iteF (by decide) ?_
          exact N_pure hq
        | _ => exact hr.elim
    | _ => exact hr.elim
end
end Mine

open PySem PySem.W PySem.Calls PyProof.Rows
set_option Elab.async false
set_option maxRecDepth 100000
namespace Mine
/-- what a change of a alone keeps -/
def But (a : Addr) (h h' : Heap) : Prop := ∀ b o, b ≠ a → h.get? b = some o → h'.get? b = some o
theorem but_update {a : Addr} {f : Obj → Obj} {h : Heap} : But a h (h.update a f) := fun _ _ hb e => (Heap.get?_update_ne _ _ _ _ hb).trans e
theorem But.trans {a : Addr} {h h' h'' : Heap} (x : But a h h') (y : But a h' h'') : But a h h'' := fun b o hb e => y b o hb (x b o hb e)
/-- what a bytearray is made of here: nought, or bytes -/
def Src (v : Value) (r : Array UInt8) : Prop := (∃ t, v = .int 0 t ∧ r = #[]) ∨ (∃ t, v = .bytes r t)
section
variable {prog : Program} {w : World} {A : Around} {E : Value → Shared → Prop} {s : Shared} {a : Addr}
theorem buffer_bytes {M : Model} {A : Around} {E : Value → Shared → Prop} {s : Shared} {id : String} {b : Array UInt8} {t : Tok} {Q : Option (Array UInt8) → Shared → Prop} (hQ : Q (some b) s) :
    wpAny M A (Builtin.Bytes.buffer? id (.bytes b t) true) Q E s := by
  unfold Builtin.Bytes.buffer?
  rw [KBy.special_eq KBy.look_buffer, KBy.own_buffer, KBy.own_release]
  exact wpAny_pure hQ
theorem init_ba {v : Value} {r : Array UInt8} {R : Result → Shared → Prop} (h : s.heap.get? a = some (baObj #[])) (hv : Src v r) (hz : r.size ≤ sizeLine)
    (hR : ∀ h', h'.get? a = some (baObj r) → But a s.heap h' → R (.ok (.ret .none)) { s with heap := h' }) :
    codeN (model prog w) A (.call (.builtin "bytearray.__init__") ⟨[.ref a, v], []⟩) R s := by
  have hT := typeIs_ba h
  refine codeN_tree rfl ?_
  show wpN _ A.in1 (do checkBuiltinCall "bytearray.__init__" ⟨[.ref a, v], []⟩; again (.builtin "bytearray.__init__" ⟨[.ref a, v], []⟩)) _ _ s
  refine N_pre (slot_ba_init.check _ _ _ _ _ _ _ _ hT (args_ba_init _ _) ?_)
  refine N_pure ⟨Code.quiet_builtin _ (by decide +kernel), codeN_builtin (by decide +kernel) entry_ba_init ?_⟩
  unfold Builtin.«bytearray.__init__»
  refine N_pre (ownRelease_ba h ?_)
  refine N_iteF rfl ?_
  refine N_pre (wpAny_of_eq (bind_ba_init v) ?_)
  refine N_pre (wpAny_of_eq (a := ()) rfl ?_)
  refine N_pre (wpAny_of_eq (a := ()) rfl ?_)
  refine N_bind (N_bind (N_exported ?_))
  refine N_any (wpAny_bind (exportsOf_ba h (wpAny_pure ?_)))
  refine N_iteF (by decide) (N_any ?_)
  refine wpAny_bind (write_ba h (Nat.zero_le _) fun h1 => ?_)
  rcases hv with ⟨t, rfl, rfl⟩ | ⟨t, rfl⟩
  · refine wpAny_bind (wpAny_of_eq (a := none) rfl ?_)
    refine iteF rfl ?_
    refine wpAny_bind (wpAny_of_eq (a := ()) rfl ?_)
    refine wpAny_bind (wpAny_specialOf (T := "int") (typeIs_int _ _ _) F.slot_int_index.lookup ?_)
    refine iteT rfl ?_
    refine wpAny_bind (wpAny_attempt (wpAny_of_eq (a := (0 : Int)) rfl ?_))
    refine iteF (by decide) ?_
    refine wpAny_ite_false (by decide) ?_
    refine iteF (by decide) ?_
    refine iteF (by decide) ?_
    refine wpAny_bind (wpAny_rule ?_)
    refine wpAny_ite_false (by decide) ?_
    exact wpAny_pure (hR _ h1 but_update)
  · refine wpAny_bind (wpAny_of_eq (a := none) rfl ?_)
    refine iteF rfl ?_
    refine wpAny_bind (wpAny_of_eq (a := ()) rfl ?_)
    refine wpAny_bind (wpAny_specialOf (T := "bytes") (PySem.W.typeIs_bytes _ _ _) look_bytes_index ?_)
    refine iteF rfl ?_
    refine wpAny_bind (buffer_bytes ?_)
    refine wpAny_bind (wpAny_rule ?_)
    refine wpAny_bind (write_ba h1 hz fun h2 => ?_)
    exact wpAny_pure (hR _ h2 (but_update.trans but_update))

/-- bytearray(0), bytearray(bytes): a new object -/
theorem N_ba {v : Value} {r : Array UInt8} {Q : Value → Shared → Prop} (hv : Src v r) (hz : r.size ≤ sizeLine)
    (h : ∀ h', h'.get? s.heap.objs.size = some (baObj r) → (∀ b o, s.heap.get? b = some o → h'.get? b = some o) → Q (.ref s.heap.objs.size) { s with heap := h' }) :
    wpN (model prog w) A (call (.type "bytearray") [v]) Q E s := by
  refine N_call_ba fun a s₁ hs ha A' => ?_
  subst hs ha
  refine init_ba (Heap.get?_push_size _ rfl) hv hz fun h' h1 hb => ⟨rfl, h h' h1 fun b o e => hb b o (Nat.ne_of_lt (Heap.lt_size e)) (Heap.get?_push_of_some _ e)⟩
end
end Mine

open PySem PySem.W PySem.Calls PyProof.Rows
set_option Elab.async false
set_option maxRecDepth 100000
namespace Mine
theorem plainAttrs_ba : PlainAttrs "bytearray" :=
  ⟨⟨"bytearray.__getattribute__", by rw [typeLookup_type, builtinLookup_eq_fast]; kernel_rfl, by decide +kernel⟩, by rw [typeLookup_type, builtinLookup_eq_fast]; kernel_rfl⟩
theorem slot_ba_extend : Slot "bytearray" "extend" "bytearray.extend" :=
  .of (owner := "bytearray") (n := "extend") (by rw [typeLookup_type, builtinLookup_eq_fast]; kernel_rfl) (by decide +kernel) (by decide +kernel) (by decide +kernel)
    (by first | exact .inl (by decide +kernel) | exact .inr (by decide +kernel)) (by rw [isSubtype_type]; kernel_rfl)
theorem type_ba_extend : typeOf (.builtin "bytearray.extend") = pure (.type "method_descriptor") := by show builtinType _ = _; rw [builtinType_eq_fast]; kernel_rfl
theorem entry_ba_extend : entryFor table "bytearray.extend" = some Builtin.«bytearray.extend» := by first | exact entryFor_of_fast (by kernel_rfl) | exact entryFor_of_tree (by kernel_rfl)
theorem args_ba_extend (x y : Value) : argsOk "bytearray.extend" ⟨[x, y], []⟩ := by unfold argsOk; kernel_rfl
section
variable {prog : Program} {w : World} {A : Around} {E : Value → Shared → Prop} {s : Shared} {a c : Addr} {p q : Array UInt8}
theorem getMethod_extend {M : Model} {pl : Sem Bool} {Q : Value × List Value → Shared → Prop} (h : s.heap.get? a = some (baObj p)) (hQ : Q (.builtin "bytearray.extend", [.ref a]) s) :
    wpAny M A (getMethod (.ref a) (Str.ofString "extend") pl) Q E s :=
  getMethod_builtin (typeIs_ba h) plainAttrs_ba slot_ba_extend type_ba_extend (fun _ e => by cases e; exact ⟨_, h, rfl⟩) hQ
/-- xs.extend(ys), two bytearrays -/
theorem N_extend {Q : Value → Shared → Prop} (h : s.heap.get? a = some (baObj p)) (hc : s.heap.get? c = some (baObj q)) (hz : (p ++ q).size ≤ sizeLine)
    (hQ : ∀ h', h'.get? a = some (baObj (p ++ q)) → But a s.heap h' → Q .none { s with heap := h' }) :
    wpN (model prog w) A (call (.builtin "bytearray.extend") [.ref a, .ref c]) Q E s := by
  refine N_call (codeN_tree rfl ?_)
  show wpN _ A.in1 (do checkBuiltinCall "bytearray.extend" ⟨[.ref a, .ref c], []⟩; again (.builtin "bytearray.extend" ⟨[.ref a, .ref c], []⟩)) _ _ s
  refine N_pre (slot_ba_extend.check _ _ _ _ _ _ _ _ (typeIs_ba h) (args_ba_extend _ _) ?_)
  refine N_pure ⟨Code.quiet_builtin _ (by decide +kernel), codeN_builtin (by decide +kernel) entry_ba_extend ?_⟩
  unfold Builtin.«bytearray.extend»
  refine N_pre (wpAny_of_eq (a := (.ref a, .ref c)) (by kernel_rfl) ?_)
  refine N_pre (wpAny_specialOf (typeIs_ba hc) look_ba_buffer ?_)
  refine N_iteT rfl ?_
  refine N_pre (wpAny_rule ?_)
  refine N_pre (payload_ba h ?_)
  refine N_pre (takeBufferQ_ba hc ?_)
  refine N_iteT rfl ?_
  show wpN _ _ (do
    if !q.isEmpty then Builtin.Bytes.checkResize (.ref a)
    Builtin.Bytes.write (.ref a) (· ++ q)
    ret .none) _ _ _
  have fin : ∀ A', wpN (model prog w) A' (do Builtin.Bytes.write (.ref a) (· ++ q); ret .none) (finN (model prog w) A fun r s' => match r with | .ok (.ret v) => Q v s' | .ok _ => False | .error e => E e s') (fun e s' => E e s') s := fun A' =>
    N_pre (write_ba h hz fun h1 => N_pure (hQ _ h1 but_update))
  by_cases hq : (!q.isEmpty) = true
  · rw [if_pos hq]
    exact N_bind (N_checkResize h (fin _))
  · rw [if_neg hq]
    exact fin _
end
end Mine

open PySem PySem.W PySem.Calls PyProof.Rows
set_option Elab.async false
set_option maxRecDepth 100000
namespace Mine
theorem slot_ba_add : Slot "bytearray" "__add__" "bytearray.__add__" :=
  .of (owner := "bytearray") (n := "__add__") (by rw [typeLookup_type, builtinLookup_eq_fast]; kernel_rfl) (by decide +kernel) (by decide +kernel) (by decide +kernel)
    (by first | exact .inl (by decide +kernel) | exact .inr (by decide +kernel)) (by rw [isSubtype_type]; kernel_rfl)
theorem noR_ba_add : typeLookup (.type "bytearray") (dunderR "add") = pure none := by rw [typeLookup_type, builtinLookup_eq_fast]; kernel_rfl
theorem noFill_ba_add : fillsNumberSlot (.type "bytearray") "add" = pure false := PySem.fillsNumberSlot_seq (id := "bytearray.__add__") (r := none) slot_ba_add.lookup (by decide +kernel) noR_ba_add rfl
theorem seq_ba_add : seqSlot? (.type "bytearray") "__add__" = pure (some (.builtin "bytearray.__add__")) := PySem.seqSlot_of slot_ba_add.lookup (by decide +kernel)
theorem entry_ba_add : entryFor table "bytearray.__add__" = some Builtin.«bytearray.__add__» := by first | exact entryFor_of_fast (by kernel_rfl) | exact entryFor_of_tree (by kernel_rfl)
theorem args_ba_add (x y : Value) : argsOk "bytearray.__add__" ⟨[x, y], []⟩ := by unfold argsOk; kernel_rfl
section
variable {prog : Program} {w : World} {A : Around} {E : Value → Shared → Prop} {s : Shared} {a : Addr} {p q : Array UInt8} {t : Tok}
/-- a bytearray and bytes: a new bytearray -/
theorem add_ba {Q : Value → Shared → Prop} (h : s.heap.get? a = some (baObj p)) (hz : p.size + q.size ≤ sizeLine)
    (hQ : Q (.ref s.heap.objs.size) { s with heap := s.heap.push (baObj (p ++ q)) }) :
    wpAny (model prog w) A (binaryOp .Add (.ref a) (.bytes q t)) Q E s := by
  have hT := typeIs_ba h
  have hU : s.TypeIs (.bytes q t) "bytes" := PySem.W.typeIs_bytes _ _ _
  have none1 : ∀ Q' : Option Value → Shared → Prop, Q' none s → wpAny (model prog w) A (binaryOp1 "add" (.ref a) (.bytes q t)) Q' E s := fun Q' hq => by
    simp only [binaryOp1]
    refine wpAny_bind (wpAny_typeOf hT (wpAny_bind (wpAny_typeOf hU (wpAny_bind (wpAny_of_eq noFill_ba_add ?_)))))
    simp only [show (Value.type "bytearray" == Value.type "bytes") = false by decide, Bool.false_eq_true, if_false]
    refine wpAny_bind (wpAny_of_eq KBy.noFill_bytes_add ?_)
    simp only [pure_bind, Bool.false_and, Bool.false_eq_true, if_false]
    exact wpAny_pure hq
  unfold binaryOp
  refine wpAny_holding (wpAny_bind (none1 _ ?_))
  refine wpAny_bind (wpAny_typeOf hT (wpAny_bind (wpAny_of_eq seq_ba_add (wpAny_bind (wpAny_rule ?_)))))
  refine wpAny_call_entry slot_ba_add hT entry_ba_add ?_ (args_ba_add _ _)
  unfold Builtin.«bytearray.__add__»
  refine wpAny_bind (wpAny_of_eq (a := (.ref a, [.bytes q t])) (by kernel_rfl) ?_)
  refine wpAny_bind (buffer_ba h ?_)
  refine wpAny_bind (wpAny_of_eq KBy.quiet_eq ?_)
  refine iteF ?_ ?_
  · unfold Builtin.Bytes.tooLong
    exact decide_eq_false (Nat.not_lt.mpr hz)
  refine wpAny_bind ?_
  unfold Builtin.Bytes.newBytearray
  exact wpAny_newObj_type (wpAny_pure ⟨_, rfl, hQ⟩) (by show (p ++ q).size ≤ sizeLine; rw [Array.size_append]; exact hz)
end
theorem slot_ba_getitem : Slot "bytearray" "__getitem__" "bytearray.__getitem__" :=
  .of (owner := "bytearray") (n := "__getitem__") (by rw [typeLookup_type, builtinLookup_eq_fast]; kernel_rfl) (by decide +kernel) (by decide +kernel) (by decide +kernel)
    (by first | exact .inl (by decide +kernel) | exact .inr (by decide +kernel)) (by rw [isSubtype_type]; kernel_rfl)
theorem entry_ba_getitem : entryFor table "bytearray.__getitem__" = some Builtin.«bytearray.__getitem__» := by first | exact entryFor_of_fast (by kernel_rfl) | exact entryFor_of_tree (by kernel_rfl)
theorem args_ba_getitem (x y : Value) : argsOk "bytearray.__getitem__" ⟨[x, y], []⟩ := by unfold argsOk; kernel_rfl
theorem slot_ba_len : Slot "bytearray" "__len__" "bytearray.__len__" :=
  .of (owner := "bytearray") (n := "__len__") (by rw [typeLookup_type, builtinLookup_eq_fast]; kernel_rfl) (by decide +kernel) (by decide +kernel) (by decide +kernel)
    (by first | exact .inl (by decide +kernel) | exact .inr (by decide +kernel)) (by rw [isSubtype_type]; kernel_rfl)
theorem entry_ba_len : entryFor table "bytearray.__len__" = some Builtin.«bytearray.__len__» := by first | exact entryFor_of_fast (by kernel_rfl) | exact entryFor_of_tree (by kernel_rfl)
theorem args_ba_len (x : Value) : argsOk "bytearray.__len__" ⟨[x], []⟩ := by unfold argsOk; kernel_rfl
section
variable {prog : Program} {w : World} {A : Around} {E : Value → Shared → Prop} {s : Shared} {a sl : Addr} {p : Array UInt8} {t : Tok} {n : Int}
/-- xs[:n], xs a bytearray, 0 <= n -/
theorem getSlice_ba {Q : Value → Shared → Prop} (h : s.heap.get? a = some (baObj p)) (hs : s.heap.IsSliceOf sl .none (.int n t) .none) (h0 : 0 ≤ n) (hz : p.size ≤ sizeLine)
    (hQ : Q (.ref s.heap.objs.size) { s with heap := s.heap.push (baObj (p.toList.take n.toNat).toArray) }) :
    wpAny (model prog w) A (getItem (.ref a) (.ref sl)) Q E s := by
  obtain ⟨o, ho, hc, hd⟩ := hs
  have hT : s.TypeIs (.ref sl) "slice" := ⟨o, ho, hc⟩
  refine wpAny_getItem_slot (typeIs_ba h) (by decide +kernel) slot_ba_getitem (wpAny_call_entry slot_ba_getitem (typeIs_ba h) entry_ba_getitem ?_ (args_ba_getitem _ _))
  unfold Builtin.«bytearray.__getitem__»
  refine wpAny_bind (wpAny_of_eq (a := (.ref a, [.ref sl])) (by kernel_rfl) ?_)
  refine wpAny_bind ?_
  unfold Builtin.Bytes.subscript?
  refine wpAny_bind (wpAny_specialOf hT slice_no_index (wpAny_pure ?_))
  refine wpAny_bind (wpAny_typeOf hT ?_)
  refine iteF (by decide) ?_
  refine wpAny_bind ?_
  unfold Builtin.Bytes.sliceParts
  refine wpAny_bind (wpAny_field (x := .none) ho hd rfl ?_)
  refine wpAny_bind (wpAny_of_eq (a := Value.none) rfl ?_)
  refine wpAny_ite (KBy.ite_no (show ¬ ((Value.none == rawInt 0) = true) from Bool.false_ne_true) ?_)
  refine wpAny_bind (wpAny_field (x := .none) ho hd rfl ?_)
  refine wpAny_bind (wpAny_of_eq (a := Value.none) rfl ?_)
  refine wpAny_bind (wpAny_field (x := .int n t) ho hd rfl ?_)
  refine wpAny_bind (wpAny_ite (KBy.ite_no (show ¬ ((Value.int n t == Value.none) = true) from Bool.false_ne_true) ?_))
  refine wpAny_bind (wpAny_specialOf (T := "int") (typeIs_int _ _ _) F.slot_int_index.lookup ?_)
  refine wpAny_ite (KBy.ite_no (show ¬ (Option.isNone (some _) = true) from Bool.false_ne_true) ?_)
  refine wpAny_bind (wpAny_of_eq (a := n) rfl (wpAny_pure (wpAny_pure ?_)))
  refine wpAny_bind (payload_ba h ?_)
  have go : wpAny (model prog w) A.in1 (sliceIndices (rawPart none) (rawPart (some n)) (rawPart none) p.size) (fun r s' => r = sliceBounds none (some n) none p.size ∧ s' = s) (fun _ _ => False) s :=
    wpAny_of_eq (sliceIndices_raw none (some n) none p.size (fun e => nomatch e)) ⟨rfl, rfl⟩
  refine wpAny_bind (wpAny_mono go (fun r s' hr => ?_) fun _ _ e => e.elim)
  obtain ⟨rfl, rfl⟩ := hr
  have e : Builtin.Bytes.sliced p (sliceBounds none (some n) none p.size).1 (sliceBounds none (some n) none p.size).2.1 (sliceBounds none (some n) none p.size).2.2 = (p.toList.take n.toNat).toArray := by
    have q := KBc.picked_eq p none (some n)
    unfold KBy.picked at q
    rw [q]
    obtain ⟨m, rfl⟩ := Int.eq_ofNat_of_zero_le h0
    show ((p.toList.drop 0).take (clipAt p.size (m : Int) - 0)).toArray = (p.toList.take (m : Int).toNat).toArray
    rw [clipAt_nat, List.drop_zero, Nat.sub_zero, Int.toNat_natCast, ← Array.length_toList, kmk_take_min]
  show wpAny _ _ (Builtin.Bytes.newBytearray (Builtin.Bytes.sliced p (sliceBounds none (some n) none p.size).1 (sliceBounds none (some n) none p.size).2.1 (sliceBounds none (some n) none p.size).2.2) >>= fun v => ret v) _ _ _
  rw [e]
  refine wpAny_bind ?_
  unfold Builtin.Bytes.newBytearray
  refine wpAny_newObj_type (wpAny_pure ⟨_, rfl, hQ⟩) ?_
  show ((p.toList.take n.toNat).toArray).size ≤ sizeLine
  rw [List.size_toArray, List.length_take, Array.length_toList]
  omega
/-- the read behind it: xs a name -/
theorem tailSlice_ba {value slice : PySem.Expr} {Q : Value → Shared → Prop} (h : s.heap.get? a = some (baObj p)) (hs : s.heap.IsSliceOf sl .none (.int n t) .none) (h0 : 0 ≤ n) (hz : p.size ≤ sizeLine)
    (hQ : Q (.ref s.heap.objs.size) { s with heap := s.heap.push (baObj (p.toList.take n.toNat).toArray) })
    (he : subscripted slice false (.ref a) (.ref sl) = operate [.ref sl, .ref a] (getItem (.ref a) (.ref sl))) (ht : ∀ r, letTemporaryGo value (.ref a) r = pure ()) :
    wpAny (model prog w) A (subscriptTail value slice (.ref a) (.ref sl)) Q E s :=
  tail_any (typeIs_ba h) slot_ba_getitem.lookup (getSlice_ba h hs h0 hz hQ) he
/-- len(xs) -/
theorem len_ba {Q : Value → Shared → Prop} (h : s.heap.get? a = some (baObj p)) (hz : p.size ≤ sizeLine)
    (hQ : Q (.int (p.size : Int) (s.toks + 1)) { s with toks := s.toks + 1 + 1 }) : wpAny (model prog w) A (call (.builtin "len") [.ref a]) Q E s := by
  rw [sizeLine_eq] at hz
  refine PyProof.Rows.call_len_slot (typeIs_ba h) slot_ba_len (fun Q' hq => wpAny_call_entry slot_ba_len (typeIs_ba h) entry_ba_len ?_ (args_ba_len _)) (by omega) (by omega) hQ
  unfold Builtin.«bytearray.__len__»
  refine wpAny_bind (wpAny_of_eq (a := (.ref a, [])) (by kernel_rfl) ?_)
  refine wpAny_bind (payload_ba h ?_)
  exact wpAny_bind (wpAny_mkInt (wpAny_pure ⟨_, rfl, hq⟩))
end
end Mine

open PySem PySem.W PySem.Calls PyProof.Rows
set_option Elab.async false
set_option maxRecDepth 100000
namespace Mine
theorem slot_ba_iter : Slot "bytearray" "__iter__" "bytearray.__iter__" :=
  .of (owner := "bytearray") (n := "__iter__") (by rw [typeLookup_type, builtinLookup_eq_fast]; kernel_rfl) (by decide +kernel) (by decide +kernel) (by decide +kernel)
    (by first | exact .inl (by decide +kernel) | exact .inr (by decide +kernel)) (by rw [isSubtype_type]; kernel_rfl)
theorem entry_ba_iter : entryFor table "bytearray.__iter__" = some Builtin.«bytearray.__iter__» := by first | exact entryFor_of_fast (by kernel_rfl) | exact entryFor_of_tree (by kernel_rfl)
theorem args_ba_iter (x : Value) : argsOk "bytearray.__iter__" ⟨[x], []⟩ := by unfold argsOk; kernel_rfl
theorem slot_bai_next : Slot "bytearray_iterator" "__next__" "bytearray_iterator.__next__" :=
  .of (owner := "bytearray_iterator") (n := "__next__") (by rw [typeLookup_type, builtinLookup_eq_fast]; kernel_rfl) (by decide +kernel) (by decide +kernel) (by decide +kernel)
    (by first | exact .inl (by decide +kernel) | exact .inr (by decide +kernel)) (by rw [isSubtype_type]; kernel_rfl)
theorem slot_bai_self : Slot "bytearray_iterator" "__iter__" "bytearray_iterator.__iter__" :=
  .of (owner := "bytearray_iterator") (n := "__iter__") (by rw [typeLookup_type, builtinLookup_eq_fast]; kernel_rfl) (by decide +kernel) (by decide +kernel) (by decide +kernel)
    (by first | exact .inl (by decide +kernel) | exact .inr (by decide +kernel)) (by rw [isSubtype_type]; kernel_rfl)
theorem entry_bai_next : entryFor table "bytearray_iterator.__next__" = some Builtin.«bytearray_iterator.__next__» := by first | exact entryFor_of_fast (by kernel_rfl) | exact entryFor_of_tree (by kernel_rfl)
theorem entry_bai_self : entryFor table "bytearray_iterator.__iter__" = some Builtin.«dict_keyiterator.__iter__» := entryFor_alias (id' := "dict_keyiterator.__iter__") (by kernel_rfl) rfl (by decide +kernel) (by kernel_rfl)
theorem args_bai_next (a : Value) : argsOk "bytearray_iterator.__next__" ⟨[a], []⟩ := by unfold argsOk; kernel_rfl
theorem args_bai_self (a : Value) : argsOk "bytearray_iterator.__iter__" ⟨[a], []⟩ := by unfold argsOk; kernel_rfl
theorem look_ba_len : typeLookup (.type "bytearray") "__len__" = pure (some (.builtin "bytearray.__len__")) := slot_ba_len.lookup
theorem look_bytes_len : typeLookup (.type "bytes") "__len__" = pure (some (.builtin "bytes.__len__")) := by rw [typeLookup_type, builtinLookup_eq_fast]; kernel_rfl

abbrev baIter (a : Addr) (i : Nat) : Obj := { cls := .type "bytearray_iterator", data := .fields #[.ref a, .int i 0] }
def IsBaIter (h : Heap) (it a : Addr) (i : Nat) : Prop := ∃ o, h.get? it = some o ∧ o.cls = .type "bytearray_iterator" ∧ o.data = .fields #[.ref a, .int i 0]
theorem bai_type {s : Shared} {it a : Addr} {i : Nat} (y : IsBaIter s.heap it a i) : s.TypeIs (.ref it) "bytearray_iterator" :=
  let ⟨o, ho, hc, _⟩ := y; ⟨o, ho, hc⟩
section
variable {prog : Program} {w : World} {A : Around} {E : Value → Shared → Prop} {s : Shared} {a it : Addr} {b : Array UInt8} {i : Nat}
theorem pyIter_ba {Q : Value → Shared → Prop} (h : s.heap.get? a = some (baObj b)) (hQ : Q (.ref s.heap.objs.size) { s with heap := s.heap.push (baIter a 0) }) : wpAny (model prog w) A (pyIter (.ref a)) Q E s := by
  refine wpAny_pyIter_slot (typeIs_ba h) slot_ba_iter (wpAny_call_entry slot_ba_iter (typeIs_ba h) entry_ba_iter ?_ (args_ba_iter _))
  show wpAny _ _ (do ret (← newFields "bytearray_iterator" [.ref a, rawInt 0])) _ _ s
  exact wpAny_bind (wpAny_newObj_type (wpAny_pure ⟨_, rfl, "bytearray_iterator", _, ⟨_, Heap.get?_push_size _ rfl, rfl⟩, slot_bai_next.lookup, hQ⟩))
theorem pyIter_bai {Q : Value → Shared → Prop} (hit : IsBaIter s.heap it a i) (h : Q (.ref it) s) : wpAny (model prog w) A (pyIter (.ref it)) Q E s := by
  refine wpAny_pyIter_slot (bai_type hit) slot_bai_self (wpAny_call_entry slot_bai_self (bai_type hit) entry_bai_self ?_ (args_bai_self _))
  show wpAny _ _ (ret (.ref it)) _ _ s
  exact wpAny_pure ⟨_, rfl, "bytearray_iterator", _, bai_type hit, slot_bai_next.lookup, h⟩
theorem next_bai {c : UInt8} {Q : Option Value → Shared → Prop} (hb : s.heap.get? a = some (baObj b)) (hit : IsBaIter s.heap it a i) (hx : b[i]? = some c)
    (hQ : ∀ h', IsBaIter h' it a (i + 1) → Heap.SameBut it s.heap h' → Q (some (.int (c.toNat : Int) s.toks)) { s with heap := h', toks := s.toks + 1 }) : wpAny (model prog w) A (pyNext (.ref it)) Q E s := by
  obtain ⟨o, ho, hc, hd⟩ := id hit
  unfold pyNext
  refine wpAny_bind (wpAny_attempt (wpAny_callSpecial?_slot (name := PySem.Str.ofString "__next__") (bai_type hit) slot_bai_next
    (wpAny_call_entry slot_bai_next (bai_type hit) entry_bai_next ?_ (args_bai_next _))))
  unfold Builtin.«bytearray_iterator.__next__»
  refine wpAny_bind (wpAny_of_eq (a := (.ref it, [])) (by kernel_rfl) ?_)
  refine wpAny_bind (wpAny_field ho hd (x := .ref a) rfl ?_)
  refine wpAny_bind (wpAny_load hb ?_)
  refine wpAny_bind (wpAny_field ho hd (x := .int i 0) rfl ?_)
  simp only [Int.toNat_natCast, hx]
  refine wpAny_bind (wpAny_setField ho hd (by simp) (wpAny_bind (wpAny_mkInt (wpAny_pure ⟨_, rfl, wpAny_pure (hQ _ ?_ (Heap.SameBut.update ..))⟩))))
  exact ⟨_, Heap.get?_update_self _ ho (Obj.isFreed_of_fields (Obj.data_mapFields hd _)), (Obj.cls_mapFields ..).trans hc, by
    rw [Obj.data_mapFields hd]; simp [rawInt]⟩
theorem end_bai {Q : Option Value → Shared → Prop} (hh : A.handled = none) (hb : s.heap.get? a = some (baObj b)) (hit : IsBaIter s.heap it a i) (hx : b[i]? = none)
    (hQ : ∀ h', Heap.ExtBut it s.heap h' → Q none { s with heap := h' }) : wpAny (model prog w) A (pyNext (.ref it)) Q E s := by
  obtain ⟨o, ho, hc, hd⟩ := id hit
  unfold pyNext
  refine wpAny_bind (wpAny_attempt (wpAny_callSpecial?_slot (name := PySem.Str.ofString "__next__") (bai_type hit) slot_bai_next
    (wpAny_call_entry slot_bai_next (bai_type hit) entry_bai_next ?_ (args_bai_next _))))
  unfold Builtin.«bytearray_iterator.__next__»
  refine wpAny_bind (wpAny_of_eq (a := (.ref it, [])) (by kernel_rfl) ?_)
  refine wpAny_bind (wpAny_field ho hd (x := .ref a) rfl ?_)
  refine wpAny_bind (wpAny_load hb ?_)
  refine wpAny_bind (wpAny_field ho hd (x := .int i 0) rfl ?_)
  simp only [Int.toNat_natCast, hx]
  refine wpAny_bind (wpAny_rule (wpAny_bind (wpAny_setField ho hd (by simp) ?_)))
  refine wpAny_bind (wpAny_letGo ?_)
  show wpAny _ _ (newExc (.type "StopIteration") [] >>= _) _ _ _
  refine wpAny_bind ?_
  simp only [newExc, newTuple]
  refine wpAny_bind (wpAny_newObj_type ?_ (by size_fits))
  refine wpAny_bind (m := firstArgMember _ _) (wpAny_of_eq (a := Value.none) (by first | rfl | (simp only [firstArgMember]; rfl)) ?_)
  refine wpAny_newObj_type ?_ (by size_fits)
  simp only [raiseNew]
  refine wpAny_bind (wpAny_handled ?_)
  rw [show A.in1.handled = none from hh]
  refine wpAny_bind (wpAny_pure (wpAny_throw ?_))
  refine wpAny_bind (wpAny_isInstance (T := "StopIteration") (b := true) ⟨_, Heap.get?_push_size _ rfl, rfl⟩ isSubtype_stop ?_)
  exact wpAny_pure (hQ _ (((Heap.SameBut.update ..).extBut.push _).push _))
/-- an iterator over a bytearray that stands still -/
theorem walks_ba (hh : A.handled = none) (it a : Addr) (hne : a ≠ it) (b : Array UInt8) :
    Walks prog w A it [it, a] [it] b.size (fun i v => ∃ c u, b[i]? = some c ∧ v = .int (c.toNat : Int) u) (fun i h => IsBaIter h it a i ∧ h.get? a = some (baObj b)) where
  sub := fun _ hb => List.mem_cons.mpr (.inl (List.mem_singleton.mp hb))
  frame := fun _ _ _ st hk => ⟨let ⟨o, ho, r⟩ := st.1; ⟨o, hk it (by simp) o ho, r⟩, hk a (by simp) _ st.2⟩
  item := fun i s Q E hi st hQ => by
    refine next_bai st.2 st.1 (c := b[i]) (by simp [hi]) fun h' hit' hs' => ?_
    exact hQ _ h' (s.toks + 1) ⟨_, _, by simp [hi], rfl⟩ ⟨hit', hs'.extBut a _ hne st.2⟩ fun b o hb e => hs'.extBut b o (fun h => hb (by simp [h])) e
  done := fun s Q E st hQ => end_bai hh st.2 st.1 (by simp) fun h' he' => hQ h' s.toks fun b o hb e => he' b o (fun h => hb (by simp [h])) e
  self := fun _ _ _ _ st hQ => pyIter_bai st.1 hQ
end
end Mine

open PySem PySem.W PySem.Calls PyProof.Rows
set_option Elab.async false
set_option maxRecDepth 100000
namespace Mine
abbrev emptyList : Obj := { cls := .type "list", data := .seq #[] }
theorem ints_of_items {b : Array UInt8} {acc : Array Value} (h : ItemsOf (fun i v => ∃ c u, b[i]? = some c ∧ v = .int (c.toNat : Int) u) acc b.size) : IntsAre acc.toList (KBw.bInts b) := by
  have key : ∀ (vs : List Value) (cs : List UInt8), vs.length = cs.length → (∀ (j : Nat) (v : Value), vs[j]? = some v → ∃ (c : UInt8) (u : Tok), cs[j]? = some c ∧ v = Value.int (c.toNat : Int) u) → IntsAre vs (cs.map fun c => (c.toNat : Int)) := by
    intro vs
    induction vs with
    | nil => intro cs hl _; cases cs with
      | nil => exact .nil
      | cons _ _ => cases hl
    | cons v r ih => intro cs hl hj; cases cs with
      | nil => cases hl
      | cons c rc =>
        obtain ⟨c', u, e1, e2⟩ := hj 0 v rfl
        cases e1
        subst e2
        exact .cons _ _ (ih rc (Nat.succ.inj hl) fun j v e => hj (j + 1) v e)
  refine key acc.toList b.toList (by rw [Array.length_toList, Array.length_toList]; exact h.1) fun j v e => ?_
  obtain ⟨c, u, e1, e2⟩ := h.2 j v (by rw [← Array.getElem?_toList]; exact e)
  exact ⟨c, u, by rw [Array.getElem?_toList]; exact e1, e2⟩
theorem isub_bytes : isSubtype (.type "bytes") (.type "bytes") = pure true := by rw [isSubtype_type]; kernel_rfl
section
variable {prog : Program} {w : World} {A : Around} {E : Value → Shared → Prop} {s : Shared} {a : Addr} {b : Array UInt8} {t : Tok}
/-- list(v), v what a walk goes over -/
theorem list_walk {v : Value} {T : String} {n : Nat} {P : Nat → Value → Prop} {Q : Value → Shared → Prop} (hh : A.handled = none) (hn : n ≤ sizeLine)
    (hT : ∀ h', (∀ c o, s.heap.get? c = some o → h'.get? c = some o) → ({ s with heap := h' } : Shared).TypeIs v T)
    (h2 : (Value.type T == Value.type "list") = false) (h3 : (Value.type T == Value.type "tuple") = false) (hv : ∀ c, v = .ref c → c < s.heap.objs.size)
    (hl : ["set", "frozenset", "dict", "dict_keys", "dict_values", "dict_items"].any (Value.type T == .type ·) = false)
    (hint : ∀ A' h' Q', (∀ c o, s.heap.get? c = some o → h'.get? c = some o) → Q' false ({ s with heap := h' } : Shared) → wpAny (model prog w) A' (Builtin.List.listLengthHint v) Q' E { s with heap := h' })
    (iter : ∀ h' Q', (∀ c o, s.heap.get? c = some o → h'.get? c = some o) → s.heap.objs.size < h'.objs.size →
      (∀ o fp St, (∀ A' : Around, A'.handled = none → Walks prog w A' h'.objs.size fp [h'.objs.size] n P St) → (∀ c ∈ fp, c ≠ s.heap.objs.size) → St 0 (h'.push o) → Q' (.ref h'.objs.size) ({ s with heap := h'.push o } : Shared)) →
      wpAny (model prog w) A.in1.in1 (pyIter v) Q' E { s with heap := h' })
    (hQ : ∀ h' tk' acc c', (∀ c o, s.heap.get? c = some o → h'.get? c = some o) → h'.get? s.heap.objs.size = some { cls := .type "list", dict := none, data := .seq acc c', slots := #[] } → ItemsOf P acc n → Q (.ref s.heap.objs.size) { s with heap := h', toks := tk' }) :
    wpAny (model prog w) A (call (.type "list") [v]) Q E s := by
  refine callType_codes (Q₁ := fun obj s₁ => obj = .ref s.heap.objs.size ∧ s₁ = { s with heap := s.heap.push emptyList }) F.called_list (F.typeCall_list_1 _) F.entry_list_init
    (code_list_new _ ⟨rfl, rfl⟩) fun obj s₁ h₁ => ?_
  obtain ⟨rfl, rfl⟩ := h₁
  have hS : (s.heap.push emptyList).get? s.heap.objs.size = some emptyList := Heap.get?_push_size _ rfl
  refine ⟨⟨_, hS, rfl⟩, F.args_list_init_2 _ _, ?_⟩
  show wpAny _ A.in1.in1 (do let old ← Builtin.List.listItems (.ref s.heap.objs.size); Builtin.List.listUpdate (.ref s.heap.objs.size) (fun _ => #[]); letGo old.toList.reverse; Builtin.List.listExtendWith (.ref s.heap.objs.size) v .none) _ _ _
  refine wpAny_bind ?_
  unfold Builtin.List.listItems
  refine wpAny_bind (wpAny_seqItems hS rfl (wpAny_pure ?_))
  show wpAny _ A.in1.in1 (updateSeq s.heap.objs.size (fun _ => #[]) >>= fun _ => letGo (#[] : Array Value).toList.reverse >>= fun _ => Builtin.List.listExtendWith (.ref s.heap.objs.size) v .none) _ _ _
  refine wpAny_bind (wpAny_updateSeq hS rfl ?_)
  have hS₂ := Heap.get?_update_self (Obj.mapSeq (fun _ => (#[] : Array Value))) hS rfl
  generalize hH : (s.heap.push emptyList).update s.heap.objs.size (Obj.mapSeq (fun _ => (#[] : Array Value))) = H at hS₂ ⊢
  have keep : ∀ c o, s.heap.get? c = some o → H.get? c = some o := fun c o e => by
    rw [← hH]
    exact (Heap.get?_update_other _ _ (Nat.ne_of_gt (Heap.lt_size e))).trans (Heap.get?_push_of_some _ e)
  have hHs : H.objs.size = s.heap.objs.size + 1 := by
    rw [← hH, Heap.size_after_update, Heap.size_push]
  refine wpAny_bind (wpAny_letGo ?_)
  unfold Builtin.List.listExtendWith
  refine wpAny_bind (wpAny_typeOf (hT H keep) ?_)
  have h1 : Builtin.List.listSameRef (.ref s.heap.objs.size) v = false := by
    cases v with
    | ref c => exact beq_eq_false_iff_ne.mpr (Nat.ne_of_gt (hv c rfl))
    | _ => rfl
  simp only [h1, h2, h3, Bool.or_false, Bool.false_eq_true, if_false]
  refine wpAny_bind (iter H _ keep (by omega) fun o fp St W hfp hst => ?_)
  have keep2 : ∀ c ob, s.heap.get? c = some ob → (H.push o).get? c = some ob := fun c ob e => Heap.get?_push_of_some _ (keep c ob e)
  refine wpAny_bind (wpAny_holding (hint _ _ _ keep2 ?_))
  refine iteF ?_ ?_
  · rw [Bool.false_or]
    exact hl
  have hSf : s.heap.objs.size ∉ fp := fun hm => hfp _ hm rfl
  have hS3 : (H.push o).get? s.heap.objs.size = some _ := Heap.get?_push_of_some _ hS₂
  refine wpAny_pure ⟨plainId_quiet F.plain_extend_loop _, codeAny_extend_loopS (W A.in1.in1 hh).toS hn _ hSf _ n 0 _ _ _ rfl (Nat.zero_le _) hst hS3 (ItemsOf.nil _) fun s' acc' c' hm hS' hacc => ?_⟩
  obtain ⟨hp, g, d, tk, os⟩ := s'
  have e1 := hm.gens
  have e2 := hm.drawn
  have e3 := hm.os
  dsimp only at e1 e2 e3
  subst e1 e2 e3
  refine ⟨rfl, hQ hp tk acc' c' (fun c ob e => hm.heap c ob (fun hb => ?_) (keep2 c ob e)) hS' hacc⟩
  have hlt := Heap.lt_size e
  rcases List.mem_cons.mp hb with h | h
  · exact absurd hlt (h ▸ Nat.lt_irrefl _)
  · rw [List.mem_singleton.mp h, hHs] at hlt; exact absurd hlt (Nat.not_lt.mpr (Nat.le_succ _))
/-- list(b), b bytes -/
theorem list_bytes {Q : Value → Shared → Prop} (hh : A.handled = none) (hz : b.size ≤ sizeLine)
    (hQ : ∀ h' tk' acc c', (∀ c o, s.heap.get? c = some o → h'.get? c = some o) → h'.get? s.heap.objs.size = some (listOf acc c') → IntsAre acc.toList (KBw.bInts b) → Q (.ref s.heap.objs.size) { s with heap := h', toks := tk' }) :
    wpAny (model prog w) A (call (.type "list") [.bytes b t]) Q E s := by
  refine list_walk (T := "bytes") (n := b.size) (P := fun i v => ∃ c u, b[i]? = some c ∧ v = .int (c.toNat : Int) u) hh hz (fun _ _ => PySem.W.typeIs_bytes _ _ _) (by decide) (by decide) (fun _ e => by cases e) (by decide) ?_ ?_ fun h' tk' acc c' k g i => hQ h' tk' acc c' k g (ints_of_items i)
  · intro A' h' Q' _ hq
    unfold Builtin.List.listLengthHint
    refine wpAny_bind (wpAny_specialOf (T := "bytes") (PySem.W.typeIs_bytes _ _ _) look_bytes_len ?_)
    wp_delta
    refine wpAny_bind (wpAny_isInstance (T := "bytes") (b := true) (PySem.W.typeIs_bytes _ _ _) isub_bytes ?_)
    show wpAny _ A' (typeOf (Value.bytes b t) >>= _) _ _ _
    refine wpAny_bind (wpAny_typeOf (T := "bytes") (PySem.W.typeIs_bytes _ _ _) ?_)
    exact wpAny_pure hq
  · intro h' Q' _ hlt k
    refine KBw.pyIter_bytes ?_
    exact k _ [h'.objs.size] _ (fun A' ha => KBw.walks ha _ b t) (fun c hc => by rw [List.mem_singleton.mp hc]; exact Nat.ne_of_gt hlt) ⟨_, Heap.get?_push_size _ rfl, rfl, rfl⟩
/-- list(xs), xs a bytearray -/
theorem list_ba {Q : Value → Shared → Prop} (hb : s.heap.get? a = some (baObj b)) (hh : A.handled = none) (hz : b.size ≤ sizeLine)
    (hQ : ∀ h' tk' acc c', (∀ c o, s.heap.get? c = some o → h'.get? c = some o) → h'.get? s.heap.objs.size = some (listOf acc c') → IntsAre acc.toList (KBw.bInts b) → Q (.ref s.heap.objs.size) { s with heap := h', toks := tk' }) :
    wpAny (model prog w) A (call (.type "list") [.ref a]) Q E s := by
  refine list_walk (T := "bytearray") (n := b.size) (P := fun i v => ∃ c u, b[i]? = some c ∧ v = .int (c.toNat : Int) u) hh hz (fun _ k => typeIs_ba (k _ _ hb)) (by decide) (by decide) (fun c e => by cases e; exact Heap.lt_size hb) (by decide) ?_ ?_ fun h' tk' acc c' k g i => hQ h' tk' acc c' k g (ints_of_items i)
  · intro A' h' Q' k hq
    have hT : ({ s with heap := h' } : Shared).TypeIs (.ref a) "bytearray" := typeIs_ba (k _ _ hb)
    unfold Builtin.List.listLengthHint
    refine wpAny_bind (wpAny_specialOf hT look_ba_len ?_)
    wp_delta
    refine wpAny_bind (wpAny_isInstance hT sub_ba ?_)
    show wpAny _ A' (typeOf (Value.ref a) >>= _) _ _ _
    refine wpAny_bind (wpAny_typeOf hT ?_)
    exact wpAny_pure hq
  · intro h' Q' kp hlt k
    have ha := Heap.lt_size hb
    have hne : a ≠ h'.objs.size := Nat.ne_of_lt (Nat.lt_trans ha hlt)
    refine pyIter_ba (kp _ _ hb) ?_
    refine k _ [h'.objs.size, a] _ (fun A' hA => walks_ba hA _ a hne b) (fun c hc => ?_) ⟨⟨_, Heap.get?_push_size _ rfl, rfl, rfl⟩, Heap.get?_push_of_some _ (kp _ _ hb)⟩
    rcases List.mem_cons.mp hc with rfl | hc
    · exact Nat.ne_of_gt hlt
    · rw [List.mem_singleton.mp hc]; exact Nat.ne_of_lt ha
end
end Mine

open PySem PySem.W PySem.Calls PyProof.Rows
set_option Elab.async false
set_option maxRecDepth 100000
namespace Mine
/-- the number that octets spell, the greatest first -/
def num (b : Array UInt8) : Int := KFB.value (KBw.bInts b)
theorem num_nat (b : Array UInt8) : ∃ n : Nat, num b = (n : Int) ∧ n < 256 ^ b.size ∧ b.toList.foldl (fun (acc : Int) (c : UInt8) => acc * 256 + (c.toNat : Int)) ((0 : Nat) : Int) = (n : Int) := by
  refine ⟨b.toList.foldl (fun (acc : Nat) (c : UInt8) => acc * 256 + c.toNat) 0, ?_, ?_, KFB.foldI_eq _ _⟩
  · exact (KFB.fold_cast b.toList 0).symm
  · have h1 := KFB.fold_lt b.toList 0
    rw [Nat.zero_add, Nat.one_mul, Array.length_toList] at h1
    exact h1
theorem num_lt {b : Array UInt8} (h : b.size ≤ 64) : 0 ≤ num b ∧ num b < 2 ^ 512 := by
  obtain ⟨n, e, hn, _⟩ := num_nat b
  have h2 : (256 : Nat) ^ b.size ≤ 256 ^ 64 := Nat.pow_le_pow_right (by decide) h
  have h3 : (256 : Nat) ^ 64 = 2 ^ 512 := by decide +kernel
  rw [e]
  refine ⟨Int.natCast_nonneg n, ?_⟩
  have h4 : n < 2 ^ 512 := by omega
  exact_mod_cast h4
theorem bits_of {x : Int} {k : Nat} (h0 : 0 ≤ x) (h1 : x < 2 ^ k) : Builtin.Int.intBits x ≤ k := by
  refine intBits_le_iff.mpr ?_
  have : (x.natAbs : Int) < ((2 ^ k : Nat) : Int) := by
    rw [Int.natAbs_of_nonneg h0]
    exact_mod_cast h1
  omega
theorem mulOk {x y : Int} (hx : Builtin.Int.intBits x ≤ 1000) (hy : Builtin.Int.intBits y ≤ 1000) : IntMulOk x y := by
  unfold IntMulOk
  have h : Builtin.Int.intTooBig ((Builtin.Int.intBits x : Int) + (Builtin.Int.intBits y : Int)) = false := by
    unfold Builtin.Int.intTooBig
    refine decide_eq_false ?_
    have : bitsLine = 134217728 := by first | rfl | decide
    first | omega | (rw [this]; omega)
  rw [h, Bool.and_false]
  exact Bool.false_ne_true
section
variable {prog : Program} {w : World} {A : Around} {E : Value → Shared → Prop} {s : Shared} {a x : Addr} {b : Array UInt8} {t u : Tok} {h₀ : Heap} {L : Addr} {news : List (Addr × Obj)}
theorem grown_any {M : Model} {n : Nat} {Q : Value → Shared → Prop} (hn : n < 2 ^ 512) (h : Q (.int (n : Int) s.toks) { s with toks := s.toks + 1 }) : wpAny M A (mkIntGrown (n : Int)) Q E s := by
  unfold mkIntGrown
  have hl : ¬ ((n : Int).natAbs.log2 ≥ bitsLine) := by
    rw [Int.natAbs_natCast]
    have hb : bitsLine = 134217728 := by first | rfl | decide
    by_cases hz : n = 0
    · subst hz
      rw [hb]
      decide
    · have h1 := (Nat.log2_lt hz).mpr hn
      omega
  rw [if_neg hl]
  exact wpAny_mkInt h
theorem fb_tree {P : Fin → Shared → Prop} (hsz : b.size ≤ 64) (h : P (.done (.ret (.int (num b) s.toks))) { s with toks := s.toks + 1 }) :
    wpAny (model prog w) A (Builtin.«int.from_bytes» ⟨[.type "int", .bytes b t, .str (PySem.Str.ofString "big") u], []⟩) P E s := by
  obtain ⟨n, e, hn, hf⟩ := num_nat b
  have h2 : (256 : Nat) ^ b.size ≤ 256 ^ 64 := Nat.pow_le_pow_right (by decide) hsz
  have h3 : (256 : Nat) ^ 64 = 2 ^ 512 := by decide +kernel
  unfold Builtin.«int.from_bytes»
  refine wpAny_bind (wpAny_of_eq (a := true) KFB.type_int ?_)
  refine iteF rfl ?_
  refine wpAny_bind (wpAny_of_eq (a := true) F.conv_sub_int ?_)
  refine iteF rfl ?_
  refine wpAny_bind (wpAny_of_eq (a := [some (.bytes b t), some (.str (PySem.Str.ofString "big") u), none]) (by kernel_rfl) ?_)
  refine wpAny_bind (wpAny_of_eq (a := PySem.Str.ofString "big") (by kernel_rfl) ?_)
  refine wpAny_bind (wpAny_of_eq (a := false) rfl ?_)
  refine wpAny_bind (wpAny_of_eq (a := false) (by kernel_rfl) ?_)
  refine wpAny_bind (wpAny_of_eq (a := b) rfl ?_)
  show wpAny _ _ (mkIntGrown (b.toList.foldl (fun (acc : Int) (b : UInt8) => acc * 256 + (b.toNat : Int)) ((0 : Nat) : Int)) >>= fun v => _) _ _ _
  rw [hf]
  refine wpAny_bind (grown_any (by omega) ?_)
  rw [← e]
  refine iteT (by decide +kernel) ?_
  exact wpAny_bind (wpAny_pure (wpAny_pure h))
theorem fb_tree_ba {P : Fin → Shared → Prop} (hb : s.heap.get? a = some (baObj b)) (hsz : b.size ≤ 64) (h : P (.done (.ret (.int (num b) s.toks))) { s with toks := s.toks + 1 }) :
    wpAny (model prog w) A (Builtin.«int.from_bytes» ⟨[.type "int", .ref a, .str (PySem.Str.ofString "big") u], []⟩) P E s := by
  obtain ⟨n, e, hn, hf⟩ := num_nat b
  have h2 : (256 : Nat) ^ b.size ≤ 256 ^ 64 := Nat.pow_le_pow_right (by decide) hsz
  have h3 : (256 : Nat) ^ 64 = 2 ^ 512 := by decide +kernel
  have hT := typeIs_ba hb
  unfold Builtin.«int.from_bytes»
  refine wpAny_bind (wpAny_of_eq (a := true) KFB.type_int ?_)
  refine iteF rfl ?_
  refine wpAny_bind (wpAny_of_eq (a := true) F.conv_sub_int ?_)
  refine iteF rfl ?_
  refine wpAny_bind (wpAny_of_eq (a := [some (.ref a), some (.str (PySem.Str.ofString "big") u), none]) (by kernel_rfl) ?_)
  refine wpAny_bind (wpAny_of_eq (a := PySem.Str.ofString "big") (by kernel_rfl) ?_)
  refine wpAny_bind (wpAny_of_eq (a := false) rfl ?_)
  refine wpAny_bind (wpAny_of_eq (a := false) (by kernel_rfl) ?_)
  refine wpAny_bind ?_
  show wpAny _ _ (specialOf (.ref a) (PySem.Str.ofString "__bytes__") >>= _) _ _ _
  refine wpAny_bind (wpAny_specialOf hT look_ba_bytes ?_)
  have look : ∀ (Q : Option (Array UInt8) → Shared → Prop), Q (some b) s → wpAny (model prog w) A (do
      match (← load a).data with
      | .prim (.bytes b _) | .bytearray b .. => pure (some b)
      | _ => pure none) Q E s := fun Q hq => wpAny_bind (wpAny_load hb (wpAny_pure hq))
  refine wpAny_bind (look _ ?_)
  refine iteT rfl ?_
  refine wpAny_bind (wpAny_specialOf hT look_ba_buffer ?_)
  refine wpAny_bind (wpAny_specialOf hT look_ba_release ?_)
  refine wpAny_bind (wpAny_isInstance hT sub_ba ?_)
  refine iteF rfl ?_
  refine wpAny_bind (look _ ?_)
  refine wpAny_pure ?_
  show wpAny _ _ (mkIntGrown (b.toList.foldl (fun (acc : Int) (b : UInt8) => acc * 256 + (b.toNat : Int)) ((0 : Nat) : Int)) >>= fun v => _) _ _ _
  rw [hf]
  refine wpAny_bind (grown_any (by omega) ?_)
  rw [← e]
  refine iteT (by decide +kernel) ?_
  exact wpAny_bind (wpAny_pure (wpAny_pure h))
theorem check_fb_ba {o : PySem.Str} : checkBoundCall "int.from_bytes" ⟨[.type "int", .ref a, .str o u], []⟩ = pure () := by first | kernel_rfl | rfl
/-- int.from_bytes(b, 'big') at the bound method's call -/
theorem call_fb {Q : Value → Shared → Prop} (N : News h₀ L s.heap news) (hm : (x, KFB.bound) ∈ news) (hsz : b.size ≤ 64)
    (h : ∀ t' k, Q (.int (num b) t') { s with toks := k }) : wpAny (model prog w) A (call (.ref x) [.bytes b t, .str (PySem.Str.ofString "big") u]) Q E s :=
  KFB.call_of (KFB.at_of N hm) (fun z => fb_tree hsz z) (h _ _)
theorem call_fb_ba {Q : Value → Shared → Prop} (N : News h₀ L s.heap news) (hm : (x, KFB.bound) ∈ news) (hb : s.heap.get? a = some (baObj b)) (hsz : b.size ≤ 64)
    (h : ∀ t' k, Q (.int (num b) t') { s with toks := k }) : wpAny (model prog w) A (call (.ref x) [.ref a, .str (PySem.Str.ofString "big") u]) Q E s := by
  refine wpAny_call (codeAny_of_tree ?_)
  show wpAny _ A.in1 (callAny (.ref x) ⟨[.ref a, .str (PySem.Str.ofString "big") u], []⟩) _ _ s
  simp only [callAny]
  refine wpAny_bind (wpAny_load (KFB.at_of N hm) ?_)
  simp only [KFB.bound, show (Value.type "builtin_function_or_method" == Value.type "method" || Value.type "builtin_function_or_method" == Value.type "builtin_function_or_method" || Value.type "builtin_function_or_method" == Value.type "method-wrapper") = true by decide, if_true]
  refine iteT (by decide) ?_
  refine wpAny_bind (wpAny_of_eq (a := ()) check_fb_ba ?_)
  refine wpAny_bind (wpAny_pure (wpAny_pure ?_))
  exact ⟨KFB.quiet_fb, codeAny_builtin KFB.entry_fb (fb_tree_ba hb hsz (h _ _))⟩

/-- x.to_bytes(32, 'big') -/
def be32 (y : Int) : Array UInt8 := (KTBy.low y 32).reverse.toArray
theorem be32_size (y : Int) : (be32 y).size = 32 := by
  unfold be32
  rw [List.size_toArray, List.length_reverse, KTBy.low_length]
theorem to_be32 {y : Int} {v : Tok} {Q : Value → Shared → Prop} (h0 : 0 ≤ y) (h1 : y < 256 ^ 32) (h : ∀ t' k', Q (.bytes (be32 y) t') { s with toks := k' }) :
    wpAny (model prog w) A (call (.builtin "int.to_bytes") [.int y t, .int 32 u, .str (PySem.Str.ofString "big") v]) Q E s := by
  refine wpAny_call_entry KTBy.slot (typeIs_int s y t) KTBy.entry ?_ (KTBy.args _ _ _)
  have hb : Builtin.Int.intBits y ≤ 256 := bits_of h0 (by have e : (256 : Int) ^ 32 = 2 ^ 256 := by decide +kernel
                                                          rw [← e]; exact h1)
  show wpAny _ _ (Builtin.Int.intOfSelf (.int y t) >>= fun y => _) _ _ s
  refine wpAny_bind (wpAny_of_eq (a := y) rfl ?_)
  show wpAny _ _ (Builtin.Int.intBindNamed "to_bytes" ["length", "byteorder", "signed"] 0 2 [.int 32 u, .str (PySem.Str.ofString "big") v] [] >>= fun l => _) _ _ s
  refine wpAny_bind (wpAny_of_eq (a := [some (.int 32 u), some (.str (PySem.Str.ofString "big") v), none]) (by kernel_rfl) ?_)
  show wpAny _ _ (Builtin.Int.intIndex "int.to_bytes" (.int 32 u) >>= fun n => _) _ _ s
  refine wpAny_bind (wpAny_of_eq (a := (32 : Int)) rfl ?_)
  refine iteF (by decide) ?_
  refine wpAny_bind (wpAny_of_eq (a := PySem.Str.ofString "big") (by kernel_rfl) ?_)
  refine wpAny_bind (wpAny_of_eq (a := false) rfl ?_)
  refine wpAny_bind (wpAny_of_eq (a := false) (by kernel_rfl) ?_)
  refine wpAny_ite_false (by decide) ?_
  refine wpAny_ite_false (by decide) ?_
  refine wpAny_ite_false (decide_eq_false (show ¬ ((32 : Int) > (sizeLine : Int)) by rw [sizeLine_eq]; omega)) ?_
  refine iteF (by show (decide (y < 0) && !false) = false; rw [decide_eq_false (show ¬ y < 0 by omega)]; rfl) ?_
  refine iteF (by show (_ && decide ((Builtin.Int.intBits y : Int) > 8 * (32 : Int))) = false; rw [decide_eq_false (show ¬ ((Builtin.Int.intBits y : Int) > 8 * (32 : Int)) by omega), Bool.and_false]) ?_
  exact wpAny_bind (wpAny_mkBytes (wpAny_pure ⟨_, rfl, h _ _⟩) (by show (List.reverse (KTBy.low y 32)).length ≤ sizeLine; rw [List.length_reverse, KTBy.low_length, sizeLine_eq]; omega))
end
end Mine

open PySem PySem.W PySem.Calls PyProof.Rows
set_option Elab.async false
set_option maxRecDepth 100000
namespace Mine
section
variable {M : Model} {A : Around} {E : Value → Shared → Prop} {s : Shared} {env : Env}
theorem N_execs_cons {st : Stmt} {rest : List Stmt} {Q : Flow → Shared → Prop}
    (h : wpN M A (exec st env) (fun f s' => match f with | .next => wpN M A (execs rest env) Q E s' | f => Q f s') E s) :
    wpN M A (execs (st :: rest) env) Q E s := by
  rw [execs_cons]
  refine N_bind (N_mono h (fun f s' h' => ?_) fun _ _ x => x)
  cases f <;> first | exact h' | exact N_pure h'
theorem N_execs_any {st : Stmt} {rest : List Stmt} {Q : Flow → Shared → Prop}
    (h : wpAny M A (exec st env) (fun f s' => match f with | .next => wpN M A (execs rest env) Q E s' | f => Q f s') E s) :
    wpN M A (execs (st :: rest) env) Q E s := N_execs_cons (N_any h)
theorem N_execs_nil {Q : Flow → Shared → Prop} (h : Q .next s) : wpN M A (execs [] env) Q E s := N_any (wpAny_execs_nil h)
theorem N_Assign_Name {x : PySem.Str} {pos' : Pos} {value : PySem.Expr} {pos : Pos} {Q : Flow → Shared → Prop}
    (h : wpN M A (eval value env) (fun v s₁ => wpAny M A (storeName env x v) (fun _ => Q .next) E s₁) E s)
    (hs : swapsWith value (some (.Name x pos')) pos.line env = pure false := by rfl) :
    wpN M A (exec (.Assign [.Name x pos'] value pos) env) Q E s := by
  rw [exec_Assign_Name env x pos' value pos hs]
  refine N_pre (wpAny_standAt (N_bind (N_mono h (fun v s₁ h₁ => ?_) fun _ _ x => x)))
  exact N_pre (wpAny_standAt (N_pre (wpAny_bindName (wpAny_mono h₁ (fun _ _ q => N_pure q) fun _ _ x => x))))
theorem N_Expr_none {e : PySem.Expr} {pos : Pos} {Q : Flow → Shared → Prop} (h : wpN M A (eval e env) (fun v s' => v = .none ∧ Q .next s') E s)
    (hi : interactive env = false := by rfl) (hs : swapsWith e none pos.line env = pure false := by rfl) :
    wpN M A (exec (.Expr e pos) env) Q E s := by
  rw [exec_Expr env e pos hi hs]
  refine N_pre (wpAny_standAt (N_bind (N_mono h (fun v s' h' => ?_) fun _ _ x => x)))
  obtain ⟨rfl, h'⟩ := h'
  rw [dropValue_plain (fun a e => by cases e)]
  exact N_pure h'
theorem N_If {test : PySem.Expr} {body orelse : List Stmt} {pos : Pos} {Q : Flow → Shared → Prop}
    (h : wpN M A (isTrue test env (eval test env))
      (fun b s₂ => if b then wpN M A (execs body env) Q E s₂ else wpN M A (execs orelse env) Q E s₂) E s) :
    wpN M A (exec (.If test body orelse pos) env) Q E s := by
  rw [exec_If]
  refine N_pre (wpAny_standAt (N_bind (N_mono h (fun b s₂ h₂ => ?_) fun _ _ x => x)))
  cases b <;> exact h₂
theorem N_isTrue_Compare1 {l : PySem.Expr} {op : CmpOp} {r : PySem.Expr} {pos : Pos} {whole : Sem Value} {Q : Bool → Shared → Prop}
    (h : wpN M A (eval l env) (fun a s₁ => wpAny M A (eval r env) (fun b s₂ => wpAny M A (compareOp op a b)
      (fun c s₃ => wpAny M A (truthy c) Q E s₃) E s₂) E s₁) E s)
    (hm : behindInMarks op r = false := by with_unfolding_all rfl) : wpN M A (isTrue (.Compare l [op] [r] pos) env whole) Q E s := by
  rw [isTrue_Compare1, markedBehindIn_of_false hm]
  refine N_bind (N_mono h (fun a s₁ h₁ => N_any ?_) fun _ _ x => x)
  intro Γ p hΓ
  simp only [Sem.wp_bind', Sem.wp_holding, Sem.wp_cmd_standAt, Sem.wp_operate]
  exact Sem.wp_mono M Γ _ (fun b _ s₂ h₂ => Sem.wp_mono M Γ _ (fun c p₃ s₃ h₃ => h₃ Γ p₃ hΓ)
    (fun _ _ _ h' => h') _ _ (h₂ Γ _ hΓ)) (fun _ _ _ h' => h') _ _ (h₁ Γ p hΓ)
theorem N_Compare1 {l : PySem.Expr} {op : CmpOp} {r : PySem.Expr} {pos : Pos} {Q : Value → Shared → Prop}
    (h : wpN M A (eval l env) (fun a s₁ => wpAny M A (eval r env) (fun b s₂ => wpAny M A (compareOp op a b) Q E s₂) E s₁) E s)
    (hm : behindInMarks op r = false := by with_unfolding_all rfl) :
    wpN M A (eval (.Compare l [op] [r] pos) env) Q E s := by
  rw [eval_Compare1, markedBehindIn_of_false hm]
  refine N_bind (N_mono h (fun a s₁ h₁ => N_any ?_) fun _ _ x => x)
  intro Γ p hΓ
  simp only [Sem.wp_bind', Sem.wp_holding, Sem.wp_cmd_standAt, Sem.wp_operate]
  exact Sem.wp_mono M Γ _ (fun b _ s₂ h₂ => h₂ Γ _ hΓ) (fun _ _ _ h' => h') _ _ (h₁ Γ p hΓ)
theorem N_Return_some {e : PySem.Expr} {pos : Pos} {Q : Flow → Shared → Prop} (h : wpN M A (eval e env) (fun v => Q (.ret v)) E s) :
    wpN M A (exec (.Return (some e) pos) env) Q E s := by
  rw [exec_Return_some]
  exact N_pre (wpAny_standAt (N_bind (N_mono h (fun v s' q => N_pure q) fun _ _ x => x)))
theorem N_Call_Name {x : PySem.Str} {p pos : Pos} {args : List PySem.Expr} {trees : List (Bool × Sem Value)} {Q : Value → Shared → Prop} (ht : backTo pos (starEach args env) = trees)
    (h : wpAny M A (eval (.Name x p) env) (fun f s₁ => wpN M A (callWith pos f [] trees []) Q E s₁) E s) :
    wpN M A (eval (.Call (.Name x p) args [] pos) env) Q E s := by
  subst ht
  exact N_pre (m := eval (.Name x p) env) h
theorem N_callWith {P : Heap → Prop} {pos : Pos} {f : Value} {first : List Value} {args : List (Bool × Sem Value)} {Q : Value → Shared → Prop} (hplain : args.any (·.1) = false)
    (hk : ∀ h, P h → ∃ k, (k = Keeper.frame ∨ k = Keeper.machine ∨ k = Keeper.boundFrame) ∧ Looks M h (keeperOf f) k)
    (h : wpN M A (evalArgs f true args []) (fun a s₁ => P s₁.heap ∧ wpN M A (call f (first ++ a.pos) a.kw) Q E s₁) E s) : wpN M A (callWith pos f first args []) Q E s := by
  unfold callWith
  refine N_bind (N_holding (N_mono h (fun a s₁ h₁ => N_pre (wpAny_standAt ?_)) fun _ _ x => x))
  obtain ⟨k, hk', L⟩ := hk _ h₁.1
  simp only [hplain, List.any_nil, Bool.or_false]
  refine N_pre (L.here ?_)
  have tail : ∀ {t : Sem Value}, wpN M A t Q E s₁ → wpN M A (t >>= fun r => holding [r] point >>= fun _ => pure r) Q E s₁ :=
    fun ht => N_bind (N_mono ht (fun r s₂ hr => N_pre (wpAny_holding (wpAny_point (N_pure hr)))) fun _ _ x => x)
  have marked (mk : Value) : wpN M A (callMarked mk f (first ++ a.pos) a.kw) Q E s₁ := by unfold callMarked; exact N_keep h₁.2
  rcases hk' with rfl | rfl | rfl <;> dsimp only <;> first | exact tail h₁.2 | (split <;> first | exact tail h₁.2 | exact tail (marked _))
theorem keeper_type {T : String} (h : Heap) (_ : True) : ∃ k, (k = Keeper.frame ∨ k = Keeper.machine ∨ k = Keeper.boundFrame) ∧ Looks M h (keeperOf (.type T)) k :=
  ⟨.machine, .inr (.inl rfl), Looks.of_pure rfl⟩
theorem keeper_builtin {T : String} (h : Heap) (_ : True) : ∃ k, (k = Keeper.frame ∨ k = Keeper.machine ∨ k = Keeper.boundFrame) ∧ Looks M h (keeperOf (.builtin T)) k :=
  ⟨.machine, .inr (.inl rfl), Looks.of_pure rfl⟩
theorem N_evalArgs1 {f : Value} {x : Sem Value} {Q : Args → Shared → Prop}
    (h : wpN M A x (fun v s' => Q ⟨[v], []⟩ s') E s) : wpN M A (evalArgs f true [(false, x)] []) Q E s := by
  unfold evalArgs
  show wpN M A (spliced [(false, x)] >>= _) Q E s
  refine N_bind ?_
  rw [spliced]
  refine N_bind (N_mono h (fun v s₁ h₁ => ?_) fun _ _ x => x)
  simp only [Bool.false_eq_true, if_false]
  refine N_pre (wpAny_pure (N_pre (wpAny_holding (spliced_nil (N_pure ?_)))))
  refine N_holding ?_
  exact N_pre (wpAny_pure (N_pre (wpAny_pure (N_pure h₁))))
/-- T(e) with e in the clean contexts -/
theorem N_callType1 {T : String} {pos : Pos} {t : Sem Value} {Q : Value → Shared → Prop} (h : wpN M A t (fun v s₁ => wpN M A (call (.type T) [v]) Q E s₁) E s) :
    wpN M A (callWith pos (.type T) [] [(false, t)] []) Q E s :=
  N_callWith (P := fun _ => True) rfl keeper_type (N_evalArgs1 (N_mono h (fun _ _ q => ⟨trivial, q⟩) fun _ _ x => x))
theorem codeN_func {body : List Stmt} {R : Result → Shared → Prop}
    (h : wpN M (A.deeper env) (execs body env) (fun f s' => R (.ok (.ret (match f with | .ret v => v | _ => .none))) s') (fun _ _ => False) s) 
    (hM : M.den (.func body env) = (do point; match ← (execs body env).onRaise (leaving env) with | .ret v => ret v | _ => ret .none)) :
    codeN M A (.func body env) R s := by
  refine codeN_tree rfl ?_
  rw [hM]
  show wpN _ (A.deeper env) _ _ _ s
  refine N_pre (wpAny_point (N_bind (N_onRaise (N_mono h (fun f s' h' => ?_) fun _ _ h' => h'.elim))))
  cases f <;> exact N_pure h'
end
section
variable {prog : Program} {w : World} {A : Around} {E : Value → Shared → Prop} {s : Shared} {env : Env} {R : Result → Shared → Prop}
theorem codeN_call_function {a : Addr} {args : Args} {o : Obj} {fd : FuncData} {body : List Stmt} (hroom : A.depth < recursionLimit)
    (ho : s.heap.get? a = some o)
    (hd' : o.data = .func fd) (hco : fd.scope.isCoroutine = false) (hgen : fd.scope.isGenerator = false) (hbody : fd.body = .stmts body) (hcd : s.heap.CodeRec fd.code fd.qualname)
    (h : wpAny (model prog w) A.in1 (bindArgs fd args) (fun binds s₁ =>
      wpAny (model prog w) A.in1 (newFunctionEnv fd.scope fd.globals fd.closure binds (fd.qualname ++ ".<locals>.") (some a) fd.code none fd.builtins)
        (fun env s₂ => s₂.heap.NoLimit ∧ codeN (model prog w) A (.func body env) R s₂) (fun e s' => R (.error e) s') s₁) (fun e s' => R (.error e) s') s) :
    codeN (model prog w) A (.call (.ref a) args) R s := by
  refine codeN_tree rfl ?_
  show wpN _ A.in1 (callAny (.ref a) args) _ _ s
  refine N_any ?_
  simp only [callAny]
  refine wpAny_bind (wpAny_load ho ?_)
  obtain ⟨c, oc, vs, tq, hc, hoc, hdc, hq⟩ := hcd
  simp only [hd', callFunction, hco, hgen, hbody, hc]
  rw [hc] at h
  refine wpAny_bind (m := field (.ref c) 1) (wpAny_field hoc hdc hq (wpAny_bind (wpAny_pure ?_)))
  exact wpAny_bind (wpAny_mono h (fun binds s₁ h₁ => wpAny_bind (wpAny_mono h₁ (fun env s₂ h₂ => wpAny_bind (wpAny_enterFrame h₂.1 hroom
    (wpAny_pure (And.intro rfl h₂.2)))) fun _ _ h' => h')) fun _ _ h' => h')
theorem codeN_call_def {a : Addr} {o : Obj} {fd : FuncData} {body : List Stmt} {args : Args} {binds : List (PySem.Str × Value)}
    (hroom : A.depth < recursionLimit) (ho : s.heap.get? a = some o) (hdata : o.data = .func fd) (hlim : s.heap.NoLimit) (hcd : s.heap.CodeRec fd.code fd.qualname)
    (hbody : fd.body = .stmts body) (hbind : BindsTo s fd args binds)
    (hcell : ∀ x ∈ fd.scope.names, x.2 ≠ .cell) (hloc : ∀ x ∈ binds, fd.scope.names.lookup x.1 = some .local)
    (h : ∀ h₀, h₀.Ns s.heap.objs.size (fun x => binds.reverse.lookup x) → (∀ b o, s.heap.get? b = some o → h₀.get? b = some o) →
      wpN (model prog w) (A.deeper (callEnv fd s.heap.objs.size a)) (execs body (callEnv fd s.heap.objs.size a)) (fun f s' => R (.ok (.ret (match f with | .ret v => v | _ => .none))) s') (fun _ _ => False)
        { s with heap := h₀, toks := s.toks + binds.length })
    (hco : fd.scope.isCoroutine = false := by rfl) (hgen : fd.scope.isGenerator = false := by rfl) (hk : fd.scope.kind = .function := by rfl) :
    codeN (model prog w) A (.call (.ref a) args) R s := by
  refine codeN_call_function hroom ho hdata hco hgen hbody hcd (hbind _ _ _ _ ?_)
  refine wpAny_newFunctionEnv hcell hloc (fun h₀ hns₀ hsb₀ => ⟨hlim.fresh _ hsb₀, codeN_func (h h₀ hns₀ fun b o e => ?_) rfl⟩) hk
  exact hsb₀.extBut b o (Nat.ne_of_lt (Heap.lt_size e)) (Heap.get?_push_of_some _ e)
theorem codeN_loop {M : Model} {c : Code} (hb : badCode c = false) (hq : c.quiet = true) (I : Nat → Shared → Prop)
    (turn : ∀ n s, I n s → wpN M (A.under c) (M.den c)
      (fun fin s' => match fin with
        | .done f => R (.ok f) s'
        | .again c' => (c' = c ∧ ∃ m, m < n ∧ I m s') ∨ (c'.quiet = true ∧ codeN M A c' R s')) (fun e s' => R (.error e) s') s)
    (n : Nat) (h : I n s) : codeN M A c R s := by
  induction n using Nat.strongRecOn generalizing s with
  | ind n ih =>
    refine codeN_tree hb (N_mono (turn n s h) (fun fin s' hf => ?_) fun _ _ h' => h')
    cases fin with
    | done f => exact hf
    | again c' =>
      rcases hf with ⟨rfl, m, hm, hI⟩ | hf
      · exact ⟨hq, ih m hm hI⟩
      · exact hf
theorem codeN_forLoop {target : PySem.Expr} {it : Value} {body orelse : List Stmt} (I : Nat → Shared → Prop)
    (turn : ∀ n s, I n s → wpAny (model prog w) A (pyNext it) (fun r s₁ => match r with
      | none => wpAny (model prog w) A (execs orelse env) (fun f s₃ => R (.ok f) s₃) (fun _ _ => False) s₁
      | some v => wpAny (model prog w) A (assign target env v) (fun _ s₂ => wpN (model prog w) A (execs body env) (fun f s₃ => f = .next ∧ ∃ m, m < n ∧ I m s₃)
          (fun _ _ => False) s₂) (fun _ _ => False) s₁) (fun _ _ => False) s)
    (n : Nat) (h : I n s) (ht : ∀ v, letOwnedTupleGo target it v = pure () := by intro _; rfl) : codeN (model prog w) A (.forLoop target it body orelse env) R s := by
  refine codeN_loop rfl rfl I (fun n s hI => ?_) n h
  show wpN _ _ ((forTurn target it body orelse env).onRaise (fun x => do noteFrame x env; theTreesLotGoes x)) _ _ s
  have nope : ∀ {α : Type} {t : Sem α} {Q : α → Shared → Prop} {E' : Value → Shared → Prop} {s' : Shared}, wpAny (model prog w) A t Q (fun _ _ => False) s' → wpAny (model prog w) A t Q E' s' := fun x => wpAny_mono x (fun _ _ q => q) fun _ _ q => q.elim
  refine N_onRaise ?_
  simp only [forTurn]
  refine N_pre (wpAny_standAt (N_bind (N_onRaise (N_any (wpAny_mono (turn n s hI) (fun r s₁ h₁ => ?_) fun _ _ h' => h'.elim)))))
  cases r with
  | none => exact N_pure (.inr ⟨rfl, codeN_any (codeAny_block (wpAny_mono h₁ (fun _ _ q => q) fun _ _ q => q.elim))⟩)
  | some v =>
    refine N_pre (wpAny_of_eq (ht v) ?_)
    refine N_pre (wpAny_mono h₁ (fun _ s₂ h₂ => ?_) fun _ _ h' => h'.elim)
    refine N_bind (N_mono h₂ (fun f s₃ h₃ => ?_) fun _ _ h' => h'.elim)
    obtain ⟨rfl, h₃⟩ := h₃
    exact N_pure (.inl ⟨rfl, h₃⟩)
theorem N_For {target iter : PySem.Expr} {body orelse : List Stmt} {pos : Pos} {Q : Flow → Shared → Prop}
    (h : wpAny (model prog w) A (eval iter env) (fun x s₁ => wpAny (model prog w) A (pyIter x) (fun it s₂ =>
      codeN (model prog w) A (.forLoop target it body orelse env) (fun r s' => match r with | .ok f => Q f s' | .error e => False) s₂) E s₁) E s)
    (hs : ∀ x, foldedSetIterable iter env x = pure x := by intro _; rfl) :
    wpN (model prog w) A (exec (.For target iter body orelse pos) env) Q E s := by
  rw [exec_For]
  refine N_pre (wpAny_standAt (N_pre (wpAny_mono h (fun x s₁ h₁ => N_pre (wpAny_of_eq (hs x) (N_pre (wpAny_standAt ?_)))) fun _ _ x => x)))
  refine N_pre (wpAny_holding (wpAny_mono h₁ (fun it s₂ h₂ => ?_) fun _ _ h' => h'))
  unfold runOwn
  refine N_onRaise (N_run (codeN_mono h₂ fun r s' hr => ?_))
  cases r with
  | ok f => exact hr
  | error e => exact hr.elim
end
end Mine

open PySem PySem.W PySem.Calls PyProof.Rows
set_option Elab.async false
set_option maxRecDepth 100000
namespace Mine
section
variable {prog : Program} {w : World} {A₀ A : Around} {E : Value → Shared → Prop} {s : Shared} {base h₀ : Heap} {L : Addr} {m : PySem.Str → Option Value} {news : List (Addr × Obj)} {K : Frag} {p : Program} {loose : List PySem.Str}
  {mean : ExcName → Option Value} {mg mb : PySem.Str → Option Value} {an : Option Addr}
theorem codeN_def {env : Env} {outer : List Env} {R : Result → Shared → Prop} {name qual : PySem.Str} {params : Arguments} {body : List Stmt} {scope : Scope} {dV kV doc pm cdv ct oc : Value} {od : Option Addr} {osl : Array (Option Value)} {f : Addr} {args : Args} {binds : List (PySem.Str × Value)}
    (B : Below A₀ base outer h₀) (F : Fr h₀ L s.heap m) (X₀ : K.In h₀) (N : News h₀ L s.heap news) (T : Top p loose mean mg mb h₀) (hA : A.frames = some (env :: outer)) (hf : env.frame = some L) (hke : env.scope.kind = .function)
    (ho : K.lookup f = some ⟨oc, od, .func (fnOf name qual params body scope dV kV doc pm an cdv ct), osl⟩) (hcd : codeIn K cdv qual = true) (hroom : A.depth < recursionLimit)
    (hbind : BindsTo s (fnOf name qual params body scope dV kV doc pm an cdv ct) args binds) (hloc : ∀ y ∈ binds, scope.names.lookup y.1 = some .local)
    (h : ∀ g L' h₁ tk, Fr h₀ L g m → Fr g L' h₁ (fun y => binds.reverse.lookup y) → News g L' h₁ news → Below A base (env :: outer) g → K.In g → Top p loose mean mg mb g →
      wpN (model prog w) (A.deeper (envOf qual scope L' f cdv)) (execs body (envOf qual scope L' f cdv))
        (fun fl s' => LeaveK h₀ L m g R (match fl with | .ret v => v | _ => .none) s') (fun _ _ => False)
        { s with heap := h₁, toks := tk })
    (hco : scope.isCoroutine = false) (hgen : scope.isGenerator = false) (hk : scope.kind = .function)
    (hcell : ∀ x ∈ scope.names, x.2 ≠ .cell) : codeN (model prog w) A (.call (.ref f) args) R s := by
  obtain ⟨FG, BG, st, lv⟩ := groundX (R := R) B F N hA hf hke
  have X := X₀.keeps F.keep
  refine codeN_call_def (fd := fnOf name qual params body scope dV kV doc pm an cdv ct) (body := body) (binds := binds) hroom (X _ _ ho) rfl (T.nolimit.keeps F.keep) (codeRec_of X hcd) rfl hbind hcell hloc (fun h₁ hns hk₁ => ?_) hco hgen hk
  exact N_mono (h _ s.heap.objs.size h₁ _ FG ⟨hns, fun b o e => hk₁ b o (of_hideAll _ e), Nat.le_of_eq (hideAll_size _ _)⟩
    (fun p hp => ⟨hk₁ _ _ (N p hp).1, Nat.ne_of_lt (Heap.lt_size (N p hp).1), hideAll_none _ (List.mem_map_of_mem hp)⟩) BG (X₀.keeps st) (T.keeps st)) (fun fl s' hl => lv _ _ hl) fun _ _ y => y
theorem fr_but {a : Addr} {h h' : Heap} (F : Fr h₀ L h m) (hL : a ≠ L) (hn : h₀.get? a = none) (hb : But a h h') : Fr h₀ L h' m := by
  obtain ⟨oL, es, ep, h1, h2, h3, h4⟩ := F.ns
  exact ⟨⟨oL, es, ep, hb _ _ (Ne.symm hL) h1, h2, h3, h4⟩, fun b o e => hb b o (fun x => by subst x; rw [hn] at e; cases e) (F.keep b o e), F.above⟩
theorem news_but {a : Addr} {o o' : Obj} {h h' : Heap} (N : News h₀ L h ((a, o) :: news)) (hne : ∀ p ∈ news, p.1 ≠ a) (hb : But a h h') (ho : h'.get? a = some o') : News h₀ L h' ((a, o') :: news) := by
  intro p hp
  rcases List.mem_cons.mp hp with rfl | hp
  · have := N _ List.mem_cons_self
    exact ⟨ho, this.2⟩
  · have := N p (List.mem_cons_of_mem _ hp)
    exact ⟨hb _ _ (hne p hp) this.1, this.2⟩
theorem N_baL {v : Value} {r : Array UInt8} {Q : Value → Shared → Prop} (F : Fr h₀ L s.heap m) (N : News h₀ L s.heap news) (hv : Src v r) (hz : r.size ≤ sizeLine)
    (h : ∀ h' D, Fr h₀ L h' m → News h₀ L h' ((D, baObj r) :: news) → (∀ p ∈ news, p.1 ≠ D) → Q (.ref D) { s with heap := h' }) :
    wpN (model prog w) A (call (.type "bytearray") [v]) Q E s := by
  refine N_ba hv hz fun h' hg hk => h h' s.heap.objs.size (F.keeps hk) (fun p hp => ?_) (News.apart N)
  rcases List.mem_cons.mp hp with rfl | hp
  · refine ⟨hg, fun e => ?_, ?_⟩
    · have := F.ns.lt
      rw [← e] at this
      exact absurd this (Nat.lt_irrefl _)
    · exact F.fresh
  · have := N p hp
    exact ⟨hk _ _ this.1, this.2⟩
theorem N_extendL {Q : Value → Shared → Prop} {a c : Addr} {x y : Array UInt8} (F : Fr h₀ L s.heap m) (N : News h₀ L s.heap ((a, baObj x) :: news)) (hc : (c, baObj y) ∈ news) (hne : ∀ p ∈ news, p.1 ≠ a) (hz : (x ++ y).size ≤ sizeLine)
    (h : ∀ h', Fr h₀ L h' m → News h₀ L h' ((a, baObj (x ++ y)) :: news) → Q .none { s with heap := h' }) :
    wpN (model prog w) A (call (.builtin "bytearray.extend") [.ref a, .ref c]) Q E s := by
  have h1 := N _ List.mem_cons_self
  exact N_extend h1.1 (N.get (List.mem_cons_of_mem _ hc)) hz fun h' hg hb => h h' (fr_but F h1.2.1 h1.2.2 hb) (news_but N hne hb hg)
def rIt (x left : Int) : Obj := { cls := .type "range_iterator", dict := none, data := .fields #[rawInt x, rawInt left, rawInt 1], slots := #[] }
theorem next_item {I : Addr} {x left : Int} {Q : Option Value → Shared → Prop} (F : Fr h₀ L s.heap m) (N : News h₀ L s.heap ((I, rIt x left) :: news)) (hne : ∀ p ∈ news, p.1 ≠ I) (hl : 0 < left)
    (h : ∀ h', Fr h₀ L h' m → News h₀ L h' ((I, rIt (x + 1) (left - 1)) :: news) → Q (some (.int x s.toks)) { s with heap := h', toks := s.toks + 1 }) :
    wpAny (model prog w) A (pyNext (.ref I)) Q E s := by
  have h1 := N _ List.mem_cons_self
  refine wpAny_pyNext_range_item (step := 1) h1.1 hl fun h' hit hs => ?_
  have hb : But I s.heap h' := fun b o hb e => (hs.2 b hb).trans e
  exact h h' (fr_but F h1.2.1 h1.2.2 hb) (news_but N hne hb hit)
theorem next_end {I : Addr} {x left : Int} {Q : Option Value → Shared → Prop} (hh : A.handled = none) (F : Fr h₀ L s.heap m) (N : News h₀ L s.heap ((I, rIt x left) :: news)) (hne : ∀ p ∈ news, p.1 ≠ I) (hl : left ≤ 0)
    (h : ∀ h', Fr h₀ L h' m → News h₀ L h' news → Q none { s with heap := h' }) :
    wpAny (model prog w) A (pyNext (.ref I)) Q E s := by
  have h1 := N _ List.mem_cons_self
  refine wpAny_pyNext_range_end (step := 1) hh h1.1 hl fun h' hs => ?_
  have hb : But I s.heap h' := hs
  refine h h' (fr_but F h1.2.1 h1.2.2 hb) fun p hp => ?_
  have := N p (List.mem_cons_of_mem _ hp)
  exact ⟨hb _ _ (hne p hp) this.1, this.2⟩
theorem iter_range {r : Addr} {b : Int} {t u v : Tok} {Q : Value → Shared → Prop} (F : Fr h₀ L s.heap m) (N : News h₀ L s.heap news) (hr : IsRange s.heap r 0 b 1 t u v) (hsm : Builtin.Range.small 0 b 1 = true)
    (h : ∀ h' I, Fr h₀ L h' m → News h₀ L h' ((I, rIt 0 (Builtin.Range.rangeSize 0 b 1)) :: news) → (∀ p ∈ news, p.1 ≠ I) → Q (.ref I) { s with heap := h' }) :
    wpAny (model prog w) A (pyIter (.ref r)) Q E s :=
  wpAny_pyIter_range hr hsm (h _ _ (F.push _) (N.push F _) (News.apart N))
end
end Mine

open PySem PySem.W PySem.Calls PyProof.Rows
set_option Elab.async false
set_option maxRecDepth 100000
namespace Mine
theorem bits_num {b : Array UInt8} (h : b.size ≤ 64) : Builtin.Int.intBits (num b) ≤ 1000 := Nat.le_trans (bits_of (num_lt h).1 (num_lt h).2) (by decide)
local macro_rules | `(tactic| walk_at "call ref") => `(tactic| (k_here; (with_reducible show wpAny _ _ (call (Value.ref _) [Value.bytes _ _, Value.str _ _]) _ _ _); k_dflt (refine call_fb (by k_asm) (by k_mem) (by assumption) ?_); intro _ _))
local macro_rules | `(tactic| walk_at "call ref") => `(tactic| (k_here; (with_reducible show wpAny _ _ (call (Value.ref _) [Value.ref _, Value.str _ _]) _ _ _); k_dflt (refine call_fb_ba (by k_asm) (by k_mem) (News.get (by k_asm) (by repeat (first | assumption | exact List.mem_cons_self | refine List.mem_cons_of_mem _ ?_))) (by assumption) ?_); intro _ _))
/-- the three great numbers of the keyed hash, by their names -/
structure Consts (c3 c5 c8 : Int) : Prop where
  e3 : c3 = 3 ^ Int.toNat 160
  e5 : c5 = 5 ^ Int.toNat 110
  e8 : c8 = 256 ^ Int.toNat 32
theorem consts : ∃ c3 c5 c8, Consts c3 c5 c8 := ⟨_, _, _, rfl, rfl, rfl⟩
def sumOf (k o : Array UInt8) : Int := num k * 3 ^ Int.toNat 160 + num o * 5 ^ Int.toNat 110 + (k.size : Int) * 71 + (o.size : Int)
def tot (k o : Array UInt8) : Int := (sumOf k o).fmod (256 ^ Int.toNat 32 - 5)
local macro_rules | `(tactic| walk_at "call builtin:len") => `(tactic| (k_here; (with_reducible show wpAny _ _ (call (Value.builtin "len") [Value.ref _]) _ _ _); k_dflt (refine len_ba (News.get (by k_asm) (by repeat (first | assumption | exact List.mem_cons_self | refine List.mem_cons_of_mem _ ?_))) (by rw [sizeLine_eq]; omega) ?_); (try dsimp only)))
def keyedB (k o : Array UInt8) : Array UInt8 := be32 (tot k o)
structure SumIs (k o : Array UInt8) (z : Int) : Prop where
  eq : z = sumOf k o
structure TotIs (k o : Array UInt8) (z : Int) : Prop where
  eq : z = tot k o
  low : 0 ≤ z
  high : z < 256 ^ 32
section
variable {prog : Program} {w : World} {A : Around} {E : Value → Shared → Prop} {s : Shared} {b k o : Array UInt8} {x y c c3 c5 c8 : Int} {t u v : Tok} {Q : Value → Shared → Prop}
theorem mul_3 (C : Consts c3 c5 c8) (hz : b.size ≤ 64) (h : Q (.int (num b * c3) s.toks) { s with toks := s.toks + 1 }) :
    wpAny (model prog w) A (binaryOp .Mult (.int (num b) t) (.int c3 u)) Q E s := mul_int h (mulOk (bits_num hz) (by rw [C.e3]; decide +kernel))
theorem mul_5 (C : Consts c3 c5 c8) (hz : b.size ≤ 64) (h : Q (.int (num b * c5) s.toks) { s with toks := s.toks + 1 }) :
    wpAny (model prog w) A (binaryOp .Mult (.int (num b) t) (.int c5 u)) Q E s := mul_int h (mulOk (bits_num hz) (by rw [C.e5]; decide +kernel))
theorem mul_len (h : Q (.int (x * 71) s.toks) { s with toks := s.toks + 1 }) :
    wpAny (model prog w) A (binaryOp .Mult (.int x t) (.int 71 u)) Q E s := mul_int h (IntMulOk.of_right (by decide +kernel))
theorem pow_3 (C : Consts c3 c5 c8) (h : Q (.int c3 s.toks) { s with toks := s.toks + 1 }) : wpAny (model prog w) A (binaryOp .Pow (.int 3 t) (.int 160 u)) Q E s := by
  rw [C.e3] at h; exact pow_int_small (by decide) (by decide) (by decide) h
theorem pow_5 (C : Consts c3 c5 c8) (h : Q (.int c5 s.toks) { s with toks := s.toks + 1 }) : wpAny (model prog w) A (binaryOp .Pow (.int 5 t) (.int 110 u)) Q E s := by
  rw [C.e5] at h; exact pow_int_small (by decide) (by decide) (by decide) h
theorem pow_8 (C : Consts c3 c5 c8) (h : Q (.int c8 s.toks) { s with toks := s.toks + 1 }) : wpAny (model prog w) A (binaryOp .Pow (.int 256 t) (.int 32 u)) Q E s := by
  rw [C.e8] at h; exact pow_int_small (by decide) (by decide) (by decide) h
theorem add_last (C : Consts c3 c5 c8) (h : ∀ z, SumIs k o z → Q (.int z s.toks) { s with toks := s.toks + 1 }) :
    wpAny (model prog w) A (binaryOp .Add (.int (num k * c3 + num o * c5 + (k.size : Int) * 71) t) (.int (o.size : Int) u)) Q E s :=
  add_int (h _ ⟨by rw [C.e3, C.e5]; rfl⟩)
theorem mod_last {z : Int} (C : Consts c3 c5 c8) (S : SumIs k o z) (h : ∀ y, TotIs k o y → Q (.int y s.toks) { s with toks := s.toks + 1 }) :
    wpAny (model prog w) A (binaryOp .Mod (.int z t) (.int (c8 - 5) u)) Q E s := by
  have hp : (0 : Int) < c8 - 5 := by rw [C.e8]; decide +kernel
  have hlt : c8 - 5 < (256 : Int) ^ 32 := by rw [C.e8]; decide +kernel
  exact mod_int' (Int.ne_of_gt hp) (h _ ⟨by rw [S.eq, C.e8]; rfl, Int.fmod_nonneg_of_pos _ hp, Int.lt_trans (Int.fmod_lt_of_pos _ hp) hlt⟩)
theorem to_last (T : TotIs k o y) (h : ∀ t' k', Q (.bytes (keyedB k o) t') { s with toks := k' }) :
    wpAny (model prog w) A (call (.builtin "int.to_bytes") [.int y t, .int 32 u, .str (PySem.Str.ofString "big") v]) Q E s :=
  to_be32 T.low T.high (by rw [T.eq]; exact h)
end
local macro_rules | `(tactic| walk_at "binaryOp Pow int int") => `(tactic| (k_here; (first | (with_reducible refine' pow_3 ?hc ?_) | (with_reducible refine' pow_5 ?hc ?_) | (with_reducible refine' pow_8 ?hc ?_)); (case hc => with_reducible assumption); (try dsimp only)))
local macro_rules | `(tactic| walk_at "binaryOp Mult int int") => `(tactic| (k_here; (with_reducible refine mul_len ?_); (try dsimp only)))
local macro_rules | `(tactic| walk_at "binaryOp Mult int int") => `(tactic| (k_here; (first | (with_reducible refine' mul_3 ?hc ?hz ?_; (case hc => with_reducible assumption); (case hz => assumption)) | (with_reducible refine' mul_5 ?hc ?hz ?_; (case hc => with_reducible assumption); (case hz => assumption)))))
local macro_rules | `(tactic| walk_at "binaryOp Add int int") => `(tactic| (k_here; (with_reducible refine' add_last ?hc ?_); (case hc => with_reducible assumption); intro _ _; (try dsimp only)))
local macro_rules | `(tactic| walk_at "binaryOp Mod int int") => `(tactic| (k_here; (with_reducible refine' mod_last ?hc ?hs ?_); (case hc => with_reducible assumption); (case hs => with_reducible assumption); intro _ _; (try dsimp only)))
local macro_rules | `(tactic| walk_at "call builtin:int.to_bytes") => `(tactic| (k_here; (try dsimp only [List.nil_append, List.cons_append]); (with_reducible refine' to_last ?hc ?_); (case hc => with_reducible assumption); intro _ _; (try dsimp only)))
local macro_rules | `(tactic| walk_at "call builtin:len") => `(tactic| (k_here; (with_reducible show wpAny _ _ (call (Value.builtin "len") [Value.bytes _ _]) _ _ _); (refine PySem.W.len_bytes (by omega) ?_); (try dsimp only)))
set_option maxHeartbeats 8000000 in
/-- _law_keyed of bytes and bytes -/
theorem keyed_bb : ∀ (w : World) (mean : ExcName → Option Value) (mg mb : PySem.Str → Option Value) (dp un : Nat) (gd : Option (List Code)) (cn : PySem.Str) (cs : Scope) (a : Addr) (ccd : Value) (cl : List (PySem.Str × Addr)) (outer : List Env) (A₀ : Around) (base h₀ : Heap) (L : Addr) (m : PySem.Str → Option Value) (news : List (Addr × Obj)) (s : Shared)
    (k o : Array UInt8) (t u : Tok) (Q E : Value → Shared → Prop),
    Below A₀ base outer h₀ → Fr h₀ L s.heap m → (hd.heap_39 w.params).In h₀ → News h₀ L s.heap news → Top hd.view_39 (looseW hd.view_39 []) mean mg mb h₀ → cs.kind = .function →
    k.size ≤ 64 → o.size ≤ 64 → dp + 1 < recursionLimit → un + 8 < cLine →
    (∀ t h' tk', Fr h₀ L h' m → News h₀ L h' news → Q (.bytes (keyedB k o) t) { s with heap := h', toks := tk' }) →
    wpAny (model Challenge.rw_iv0036_01.row.prog w) (ktrTop dp un gd cn cs L a ccd cl outer) (call (.ref 35) [.bytes k t, .bytes o u]) Q E s := by
  w_on
  k_fill
  intro w mean mg mb dp un gd cn cs a ccd cl outer A₀ base h₀ L m news s k o t u Q E B F X N T hk hz1 hz2 hdp hun hret
  obtain ⟨c3, c5, c8, C⟩ := consts
  refine wpAny_call ?_
  k_dflt cell_enter
  k_steps
  refine hret _ _ _ ?_ ?_
  · assumption
  · exact cb_drop (by assumption) fun p hp => .tail _ (.tail _ hp)
set_option maxHeartbeats 8000000 in
/-- _law_keyed of bytes and a bytearray -/
theorem keyed_ba : ∀ (w : World) (mean : ExcName → Option Value) (mg mb : PySem.Str → Option Value) (dp un : Nat) (gd : Option (List Code)) (cn : PySem.Str) (cs : Scope) (a : Addr) (ccd : Value) (cl : List (PySem.Str × Addr)) (outer : List Env) (A₀ : Around) (base h₀ : Heap) (L : Addr) (m : PySem.Str → Option Value) (news : List (Addr × Obj)) (s : Shared)
    (k o : Array UInt8) (t : Tok) (c : Addr) (Q E : Value → Shared → Prop),
    Below A₀ base outer h₀ → Fr h₀ L s.heap m → (hd.heap_39 w.params).In h₀ → News h₀ L s.heap news → Top hd.view_39 (looseW hd.view_39 []) mean mg mb h₀ → cs.kind = .function →
    (c, baObj o) ∈ news → k.size ≤ 64 → o.size ≤ 64 → dp + 1 < recursionLimit → un + 8 < cLine →
    (∀ t h' tk', Fr h₀ L h' m → News h₀ L h' news → Q (.bytes (keyedB k o) t) { s with heap := h', toks := tk' }) →
    wpAny (model Challenge.rw_iv0036_01.row.prog w) (ktrTop dp un gd cn cs L a ccd cl outer) (call (.ref 35) [.bytes k t, .ref c]) Q E s := by
  w_on
  k_fill
  intro w mean mg mb dp un gd cn cs a ccd cl outer A₀ base h₀ L m news s k o t c Q E B F X N T hk hmem hz1 hz2 hdp hun hret
  obtain ⟨c3, c5, c8, C⟩ := consts
  refine wpAny_call ?_
  k_dflt cell_enter
  k_steps
  refine hret _ _ _ ?_ ?_
  · assumption
  · exact cb_drop (by assumption) fun p hp => .tail _ (.tail _ hp)
end Mine

open PySem PySem.W PySem.Calls PyProof.Rows
set_option Elab.async false
set_option maxRecDepth 100000
namespace Mine
theorem pow_ne (j : Nat) : (256 : Int) ^ j ≠ 0 := by
  have : (0 : Int) < 256 ^ j := Int.pow_pos (by decide)
  omega
theorem pow_log {j : Nat} (h : j < 256) : ((256 : Int) ^ j).natAbs.log2 < 9000 := by
  have e : ((256 : Int) ^ j).natAbs = 2 ^ (8 * j) := by
    rw [Int.natAbs_pow, Nat.pow_mul]
    rfl
  rw [e, Nat.log2_two_pow]
  omega
section
variable {prog : Program} {w : World} {A : Around} {E : Value → Shared → Prop} {s : Shared} {n k : Int} {t u : Tok} {Q : Value → Shared → Prop}
theorem pow_256 (h0 : 0 ≤ k) (h1 : k < 256) (h : Q (.int (256 ^ k.toNat) s.toks) { s with toks := s.toks + 1 }) : wpAny (model prog w) A (binaryOp .Pow (.int 256 t) (.int k u)) Q E s :=
  pow_int_small h0 (by omega) (by decide) h
theorem div_256 (h1 : k < 256) (h : Q (.int (n.fdiv (256 ^ k.toNat)) s.toks) { s with toks := s.toks + 1 }) : wpAny (model prog w) A (binaryOp .FloorDiv (.int n t) (.int (256 ^ k.toNat) u)) Q E s :=
  floordiv_int (pow_ne _) h (Or.inl (PyProof.noPylong_of_log2 (pow_log (by omega))))
end
local macro_rules | `(tactic| walk_at "binaryOp Pow int int") => `(tactic| (k_here; (with_reducible refine pow_256 ?a ?b ?_); (case a => omega); (case b => omega)))
local macro_rules | `(tactic| walk_at "binaryOp FloorDiv int int") => `(tactic| (k_here; (with_reducible refine div_256 ?b ?_); (case b => omega)))
/-- the octets of a number, the least first -/
def octs (n c : Int) : List Int := List.map (fun k' => (n.fdiv (256 ^ k'.toNat)).fmod 256) (rangeKs 0 (c - 0).toNat)
set_option maxHeartbeats 8000000 in
theorem octets : ∀ (w : World) (mean : ExcName → Option Value) (mg mb : PySem.Str → Option Value) (dp un : Nat) (gd : Option (List Code)) (cn : PySem.Str) (cs : Scope) (a : Addr) (ccd : Value) (cl : List (PySem.Str × Addr)) (outer : List Env) (A₀ : Around) (base h₀ : Heap) (L : Addr) (m : PySem.Str → Option Value) (news : List (Addr × Obj)) (s : Shared)
    (n c : Int) (t u : Tok) (Q E : Value → Shared → Prop),
    Below A₀ base outer h₀ → Fr h₀ L s.heap m → (hd.heap_39 w.params).In h₀ → News h₀ L s.heap news → Top hd.view_39 (looseW hd.view_39 []) mean mg mb h₀ → cs.kind = .function →
    0 ≤ n → 0 ≤ c → c < 100 → dp + 1 < recursionLimit → un + 8 < cLine →
    (∀ h' tk' D vs, Fr h₀ L h' m → News h₀ L h' ((D, LCg.lst vs) :: news) → IntsAre vs (octs n c) → Q (.ref D) { s with heap := h', toks := tk' }) →
    wpAny (model Challenge.rw_iv0036_01.row.prog w) (ktrTop dp un gd cn cs L a ccd cl outer) (call (.ref 40) [.int n t, .int c u]) Q E s := by
  w_on
  k_fill
  intro w mean mg mb dp un gd cn cs a ccd cl outer A₀ base h₀ L m news s n c t u Q E B F X N T hk hn hc0 hc1 hdp hun hret
  refine wpAny_call ?_
  k_dflt (refine' code_defC ?k1 ?k2 ?k3 ?k4 ?k5 ?kA ?kF ?kK ?k6 ?k7 ?k8 ?k9 ?kB ?kD ?_ ?c2 ?c3 ?c4; (case kA => exact rfl); (case kF => exact rfl); (case kK => assumption); (case k1 => k_asm); (case k2 => k_asm); (case k3 => k_asm); (case k4 => k_asm); (case k5 => k_asm); (case k6 => k_is); (case k7 => k_is); (case k8 => ktr_room); (case k9 => exact BindsTo.of_eq rfl); (case kB => exact rfl); (case kD => decide +kernel); (case c2 => exact rfl); (case c3 => exact rfl); (case c4 => exact rfl))
  intro g' L' h' tk' cells' FG' F' N' Y' B' X' T' l1
  k_dflt (k_cells Y'; (try simp only [List.cons_append, List.nil_append] at N'); (try dsimp only); (try k_lift B'); (try k_fold))
  k_steps
  refine hret _ _ _ ys ?_ ?_ ?_
  · assumption
  · exact cb_drop (by assumption) fun p hp => by
      rcases List.mem_cons.mp hp with rfl | hp
      · exact .head _
      · exact .tail _ (.tail _ hp)
  · assumption
end Mine

open PySem PySem.W PySem.Calls PyProof.Rows
set_option Elab.async false
set_option maxRecDepth 100000
namespace Mine
theorem bytes_of : ∀ (ns : List Int), (∀ n ∈ ns, 0 ≤ n ∧ n < 256) → ∃ b : Array UInt8, KBw.bInts b = ns ∧ b.size = ns.length := fun ns h => by
  refine ⟨(ns.map fun n => n.toNat.toUInt8).toArray, ?_, by simp⟩
  rw [KBw.ints_list, List.map_map]
  conv => rhs; rw [← List.map_id ns]
  refine List.map_congr_left fun n hn => ?_
  obtain ⟨h0, h1⟩ := h n hn
  show ((n.toNat.toUInt8).toNat : Int) = n
  have e : (n.toNat.toUInt8).toNat = n.toNat := by
    show n.toNat % 256 = n.toNat
    omega
  rw [e]
  omega
theorem octs_in {n c k : Int} (h : k ∈ octs n c) : 0 ≤ k ∧ k < 256 := by
  unfold octs at h
  obtain ⟨j, _, rfl⟩ := List.mem_map.mp h
  exact ⟨Int.fmod_nonneg_of_pos _ (by decide), Int.fmod_lt_of_pos _ (by decide)⟩
theorem octs_len {n c : Int} : (octs n c).length = c.toNat := by
  unfold octs
  rw [List.length_map, rangeKs_length]
  omega
theorem octets2 : ∀ (w : World) (mean : ExcName → Option Value) (mg mb : PySem.Str → Option Value) (dp un : Nat) (gd : Option (List Code)) (cn : PySem.Str) (cs : Scope) (a : Addr) (ccd : Value) (cl : List (PySem.Str × Addr)) (outer : List Env) (A₀ : Around) (base h₀ : Heap) (L : Addr) (m : PySem.Str → Option Value) (news : List (Addr × Obj)) (s : Shared)
    (n c : Int) (t u : Tok) (Q E : Value → Shared → Prop),
    Below A₀ base outer h₀ → Fr h₀ L s.heap m → (hd.heap_39 w.params).In h₀ → News h₀ L s.heap news → Top hd.view_39 (looseW hd.view_39 []) mean mg mb h₀ → cs.kind = .function →
    0 ≤ n → 0 ≤ c → c < 20 → dp + 1 < recursionLimit → un + 8 < cLine →
    (∀ h' tk' D vs (b : Array UInt8), Fr h₀ L h' m → News h₀ L h' ((D, LCg.lst vs) :: news) → IntsAre vs (KBw.bInts b) → b.size < 20 → Q (.ref D) { s with heap := h', toks := tk' }) →
    wpAny (model Challenge.rw_iv0036_01.row.prog w) (ktrTop dp un gd cn cs L a ccd cl outer) (call (.ref 40) [.int n t, .int c u]) Q E s := by
  intro w mean mg mb dp un gd cn cs a ccd cl outer A₀ base h₀ L m news s n c t u Q E B F X N T hk hn hc0 hc1 hdp hun hret
  refine octets w mean mg mb dp un gd cn cs a ccd cl outer A₀ base h₀ L m news s n c t u Q E B F X N T hk hn hc0 (by omega) hdp hun fun h' tk' D vs F' N' hi => ?_
  obtain ⟨b, hb, hz⟩ := bytes_of (octs n c) fun _ => octs_in
  exact hret h' tk' D vs b F' N' (hb ▸ hi) (by rw [hz, octs_len]; omega)
end Mine

open PySem PySem.W PySem.Calls PyProof.Rows
set_option Elab.async false
set_option maxRecDepth 100000
namespace Mine
/-- RFC 5869's T(0), T(1), .. -/
def Tn (key info : Array UInt8) : Nat → Array UInt8
  | 0 => #[]
  | i + 1 => keyedB key (Tn key info i ++ info ++ #[(i + 1).toUInt8])
def accN (key info : Array UInt8) : Nat → Array UInt8
  | 0 => #[]
  | i + 1 => accN key info i ++ Tn key info (i + 1)
def blk (key info : Array UInt8) (i : Nat) : Array UInt8 := Tn key info i ++ info ++ #[(i + 1).toUInt8]
/-- the names that the loop of _law_rows turns -/
def mRows (m : PySem.Str → Option Value) (row now turn : Value) : PySem.Str → Option Value := fun y =>
  if y = PySem.Str.ofString "turn" then some turn else if y = PySem.Str.ofString "row" then some row else if y = PySem.Str.ofString "now" then some now else m y
theorem mRows_start {m : PySem.Str → Option Value} {r n t : Value} : (fun y => if y = PySem.Str.ofString "turn" then some t else if y = PySem.Str.ofString "now" then some n else if y = PySem.Str.ofString "row" then some r else m y) = mRows m r n t := by
  funext y
  unfold mRows
  by_cases h1 : y = PySem.Str.ofString "turn"
  · rw [if_pos h1, if_pos h1]
  · rw [if_neg h1, if_neg h1]
    by_cases h2 : y = PySem.Str.ofString "now"
    · subst h2
      rw [if_pos rfl, if_neg (by decide), if_pos rfl]
    · rw [if_neg h2, if_neg h2]
theorem mRows_turn {m : PySem.Str → Option Value} {r n t r' n' t' : Value} : (fun y => if y = PySem.Str.ofString "turn" then some t' else if y = PySem.Str.ofString "row" then some r' else if y = PySem.Str.ofString "now" then some n' else mRows m r n t y) = mRows m r' n' t' := by
  funext y
  unfold mRows
  by_cases h1 : y = PySem.Str.ofString "turn"
  · simp only [if_pos h1]
  · by_cases h2 : y = PySem.Str.ofString "row"
    · simp only [if_neg h1, if_pos h2]
    · by_cases h3 : y = PySem.Str.ofString "now"
      · simp only [if_neg h1, if_neg h2, if_pos h3]
      · simp only [if_neg h1, if_neg h2, if_neg h3]
theorem keyed_size (k o : Array UInt8) : (keyedB k o).size = 32 := be32_size _
theorem Tn_size (key info : Array UInt8) : ∀ i, (Tn key info (i + 1)).size = 32 := fun _ => keyed_size _ _
theorem Tn_le (key info : Array UInt8) : ∀ i, (Tn key info i).size ≤ 32
  | 0 => Nat.zero_le _
  | i + 1 => Nat.le_of_eq (Tn_size key info i)
theorem accN_size (key info : Array UInt8) : ∀ i, (accN key info i).size = 32 * i
  | 0 => rfl
  | i + 1 => by
    show (accN key info i ++ Tn key info (i + 1)).size = 32 * (i + 1)
    rw [Array.size_append, accN_size key info i, Tn_size]
    omega
theorem ints_one {j : Nat} (h : j + 1 < 256) : KBw.bInts #[(j + 1).toUInt8] = [(j : Int) + 1] := by
  have e : ((j + 1).toUInt8).toNat = j + 1 := by
    show (j + 1) % 256 = j + 1
    omega
  show [(((j + 1).toUInt8).toNat : Int)] = _
  rw [e]
  rfl
theorem ints_blk (key info : Array UInt8) {j : Nat} (h : j + 1 < 256) : KBw.bInts (blk key info j) = KBw.bInts (Tn key info j) ++ KBw.bInts info ++ [(j : Int) + 1] :=
  KBw.ints_app (KBw.ints_app rfl rfl) (ints_one h)
theorem blk_size {key info : Array UInt8} {j : Nat} (h : info.size ≤ 20) : (blk key info j).size ≤ 64 := by
  unfold blk
  rw [Array.size_append, Array.size_append]
  have h1 := Tn_le key info j
  show _ + _ + 1 ≤ 64
  omega
theorem byteArr_ints (b : Array UInt8) : byteArr (KBw.bInts b) = b := by
  unfold byteArr KBw.bInts
  rw [List.map_map]
  have e : ((fun n : Int => n.toNat.toUInt8) ∘ fun c : UInt8 => (c.toNat : Int)) = _root_.id := by
    funext c
    show ((c.toNat : Int)).toNat.toUInt8 = c
    rw [Int.toNat_natCast]
    exact UInt8.ofNat_toNat
  rw [e, List.map_id, Array.toArray_toList]
section
variable {prog : Program} {w : World} {A : Around} {E : Value → Shared → Prop} {s : Shared} {h₀ : Heap} {L D : Addr} {m : PySem.Str → Option Value} {news : List (Addr × Obj)} {vs : List Value} {c n : Nat} {b : Array UInt8} {t : Tok} {Q : Value → Shared → Prop}
theorem isList_lst (N : News h₀ L s.heap news) (hm : (D, W.listOf vs.toArray c) ∈ news) : s.heap.IsList D vs.toArray := ⟨_, N.get hm, rfl, c, rfl⟩
theorem len_ints (N : News h₀ L s.heap news) (hm : (D, W.listOf vs.toArray c) ∈ news) (hi : IntsAre vs (KBw.bInts b)) (hz : b.size = n) (hn : n ≤ 10000) (h : ∀ t k, Q (.int (n : Int) t) { s with toks := k }) :
    wpAny (model prog w) A (call (.builtin "len") [.ref D]) Q E s := by
  have e : vs.toArray.size = n := by rw [List.size_toArray, hi.length, KBw.ints_length, hz]
  refine PyProof.Rows.len_list (isList_lst N hm) (by rw [e]; omega) ?_
  rw [e]
  exact h _ _
theorem bytes_ints (F : Fr h₀ L s.heap m) (N : News h₀ L s.heap news) (hh : A.handled = none) (hm : (D, W.listOf vs.toArray c) ∈ news) (hi : IntsAre vs (KBw.bInts b)) (hn : b.size ≤ 10000)
    (h : ∀ h' t' k, Fr h₀ L h' m → News h₀ L h' news → Q (.bytes b t') { s with heap := h', toks := k }) : wpAny (model prog w) A (call (.type "bytes") [.ref D]) Q E s := by
  refine call_bytes_ints (isList_lst N hm) hi (fun k hk => KBw.ints_in hk) (by rw [hi.length, KBw.ints_length, sizeLine_eq]; omega) hh fun h' t' k hk => ?_
  rw [byteArr_ints]
  exact h h' t' k (F.keptAll hk) (N.grown hk)
/-- list(b) upon the ledger -/
theorem list_bytes_N (F : Fr h₀ L s.heap m) (N : News h₀ L s.heap news) (hh : A.handled = none) (hz : b.size ≤ 10000)
    (h : ∀ h' tk' D vs c', Fr h₀ L h' m → News h₀ L h' ((D, W.listOf (List.toArray vs) c') :: news) → IntsAre vs (KBw.bInts b) → Q (.ref D) { s with heap := h', toks := tk' }) :
    wpAny (model prog w) A (call (.type "list") [.bytes b t]) Q E s := by
  refine list_bytes hh (by rw [sizeLine_eq]; omega) fun h' tk' acc c' hk hg hi => ?_
  refine h h' tk' _ acc.toList c' (F.keptAll hk) ?_ hi
  intro p hp
  rcases List.mem_cons.mp hp with rfl | hp
  · obtain ⟨oL, _, _, hL, _⟩ := F.ns
    refine ⟨by rw [Array.toArray_toList]; exact hg, Nat.ne_of_gt (Heap.lt_size hL), ?_⟩
    cases hq : h₀.get? s.heap.objs.size with
    | none => rfl
    | some o' => exact absurd (Heap.lt_size (F.keep _ _ hq)) (Nat.lt_irrefl _)
  · exact (N.grown hk) p hp
theorem add_ints {a₁ a₂ : Addr} {c₁ c₂ : Nat} {vs ws : List Value} {x y : Array UInt8} (F : Fr h₀ L s.heap m) (N : News h₀ L s.heap news) (h1 : (a₁, W.listOf vs.toArray c₁) ∈ news) (h2 : (a₂, W.listOf ws.toArray c₂) ∈ news)
    (i1 : IntsAre vs (KBw.bInts x)) (i2 : IntsAre ws (KBw.bInts y)) (hz : x.size + y.size ≤ 10000)
    (h : ∀ h' D zs c', Fr h₀ L h' m → News h₀ L h' ((D, W.listOf (List.toArray zs) c') :: news) → IntsAre zs (KBw.bInts (x ++ y)) → Q (.ref D) { s with heap := h' }) :
    wpAny (model prog w) A (binaryOp .Add (.ref a₁) (.ref a₂)) Q E s := by
  refine add_lists (vs := vs) (ws := ws) (hsz := ?_) F N (isList_lst N h1) (isList_lst N h2) fun h' F' N' => ?_
  · refine h h' _ (vs ++ ws) _ F' N' ?_
    rw [KBw.ints_app rfl rfl]
    exact IntsAre.append i1 i2
  · rw [i1.length, i2.length, KBw.ints_length, KBw.ints_length, sizeLine_eq]
    omega
theorem slice_ints {value slice : PySem.Expr} {ns : List Int} {y : Int} {vs : List Value} {c : Nat} (F : Fr h₀ L s.heap m) (N : News h₀ L s.heap news) (hm : (D, W.listOf vs.toArray c) ∈ news) (hi : IntsAre vs ns) (h0 : 0 ≤ y) (hz : ns.length ≤ 10000)
    (h : ∀ h' D' ws c', Fr h₀ L h' m → News h₀ L h' ((D', W.listOf (List.toArray ws) c') :: news) → IntsAre ws (ns.take y.toNat) → Q (.ref D') { s with heap := h' })
    (hs : subscripted slice false (.ref D) (.ref s.heap.objs.size) = operate [.ref s.heap.objs.size, .ref D] (getItem (.ref D) (.ref s.heap.objs.size))) (ht : ∀ r, letTemporaryGo value (.ref D) r = pure ()) :
    wpAny (model prog w) A (subscriptTail value slice (.ref D) (.ref s.heap.objs.size)) Q E { s with heap := s.heap.push { cls := .type "slice", data := .fields #[.none, .int y t, .none] } } := by
  refine kmk_slice F N (isList_lst N hm) (lo := none) (hi := some y) (by constructor) (by constructor) (fun D' h' F' N' _ => ?_) hs ht (by rw [List.size_toArray, hi.length, sizeLine_eq]; omega)
  refine h h' D' (slicePick vs.toArray none (some y) none).toList 0 F' ?_ (kmk_upto hi h0)
  rw [Array.toArray_toList]
  exact N'
theorem ints_sing {j : Nat} {t : Tok} (h : j + 1 < 256) : IntsAre [.int ((j : Int) + 1) t] (KBw.bInts #[(j + 1).toUInt8]) := by
  rw [ints_one h]
  exact .cons _ _ .nil
end
local macro_rules | `(tactic| walk_at "call builtin:len") => `(tactic| (k_here; (with_reducible show wpAny _ _ (call (Value.builtin "len") [Value.ref _]) _ _ _); k_dflt (refine len_ints (by k_asm) (by k_mem) (by assumption) (by assumption) (by omega) ?_); intro _ _; (try dsimp only)))
local macro_rules | `(tactic| walk_at "binaryOp Add ref ref") => `(tactic| (k_here; k_dflt (refine' add_ints ?F ?N ?m1 ?m2 ?i1 ?i2 ?z ?_; (case F => k_asm); (case N => k_asm); (case m1 => (repeat (first | assumption | exact List.mem_cons_self | refine List.mem_cons_of_mem _ ?_))); (case m2 => (repeat (first | assumption | exact List.mem_cons_self | refine List.mem_cons_of_mem _ ?_))); (case i1 => assumption); (case i2 => first | assumption | exact ints_sing (by omega)); (case z => first | omega | (rw [keyed_size]; omega) | ((try simp only [Array.size_append, List.size_toArray, List.length_cons, List.length_nil]); omega))); intro _ _ _ _ _ _ _; (try dsimp only)))
local macro_rules | `(tactic| walk_at "subscriptTail") => `(tactic| (k_here; (with_reducible show wpAny _ _ (subscriptTail _ (Expr.Slice _ _ none _) (Value.ref _) (Value.ref _)) _ _ _); (with_reducible rename Fr _ _ _ _ => F'); (with_reducible rename News _ _ _ _ => N'); k_dflt (refine' slice_ints (s := ⟨_, _, _, _, _⟩) F' N' ?m ?i ?a ?z ?_ ?s ?t; (case m => (repeat (first | assumption | exact List.mem_cons_self | refine List.mem_cons_of_mem _ ?_))); (case i => assumption); (case a => omega); (case z => (rw [KBw.ints_length]; omega)); (case s => with_unfolding_all rfl); (case t => (intro _; with_unfolding_all rfl))); intro _ _ _ _ _ _ _; (try dsimp only)))
local macro_rules | `(tactic| walk_at "call type:bytes") => `(tactic| (k_here; (with_reducible show wpAny _ _ (call (Value.type "bytes") [Value.ref _]) _ _ _); k_dflt (refine' bytes_ints ?F ?N ?h ?m ?i ?z ?_; (case F => k_asm); (case N => k_asm); (case h => rfl); (case m => k_mem); (case i => assumption); (case z => omega)); intro _ _ _ _ _; (try dsimp only)))
local macro_rules | `(tactic| walk_at "call type:list") => `(tactic| (k_here; (with_reducible show wpAny _ _ (call (Value.type "list") [Value.bytes _ _]) _ _ _); k_dflt (refine' list_bytes_N ?F ?N ?h ?z ?_; (case F => k_asm); (case N => k_asm); (case h => rfl); (case z => first | omega | (rw [keyed_size]; omega))); intro _ _ _ _ _ _ _ _; (try dsimp only)))
local macro_rules | `(tactic| walk_at "call ref") => `(tactic| (k_here; (with_reducible show wpAny _ _ (call (Value.ref _) [Value.bytes _ _, Value.bytes _ _]) _ _ _); k_dflt (refine' keyed_bb _ _ _ _ _ _ _ _ _ _ _ _ _ _ _ _ _ _ _ _ _ _ _ _ _ _ ?B ?F ?X ?N ?T ?K ?z1 ?z2 ?d ?u ?_; (case B => k_asm); (case F => k_asm); (case X => k_asm); (case N => k_asm); (case T => k_asm); (case K => first | exact rfl | assumption); (case z1 => assumption); (case z2 => assumption); (case d => ktr_room); (case u => ktr_units)); intro _ _ _ _ _; (try dsimp only)))
/-- a turn's end: what is to hold, with a lesser measure -/
def Back (I : Nat → Shared → Prop) (n : Nat) (s : Shared) : Prop := ∃ m, m < n ∧ I m s
theorem while_any {prog : Program} {w : World} {A : Around} {E : Value → Shared → Prop} {s : Shared} {test : PySem.Expr} {body : List Stmt} {pos : Pos} {env : Env} {Q : Flow → Shared → Prop} (I : Nat → Shared → Prop)
    (turn : ∀ n s, I n s →
      wpAny (model prog w) A (isTrue test env (eval test env)) (fun b s₂ =>
        if b then wpAny (model prog w) A (execs body env) (fun f s₃ => match f with
            | .next | .cont => Back I n s₃
            | .brk => Q .next s₃
            | .ret v => Q (.ret v) s₃) (notedBy (model prog w) A env fun e s' => cameBackBy (model prog w) A env E e s') s₂
        else wpAny (model prog w) A (execs [] env) Q (notedBy (model prog w) A env fun e s' => cameBackBy (model prog w) A env E e s') s₂)
        (notedBy (model prog w) A env fun e s' => cameBackBy (model prog w) A env E e s') s)
    (n : Nat) (h : I n s) : wpAny (model prog w) A (exec (.While test body [] pos) env) Q E s :=
  wpAny_While (codeAny_whileLoop I turn n h)
theorem news_two {g h : Heap} {L a b : Addr} {o₁ o₂ : Obj} {big news : List (Addr × Obj)} (N : News g L h big) (h1 : (a, o₁) ∈ big) (h2 : (b, o₂) ∈ big) (h3 : ∀ p ∈ news, p ∈ big) : News g L h ((a, o₁) :: (b, o₂) :: news) := by
  refine cb_drop N fun p hp => ?_
  rcases List.mem_cons.mp hp with rfl | hp
  · exact h1
  · rcases List.mem_cons.mp hp with rfl | hp
    · exact h2
    · exact h3 p hp
theorem news_one {g h : Heap} {L a : Addr} {o₁ : Obj} {big news : List (Addr × Obj)} (N : News g L h big) (h1 : (a, o₁) ∈ big) (h3 : ∀ p ∈ news, p ∈ big) : News g L h ((a, o₁) :: news) := by
  refine cb_drop N fun p hp => ?_
  rcases List.mem_cons.mp hp with rfl | hp
  · exact h1
  · exact h3 p hp
set_option maxHeartbeats 8000000 in
theorem rows : ∀ (w : World) (mean : ExcName → Option Value) (mg mb : PySem.Str → Option Value) (dp un : Nat) (gd : Option (List Code)) (cn : PySem.Str) (cs : Scope) (a : Addr) (ccd : Value) (cl : List (PySem.Str × Addr)) (outer : List Env) (A₀ : Around) (base h₀ : Heap) (L : Addr) (m : PySem.Str → Option Value) (news : List (Addr × Obj)) (s : Shared)
    (key ib : Array UInt8) (t u : Tok) (di : Addr) (vi : List Value) (wt : Int) (Q E : Value → Shared → Prop),
    Below A₀ base outer h₀ → Fr h₀ L s.heap m → (hd.heap_39 w.params).In h₀ → News h₀ L s.heap news → Top hd.view_39 (looseW hd.view_39 []) mean mg mb h₀ → cs.kind = .function →
    (di, LCg.lst vi) ∈ news → IntsAre vi (KBw.bInts ib) → key.size ≤ 64 → ib.size ≤ 20 → 0 ≤ wt → wt ≤ 200 → dp + 3 < recursionLimit → un + 20 < cLine →
    (∀ h' tk' D vs nn, Fr h₀ L h' m → News h₀ L h' ((D, listOf (List.toArray vs) nn) :: news) → IntsAre vs ((KBw.bInts (accN key ib ((wt.toNat + 31) / 32))).take wt.toNat) → Q (.ref D) { s with heap := h', toks := tk' }) →
    wpAny (model Challenge.rw_iv0036_01.row.prog w) (ktrTop dp un gd cn cs L a ccd cl outer) (call (.ref 47) [.bytes key t, .ref di, .int wt u]) Q E s := by
  w_on
  k_fill
  intro w mean mg mb dp un gd cn cs a ccd cl outer A₀ base h₀ L m news s key ib t u di vi wt Q E B F X N T hk hdi hvi hz1 hz2 hw0 hw1 hdp hun hret
  refine wpAny_call ?_
  k_dflt (refine' code_def ?k1 ?k2 ?k3 ?k4 ?k5 ?kA ?kF ?kK ?k6 ?k7 ?k8 ?k9 ?kB ?_ ?c2 ?c3 ?c4 ?c5; (case kA => exact rfl); (case kF => exact rfl); (case kK => assumption); (case k1 => k_asm); (case k2 => k_asm); (case k3 => k_asm); (case k4 => k_asm); (case k5 => k_asm); (case k6 => k_is); (case k7 => k_is); (case k8 => ktr_room); (case k9 => exact BindsTo.of_eq rfl); (case c5 => decide); (case kB => exact locs rfl); (case c2 => exact rfl); (case c3 => exact rfl); (case c4 => exact rfl))
  intro g' L' h' FG' F' N' B' X' T'
  k_dflt ((try dsimp only); (try k_lift B'); (try k_fold))
  iterate 18 (first | (k_unfold; (try dsimp only)) | (k_end; kc_close) | walk1 | (dsimp only; walk1))
  (rename Fr _ _ _ _ => FW)
  (rename News _ _ _ _ => NW)
  rw [mRows_start] at FW
  refine while_any (fun n s' => ∃ (j : Nat) (r nw : Addr) (vr vn : List Value) (c1 c2 : Nat) (tt : Tok) (h : Heap) (tk : Nat), n + j = 8 ∧ (j = 0 ∨ 32 * ((j : Int) - 1) < wt) ∧ s' = { s with heap := h, toks := tk } ∧
    Fr g' L' h (mRows _ (.ref r) (.ref nw) (.int ((j : Int) + 1) tt)) ∧ News g' L' h ((r, W.listOf vr.toArray c1) :: (nw, W.listOf vn.toArray c2) :: news) ∧ IntsAre vr (KBw.bInts (accN key ib j)) ∧ IntsAre vn (KBw.bInts (Tn key ib j))) ?turn 8
    ⟨0, _, _, [], [], 0, 0, _, _, _, rfl, .inl rfl, rfl, FW, ?sub, .nil, .nil⟩
  case sub =>
    refine cb_drop NW ?_
    intro p hp
    rcases List.mem_cons.mp hp with rfl | hp
    · exact .tail _ (.head _)
    · rcases List.mem_cons.mp hp with rfl | hp
      · exact .head _
      · exact .tail _ (.tail _ hp)
  case turn =>
    rintro n s' ⟨j, r, nw, vr, vn, c1, c2, tt, h, tk, hj, hjw, rfl, F1, N1, hvr, hvn⟩
    clear FW NW
    have ha := accN_size key ib j
    have hb : (Tn key ib j ++ ib ++ #[(j + 1).toUInt8]).size ≤ 64 := blk_size hz2
    have ht := Tn_le key ib j
    iterate 13 (first | (k_unfold; (try dsimp only)) | (k_end; kc_close) | walk1 | (dsimp only; walk1))
    rotate_left
    · repeat (first | (k_unfold; (try dsimp only)) | (k_end; kc_close) | walk1 | (dsimp only; walk1))
      have hw : (wt.toNat + 31) / 32 = j := by omega
      refine' hret _ _ _ _ _ ?hF ?hN ?hI
      case hN => exact news_one (by assumption) (by repeat (first | exact List.mem_cons_self | refine List.mem_cons_of_mem _ ?_)) (fun p hp => by repeat (first | assumption | refine List.mem_cons_of_mem _ ?_))
      case hF => assumption
      case hI => rw [hw]; assumption
    repeat ((first | (k_unfold; (try dsimp only)) | (k_end; kc_close) | walk1 | (dsimp only; walk1)))
    (rename Fr _ _ _ _ => FE)
    (rename News _ _ _ _ => NE)
    rw [mRows_turn] at FE
    refine' ⟨n - 1, by omega, j + 1, _, _, _, _, _, _, _, _, _, by omega, .inr ?hlt, rfl, FE, ?hN, ?hA, ?hT⟩
    case hN => exact news_two NE (by repeat (first | exact List.mem_cons_self | refine List.mem_cons_of_mem _ ?_)) (by repeat (first | exact List.mem_cons_self | refine List.mem_cons_of_mem _ ?_)) (fun p hp => by repeat (first | assumption | refine List.mem_cons_of_mem _ ?_))
    case hA => assumption
    case hT => assumption
    case hlt => omega
end Mine

open PySem PySem.W PySem.Calls PyProof.Rows
set_option Elab.async false
set_option maxRecDepth 100000
namespace Mine
section
variable {prog : Program} {w : World} {A : Around} {E : Value → Shared → Prop} {s : Shared} {env : Env} {Q : Value → Shared → Prop}
theorem N_Call_Name1 {x : PySem.Str} {p pos : Pos} {e : PySem.Expr}
    (h : wpAny (model prog w) A (eval (.Name x p) env) (fun f s₁ => wpN (model prog w) A (callWith pos f [] [(false, eval e env)] []) Q E s₁) E s)
    (hs : starEach [e] env = [(false, eval e env)] := by rfl) : wpN (model prog w) A (eval (.Call (.Name x p) [e] [] pos) env) Q E s :=
  N_Call_Name (by rw [hs]; rfl) h
/-- T(e), the argument by the library's rules -/
theorem N_callTypeA {T : String} {pos : Pos} {t : Sem Value} (h : wpAny (model prog w) A t (fun v s₁ => wpN (model prog w) A (call (.type T) [v]) Q E s₁) E s) :
    wpN (model prog w) A (callWith pos (.type T) [] [(false, t)] []) Q E s := N_callType1 (N_any h)
def ExtArg (prog : Program) (w : World) (A : Around) (E : Value → Shared → Prop) (e : PySem.Expr) (env : Env) (Q : Value → Shared → Prop) (ov : Value) (s₁ : Shared) : Prop :=
  ∃ a p, ov = .ref a ∧ s₁.heap.get? a = some (baObj p) ∧ wpAny (model prog w) A (eval e env) (fun y s₂ => wpN (model prog w) A (call (.builtin "bytearray.extend") [.ref a, y]) Q E s₂) E s₁
theorem N_Call_extend {o e : PySem.Expr} {apos pos : Pos}
    (h : wpAny (model prog w) A (eval o env) (ExtArg prog w A E e env Q) E s)
    (hbase : attributeBase o "extend" env (eval o env) = eval o env := by rfl)
    (hs : starEach [e] env = [(false, eval e env)] := by rfl)
    (hline : (apos.endLine == pos.line) = true := by rfl) :
    wpN (model prog w) A (eval (.Call (.Attribute o "extend" apos) [e] [] pos) env) Q E s := by
  rw [arm_eval_Call, hbase]
  refine N_pre (wpAny_mono h (fun ov s₁ h₁ => ?_) fun _ _ e => e)
  obtain ⟨a, p, rfl, ha, hc⟩ := h₁
  refine N_pre (wpAny_standAt ?_)
  rw [hs]
  have hform : methodCallForm ([e].length + ([] : List Keyword).length) (backTo pos [(false, eval e env)]) (backToKw pos (keywordEach [] env)) = true := by rfl
  have hpos : methodCallPos true o env apos pos = pure pos := by unfold methodCallPos; simp [hline]
  unfold methodCall
  rw [hform]
  refine N_pre (wpAny_holding (getMethod_extend ha ?_))
  refine N_pre (wpAny_of_eq hpos ?_)
  exact N_callWith (P := fun _ => True) (args := [(false, eval e env)]) rfl keeper_builtin (N_any (evalArgs_plain (spliced_cons (wpAny_mono hc (fun _ _ q => spliced_nil ⟨trivial, q⟩) fun _ _ x => x))))
end
section
variable {prog : Program} {w : World} {A : Around} {E : Value → Shared → Prop} {s : Shared} {h₀ : Heap} {L : Addr} {m : PySem.Str → Option Value} {news : List (Addr × Obj)} {Q : Value → Shared → Prop} {D : Addr} {p q : Array UInt8} {t : Tok} {y : Int}
theorem add_baL (F : Fr h₀ L s.heap m) (N : News h₀ L s.heap news) (hm : (D, baObj p) ∈ news) (hz : p.size + q.size ≤ 10000)
    (h : ∀ h' D', Fr h₀ L h' m → News h₀ L h' ((D', baObj (p ++ q)) :: news) → Q (.ref D') { s with heap := h' }) : wpAny (model prog w) A (binaryOp .Add (.ref D) (.bytes q t)) Q E s :=
  add_ba (N.get hm) (by rw [sizeLine_eq]; omega) (h _ _ (F.push _) (N.push F _))
theorem slice_baL {value slice : PySem.Expr} (F : Fr h₀ L s.heap m) (N : News h₀ L s.heap news) (hm : (D, baObj p) ∈ news) (h0 : 0 ≤ y) (hz : p.size ≤ 10000)
    (h : ∀ h' D', Fr h₀ L h' m → News h₀ L h' ((D', baObj (p.toList.take y.toNat).toArray) :: news) → Q (.ref D') { s with heap := h' })
    (hs : subscripted slice false (.ref D) (.ref s.heap.objs.size) = operate [.ref s.heap.objs.size, .ref D] (getItem (.ref D) (.ref s.heap.objs.size))) (ht : ∀ r, letTemporaryGo value (.ref D) r = pure ()) :
    wpAny (model prog w) A (subscriptTail value slice (.ref D) (.ref s.heap.objs.size)) Q E { s with heap := s.heap.push { cls := .type "slice", data := .fields #[.none, .int y t, .none] } } := by
  have F1 := F.push { cls := .type "slice", data := .fields #[.none, .int y t, .none] }
  have N1 := N.push F { cls := .type "slice", data := .fields #[.none, .int y t, .none] }
  have N2 := N1.push F1 (baObj (p.toList.take y.toNat).toArray)
  refine tailSlice_ba (s := { s with heap := s.heap.push { cls := .type "slice", data := .fields #[.none, .int y t, .none] } }) (N1.get (List.mem_cons_of_mem _ hm)) ⟨_, Heap.get?_push_size _ rfl, rfl, rfl⟩ h0 (by rw [sizeLine_eq]; omega)
    (h _ _ (F1.push _) (News.perm N2 fun p hp => ?_)) hs ht
  rcases List.mem_cons.mp hp with rfl | hp
  · exact List.mem_cons_self
  · exact List.mem_cons_of_mem _ (List.mem_cons_of_mem _ hp)
end
theorem rangeSize_N (n : Nat) : Builtin.Range.rangeSize 0 (n : Int) 1 = (n : Int) := by
  rw [rangeSize_one]
  split <;> omega
/-- the names that the loop of hkdf_expand turns -/
def mExp (m : PySem.Str → Option Value) (prev : Value) (text i : Option Value) : PySem.Str → Option Value := fun y =>
  if y = PySem.Str.ofString "previous" then some prev else if y = PySem.Str.ofString "text" then text else if y = PySem.Str.ofString "i" then i else m y
theorem mExp_start {m : PySem.Str → Option Value} {v : Value} (h1 : m (PySem.Str.ofString "text") = none) (h2 : m (PySem.Str.ofString "i") = none) :
    (fun y => if y = PySem.Str.ofString "previous" then some v else m y) = mExp m v none none := by
  funext y
  unfold mExp
  by_cases e1 : y = PySem.Str.ofString "previous"
  · simp only [if_pos e1]
  · by_cases e2 : y = PySem.Str.ofString "text"
    · subst e2; simp only [if_neg e1, if_true]; exact h1
    · by_cases e3 : y = PySem.Str.ofString "i"
      · subst e3; simp only [if_neg e1, if_neg e2, if_true]; exact h2
      · simp only [if_neg e1, if_neg e2, if_neg e3]
theorem mExp_turn {m : PySem.Str → Option Value} {v v' x' i' : Value} {x i : Option Value} :
    (fun y => if y = PySem.Str.ofString "previous" then some v' else if y = PySem.Str.ofString "text" then some x' else if y = PySem.Str.ofString "i" then some i' else mExp m v x i y) = mExp m v' (some x') (some i') := by
  funext y
  unfold mExp
  by_cases e1 : y = PySem.Str.ofString "previous"
  · simp only [if_pos e1]
  · by_cases e2 : y = PySem.Str.ofString "text"
    · simp only [if_neg e1, if_pos e2]
    · by_cases e3 : y = PySem.Str.ofString "i"
      · simp only [if_neg e1, if_neg e2, if_pos e3]
      · simp only [if_neg e1, if_neg e2, if_neg e3]
theorem turns_eq {len : Int} (h0 : 0 ≤ len) : -(Int.fdiv (-len) 32) = (((len.toNat + 31) / 32 : Nat) : Int) := by
  rw [Int.fdiv_eq_ediv_of_nonneg _ (by decide)]
  omega
local macro_rules | `(tactic| walk_at "binaryOp Add ref bytes") => `(tactic| (k_here; (with_reducible show wpAny _ _ (binaryOp _ (Value.ref _) (Value.bytes _ _)) _ _ _); k_dflt (refine' add_baL ?F ?N ?m ?z ?_; (case F => k_asm); (case N => k_asm); (case m => (repeat (first | assumption | exact List.mem_cons_self | refine List.mem_cons_of_mem _ ?_))); (case z => first | omega | ((try simp only [Array.size_append, List.size_toArray, List.length_cons, List.length_nil]); omega))); intro _ _ _ _; (try dsimp only)))
local macro_rules | `(tactic| walk_at "call type:bytes") => `(tactic| (k_here; (with_reducible show wpAny _ _ (call (Value.type "bytes") [Value.ref _]) _ _ _); k_dflt (refine' bytes_ints ?F ?N ?h ?m ?i ?z ?_; (case F => k_asm); (case N => k_asm); (case h => rfl); (case m => k_mem); (case i => exact ints_sing (by omega)); (case z => exact (by decide : 1 ≤ 10000))); intro _ _ _ _ _; (try dsimp only)))
local macro_rules | `(tactic| walk_at "call ref") => `(tactic| (k_here; (with_reducible show wpAny _ _ (call (Value.ref _) [Value.bytes _ _, Value.ref _]) _ _ _); k_dflt (refine' keyed_ba _ _ _ _ _ _ _ _ _ _ _ _ _ _ _ _ _ _ _ _ _ _ _ _ _ _ ?B ?F ?X ?N ?T ?K ?m ?z1 ?z2 ?d ?u ?_; (case B => k_asm); (case F => k_asm); (case X => k_asm); (case N => k_asm); (case T => k_asm); (case K => first | exact rfl | assumption); (case m => (repeat (first | assumption | exact List.mem_cons_self | refine List.mem_cons_of_mem _ ?_))); (case z1 => assumption); (case z2 => assumption); (case d => ktr_room); (case u => ktr_units)); intro _ _ _ _ _; (try dsimp only)))
local macro_rules | `(tactic| walk_at "subscriptTail") => `(tactic| (k_here; (with_reducible show wpAny _ _ (subscriptTail _ (Expr.Slice _ _ none _) (Value.ref _) (Value.ref _)) _ _ _); (with_reducible rename Fr _ _ _ _ => F'); (with_reducible rename News _ _ _ _ => N'); k_dflt (refine' slice_baL (s := ⟨_, _, _, _, _⟩) F' N' ?m ?a ?z ?_ ?s ?t; (case m => (repeat (first | assumption | exact List.mem_cons_self | refine List.mem_cons_of_mem _ ?_))); (case a => omega); (case z => first | omega | (rw [accN_size]; omega)); (case s => with_unfolding_all rfl); (case t => (intro _; with_unfolding_all rfl))); intro _ _ _ _; (try dsimp only)))
theorem news_three {g h : Heap} {L a b c : Addr} {o₁ o₂ o₃ : Obj} {big news : List (Addr × Obj)} (N : News g L h big) (h1 : (a, o₁) ∈ big) (h2 : (b, o₂) ∈ big) (h4 : (c, o₃) ∈ big) (h3 : ∀ p ∈ news, p ∈ big) : News g L h ((a, o₁) :: (b, o₂) :: (c, o₃) :: news) :=
  news_one N h1 fun p hp => by
    rcases List.mem_cons.mp hp with rfl | hp
    · exact h2
    · rcases List.mem_cons.mp hp with rfl | hp
      · exact h4
      · exact h3 p hp
set_option maxHeartbeats 8000000 in
theorem expand_N : ∀ (w : World) (mean : ExcName → Option Value) (mg mb : PySem.Str → Option Value) (dp un : Nat) (gd : Option (List Code)) (cn : PySem.Str) (cs : Scope) (a : Addr) (ccd : Value) (cl : List (PySem.Str × Addr)) (outer : List Env) (A₀ : Around) (base h₀ : Heap) (L : Addr) (m : PySem.Str → Option Value) (news : List (Addr × Obj)) (s : Shared)
    (key ib : Array UInt8) (t u v : Tok) (len : Int) (Q E : Value → Shared → Prop),
    Below A₀ base outer h₀ → Fr h₀ L s.heap m → (hd.heap_39 w.params).In h₀ → News h₀ L s.heap news → Top hd.view_39 (looseW hd.view_39 []) mean mg mb h₀ → cs.kind = .function →
    key.size ≤ 64 → ib.size ≤ 20 → 0 ≤ len → len ≤ 200 → dp + 3 < recursionLimit → un + 20 < cLine →
    (∀ h' tk' D, Fr h₀ L h' m → News h₀ L h' ((D, baObj ((accN key ib ((len.toNat + 31) / 32)).toList.take len.toNat).toArray) :: news) → Q (.ref D) { s with heap := h', toks := tk' }) →
    wpN (model Challenge.rw_iv0036_01.row.prog w) (ktrTop dp un gd cn cs L a ccd cl outer) (call (.ref 28) [.bytes key t, .bytes ib u, .int len v, .ref 35]) Q E s := by
  w_on
  k_fill
  intro w mean mg mb dp un gd cn cs a ccd cl outer A₀ base h₀ L m news s key ib t u v len Q E B F X N T hk hz1 hz2 hw0 hw1 hdp hun hret
  refine N_call ?_
  k_dflt (refine' codeN_def ?k1 ?k2 ?k3 ?k4 ?k5 ?kA ?kF ?kK ?k6 ?k7 ?k8 ?k9 ?kB ?_ ?c2 ?c3 ?c4 ?c5; (case kA => exact rfl); (case kF => exact rfl); (case kK => assumption); (case k1 => k_asm); (case k2 => k_asm); (case k3 => k_asm); (case k4 => k_asm); (case k5 => k_asm); (case k6 => k_is); (case k7 => k_is); (case k8 => ktr_room); (case k9 => exact BindsTo.of_eq rfl); (case c5 => decide); (case kB => exact locs rfl); (case c2 => exact rfl); (case c3 => exact rfl); (case c4 => exact rfl))
  intro g' L' h' tk FG' F' N' B' X' T'
  k_dflt ((try dsimp only); (try k_lift B'))
  refine N_execs_any ?_
  k_fold
  repeat (first | walk1 | (k_unfold; (try dsimp only)) | (dsimp only; walk1))
  refine N_execs_cons (N_Assign_Name ?_)
  refine N_Call_Name1 ?_
  k_fold
  repeat (first | walk1 | (k_unfold; (try dsimp only)) | (dsimp only; walk1))
  refine N_callTypeA ?_
  k_fold
  repeat (first | walk1 | (k_unfold; (try dsimp only)) | (dsimp only; walk1))
  refine N_baL (by k_asm) (by k_asm) (.inl ⟨_, rfl, rfl⟩) (by decide) fun hO O FO NO neO => ?_
  k_fold
  repeat (first | walk1 | (k_unfold; (try dsimp only)) | (dsimp only; walk1))
  refine N_execs_cons (N_Assign_Name ?_)
  refine N_Call_Name1 ?_
  k_fold
  repeat (first | walk1 | (k_unfold; (try dsimp only)) | (dsimp only; walk1))
  refine N_callTypeA ?_
  k_fold
  repeat (first | walk1 | (k_unfold; (try dsimp only)) | (dsimp only; walk1))
  refine N_baL (by k_asm) (by k_asm) (.inl ⟨_, rfl, rfl⟩) (by decide) fun hP P FP NP neP => ?_
  k_fold
  repeat (first | walk1 | (k_unfold; (try dsimp only)) | (dsimp only; walk1))
  refine N_execs_cons (N_For ?_)
  k_fold
  repeat (first | walk1 | (k_unfold; (try dsimp only)) | (dsimp only; walk1))
  rename Fr _ _ _ _ => FI
  rename News _ _ _ _ => NI
  rename IsRange _ _ _ _ _ _ _ _ => hR
  skip
  dsimp only at hR
  rw [turns_eq hw0] at hR
  generalize hNk : (len.toNat + 31) / 32 = Nk at hR hret
  refine iter_range FI NI hR (small_one (by decide) (by decide) (by omega) (by omega)) fun hJ I FJ NJ neI => ?_
  rw [rangeSize_N] at NJ
  rw [mExp_start (by rfl) (by rfl)] at FJ
  have eO : O ≠ I := neI (O, baObj #[]) (List.mem_cons_of_mem _ List.mem_cons_self)
  have eP : P ≠ I := neI (P, baObj #[]) List.mem_cons_self
  have ePO : P ≠ O := fun e => neP _ List.mem_cons_self e.symm
  have eN : ∀ p ∈ news, p.1 ≠ I := fun p hp => neI p (List.mem_cons_of_mem _ (List.mem_cons_of_mem _ hp))
  clear FI NI neI neP hR
  refine codeN_forLoop (fun n s' => ∃ (j : Nat) (P : Addr) (x i : Option Value) (h : Heap) (tk : Nat), n + j = Nk ∧ s' = { s with heap := h, toks := tk } ∧ Fr g' L' h (mExp _ (.ref P) x i) ∧
    News g' L' h ((I, rIt j ((Nk : Int) - j)) :: (P, baObj (Tn key ib j)) :: (O, baObj (accN key ib j)) :: news) ∧ P ≠ I ∧ P ≠ O) ?turn Nk ⟨0, P, none, none, _, _, rfl, rfl, FJ, ?sub, eP, ePO⟩
  case sub => exact NJ
  clear FJ NJ eP ePO
  rintro n s' ⟨j, P, x, i, h, tk, hj, rfl, F1, N1, eP, ePO⟩
  by_cases hlt : j < Nk
  · refine next_item F1 N1 (fun p hp => ?_) (by omega) fun h1 F2 N2 => ?_
    · rcases List.mem_cons.mp hp with rfl | hp
      · exact eP
      rcases List.mem_cons.mp hp with rfl | hp
      · exact eO
      · exact eN p hp
    dsimp only
    clear F1 N1
    refine wpAny_assign_Name ?_
    repeat (first | walk1 | (k_unfold; (try dsimp only)) | (dsimp only; walk1))
    refine N_execs_any ?_
    k_fold
    have ht := Tn_le key ib j
    have hb : (Tn key ib j ++ ib ++ #[(j + 1).toUInt8]).size ≤ 64 := blk_size hz2
    repeat (first | walk1 | (k_unfold; (try dsimp only)) | (dsimp only; walk1))
    refine N_execs_cons (N_Assign_Name ?_)
    refine N_Call_Name1 ?_
    k_fold
    repeat (first | walk1 | (k_unfold; (try dsimp only)) | (dsimp only; walk1))
    refine N_callTypeA ?_
    k_fold
    repeat (first | walk1 | (k_unfold; (try dsimp only)) | (dsimp only; walk1))
    have hbT : (Tn key ib (j + 1)).size ≤ 10000 := by rw [Tn_size]; decide
    have hac : (accN key ib j ++ Tn key ib (j + 1)).size ≤ sizeLine := by rw [sizeLine_eq, Array.size_append, Tn_size, accN_size]; omega
    refine N_baL (r := Tn key ib (j + 1)) (by k_asm) (by k_asm) (.inr ⟨_, rfl⟩) (by rw [sizeLine_eq]; omega) fun hP P' FP NP neP => ?_
    k_fold
    repeat (first | walk1 | (k_unfold; (try dsimp only)) | (dsimp only; walk1))
    refine N_execs_cons (N_Expr_none (N_Call_extend ?_))
    k_fold
    repeat (first | walk1 | (k_unfold; (try dsimp only)) | (dsimp only; walk1))
    refine ⟨O, accN key ib j, rfl, News.get (by k_asm) (by repeat (first | exact List.mem_cons_self | refine List.mem_cons_of_mem _ ?_)), ?_⟩
    k_fold
    repeat (first | walk1 | (k_unfold; (try dsimp only)) | (dsimp only; walk1))
    rename Fr _ _ _ _ => FX
    rename News _ _ _ _ => NX
    have nP' : P' ≠ I := fun e => neP (I, rIt ((j : Int) + 1) ((Nk : Int) - j - 1)) (by repeat (first | exact List.mem_cons_self | refine List.mem_cons_of_mem _ ?_)) e.symm
    have nPO' : P' ≠ O := fun e => neP (O, baObj (accN key ib j)) (by repeat (first | exact List.mem_cons_self | refine List.mem_cons_of_mem _ ?_)) e.symm
    have NE := news_three (news := news) NX (a := O) (b := I) (c := P') (o₁ := baObj (accN key ib j)) (o₂ := rIt ((j : Int) + 1) ((Nk : Int) - j - 1)) (o₃ := baObj (Tn key ib (j + 1)))
      (by repeat (first | exact List.mem_cons_self | refine List.mem_cons_of_mem _ ?_)) (by repeat (first | exact List.mem_cons_self | refine List.mem_cons_of_mem _ ?_)) (by repeat (first | exact List.mem_cons_self | refine List.mem_cons_of_mem _ ?_)) (fun p hp => by repeat (first | assumption | refine List.mem_cons_of_mem _ ?_))
    rw [mExp_turn] at FX
    refine N_extendL FX NE (List.mem_cons_of_mem _ List.mem_cons_self) (fun p hp => ?_) hac fun h9 F9 N9 => ⟨rfl, ?_⟩
    · rcases List.mem_cons.mp hp with rfl | hp
      · exact Ne.symm eO
      rcases List.mem_cons.mp hp with rfl | hp
      · exact nPO'
      · exact neO p hp
    dsimp only
    have c1 : ((j + 1 : Nat) : Int) = (j : Int) + 1 := by omega
    have c2 : (Nk : Int) - ((j : Int) + 1) = (Nk : Int) - j - 1 := by omega
    refine N_execs_nil ⟨rfl, n - 1, by omega, j + 1, P', _, _, h9, _, by omega, rfl, F9, ?_, nP', nPO'⟩
    rw [c1, c2]
    exact news_three N9 (List.mem_cons_of_mem _ List.mem_cons_self) (List.mem_cons_of_mem _ (List.mem_cons_of_mem _ List.mem_cons_self)) List.mem_cons_self (fun p hp => List.mem_cons_of_mem _ (List.mem_cons_of_mem _ (List.mem_cons_of_mem _ hp)))
  · have hjN : j = Nk := by omega
    refine next_end rfl F1 N1 (fun p hp => ?_) (by omega) fun h1 F2 N2 => ?_
    · rcases List.mem_cons.mp hp with rfl | hp
      · exact eP
      rcases List.mem_cons.mp hp with rfl | hp
      · exact eO
      · exact eN p hp
    dsimp only
    clear F1 N1
    refine wpAny_execs_nil ?_
    dsimp only
    have hsz := accN_size key ib j
    refine N_execs_any ?_
    k_fold
    repeat (first | (k_unfold; (try dsimp only)) | (k_end; kc_close) | walk1 | (dsimp only; walk1))
    refine' hret _ _ _ ?hF ?hN
    case hN => rw [← hjN]; exact news_one (by assumption) (by repeat (first | exact List.mem_cons_self | refine List.mem_cons_of_mem _ ?_)) (fun p hp => by repeat (first | assumption | refine List.mem_cons_of_mem _ ?_))
    case hF => assumption
end Mine

open PySem PySem.W PySem.Calls PyProof.Rows
set_option Elab.async false
set_option maxRecDepth 100000
namespace Mine
theorem acc_pre (key ib : Array UInt8) (a : Nat) : ∀ d, ∃ r, KBw.bInts (accN key ib (a + d)) = KBw.bInts (accN key ib a) ++ r
  | 0 => ⟨[], (List.append_nil _).symm⟩
  | d + 1 => by
    obtain ⟨r, hr⟩ := acc_pre key ib a d
    refine ⟨r ++ KBw.bInts (Tn key ib (a + d + 1)), ?_⟩
    rw [← List.append_assoc, ← hr]
    exact KBw.ints_app rfl rfl
theorem cut_law {key ib : Array UInt8} {x y : Nat} (h : y ≤ x) :
    List.take y (List.take x (KBw.bInts (accN key ib ((x + 31) / 32)))) = List.take y (KBw.bInts (accN key ib ((y + 31) / 32))) := by
  rw [List.take_take, Nat.min_eq_left h]
  obtain ⟨r, hr⟩ := acc_pre key ib ((y + 31) / 32) ((x + 31) / 32 - (y + 31) / 32)
  have e : (y + 31) / 32 + ((x + 31) / 32 - (y + 31) / 32) = (x + 31) / 32 := by omega
  rw [e] at hr
  rw [hr]
  refine List.take_append_of_le_length ?_
  rw [KBw.ints_length, accN_size]
  omega
theorem ints_take (b : Array UInt8) (n : Nat) : KBw.bInts (List.take n b.toList).toArray = List.take n (KBw.bInts b) := by
  unfold KBw.bInts
  rw [List.map_take]
section
variable {prog : Program} {w : World} {A : Around} {E : Value → Shared → Prop} {s : Shared} {h₀ : Heap} {L : Addr} {m : PySem.Str → Option Value} {news : List (Addr × Obj)} {Q : Value → Shared → Prop} {D : Addr} {key ib p : Array UInt8} {t : Tok} {x y : Int}
theorem list_baL {n : Nat} (F : Fr h₀ L s.heap m) (N : News h₀ L s.heap news) (hh : A.handled = none) (hm : (D, baObj (List.take n p.toList).toArray) ∈ news) (hz : n ≤ 10000)
    (h : ∀ h' k D' vs c, Fr h₀ L h' m → News h₀ L h' ((D', W.listOf (List.toArray vs) c) :: news) → IntsAre vs (List.take n (KBw.bInts p)) → Q (.ref D') { s with heap := h', toks := k }) :
    wpAny (model prog w) A (call (.type "list") [.ref D]) Q E s := by
  refine list_ba (N.get hm) hh (by rw [sizeLine_eq, List.size_toArray, List.length_take]; omega) fun h' tk' acc c' hk hg hi => ?_
  rw [ints_take] at hi
  refine h h' tk' s.heap.objs.size acc.toList c' (F.keptAll hk) (fun q hq => ?_) hi
  rcases List.mem_cons.mp hq with rfl | hq
  · refine ⟨by rw [Array.toArray_toList]; exact hg, fun e => ?_, F.fresh⟩
    have := F.ns.lt
    rw [← e] at this
    exact absurd this (Nat.lt_irrefl _)
  · exact (N.grown hk) q hq
theorem slice_due {value slice : PySem.Expr} {vs : List Value} {c : Nat} (F : Fr h₀ L s.heap m) (N : News h₀ L s.heap news) (hm : (D, W.listOf vs.toArray c) ∈ news) (hi : IntsAre vs (List.take x.toNat (KBw.bInts (accN key ib ((x.toNat + 31) / 32))))) (h0 : 0 ≤ y) (h1 : y ≤ x) (hz : x ≤ 200)
    (h : ∀ h' D' ws c', Fr h₀ L h' m → News h₀ L h' ((D', W.listOf (List.toArray ws) c') :: news) → IntsAre ws (List.take y.toNat (KBw.bInts (accN key ib ((y.toNat + 31) / 32)))) → Q (.ref D') { s with heap := h' })
    (hs : subscripted slice false (.ref D) (.ref s.heap.objs.size) = operate [.ref s.heap.objs.size, .ref D] (getItem (.ref D) (.ref s.heap.objs.size))) (ht : ∀ r, letTemporaryGo value (.ref D) r = pure ()) :
    wpAny (model prog w) A (subscriptTail value slice (.ref D) (.ref s.heap.objs.size)) Q E { s with heap := s.heap.push { cls := .type "slice", data := .fields #[.none, .int y t, .none] } } := by
  refine slice_ints F N hm hi h0 (by rw [List.length_take]; omega) (fun h' D' ws c' F' N' hw => h h' D' ws c' F' N' ?_) hs ht
  rw [cut_law (by omega)] at hw
  exact hw
end
end Mine

open PySem PySem.W PySem.Calls PyProof.Rows
set_option Elab.async false
set_option maxRecDepth 100000
namespace Mine
theorem enter_N {M : Model} {A : Around} {s : Shared} {f : Value} {pos : List Value} {kw : List (PySem.Str × Value)} {c : ClaimW} {cl : PySem.Str → Option Addr} {mean : ExcName → Option Value} {args : List WData} {s₁ : Shared}
    (h : codeN M A (.call f ⟨pos, kw⟩) (GoodWG c cl mean args s₁) s) : wpN M A (PySem.call f pos kw) (fun v s' => GoodWG c cl mean args s₁ (.ok (.ret v)) s') (fun e s' => GoodWG c cl mean args s₁ (.error e) s') s :=
  N_call (codeN_mono h fun res s' g => by rcases g.1 with ⟨v, _, _, rfl, _⟩ | ⟨e, _, _, rfl, _⟩ <;> exact g)
theorem codeN_cells {prog : Program} {w : World} {A : Around} {R : Result → Shared → Prop} {s : Shared} {name : PySem.Str} {params : Arguments} {body : List Stmt} {scope : Scope}
    {pm cd doc : Value} {a : Addr} {o : Obj} {args : List Value} {binds : List (PySem.Str × Value)}
    (hroom : A.depth < recursionLimit) (ho : s.heap.get? a = some o) (hdata : o.data = .func (Calls.docDef name params body scope pm cd doc)) (hlim : s.heap.NoLimit) (hcd : s.heap.CodeRec cd name)
    (hbind : bindArgs (Calls.docDef name params body scope pm cd doc) ⟨args, []⟩ = pure binds)
    (hkind : ∀ x ∈ binds, scope.names.lookup x.1 = some .local ∨ (scope.names.lookup x.1 = some .cell ∧ ((cellsFrom (s.heap.objs.size + 1) scope.names []).lookup x.1).isSome = true))
    (hnd : ((cellsFrom 0 scope.names []).map (·.1)).Nodup)
    (h : ∀ h₁ tk cells, Fr s.heap s.heap.objs.size h₁ (bindL (envOfC name scope s.heap.objs.size a cd).kindOf binds fun _ => none) → News s.heap s.heap.objs.size h₁ cells →
      CellsAre (bindC (envOfC name scope s.heap.objs.size a cd).kindOf binds fun _ => none) (cellsFrom (s.heap.objs.size + 1) scope.names []) cells →
      wpN (model prog w) (A.deeper (envOfC name scope s.heap.objs.size a cd)) (execs body (envOfC name scope s.heap.objs.size a cd))
        (fun f s' => R (.ok (.ret (match f with | .ret v => v | _ => .none))) s') (fun _ _ => False)
        { s with heap := h₁, toks := tk })
    (hco : scope.isCoroutine = false := by rfl) (hgen : scope.isGenerator = false := by rfl) (hk : scope.kind = .function := by rfl) :
    codeN (model prog w) A (.call (.ref a) ⟨args, []⟩) R s := by
  refine codeN_call_function hroom ho hdata hco hgen rfl hcd (wpAny_of_eq hbind ?_)
  refine wpAny_newFunctionEnv_cells hk hkind fun env' he s' x => ?_
  subst he
  refine ⟨hlim.keeps x.toInCall.keep, codeN_func ?_ rfl⟩
  obtain ⟨h₁, tk, rfl, _⟩ := x.done
  have hk₁ := x.toInCall.keep
  obtain ⟨cells, NC, Y⟩ := Cl.news (h₀ := s.heap) (Nat.le_refl _) fun n c hm => ⟨x.cell n c (lookup_of_mem_nodup (cellsFrom_names scope.names 0 (s.heap.objs.size + 1) [] [] rfl ▸ hnd) hm), x.above n c hm⟩
  exact h h₁ tk cells ⟨x.toInCall.ns, hk₁, Nat.le_refl _⟩ NC Y
theorem N_callK {M : Model} {A : Around} {E : Value → Shared → Prop} {s : Shared} {K : Frag} {env : Env} {pos : Pos} {f : Value} {h₀ : Heap} {e : PySem.Expr} {rest : List PySem.Expr} {Q : Value → Shared → Prop} (_X : K.In h₀) (hk : keepIn K f = true)
    (h : wpAny M A (spliced (backTo pos (starEach (e :: rest) env))) (fun vs s₁ => K.In s₁.heap ∧ wpN M A (call f ([] ++ vs)) Q E s₁) E s)
    (he : starEach (e :: rest) env = (false, eval e env) :: starEach rest env := by rfl) (hplain : (backTo pos (starEach rest env)).any (·.1) = false := by rfl) :
    wpN M A (callWith pos f [] (backTo pos (starEach (e :: rest) env)) []) Q E s := by
  rw [he] at h ⊢
  exact N_callWith (P := K.In) (by show (false || (backTo pos (starEach rest env)).any (·.1)) = false; rw [hplain]; rfl) (keeps_K hk) (N_any (evalArgs_plain h))
structure NonNeg (g : Int → Int) : Prop where
  all : ∀ k, 0 ≤ k → 0 ≤ g k
theorem NonNeg.at {g : Int → Int} {k : Int} (N : NonNeg g) (h : 0 ≤ k) : 0 ≤ g k := N.all k h
theorem fmod_rng {x : Int} (n : Int) (h : 0 < n) : 0 ≤ x.fmod n ∧ x.fmod n < n := ⟨Int.fmod_nonneg_of_pos _ h, Int.fmod_lt_of_pos _ h⟩
local macro_rules | `(tactic| walk_at "call ref") => `(tactic| (k_here; (with_reducible show wpAny _ _ (call (Value.ref _) [Value.bytes _ _, Value.bytes _ _]) _ _ _); k_dflt (refine' keyed_bb _ _ _ _ _ _ _ _ _ _ _ _ _ _ _ _ _ _ _ _ _ _ _ _ _ _ ?B ?F ?X ?N ?T ?K ?z1 ?z2 ?d ?u ?_; (case B => k_asm); (case F => k_asm); (case X => k_asm); (case N => k_asm); (case T => k_asm); (case K => first | exact rfl | assumption); (case z1 => omega); (case z2 => omega); (case d => ktr_room); (case u => ktr_units)); intro _ _ _ _ _; (try dsimp only)))
local macro_rules | `(tactic| walk_at "call ref") => `(tactic| (k_here; (with_reducible show wpAny _ _ (call (Value.ref _) [Value.int _ _, Value.int _ _]) _ _ _); k_dflt (refine' octets2 _ _ _ _ _ _ _ _ _ _ _ _ _ _ _ _ _ _ _ _ _ _ _ _ _ _ ?B ?F ?X ?N ?T ?K ?n0 ?c0 ?c1 ?d ?u ?_; (case B => k_asm); (case F => k_asm); (case X => k_asm); (case N => k_asm); (case T => k_asm); (case K => first | exact rfl | assumption); (case n0 => first | assumption | (exact NonNeg.at (by assumption) (by decide))); (case c0 => exact (fmod_rng _ (by decide)).1); (case c1 => exact Int.lt_of_lt_of_le (fmod_rng _ (by decide)).2 (by decide)); (case d => ktr_room); (case u => ktr_units)); intro _ _ _ _ _ _ _ _ _; (try dsimp only)))
local macro_rules | `(tactic| walk_at "call type:bytes") => `(tactic| (k_here; (with_reducible show wpAny _ _ (call (Value.type "bytes") [Value.ref _]) _ _ _); k_dflt (refine' bytes_ints ?F ?N ?h ?m ?i ?z ?_; (case F => k_asm); (case N => k_asm); (case h => rfl); (case m => (repeat (first | assumption | exact List.mem_cons_self | refine List.mem_cons_of_mem _ ?_))); (case i => assumption); (case z => omega)); intro _ _ _ _ _; (try dsimp only)))
local macro_rules | `(tactic| walk_at "call type:list") => `(tactic| (k_here; (with_reducible show wpAny _ _ (call (Value.type "list") [Value.bytes _ _]) _ _ _); k_dflt (refine' list_bytes_N ?F ?N ?h ?z ?_; (case F => k_asm); (case N => k_asm); (case h => rfl); (case z => first | omega | (rw [keyed_size]; omega))); intro _ _ _ _ _ _ _ _; (try dsimp only)))
local macro_rules | `(tactic| walk_at "call ref") => `(tactic| (k_here; (with_reducible show wpAny _ _ (call (Value.ref _) [Value.bytes _ _, Value.ref _, Value.int _ _]) _ _ _); k_dflt (refine' rows _ _ _ _ _ _ _ _ _ _ _ _ _ _ _ _ _ _ _ _ _ _ _ _ _ _ _ _ _ ?B ?F ?X ?N ?T ?K ?m ?i ?z1 ?z2 ?w0 ?w1 ?d ?u ?_; (case B => k_asm); (case F => k_asm); (case X => k_asm); (case N => k_asm); (case T => k_asm); (case K => first | exact rfl | assumption); (case m => (repeat (first | assumption | exact List.mem_cons_self | refine List.mem_cons_of_mem _ ?_))); (case i => assumption); (case z1 => rw [keyed_size]; decide); (case z2 => omega); (case w0 => omega); (case w1 => omega); (case d => ktr_room); (case u => ktr_units)); intro _ _ _ _ _ _ _ _; (try dsimp only)))
local macro_rules | `(tactic| walk_at "call type:list") => `(tactic| (k_here; (with_reducible show wpAny _ _ (call (Value.type "list") [Value.ref _]) _ _ _); k_dflt (refine' list_baL ?F ?N ?h ?m ?z ?_; (case F => k_asm); (case N => k_asm); (case h => rfl); (case m => (repeat (first | assumption | exact List.mem_cons_self | refine List.mem_cons_of_mem _ ?_))); (case z => omega)); intro _ _ _ _ _ _ _ _; (try dsimp only)))
local macro_rules | `(tactic| walk_at "subscriptTail") => `(tactic| (k_here; (with_reducible show wpAny _ _ (subscriptTail _ (Expr.Slice _ _ none _) (Value.ref _) (Value.ref _)) _ _ _); (with_reducible rename Fr _ _ _ _ => F'); (with_reducible rename News _ _ _ _ => N'); k_dflt (refine' slice_due (s := ⟨_, _, _, _, _⟩) F' N' ?m ?i ?a ?b ?z ?_ ?s ?t; (case m => (repeat (first | assumption | exact List.mem_cons_self | refine List.mem_cons_of_mem _ ?_))); (case i => assumption); (case a => omega); (case b => omega); (case z => omega); (case s => with_unfolding_all rfl); (case t => (intro _; with_unfolding_all rfl))); intro _ _ _ _ _ _ _; (try dsimp only)))
set_option maxHeartbeats 8000000 in
theorem lawN : PySem.Challenge.rw_iv0036_01.Holds := hd (by
  w_on
  k_fill
  intro w s₀ s₁ mg mb G Y fa o pm cd doc dV kV ho hd hcd hD hmg hg args vals as hpre hlay hrd hwl hlo
  have KX := kIn_of Y
  have X := (Ground.X G).1
  have V := (Ground.X G).2
  try w_nolog (first | (have GL := glob_more (Ground.glob G (by first | k_qdec | decide +kernel) (by first | k_qdec | decide +kernel)) V) | (have GL := glob_more (Ground.glob G (by decide +kernel)) V))
  refine Ground.open G ?_
  intro T B D TE TW
  try (refine guard_noD D (by decide +kernel) ?_; clear D)
  obtain ⟨_, _, M⟩ := bmod_of_top T
  have TA := at_of_top T
  try (obtain ⟨_, _, he, B0⟩ := based_of_top T rfl hmg ho hd; have he' : cd = _ := he; subst he'; clear he)
  clear hmg
  wrow_args hpre hlay hrd hwl hlo
  refine enter_N ?_
  w_top on
  refine codeN_mono ?_ (fun _ _ g => GoodW.toG g)
  have K0 := below_caller (Top.heap T)
  have he := Dflts.none hD rfl
  subst he
  have he := Dflts.noKw hD
  subst he
  refine codeN_cells (by decide) ho (fd_plain hd) (Top.nolimit T) hcd rfl (kinds_of (by kinds_ok)) (by decide) fun h₁ tk₁ cells F N0 X0 => ?_
  cells_open X0
  clear hd TA
  k_drop
  refine N_execs_any ?_
  k_fold
  repeat (first | walk1 | (k_unfold; (try dsimp only)) | (dsimp only; walk1))
  rename IntsAre ys _ => hI8
  obtain ⟨g, hg0, hI⟩ : ∃ g : Int → Int, NonNeg g ∧ IntsAre ys (List.map g (rangeKs 0 ((4 : Int) - 0).toNat)) := by
    refine ⟨_, ⟨fun k hk => ?_⟩, hI8⟩
    (try dsimp only)
    split
    · split <;> omega
    · omega
  clear hI8
  -- salt, material
  refine N_execs_any ?_
  k_fold
  repeat (first | walk1 | (k_unfold; (try dsimp only)) | (dsimp only; walk1))
  -- info
  refine N_execs_any ?_
  k_fold
  repeat (first | walk1 | (k_unfold; (try dsimp only)) | (dsimp only; walk1))
  -- wanted
  refine N_execs_any ?_
  k_fold
  repeat (first | walk1 | (k_unfold; (try dsimp only)) | (dsimp only; walk1))
  obtain ⟨hW0, hW1⟩ := fmod_rng (x := g (0 + 3)) 201 (by decide)
  rename Fr _ _ _ _ => FW
  generalize (g (0 + 3)).fmod 201 = wt at hW0 hW1 FW
  -- key
  refine N_execs_any ?_
  k_fold
  repeat (first | walk1 | (k_unfold; (try dsimp only)) | (dsimp only; walk1))
  -- if
  refine N_execs_any ?_
  k_fold
  repeat (first | walk1 | (k_unfold; (try dsimp only)) | (dsimp only; walk1))
  -- due
  refine N_execs_any ?_
  k_fold
  repeat (first | walk1 | (k_unfold; (try dsimp only)) | (dsimp only; walk1))
  -- if
  refine N_execs_cons (N_If (N_isTrue_Compare1 ?_))
  refine N_Call_Name1 ?_
  k_fold
  repeat (first | walk1 | (k_unfold; (try dsimp only)) | (dsimp only; walk1))
  refine N_callType1 ?_
  refine N_Call_Name rfl ?_
  k_fold
  repeat (first | walk1 | (k_unfold; (try dsimp only)) | (dsimp only; walk1))
  refine N_callK (by k_asm) (by k_is) ?_
  k_fold
  repeat (first | walk1 | (k_unfold; (try dsimp only)) | (dsimp only; walk1))
  k_dflt (refine' expand_N _ _ _ _ _ _ _ _ _ _ _ _ _ _ _ _ _ _ _ _ _ _ _ _ _ _ _ _ ?B ?F ?X ?N ?T ?K ?z1 ?z2 ?w0 ?w1 ?d ?u ?_; (case B => k_asm); (case F => k_asm); (case X => k_asm); (case N => k_asm); (case T => k_asm); (case K => first | exact rfl | assumption); (case z1 => rw [keyed_size]; decide); (case z2 => omega); (case w0 => omega); (case w1 => omega); (case d => ktr_room); (case u => ktr_units))
  intro _ _ _ _ _
  (try dsimp only)
  refine N_any ?_
  k_fold
  repeat (first | walk1 | (k_unfold; (try dsimp only)) | (dsimp only; walk1))
  refine N_execs_nil ?_
  (try dsimp only)
  -- less
  refine N_execs_any ?_
  k_fold
  repeat (first | walk1 | (k_unfold; (try dsimp only)) | (dsimp only; walk1))
  obtain ⟨hL0, hL1⟩ := fmod_rng (x := (g (0 + 3)).fdiv 201) (wt + 1) (by omega)
  rename Fr _ _ _ _ => FL
  generalize ((g (0 + 3)).fdiv 201).fmod (wt + 1) = ls at hL0 hL1 FL
  -- return
  refine N_execs_cons (N_Return_some (N_Compare1 ?_))
  refine N_Call_Name1 ?_
  k_fold
  repeat (first | walk1 | (k_unfold; (try dsimp only)) | (dsimp only; walk1))
  refine N_callType1 ?_
  refine N_Call_Name rfl ?_
  k_fold
  repeat (first | walk1 | (k_unfold; (try dsimp only)) | (dsimp only; walk1))
  refine N_callK (by k_asm) (by k_is) ?_
  k_fold
  repeat (first | walk1 | (k_unfold; (try dsimp only)) | (dsimp only; walk1))
  k_dflt (refine' expand_N _ _ _ _ _ _ _ _ _ _ _ _ _ _ _ _ _ _ _ _ _ _ _ _ _ _ _ _ ?B ?F ?X ?N ?T ?K ?z1 ?z2 ?w0 ?w1 ?d ?u ?_; (case B => k_asm); (case F => k_asm); (case X => k_asm); (case N => k_asm); (case T => k_asm); (case K => first | exact rfl | assumption); (case z1 => rw [keyed_size]; decide); (case z2 => omega); (case w0 => omega); (case w1 => omega); (case d => ktr_room); (case u => ktr_units))
  intro _ _ _ _ _
  (try dsimp only)
  refine N_any ?_
  k_fold
  repeat (first | walk1 | (k_unfold; (try dsimp only)) | (dsimp only; walk1))
  rw [decide_eq_true (cut_law (by omega)).symm]
  (first | kc_close | (k_end; kc_close) | wrow_close))
end Mine
theorem PySem.Challenge.cw_iv0036_01_holds : PySem.Challenge.rw_iv0036_01.Holds := by
  exact Mine.lawN
