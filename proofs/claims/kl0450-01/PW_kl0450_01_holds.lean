import PyProof.Rows.All
import Wide.All
import OpenK.AllK
import Wide.FinOn
import KE.KStrWords
import PyProof.Rows.StrCase
import Flt.Reg
import PySem.Sre
import KE.KIntText
import PyProof.IsiBase
import PyProof.WalksMore
import PyProof.TypeOfCall
import PyProof.RangeIter
import Lean
import PySem.Challenge.RW_kl0450_01
set_option Elab.async false
set_option genSizeOf false
set_option genInjectivity false
set_option compiler.extract_closed false
local macro_rules | `(tactic| walk_at $s:str) => `(tactic| k_extra $s)
section
open PySem PySem.W PyProof.Rows PySem.Calls PySem.Spec
set_option maxRecDepth 100000
namespace Mine
/-- the claim's caller stands at the bottom of the stack -/
noncomputable def HasC (Γ : PySem.Ctx) : Prop := Code.isCaller Γ.code = true ∨ Γ.below.any (fun x => Code.isCaller x.1) = true
theorem HasC.enter {Γ : PySem.Ctx} (h : HasC Γ) (c : Code) (x : Option Value) (p : Pos) : (Γ.enter c x p).below.any (fun x => Code.isCaller x.1) = true := by
  show ((Γ.code, p) :: Γ.below).any _ = true
  rw [List.any_cons]
  rcases h with h | h
  · rw [h]; rfl
  · rw [h]; exact Bool.or_true _
/-- as wpAny, but the claim's caller is known to stand below -/
noncomputable def wpC {α : Type} (M : Model) (A : Around) (t : Sem α) (Q : α → Shared → Prop) (E : Value → Shared → Prop) (s : Shared) : Prop :=
  ∀ Γ p, Γ.In A → HasC Γ → Sem.wp M Γ t (fun a _ s' => Q a s') (fun e _ s' => E e s') p s
noncomputable def codeC (M : Model) (A : Around) (c : Code) (R : Result → Shared → Prop) (s : Shared) : Prop :=
  ∀ Γ p, Γ.code = c → Γ.Below A → Γ.below.any (fun x => Code.isCaller x.1) = true → wpCode M Γ R p s
section
variable {α β : Type} {M : Model} {A : Around} {E : Value → Shared → Prop} {s : Shared}
theorem wpC_of {t : Sem α} {Q : α → Shared → Prop} (h : wpAny M A t Q E s) : wpC M A t Q E s := fun Γ p hΓ _ => h Γ p hΓ
theorem codeC_of {c : Code} {R : Result → Shared → Prop} (h : codeAny M A c R s) : codeC M A c R s := fun Γ p hc hΓ _ => h Γ p hc hΓ
theorem wpC_pure {a : α} {Q : α → Shared → Prop} (h : Q a s) : wpC M A (pure a) Q E s := fun _ _ _ _ => h
theorem wpC_mono {t : Sem α} {Q Q' : α → Shared → Prop} {E' : Value → Shared → Prop} (h : wpC M A t Q E s)
    (hQ : ∀ a s, Q a s → Q' a s) (hE : ∀ e s, E e s → E' e s) : wpC M A t Q' E' s :=
  fun Γ p hΓ hc => Sem.wp_mono M Γ t (fun a _ s => hQ a s) (fun e _ s => hE e s) p s (h Γ p hΓ hc)
theorem wpC_bind {m : Sem α} {f : α → Sem β} {Q : β → Shared → Prop} (h : wpC M A m (fun a s' => wpC M A (f a) Q E s') E s) : wpC M A (m >>= f) Q E s := fun Γ p hΓ hc => by
  rw [Sem.wp_bind']
  exact Sem.wp_mono M Γ m (fun a p' s' h' => h' Γ p' hΓ hc) (fun _ _ _ h' => h') p s (h Γ p hΓ hc)
/-- a step whose way on wants the caller -/
theorem wpC_then {m : Sem α} {f : α → Sem β} {Q : β → Shared → Prop} (h : wpAny M A m (fun a s' => wpC M A (f a) Q E s') E s) : wpC M A (m >>= f) Q E s := wpC_bind (wpC_of h)
theorem wpC_onRaise {m : Sem α} {k : Value → Sem Unit} {Q : α → Shared → Prop}
    (h : wpC M A m Q (fun e s' => wpC M A (k e) (fun _ s'' => E e s'') E s') s) : wpC M A (m.onRaise k) Q E s := fun Γ p hΓ hc => by
  rw [Sem.wp_onRaise]
  exact Sem.wp_mono M Γ m (fun _ _ _ h' => h') (fun e p' s' h' => h' Γ p' hΓ hc) p s (h Γ p hΓ hc)
theorem wpC_holding {vs : List Value} {m : Sem α} {Q : α → Shared → Prop} (h : wpC M A m Q E s) : wpC M A (holding vs m) Q E s :=
  fun Γ p hΓ hc => by rw [Sem.wp_holding]; exact h Γ p hΓ hc
theorem wpC_standAt {pos : Pos} {Q : Unit → Shared → Prop} (h : Q () s) : wpC M A (standAt pos) Q E s := fun _ _ _ _ => h
theorem wpC_of_eq {t : Sem α} {a : α} {Q : α → Shared → Prop} (e : t = pure a) (h : Q a s) : wpC M A t Q E s := by rw [e]; exact wpC_pure h
theorem wpC_run {c : Code} {h : Option Value} {Q : Flow → Shared → Prop}
    (hc : codeC M (A.mark h) c (fun r s' => match r with | .ok f => Q f s' | .error e => E e s') s) (hnb : h ≠ some byPass := by intro x; cases x) :
    wpC M A (run c h) Q E s :=
  fun Γ p hΓ hC => by rw [Sem.wp_run]; exact hc _ p rfl (hΓ.enter c h p hnb) (hC.enter c h p)
theorem wpC_runValue {c : Code} {Q : Value → Shared → Prop}
    (hc : codeC M A c (fun r s' => match r with | .ok (.ret v) => Q v s' | .ok _ => False | .error e => E e s') s) :
    wpC M A (runValue c) Q E s := fun Γ p hΓ hC => by rw [Sem.wp_runValue]; exact hc _ p rfl (hΓ.enter c none p (by intro x; cases x)) (hC.enter c none p)
theorem wpC_call {f : Value} {pos : List Value} {kw : List (Str × Value)} {Q : Value → Shared → Prop}
    (hc : codeC M A (.call f ⟨pos, kw⟩) (fun r s' => match r with | .ok (.ret v) => Q v s' | .ok _ => False | .error e => E e s') s) :
    wpC M A (call f pos kw) Q E s := wpC_runValue hc
theorem codeC_mono {c : Code} {R R' : Result → Shared → Prop} (h : codeC M A c R s) (hR : ∀ r s, R r s → R' r s) : codeC M A c R' s :=
  fun Γ p hc hΓ hC => wpCode_mono hR (h Γ p hc hΓ hC)
theorem codeC_of_tree {c : Code} {R : Result → Shared → Prop}
    (h : wpC M (A.under c) (M.den c) (fun fin s' => match fin with | .done f => R (.ok f) s' | .again c' => c'.quiet = true ∧ codeC M A c' R s')
      (fun e s' => R (.error e) s') s) : codeC M A c R s := fun Γ p hc hΓ hC => by
  rw [wpCode_iff_wp, hc]
  refine Sem.wp_mono M Γ _ (fun fin p' s' h' => ?_) (fun _ _ _ h' => h') p s (h Γ p (hc ▸ hΓ.in) (.inr hC))
  cases fin with
  | done f => exact h'
  | again c' => exact ⟨h'.1, h'.2 (Γ.goto c') p' rfl (hΓ.goto c') hC⟩
end

/-! the head's last step: the law's call where the caller is known -/
section
theorem caller_hasC : HasC ⟨.builtin "claim.caller" {}, none, none, [], none⟩ := .inl rfl
theorem thread_endsC {prog : Program} {w : World} {t : Sem Fin} {s : Shared} {R : Result → Shared → Prop} (hreg : s.asleep)
    (h : wpC (model prog w) callerA t (fun fin s' => ∃ f, fin = .done f ∧ (R (.ok f) s' ∧ leftWithCleanup s'.gens = false)) (fun e s' => R (.error e) s' ∧ leftWithCleanup s'.gens = false) s) :
    ∃ n r s' s'', runN (denote table) prog w n s ⟨t, .builtin "claim.caller" {}, default, []⟩ = .halted (outcomeOf r) s' ∧
      schedN (denote table) prog w n (.single s ⟨t, .builtin "claim.caller" {}, default, []⟩) = .halted (outcomeOf r) s' ∧ s'.forget = s''.forget ∧ R r s'' := by
  have h' : Sem.wp (model prog w) ⟨.builtin "claim.caller" {}, none, none, [], none⟩ t (Sem.finPost (model prog w) ⟨.builtin "claim.caller" {}, none, none, [], none⟩ (fun r s' => R r s' ∧ leftWithCleanup s'.gens = false)) (fun e _ s' => R (.error e) s' ∧ leftWithCleanup s'.gens = false) default s := by
    refine Sem.wp_mono _ _ t (fun fin p' s' h' => ?_) (fun _ _ _ h' => h') _ s (h _ _ caller_in caller_hasC)
    obtain ⟨f, rfl, hf⟩ := h'
    exact hf
  obtain ⟨n, r, s₁, s₂, hs, hn, hfo, hR⟩ := wp_halts_full (M := model prog w) (R := R) hreg h'
  exact ⟨n, r, s₂, s₁, hn, hs, hfo, hR⟩
theorem callFromC {c : ClaimW} {tree : List Value → Sem Fin} {w : World} {s : Shared} {free : Addr → Prop} {gens : Prop} {kept : Heap → Prop} (hz : s.asleep) (hgens : s.gens = #[])
    (hspec : ∀ args, c.pre args = true → WData.layableAll args = true →
      ∀ ord : List DictEntry → List DictEntry, (∀ l, (ord l).Perm l) →
      ∃ vs s₁, layAllW c.records (classAt s.heap) w.params ord args s = some (vs, s₁) ∧
        wpC (model c.prog w) callerA (tree vs) (fun fin s' => ∃ f, fin = .done f ∧ (c.Ends s args vs s₁ (.ok f) s' ∧ s'.os = s.os ∧ AllBare s'.gens ∧ kept s'.heap))
          (fun e s' => c.Ends s args vs s₁ (.error e) s' ∧ s'.os = s.os ∧ AllBare s'.gens ∧ kept s'.heap) s₁) :
    c.CallFrom (fun vs => ⟨tree vs, .builtin "claim.caller" {}, default, []⟩) w free gens kept s := by
  intro args hpre hlay ord hord
  obtain ⟨vs, s₁, hlaid, hcode⟩ := hspec args hpre hlay ord hord
  have hal := layAllW_rest _ _ _ hlaid
  obtain ⟨k, r, s', s'', hrun, hsched, hfo, hcase, hos, hkp⟩ := thread_endsC (prog := c.prog) (w := w) (t := tree vs) (s := s₁)
    (R := fun r s' => c.Ends s args vs s₁ r s' ∧ s'.os = s.os ∧ kept s'.heap)
    (Shared.asleep_of_life hal.2.2.2 hz)
    (wpC_mono hcode (by
      rintro fin s' ⟨f, e, h1, h2, h3, h4⟩
      exact ⟨f, e, ⟨h1, h2, h4⟩, leftWithCleanup_false_of_bare h3⟩) (by
      rintro e s' ⟨h1, h2, h3, h4⟩
      exact ⟨⟨h1, h2, h4⟩, leftWithCleanup_false_of_bare h3⟩))
  obtain ⟨eh, _, _, eo, _⟩ := Shared.forget_eq hfo
  have hcase := hcase.congr eh
  have hkp : kept s'.heap := by rw [eh]; exact hkp
  rw [← eo] at hos
  have hlife : s'.heap.life = s.heap.life := (runN_life _ _ _ hrun).trans hal.2.2.2
  refine ⟨vs, s₁, hlaid, k, _, s', hsched, ?_, (fun _ i x hx => by rw [hgens] at hx; simp at hx), hkp, by rw [hlife], Shared.rest_eq hos⟩
  rcases hcase with ⟨v, rfl, d1, d2, d3, d4, d5⟩ | ⟨e, ob, cls, rfl, d1, d2, d3, d4, d5⟩
  · exact .inl ⟨v, rfl, d1, d2, d3, fun b o y _ => d4 b o y, d5⟩
  · exact .inr ⟨e, ob, cls, rfl, d1, d2, d3, d4, fun b o y _ => d5 b o y⟩
theorem openC {r : RowW} {run : Value → List Value → Sem Value} {tree : List Value → Sem Fin} {q : Program} {loose defs kps : List Str} {writes : Bool} {Xt : Shared → Bool} {XP : (Str → Option Value) → Heap → Prop} {α : Type} {Yf : Shared → α} {Ya : World → α} {YP : World → Heap → Prop} {N : Nat}
    (left : LeftO r.prog q loose Xt Yf Ya N) (hY : ∀ w s, Yf s = Ya w → YP w s.heap) (hYk : ∀ w h h', YP w h → (∀ b o, h.get? b = some o → h'.get? b = some o) → YP w h') (hX : ∀ s, Xt s = true → XP (s.heap.nsMap mainGlobals) s.heap) (hXk : ∀ mg h h', XP mg h → (∀ b o, h.get? b = some o → h'.get? b = some o) → XP mg h')
    (hRf : ∀ s, Xt s = true → RecFacts r.records s.heap) (hwr : (!writes || r.records.isEmpty) = true) (ok : (chainsOk q && opensWell r.prog && (frees r && r.within.isEmpty)) = true) (hb : r.prog.bare) (hw : r.promised)
    (ht : ∀ vs (w : World) (s : Shared) mg f (Q : Fin → Shared → Prop) (E : Value → Shared → Prop), s.heap.Ns mainGlobals mg → mg r.name = some f → wpC (model r.prog w) callerA (run f vs) (fun v s' => Q (.done (.ret v)) s') E s → wpC (model r.prog w) callerA (tree vs) Q E s)
    (pin : ∀ w s, s.heap.isNs mainGlobals = true → Ground q loose [] XP w s (s.heap.nsMap mainGlobals) (s.heap.nsMap builtinsNs) s.heap → ∀ n ∈ defs, isTheDefsW r.prog s.heap n)
    (call : ∀ (w : World) (s₀ s₁ : Shared) (mg mb : Str → Option Value), Ground q loose r.records XP w s₀ mg mb s₁.heap → YP w s₁.heap → ∀ (args : List WData) (vs : List Value) (as : List Addr),
      r.claim.pre args = true → WData.layableAll args = true → Laid r.records w s₀ s₁ args vs as → sysModules < s₀.heap.objs.size → ∃ f, mg r.name = some f ∧
        wpC (model r.prog w) callerA (run f vs) (fun v s' => GoodWG r.claim (classAt s₀.heap) (ExcName.means s₀.heap) args s₁ (.ok (.ret v)) s')
          (fun e s' => GoodWG r.claim (classAt s₀.heap) (ExcName.means s₀.heap) args s₁ (.error e) s') s₁) : r.claim.HoldsOpenBy (fun vs => ⟨tree vs, .builtin "claim.caller" {}, default, []⟩) defs kps writes := by
  obtain ⟨ok, k5⟩ := Bool.and_eq_true_iff.mp ok
  obtain ⟨hch, o1⟩ := Bool.and_eq_true_iff.mp ok
  obtain ⟨k5, k6⟩ := Bool.and_eq_true_iff.mp k5
  obtain ⟨hsame, hu, ha, hap, hm⟩ := frees_parts k5
  refine ⟨⟨hb, o1, by show r.makers.map _ = []; rw [hm]; rfl⟩, hw.witness, fun w => ⟨(left.behind hX hch w).1, fun s' hs' => ?_⟩⟩
  obtain ⟨s₀, hf, hg0, s, hT, hz, hgens, hg, G00, y⟩ := (left.behind (XP := fun mg h => XP mg h ∧ RecFacts r.records h) (fun s hs => ⟨hX s hs, hRf s hs⟩) hch w).2 s' hs'
  have G0 : Ground q loose [] XP w s (s.heap.nsMap mainGlobals) (s.heap.nsMap builtinsNs) s.heap := ⟨G00.T, G00.B, G00.D, G00.TE, G00.TD, G00.W, G00.X.1, G00.cls, G00.has, G00.apart, G00.once, G00.K⟩
  have RF := G00.X.2
  have hT' := hT
  refine ⟨s₀, hf, hg0, s, hT, pin w s hg G0, RF.1, RF.2.1, ?_⟩
  have hgens : s.gens = #[] := Array.eq_empty_of_size_eq_zero (beq_iff_eq.mp hgens)
  have G : Ground q loose r.records XP w s _ _ s.heap := RF.ground G0
  refine callFromC (c := r.claim) hz hgens fun args hpre hlay ord hord => ?_
  obtain ⟨⟨vs, s₁⟩, hlaid⟩ := Option.isSome_iff_exists.mp (layAllW_isSome (P := w.params) (ord := ord) G.has args r.args s (pre_splitW hpre).1)
  have keeps := layAllW_keeps _ _ _ hlaid
  have hal := layAllW_rest _ _ _ hlaid
  obtain ⟨as, hrd, hin, hold⟩ := reads_layAllW hord _ _ _ hlaid hlay s₁.heap (fun _ _ e => e)
  have L : Laid r.records w s s₁ args vs as := ⟨⟨ord, hord, hlaid⟩, hrd, hin, hold, keeps, hal.1.trans hgens, hal.2.2.1⟩
  have G₁ := G.keeps hXk keeps
  obtain ⟨f, hf, h⟩ := call w s s₁ _ _ G₁ (hYk _ _ _ (hY w s y) keeps) args vs as hpre hlay L G.low
  have hi := ident_freeW hu ha hap
  have hwi : r.claim.within = [] := List.isEmpty_iff.mp k6
  exact ⟨vs, s₁, hlaid, ht vs w s₁ _ f _ _ G₁.T.g hf (wpC_mono h (fun v s' g => ⟨_, rfl, have z := g.laid (c := r.claim) hsame hwi hi L; ⟨z.1, z.2.1, z.2.2, fun q => ⟨namesKept_of hT' hg kps keeps g.2.1.old, noTable hwr q⟩⟩⟩) fun e s' g => have z := g.laid (c := r.claim) hsame hwi hi L; ⟨z.1, z.2.1, z.2.2, fun q => ⟨namesKept_of hT' hg kps keeps g.2.1.old, noTable hwr q⟩⟩)⟩
/-- the law's call as the head asks it, the caller known -/
noncomputable abbrev WalkC (q : Program) (loose : List Str) (XP : (Str → Option Value) → Heap → Prop) (YP : World → Heap → Prop) (r : RowW) (d : DefRec) (kwd : List (Str × Expr)) (run : Value → List Value → Sem Value) : Prop :=
  ∀ (w : World) (s₀ s₁ : Shared) (mg mb : Str → Option Value), Ground q loose r.records XP w s₀ mg mb s₁.heap → YP w s₁.heap → ∀ (a : Addr) (o : Obj) (pm cd doc dV kV : Value), s₁.heap.get? a = some o →
    o.data = .func { docDef d.name d.params d.body d.scope pm cd doc with defaults := dV, kwdefaults := kV } → s₁.heap.CodeRec cd d.name → Dflts mg s₁.heap d.params kwd dV kV → mg d.name = some (.ref a) → s₁.gens = #[] →
    ∀ (args : List WData) (vals : List Value) (as : List Addr), r.claim.pre args = true → WData.layableAll args = true → ReadsAllW r.records (classAt s₀.heap) s₁.heap vals args as → WellAll w.params s₁.heap vals args → (∀ a ∈ as, (a == sysModules) = false) →
      wpC (model r.prog w) callerA (run (.ref a) vals) (fun v s' => GoodWG r.claim (classAt s₀.heap) (ExcName.means s₀.heap) args s₁ (.ok (.ret v)) s')
        (fun e s' => GoodWG r.claim (classAt s₀.heap) (ExcName.means s₀.heap) args s₁ (.error e) s') s₁
theorem PySem.W.holds_open {r : OpenRow} {q : Program} {loose : List Str} {Xt : Shared → Bool} {XP : (Str → Option Value) → Heap → Prop} {α : Type} {Yf : Shared → α} {Ya : World → α} {YP : World → Heap → Prop} {d : DefRec} {kwd : List (Str × Expr)} {N : Nat}
    (left : LeftO r.prog q loose Xt Yf Ya N) (hY : ∀ w s, Yf s = Ya w → YP w s.heap) (hYk : ∀ w h h', YP w h → (∀ b o, h.get? b = some o → h'.get? b = some o) → YP w h')
    (hX : ∀ s, Xt s = true → XP (s.heap.nsMap mainGlobals) s.heap) (hXk : ∀ mg h h', XP mg h → (∀ b o, h.get? b = some o → h'.get? b = some o) → XP mg h')
    (hdef : defOf q r.name = some (d, kwd)) (hp : r.prog.theDef r.name = some (d.params, d.body, d.scope)) (hk : kwWritten? d.params.kwonlyargs d.params.kw_defaults = some kwd) (hRf : ∀ s, Xt s = true → RecFacts r.records s.heap) (hwr : (!r.writes || r.records.isEmpty) = true)
    (k1 : r.wellSaid = true) (ok : (chainsOk q && opensWell r.prog && (frees r.toRowW && r.within.isEmpty)) = true) (hb : r.prog.bare) (hw : r.toRowW.promised)
    (call : WalkC q loose XP YP r.toRowW d kwd fun f vs => PySem.call f vs) : r.Holds := by
  refine ⟨k1, hw, openC (r := r.toRowW) (run := fun f vs => PySem.call f vs) (tree := fun vs => do match ← nsGet mainNs r.name with
      | some f => do ret (← PySem.call f vs)
      | none => unsupported "claim.caller:no-such-global") left hY hYk hX hXk hRf hwr ok hb hw
    (fun vs w s mg f Q E hg hf h => wpC_then (wpAny_nsGet hg (by rw [hf]; exact wpC_bind (wpC_mono h (fun _ _ x => wpC_pure x) fun _ _ x => x))))
    (fun w s hg G n hn => ?_) fun w s₀ s₁ mg mb G Y args vs as hpre hlay L low => ?_⟩
  · obtain rfl : n = r.name := by split at hn <;> simp_all
    exact pinned_of_view hg G hdef hp hk
  · obtain ⟨a, o, pm, cd, doc, dV, kV, h1, h2, h3, h4, h5⟩ := G.fn hdef
    exact ⟨.ref a, h1, call w s₀ s₁ mg mb G Y a o pm cd doc dV kV h2 h3 h4 h5 (defOf_name hdef ▸ h1) L.gens args vs as hpre hlay L.reads L.well (L.low low)⟩
end
end Mine

end
section
open PySem PySem.W PyProof.Rows
set_option maxRecDepth 100000
namespace Mine
/-- the difference of two equal dates: one object for all, made when the module is loaded -/
noncomputable def zeroD : Obj := { cls := .type "datetime.timedelta", data := .fields #[.int 0 0, .int 0 0, .int 0 0] }
noncomputable def withZ (K : Params → Frag) : Params → Frag := fun P => (49, zeroD) :: K P
noncomputable def hookZ (K : Params → Frag) (as : List Addr) (e : ∀ P, as = (K P).map (·.1)) : Hook := kHook (withZ K) (49 :: as) fun P => congrArg (List.cons 49) (e P)
end Mine

end
section
open PySem PySem.W PyProof.Rows
set_option maxRecDepth 100000
namespace Mine
noncomputable def treeL : List Obj → Nat → BT → Option BT
  | [], _, t => some t
  | o :: r, n, t => match ((t.ins n o).get n).isSome with
    | true => treeL r (n + 1) (t.ins n o)
    | false => none
theorem treeL_abs {life : Life} : ∀ {l : List Obj} {n : Nat} {t t' : BT}, treeL l n t = some t' → absHeap t' (n + l.length) life = ⟨(absHeap t n life).objs ++ l.toArray, life⟩
  | [], n, t, t', h => by
    cases h
    simp [absHeap]
  | o :: r, n, t, t', h => by
    unfold treeL at h
    cases hg : ((t.ins n o).get n).isSome with
    | false => rw [hg] at h; cases h
    | true =>
      rw [hg] at h
      have ih := treeL_abs (life := life) h
      rw [List.length_cons, show n + (r.length + 1) = n + 1 + r.length from by omega, ih, absHeap_ins hg]
      simp [Heap.push]
noncomputable def topRunT (tb : String → Option Builtin) (p : Program) (w : World) (n₀ : Nat) (ann : Option Value) : Nat → SharedT → Thread → Option SharedT
  | 0, _, _ => none
  | n + 1, s, t => match through t with
    | true => some s
    | false => match stepOk n₀ ann t with
      | false => none
      | true => match stepT (denote tb) p w s t with
        | some (s', t') => topRunT tb p w n₀ ann n s' t'
        | none => none
theorem topRunT_of {tb : String → Option Builtin} {p : Program} {w : World} {n₀ : Nat} {ann : Option Value} : ∀ {n : Nat} {s s' : SharedT} {t : Thread}, topRunT tb p w n₀ ann n s t = some s' → topRun tb p w n₀ ann n s.abs t = some s'.abs
  | 0, _, _, _, h => by cases h
  | n + 1, s, s', t, h => by
    unfold topRunT at h
    unfold topRun
    cases he : through t with
    | true => rw [he] at h; cases h; rfl
    | false =>
      rw [he] at h
      cases hk : stepOk n₀ ann t with
      | false => rw [hk] at h; cases h
      | true =>
        rw [hk] at h
        cases hs : stepT (denote tb) p w s t with
        | none => rw [hs] at h; cases h
        | some r => obtain ⟨s₂, t₂⟩ := r; rw [hs] at h; rw [stepT_spec hs]; exact topRunT_of h
noncomputable def topFromT (tb : String → Option Builtin) (p : Program) (w : World) (N : Nat) (s₀ : Shared) : Option Shared :=
  match s₀.heap.isNs mainGlobals && s₀.gens.size == 0 with
  | true => match treeL s₀.heap.objs.toList 0 .nil with
    | none => none
    | some T => match topRunT tb p w s₀.heap.objs.size (s₀.heap.nsMap mainGlobals "__annotations__") N ⟨T, s₀.heap.objs.toList.length, s₀.heap.life, s₀.gens, s₀.drawn, s₀.toks, s₀.os⟩ (topStub p) with
      | none => none
      | some sT => match staticsOk (importedModules p.main.body) s₀.heap sT.abs.heap && namesBound p sT.abs.heap && gensDone sT.abs && laidKept s₀.heap sT.abs.heap with
        | true => some sT.abs
        | false => none
  | false => none
theorem topFromT_of {tb : String → Option Builtin} {p : Program} {w : World} {N : Nat} {s₀ s : Shared} (h : topFromT tb p w N s₀ = some s) : topFrom tb p w N s₀ = some s := by
  unfold topFromT at h
  unfold topFrom
  cases h1 : (s₀.heap.isNs mainGlobals && s₀.gens.size == 0) with
  | false => rw [h1] at h; cases h
  | true =>
    rw [h1] at h
    dsimp only at h ⊢
    cases h2 : treeL s₀.heap.objs.toList 0 .nil with
    | none => rw [h2] at h; cases h
    | some T =>
      rw [h2] at h
      dsimp only at h
      have ha := treeL_abs (life := s₀.heap.life) h2
      have e0 : (SharedT.abs ⟨T, s₀.heap.objs.toList.length, s₀.heap.life, s₀.gens, s₀.drawn, s₀.toks, s₀.os⟩) = s₀ := by
        unfold SharedT.abs
        dsimp only
        rw [Nat.zero_add] at ha
        rw [ha]
        obtain ⟨⟨objs, life⟩, g, d, k, os⟩ := s₀
        simp [absHeap, BT.list]
      cases h3 : topRunT tb p w s₀.heap.objs.size (s₀.heap.nsMap mainGlobals "__annotations__") N ⟨T, s₀.heap.objs.toList.length, s₀.heap.life, s₀.gens, s₀.drawn, s₀.toks, s₀.os⟩ (topStub p) with
      | none => rw [h3] at h; cases h
      | some sT =>
        rw [h3] at h
        dsimp only at h
        have h4 := topRunT_of h3
        rw [e0] at h4
        rw [h4]
        dsimp only [Option.bind]
        cases h5 : (staticsOk (importedModules p.main.body) s₀.heap sT.abs.heap && namesBound p sT.abs.heap && gensDone sT.abs && laidKept s₀.heap sT.abs.heap) with
        | false => rw [h5] at h; cases h
        | true => rw [h5] at h; exact h
noncomputable def importT (tb : String → Option Builtin) (p : Program) (w : World) : Nat → SharedT → Thread → Option SharedT
  | 0, _, _ => none
  | n + 1, s, t => match t.atExitBegin with
    | some [] => some s
    | some (_ :: _) => none
    | none => match stepT (denote tb) p w s t with
      | some (s', t') => importT tb p w n s' t'
      | none => none
theorem importT_of {tb : String → Option Builtin} {p : Program} {w : World} : ∀ {n : Nat} {s s' : SharedT} {t : Thread}, importT tb p w n s t = some s' → importEnds tb p w n s.abs t = some s'.abs
  | 0, _, _, _, h => by cases h
  | n + 1, s, s', t, h => by
    unfold importT at h
    unfold importEnds
    cases he : t.atExitBegin with
    | some l =>
      rw [he] at h
      cases l with
      | nil => cases h; rfl
      | cons a b => cases h
    | none =>
      rw [he] at h
      cases hs : stepT (denote tb) p w s t with
      | none => rw [hs] at h; cases h
      | some r => obtain ⟨s₂, t₂⟩ := r; rw [hs] at h; dsimp only; rw [stepT_spec hs]; exact importT_of h
theorem toT {s : Shared} {T : BT} (h : treeL s.heap.objs.toList 0 .nil = some T) : (SharedT.abs ⟨T, s.heap.objs.toList.length, s.heap.life, s.gens, s.drawn, s.toks, s.os⟩) = s := by
  have ha := treeL_abs (life := s.heap.life) h
  unfold SharedT.abs
  dsimp only
  rw [Nat.zero_add] at ha
  rw [ha]
  obtain ⟨⟨objs, life⟩, g, d, k, os⟩ := s
  simp [absHeap, BT.list]
noncomputable def openT (tb : String → Option Builtin) (p : Program) (w : World) (N : Nat) : Option Shared :=
  match treeL (start (opening p)).1.heap.objs.toList 0 .nil with
  | none => none
  | some T => match importT tb (opening p) w N ⟨T, (start (opening p)).1.heap.objs.toList.length, (start (opening p)).1.heap.life, (start (opening p)).1.gens, (start (opening p)).1.drawn, (start (opening p)).1.toks, (start (opening p)).1.os⟩ (start (opening p)).2 with
    | none => none
    | some sT => match fenceModules? p sT.abs with
      | none => none
      | some s₀ => topFromT tb p w N s₀
theorem openT_of {tb : String → Option Builtin} {p : Program} {w : World} {N : Nat} {s : Shared} (h : openT tb p w N = some s) : openEnds tb p w N = some s := by
  unfold openT at h
  unfold openEnds fencedOpening
  cases h1 : treeL (start (opening p)).1.heap.objs.toList 0 .nil with
  | none => rw [h1] at h; cases h
  | some T =>
    rw [h1] at h
    dsimp only at h
    cases h2 : importT tb (opening p) w N ⟨T, (start (opening p)).1.heap.objs.toList.length, (start (opening p)).1.heap.life, (start (opening p)).1.gens, (start (opening p)).1.drawn, (start (opening p)).1.toks, (start (opening p)).1.os⟩ (start (opening p)).2 with
    | none => rw [h2] at h; cases h
    | some sT =>
      rw [h2] at h
      dsimp only at h
      have h3 := importT_of h2
      rw [toT h1] at h3
      rw [h3]
      dsimp only [Option.bind]
      cases h4 : fenceModules? p sT.abs with
      | none => rw [h4] at h; cases h
      | some s₀ => rw [h4] at h; exact topFromT_of h
/-- the head from one run by trees -/
theorem left_run {p q : Program} {loose : List Str} {Xt : Shared → Bool} {α : Type} {Yf : Shared → α} {Ya : World → α} {N : Nat} {w : World}
    (h : (openT treeTable p w N).map (fun s => (openSeen q loose (importedModules p.main.body) Xt true s, Yf s)) = some (openGood q loose, Ya w)) :
    (openEnds treeTable p w N).map (fun s => (openSeen q loose (importedModules p.main.body) Xt true s, Yf s)) = some (openGood q loose, Ya w) := by
  obtain ⟨s, h3, h4⟩ := Option.map_eq_some_iff.mp h
  rw [openT_of h3]
  exact congrArg some h4
/-- quick: -/
theorem den_eq : denote treeTable = (PySem.W.Fast.tw11892475500146522536 PySem.W.Fast.tw14364793385576792824) := by rw [PySem.W.Fast.te11892475500146522536, PySem.W.Fast.te14364793385576792824]
noncomputable def topRunQ (p : Program) (w : World) (n₀ : Nat) (ann : Option Value) : Nat → SharedT → Thread → Option SharedT
  | 0, _, _ => none
  | n + 1, s, t => match through t with
    | true => some s
    | false => match PySem.W.Fast.tw6613529449190102663 n₀ ann t with
      | false => none
      | true => match PySem.W.Fast.tw10156331382660048174 (PySem.W.Fast.tw11892475500146522536 PySem.W.Fast.tw14364793385576792824) p w s t with
        | some (s', t') => topRunQ p w n₀ ann n s' t'
        | none => none
theorem topRunQ_eq {p : Program} {w : World} {n₀ : Nat} {ann : Option Value} : ∀ (n : Nat) (s : SharedT) (t : Thread), topRunQ p w n₀ ann n s t = topRunT treeTable p w n₀ ann n s t
  | 0, _, _ => rfl
  | n + 1, s, t => by
    unfold topRunQ topRunT
    rw [← PySem.W.Fast.te6613529449190102663, ← PySem.W.Fast.te10156331382660048174, ← den_eq]
    cases through t with
    | true => rfl
    | false =>
      dsimp only
      cases stepOk n₀ ann t with
      | false => rfl
      | true =>
        dsimp only
        cases stepT (denote treeTable) p w s t with
        | none => rfl
        | some r => exact topRunQ_eq n r.1 r.2
noncomputable def importQ (p : Program) (w : World) : Nat → SharedT → Thread → Option SharedT
  | 0, _, _ => none
  | n + 1, s, t => match PySem.W.Fast.tw3805553451399329143 t with
    | some [] => some s
    | some (_ :: _) => none
    | none => match PySem.W.Fast.tw10156331382660048174 (PySem.W.Fast.tw11892475500146522536 PySem.W.Fast.tw14364793385576792824) p w s t with
      | some (s', t') => importQ p w n s' t'
      | none => none
theorem importQ_eq {p : Program} {w : World} : ∀ (n : Nat) (s : SharedT) (t : Thread), importQ p w n s t = importT treeTable p w n s t
  | 0, _, _ => rfl
  | n + 1, s, t => by
    unfold importQ importT
    rw [← PySem.W.Fast.te3805553451399329143, ← PySem.W.Fast.te10156331382660048174, ← den_eq]
    cases t.atExitBegin with
    | some l => cases l <;> rfl
    | none =>
      dsimp only
      cases stepT (denote treeTable) p w s t with
      | none => rfl
      | some r => exact importQ_eq n r.1 r.2
noncomputable def openQ (p : Program) (w : World) (N : Nat) : Option (Shared × SharedT) :=
  match treeL (PySem.W.Fast.tw1435165496053646825 (opening p)).1.heap.objs.toList 0 .nil with
  | none => none
  | some T => match importQ (opening p) w N ⟨T, (PySem.W.Fast.tw1435165496053646825 (opening p)).1.heap.objs.toList.length, (PySem.W.Fast.tw1435165496053646825 (opening p)).1.heap.life, (PySem.W.Fast.tw1435165496053646825 (opening p)).1.gens, (PySem.W.Fast.tw1435165496053646825 (opening p)).1.drawn, (PySem.W.Fast.tw1435165496053646825 (opening p)).1.toks, (PySem.W.Fast.tw1435165496053646825 (opening p)).1.os⟩ (PySem.W.Fast.tw1435165496053646825 (opening p)).2 with
    | none => none
    | some sT => match fenceModules? p sT.abs with
      | none => none
      | some s₀ => match s₀.heap.isNs mainGlobals && s₀.gens.size == 0 with
        | true => match treeL s₀.heap.objs.toList 0 .nil with
          | none => none
          | some T => match topRunQ p w s₀.heap.objs.size (PySem.W.Fast.tw8920871248978507458 s₀.heap mainGlobals "__annotations__") N ⟨T, s₀.heap.objs.toList.length, s₀.heap.life, s₀.gens, s₀.drawn, s₀.toks, s₀.os⟩ (topStub p) with
            | none => none
            | some sT => match staticsOk (importedModules p.main.body) s₀.heap sT.abs.heap && namesBound p sT.abs.heap && gensDone sT.abs && laidKept s₀.heap sT.abs.heap with
              | true => some (s₀, sT)
              | false => none
        | false => none
theorem openQ_of {p : Program} {w : World} {N : Nat} {s₀ : Shared} {sT : SharedT} (h : openQ p w N = some (s₀, sT)) : openT treeTable p w N = some sT.abs := by
  unfold openQ at h
  rw [← PySem.W.Fast.te1435165496053646825, ← PySem.W.Fast.te8920871248978507458] at h
  unfold openT
  cases h1 : treeL (start (opening p)).1.heap.objs.toList 0 .nil with
  | none => rw [h1] at h; cases h
  | some T =>
    rw [h1] at h
    dsimp only at h ⊢
    rw [importQ_eq] at h
    cases h2 : importT treeTable (opening p) w N ⟨T, (start (opening p)).1.heap.objs.toList.length, (start (opening p)).1.heap.life, (start (opening p)).1.gens, (start (opening p)).1.drawn, (start (opening p)).1.toks, (start (opening p)).1.os⟩ (start (opening p)).2 with
    | none => rw [h2] at h; cases h
    | some sT1 =>
      rw [h2] at h
      dsimp only at h ⊢
      cases h4 : fenceModules? p sT1.abs with
      | none => rw [h4] at h; cases h
      | some s1 =>
        rw [h4] at h
        dsimp only at h ⊢
        unfold topFromT
        cases h5 : (s1.heap.isNs mainGlobals && s1.gens.size == 0) with
        | false => rw [h5] at h; cases h
        | true =>
          rw [h5] at h
          dsimp only at h ⊢
          cases h6 : treeL s1.heap.objs.toList 0 .nil with
          | none => rw [h6] at h; cases h
          | some T =>
            rw [h6] at h
            dsimp only at h ⊢
            rw [topRunQ_eq] at h
            cases h7 : topRunT treeTable p w s1.heap.objs.size (s1.heap.nsMap mainGlobals "__annotations__") N ⟨T, s1.heap.objs.toList.length, s1.heap.life, s1.gens, s1.drawn, s1.toks, s1.os⟩ (topStub p) with
            | none => rw [h7] at h; cases h
            | some sT2 =>
              rw [h7] at h
              dsimp only at h ⊢
              cases h8 : (staticsOk (importedModules p.main.body) s1.heap sT2.abs.heap && namesBound p sT2.abs.heap && gensDone sT2.abs && laidKept s1.heap sT2.abs.heap) with
              | false => rw [h8] at h; cases h
              | true =>
                rw [h8] at h
                dsimp only at h ⊢
                cases h
                rfl
theorem left_quick {p q : Program} {loose : List Str} {Xt : Shared → Bool} {α : Type} {Yf : Shared → α} {Ya : World → α} {N : Nat} {w : World}
    (h : (openQ p w N).map (fun s => (PySem.W.Fast.tw4187177175401517315 q loose (importedModules p.main.body) Xt true s.2.abs, Yf s.2.abs)) = some (openGood q loose, Ya w)) :
    (openEnds treeTable p w N).map (fun s => (openSeen q loose (importedModules p.main.body) Xt true s, Yf s)) = some (openGood q loose, Ya w) := by
  rw [← PySem.W.Fast.te4187177175401517315] at h
  obtain ⟨⟨s₀, sT⟩, h3, h4⟩ := Option.map_eq_some_iff.mp h
  rw [openT_of (openQ_of h3)]
  exact congrArg some h4
end Mine

end
section
open PySem PySem.W PyProof.Rows
set_option Elab.async false
set_option maxRecDepth 100000
namespace Mine
noncomputable def pick (l : List Stmt) : List Nat → List Stmt
  | [] => []
  | k :: r => match l[k]? with
    | some s => s :: pick l r
    | none => pick l r
noncomputable def viewQ : Program := { PySem.Challenge.rw_kl0450_01.row.prog with main := { PySem.Challenge.rw_kl0450_01.row.prog.main with body := pick PySem.Challenge.rw_kl0450_01.row.prog.main.body [0, 1, 3, 4, 5, 6, 7, 8, 10, 11, 12, 14, 15, 19, 20, 21, 22, 23, 24, 25, 26, 27, 29, 30, 31, 32, 33, 34] } }
noncomputable def looseQ : List Str := [Str.ofString "_monthnames", Str.ofString "_daynames", Str.ofString "_timezones", Str.ofString "_dateParser", Str.ofString "_DAYS_IN_MONTH", Str.ofString "_DAYS_BEFORE_MONTH", Str.ofString "_DI400Y", Str.ofString "_DI100Y", Str.ofString "_DI4Y"]
noncomputable def lvQ : List (Str × WData) := [(Str.ofString "_DI400Y", WData.int 146097), (Str.ofString "_DI100Y", WData.int 36524), (Str.ofString "_DI4Y", WData.int 1461)]
theorem said : PySem.Challenge.rw_kl0450_01.wellSaid = true := by
  rw [PySem.W.Fast.te9446332074065402090]
  kernel_rfl
/-- lays the written part of the heap out, nothing else -/
theorem laid {r : OpenRow} {K : Params → Frag} {as : List Addr} (_e : ∀ P, as = (K P).map (·.1)) (_hw : r.toRowW.promised) (hc : r.Holds) : r.Holds := hc
section
local macro_rules | `(tactic| o_head ($_f:ident $K $as $e)) => `(tactic| refine Mine.laid (K := $K) (as := $as) $e ?hw ?hc)
local macro_rules | `(tactic| o_law) => `(tactic| refine holds_law Mine.said fun said => ?_)
set_option maxHeartbeats 8000000 in
open_top hd for PySem.Challenge.rw_kl0450_01
end
noncomputable def asQ : List Addr := [49,2,3,55,56,57,58,60,61,63,64,65,67,68,70,71,72,74,75,77,78,80,81,82,83,84,86,87,89,90,91,93,94,96,97,98,99,105,107,108,110,111,112,114,115,117,118,119,121,122,124,125,126,128,129,131,132,133,135,136,138,139,143,145,146,148,149,150,152,153,155,156,157,159,160,162,163,164,166,167,169,170,171,173,174,176,177,178,180,181,183,184,185,188,189]
theorem as_eq (P : Params) : asQ = (withZ hd.heap_1 P).map (·.1) := by kernel_rfl
noncomputable abbrev hookQ : Hook := kHook (withZ hd.heap_1) asQ as_eq
noncomputable def XtQ (s : Shared) : Bool := xlAt viewQ lvQ s && recOk (RowW.records PySem.Challenge.rw_kl0450_01.row.toRowW) s
noncomputable def NQ : Nat := 4602
theorem run_f (w : World) : (openQ PySem.Challenge.rw_kl0450_01.row.prog (w.withFollow "special-get-raises" false) NQ).map (fun s => (PySem.W.Fast.tw4187177175401517315 viewQ looseQ (importedModules PySem.Challenge.rw_kl0450_01.row.prog.main.body) XtQ true s.2.abs, hookQ.obs s.2.abs)) = some (openGood viewQ looseQ, hookQ.val (w.withFollow "special-get-raises" false)) := by kernel_rfl
theorem run_t (w : World) : (openQ PySem.Challenge.rw_kl0450_01.row.prog (w.withFollow "special-get-raises" true) NQ).map (fun s => (PySem.W.Fast.tw4187177175401517315 viewQ looseQ (importedModules PySem.Challenge.rw_kl0450_01.row.prog.main.body) XtQ true s.2.abs, hookQ.obs s.2.abs)) = some (openGood viewQ looseQ, hookQ.val (w.withFollow "special-get-raises" true)) := by kernel_rfl
theorem left : LeftO PySem.Challenge.rw_kl0450_01.row.prog viewQ looseQ XtQ hookQ.obs hookQ.val NQ := byRow2 "special-get-raises" (fun w => left_quick (run_f w)) (fun w => left_quick (run_t w))
theorem chainsQ : (chainsOk viewQ && opensWell PySem.Challenge.rw_kl0450_01.row.prog && (frees PySem.Challenge.rw_kl0450_01.row.toRowW && PySem.Challenge.rw_kl0450_01.row.toRowW.within.isEmpty)) = true := by kernel_rfl
theorem bareQ : PySem.Challenge.rw_kl0450_01.row.prog.bare := ⟨rfl, rfl, rfl, rfl, rfl, by decide +kernel⟩
theorem promisedQ : PySem.Challenge.rw_kl0450_01.row.toRowW.promised := by w_witness2
/-- the head: the law's call is left -/
theorem hdQ {d : DefRec} {kwd : List (Str × PySem.Expr)} (hdef : defOf viewQ PySem.Challenge.rw_kl0450_01.row.name = some (d, kwd)) (hp : PySem.Challenge.rw_kl0450_01.row.prog.theDef PySem.Challenge.rw_kl0450_01.row.name = some (d.params, d.body, d.scope)) (hk : kwWritten? d.params.kwonlyargs d.params.kw_defaults = some kwd)
    (call : WalkC viewQ looseQ (XL viewQ lvQ) hookQ.says PySem.Challenge.rw_kl0450_01.row.toRowW d kwd fun f vs => PySem.call f vs) : PySem.Challenge.rw_kl0450_01.Holds :=
  holds_law said fun sd => Mine.PySem.W.holds_open (q := viewQ) (loose := looseQ) (Xt := XtQ) (XP := XL viewQ lvQ) (Yf := hookQ.obs) (Ya := hookQ.val) (YP := hookQ.says) (N := NQ) left hookQ.of hookQ.keeps (fun s e => xl_of s (Bool.and_eq_true_iff.mp e).1) XL.keeps hdef hp hk (fun s e => recFacts_of (Bool.and_eq_true_iff.mp e).2) (by rfl) sd chainsQ bareQ promisedQ call
end Mine

end
section
open PySem PySem.W PyProof.Rows PySem.Calls PySem.Spec
set_option maxRecDepth 100000
namespace Mine
theorem allNe_of_allLt {d : Addr} : ∀ {l : List (Addr × Obj)}, AllLt d l → ∀ p ∈ l, p.1 ≠ d
  | [], _, _, h => nomatch h
  | q :: r, hl, p, h => by
    rcases List.mem_cons.mp h with rfl | h
    · exact Nat.ne_of_lt hl.1
    · exact allNe_of_allLt hl.2 p h
theorem allNe_of_lt {d : Addr} {l : List (Addr × Obj)} (h : ∀ p ∈ l, p.1 < d) : ∀ p ∈ l, p.1 ≠ d := fun p hp => Nat.ne_of_lt (h p hp)

/-- two places are not the same one: hidden from omega -/
structure NeA (a b : Addr) : Prop where
  out : a ≠ b
theorem NeA.symm {a b : Addr} (h : NeA a b) : NeA b a := ⟨h.out.symm⟩
noncomputable def AllNe (d : Addr) : List (Addr × Obj) → Prop
  | [] => True
  | p :: r => NeA p.1 d ∧ AllNe d r
theorem allNe_intro {d : Addr} : ∀ {l : List (Addr × Obj)}, (∀ p ∈ l, p.1 ≠ d) → AllNe d l
  | [], _ => trivial
  | p :: _, h => ⟨⟨h p (.head _)⟩, allNe_intro fun q hq => h q (.tail _ hq)⟩
theorem AllNe.mem {d : Addr} : ∀ {l : List (Addr × Obj)}, AllNe d l → ∀ p ∈ l, p.1 ≠ d
  | [], _, _, h => nomatch h
  | q :: r, hl, p, h => by
    rcases List.mem_cons.mp h with rfl | h
    · exact hl.1.out
    · exact AllNe.mem hl.2 p h

/-- what a call's body leaves: the caller's ground g, and of what it made a part that the contract names -/
noncomputable def LeaveF (g : Heap) (s : Shared) (args : List (Addr × Obj)) (ok : Value → List (Addr × Obj) → Prop) (v : Value) (s' : Shared) : Prop :=
  s' = { s with heap := s'.heap, toks := s'.toks } ∧ ∃ L' m' news' new, Fr g L' s'.heap m' ∧ News g L' s'.heap news' ∧ (∀ q ∈ args, q ∈ news') ∧ (∀ q ∈ new, q ∈ news') ∧ (∀ q ∈ new, ∀ p ∈ args, q.1 ≠ p.1) ∧ ok v new
theorem leaveF_intro {g h : Heap} {s : Shared} {args : List (Addr × Obj)} {ok : Value → List (Addr × Obj) → Prop} {v : Value} {tk : Nat} {L' : Addr} {m' : Str → Option Value} {news' : List (Addr × Obj)}
    (F : Fr g L' h m') (N : News g L' h news') (ha : ∀ q ∈ args, q ∈ news') (new : List (Addr × Obj)) (hn : ∀ q ∈ new, q ∈ news') (hne : ∀ q ∈ new, ∀ p ∈ args, q.1 ≠ p.1) (ho : ok v new) :
    LeaveF g s args ok v { s with heap := h, toks := tk } := ⟨rfl, L', m', news', new, F, N, ha, hn, hne, ho⟩

section
variable {prog : Program} {w : World} {A₀ A : Around} {E : Value → Shared → Prop} {s : Shared} {base h₀ : Heap} {outer : List Env} {L : Addr} {m : Str → Option Value} {env : Env} {args : List (Addr × Obj)} {K : Frag}
  {name qual : Str} {params : Arguments} {body : List Stmt} {scope : Scope} {dV kV doc pm cdv ct oc : Value} {an od : Option Addr} {osl : Array (Option Value)} {f : Addr} {vals : List Value} {binds : List (Str × Value)}
  {p : Program} {loose : List Str} {mean : ExcName → Option Value} {mg mb : Str → Option Value} {Q : Value → Shared → Prop} {news : List (Addr × Obj)} {ok : Value → List (Addr × Obj) → Prop}

/-- a def called by a contract: its body is walked over the arguments' objects alone; all else that the caller made stays -/
theorem fn_enter (B : Below A₀ base outer h₀) (F : Fr h₀ L s.heap m) (X₀ : K.In h₀) (N : News h₀ L s.heap news) (T : Top p loose mean mg mb h₀) (hargs : ∀ q ∈ args, q ∈ news) (hA : A.frames = some (env :: outer)) (hf : env.frame = some L) (hke : env.scope.kind = .function)
    (ret : ∀ v new h' tk', Fr h₀ L h' m → News h₀ L h' (new ++ news) → (∀ q ∈ new, ∀ p ∈ news, p.1 ≠ q.1) → ok v new → Q v { s with heap := h', toks := tk' })
    (ho : K.lookup f = some ⟨oc, od, .func (fnOf name qual params body scope dV kV doc pm an cdv ct), osl⟩) (hcd : codeIn K cdv qual = true) (hroom : A.depth < recursionLimit)
    (hbind : BindsTo s (fnOf name qual params body scope dV kV doc pm an cdv ct) ⟨vals, []⟩ binds) (hloc : ∀ y ∈ binds, scope.names.lookup y.1 = some .local)
    (h : ∀ g L' h₁, Fr h₀ L g m → Fr g L' h₁ (fun y => binds.reverse.lookup y) → News g L' h₁ args → Below A base (env :: outer) g → K.In g → Top p loose mean mg mb g →
      wpAny (model prog w) (A.deeper (envOf qual scope L' f cdv)) (execs body (envOf qual scope L' f cdv))
        (fun fl s' => LeaveF g s args ok (match fl with | .ret v => v | _ => .none) s')
        (fun e s' => wpAny (model prog w) (A.deeper (envOf qual scope L' f cdv)) (leaving (envOf qual scope L' f cdv) e) (fun _ s'' => E e s'') (fun e' s'' => E e' s'') s')
        { s with heap := h₁, toks := s.toks + binds.length })
    (hco : scope.isCoroutine = false) (hgen : scope.isGenerator = false) (hk : scope.kind = .function)
    (hcell : ∀ x ∈ scope.names, x.2 ≠ .cell) : wpAny (model prog w) A (call (.ref f) vals) Q E s := by
  refine wpAny_call ?_
  have N₁ : News h₀ L s.heap args := fun q hq => N q (hargs q hq)
  obtain ⟨FG, BG, st, lv⟩ := groundX (R := fun _ _ => True) B F N₁ hA hf hke
  refine codeAny_call_def (fd := fnOf name qual params body scope dV kV doc pm an cdv ct) (body := body) (binds := binds) hroom ((X₀.keeps F.keep) _ _ ho) rfl (T.nolimit.keeps F.keep) (codeRec_of (X₀.keeps F.keep) hcd) rfl hbind hcell hloc (fun h₁ hns hk₁ => ?_) hco hgen hk
  refine wpAny_mono (h _ s.heap.objs.size h₁ FG ⟨hns, fun b o e => hk₁ b o (of_hideAll _ e), Nat.le_of_eq (hideAll_size _ _)⟩
    (fun q hq => ⟨hk₁ _ _ (N₁ q hq).1, Nat.ne_of_lt (Heap.lt_size (N₁ q hq).1), hideAll_none _ (List.mem_map_of_mem hq)⟩) BG (X₀.keeps st) (T.keeps st)) (fun fl s' hl => ?_) fun _ _ y => y
  obtain ⟨hs, L', m', news', new, F', N', ha, hn, hne, hok⟩ := hl
  rw [hs]
  have nL : L ∉ args.map (·.1) := fun q => by
    obtain ⟨p, hp, e⟩ := List.mem_map.mp q
    exact (N₁ p hp).2.1 e
  obtain ⟨oL, es, ep, hL, hLd, hLk, hLf⟩ := F.ns
  have hLg := hideAll_get (args.map (·.1)) hL nL
  have hold : ∀ q ∈ news, s'.heap.get? q.1 = some q.2 := fun q hq => by
    by_cases hm : q.1 ∈ args.map (·.1)
    · obtain ⟨q', hq', e⟩ := List.mem_map.mp hm
      have h1 := (N' q' (ha q' hq')).1
      have h2 := (N₁ q' hq').1
      rw [e] at h1 h2
      have h3 := (N q hq).1
      rw [h2] at h3
      rw [h1, h3]
    · exact F'.keep _ _ (hideAll_get _ (N q hq).1 hm)
  have hfresh : ∀ q ∈ new, ∀ p ∈ news, p.1 ≠ q.1 := fun q hq p hp e => by
    by_cases hm : p.1 ∈ args.map (·.1)
    · obtain ⟨p', hp', e'⟩ := List.mem_map.mp hm
      exact hne q hq p' hp' (by rw [e', e])
    · have := (N' q (hn q hq)).2.2
      rw [← e, hideAll_get _ (N p hp).1 hm] at this
      cases this
  refine ret _ new _ _ ⟨⟨oL, es, ep, F'.keep L oL hLg, hLd, hLk, hLf⟩, fun b o e => F'.keep b o (st b o e), F.above⟩ (fun q hq => ?_) hfresh hok
  rcases List.mem_append.mp hq with hq | hq
  · refine ⟨(N' q (hn q hq)).1, fun z => ?_, ?_⟩
    · have := (N' q (hn q hq)).2.2; rw [z, hLg] at this; cases this
    · cases z : h₀.get? q.1 with
      | none => rfl
      | some o => have := (N' q (hn q hq)).2.2; rw [st _ _ z] at this; cases this
  · exact ⟨hold q hq, (N q hq).2⟩
end

/-- a def's contract -/
noncomputable def Fn (prog : Program) (w : World) (K : Frag) (d : Nat) (f : Addr) (args : List (Addr × Obj)) (vs : List Value) (ok : Value → List (Addr × Obj) → Prop) : Prop :=
  ∀ (p : Program) (loose : List Str) (mean : ExcName → Option Value) (mg mb : Str → Option Value) (dp un : Nat) (gd : Option (List Code)) (cn : Str) (cs : Scope) (a : Addr) (ccd : Value) (cl : List (Str × Addr)) (outer : List Env) (A₀ : Around) (base h₀ : Heap) (L : Addr) (m : Str → Option Value) (s : Shared) (Q E : Value → Shared → Prop) (news : List (Addr × Obj)),
    Below A₀ base outer h₀ → Fr h₀ L s.heap m → K.In h₀ → News h₀ L s.heap news → Top p loose mean mg mb h₀ → cs.kind = .function → (∀ q ∈ args, q ∈ news) → dp + d < recursionLimit → un + 12 * d < cLine →
    (∀ v new h' tk', Fr h₀ L h' m → News h₀ L h' (new ++ news) → (∀ q ∈ new, ∀ p ∈ news, p.1 ≠ q.1) → ok v new → Q v { s with heap := h', toks := tk' }) →
    wpAny (model prog w) (ktrTop dp un gd cn cs L a ccd cl outer) (call (.ref f) vs) Q E s
end Mine
namespace Mine
open PySem PySem.W PyProof.Rows PySem.Calls PySem.Spec
section
variable {prog : Program} {w : World} {K : Frag} {d : Nat} {f : Addr} {args : List (Addr × Obj)} {vs : List Value} {p : Program} {loose : List Str} {mean : ExcName → Option Value} {mg mb : Str → Option Value} {dp un : Nat} {gd : Option (List Code)} {cn : Str} {cs : Scope} {a : Addr} {ccd : Value} {cl : List (Str × Addr)} {outer : List Env} {A₀ : Around} {base h₀ : Heap} {L : Addr} {m : Str → Option Value} {s : Shared} {Q E : Value → Shared → Prop} {news : List (Addr × Obj)}
/-- the answer is one plain value -/
theorem Fn.useV {mk : Tok → Value} (C : Fn prog w K d f args vs (fun v new => new = [] ∧ ∃ t, v = mk t)) (B : Below A₀ base outer h₀) (F : Fr h₀ L s.heap m) (X : K.In h₀) (N : News h₀ L s.heap news) (T : Top p loose mean mg mb h₀) (hk : cs.kind = .function) (ha : ∀ q ∈ args, q ∈ news)
    (hd : dp + d < recursionLimit) (hu : un + 12 * d < cLine)
    (ret : ∀ t h' tk', Fr h₀ L h' m → News h₀ L h' news → Q (mk t) { s with heap := h', toks := tk' }) :
    wpAny (model prog w) (ktrTop dp un gd cn cs L a ccd cl outer) (call (.ref f) vs) Q E s := by
  refine C p loose mean mg mb dp un gd cn cs a ccd cl outer A₀ base h₀ L m s Q E news B F X N T hk ha hd hu fun v new h' tk' F' N' hne ok => ?_
  obtain ⟨rfl, t, rfl⟩ := ok
  exact ret t h' tk' F' N'
/-- the answer is one new object -/
theorem Fn.useO {O : Obj → Prop} (C : Fn prog w K d f args vs (fun v new => ∃ D o, v = .ref D ∧ new = [(D, o)] ∧ O o)) (B : Below A₀ base outer h₀) (F : Fr h₀ L s.heap m) (X : K.In h₀) (N : News h₀ L s.heap news) (T : Top p loose mean mg mb h₀) (hk : cs.kind = .function) (ha : ∀ q ∈ args, q ∈ news)
    (hd : dp + d < recursionLimit) (hu : un + 12 * d < cLine)
    (ret : ∀ D o h' tk', O o → Fr h₀ L h' m → News h₀ L h' ((D, o) :: news) → AllNe D news → Q (.ref D) { s with heap := h', toks := tk' }) :
    wpAny (model prog w) (ktrTop dp un gd cn cs L a ccd cl outer) (call (.ref f) vs) Q E s := by
  refine C p loose mean mg mb dp un gd cn cs a ccd cl outer A₀ base h₀ L m s Q E news B F X N T hk ha hd hu fun v new h' tk' F' N' hne ok => ?_
  obtain ⟨D, o, rfl, rfl, ho⟩ := ok
  exact ret D o h' tk' ho F' N' (allNe_intro fun q hq => hne _ (.head _) q hq)
end
end Mine
namespace Mine
open PySem PySem.W PyProof.Rows PySem.Calls PySem.Spec
section
variable {g h : Heap} {s : Shared} {args : List (Addr × Obj)} {tk : Nat} {L' : Addr} {m' : Str → Option Value} {news' : List (Addr × Obj)}
theorem leaveF_int {x y : Int} {t : Tok} (F : Fr g L' h m') (N : News g L' h news') (ha : ∀ q ∈ args, q ∈ news') (e : x = y) :
    LeaveF g s args (fun v new => new = [] ∧ ∃ t, v = Value.int y t) (.int x t) { s with heap := h, toks := tk } := by
  subst e
  exact leaveF_intro F N ha [] (fun _ h => nomatch h) (fun _ h => nomatch h) ⟨rfl, _, rfl⟩
theorem leaveF_bool {x y : Bool} (F : Fr g L' h m') (N : News g L' h news') (ha : ∀ q ∈ args, q ∈ news') (e : x = y) :
    LeaveF g s args (fun v new => new = [] ∧ ∃ _t : Tok, v = Value.bool y) (.bool x) { s with heap := h, toks := tk } := by
  subst e
  exact leaveF_intro F N ha [] (fun _ h => nomatch h) (fun _ h => nomatch h) ⟨rfl, 0, rfl⟩
theorem leaveF_str {x y : Str} {t : Tok} (F : Fr g L' h m') (N : News g L' h news') (ha : ∀ q ∈ args, q ∈ news') (e : x = y) :
    LeaveF g s args (fun v new => new = [] ∧ ∃ t, v = Value.str y t) (.str x t) { s with heap := h, toks := tk } := by
  subst e
  exact leaveF_intro F N ha [] (fun _ h => nomatch h) (fun _ h => nomatch h) ⟨rfl, _, rfl⟩
theorem leaveF_obj {D : Addr} {o : Obj} {O : Obj → Prop} (F : Fr g L' h m') (N : News g L' h news') (ha : ∀ q ∈ args, q ∈ news') (hm : (D, o) ∈ news') (hne : ∀ p ∈ args, p.1 ≠ D) (ho : O o) :
    LeaveF g s args (fun v new => ∃ D o, v = Value.ref D ∧ new = [(D, o)] ∧ O o) (.ref D) { s with heap := h, toks := tk } :=
  leaveF_intro F N ha [(D, o)] (fun q hq => by rw [List.mem_singleton.mp hq]; exact hm) (fun q hq p hp => by rw [List.mem_singleton.mp hq]; exact (hne p hp).symm) ⟨D, o, rfl, rfl, ho⟩
end

/-! the calendar, in plain numbers -/
noncomputable def leap (y : Int) : Bool := decide (y % 4 = 0) && (!decide (y % 100 = 0) || decide (y % 400 = 0))
noncomputable def dby (y : Int) : Int := (y - 1) * 365 + (y - 1) / 4 - (y - 1) / 100 + (y - 1) / 400
noncomputable def dim (y m : Int) : Int := if m = 2 then (if leap y then 29 else 28) else if m = 4 ∨ m = 6 ∨ m = 9 ∨ m = 11 then 30 else 31
noncomputable def dbm0 (m : Int) : Int := if m = 1 then 0 else if m = 2 then 31 else if m = 3 then 59 else if m = 4 then 90 else if m = 5 then 120 else if m = 6 then 151 else if m = 7 then 181 else if m = 8 then 212 else if m = 9 then 243 else if m = 10 then 273 else if m = 11 then 304 else 334
noncomputable def dbm (y m : Int) : Int := dbm0 m + (if 2 < m then (if leap y then 1 else 0) else 0)
/-- the number of a month's first day, by years from March on -/
noncomputable def first (y m : Int) : Int :=
  365 * ((12 * y + m - 3) / 12) + ((12 * y + m - 3) / 12) / 4 - ((12 * y + m - 3) / 12) / 100 + ((12 * y + m - 3) / 12) / 400 + (153 * ((12 * y + m - 3) % 12) + 2) / 5 - 305

theorem fd4 (a : Int) : a.fdiv 4 = a / 4 := Int.fdiv_eq_ediv_of_nonneg _ (by decide)
theorem fd5 (a : Int) : a.fdiv 5 = a / 5 := Int.fdiv_eq_ediv_of_nonneg _ (by decide)
theorem fd7 (a : Int) : a.fdiv 7 = a / 7 := Int.fdiv_eq_ediv_of_nonneg _ (by decide)
theorem fd12 (a : Int) : a.fdiv 12 = a / 12 := Int.fdiv_eq_ediv_of_nonneg _ (by decide)
theorem fd60 (a : Int) : a.fdiv 60 = a / 60 := Int.fdiv_eq_ediv_of_nonneg _ (by decide)
theorem fd100 (a : Int) : a.fdiv 100 = a / 100 := Int.fdiv_eq_ediv_of_nonneg _ (by decide)
theorem fd400 (a : Int) : a.fdiv 400 = a / 400 := Int.fdiv_eq_ediv_of_nonneg _ (by decide)
theorem fd365 (a : Int) : a.fdiv 365 = a / 365 := Int.fdiv_eq_ediv_of_nonneg _ (by decide)
theorem fd1461 (a : Int) : a.fdiv 1461 = a / 1461 := Int.fdiv_eq_ediv_of_nonneg _ (by decide)
theorem fd3600 (a : Int) : a.fdiv 3600 = a / 3600 := Int.fdiv_eq_ediv_of_nonneg _ (by decide)
theorem fd36524 (a : Int) : a.fdiv 36524 = a / 36524 := Int.fdiv_eq_ediv_of_nonneg _ (by decide)
theorem fd86400 (a : Int) : a.fdiv 86400 = a / 86400 := Int.fdiv_eq_ediv_of_nonneg _ (by decide)
theorem fd146097 (a : Int) : a.fdiv 146097 = a / 146097 := Int.fdiv_eq_ediv_of_nonneg _ (by decide)
theorem fm4 (a : Int) : a.fmod 4 = a % 4 := Int.fmod_eq_emod_of_nonneg _ (by decide)
theorem fm7 (a : Int) : a.fmod 7 = a % 7 := Int.fmod_eq_emod_of_nonneg _ (by decide)
theorem fm12 (a : Int) : a.fmod 12 = a % 12 := Int.fmod_eq_emod_of_nonneg _ (by decide)
theorem fm60 (a : Int) : a.fmod 60 = a % 60 := Int.fmod_eq_emod_of_nonneg _ (by decide)
theorem fm100 (a : Int) : a.fmod 100 = a % 100 := Int.fmod_eq_emod_of_nonneg _ (by decide)
theorem fm365 (a : Int) : a.fmod 365 = a % 365 := Int.fmod_eq_emod_of_nonneg _ (by decide)
theorem fm400 (a : Int) : a.fmod 400 = a % 400 := Int.fmod_eq_emod_of_nonneg _ (by decide)
theorem fm1461 (a : Int) : a.fmod 1461 = a % 1461 := Int.fmod_eq_emod_of_nonneg _ (by decide)
theorem fm36524 (a : Int) : a.fmod 36524 = a % 36524 := Int.fmod_eq_emod_of_nonneg _ (by decide)
theorem fm86400 (a : Int) : a.fmod 86400 = a % 86400 := Int.fmod_eq_emod_of_nonneg _ (by decide)
theorem fm146097 (a : Int) : a.fmod 146097 = a % 146097 := Int.fmod_eq_emod_of_nonneg _ (by decide)
end Mine

namespace Mine
open PySem PySem.W PyProof.Rows PySem.Calls PySem.Spec
/-- a written list of ints, read through a function -/
noncomputable def tabOk (vs : List Value) (tab : Int → Int) (lo : Int) : Nat → Bool
  | 0 => true
  | n + 1 => (match vs[(lo + n).toNat]? with | some (.int x _) => x == tab (lo + n) | _ => false) && tabOk vs tab lo n
theorem tabOk_at {vs : List Value} {tab : Int → Int} {lo : Int} : ∀ {n : Nat}, tabOk vs tab lo n = true → ∀ {k : Int}, lo ≤ k → k < lo + n → ∃ t, vs[k.toNat]? = some (.int (tab k) t)
  | 0, _, k, h1, h2 => by omega
  | n + 1, h, k, h1, h2 => by
    rw [tabOk, Bool.and_eq_true] at h
    by_cases e : k = lo + n
    · subst e
      have := h.1
      split at this
      · rename_i x t hx
        exact ⟨t, by rw [hx, eq_of_beq this]⟩
      · cases this
    · exact tabOk_at h.2 h1 (by omega)
theorem item_tabK {prog : Program} {w : World} {A : Around} {E : Value → Shared → Prop} {s : Shared} {K : Frag} {h₀ : Heap} {L : Addr} {m : Str → Option Value} {value slice : PySem.Expr} {l : Addr} {vs : List Value} {n0 : Nat} {sl : Array (Option Value)} {k : Int} {u : Tok} {Q : Value → Shared → Prop}
    (tab : Int → Int) (lo : Int) (n : Nat) (F : Fr h₀ L s.heap m) (X : K.In h₀) (ho : K.lookup l = some ⟨.type "list", none, .seq vs.toArray n0, sl⟩) (ht : tabOk vs tab lo n = true) (h0 : 0 ≤ lo) (h1 : lo ≤ k) (h2 : k < lo + n) (hn : lo + n ≤ 1000)
    (h : ∀ t, Q (.int (tab k) t) s)
    (hs : subscripted slice false (.ref l) (.int k u) = operate [.ref l, .int k u] (getItem (.ref l) (.int k u)) := by with_unfolding_all rfl) :
    wpAny (model prog w) A (subscriptTail value slice (.ref l) (.int k u)) Q E s := by
  obtain ⟨t, hx⟩ := tabOk_at ht h1 h2
  have hl : s.heap.IsList l vs.toArray := ⟨_, (X.keeps F.keep) _ _ ho, rfl, n0, rfl⟩
  exact item_litK hl (by omega) (by omega) hx (h t) hs
end Mine

end
section
open PySem PySem.W PyProof.Rows PySem.Calls PySem.Spec
set_option maxRecDepth 100000
namespace Mine
theorem fd32 (a : Int) : a.fdiv (2 ^ Int.toNat 5) = a / 32 := Int.fdiv_eq_ediv_of_nonneg _ (by decide)
theorem leap_true {y : Int} : leap y = true ↔ y % 4 = 0 ∧ (y % 100 ≠ 0 ∨ y % 400 = 0) := by simp [leap]
theorem leap_false {y : Int} : leap y = false ↔ ¬ (y % 4 = 0 ∧ (y % 100 ≠ 0 ∨ y % 400 = 0)) := by
  rw [← leap_true]; simp
/-- one in a leap year -/
noncomputable def lp (y : Int) : Int := (y / 4 - (y - 1) / 4) - (y / 100 - (y - 1) / 100) + (y / 400 - (y - 1) / 400)
theorem lp_def (y : Int) : lp y = (y / 4 - (y - 1) / 4) - (y / 100 - (y - 1) / 100) + (y / 400 - (y - 1) / 400) := rfl
theorem step_of (y : Int) {c : Int} (hc : 0 < c) : y / c - (y - 1) / c = if y % c = 0 then 1 else 0 := by
  have h0 := Int.emod_nonneg y (Int.ne_of_gt hc)
  have h1 := Int.emod_lt_of_pos y hc
  have h2 := Int.emod_add_mul_ediv y c
  generalize y / c = q at *
  generalize y % c = r at *
  subst h2
  split
  · rename_i e
    subst e
    rw [show 0 + c * q - 1 = (c - 1) + c * (q - 1) by rw [Int.mul_sub]; omega, Int.add_mul_ediv_left _ _ (Int.ne_of_gt hc), Int.ediv_eq_zero_of_lt (by omega) (by omega)]
    omega
  · rw [show r + c * q - 1 = (r - 1) + c * q by omega, Int.add_mul_ediv_left _ _ (Int.ne_of_gt hc), Int.ediv_eq_zero_of_lt (by omega) (by omega)]
    omega
theorem step4 (y : Int) : y / 4 - (y - 1) / 4 = if y % 4 = 0 then 1 else 0 := step_of y (by decide)
theorem step100 (y : Int) : y / 100 - (y - 1) / 100 = if y % 100 = 0 then 1 else 0 := step_of y (by decide)
theorem step400 (y : Int) : y / 400 - (y - 1) / 400 = if y % 400 = 0 then 1 else 0 := step_of y (by decide)
theorem lp_steps (y : Int) : lp y = (if y % 4 = 0 then 1 else 0) - (if y % 100 = 0 then 1 else 0) + (if y % 400 = 0 then 1 else 0) := by
  rw [lp_def, step4, step100, step400]
theorem m100 {y : Int} (h : y % 100 = 0) : y % 4 = 0 := by omega
theorem m400 {y : Int} (h : y % 400 = 0) : y % 100 = 0 := by omega
theorem lp_of (y : Int) : (if leap y = true then (1 : Int) else 0) = lp y := by
  rw [lp_steps]
  by_cases h4 : y % 4 = 0
  · by_cases h100 : y % 100 = 0
    · by_cases h400 : y % 400 = 0
      · rw [if_pos (leap_true.mpr ⟨h4, .inr h400⟩), if_pos h4, if_pos h100, if_pos h400]; rfl
      · rw [if_neg (fun q => (leap_true.mp q).2.elim (fun z => z h100) h400), if_pos h4, if_pos h100, if_neg h400]; rfl
    · rw [if_pos (leap_true.mpr ⟨h4, .inl h100⟩), if_pos h4, if_neg h100, if_neg (fun z => h100 (m400 z))]; rfl
  · rw [if_neg (fun q => h4 (leap_true.mp q).1), if_neg h4, if_neg (fun z => h4 (m100 z)), if_neg (fun z => h4 (m100 (m400 z)))]; rfl
theorem lp_true {y : Int} (h : leap y = true) : lp y = 1 := by rw [← lp_of, if_pos h]
theorem lp_false {y : Int} (h : leap y = false) : lp y = 0 := by rw [← lp_of, if_neg (by rw [h]; exact Bool.false_ne_true)]
theorem lp_or (y : Int) : lp y = 0 ∨ lp y = 1 := by
  cases h : leap y with
  | true => exact .inr (lp_true h)
  | false => exact .inl (lp_false h)
noncomputable def dimT (m : Int) : Int := 30 + (m + m / 8) % 2 - 2 * ((m + 10) / 12 - (m + 9) / 12)
noncomputable def dbmT (m : Int) : Int := (367 * m - 362) / 12 - 2 * ((m + 9) / 12)
theorem monthsN : ∀ k : Nat, k < 13 → 1 ≤ k → (k : Int) = 1 ∨ (k : Int) = 2 ∨ (k : Int) = 3 ∨ (k : Int) = 4 ∨ (k : Int) = 5 ∨ (k : Int) = 6 ∨ (k : Int) = 7 ∨ (k : Int) = 8 ∨ (k : Int) = 9 ∨ (k : Int) = 10 ∨ (k : Int) = 11 ∨ (k : Int) = 12 := by decide +kernel
/-- a month is a small natural number: tables can be asked -/
theorem monthN {P : Int → Prop} (h : ∀ k : Nat, k < 13 → 1 ≤ k → P k) {m : Int} (hm : 1 ≤ m ∧ m ≤ 12) : P m := by
  obtain ⟨k, rfl⟩ := Int.eq_ofNat_of_zero_le (Int.le_trans (by decide) hm.1)
  exact h k (by omega) (by omega)
theorem months {m : Int} (h : 1 ≤ m ∧ m ≤ 12) : m = 1 ∨ m = 2 ∨ m = 3 ∨ m = 4 ∨ m = 5 ∨ m = 6 ∨ m = 7 ∨ m = 8 ∨ m = 9 ∨ m = 10 ∨ m = 11 ∨ m = 12 := monthN (P := fun m => m = 1 ∨ m = 2 ∨ m = 3 ∨ m = 4 ∨ m = 5 ∨ m = 6 ∨ m = 7 ∨ m = 8 ∨ m = 9 ∨ m = 10 ∨ m = 11 ∨ m = 12) monthsN h
theorem dim_T : ∀ k : Nat, k < 13 → 1 ≤ k → (k : Int) ≠ 2 → (if (k : Int) = 4 ∨ (k : Int) = 6 ∨ (k : Int) = 9 ∨ (k : Int) = 11 then (30 : Int) else 31) = dimT k := by decide +kernel
theorem dbm_T : ∀ k : Nat, k < 13 → 1 ≤ k → dbm0 k = dbmT k := by decide +kernel
theorem dim_eq {y m : Int} (h : 1 ≤ m ∧ m ≤ 12) : dim y m = dimT m + (if m = 2 then lp y else 0) := by
  unfold dim
  by_cases e : m = 2
  · subst e
    rw [if_pos rfl, if_pos rfl, ← lp_of]
    split <;> rfl
  · rw [if_neg e, if_neg e, Int.add_zero]
    exact monthN (P := fun m => m ≠ 2 → (if m = 4 ∨ m = 6 ∨ m = 9 ∨ m = 11 then (30 : Int) else 31) = dimT m) dim_T h e
theorem dbm_eq {y m : Int} (h : 1 ≤ m ∧ m ≤ 12) : dbm y m = dbmT m + (if 2 < m then lp y else 0) := by
  unfold dbm
  rw [lp_of y, monthN (P := fun m => dbm0 m = dbmT m) dbm_T h]
noncomputable def hiT (m : Int) : Int := (153 * (m - 3) + 2) / 5 - 305
noncomputable def loT (m : Int) : Int := (153 * (m + 9) + 2) / 5 - 305
noncomputable def yrs (y : Int) : Int := 365 * y + y / 4 - y / 100 + y / 400
theorem first_hi {y m : Int} (h1 : 3 ≤ m) (h2 : m ≤ 14) : first y m = yrs y + hiT m := by
  have e1 : (12 * y + m - 3) / 12 = y := by omega
  have e2 : (12 * y + m - 3) % 12 = m - 3 := by omega
  unfold first
  rw [e1, e2]
  exact Int.add_sub_assoc ..
theorem first_lo {y m : Int} (h1 : 1 ≤ m) (h2 : m ≤ 2) : first y m = yrs (y - 1) + loT m := by
  have e1 : (12 * y + m - 3) / 12 = y - 1 := by omega
  have e2 : (12 * y + m - 3) % 12 = m + 9 := by omega
  unfold first
  rw [e1, e2]
  exact Int.add_sub_assoc ..
theorem dby_yrs (y : Int) : dby y = yrs (y - 1) := by unfold dby yrs; rw [Int.mul_comm]
theorem yrs_step (y : Int) : yrs y = yrs (y - 1) + 365 + lp y := by
  rw [lp_def]
  unfold yrs
  generalize y / 4 = a
  generalize y / 100 = b
  generalize y / 400 = c
  generalize (y - 1) / 4 = a'
  generalize (y - 1) / 100 = b'
  generalize (y - 1) / 400 = c'
  omega
theorem hi_dbm : ∀ k : Nat, k < 13 → 1 ≤ k → 3 ≤ (k : Int) → hiT k + 364 = dbmT k := by decide +kernel
theorem lo_dbm : ∀ k : Nat, k < 13 → 1 ≤ k → (k : Int) ≤ 2 → loT k = dbmT k + 1 := by decide +kernel
theorem hi_dim : ∀ k : Nat, k < 13 → 1 ≤ k → 3 ≤ (k : Int) → hiT (k + 1) = hiT k + dimT k := by decide +kernel
theorem first_eq {y m : Int} (h : 1 ≤ m ∧ m ≤ 12) : first y m = dby y + dbm y m + 1 := by
  rw [dbm_eq h, dby_yrs]
  by_cases c : 3 ≤ m
  · have ht := monthN (P := fun m => 3 ≤ m → hiT m + 364 = dbmT m) hi_dbm h c
    rw [first_hi c (by omega), yrs_step y, if_pos (by omega)]
    omega
  · have ht := monthN (P := fun m => m ≤ 2 → loT m = dbmT m + 1) lo_dbm h (by omega)
    rw [first_lo h.1 (by omega), if_neg (by omega)]
    omega
theorem first_next {y m : Int} (h : 1 ≤ m ∧ m ≤ 12) : first y (m + 1) = first y m + dim y m := by
  rw [dim_eq h]
  by_cases c : 3 ≤ m
  · have ht := monthN (P := fun m => 3 ≤ m → hiT (m + 1) = hiT m + dimT m) hi_dim h c
    rw [first_hi c (by omega), first_hi (by omega) (by omega), if_neg (by omega)]
    omega
  · by_cases e : m = 2
    · subst e
      rw [first_lo (m := 2) (by decide) (by decide), if_pos rfl, show (2 : Int) + 1 = 3 from rfl, first_hi (by decide) (by decide), yrs_step y]
      have e1 : hiT 3 = -305 := by decide
      have e2 : loT 2 = 32 := by decide
      have e3 : dimT 2 = 28 := by decide
      omega
    · have e : m = 1 := by omega
      subst e
      rw [first_lo (m := 1) (by decide) (by decide), if_neg (by decide), show (1 : Int) + 1 = 2 from rfl, first_lo (m := 2) (by decide) (by decide)]
      have e1 : loT 1 = 1 := by decide
      have e2 : loT 2 = 32 := by decide
      have e3 : dimT 1 = 31 := by decide
      omega
structure Valid (y m d : Int) : Prop where
  m1 : 1 ≤ m
  m2 : m ≤ 12
  d1 : 1 ≤ d
  d2 : d ≤ dim y m
noncomputable def firstK (k : Int) : Int := 365 * (k / 12) + k / 12 / 4 - k / 12 / 100 + k / 12 / 400 + (153 * (k % 12) + 2) / 5 - 305
theorem first_K (y m : Int) : first y m = firstK (12 * y + m - 3) := rfl
theorem kT : ∀ k : Nat, k < 11 → (153 * (k : Int) + 2) / 5 ≤ (153 * ((k : Int) + 1) + 2) / 5 := by decide +kernel
theorem yrs_up (t : Int) : yrs t + 337 ≤ yrs (t + 1) := by
  have h1 : t / 4 ≤ (t + 1) / 4 := Int.ediv_le_ediv (by decide) (by omega)
  have h2 : (t + 1) / 100 ≤ t / 100 + 1 := by omega
  have h3 : t / 400 ≤ (t + 1) / 400 := Int.ediv_le_ediv (by decide) (by omega)
  unfold yrs
  revert h1 h2 h3
  generalize t / 4 = a
  generalize t / 100 = b
  generalize t / 400 = c
  generalize (t + 1) / 4 = a'
  generalize (t + 1) / 100 = b'
  generalize (t + 1) / 400 = c'
  omega
theorem firstK_yrs (k : Int) : firstK k = yrs (k / 12) + ((153 * (k % 12) + 2) / 5 - 305) := Int.add_sub_assoc ..
theorem firstK_succ (k : Int) : firstK k ≤ firstK (k + 1) := by
  rw [firstK_yrs, firstK_yrs]
  by_cases h : k % 12 = 11
  · have h1 : (k + 1) / 12 = k / 12 + 1 := by omega
    have h2 : (k + 1) % 12 = 0 := by omega
    rw [h1, h2, h]
    have := yrs_up (k / 12)
    have e1 : (153 * (11 : Int) + 2) / 5 = 337 := by decide
    have e2 : (153 * (0 : Int) + 2) / 5 = 0 := by decide
    rw [e1, e2]
    revert this
    generalize yrs (k / 12) = u
    generalize yrs (k / 12 + 1) = v
    omega
  · have h1 : (k + 1) / 12 = k / 12 := by omega
    have h2 : (k + 1) % 12 = k % 12 + 1 := by omega
    rw [h1, h2]
    have h0 : 0 ≤ k % 12 := Int.emod_nonneg _ (by decide)
    have hu : k % 12 < 12 := Int.emod_lt_of_pos _ (by decide)
    revert h0 hu h
    generalize k % 12 = r
    intro h h0 hu
    obtain ⟨n, rfl⟩ := Int.eq_ofNat_of_zero_le h0
    exact Int.add_le_add_left (Int.sub_le_sub_right (kT n (by omega)) _) _
theorem firstK_mono (k : Int) (n : Nat) : firstK k ≤ firstK (k + n) := by
  induction n with
  | zero => simp
  | succ n ih =>
    have := firstK_succ (k + n)
    have e : k + ((n + 1 : Nat) : Int) = k + n + 1 := by omega
    rw [e]; omega
theorem firstK_le {k k' : Int} (h : k ≤ k') : firstK k ≤ firstK k' := by
  have := firstK_mono k (k' - k).toNat
  have e : k + ((k' - k).toNat : Int) = k' := by omega
  rwa [e] at this
theorem date_lt {y m d y' m' d' : Int} (v : Valid y m d) (v' : Valid y' m' d') (h : 12 * y + m < 12 * y' + m') : first y m + d < first y' m' + d' := by
  have h1 := first_next (y := y) ⟨v.m1, v.m2⟩
  have h2 : first y (m + 1) ≤ first y' m' := by
    rw [first_K, first_K]; exact firstK_le (by omega)
  have := v.d2
  have := v'.d1
  omega
theorem date_uniq {y m d y' m' d' : Int} (v : Valid y m d) (v' : Valid y' m' d') (h : first y m + d = first y' m' + d') : y = y' ∧ m = m' ∧ d = d' := by
  have := v.m1; have := v.m2; have := v'.m1; have := v'.m2
  by_cases h1 : 12 * y + m < 12 * y' + m'
  · have := date_lt v v' h1; omega
  · by_cases h2 : 12 * y' + m' < 12 * y + m
    · have := date_lt v' v h2; omega
    · have e : y = y' ∧ m = m' := by omega
      obtain ⟨rfl, rfl⟩ := e
      exact ⟨rfl, rfl, by omega⟩
end Mine
namespace Mine
theorem lp_parts {a b c e : Int} (hb : 0 ≤ b ∧ b ≤ 3) (hc : 0 ≤ c ∧ c ≤ 24) (he : 0 ≤ e ∧ e ≤ 3) : lp (a * 400 + 1 + (b * 100 + c * 4 + e)) = (if e = 3 ∧ (c ≠ 24 ∨ b = 3) then 1 else 0) := by
  rw [lp_steps]
  by_cases h3 : e = 3
  · subst h3
    rw [if_pos (show (a * 400 + 1 + (b * 100 + c * 4 + 3)) % 4 = 0 by omega)]
    by_cases h24 : c = 24
    · subst h24
      rw [if_pos (show (a * 400 + 1 + (b * 100 + 24 * 4 + 3)) % 100 = 0 by omega)]
      by_cases hb3 : b = 3
      · subst hb3
        rw [if_pos (show (a * 400 + 1 + (3 * 100 + 24 * 4 + 3)) % 400 = 0 by omega), if_pos ⟨rfl, .inr rfl⟩]; rfl
      · rw [if_neg (show ¬ (a * 400 + 1 + (b * 100 + 24 * 4 + 3)) % 400 = 0 by omega), if_neg (fun q => q.2.elim (fun z => z rfl) hb3)]; rfl
    · rw [if_neg (show ¬ (a * 400 + 1 + (b * 100 + c * 4 + 3)) % 100 = 0 by omega), if_neg (fun z => absurd (m400 z) (by omega)), if_pos ⟨rfl, .inl h24⟩]; rfl
  · have h4 : ¬ (a * 400 + 1 + (b * 100 + c * 4 + e)) % 4 = 0 := by omega
    rw [if_neg h4, if_neg (fun z => h4 (m100 z)), if_neg (fun z => h4 (m100 (m400 z))), if_neg (fun q => h3 q.1)]; rfl
end Mine
namespace Mine
structure DivMod (a b q r : Int) : Prop where
  q : a.fdiv b = q
  r : a.fmod b = r
theorem divmod_ex (x k : Int) (hk : 0 < k) : ∃ q r, DivMod x k q r ∧ x = k * q + r ∧ 0 ≤ r ∧ r < k := by
  refine ⟨x.fdiv k, x.fmod k, ⟨rfl, rfl⟩, ?_, ?_, ?_⟩
  · rw [Int.fdiv_eq_ediv_of_nonneg _ (Int.le_of_lt hk), Int.fmod_eq_emod_of_nonneg _ (Int.le_of_lt hk)]; exact (Int.mul_ediv_add_emod x k).symm
  · rw [Int.fmod_eq_emod_of_nonneg _ (Int.le_of_lt hk)]; exact Int.emod_nonneg _ (by omega)
  · rw [Int.fmod_eq_emod_of_nonneg _ (Int.le_of_lt hk)]; exact Int.emod_lt_of_pos _ hk
theorem ord_start (n : Int) : ∃ a b c e r r1 r2 r3 : Int, DivMod (n - 1) 146097 a r1 ∧ DivMod r1 36524 b r2 ∧ DivMod r2 1461 c r3 ∧ DivMod r3 365 e r ∧ n - 1 = 146097 * a + 36524 * b + 1461 * c + 365 * e + r ∧ 0 ≤ b ∧ b ≤ 4 ∧ 0 ≤ c ∧ c ≤ 24 ∧ 0 ≤ e ∧ e ≤ 4 ∧ 0 ≤ r ∧ r < 365 ∧ (b = 4 → c = 0 ∧ e = 0 ∧ r = 0) ∧ (e = 4 → r = 0 ∧ (c = 24 → b = 3)) := by
  obtain ⟨a, r1, D1, e1, l1, u1⟩ := divmod_ex (n - 1) 146097 (by decide)
  obtain ⟨b, r2, D2, e2, l2, u2⟩ := divmod_ex r1 36524 (by decide)
  obtain ⟨c, r3, D3, e3, l3, u3⟩ := divmod_ex r2 1461 (by decide)
  obtain ⟨e, r, D4, e4, l4, u4⟩ := divmod_ex r3 365 (by decide)
  refine ⟨a, b, c, e, r, r1, r2, r3, D1, D2, D3, D4, by omega, ?_, ?_, ?_, ?_, ?_, ?_, l4, u4, ?_, ?_⟩
  · clear e1 e3 e4 u1; omega
  · clear e1 e3 e4 l1; omega
  · clear e1 e2 e4; omega
  · clear e1 e2 e4; omega
  · clear e1 e2 e3; omega
  · clear e1 e2 e3; omega
  · intro h; clear e1; omega
  · intro h; clear e1 e2; omega
/-- what the year's parts say of its leap day -/
theorem leap_parts {a b c e : Int} (hb : 0 ≤ b ∧ b ≤ 4) (hc : 0 ≤ c ∧ c ≤ 24) (he : 0 ≤ e ∧ e ≤ 4) (h4 : b ≠ 4) (h5 : e ≠ 4) : leap (a * 400 + 1 + (b * 100 + c * 4 + e)) = (e == 3 && (c != 24 || b == 3)) := by
  have h := lp_parts (a := a) (b := b) (c := c) (e := e) (by omega) (by omega) (by omega)
  cases z : leap (a * 400 + 1 + (b * 100 + c * 4 + e)) with
  | true =>
    rw [lp_true z] at h
    have q : e = 3 ∧ (c ≠ 24 ∨ b = 3) := by
      by_cases q : e = 3 ∧ (c ≠ 24 ∨ b = 3)
      · exact q
      · rw [if_neg q] at h; cases h
    obtain ⟨rfl, q2⟩ := q
    rcases q2 with q2 | rfl
    · simp [bne, q2]
    · simp
  | false =>
    rw [lp_false z] at h
    have q : ¬ (e = 3 ∧ (c ≠ 24 ∨ b = 3)) := fun q => by rw [if_pos q] at h; cases h
    symm
    rw [Bool.and_eq_false_iff]
    by_cases q1 : e = 3
    · right
      rw [Bool.or_eq_false_iff]
      have : c = 24 ∧ b ≠ 3 := by omega
      exact ⟨by simp [bne, this.1], by simpa using this.2⟩
    · left; simpa using q1
end Mine
namespace Mine
end Mine
namespace Mine
/-- facts kept out of omega's sight during a walk -/
structure Hid (P : Prop) : Prop where
  out : P
end Mine
namespace Mine
theorem divmod_by' {prog : Program} {w : World} {A : Around} {E : Value → Shared → Prop} {s : Shared} {a b q r : Int} {t u : Tok} {Q : Value → Shared → Prop} {h₀ : Heap} {L : Addr} {m : Str → Option Value} {news : List (Addr × Obj)} (D : DivMod a b q r) (F : Fr h₀ L s.heap m) (N : News h₀ L s.heap news) (hb : b ≠ 0) (hb' : b.natAbs < 1073741824)
    (h : ∀ h', Fr h₀ L h' m → News h₀ L h' ((s.heap.objs.size, { cls := .type "tuple", data := .seq #[.int q s.toks, .int r (s.toks + 1)] }) :: news) →
      Q (.ref s.heap.objs.size) { s with toks := s.toks + 1 + 1, heap := h' }) :
    wpAny (model prog w) A (call (.builtin "divmod") [.int a t, .int b u]) Q E s := by
  obtain ⟨rfl, rfl⟩ := D
  exact divmod_N F N hb h (.inl (PyProof.noPylong_small hb'))
theorem dby_parts {a b c e : Int} (hb : 0 ≤ b ∧ b ≤ 3) (hc : 0 ≤ c ∧ c ≤ 24) (he : 0 ≤ e ∧ e ≤ 3) : dby (a * 400 + 1 + (b * 100 + c * 4 + e)) = 146097 * a + 36524 * b + 1461 * c + 365 * e := by
  unfold dby; omega
/-- the last day of a year -/
theorem ord_last {n a b c e r : Int} (hb : 0 ≤ b ∧ b ≤ 4) (hc : 0 ≤ c ∧ c ≤ 24) (he : 0 ≤ e ∧ e ≤ 4) (h4 : b = 4 → c = 0 ∧ e = 0 ∧ r = 0) (h5 : e = 4 → r = 0 ∧ (c = 24 → b = 3)) (h : e = 4 ∨ b = 4)
    (hn : n - 1 = 146097 * a + 36524 * b + 1461 * c + 365 * e + r) : Valid (a * 400 + 1 + (b * 100 + c * 4 + e) - 1) 12 31 ∧ first (a * 400 + 1 + (b * 100 + c * 4 + e) - 1) 12 + 31 - 1 = n := by
  have q : ∃ a' b' c' : Int, (0 ≤ b' ∧ b' ≤ 3) ∧ (0 ≤ c' ∧ c' ≤ 24) ∧ a * 400 + 1 + (b * 100 + c * 4 + e) = a' * 400 + 1 + (b' * 100 + c' * 4 + 0) ∧ n = 146097 * a' + 36524 * b' + 1461 * c' + 365 * 0 := by
    by_cases hb4 : b = 4
    · obtain ⟨rfl, rfl, rfl⟩ := h4 hb4
      subst hb4
      clear h4 h5 h hb hc he
      exact ⟨a + 1, 0, 0, by decide, by decide, by omega, by omega⟩
    · have he4 : e = 4 := h.resolve_right hb4
      obtain ⟨rfl, hc24⟩ := h5 he4
      subst he4
      clear h4 h5 h he
      by_cases h24 : c = 24
      · obtain rfl := hc24 h24
        subst h24
        clear hb hc hb4 hc24
        exact ⟨a + 1, 0, 0, by decide, by decide, by omega, by omega⟩
      · clear hc24
        refine ⟨a, b, c + 1, ⟨hb.1, Int.le_of_lt_add_one (Int.lt_iff_le_and_ne.mpr ⟨hb.2, hb4⟩)⟩, ⟨?_, ?_⟩, ?_, ?_⟩
        · clear hn hb hb4 h24; omega
        · clear hn hb hb4; omega
        · clear hn hb hb4 hc h24; omega
        · clear hb hb4 hc h24; omega
  clear h4 h5 h hn hb hc he
  obtain ⟨a', b', c', hb, hc, q1, q2⟩ := q
  refine ⟨⟨by decide, by decide, by decide, by rw [dim_eq (by decide)]; exact Int.le_refl _⟩, ?_⟩
  have hd := dby_parts (a := a') (b := b') (c := c') (e := 0) hb hc (by decide)
  rw [← q1, dby_yrs, ← q2] at hd
  rw [first_hi (by decide) (by decide), hd]
  have eT : hiT 12 = -30 := by decide
  rw [eT]
  clear hd q1 q2 hb hc eT
  omega
open PyProof in
theorem add_ib {prog : Program} {w : World} {A : Around} {E : Value → Shared → Prop} {s : Shared} {x : Int} {b : Bool} {t : Tok} {Q : Value → Shared → Prop}
    (h : ∀ z : Int, 0 ≤ z → z ≤ 1 → Hid (z = if b = true then 1 else 0) → Q (.int (x + z) s.toks) { s with toks := s.toks + 1 }) :
    wpAny (model prog w) A (binaryOp .Add (.int x t) (.bool b)) Q E s := by
  refine add_int_bool ?_
  exact h _ (by split <;> omega) (by split <;> omega) ⟨rfl⟩
end Mine
namespace Mine
/-- a bool that a test comes to, on every way -/
structure JoinB (X Y : Bool) : Prop where
  out : X = Y
theorem join_bool {M : Model} {A : Around} {t : Sem Value} {Q E : Value → Shared → Prop} {s : Shared} {X Y : Bool} (J : JoinB X Y)
    (h1 : wpAny M A t (fun v s' => v = .bool Y ∧ ∃ tk, s' = { s with toks := tk }) E s) (h2 : ∀ tk, Q (.bool X) { s with toks := tk }) : wpAny M A t Q E s := by
  obtain ⟨rfl⟩ := J
  refine wpAny_mono h1 (fun v s' h => ?_) fun _ _ h => h
  obtain ⟨rfl, tk, rfl⟩ := h
  exact h2 tk
theorem eq_same {prog : Program} {w : World} {A : Around} {E : Value → Shared → Prop} {s : Shared} {x : Bool} {Q : Value → Shared → Prop} (h : Q (.bool true) s) :
    wpAny (model prog w) A (compareOp .Eq (.bool x) (.bool x)) Q E s := eq_bool (by rw [show (x == x) = true from by cases x <;> rfl]; exact h)
end Mine
namespace Mine
theorem lp_is {y : Int} {X : Bool} (h : leap y = X) : lp y = if X = true then 1 else 0 := by rw [← lp_of, h]
end Mine
namespace Mine
end Mine
namespace Mine
theorem dbm_stepT : ∀ k : Nat, k < 13 → 1 ≤ k → 2 ≤ (k : Int) → dbmT k = dbmT (k - 1) + dimT (k - 1) := by decide +kernel
theorem dbm_step {M : Int} (h : 2 ≤ M ∧ M ≤ 12) : dbmT M = dbmT (M - 1) + dimT (M - 1) := monthN (P := fun M => 2 ≤ M → dbmT M = dbmT (M - 1) + dimT (M - 1)) dbm_stepT ⟨Int.le_trans (by decide) h.1, h.2⟩ h.1
end Mine
namespace Mine
theorem dim_facts2 (y m : Int) (h : 1 ≤ m ∧ m ≤ 12) : (m = 2 → dim y m = dimT m + lp y) ∧ (m ≠ 2 → dim y m = dimT m) :=
  ⟨fun e => by rw [dim_eq h, if_pos e], fun e => by rw [dim_eq h, if_neg e]; omega⟩
end Mine
namespace Mine
end Mine
namespace Mine
/-- what a row of the law's six fields keeps to -/
structure Row (y m d h mi sc : Int) : Prop where
  hm : 1 ≤ m ∧ m ≤ 12
  hy : 101 ≤ y ∧ y ≤ 9998
  hd : 0 ≤ d ∧ d ≤ 39
  hh : 0 ≤ h ∧ h ≤ 29
  hmi : 0 ≤ mi ∧ mi ≤ 69
  hs : 0 ≤ sc ∧ sc ≤ 69
/-- the carried date and clock -/
structure Car (y m d h mi sc y2 m2 d2 h2 mi2 sc2 : Int) : Prop where
  v : Valid y2 m2 d2
  hy : 100 ≤ y2 ∧ y2 ≤ 9999
  hh : 0 ≤ h2 ∧ h2 ≤ 23
  hmi : 0 ≤ mi2 ∧ mi2 ≤ 59
  hs : 0 ≤ sc2 ∧ sc2 ≤ 59
  sum : (first y2 m2 + d2 - 1) * 86400 + h2 * 3600 + mi2 * 60 + sc2 = (first y m + d - 1) * 86400 + h * 3600 + mi * 60 + sc
end Mine
namespace Mine
theorem fmod_rng (a b : Int) (hb : 0 < b) : 0 ≤ a.fmod b ∧ a.fmod b < b := by
  rw [Int.fmod_eq_emod_of_nonneg _ (Int.le_of_lt hb)]
  exact ⟨Int.emod_nonneg _ (by omega), Int.emod_lt_of_pos _ hb⟩
end Mine
namespace Mine
theorem dim_rngT : ∀ k : Nat, k < 13 → 1 ≤ k → 28 ≤ dimT k ∧ dimT k ≤ 31 ∧ ((k : Int) = 2 → dimT k = 28) := by decide +kernel
theorem dim_rng {y m : Int} (h : 1 ≤ m ∧ m ≤ 12) : 28 ≤ dim y m ∧ dim y m ≤ 31 := by
  have hl := lp_or y
  have ht := monthN (P := fun m => 28 ≤ dimT m ∧ dimT m ≤ 31 ∧ (m = 2 → dimT m = 28)) dim_rngT h
  rw [dim_eq h]
  split <;> omega
section
variable {y m d h mi sc h2 mi2 sc2 day : Int} (r : Row y m d h mi sc) (e : day * 86400 + h2 * 3600 + mi2 * 60 + sc2 = d * 86400 + h * 3600 + mi * 60 + sc) (h1 : 0 ≤ h2 ∧ h2 ≤ 23) (h3 : 0 ≤ mi2 ∧ mi2 ≤ 59) (h4 : 0 ≤ sc2 ∧ sc2 ≤ 59) (h5 : 0 ≤ day ∧ day ≤ 40)
include r e h1 h3 h4 h5
end
end Mine
namespace Mine
/-- what the month that is guessed from a day's number says, in a year of l leap days -/
noncomputable def OrdOk (r l M : Int) : Prop := 1 ≤ M ∧ M ≤ 12 ∧ (2 < M → dbmT M + l ≤ r → r - (dbmT M + l) < dimT M) ∧ (M ≤ 2 → dbmT M ≤ r → r - dbmT M < dimT M + (if M = 2 then l else 0)) ∧
  (2 < M → r < dbmT M + l → M - 1 = 2 → dbmT M + l - (dimT (M - 1) + l) = dbmT (M - 1) ∧ dbmT (M - 1) ≤ r ∧ dbmT M = dbmT (M - 1) + dimT (M - 1)) ∧
  (2 < M → r < dbmT M + l → M - 1 ≠ 2 → dbmT M + l - dimT (M - 1) = dbmT (M - 1) + l ∧ dbmT (M - 1) + l ≤ r) ∧
  (M ≤ 2 → r < dbmT M → M = 2 ∧ dbmT M - dimT (M - 1) = dbmT (M - 1) ∧ dbmT (M - 1) ≤ r)
noncomputable def okA (r l M : Int) : Prop := (1 ≤ M ∧ M ≤ 12) ∧ (2 < M → dbmT M + l ≤ r → r - (dbmT M + l) < dimT M) ∧ (M ≤ 2 → dbmT M ≤ r → r - dbmT M < dimT M + (if M = 2 then l else 0))
noncomputable def okAd (r l M : Int) : Decidable (okA r l M) := by unfold okA; infer_instance
noncomputable def okB (r l M : Int) : Prop := (2 < M → r < dbmT M + l → M - 1 = 2 → dbmT M + l - (dimT (M - 1) + l) = dbmT (M - 1) ∧ dbmT (M - 1) ≤ r ∧ dbmT M = dbmT (M - 1) + dimT (M - 1))
noncomputable def okBd (r l M : Int) : Decidable (okB r l M) := by unfold okB; infer_instance
noncomputable def okC (r l M : Int) : Prop := (2 < M → r < dbmT M + l → M - 1 ≠ 2 → dbmT M + l - dimT (M - 1) = dbmT (M - 1) + l ∧ dbmT (M - 1) + l ≤ r)
noncomputable def okCd (r l M : Int) : Decidable (okC r l M) := by unfold okC; infer_instance
noncomputable def okD (r l M : Int) : Prop := (M ≤ 2 → r < dbmT M → M = 2 ∧ dbmT M - dimT (M - 1) = dbmT (M - 1) ∧ dbmT (M - 1) ≤ r)
noncomputable def okDd (r l M : Int) : Decidable (okD r l M) := by unfold okD; infer_instance
noncomputable def ordOk (r l M : Int) : Bool := @decide _ (okAd r l M) && (@decide _ (okBd r l M) && (@decide _ (okCd r l M) && @decide _ (okDd r l M)))
theorem ordOk_to {r l M : Int} (h : ordOk r l M = true) : OrdOk r l M := by
  unfold ordOk at h
  rw [Bool.and_eq_true, Bool.and_eq_true, Bool.and_eq_true] at h
  have hA : okA r l M := @of_decide_eq_true _ (okAd r l M) h.1
  have hB : okB r l M := @of_decide_eq_true _ (okBd r l M) h.2.1
  have hC : okC r l M := @of_decide_eq_true _ (okCd r l M) h.2.2.1
  have hD : okD r l M := @of_decide_eq_true _ (okDd r l M) h.2.2.2
  exact ⟨hA.1.1, hA.1.2, hA.2.1, hA.2.2, hB, hC, hD⟩
theorem ordTab : ∀ k : Nat, k < 365 → ∀ l : Nat, l < 2 → ordOk k l (((k : Int) + 50) / 32) = true := by decide +kernel
theorem ord_tab {r l : Int} (h0 : 0 ≤ r) (h1 : r < 365) (hl : l = 0 ∨ l = 1) : OrdOk r l ((r + 50).fdiv (2 ^ Int.toNat 5)) := by
  rw [fd32]
  obtain ⟨k, rfl⟩ := Int.eq_ofNat_of_zero_le h0
  rcases hl with rfl | rfl
  · exact ordOk_to (ordTab k (by omega) 0 (by decide))
  · exact ordOk_to (ordTab k (by omega) 1 (by decide))
/-- what is said at a year's day, r days behind its first: month M, whose first is P days behind it -/
structure OrdFin (Y n r M P : Int) : Prop where
  lo : 0 ≤ r - P
  hi : r - P < dim Y M
  v : Valid Y M (r - P + 1) ∧ first Y M + (r - P + 1) - 1 = n
structure OrdCtx (Y n r : Int) (X : Bool) (M : Int) : Prop where
  yr : n - 1 = dby Y + r
  lpX : leap Y = X
  ok : OrdOk r (lp Y) M
theorem ordCtx {n a b c e r M : Int} {X : Bool} (hb : 0 ≤ b ∧ b ≤ 3) (hc : 0 ≤ c ∧ c ≤ 24) (he : 0 ≤ e ∧ e ≤ 3) (hn : n - 1 = 146097 * a + 36524 * b + 1461 * c + 365 * e + r)
    (hl : leap (a * 400 + 1 + (b * 100 + c * 4 + e)) = X) (ok : OrdOk r (lp (a * 400 + 1 + (b * 100 + c * 4 + e))) M) : OrdCtx (a * 400 + 1 + (b * 100 + c * 4 + e)) n r X M :=
  ⟨by rw [dby_parts hb hc he]; exact hn, hl, ok⟩
theorem ord_put {Y n r M P : Int} {X : Bool} {M0 : Int} (C : OrdCtx Y n r X M0) (hM : 1 ≤ M ∧ M ≤ 12) (hP : P = dbmT M + (if 2 < M then lp Y else 0)) (h0 : P ≤ r) (h1 : r - P < dim Y M) : OrdFin Y n r M P := by
  refine ⟨Int.sub_nonneg_of_le h0, h1, ⟨hM.1, hM.2, Int.le_add_of_nonneg_left (Int.sub_nonneg_of_le h0), h1⟩, ?_⟩
  have hn := C.yr
  rw [first_eq hM, dbm_eq hM, ← hP]
  clear hP h0 h1 hM C
  omega
theorem ord_w1 {Y n r M z z' : Int} {X : Bool} (C : OrdCtx Y n r X M) (h : 2 < M) (hz : Hid (z = if X = true then 1 else 0)) (hr : r < dbmT M + z) (h2 : M - 1 = 2) (hz' : Hid (z' = if X = true then 1 else 0)) :
    OrdFin Y n r (M - 1) (dbmT M + z - (dimT (M - 1) + z')) := by
  obtain rfl := hz.out.trans (lp_is C.lpX).symm
  obtain rfl := hz'.out.trans (lp_is C.lpX).symm
  obtain ⟨T1, T2, T3, T4, T5, T6, T7⟩ := C.ok
  obtain ⟨q1, q2, q3⟩ := T5 h hr h2
  rw [q1]
  refine ord_put C (by rw [h2]; decide) (by rw [if_neg (by rw [h2]; decide), Int.add_zero]) q2 ?_
  rw [(dim_facts2 Y (M - 1) (by rw [h2]; decide)).1 h2]
  clear T1 T2 T3 T4 T5 T6 T7 q1 q2 h h2 C hz hz'
  omega
theorem ord_w2 {Y n r M z z' : Int} {X : Bool} (C : OrdCtx Y n r X M) (h : 2 < M) (hz : Hid (z = if X = true then 1 else 0)) (hr : r < dbmT M + z) (h2 : M - 1 ≠ 2) (hz' : z' = 0) :
    OrdFin Y n r (M - 1) (dbmT M + z - (dimT (M - 1) + z')) := by
  obtain rfl := hz.out.trans (lp_is C.lpX).symm
  subst hz'
  obtain ⟨T1, T2, T3, T4, T5, T6, T7⟩ := C.ok
  obtain ⟨q1, q2⟩ := T6 h hr h2
  have hM : 1 ≤ M - 1 ∧ M - 1 ≤ 12 ∧ 2 < M - 1 := by clear T3 T4 T5 T6 T7 q1 q2 hr C hz; omega
  rw [Int.add_zero, q1]
  refine ord_put C ⟨hM.1, hM.2.1⟩ (by rw [if_pos hM.2.2]) q2 ?_
  rw [(dim_facts2 Y (M - 1) ⟨hM.1, hM.2.1⟩).2 h2]
  clear T1 T2 T3 T4 T5 T6 T7 q2 h h2 C hz hM
  omega
theorem ord_w3 {Y n r M z : Int} {X : Bool} (C : OrdCtx Y n r X M) (h : 2 < M) (hz : Hid (z = if X = true then 1 else 0)) (hr : ¬ r < dbmT M + z) : OrdFin Y n r M (dbmT M + z) := by
  obtain rfl := hz.out.trans (lp_is C.lpX).symm
  obtain ⟨T1, T2, T3, T4, T5, T6, T7⟩ := C.ok
  refine ord_put C ⟨T1, T2⟩ (by rw [if_pos h]) (Int.not_lt.mp hr) ?_
  rw [(dim_facts2 Y M ⟨T1, T2⟩).2 (Ne.symm (Int.ne_of_lt h))]
  exact T3 h (Int.not_lt.mp hr)
theorem ord_w5 {Y n r M z z' : Int} {X : Bool} (C : OrdCtx Y n r X M) (h : ¬ 2 < M) (hz : z = 0) (hr : r < dbmT M + z) (hz' : z' = 0) : OrdFin Y n r (M - 1) (dbmT M + z - (dimT (M - 1) + z')) := by
  subst hz hz'
  obtain ⟨T1, T2, T3, T4, T5, T6, T7⟩ := C.ok
  rw [Int.add_zero] at hr
  obtain ⟨rfl, q1, q2⟩ := T7 (Int.not_lt.mp h) hr
  have e1 : (2 : Int) - 1 = 1 := by decide
  rw [e1] at q1 q2 ⊢
  rw [Int.add_zero, Int.add_zero, q1]
  refine ord_put C (by decide) (by rw [if_neg (by decide), Int.add_zero]) q2 ?_
  rw [(dim_facts2 Y 1 (by decide)).2 (by decide)]
  clear T1 T2 T3 T4 T5 T6 T7 q2 h C
  omega
theorem ord_w6 {Y n r M z : Int} {X : Bool} (C : OrdCtx Y n r X M) (h : ¬ 2 < M) (hz : z = 0) (hr : ¬ r < dbmT M + z) : OrdFin Y n r M (dbmT M + z) := by
  subst hz
  obtain ⟨T1, T2, T3, T4, T5, T6, T7⟩ := C.ok
  have h' := Int.not_lt.mp h
  rw [Int.add_zero] at hr ⊢
  refine ord_put C ⟨T1, T2⟩ (by rw [if_neg h, Int.add_zero]) (Int.not_lt.mp hr) ?_
  rw [dim_eq ⟨T1, T2⟩]
  exact T4 h' (Int.not_lt.mp hr)
theorem ord_w4 {M : Int} (h : ¬ 2 < M) (h2 : M - 1 = 2) : False := by omega
theorem ord_n4 {b c e r : Int} (h4 : b = 4 → c = 0 ∧ e = 0 ∧ r = 0) (h5 : e = 4 → r = 0 ∧ (c = 24 → b = 3)) (h : e = 4 ∨ b = 4) : r = 0 := h.elim (fun q => (h5 q).1) fun q => (h4 q).2.2
end Mine

end
section
open PySem PySem.W PyProof.Rows PySem.Calls PySem.Spec
open PySem.Builtin PySem.Builtin.Str PySem.NumText
set_option maxRecDepth 100000
namespace Mine
/-- a text by its signs' numbers -/
theorem tx_ex : ∃ f : List Nat → PySem.Str, ∀ l, f l = ⟨l.toArray⟩ := ⟨_, fun _ => rfl⟩
noncomputable def tx : List Nat → PySem.Str := Classical.choose tx_ex
theorem tx_def (l : List Nat) : tx l = ⟨l.toArray⟩ := Classical.choose_spec tx_ex l
theorem tx_toList (l : List Nat) : (tx l).cps.toList = l := by simp [tx_def]
theorem tx_length (l : List Nat) : (tx l).length = l.length := by simp [tx_def, PySem.Str.length]
theorem tx_append (a b : List Nat) : tx a ++ tx b = tx (a ++ b) := by
  have e : (tx a ++ tx b).cps = (tx (a ++ b)).cps := by
    rw [PySem.Str.cps_append]; simp [tx_def]
  exact congrArg PySem.Str.mk e
theorem tx_inj {a b : List Nat} (h : tx a = tx b) : a = b := by
  have := congrArg (fun x => x.cps.toList) h
  simpa [tx_toList] using this
/-- one figure -/
noncomputable def fig (n : Int) : Nat := 48 + (n % 10).toNat
noncomputable def dg2 (n : Int) : List Nat := [fig (n / 10), fig n]
noncomputable def dg3 (n : Int) : List Nat := [fig (n / 100), fig (n / 10), fig n]
noncomputable def dg4 (n : Int) : List Nat := [fig (n / 1000), fig (n / 100), fig (n / 10), fig n]
/-- the figures of a number below ten thousand, as they stand -/
noncomputable def dgs (n : Int) : List Nat := if n < 10 then [fig n] else if n < 100 then dg2 n else if n < 1000 then dg3 n else dg4 n
theorem fig_lo (n : Int) : 48 ≤ fig n := Nat.le_add_right ..
theorem fig_hi (n : Int) : fig n ≤ 57 := by unfold fig; omega
theorem dgs_digits {n : Int} : AllDigits (dgs n) := by
  intro c hc
  unfold dgs dg2 dg3 dg4 at hc
  have key : ∀ k, c = fig k → 48 ≤ c ∧ c ≤ 57 := fun k e => e ▸ ⟨fig_lo k, fig_hi k⟩
  split at hc
  · simp only [List.mem_cons, List.not_mem_nil, or_false] at hc; exact key _ hc
  · split at hc
    · simp only [List.mem_cons, List.not_mem_nil, or_false] at hc; rcases hc with h | h <;> exact key _ h
    · split at hc <;> simp only [List.mem_cons, List.not_mem_nil, or_false] at hc
      · rcases hc with h | h | h <;> exact key _ h
      · rcases hc with h | h | h | h <;> exact key _ h
theorem fig_sub (n : Int) : fig n - 48 = (n % 10).toNat := Nat.add_sub_cancel_left ..
theorem val_last {n : Int} (h0 : 0 ≤ n) : (n / 10).toNat * 10 + (fig n - 48) = n.toNat := by
  rw [fig_sub]
  obtain ⟨k, rfl⟩ := Int.eq_ofNat_of_zero_le h0
  exact Nat.div_add_mod' k 10
theorem val_one {n : Int} (h0 : 0 ≤ n) (h1 : n < 10) : fig n - 48 = n.toNat := by rw [fig_sub, Int.emod_eq_of_lt h0 h1]
theorem div_div (n a b c : Int) (ha : 0 ≤ a) (e : a * b = c) : n / a / b = n / c := by rw [← e, Int.ediv_ediv_of_nonneg ha]
theorem val_two {n : Int} (h0 : 0 ≤ n) (h1 : n < 100) : (fig (n / 10) - 48) * 10 + (fig n - 48) = n.toNat := by
  rw [val_one (n := n / 10) (Int.ediv_nonneg h0 (by decide)) (by omega), val_last h0]
theorem val_three {n : Int} (h0 : 0 ≤ n) (h1 : n < 1000) : ((fig (n / 100) - 48) * 10 + (fig (n / 10) - 48)) * 10 + (fig n - 48) = n.toNat := by
  have := val_two (n := n / 10) (Int.ediv_nonneg h0 (by decide)) (by omega)
  rw [div_div n 10 10 100 (by decide) (by decide)] at this
  rw [this, val_last h0]
theorem val_four {n : Int} (h0 : 0 ≤ n) (h1 : n < 10000) : (((fig (n / 1000) - 48) * 10 + (fig (n / 100) - 48)) * 10 + (fig (n / 10) - 48)) * 10 + (fig n - 48) = n.toNat := by
  have := val_three (n := n / 10) (Int.ediv_nonneg h0 (by decide)) (by omega)
  rw [div_div n 10 100 1000 (by decide) (by decide), div_div n 10 10 100 (by decide) (by decide)] at this
  rw [this, val_last h0]
theorem dgs_val {n : Int} (h0 : 0 ≤ n) (h1 : n < 10000) : digitsVal (dgs n) = n.natAbs := by
  rw [show n.natAbs = n.toNat by omega]
  unfold dgs dg2 dg3 dg4 digitsVal
  split
  · simp only [List.foldl, Nat.zero_mul, Nat.zero_add]; exact val_one h0 (by assumption)
  · split
    · simp only [List.foldl, Nat.zero_mul, Nat.zero_add]; exact val_two h0 (by assumption)
    · split
      · simp only [List.foldl, Nat.zero_mul, Nat.zero_add]; exact val_three h0 (by assumption)
      · simp only [List.foldl, Nat.zero_mul, Nat.zero_add]; exact val_four h0 h1
theorem charsT : ∀ k : Nat, k < 10 → (Char.ofNat (48 + k)).toNat = 48 + k := by decide +kernel
theorem fig_char (n : Int) : (Char.ofNat (fig n)).toNat = fig n := charsT _ (by omega)
theorem dgs_chars (n : Int) : ((dgs n).map Char.ofNat).map Char.toNat = dgs n := by
  unfold dgs dg2 dg3 dg4
  split
  · simp only [List.map, fig_char]
  · split
    · simp only [List.map, fig_char]
    · split <;> simp only [List.map, fig_char]

theorem fig_ge {n : Int} (h : 1 ≤ n % 10) : 49 ≤ fig n := by unfold fig; omega
theorem dgs_toDigits {n : Int} (h0 : 0 ≤ n) (h1 : n < 10000) : (Nat.toDigits 10 n.natAbs).map Char.toNat = dgs n := by
  rw [← dgs_val h0 h1]
  have hd := dgs_digits (n := n)
  have key : ∀ k, (dgs n).length = k + 1 → (k = 0 ∨ ∃ c r, dgs n = c :: r ∧ 49 ≤ c) → (Nat.toDigits 10 (digitsVal (dgs n))).map Char.toNat = dgs n := fun k hk hc => by
    rw [toDigits_digitsVal k (dgs n) hk hd hc]
    exact dgs_chars n
  by_cases h10 : n < 10
  · exact key 0 (by simp [dgs, h10]) (.inl rfl)
  · by_cases h100 : n < 100
    · exact key 1 (by simp [dgs, dg2, h10, h100]) (.inr ⟨fig (n / 10), [fig n], by simp [dgs, dg2, h10, h100], fig_ge (by omega)⟩)
    · by_cases h1000 : n < 1000
      · exact key 2 (by simp [dgs, dg3, h10, h100, h1000]) (.inr ⟨fig (n / 100), [fig (n / 10), fig n], by simp [dgs, dg3, h10, h100, h1000], fig_ge (by omega)⟩)
      · exact key 3 (by simp [dgs, dg4, h10, h100, h1000]) (.inr ⟨fig (n / 1000), [fig (n / 100), fig (n / 10), fig n], by simp [dgs, dg4, h10, h100, h1000], fig_ge (by omega)⟩)
theorem dgs_text {n : Int} (h0 : 0 ≤ n) (h1 : n < 10000) : (PySem.Str.ofString (toString ((n.natAbs : Nat) : Int))).cps.toList = dgs n := by
  rw [KIN.signs_num, dgs_toDigits h0 h1]
theorem fig_zero {n : Int} (h0 : 0 ≤ n) (h : n < 10) (k : Int) (hk : n / k = 0) : fig (n / k) = 48 := by rw [hk]; rfl

/-- a number laid with noughts ahead: two figures -/
theorem pad2 {f : Percent} (hf : f = { zero := true, width := some 2, type := 100 }) {n : Int} (h0 : 0 ≤ n) (h1 : n < 100) {d : List Nat} (hd : d = (PySem.Str.ofString (toString ((n.natAbs : Nat) : Int))).cps.toList) :
    (percentField f true (percentInt f (decide (n < 0)) d)).getD (percentInt f (decide (n < 0)) d) = dg2 n := by
  subst hf hd
  rw [dgs_text h0 (by omega)]
  have hn : decide (n < 0) = false := decide_eq_false (by omega)
  rw [hn]
  by_cases h10 : n < 10
  · have e : dgs n = [fig n] := by simp [dgs, h10]
    rw [e]
    have h2 := fig_hi n
    have h3 := fig_lo n
    have z : fig (n / 10) = 48 := fig_zero h0 h10 10 (by omega)
    have e1 : fig n ≠ 45 := by omega
    have e2 : fig n ≠ 43 := by omega
    simp [percentInt, percentField, dg2, z, e1, e2]
  · have e : dgs n = dg2 n := by simp [dgs, h10, h1]
    rw [e]
    simp [percentInt, percentField, dg2]
theorem pad4 {f : Percent} (hf : f = { zero := true, width := some 4, type := 100 }) {n : Int} (h0 : 0 ≤ n) (h1 : n < 10000) {d : List Nat} (hd : d = (PySem.Str.ofString (toString ((n.natAbs : Nat) : Int))).cps.toList) :
    (percentField f true (percentInt f (decide (n < 0)) d)).getD (percentInt f (decide (n < 0)) d) = dg4 n := by
  subst hf hd
  rw [dgs_text h0 (by omega)]
  have hn : decide (n < 0) = false := decide_eq_false (by omega)
  rw [hn]
  have hz : ∀ k : Int, n / k = 0 → fig (n / k) = 48 := fun k hk => by rw [hk]; rfl
  have ne : ∀ k : Int, fig k ≠ 45 ∧ fig k ≠ 43 := fun k => by have := fig_lo k; omega
  by_cases h10 : n < 10
  · have e : dgs n = [fig n] := by simp [dgs, h10]
    rw [e]
    simp [percentInt, percentField, dg4, hz 10 (by omega), hz 100 (by omega), hz 1000 (by omega), ne]
  · by_cases h100 : n < 100
    · have e : dgs n = dg2 n := by simp [dgs, h10, h100]
      rw [e]
      simp [percentInt, percentField, dg4, dg2, hz 100 (by omega), hz 1000 (by omega), ne]
    · by_cases h1000 : n < 1000
      · have e : dgs n = dg3 n := by simp [dgs, h10, h100, h1000]
        rw [e]
        simp [percentInt, percentField, dg4, dg3, hz 1000 (by omega), ne]
      · have e : dgs n = dg4 n := by simp [dgs, h10, h100, h1000]
        rw [e]
        simp [percentInt, percentField, dg4]
theorem pad0 {f : Percent} (hf : f = { type := 100 }) {n : Int} (h0 : 0 ≤ n) (h1 : n < 10000) {d : List Nat} (hd : d = (PySem.Str.ofString (toString ((n.natAbs : Nat) : Int))).cps.toList) :
    (percentField f true (percentInt f (decide (n < 0)) d)).getD (percentInt f (decide (n < 0)) d) = dgs n := by
  subst hf hd
  rw [dgs_text h0 (by omega)]
  have hn : decide (n < 0) = false := decide_eq_false (by omega)
  rw [hn]
  simp [percentInt, percentField]
end Mine

end
section
open PySem PySem.W PyProof.Rows PySem.Calls PySem.Spec
namespace Mine
/-- a statement that nothing opens unasked -/
structure Wrap (P : Prop) : Prop where
  out : P
/-- the witness against a statement, if there is one: what holds of it holds of all -/
noncomputable def sk {α : Type} [Nonempty α] (G : α → Prop) : α := Classical.epsilon fun x => ¬ G x
theorem sk_all {α : Type} [Nonempty α] {G : α → Prop} (h : G (sk G)) (x : α) : G x :=
  Classical.byContradiction fun n => (Classical.epsilon_spec (p := fun x => ¬ G x) ⟨x, n⟩) h
end Mine

end
section
open PySem PySem.W PyProof.Rows PySem.Calls PySem.Spec
open PySem.Builtin PySem.Builtin.Str PySem.NumText
set_option maxRecDepth 100000
namespace Mine
section
variable {M : Model} {A : Around} {E : Value → Shared → Prop} {s : Shared} {l : List Nat} {p : List Value} {r : List Nat}
  {f : Nat → List Value × Writer × List Nat → Sem (ForInStep (List Value × Writer × List Nat))} {Q : List Value × Writer × List Nat → Shared → Prop}
  {w : Writer} {N K : Nat} {o : Option Value} {a b x : List Nat}
theorem fmt_start (h : ∀ w', KPc.Good w' (tx []) 0 → wpAny M A (forIn l (p, w', r) f) Q E s) : wpAny M A (forIn l (p, ({} : Writer), r) f) Q E s := KPc.start (by rw [tx_def] at h; exact h)
theorem fmt_add (K : Nat) (g : KPc.Good w (tx a) N) (hx : x = b) (hK : b.length ≤ K) (ho : KPc.Obj o (tx b)) (h : ∀ w', KPc.Good w' (tx (a ++ b)) (N + K) → wpAny M A (forIn l (p, w', r) f) Q E s) : wpAny M A (forIn l (p, w.add ⟨x.toArray⟩ o, r) f) Q E s := by
  subst hx
  have e : (⟨x.toArray⟩ : PySem.Str) = tx x := (tx_def x).symm
  rw [e]
  refine h _ ?_
  have := KPc.good_mono (KPc.good_add g ho) (K := N + K) (by rw [tx_length]; omega)
  rw [tx_append] at this
  exact this
theorem fmt_pad {β : Type} {k : List Nat → Option Value → Sem β} {Q' : β → Shared → Prop} {fd : Percent} {text laid : List Nat} {o : Option Value} (h : (percentField fd true text).getD text = laid) (ho : o = Option.none) (hk : wpAny M A (k laid Option.none) Q' E s) :
    wpAny M A (match percentField fd true text with | Option.none => k text o | some t => k t Option.none) Q' E s := by
  subst ho
  cases e : percentField fd true text with
  | none => rw [e] at h; cases h; exact hk
  | some t => rw [e] at h; cases h; exact hk
end
theorem str_obj {y : PySem.Str} {t : Tok} {c : Prop} [Decidable c] : KPc.Obj (if c then some (.str y t) else Option.none) y := by
  split
  · exact KPc.obj_some rfl
  · exact KPc.obj_none rfl
theorem dgs_len (n : Int) : (dgs n).length ≤ 4 := by
  unfold dgs dg2 dg3 dg4
  split
  · simp
  · split
    · simp
    · split <;> simp
theorem fmt_run {b : Addr} {its : Array Value} {F : PySem.Str} {T : PySem.Str} {t : Tok}
    (h : ∀ (prog : Program) (w : World) (A : Around) (s : Shared) (Q : Fin → Shared → Prop) (E : Value → Shared → Prop), IsTup s.heap b its → (∀ t' k, Q (.done (.ret (.str T t'))) { s with toks := k }) → wpAny (model prog w) A (percentFormat (.str F t) F (.ref b)) Q E s) :
    Meets («str.__mod__» ⟨[.str F t, .ref b], []⟩) (fun _ R s => IsTup s.heap b its ∧ ∀ t' k, R (.ok (.ret (.str T t'))) { s with toks := k }) := by
  apply KPt.meets_tup
  intro prog w A s Q E h1 h2
  rw [KPt.entry_is_r]
  exact h prog w A s Q E h1 h2
theorem fmt_run1 {F : PySem.Str} {T : PySem.Str} {t u : Tok} {n : Int}
    (h : ∀ (prog : Program) (w : World) (A : Around) (s : Shared) (Q : Fin → Shared → Prop) (E : Value → Shared → Prop), (∀ t' k, Q (.done (.ret (.str T t'))) { s with toks := k }) → wpAny (model prog w) A (percentFormat (.str F t) F (.int n u)) Q E s) :
    Meets («str.__mod__» ⟨[.str F t, .int n u], []⟩) (fun _ R s => ∀ t' k, R (.ok (.ret (.str T t'))) { s with toks := k }) := by
  apply KPc.meets_of
  intro prog w A s Q E h1
  rw [KPc.entry_is]
  exact h prog w A s Q E h1

noncomputable abbrev FBody := Nat → List Value × Writer × List Nat → Sem (ForInStep (List Value × Writer × List Nat))
/-- a piece of a format without a directive, the format's length is n -/
structure LitOk (n : Nat) (cs : List Nat) : Prop where
  no : cs.all (· != 37) = true
  ne : cs.isEmpty = false
  le : cs.length ≤ 8
  whole : (cs.length == n) = false
theorem LitOk.of {n : Nat} {cs : List Nat} (h : (cs.all (· != 37) && (!cs.isEmpty && (decide (cs.length ≤ 8) && !(cs.length == n)))) = true) : LitOk n cs := by
  rw [Bool.and_eq_true, Bool.and_eq_true, Bool.and_eq_true] at h
  exact ⟨h.1, by simpa using h.2.1, of_decide_eq_true h.2.2.1, by simpa using h.2.2.2⟩
structure Turns (n : Nat) (M : Model) (A : Around) (E : Value → Shared → Prop) (s : Shared) (f : FBody) (Q : List Value × Writer × List Nat → Shared → Prop) (R : Fin → Shared → Prop) : Prop where
  lit : ∀ {cs r : List Nat} {p : List Value} {a : List Nat} {w : Writer} {N k x : Nat} {l : List Nat}, LitOk n cs → KPc.Good w (tx a) N → N ≤ 1000 →
    (∀ w' k, KPc.Good w' (tx (a ++ cs)) (N + 8) → wpAny M A (forIn l (p, w', 37 :: r) f) Q E { s with toks := k }) → wpAny M A (forIn (x :: l) (p, w, cs ++ 37 :: r) f) Q E { s with toks := k }
  lend : ∀ {cs : List Nat} {p : List Value} {a : List Nat} {w : Writer} {N k x : Nat} {l : List Nat}, LitOk n cs → KPc.Good w (tx a) N → N ≤ 1000 →
    (∀ w' k, KPc.Good w' (tx (a ++ cs)) (N + 8) → wpAny M A (forIn l (p, w', []) f) Q E { s with toks := k }) → wpAny M A (forIn (x :: l) (p, w, cs) f) Q E { s with toks := k }
  num4 : ∀ {n : Int} {t : Tok} {r : List Nat} {p : List Value} {a : List Nat} {w : Writer} {N k x : Nat} {l : List Nat}, 0 ≤ n → n < 10000 → KPc.Good w (tx a) N → N ≤ 1000 →
    (∀ w' k, KPc.Good w' (tx (a ++ dg4 n)) (N + 4) → wpAny M A (forIn l (p, w', r) f) Q E { s with toks := k }) → wpAny M A (forIn (x :: l) (.int n t :: p, w, 37 :: 48 :: 52 :: 100 :: r) f) Q E { s with toks := k }
  num2 : ∀ {n : Int} {t : Tok} {r : List Nat} {p : List Value} {a : List Nat} {w : Writer} {N k x : Nat} {l : List Nat}, 0 ≤ n → n < 100 → KPc.Good w (tx a) N → N ≤ 1000 →
    (∀ w' k, KPc.Good w' (tx (a ++ dg2 n)) (N + 2) → wpAny M A (forIn l (p, w', r) f) Q E { s with toks := k }) → wpAny M A (forIn (x :: l) (.int n t :: p, w, 37 :: 48 :: 50 :: 100 :: r) f) Q E { s with toks := k }
  num : ∀ {n : Int} {t : Tok} {r : List Nat} {p : List Value} {a : List Nat} {w : Writer} {N k x : Nat} {l : List Nat}, 0 ≤ n → n < 10000 → KPc.Good w (tx a) N → N ≤ 1000 →
    (∀ w' k, KPc.Good w' (tx (a ++ dgs n)) (N + 4) → wpAny M A (forIn l (p, w', r) f) Q E { s with toks := k }) → wpAny M A (forIn (x :: l) (.int n t :: p, w, 37 :: 100 :: r) f) Q E { s with toks := k }
  str : ∀ {b : List Nat} {t : Tok} {r : List Nat} {p : List Value} {a : List Nat} {w : Writer} {N k x : Nat} {l : List Nat}, b.length ≤ 40 → KPc.Good w (tx a) N → N ≤ 1000 →
    (∀ w' k, KPc.Good w' (tx (a ++ b)) (N + 40) → wpAny M A (forIn l (p, w', r) f) Q E { s with toks := k }) → wpAny M A (forIn (x :: l) (.str (tx b) t :: p, w, 37 :: 115 :: r) f) Q E { s with toks := k }
  fin : ∀ {a : List Nat} {w : Writer} {N k x : Nat} {l : List Nat}, KPc.Good w (tx a) N → N ≤ 1000 → (∀ t' k, R (.done (.ret (.str (tx a) t'))) { s with toks := k }) →
    wpAny M A (forIn (x :: l) ([], w, []) f) Q E { s with toks := k }
theorem words_Fmt_0 : True := by
  k_with_none
  w_top off
  k_with "fmt:chk" => ((
  refine KPc.turn ?_
  refine wpAny_ite (KPc.ite_no (KPc.short_good (by kpc_g) (by omega)) ?_)))
  k_with "fmt:num" => ((
  walk_at "fmt:chk"
  (repeat kpc_if)
  refine wpAny_bind ?_
  refine wpAny_holding ?_
  (repeat kpc_if)
  refine wpAny_bind (wpAny_of_eq (a := _) rfl ?_)
  (repeat kpc_if)
  refine wpAny_bind (wpAny_mkInt ?_)
  refine wpAny_bind (call_gives F.slot_int_repr (typeIs_int _ _ _) F.entry_int_repr (F.args_int_repr_1 _) (gives_int_repr _ _ (KPt.hd2 (by kpt_hd))) ⟨int_text_fits (KPt.hd2 (by kpt_hd)), ?_⟩)
  refine wpAny_bind (wpAny_of_eq (a := some _) rfl ?_)
  refine wpAny_pure ?_))
  trivial
theorem span_loop {r : List Nat} : ∀ (cs acc : List Nat), cs.all (· != 37) = true → List.span.loop (· != 37) (cs ++ 37 :: r) acc = (acc.reverse ++ cs, 37 :: r)
  | [], acc, _ => by simp [List.span.loop]
  | c :: cs, acc, h => by
    rw [List.all_cons, Bool.and_eq_true] at h
    show List.span.loop (· != 37) (c :: (cs ++ 37 :: r)) acc = _
    rw [List.span.loop]
    simp only [h.1]
    rw [span_loop cs (c :: acc) h.2]
    simp
theorem span_loop1 : ∀ (cs acc : List Nat), cs.all (· != 37) = true → List.span.loop (· != 37) cs acc = (acc.reverse ++ cs, [])
  | [], acc, _ => by simp [List.span.loop]
  | c :: cs, acc, h => by
    rw [List.all_cons, Bool.and_eq_true] at h
    rw [List.span.loop]
    simp only [h.1]
    rw [span_loop1 cs (c :: acc) h.2]
    simp
theorem lit_empty {cs r : List Nat} : (cs ++ 37 :: r).isEmpty = false := by cases cs <;> rfl
theorem lit_span {cs r : List Nat} (h : cs.all (· != 37) = true) : (cs ++ 37 :: r).span (· != 37) = (cs, 37 :: r) := span_loop cs [] h
theorem lit_span1 {cs : List Nat} (h : cs.all (· != 37) = true) : cs.span (· != 37) = (cs, []) := span_loop1 cs [] h
theorem fmt_turns {prog : Program} {wd : World} {A : Around} {E : Value → Shared → Prop} {s : Shared} {R : Fin → Shared → Prop} {Fm : PySem.Str} {t : Tok} {b : Addr} {its : Array Value} (hb : IsTup s.heap b its)
    (h : ∀ f Q k, Turns Fm.length (model prog wd) A E s f Q R → wpAny (model prog wd) A (forIn (List.range' 0 Fm.length) (its.toList, ({} : Writer), Fm.cps.toList) f) Q E { s with toks := k }) :
    wpAny (model prog wd) A (percentFormat (.str Fm t) Fm (.ref b)) R E s := by
  obtain ⟨kptO, kptG, kptC, kptN, kptD⟩ := hb
  unfold Builtin.Str.percentFormat
  refine wpAny_bind (wpAny_isInstance (T := "tuple") ⟨kptO, kptG, kptC⟩ KPt.sub_tt ?_)
  refine wpAny_bind (KPt.asStr_ref kptG kptD ?_)
  refine wpAny_bind (KPt.fills_ref ⟨kptO, kptG, kptC⟩ ?_)
  intro _
  kpc_if
  refine wpAny_bind (wpAny_seqItems kptG kptD ?_)
  refine wpAny_bind (wpAny_pure ?_)
  refine wpAny_bind ?_
  rw [KPc.range_list]
  refine h _ _ s.toks ⟨?_, ?_, ?_, ?_, ?_, ?_, ?_⟩
  · intro cs r p a w N k x l hc g hN hk
    walk_at "fmt:chk"
    refine wpAny_ite (KPc.ite_no (by rw [lit_empty]; exact Bool.false_ne_true) ?_)
    rw [lit_span hc.no]
    refine wpAny_ite (KPc.ite_yes (by rw [hc.ne]; rfl) ?_)
    refine wpAny_pure ?_
    exact fmt_add (b := cs) 8 (by kpc_g) rfl hc.le (KPc.obj_none (if_neg (by rw [hc.whole]; exact Bool.false_ne_true))) fun w' g' => hk w' _ g'
  · intro cs p a w N k x l hc g hN hk
    walk_at "fmt:chk"
    refine wpAny_ite (KPc.ite_no (by rw [hc.ne]; exact Bool.false_ne_true) ?_)
    rw [lit_span1 hc.no]
    refine wpAny_ite (KPc.ite_yes (by rw [hc.ne]; rfl) ?_)
    refine wpAny_pure ?_
    exact fmt_add (b := cs) 8 (by kpc_g) rfl hc.le (KPc.obj_none (if_neg (by rw [hc.whole]; exact Bool.false_ne_true))) fun w' g' => hk w' _ g'
  · intro n t r p a w N k x l h0 h1 g hN hk
    walk_at "fmt:num"
    refine fmt_pad (k := fun x o => pure (ForInStep.yield (_, Writer.add _ ⟨x.toArray⟩ o, _))) (pad4 rfl h0 h1 rfl) (ite_self _) ?_
    refine wpAny_pure ?_
    exact fmt_add 4 (by kpc_g) rfl (Nat.le_refl _) (KPc.obj_none rfl) fun w' g' => hk w' _ g'
  · intro n t r p a w N k x l h0 h1 g hN hk
    walk_at "fmt:num"
    refine fmt_pad (k := fun x o => pure (ForInStep.yield (_, Writer.add _ ⟨x.toArray⟩ o, _))) (pad2 rfl h0 h1 rfl) (ite_self _) ?_
    refine wpAny_pure ?_
    exact fmt_add 2 (by kpc_g) rfl (Nat.le_refl _) (KPc.obj_none rfl) fun w' g' => hk w' _ g'
  · intro n t r p a w N k x l h0 h1 g hN hk
    walk_at "fmt:num"
    refine fmt_pad (k := fun x o => pure (ForInStep.yield (_, Writer.add _ ⟨x.toArray⟩ o, _))) (pad0 rfl h0 h1 rfl) (ite_self _) ?_
    refine wpAny_pure ?_
    exact fmt_add 4 (by kpc_g) rfl (dgs_len _) (KPc.obj_none rfl) fun w' g' => hk w' _ g'
  · intro b t r p a w N k x l h0 g hN hk
    walk_at "fmt:chk"
    (repeat kpc_if)
    refine wpAny_bind ?_
    refine wpAny_holding ?_
    (repeat kpc_if)
    first
    | (refine wpAny_bind (wpAny_of_eq (KPc.strOf_str _ _) ?_); refine wpAny_bind (wpAny_of_eq (a := some _) rfl ?_))
    | (refine wpAny_bind ?_; kpc_if; refine wpAny_of_eq (KPc.strOf_str _ _) ?_; refine wpAny_bind (wpAny_of_eq (a := some _) rfl ?_))
    refine wpAny_pure ?_
    refine wpAny_pure ?_
    exact fmt_add 40 (by kpc_g) (tx_toList _) (by assumption) str_obj fun w' g' => hk w' _ g'
  · intro a w N k x l g hN hk
    walk_at "fmt:chk"
    (repeat kpc_if)
    refine wpAny_pure ?_
    kpc_if
    exact KPc.finish_ok (by kpc_g) (by omega) rfl hk
theorem words_Fmt_1 : True := by
  k_with "fmt:go1" => ((
  apply fmt_run1
  intro _ _ _ _ _ _ _
  unfold Builtin.Str.percentFormat
  refine wpAny_bind (wpAny_isInstance (typeIs_int _ _ _) F.sub_int_tuple ?_)
  refine wpAny_bind (wpAny_of_eq (a := none) rfl ?_)
  refine wpAny_bind (wpAny_of_eq (KPc.fills _ _) ?_)
  kpc_if
  refine wpAny_bind (wpAny_pure ?_)
  refine wpAny_bind ?_
  rw [KPc.range_list]
  refine fmt_start ?_
  intro _ _))
  k_with "fmt:lit" => ((
  refine KPc.turn ?_
  kpc_check
  (repeat kpc_if)
  refine wpAny_pure ?_
  refine fmt_add 40 (by kpc_g) rfl (by decide) (by kpc_obj) ?_
  intro _ _))
  k_with "fmt:num" => ((
  refine KPc.turn ?_
  kpc_check
  (repeat kpc_if)
  refine wpAny_bind ?_
  refine wpAny_holding ?_
  (repeat kpc_if)
  refine wpAny_bind (wpAny_of_eq (a := _) rfl ?_)
  (repeat kpc_if)
  refine wpAny_bind (wpAny_mkInt ?_)
  refine wpAny_bind (call_gives F.slot_int_repr (typeIs_int _ _ _) F.entry_int_repr (F.args_int_repr_1 _) (gives_int_repr _ _ (KPt.hd2 (by kpt_hd))) ⟨int_text_fits (KPt.hd2 (by kpt_hd)), ?_⟩)
  refine wpAny_bind (wpAny_of_eq (a := some _) rfl ?_)
  refine wpAny_pure ?_))
  k_with "fmt:d" => ((
  walk_at "fmt:num"
  refine fmt_pad (k := fun x o => pure (ForInStep.yield (_, Writer.add _ ⟨x.toArray⟩ o, _))) (pad0 rfl (by omega) (by omega) rfl) rfl ?_
  refine wpAny_pure ?_
  refine fmt_add 4 (by kpc_g) rfl (dgs_len _) (KPc.obj_none rfl) ?_
  intro _ _))
  k_with "fmt:end" => ((
  refine KPc.turn ?_
  kpc_check
  (repeat kpc_if)
  refine wpAny_pure ?_
  kpc_if
  refine KPc.finish_ok (by kpc_g) (by decide +kernel) rfl ?_
  assumption))
  trivial
section
variable (b : Addr) (t t1 t2 t3 t4 t5 t6 : Tok)
/-- '%04d-%02d-%02dT%02d:%02d:%02dZ' -/
theorem fmt_stamp (y m d h mi sc : Int) (hy : 0 ≤ y) (hy' : y < 10000) (hm : 0 ≤ m) (hm' : m < 100) (hd : 0 ≤ d) (hd' : d < 100) (hh : 0 ≤ h) (hh' : h < 100) (hi : 0 ≤ mi) (hi' : mi < 100) (hs : 0 ≤ sc) (hs' : sc < 100) :
    Meets («str.__mod__» ⟨[.str ⟨#[37, 48, 52, 100, 45, 37, 48, 50, 100, 45, 37, 48, 50, 100, 84, 37, 48, 50, 100, 58, 37, 48, 50, 100, 58, 37, 48, 50, 100, 90]⟩ t, .ref b], []⟩)
      (fun _ R s => IsTup s.heap b #[.int y t1, .int m t2, .int d t3, .int h t4, .int mi t5, .int sc t6] ∧ ∀ t' k, R (.ok (.ret (.str (tx ([] ++ dg4 y ++ [45] ++ dg2 m ++ [45] ++ dg2 d ++ [84] ++ dg2 h ++ [58] ++ dg2 mi ++ [58] ++ dg2 sc ++ [90])) t'))) { s with toks := k }) :=
  by
  refine fmt_run fun prog w A s Q E hb hq => fmt_turns hb fun f Q' k T => ?_
  refine fmt_start fun w0 g0 => T.num4 hy hy' g0 (by omega) fun w1 k1 g1 => ?_
  refine T.lit (cs := [45]) (.of (by decide)) g1 (by omega) fun w2 k2 g2 => T.num2 hm hm' g2 (by omega) fun w3 k3 g3 => ?_
  refine T.lit (cs := [45]) (.of (by decide)) g3 (by omega) fun w4 k4 g4 => T.num2 hd hd' g4 (by omega) fun w5 k5 g5 => ?_
  refine T.lit (cs := [84]) (.of (by decide)) g5 (by omega) fun w6 k6 g6 => T.num2 hh hh' g6 (by omega) fun w7 k7 g7 => ?_
  refine T.lit (cs := [58]) (.of (by decide)) g7 (by omega) fun w8 k8 g8 => T.num2 hi hi' g8 (by omega) fun w9 k9 g9 => ?_
  refine T.lit (cs := [58]) (.of (by decide)) g9 (by omega) fun w10 k10 g10 => T.num2 hs hs' g10 (by omega) fun w11 k11 g11 => ?_
  exact T.lend (cs := [90]) (.of (by decide)) g11 (by omega) fun w12 k12 g12 => T.fin g12 (by omega) hq
end
section
variable (t u : Tok)
/-- 'day must be in 1..%d' -/
theorem fmt_day (n : Int) (h0 : 0 ≤ n) (h1 : n < 10000) :
    Meets («str.__mod__» ⟨[.str ⟨#[100, 97, 121, 32, 109, 117, 115, 116, 32, 98, 101, 32, 105, 110, 32, 49, 46, 46, 37, 100]⟩ t, .int n u], []⟩) (fun _ R s => ∀ t' k, R (.ok (.ret (.str (tx ([] ++ [100, 97, 121, 32, 109, 117, 115, 116, 32, 98, 101, 32, 105, 110, 32, 49, 46, 46] ++ dgs n)) t'))) { s with toks := k }) := by
  walk_at "fmt:go1"
  walk_at "fmt:lit"
  walk_at "fmt:d"
  walk_at "fmt:end"
theorem log_small {n : Int} (h0 : 0 ≤ n) (h1 : n < 10000) : n.natAbs.log2 < 1920 := by
  by_cases h : n.natAbs = 0
  · rw [h]; decide
  · have : n.natAbs.log2 < 14 := (Nat.log2_lt h).mpr (by omega)
    omega
theorem mod_day {prog : Program} {w : World} {A : Around} {E : Value → Shared → Prop} {s : Shared} {n : Int} {Q : Value → Shared → Prop} {t u : Tok} (h0 : 0 ≤ n) (h1 : n < 10000)
    (h : ∀ t' k, Q (.str (tx ([] ++ [100, 97, 121, 32, 109, 117, 115, 116, 32, 98, 101, 32, 105, 110, 32, 49, 46, 46] ++ dgs n)) t') { s with toks := k }) : wpAny (model prog w) A (binaryOp .Mod (.str (PySem.Str.ofString "day must be in 1..%d") t) (.int n u)) Q E s :=
  KPc.mod_lit (by decide +kernel) (log_small h0 h1) (fun _ _ => fmt_day _ _ n h0 h1) h
end
end Mine

end
section
open PySem PySem.W PyProof.Rows PySem.Calls PySem.Spec
open PySem.Builtin PySem.Builtin.Str PySem.NumText
set_option maxRecDepth 100000
namespace Mine
theorem tx_nil : tx [] = PySem.Str.empty := tx_def _
theorem tx_of (x : PySem.Str) : x = tx x.cps.toList := by cases x; simp [tx_def]
/-- no blank in it -/
noncomputable def Plain (l : List Nat) : Prop := l ≠ [] ∧ l.all (fun c => !Unicode.isSpace c) = true
theorem plain_of {l : List Nat} (h0 : l ≠ []) (h : ∀ c ∈ l, 33 ≤ c ∧ c ≤ 126) : Plain l :=
  ⟨h0, List.all_eq_true.mpr fun c hc => by rw [KWk.nosp (h c hc).1 (h c hc).2]; rfl⟩
noncomputable def joinSp : List (List Nat) → List Nat
  | [] => []
  | [p] => p
  | p :: q :: r => p ++ 32 :: joinSp (q :: r)
theorem scan_fold : ∀ (ps : List (List Nat)) (ws : List PySem.Str) (_ : ps ≠ []) (_ : ∀ p ∈ ps, Plain p), ∃ r : List Nat, r ≠ [] ∧ (joinSp ps).foldl KWd.step (ws, PySem.Str.empty) = (ws ++ (ps.dropLast.map tx), tx r) ∧ ps.getLast? = some r
  | [], _, h, _ => absurd rfl h
  | [p], ws, _, hp => by
    have h := hp p (.head _)
    refine ⟨p, h.1, ?_, rfl⟩
    show p.foldl KWd.step (ws, PySem.Str.empty) = _
    rw [KWk.fold_plain p _ h.2]
    simp [tx_def, PySem.Str.empty_append]
  | p :: q :: r, ws, _, hp => by
    have h := hp p (.head _)
    obtain ⟨x, hx, e, el⟩ := scan_fold (q :: r) (ws ++ [tx p]) (by simp) (fun a ha => hp a (.tail _ ha))
    refine ⟨x, hx, ?_, by rw [List.getLast?_cons_cons]; exact el⟩
    show (p ++ 32 :: joinSp (q :: r)).foldl KWd.step (ws, PySem.Str.empty) = _
    rw [List.foldl_append, KWk.fold_plain p _ h.2, List.foldl_cons]
    have e2 : KWd.step (ws, PySem.Str.empty ++ ⟨p.toArray⟩) 32 = (ws ++ [tx p], PySem.Str.empty) := by
      rw [PySem.Str.empty_append, ← tx_def]
      have hl : (tx p).length ≠ 0 := by rw [tx_length]; intro z; exact h.1 (List.eq_nil_of_length_eq_zero z)
      show (if Unicode.isSpace 32 = true then (if (tx p).length = 0 then _ else _) else _) = _
      rw [if_pos (by decide +kernel), if_neg hl]
    rw [e2, e]
    simp [List.dropLast]
/-- a text of plain words with one blank between them falls into these words -/
theorem words_sp (ps : List (List Nat)) (h0 : ps ≠ []) (h : ∀ p ∈ ps, Plain p) : Txt.words (tx (joinSp ps)) = ps.map tx := by
  obtain ⟨r, hr, e, el⟩ := scan_fold ps [] h0 h
  have hs : KWd.scan (tx (joinSp ps)) = (ps.dropLast.map tx, tx r) := by
    unfold KWd.scan
    rw [tx_toList, e, List.nil_append]
  rw [KWd.words_of hs, if_neg (by rw [tx_length]; intro z; exact hr (List.eq_nil_of_length_eq_zero z))]
  obtain ⟨hne, hg⟩ : ∃ h : ps ≠ [], ps.getLast h = r := by
    rw [List.getLast?_eq_some_getLast h0] at el
    exact ⟨h0, Option.some.inj el⟩
  have hd := List.dropLast_concat_getLast hne
  rw [hg] at hd
  calc ps.dropLast.map tx ++ [tx r] = (ps.dropLast ++ [r]).map tx := by simp
    _ = ps.map tx := by rw [hd]

/-! one sign between parts -/
noncomputable def joinC (c : Nat) : List (List Nat) → List Nat
  | [] => []
  | [p] => p
  | p :: q :: r => p ++ c :: joinC c (q :: r)
theorem joinC_str (c : Nat) : ∀ ps : List (List Nat), PySem.Str.join ⟨#[c]⟩ (ps.map tx) = tx (joinC c ps)
  | [] => (tx_def _).symm
  | [p] => rfl
  | p :: q :: r => by
    have ih := joinC_str c (q :: r)
    show tx p ++ ⟨#[c]⟩ ++ PySem.Str.join ⟨#[c]⟩ ((q :: r).map tx) = _
    rw [ih]
    have e : (⟨#[c]⟩ : PySem.Str) = tx [c] := (tx_def _).symm
    rw [e, tx_append, tx_append]
    simp [joinC]
theorem first_c {c : Nat} : ∀ {a b x y : List Nat}, c ∉ a → c ∉ b → a ++ c :: x = b ++ c :: y → a = b ∧ x = y
  | [], [], x, y, _, _, h => ⟨rfl, by simpa using h⟩
  | [], d :: b, x, y, _, hb, h => by
    have : c = d := by simpa using (List.cons.inj h).1
    exact absurd (this ▸ .head _) hb
  | d :: a, [], x, y, ha, _, h => by
    have : d = c := by simpa using (List.cons.inj h).1
    exact absurd (this ▸ .head _) ha
  | d :: a, e :: b, x, y, ha, hb, h => by
    have h1 : d = e := (List.cons.inj h).1
    have h2 : a ++ c :: x = b ++ c :: y := (List.cons.inj h).2
    obtain ⟨rfl, r⟩ := first_c (fun m => ha (.tail _ m)) (fun m => hb (.tail _ m)) h2
    exact ⟨by rw [h1], r⟩
theorem joinC_uniq {c : Nat} : ∀ {ps qs : List (List Nat)}, ps ≠ [] → qs ≠ [] → (∀ p ∈ ps, c ∉ p) → (∀ q ∈ qs, c ∉ q) → joinC c ps = joinC c qs → ps = qs
  | [], _, h, _, _, _, _ => absurd rfl h
  | _, [], _, h, _, _, _ => absurd rfl h
  | [p], [q], _, _, _, _, h => by show [p] = [q]; rw [show p = q from h]
  | [p], q :: q' :: r, _, _, hp, _, h => by
    exfalso
    have e : p = q ++ c :: joinC c (q' :: r) := h
    exact hp p (.head _) (e ▸ List.mem_append_right _ (.head _))
  | p :: p' :: r, [q], _, _, _, hq, h => by
    exfalso
    have e : p ++ c :: joinC c (p' :: r) = q := h
    exact hq q (.head _) (e ▸ List.mem_append_right _ (.head _))
  | p :: p' :: r, q :: q' :: r', _, _, hp, hq, h => by
    have h' : p ++ c :: joinC c (p' :: r) = q ++ c :: joinC c (q' :: r') := h
    obtain ⟨rfl, h2⟩ := first_c (hp p (.head _)) (hq q (.head _)) h'
    rw [joinC_uniq (by simp) (by simp) (fun a ha => hp a (.tail _ ha)) (fun a ha => hq a (.tail _ ha)) h2]
theorem split_ne (x y : PySem.Str) : Txt.split x y ≠ [] ∨ x = PySem.Str.empty := by
  by_cases h : Txt.split x y = []
  · right
    have := StrLaws.join_split x y
    rw [h] at this
    exact this.symm
  · exact .inl h
/-- the parts between a sign -/
theorem split_c (c : Nat) (ps : List (List Nat)) (h0 : ps ≠ []) (h1 : joinC c ps ≠ []) (h : ∀ p ∈ ps, c ∉ p) : Txt.split (tx (joinC c ps)) ⟨#[c]⟩ = ps.map tx := by
  have hne : Txt.split (tx (joinC c ps)) ⟨#[c]⟩ ≠ [] := by
    rcases split_ne (tx (joinC c ps)) ⟨#[c]⟩ with q | q
    · exact q
    · exact absurd (tx_inj (q.trans tx_nil.symm)) h1
  have hj := StrLaws.join_split (tx (joinC c ps)) ⟨#[c]⟩
  have hf := StrLaws.split_free (tx (joinC c ps)) c
  generalize Txt.split (tx (joinC c ps)) ⟨#[c]⟩ = ss at hne hj hf
  have e : ss = (ss.map fun x => x.cps.toList).map tx := by
    rw [List.map_map]
    exact (List.map_id' ss).symm.trans (List.map_congr_left fun x _ => tx_of x)
  rw [e, joinC_str] at hj
  have := joinC_uniq (c := c) (ps := ss.map fun x => x.cps.toList) (qs := ps) (by simpa using hne) h0 (fun p hp => by
    obtain ⟨x, hx, rfl⟩ := List.mem_map.mp hp
    exact hf x hx) h (tx_inj hj)
  rw [e, this]
/-! what isn't there -/
theorem find_no {l : List Nat} {c : Nat} (h : c ∉ l) : Txt.find (tx l) ⟨#[c]⟩ = -1 := by
  have q := StrLaws.found_one (tx l) c
  rw [tx_toList, decide_eq_false h] at q
  have q' : (occurrences (tx l) ⟨#[c]⟩ 0 (tx l).length 1).isEmpty = true := by simpa using q
  unfold Txt.find
  rw [List.isEmpty_iff.mp q']
end Mine

end
section
open PySem PySem.W PyProof.Rows PySem.Calls PySem.Spec
open PySem.Builtin PySem.Builtin.Str PySem.NumText
set_option maxRecDepth 100000
namespace Mine
/-- a month's name in a mail -/
noncomputable def monTab : List (List Nat) := [[74, 97, 110], [70, 101, 98], [77, 97, 114], [65, 112, 114], [77, 97, 121], [74, 117, 110], [74, 117, 108], [65, 117, 103], [83, 101, 112], [79, 99, 116], [78, 111, 118], [68, 101, 99]]
noncomputable def mon (m : Int) : List Nat := monTab.getD (m - 1).toNat []
noncomputable def lmon (m : Int) : List Nat := (mon m).map fun c => if c < 97 then c + 32 else c
theorem mon_slice {m : Int} (h : 1 ≤ m ∧ m ≤ 12) : Txt.slice (PySem.Str.ofString "JanFebMarAprMayJunJulAugSepOctNovDec") (some (3 * m - 3)) (some (3 * m)) = tx (mon m) := by
  rcases months h with rfl | rfl | rfl | rfl | rfl | rfl | rfl | rfl | rfl | rfl | rfl | rfl <;> (rw [tx_def]; decide +kernel)
theorem mon_len {m : Int} (h : 1 ≤ m ∧ m ≤ 12) : (mon m).length = 3 := by
  rcases months h with rfl | rfl | rfl | rfl | rfl | rfl | rfl | rfl | rfl | rfl | rfl | rfl <;> rfl
theorem mon_mem {m : Int} (h : 1 ≤ m ∧ m ≤ 12) : ∀ c ∈ mon m, 65 ≤ c ∧ c ≤ 122 := by
  rcases months h with rfl | rfl | rfl | rfl | rfl | rfl | rfl | rfl | rfl | rfl | rfl | rfl <;> decide
theorem dg2_mem (n : Int) : ∀ c ∈ dg2 n, 48 ≤ c ∧ c ≤ 57 := by
  intro c hc
  simp only [dg2, List.mem_cons, List.not_mem_nil, or_false] at hc
  rcases hc with rfl | rfl <;> exact ⟨fig_lo _, fig_hi _⟩
theorem dg4_mem (n : Int) : ∀ c ∈ dg4 n, 48 ≤ c ∧ c ≤ 57 := by
  intro c hc
  simp only [dg4, List.mem_cons, List.not_mem_nil, or_false] at hc
  rcases hc with rfl | rfl | rfl | rfl <;> exact ⟨fig_lo _, fig_hi _⟩
theorem dgs_mem (n : Int) : ∀ c ∈ dgs n, 48 ≤ c ∧ c ≤ 57 := dgs_digits
theorem dgs_ne (n : Int) : dgs n ≠ [] := by
  unfold dgs dg2 dg3 dg4
  split
  · simp
  · split
    · simp
    · split <;> simp
/-- a clock: hours, minutes, seconds -/
noncomputable def clk (h mi sc : Int) : List Nat := joinC 58 [dg2 h, dg2 mi, dg2 sc]
theorem clk_eq (h mi sc : Int) : clk h mi sc = [fig (h / 10), fig h, 58, fig (mi / 10), fig mi, 58, fig (sc / 10), fig sc] := rfl
theorem clk_mem (h mi sc : Int) : ∀ c ∈ clk h mi sc, 48 ≤ c ∧ c ≤ 58 := by
  intro c hc
  rw [clk_eq] at hc
  have key : ∀ k, c = fig k → 48 ≤ c ∧ c ≤ 58 := fun k e => by have := fig_lo k; have := fig_hi k; omega
  simp only [List.mem_cons, List.not_mem_nil, or_false] at hc
  rcases hc with e | e | e | e | e | e | e | e <;> first | exact key _ e | omega
theorem plain_mem {l : List Nat} (h0 : l ≠ []) (h : ∀ c ∈ l, 48 ≤ c ∧ c ≤ 122) : Plain l := plain_of h0 fun c hc => by have := h c hc; omega
theorem plain_dgs (n : Int) : Plain (dgs n) := plain_mem (dgs_ne n) fun c hc => by have := dgs_mem n c hc; omega
theorem plain_dg2 (n : Int) : Plain (dg2 n) := plain_mem (by simp [dg2]) fun c hc => by have := dg2_mem n c hc; omega
theorem plain_clk (h mi sc : Int) : Plain (clk h mi sc) := plain_mem (by simp [clk_eq]) fun c hc => by have := clk_mem h mi sc c hc; omega
theorem plain_mon {m : Int} (h : 1 ≤ m ∧ m ≤ 12) : Plain (mon m) := plain_mem (by intro e; have := mon_len h; rw [e] at this; cases this) fun c hc => by have := mon_mem h c hc; omega
/-- '%d %s %04d %02d:%02d:%02d' -/
noncomputable def mailT (d m y h mi sc : Int) : List Nat := joinSp [dgs d, mon m, dg4 y, clk h mi sc]
theorem mailT_len {d m y h mi sc : Int} (hm : 1 ≤ m ∧ m ≤ 12) : (tx (mailT d m y h mi sc)).length ≤ 40 ∧ 1 ≤ (tx (mailT d m y h mi sc)).length := by
  have h1 := dgs_len d
  have h2 := mon_len hm
  rw [tx_length]
  simp [mailT, joinSp, clk, joinC, dg4, dg2, h2]
  omega
theorem colon : PySem.Str.ofString ":" = ⟨#[58]⟩ := by decide
theorem comma : PySem.Str.ofString "," = ⟨#[44]⟩ := by decide
theorem minus : PySem.Str.ofString "-" = ⟨#[45]⟩ := by decide
theorem plus : PySem.Str.ofString "+" = ⟨#[43]⟩ := by decide
theorem split_clk (h mi sc : Int) : Txt.split (tx (clk h mi sc)) ⟨#[58]⟩ = [tx (dg2 h), tx (dg2 mi), tx (dg2 sc)] := by
  unfold clk
  rw [split_c 58 _ (by simp) (by simp [joinC, dg2]) (fun p hp => ?_)]
  · rfl
  · simp only [List.mem_cons, List.not_mem_nil, or_false] at hp
    rcases hp with rfl | rfl | rfl <;> exact fun hc => by have := dg2_mem _ _ hc; omega
end Mine

end
section
open PySem PySem.W PyProof.Rows PySem.Calls PySem.Spec
open PySem.Builtin PySem.Builtin.Str PySem.NumText
set_option maxRecDepth 100000
namespace Mine
/-- signs from '0' to 'z' alone -/
noncomputable def Hi (l : List Nat) : Prop := ∀ c ∈ l, 48 ≤ c ∧ c ≤ 122
theorem hi_dgs (n : Int) : Hi (dgs n) := fun c hc => by have := dgs_mem n c hc; omega
theorem hi_dg4 (n : Int) : Hi (dg4 n) := fun c hc => by have := dg4_mem n c hc; omega
theorem hi_dg2 (n : Int) : Hi (dg2 n) := fun c hc => by have := dg2_mem n c hc; omega
theorem hi_clk (h mi sc : Int) : Hi (clk h mi sc) := fun c hc => by have := clk_mem h mi sc c hc; omega
theorem hi_mon {m : Int} (h : 1 ≤ m ∧ m ≤ 12) : Hi (mon m) := fun c hc => by have := mon_mem h c hc; omega
/-- lengths -/
noncomputable def Len (l : List Nat) : Prop := 1 ≤ l.length ∧ l.length ≤ 40
theorem len_dgs (n : Int) : Len (dgs n) := ⟨List.length_pos_iff.mpr (dgs_ne n), Nat.le_trans (dgs_len n) (by decide)⟩
theorem len_dg4 (n : Int) : Len (dg4 n) := ⟨by simp [dg4], by simp [dg4]⟩
theorem len_dg2 (n : Int) : Len (dg2 n) := ⟨by simp [dg2], by simp [dg2]⟩
theorem len_clk (h mi sc : Int) : Len (clk h mi sc) := ⟨by simp [clk_eq], by simp [clk_eq]⟩
theorem len_mon {m : Int} (h : 1 ≤ m ∧ m ≤ 12) : Len (mon m) := by unfold Len; rw [mon_len h]; decide
theorem len_lmon {m : Int} (h : 1 ≤ m ∧ m ≤ 12) : Len (lmon m) := by unfold Len lmon; rw [List.length_map, mon_len h]; decide
theorem len_mail {d m y h mi sc : Int} (hm : 1 ≤ m ∧ m ≤ 12) : Len (mailT d m y h mi sc) := by
  have := mailT_len (d := d) (y := y) (h := h) (mi := mi) (sc := sc) hm
  rw [tx_length] at this
  exact ⟨this.2, this.1⟩
theorem tr_pos {l : List Nat} (h : Len l) : 1 ≤ (tx l).length := by rw [tx_length]; exact h.1
theorem tr_len {l : List Nat} (h : Len l) : (tx l).length ≤ 40 := by rw [tx_length]; exact h.2
theorem fits_l {l : List Nat} (h : l.length ≤ 1000) : (tx l).length + 2 ≤ sizeLine := by rw [tx_length, sizeLine_eq]; omega

theorem find_c {l : List Nat} {c : Nat} {y : PySem.Str} (hy : y = ⟨#[c]⟩) (h : c ∉ l) : Txt.find (tx l) y = -1 := by rw [hy]; exact find_no h
theorem rfind_c {l : List Nat} {c : Nat} {y : PySem.Str} (hy : y = ⟨#[c]⟩) (h : c ∉ l) : Txt.rfind (tx l) y = -1 := by
  subst hy
  have q : ∀ i, ¬ StrLaws.At (tx l) ⟨#[c]⟩ (tx l).length i := fun i hi => by
    have := (StrLaws.subAt_one (tx l) c i).mp hi
    rw [tx_toList] at this
    exact h (List.mem_of_getElem? this)
  unfold Txt.rfind
  rcases StrLaws.last_spec (tx l) ⟨#[c]⟩ with ⟨e, _⟩ | ⟨i, _, hi, _⟩
  · rw [e]
  · exact absurd hi (q i)
theorem ends_c {l : List Nat} {c : Nat} {y : PySem.Str} (hy : y = ⟨#[c]⟩) (h : c ∉ l) : Txt.endswith (tx l) y = false := by
  subst hy
  unfold Txt.endswith
  by_cases hl : 1 ≤ (tx l).length
  · have q := StrLaws.subAt_one (tx l) c ((tx l).length - 1)
    rw [tx_toList] at q
    have e : (⟨#[c]⟩ : PySem.Str).length = 1 := rfl
    rw [e]
    cases z : subAt (tx l) ⟨#[c]⟩ ((tx l).length - 1) with
    | false => simp
    | true =>
      have := q.mp ⟨by rw [e]; omega, z⟩
      exact absurd (List.mem_of_getElem? this) h
  · have e : (⟨#[c]⟩ : PySem.Str).length = 1 := rfl
    rw [e]
    simp; omega
theorem hi_no {l : List Nat} {c : Nat} (h : Hi l) (hc : c < 48) : c ∉ l := fun m => by have := h c m; omega
theorem lower_hi {l : List Nat} (h : ∀ c ∈ l, c < 128) : Txt.lower (tx l) = tx (l.map lo1) := by
  rw [lower_ascii (by rw [tx_toList]; exact h)]
  simp [tx_def]
theorem lo1_fig (n : Int) : lo1 (fig n) = fig n := by
  have h1 := fig_lo n; have h2 := fig_hi n
  unfold lo1
  rw [if_neg (by omega)]
theorem up1_fig (n : Int) : up1 (fig n) = fig n := by
  have h1 := fig_lo n; have h2 := fig_hi n
  unfold up1
  rw [if_neg (by omega)]
theorem lower_dgs (n : Int) : Txt.lower (tx (dgs n)) = tx (dgs n) := by
  rw [lower_hi fun c hc => by have := dgs_mem n c hc; omega]
  congr 1
  conv => rhs; rw [← List.map_id (dgs n)]
  refine List.map_congr_left fun c hc => ?_
  have := dgs_mem n c hc
  unfold lo1
  rw [if_neg (by omega)]
  rfl
theorem lower_mon {m : Int} (h : 1 ≤ m ∧ m ≤ 12) : Txt.lower (tx (mon m)) = tx (lmon m) := by
  rcases months h with rfl | rfl | rfl | rfl | rfl | rfl | rfl | rfl | rfl | rfl | rfl | rfl <;> (rw [tx_def, tx_def]; decide +kernel)
theorem isdigit_T : ∀ k : Nat, k < 58 → 48 ≤ k → Txt.isdigit ⟨#[k]⟩ = true := by decide +kernel
theorem isdigit_fig (n : Int) : Txt.isdigit (tx [fig n]) = true := by
  rw [tx_def]
  exact isdigit_T (fig n) (Nat.lt_succ_of_le (fig_hi n)) (fig_lo n)
/-! int of a text -/
theorem val_dg2 {n : Int} (h0 : 0 ≤ n) (h1 : n < 100) : PySem.intText? (tx (dg2 n)) = some n := by
  rw [intText_digits (by rw [tx_toList]; exact dg2_mem n) (by rw [tx_toList]; simp [dg2]) (by rw [tx_length]; simp [dg2])]
  rw [tx_toList]
  congr 1
  simp only [dg2, digitsVal, List.foldl, Nat.zero_mul, Nat.zero_add]
  rw [val_two h0 h1, Int.toNat_of_nonneg h0]
theorem val_dg4 {n : Int} (h0 : 0 ≤ n) (h1 : n < 10000) : PySem.intText? (tx (dg4 n)) = some n := by
  rw [intText_digits (by rw [tx_toList]; exact dg4_mem n) (by rw [tx_toList]; simp [dg4]) (by rw [tx_length]; simp [dg4])]
  rw [tx_toList]
  congr 1
  simp only [dg4, digitsVal, List.foldl, Nat.zero_mul, Nat.zero_add]
  rw [val_four h0 h1, Int.toNat_of_nonneg h0]
theorem val_dgs {n : Int} (h0 : 0 ≤ n) (h1 : n < 10000) : PySem.intText? (tx (dgs n)) = some n := by
  have hl := dgs_len n
  rw [intText_digits (by rw [tx_toList]; exact dgs_mem n) (by rw [tx_toList]; exact dgs_ne n) (by rw [tx_length]; omega)]
  rw [tx_toList, dgs_val h0 h1]
  congr 1
  omega
end Mine
namespace Mine
open PySem PySem.W PyProof.Rows PySem.Calls PySem.Spec
theorem fit_l {x : PySem.Str} {l : List Nat} (e : x = tx l) (h : Len l) : Builtin.Str.tooLong x.length = false := by
  rw [e, tx_length]
  unfold Builtin.Str.tooLong
  exact decide_eq_false (by have := h.2; rw [sizeLine_eq]; omega)
end Mine

end
section
open PySem PySem.W PyProof.Rows PySem.Calls PySem.Spec
set_option maxRecDepth 100000
namespace Mine
noncomputable def strsOk : List Value → List (List Nat) → Bool
  | [], [] => true
  | .str x _ :: vs, y :: ys => x.cps == y.toArray && strsOk vs ys
  | _, _ => false
theorem strsOk_are : ∀ {vs : List Value} {ys : List (List Nat)}, strsOk vs ys = true → StrsAre vs (ys.map tx)
  | [], [], _ => .nil
  | .str x t :: vs, y :: ys, h => by
    rw [strsOk, Bool.and_eq_true] at h
    have e : x = tx y := by
      rw [tx_def, ← eq_of_beq h.1]
    subst e
    exact .cons _ t (strsOk_are h.2)
theorem any_tx (ys : List (List Nat)) (k : List Nat) : (ys.map tx).any (· == tx k) = ys.contains k := by
  induction ys with
  | nil => rfl
  | cons y r ih =>
    rw [List.map_cons, List.any_cons, ih, List.contains_cons]
    have e : (tx y == tx k) = (k == y) := by
      by_cases h : y = k
      · rw [h, beq_self_eq_true, beq_self_eq_true]
      · rw [beq_eq_false_iff_ne.mpr (fun e => h (tx_inj e)), beq_eq_false_iff_ne.mpr (Ne.symm h)]
    rw [e]
section
variable {prog : Program} {w : World} {A : Around} {E : Value → Shared → Prop} {s : Shared} {K : Frag} {h₀ : Heap} {L : Addr} {m : Str → Option Value} {l : Addr} {vs : List Value} {n0 : Nat} {k : List Nat} {t : Tok} {Q : Value → Shared → Prop} {ys : List (List Nat)} {b : Bool}
theorem in_strsK (ys : List (List Nat)) (F : Fr h₀ L s.heap m) (X : K.In h₀) (ho : K.lookup l = some ⟨.type "list", none, .seq vs.toArray n0, #[]⟩) (hs : strsOk vs ys = true) (hb : ys.contains k = b) (h : Q (.bool b) s) :
    wpAny (model prog w) A (compareOp .In (.str (tx k) t) (.ref l)) Q E s :=
  in_list_strs ⟨_, (X.keeps F.keep) _ _ ho, rfl, n0, rfl⟩ (strsOk_are hs) (by rw [any_tx, hb]; exact h)
theorem notin_strsK (ys : List (List Nat)) (F : Fr h₀ L s.heap m) (X : K.In h₀) (ho : K.lookup l = some ⟨.type "list", none, .seq vs.toArray n0, #[]⟩) (hs : strsOk vs ys = true) (hb : ys.contains k = b) (h : Q (.bool (!b)) s) :
    wpAny (model prog w) A (compareOp .NotIn (.str (tx k) t) (.ref l)) Q E s :=
  notin_list_strs ⟨_, (X.keeps F.keep) _ _ ho, rfl, n0, rfl⟩ (strsOk_are hs) (by rw [any_tx, hb]; exact h)
theorem strs_len : ∀ {vs : List Value} {ys : List Str}, StrsAre vs ys → vs.length = ys.length
  | _, _, .nil => rfl
  | _, _, .cons _ _ h => by rw [List.length_cons, List.length_cons, strs_len h]
theorem isStr_at (k : Str) : ∀ {vs : List Value} {ys : List Str} (_ : StrsAre vs ys) (j : Nat) (h1 : j < vs.length) (h2 : j < ys.length), isStrOf k vs[j] = (ys[j] == k)
  | _, _, .cons _ _ _, 0, _, _ => rfl
  | _, _, .cons _ _ h, j + 1, h1, h2 => isStr_at k h j (by simpa using h1) (by simpa using h2)
theorem index_strsK (ys : List (List Nat)) (F : Fr h₀ L s.heap m) (X : K.In h₀) (ho : K.lookup l = some ⟨.type "list", none, .seq vs.toArray n0, #[]⟩) (hs : strsOk vs ys = true) {j : Nat} (hj : ys.idxOf k = j) (hk : j < ys.length) (hz : ys.length ≤ 1000)
    (h : Q (.int (j : Nat) s.toks) { s with toks := s.toks + 1 }) :
    wpAny (model prog w) A (call (.builtin "list.index") [.ref l, .str (tx k) t]) Q E s := by
  have ho' := (X.keeps F.keep) _ _ ho
  have hi := strsOk_are hs
  have hl := strs_len hi
  rw [List.length_map] at hl
  refine call_meets PySem.F.slot_list_index ⟨_, ho', rfl⟩ PySem.F.entry_list_index (PySem.F.args_list_index_2 _ _)
    (MeetsSeq.list_index l vs.toArray n0 (.str (tx k) t) (isStrOf (tx k)) (fun y hy => eq_isStrOf (tx k) t hi y (by simpa using hy)) j (by simpa [hl] using hk) (by omega) ?_ ?_) ⟨ho', h⟩
  · show isStrOf (tx k) vs[j] = true
    rw [isStr_at (tx k) hi j (by omega) (by simpa using hk)]
    have : ys[j] = k := by
      subst hj
      exact List.getElem_idxOf hk
    simp [this]
  · intro i his hlt
    show isStrOf (tx k) vs[i] = false
    have hiy : i < ys.length := by omega
    rw [isStr_at (tx k) hi i (by simpa using his) (by simpa using hiy)]
    have : ys[i] ≠ k := by
      subst hj
      intro e
      have := List.not_of_lt_findIdx (p := (· == k)) (xs := ys) (i := i) hlt
      simp [e] at this
    have : tx ys[i] ≠ tx k := fun e => this (tx_inj e)
    simpa using this
end
/-- the months' names, small, and long -/
noncomputable def mnTab : List (List Nat) := [[106, 97, 110], [102, 101, 98], [109, 97, 114], [97, 112, 114], [109, 97, 121], [106, 117, 110], [106, 117, 108], [97, 117, 103], [115, 101, 112], [111, 99, 116], [110, 111, 118], [100, 101, 99],
  [106, 97, 110, 117, 97, 114, 121], [102, 101, 98, 114, 117, 97, 114, 121], [109, 97, 114, 99, 104], [97, 112, 114, 105, 108], [109, 97, 121], [106, 117, 110, 101], [106, 117, 108, 121], [97, 117, 103, 117, 115, 116], [115, 101, 112, 116, 101, 109, 98, 101, 114], [111, 99, 116, 111, 98, 101, 114], [110, 111, 118, 101, 109, 98, 101, 114], [100, 101, 99, 101, 109, 98, 101, 114]]
noncomputable def dyTab : List (List Nat) := [[109, 111, 110], [116, 117, 101], [119, 101, 100], [116, 104, 117], [102, 114, 105], [115, 97, 116], [115, 117, 110]]
theorem lmon_in {m : Int} (h : 1 ≤ m ∧ m ≤ 12) : mnTab.contains (lmon m) = true := by
  rcases months h with rfl | rfl | rfl | rfl | rfl | rfl | rfl | rfl | rfl | rfl | rfl | rfl <;> decide
theorem lmon_idx {m : Int} (h : 1 ≤ m ∧ m ≤ 12) : mnTab.idxOf (lmon m) = (m - 1).toNat := by
  rcases months h with rfl | rfl | rfl | rfl | rfl | rfl | rfl | rfl | rfl | rfl | rfl | rfl <;> decide
theorem not_in_of_head {tab : List (List Nat)} (ht : tab.all (fun y => y.all (fun c => decide (97 ≤ c))) = true) {l : List Nat} {c : Nat} (hc : c ∈ l) (hl : c < 97) : tab.contains l = false := by
  cases q : tab.contains l with
  | false => rfl
  | true =>
    exfalso
    have hm : l ∈ tab := List.contains_iff_mem.mp q
    have h1 := List.all_eq_true.mp ht l hm
    have h2 := List.all_eq_true.mp h1 c hc
    have := of_decide_eq_true h2
    omega
theorem dgs_last (n : Int) : fig n ∈ dgs n := by
  unfold dgs dg2 dg3 dg4
  split
  · simp
  · split
    · simp
    · split <;> simp
theorem dgs_not {tab : List (List Nat)} (ht : tab.all (fun y => y.all (fun c => decide (97 ≤ c))) = true) (n : Int) : tab.contains (dgs n) = false := not_in_of_head ht (dgs_last n) (by have := fig_hi n; omega)
theorem assign_list_eq (ts : List PySem.Expr) (p : Pos) (env : Env) (v : Value) : assign (.List ts p) env v = assign (.Tuple ts 0 p) env v := by
  conv => lhs; rw [assign.eq_def]
  conv => rhs; rw [assign.eq_def]
theorem Assign_List {M : Model} {A : Around} {E : Value → Shared → Prop} {s : Shared} {env : Env} {elts : List PySem.Expr} {tpos pos : Pos} {value : PySem.Expr} {Q : Flow → Shared → Prop}
    (h : wpAny M A (eval value env) (fun v s₁ => wpAny M A (assign (.Tuple elts 0 tpos) env v) (fun _ => Q .next) E s₁) E s)
    (hs : swapsWithSole [.List elts tpos] value pos.line env = pure false := by rfl)
    (hw : swappedStores [.List elts tpos] value env = pure none := by rfl) :
    wpAny M A (exec (.Assign [.List elts tpos] value pos) env) Q E s := by
  rw [exec_Assign]
  refine wpAny_bind (wpAny_standAt ?_)
  rw [hs]
  refine wpAny_bind (wpAny_pure ?_)
  rw [if_neg (by decide)]
  refine wpAny_bind (wpAny_mono h (fun v s₁ h₁ => ?_) fun _ _ x => x)
  rw [hw]
  refine wpAny_bind (wpAny_pure ?_)
  show wpAny M A (do assignAll v [assign (.List elts tpos) env]; pure .next) Q E s₁
  rw [show assign (.List elts tpos) env = assign (.Tuple elts 0 tpos) env from funext fun v => assign_list_eq elts tpos env v]
  exact wpAny_bind (wpAny_mono h₁ (fun _ _ x => wpAny_pure x) fun _ _ x => x)
theorem index_method {prog : Program} {w : World} {A : Around} {E : Value → Shared → Prop} {s : Shared} {K : Frag} {h₀ : Heap} {L : Addr} {m : Str → Option Value} {l : Addr} {vs : Array Value} {n0 : Nat} {pl : Sem Bool} {Q : Value × List Value → Shared → Prop}
    (F : Fr h₀ L s.heap m) (X : K.In h₀) (ho : K.lookup l = some ⟨.type "list", none, .seq vs n0, #[]⟩) (h : Q (.builtin "list.index", [.ref l]) s) : wpAny (model prog w) A (getMethod (.ref l) "index" pl) Q E s :=
  getMethod_builtin ⟨_, (X.keeps F.keep) _ _ ho, rfl⟩ PySem.F.plainAttrs_list PySem.F.slot_list_index PySem.F.type_list_index (fun a e => by cases e; exact ⟨_, (X.keeps F.keep) _ _ ho, rfl⟩) h
section
variable {prog : Program} {w : World} {A : Around} {E : Value → Shared → Prop} {s : Shared} {value slice : PySem.Expr} {l : List Nat} {t u : Tok} {Q : Value → Shared → Prop} {c : Nat}
theorem item_at_tx {i : Int} {j : Nat} (hi : seqIndex? i l.length = some j) (hc : l[j]? = some c) : Txt.item (tx l) i = tx [c] := by
  have hl : (tx l).length = l.length := tx_length l
  unfold Txt.item Txt.charAt
  rw [hl, hi]
  have hj : j < l.length := (List.getElem?_eq_some_iff.mp hc).1
  have hv : l[j] = c := (List.getElem?_eq_some_iff.mp hc).2
  simp [tx_def, hj, hv]
theorem item_last_tx (hl : l.getLast? = some c) (hz : l.length ≤ 1000) (h : ∀ t', Q (.str (tx [c]) t') { s with toks := s.toks + 1 })
    (hs : subscripted slice false (.str (tx l) t) (.int (-1) u) = operate [.str (tx l) t, .int (-1) u] (getItem (.str (tx l) t) (.int (-1) u)) := by with_unfolding_all rfl)
    (ht : ∀ r, letTemporaryGo value (.str (tx l) t) r = pure () := by intro _; with_unfolding_all rfl) :
    wpAny (model prog w) A (subscriptTail value slice (.str (tx l) t) (.int (-1) u)) Q E s := by
  have h0 : l ≠ [] := by intro e; rw [e] at hl; cases hl
  have hlen : 0 < l.length := List.length_pos_iff.mpr h0
  refine item_str (by decide) (by rw [tx_length]; omega) (by rw [tx_length]; omega) (fun _ => ?_) hs ht
  rw [item_at_tx (j := l.length - 1) (c := c) ?_ ?_]
  · exact h _
  · unfold seqIndex?
    have e1 : (if (-1 : Int) < 0 then (-1 : Int) + (l.length : Int) else -1) = (l.length : Int) - 1 := by rw [if_pos (by decide)]; omega
    simp only [e1]
    rw [if_pos (by simp; omega)]
    congr 1
    omega
  · rw [← List.getLast?_eq_getElem?]; exact hl
theorem item_first_tx (hl : l.head? = some c) (hz : l.length ≤ 1000) (h : ∀ t', Q (.str (tx [c]) t') { s with toks := s.toks + 1 })
    (hs : subscripted slice false (.str (tx l) t) (.int 0 u) = operate [.str (tx l) t, .int 0 u] (getItem (.str (tx l) t) (.int 0 u)) := by with_unfolding_all rfl)
    (ht : ∀ r, letTemporaryGo value (.str (tx l) t) r = pure () := by intro _; with_unfolding_all rfl) :
    wpAny (model prog w) A (subscriptTail value slice (.str (tx l) t) (.int 0 u)) Q E s := by
  have h0 : l ≠ [] := by intro e; rw [e] at hl; cases hl
  have hlen : 0 < l.length := List.length_pos_iff.mpr h0
  refine item_str (by decide) (by rw [tx_length]; omega) (by rw [tx_length]; omega) (fun _ => ?_) hs ht
  rw [item_at_tx (j := 0) (c := c) ?_ ?_]
  · exact h _
  · exact StrLaws.seqIndex_nonneg (by decide) (by omega)
  · rw [← List.head?_eq_getElem?]; exact hl
theorem tx_beq (l : List Nat) (y : Str) : (tx l == y) = (l == y.cps.toList) := by
  by_cases h : tx l = y
  · subst h; rw [tx_toList, beq_self_eq_true, beq_self_eq_true]
  · have : l ≠ y.cps.toList := fun e => h (by rw [e]; exact (tx_of y).symm)
    rw [beq_eq_false_iff_ne.mpr h, beq_eq_false_iff_ne.mpr this]
theorem eq_tx {l : List Nat} {y : Str} {b : Bool} (h : (l == y.cps.toList) = b) (hq : Q (.bool b) s) : wpAny (model prog w) A (compareOp .Eq (.str (tx l) t) (.str y u)) Q E s :=
  eq_str (by rw [tx_beq, h]; exact hq)
end
theorem fig_ne {n : Int} {c : Nat} {y : Str} (hy : y = ⟨#[c]⟩) (hc : c < 48 ∨ 57 < c) : ([fig n] == y.cps.toList) = false := by
  subst hy
  have h1 := fig_lo n; have h2 := fig_hi n
  have : fig n ≠ c := by omega
  simp [this]
theorem dgs_getLast (n : Int) : (dgs n).getLast? = some (fig n) := by
  unfold dgs dg2 dg3 dg4
  split
  · rfl
  · split
    · rfl
    · split <;> rfl
theorem len1000 {l : List Nat} (h : Len l) : l.length ≤ 1000 := Nat.le_trans h.2 (by decide)
theorem dg4_last (n : Int) : (dg4 n).getLast? = some (fig n) := rfl
theorem dg2_last (n : Int) : (dg2 n).getLast? = some (fig n) := rfl
theorem clk_last (h mi sc : Int) : (clk h mi sc).getLast? = some (fig sc) := rfl
theorem dg4_head (n : Int) : (dg4 n).head? = some (fig (n / 1000)) := rfl
theorem dg2_head (n : Int) : (dg2 n).head? = some (fig (n / 10)) := rfl
theorem split_clk2 (h mi sc : Int) : Txt.split (tx (clk h mi sc)) (Str.ofString ":") = [tx (dg2 h), tx (dg2 mi), tx (dg2 sc)] := by
  rw [colon, split_clk]
theorem find_col4 (n : Int) : Txt.find (tx (dg4 n)) (Str.ofString ":") = -1 := find_c colon fun hc => by have := dg4_mem n _ hc; omega
theorem len1000' {l : List Nat} (h : Len l) : (tx l).length ≤ 40 := tr_len h
end Mine

end
section
open PySem PySem.W PyProof.Rows PySem.Calls PySem.Spec
set_option maxRecDepth 100000
namespace Mine
noncomputable abbrev frs (l : List Env) : List Addr := l.filterMap (·.frame)
theorem frs_mem {env : Env} {outer : List Env} {L b : Addr} (hf : env.frame = some L) (hm : b ∈ frs (env :: outer)) : b = L ∨ b ∈ frs outer := by
  obtain ⟨e, he, h⟩ := List.mem_filterMap.mp hm
  rcases List.mem_cons.mp he with rfl | he
  · exact .inl (Option.some.inj (hf.symm.trans h)).symm
  · exact .inr (List.mem_filterMap.mpr ⟨e, he, h⟩)
/-- what a call's body leaves where the ground may have turned -/
noncomputable def LeaveT (fs : List Addr) (g : Heap) (s : Shared) (args : List (Addr × Obj)) (ok : Value → List (Addr × Obj) → Prop) (v : Value) (s' : Shared) : Prop :=
  s' = { s with heap := s'.heap, toks := s'.toks } ∧ ∃ g' L' m' news' new, KtsTurn fs g g' ∧ Fr g' L' s'.heap m' ∧ News g' L' s'.heap news' ∧ (∀ q ∈ args, q ∈ news') ∧ (∀ q ∈ new, q ∈ news') ∧ (∀ q ∈ new, ∀ p ∈ args, q.1 ≠ p.1) ∧ ok v new
theorem leaveT_intro {fs : List Addr} {g g' h : Heap} {s : Shared} {args : List (Addr × Obj)} {ok : Value → List (Addr × Obj) → Prop} {v : Value} {tk : Nat} {L' : Addr} {m' : Str → Option Value} {news' : List (Addr × Obj)}
    (T : KtsTurn fs g g') (F : Fr g' L' h m') (N : News g' L' h news') (ha : ∀ q ∈ args, q ∈ news') (new : List (Addr × Obj)) (hn : ∀ q ∈ new, q ∈ news') (hne : ∀ q ∈ new, ∀ p ∈ args, q.1 ≠ p.1) (ho : ok v new) :
    LeaveT fs g s args ok v { s with heap := h, toks := tk } := ⟨rfl, g', L', m', news', new, T, F, N, ha, hn, hne, ho⟩
section
variable {prog : Program} {w : World} {A₀ A : Around} {E : Value → Shared → Prop} {s : Shared} {base h₀ : Heap} {outer : List Env} {L : Addr} {m : Str → Option Value} {env : Env} {args : List (Addr × Obj)} {K : Frag}
  {name qual : Str} {params : Arguments} {body : List Stmt} {scope : Scope} {dV kV doc pm cdv ct oc : Value} {an od : Option Addr} {osl : Array (Option Value)} {f : Addr} {vals : List Value} {binds : List (Str × Value)}
  {p : Program} {loose : List Str} {mean : ExcName → Option Value} {mg mb : Str → Option Value} {Q : Value → Shared → Prop} {news : List (Addr × Obj)} {ok : Value → List (Addr × Obj) → Prop}
theorem fnT_enter (B : Below A₀ base outer h₀) (F : Fr h₀ L s.heap m) (X₀ : K.In h₀) (N : News h₀ L s.heap news) (T : Top p loose mean mg mb h₀) (XB : K.In base) (TB : Top p loose mean mg mb base) (D : KtsDicts (frs outer) h₀)
    (hargs : ∀ q ∈ args, q ∈ news) (hA : A.frames = some (env :: outer)) (hf : env.frame = some L) (hke : env.scope.kind = .function)
    (ret : ∀ h₀' v new h' tk', KtsTurn (frs outer) h₀ h₀' → Fr h₀' L h' m → News h₀' L h' (new ++ news) → Below A₀ base outer h₀' → K.In h₀' → Top p loose mean mg mb h₀' → KtsDicts (frs outer) h₀' → (∀ q ∈ new, ∀ p ∈ news, p.1 ≠ q.1) → ok v new → Q v { s with heap := h', toks := tk' })
    (ho : K.lookup f = some ⟨oc, od, .func (fnOf name qual params body scope dV kV doc pm an cdv ct), osl⟩) (hcd : codeIn K cdv qual = true) (hroom : A.depth < recursionLimit)
    (hbind : BindsTo s (fnOf name qual params body scope dV kV doc pm an cdv ct) ⟨vals, []⟩ binds) (hloc : ∀ y ∈ binds, scope.names.lookup y.1 = some .local)
    (h : ∀ g L' h₁, Fr h₀ L g m → Fr g L' h₁ (fun y => binds.reverse.lookup y) → News g L' h₁ args → Below A base (env :: outer) g → K.In g → Top p loose mean mg mb g → K.In base → Top p loose mean mg mb base → KtsDicts (frs (env :: outer)) g →
      wpAny (model prog w) (A.deeper (envOf qual scope L' f cdv)) (execs body (envOf qual scope L' f cdv))
        (fun fl s' => LeaveT (frs (env :: outer)) g s args ok (match fl with | .ret v => v | _ => .none) s')
        (fun e s' => wpAny (model prog w) (A.deeper (envOf qual scope L' f cdv)) (leaving (envOf qual scope L' f cdv) e) (fun _ s'' => E e s'') (fun e' s'' => E e' s'') s')
        { s with heap := h₁, toks := s.toks + binds.length })
    (hco : scope.isCoroutine = false) (hgen : scope.isGenerator = false) (hk : scope.kind = .function)
    (hcell : ∀ x ∈ scope.names, x.2 ≠ .cell) : wpAny (model prog w) A (call (.ref f) vals) Q E s := by
  refine wpAny_call ?_
  have N₁ : News h₀ L s.heap args := fun q hq => N q (hargs q hq)
  obtain ⟨FG, BG, st, lv⟩ := groundX (R := fun _ _ => True) B F N₁ hA hf hke
  obtain ⟨oL, es, ep, hL, hLd, hLk, hLf⟩ := F.ns
  have nL : L ∉ args.map (·.1) := fun q => by
    obtain ⟨p, hp, e⟩ := List.mem_map.mp q
    exact (N₁ p hp).2.1 e
  have hLg := hideAll_get (args.map (·.1)) hL nL
  have nL₀ : h₀.get? L = none := kts_self F
  refine codeAny_call_def (fd := fnOf name qual params body scope dV kV doc pm an cdv ct) (body := body) (binds := binds) hroom ((X₀.keeps F.keep) _ _ ho) rfl (T.nolimit.keeps F.keep) (codeRec_of (X₀.keeps F.keep) hcd) rfl hbind hcell hloc (fun h₁ hns hk₁ => ?_) hco hgen hk
  refine wpAny_mono (h _ s.heap.objs.size h₁ FG ⟨hns, fun b o e => hk₁ b o (of_hideAll _ e), Nat.le_of_eq (hideAll_size _ _)⟩
    (fun q hq => ⟨hk₁ _ _ (N₁ q hq).1, Nat.ne_of_lt (Heap.lt_size (N₁ q hq).1), hideAll_none _ (List.mem_map_of_mem hq)⟩) BG (X₀.keeps st) (T.keeps st) XB TB (fun b hb => by
      rcases frs_mem hf hb with rfl | hb
      · exact ⟨oL, es, ep, hLg, hLd⟩
      · obtain ⟨o, es', n', ho', hd'⟩ := D b hb
        exact ⟨o, es', n', st b o ho', hd'⟩)) (fun fl s' hl => ?_) fun _ _ y => y
  obtain ⟨hs, g', L', m', news', new, T', F', N', ha, hn, hne, hok⟩ := hl
  rw [hs]
  obtain ⟨sl, hsl⟩ := T'.up hLg
  have nfr : ∀ b, h₀.get? b = none → b ≠ L → b ∉ frs (env :: outer) := fun b e n hm => by
    rcases frs_mem hf hm with z | z
    · exact n z
    · obtain ⟨o, _, _, ho', _⟩ := D b z
      rw [e] at ho'; cases ho'
  have hgo : ∀ q ∈ news, q.1 ∉ args.map (·.1) → g'.get? q.1 = some q.2 := fun q hq hm => T'.other _ _ (hideAll_get _ (N q hq).1 hm) (nfr _ (N q hq).2.2 (N q hq).2.1)
  have hold : ∀ q ∈ news, s'.heap.get? q.1 = some q.2 := fun q hq => by
    by_cases hm : q.1 ∈ args.map (·.1)
    · obtain ⟨q', hq', e⟩ := List.mem_map.mp hm
      have h1 := (N' q' (ha q' hq')).1
      have h2 := (N₁ q' hq').1
      rw [e] at h1 h2
      have h3 := (N q hq).1
      rw [h2] at h3
      rw [h1, h3]
    · exact F'.keep _ _ (hgo q hq hm)
  have hfresh : ∀ q ∈ new, ∀ p ∈ news, p.1 ≠ q.1 := fun q hq p hp e => by
    by_cases hm : p.1 ∈ args.map (·.1)
    · obtain ⟨p', hp', e'⟩ := List.mem_map.mp hm
      exact hne q hq p' hp' (by rw [e', e])
    · have := (N' q (hn q hq)).2.2
      rw [← e, hgo p hp hm] at this
      cases this
  obtain ⟨T₁, S₁⟩ := kts_turn_at (h := s'.heap) (fs := frs outer) (g := h₀)
    (fun b hb => by
      obtain ⟨o, _, _, ho', _⟩ := D b hb
      exact ⟨o, ho'⟩)
    (fun b o e nmem => F'.keep b o (T'.other b o (st b o e) (fun q => by
      rcases frs_mem hf q with z | z
      · rw [z, nL₀] at e
        cases e
      · exact nmem z)))
    (fun b o e hm => by
      obtain ⟨sl', hs'⟩ := T'.up (st b o e)
      exact ⟨sl', F'.keep _ _ hs'⟩)
  have B₃ : Below A₀ base outer (ktsHeap s'.heap (frs outer) h₀) := ⟨B.stack, fun b o e => T₁.other b o (B.stays b o e) (fun hm => by
    rw [(B.frames.mem hm).1] at e
    cases e), B.frames.of_keeps fun b o e _ => by
    obtain ⟨sl', hs'⟩ := T₁.up e
    exact ⟨_, hs', rfl⟩⟩
  refine ret _ _ new _ _ T₁ ⟨⟨_, es, ep, F'.keep _ _ hsl, hLd, hLk, hLf⟩, S₁, by rw [T₁.size]; exact F.above⟩ (fun q hq => ?_) B₃ (XB.keeps B₃.stays) (TB.keeps B₃.stays) (D.turn T₁) hfresh hok
  rcases List.mem_append.mp hq with hq | hq
  · refine ⟨(N' q (hn q hq)).1, fun z => ?_, T₁.none_ _ ?_⟩
    · have := (N' q (hn q hq)).2.2; rw [z, hsl] at this; cases this
    · cases z : h₀.get? q.1 with
      | none => rfl
      | some o =>
        obtain ⟨sl', hs'⟩ := T'.up (st _ _ z)
        have := (N' q (hn q hq)).2.2
        rw [hs'] at this
        cases this
  · exact ⟨hold q hq, (N q hq).2.1, T₁.none_ _ (N q hq).2.2⟩
end

/-- a def's contract where an exception may be caught on the way -/
noncomputable def FnT (prog : Program) (w : World) (K : Frag) (d : Nat) (f : Addr) (args : List (Addr × Obj)) (vs : List Value) (ok : Value → List (Addr × Obj) → Prop) : Prop :=
  ∀ (p : Program) (loose : List Str) (mean : ExcName → Option Value) (mg mb : Str → Option Value) (dp un : Nat) (gd : Option (List Code)) (cn : Str) (cs : Scope) (a : Addr) (ccd : Value) (cl : List (Str × Addr)) (outer : List Env) (A₀ : Around) (base h₀ : Heap) (L : Addr) (m : Str → Option Value) (s : Shared) (Q E : Value → Shared → Prop) (news : List (Addr × Obj)),
    Below A₀ base outer h₀ → Fr h₀ L s.heap m → K.In h₀ → News h₀ L s.heap news → Top p loose mean mg mb h₀ → K.In base → Top p loose mean mg mb base → KtsDicts (frs outer) h₀ → cs.kind = .function → (∀ q ∈ args, q ∈ news) → dp + d < recursionLimit → un + 12 * d < cLine →
    (∀ h₀' v new h' tk', KtsTurn (frs outer) h₀ h₀' → Fr h₀' L h' m → News h₀' L h' (new ++ news) → Below A₀ base outer h₀' → K.In h₀' → Top p loose mean mg mb h₀' → KtsDicts (frs outer) h₀' → (∀ q ∈ new, ∀ p ∈ news, p.1 ≠ q.1) → ok v new → Q v { s with heap := h', toks := tk' }) →
    wpAny (model prog w) (ktrTop dp un gd cn cs L a ccd cl outer) (call (.ref f) vs) Q E s
theorem turn_nil {h₀ h₀' : Heap} (T : KtsTurn [] h₀ h₀') : h₀.StaysIn h₀' := fun b o e => T.other b o e (fun h => nomatch h)
end Mine

end
section
open PySem PySem.W PyProof.Rows PySem.Calls PySem.Spec
set_option maxRecDepth 100000
namespace Mine
section
variable {M : Model} {A : Around} {E : Value → Shared → Prop} {s : Shared}
theorem note_firstW {base : Heap} {env : Env} {outer : List Env} {L e : Addr} {oe : Obj} {vs : Array Value} {a0 : Value} {Q : Unit → Shared → Prop}
    (hfr : A.frames = some (env :: outer)) (hl : s.heap.FunFrames base (env :: outer)) (hf : env.frame = some L)
    (he : s.heap.get? e = some oe) (hkb : base.StaysIn s.heap) (hen : base.get? e = none) (hd : oe.data = .fields vs) (h1 : vs[1]? = some .none) (h0 : vs[0]? = some a0)
    (h : ∀ h', Heap.NotedW base (env :: outer) e oe.cls a0 (rawInt L) s.heap h' → Q () { s with heap := h' }) : wpAny M A (noteFrame (.ref e) env) Q E s := by
  unfold noteFrame
  simp only [hf]
  refine wpAny_bind (wpAny_field he hd h1 ?_)
  rw [if_neg (by decide)]
  exact wpAny_entryW hfr hl hf he hkb hen hd (Array.getElem?_eq_some_iff.mp h1).1 h0 h
end
section
variable {prog : Program} {w : World} {A₀ : Around} {E : Value → Shared → Prop} {s' : Shared} {base g g₀ h : Heap} {outer : List Env} {L a e : Addr} {m : Str → Option Value} {name : Str} {scope : Scope} {cd : Value}
  {b₀ : Stmt} {suite : List Stmt} {pos np : Pos} {rest : List ExceptHandler} {Q : Flow → Shared → Prop} {news : List (Addr × Obj)} {KF : Frag}
  {p : Program} {loose : List Str} {mean : ExcName → Option Value} {mg mb : Str → Option Value} {x : Str} {X T' : String}
/-- an exception that the frame's own code raises, caught by the frame's own clause; the ground may turn -/
theorem caught_own (hx : Heap.NewExc h s'.heap e X) (F : Fr g L h m) (N : News g L h news) (K : Below A₀ base outer g) (XB : KF.In base) (TB : Top p loose mean mg mb base)
    (D : KtsDicts (outer.filterMap (·.frame)) g) (T0 : KtsTurn (outer.filterMap (·.frame)) g₀ g)
    (ex : nsIn KF mainGlobals x = some none) (hv : bootBuiltins x = some (.type T')) (hn' : x ≠ "__name__")
    (hexc : isSubtype (.type T') (.type "BaseException") = pure true) (hnt : isSubtype (.type ((Manifest.find? T').elim "type" fun y => y.metatype)) (.type "tuple") = pure false) (hsub : isSubtype (.type X) (.type T') = pure true)
    (k : ∀ h' g', KtsTurn (outer.filterMap (·.frame)) g₀ g' → Fr g' L h' m → News g' L h' news → Below A₀ base outer g' → KF.In g' → Top p loose mean mg mb g' → KtsDicts (outer.filterMap (·.frame)) g' →
      wpAny (model prog w) ((A₀.deeper (envOf name scope L a cd)).mark (some (.ref e))) (execs (b₀ :: suite) (envOf name scope L a cd)) Q E { s' with heap := h' })
    (hk : scope.kind = .function := by rfl) (hxx : (envOf name scope L a cd).kindOf x = some .globalImplicit := by rfl) (hd : (x == ("__debug__" : Str)) = false := by decide)
    (hE : PassesOwnAt (model prog w) ((A₀.deeper (envOf name scope L a cd)).mark (some (.ref e))) (A₀.deeper (envOf name scope L a cd)) (envOf name scope L a cd) E := by passes_own) :
    wpAny (model prog w) (A₀.deeper (envOf name scope L a cd)) (noteFrame (.ref e) (envOf name scope L a cd))
      (fun _ s₂ => wpAny (model prog w) (A₀.deeper (envOf name scope L a cd)) (setFlight (.ref e) none) (fun _ s₃ =>
        wpAny (model prog w) (A₀.deeper (envOf name scope L a cd)) (handleBy (.ref e) (envOf name scope L a cd) (.ExceptHandler (some (.Name x np)) none (b₀ :: suite) pos :: rest)) Q E s₃) E s₂) E s' := by
  have K' := K.push (name := name) (a := a) (cd := cd) F hk
  have hin : ∀ env ∈ (envOf name scope L a cd :: outer), ∀ b, env.frame = some b → b ∈ (envOf name scope L a cd :: outer).filterMap (·.frame) := fun env he b hb => List.mem_filterMap.mpr ⟨env, he, hb⟩
  have st : base.StaysIn (hideAll h ((envOf name scope L a cd :: outer).filterMap (·.frame))) := fun b o q => hideAll_get _ (K'.stays b o q) fun hm => by
    rw [(K'.frames.mem hm).1] at q; cases q
  have hBG : ∀ b o, h.get? b = some o → b ∉ (envOf name scope L a cd :: outer).filterMap (·.frame) → (hideAll h ((envOf name scope L a cd :: outer).filterMap (·.frame))).get? b = some o := fun b o q nm => hideAll_get _ q nm
  have hl : ∀ q ∈ news, (hideAll h ((envOf name scope L a cd :: outer).filterMap (·.frame))).get? q.1 = some q.2 := fun q hq => by
    refine hideAll_get _ (N q hq).1 fun hm => ?_
    obtain ⟨env, he, hf⟩ := List.mem_filterMap.mp hm
    rcases List.mem_cons.mp he with rfl | he
    · exact (N q hq).2.1 (Option.some.inj hf).symm
    · obtain ⟨o, ho, _⟩ := (K.frames.mem (List.mem_filterMap.mpr ⟨env, he, hf⟩)).2
      rw [(N q hq).2.2] at ho; cases ho
  have hL : (hideAll h ((envOf name scope L a cd :: outer).filterMap (·.frame))).get? L = none := hideAll_none _ (hin _ (.head _) L rfl)
  obtain ⟨ob, tp, he, hcls, hdd⟩ := hx.there
  have hen : (hideAll h ((envOf name scope L a cd :: outer).filterMap (·.frame))).get? e = none := by
    cases q : (hideAll h ((envOf name scope L a cd :: outer).filterMap (·.frame))).get? e with
    | none => rfl
    | some o => have := of_hideAll _ q; rw [hx.new] at this; cases this
  refine note_firstW (a0 := tp) (Around.frames_deeper K.stack) ((funFrames_hide K'.frames hin).of_keeps fun b o hb _ => ⟨o, hx.keeps b o hb, rfl⟩) rfl he (fun b o hb => hx.keeps b o (of_hideAll _ hb)) hen hdd rfl rfl fun h₄ hN => ?_
  obtain ⟨k1, k2, k3, k4⟩ := hN
  rw [hcls] at k3
  have hheld₄ : Heap.HeldW (hideAll h ((envOf name scope L a cd :: outer).filterMap (·.frame))) (envOf name scope L a cd :: outer) e (.type X) tp L h₄ := ⟨k1, hen, k2, k3⟩
  have hsm₄ : h.UpToSlots h₄ := (Heap.UpToSlots.of_keeps hx.keeps).trans k4
  refine wpAny_landsW hheld₄ fun h₅ hheld hsm₅' => ?_
  have hsm₅ := hsm₄.trans hsm₅'
  obtain ⟨g₅, T₅, F₅, K₅⟩ := kts_ground K F hBG hheld.1 hsm₅
  have X₅ : KF.In g₅ := XB.keeps K₅.stays
  have P₅ : TopRead p loose mg mb g₅ := topRead_of (TB.keeps K₅.stays)
  obtain ⟨ob, hob, hobc⟩ := hheld.there
  refine wpAny_handleBy_builtin (X := X) (T := T') (b := true) hexc hnt hsub (name_B F₅ X₅ P₅ ex hv hn' ⟨rfl, ⟨ob, hob, hobc⟩, ?_⟩ hk hxx hd)
  refine lands_againW hheld fun h₆ hfl₆ hsm₆ => ?_
  obtain ⟨g₆, T₆, F₆, K₆⟩ := kts_ground K F hBG hfl₆.1 (hsm₅.trans hsm₆)
  have Nl : News g₆ L h₆ news := fun q hq => ⟨hfl₆.1 _ _ (hl q hq), (fun z => by have := hl q hq; rw [z, hL] at this; cases this), T₆.none_ _ (N q hq).2.2⟩
  have X₆ : KF.In g₆ := XB.keeps K₆.stays
  have P₆ : Top p loose mean mg mb g₆ := TB.keeps K₆.stays
  have D₆ : KtsDicts (outer.filterMap (·.frame)) g₆ := D.turn T₆
  exact wpAny_passesOwnAt hE (k h₆ g₆ (T0.trans T₆) F₆ Nl K₆ X₆ P₆ D₆)
end
end Mine

end
section
open PySem PySem.W PyProof.Rows PySem.Calls PySem.Spec
set_option maxRecDepth 100000
namespace Mine
section
variable {α β : Type} {M : Model} {A : Around} {E : Value → Shared → Prop} {s : Shared} {env : Env}
theorem wpC_keep {vs : List Value} {m : Sem α} {Q : α → Shared → Prop} (h : wpC M A m Q E s) : wpC M A (m.keep vs) Q E s :=
  fun Γ p hΓ hc => by rw [Sem.wp_keep]; exact h Γ p hΓ hc
theorem wpC_attempt {m : Sem α} {Q : Except Value α → Shared → Prop} (h : wpC M A m (fun a => Q (.ok a)) (fun e => Q (.error e)) s) :
    wpC M A m.attempt Q E s := fun Γ p hΓ hc => by rw [Sem.wp_attempt]; exact h Γ p hΓ hc
theorem wpC_operate {vs : List Value} {m : Sem Value} {Q : Value → Shared → Prop} (h : wpC M A m Q E s) : wpC M A (operate vs m) Q E s :=
  fun Γ p hΓ hc => by rw [Sem.wp_operate]; exact h Γ p hΓ hc
theorem wpC_nil {Q : Flow → Shared → Prop} (h : Q .next s) : wpC M A (execs [] env) Q E s := fun _ _ _ _ => h
theorem wpC_consC {st : Stmt} {rest : List Stmt} {Q : Flow → Shared → Prop}
    (h : wpC M A (exec st env) (fun f s' => match f with | .next => wpC M A (execs rest env) Q E s' | f => Q f s') E s) :
    wpC M A (execs (st :: rest) env) Q E s := by
  rw [execs_cons]
  refine wpC_bind (wpC_mono h (fun f s' h' => ?_) fun _ _ x => x)
  cases f <;> first | exact h' | exact wpC_pure h'
/-- a statement that needs no caller -/
theorem wpC_cons {st : Stmt} {rest : List Stmt} {Q : Flow → Shared → Prop}
    (h : wpAny M A (exec st env) (fun f s' => match f with | .next => wpC M A (execs rest env) Q E s' | f => Q f s') E s) :
    wpC M A (execs (st :: rest) env) Q E s := wpC_consC (wpC_of h)
theorem wpC_If {test : PySem.Expr} {body orelse : List Stmt} {pos : Pos} {Q : Flow → Shared → Prop}
    (h : wpAny M A (isTrue test env (eval test env))
      (fun b s₂ => if b then wpC M A (execs body env) Q E s₂ else wpC M A (execs orelse env) Q E s₂) E s) :
    wpC M A (exec (.If test body orelse pos) env) Q E s := by
  rw [exec_If]
  refine wpC_bind (wpC_standAt (wpC_then (wpAny_mono h (fun b s₂ h₂ => ?_) fun _ _ x => x)))
  cases b <;> exact h₂
theorem wpC_IfC {test : PySem.Expr} {body orelse : List Stmt} {pos : Pos} {Q : Flow → Shared → Prop}
    (h : wpC M A (isTrue test env (eval test env))
      (fun b s₂ => if b then wpC M A (execs body env) Q E s₂ else wpC M A (execs orelse env) Q E s₂) E s) :
    wpC M A (exec (.If test body orelse pos) env) Q E s := by
  rw [exec_If]
  refine wpC_bind (wpC_standAt (wpC_bind (wpC_mono h (fun b s₂ h₂ => ?_) fun _ _ x => x)))
  cases b <;> exact h₂
theorem wpC_AssignName {x : Str} {pos' pos : Pos} {value : PySem.Expr} {Q : Flow → Shared → Prop}
    (h : wpC M A (eval value env) (fun v s₁ => wpAny M A (storeName env x v) (fun _ => Q .next) E s₁) E s)
    (hs : swapsWith value (some (.Name x pos')) pos.line env = pure false := by rfl) :
    wpC M A (exec (.Assign [.Name x pos'] value pos) env) Q E s := by
  rw [exec_Assign_Name env x pos' value pos hs]
  refine wpC_bind (wpC_standAt (wpC_bind (wpC_mono h (fun v s₁ h₁ => ?_) fun _ _ x => x)))
  exact wpC_bind (wpC_standAt (wpC_then (wpAny_bindName (wpAny_mono h₁ (fun _ _ q => wpC_pure q) fun _ _ x => x))))
theorem wpC_tryStmt {body orelse : Sem Flow} {h₀ : ExceptHandler} {hs : List ExceptHandler} {Q : Flow → Shared → Prop}
    (h : wpC M A body (fun f s₁ => match f with | .next => wpC M A orelse Q E s₁ | f => Q f s₁)
      (fun e s₁ => wpAny M A (noteFrame e env) (fun _ s₂ => wpAny M A (setFlight e none) (fun _ s₃ => wpAny M A (handleBy e env (h₀ :: hs)) Q E s₃) E s₂) E s₁) s) :
    wpC M A (tryStmt false body (h₀ :: hs) orelse [] env) Q E s := by
  unfold tryStmt
  simp only [List.isEmpty_nil, if_true, List.isEmpty_cons, Bool.false_and, Bool.false_eq_true, if_false]
  refine wpC_bind (wpC_attempt (wpC_mono h (fun f s₁ h₁ => ?_) fun e s₁ h₁ => ?_))
  · cases f <;> first | exact h₁ | exact wpC_pure h₁
  · exact wpC_of (wpAny_bind (wpAny_mono h₁ (fun _ _ h₂ => wpAny_bind h₂) fun _ _ x => x))
theorem wpC_Try {body orelse : List Stmt} {h₀ : ExceptHandler} {hs : List ExceptHandler} {pos : Pos} {Q : Flow → Shared → Prop}
    (h : wpC M A (execs body env) (fun f s₁ => match f with | .next => wpC M A (execs orelse env) Q E s₁ | f => Q f s₁)
      (fun e s₁ => wpAny M A (noteFrame e env) (fun _ s₂ => wpAny M A (setFlight e none) (fun _ s₃ => wpAny M A (handleBy e env (h₀ :: hs)) Q E s₃) E s₂) E s₁) s) :
    wpC M A (exec (.Try body (h₀ :: hs) orelse [] pos) env) Q E s := by
  rw [arm_exec_Try]
  exact wpC_bind (wpC_standAt (wpC_tryStmt h))
theorem wpC_callWith {pos : Pos} {f : Value} {first : List Value} {P : Heap → Prop} {args : List (Bool × Sem Value)} {keywords : List (Option Str × Sem Value)} {Q : Value → Shared → Prop} (hplain : (args.any (·.1) || keywords.any (·.1.isNone)) = false)
    (hk : ∀ h, P h → ∃ k, (k = Keeper.frame ∨ k = Keeper.machine ∨ k = Keeper.boundFrame) ∧ Looks M h (keeperOf f) k)
    (h : wpAny M A (evalArgs f true args keywords) (fun a s₁ => P s₁.heap ∧ wpC M A (call f (first ++ a.pos) a.kw) Q E s₁) E s) : wpC M A (callWith pos f first args keywords) Q E s := by
  unfold callWith
  refine wpC_then (wpAny_holding (wpAny_mono h (fun a s₁ h₁ => wpC_bind (wpC_standAt ?_)) fun _ _ x => x))
  obtain ⟨k, hk', L⟩ := hk _ h₁.1
  simp only [hplain]
  refine wpC_then (L.here ?_)
  have tail : ∀ {t : Sem Value}, wpC M A t Q E s₁ → wpC M A (t >>= fun r => holding [r] point >>= fun _ => pure r) Q E s₁ :=
    fun ht => wpC_bind (wpC_mono ht (fun r s₂ hr => wpC_of (wpAny_bind (wpAny_holding (wpAny_point (wpAny_pure hr))))) fun _ _ x => x)
  have marked (mk : Value) : wpC M A (callMarked mk f (first ++ a.pos) a.kw) Q E s₁ := by unfold callMarked; exact wpC_keep h₁.2
  rcases hk' with rfl | rfl | rfl <;> dsimp only <;> first | exact tail h₁.2 | (split <;> first | exact tail h₁.2 | exact tail (marked _))
theorem wpC_Call {K : Frag} {func e : PySem.Expr} {rest : List PySem.Expr} {pos : Pos} {Q : Value → Shared → Prop}
    (h : wpAny M A (eval func env) (fun f s₁ => keepIn K f = true ∧ wpAny M A (spliced (backTo pos (starEach (e :: rest) env))) (fun vs s₂ => K.In s₂.heap ∧ wpC M A (call f vs) Q E s₂) E s₁) E s)
    (hc : eval (.Call func (e :: rest) [] pos) env = (do callWith pos (← eval func env) [] (backTo pos (starEach (e :: rest) env)) (backToKw pos (keywordEach [] env))) := by rfl)
    (he : starEach (e :: rest) env = (false, eval e env) :: starEach rest env := by rfl) (hplain : (backTo pos (starEach rest env)).any (·.1) = false := by rfl) :
    wpC M A (eval (.Call func (e :: rest) [] pos) env) Q E s := by
  rw [hc]
  refine wpC_then (wpAny_mono h (fun f s₁ h₁ => ?_) fun _ _ x => x)
  obtain ⟨hk, h₁⟩ := h₁
  rw [he] at h₁ ⊢
  exact wpC_callWith (first := []) (P := K.In) (by show ((false || (backTo pos (starEach rest env)).any (·.1)) || false) = false; rw [hplain]; rfl) (keeps_K hk) (evalArgs_plain h₁)
/-- a call of a class that the machine has built in -/
theorem wpC_CallType {T : String} {func e : PySem.Expr} {rest : List PySem.Expr} {pos : Pos} {Q : Value → Shared → Prop}
    (h : wpAny M A (eval func env) (fun f s₁ => f = .type T ∧ wpAny M A (spliced (backTo pos (starEach (e :: rest) env))) (fun vs s₂ => wpC M A (call (.type T) vs) Q E s₂) E s₁) E s)
    (hc : eval (.Call func (e :: rest) [] pos) env = (do callWith pos (← eval func env) [] (backTo pos (starEach (e :: rest) env)) (backToKw pos (keywordEach [] env))) := by rfl)
    (he : starEach (e :: rest) env = (false, eval e env) :: starEach rest env := by rfl) (hplain : (backTo pos (starEach rest env)).any (·.1) = false := by rfl) :
    wpC M A (eval (.Call func (e :: rest) [] pos) env) Q E s := by
  rw [hc]
  refine wpC_then (wpAny_mono h (fun f s₁ h₁ => ?_) fun _ _ x => x)
  obtain ⟨rfl, h₁⟩ := h₁
  rw [he] at h₁ ⊢
  exact wpC_callWith (first := []) (P := fun _ => True) (by show ((false || (backTo pos (starEach rest env)).any (·.1)) || false) = false; rw [hplain]; rfl) (fun _ _ => ⟨.machine, .inr (.inl rfl), Looks.of_pure rfl⟩) (evalArgs_plain (wpAny_mono h₁ (fun _ _ y => ⟨trivial, y⟩) fun _ _ x => x))
end
section
variable {prog : Program} {w : World} {A : Around} {E : Value → Shared → Prop} {s : Shared} {R : Result → Shared → Prop}
theorem codeC_func {body : List Stmt} {env : Env}
    (h : wpC (model prog w) (A.deeper env) (execs body env) (fun f s' => R (.ok (.ret (match f with | .ret v => v | _ => .none))) s')
      (fun e s' => wpAny (model prog w) (A.deeper env) (leaving env e) (fun _ s'' => R (.error e) s'') (fun e' s'' => R (.error e') s'') s') s) :
    codeC (model prog w) A (.func body env) R s := by
  refine codeC_of_tree ?_
  show wpC _ (A.deeper env) (do point; match ← (execs body env).onRaise (leaving env) with | .ret v => ret v | _ => ret .none) _ _ s
  refine wpC_then (wpAny_point (wpC_bind (wpC_onRaise (wpC_mono h (fun f s' h' => ?_) fun _ _ h' => wpC_of h'))))
  cases f <;> exact wpC_pure h'
theorem codeC_call_def {a : Addr} {o : Obj} {fd : FuncData} {body : List Stmt} {args : Args} {binds : List (Str × Value)}
    (hroom : A.depth < recursionLimit) (ho : s.heap.get? a = some o) (hdata : o.data = .func fd) (hlim : s.heap.NoLimit) (hcd : s.heap.CodeRec fd.code fd.qualname)
    (hbody : fd.body = .stmts body) (hbind : BindsTo s fd args binds)
    (hcell : ∀ x ∈ fd.scope.names, x.2 ≠ .cell) (hloc : ∀ x ∈ binds, fd.scope.names.lookup x.1 = some .local)
    (h : ∀ h₀, h₀.Ns s.heap.objs.size (fun x => binds.reverse.lookup x) → (∀ b o, s.heap.get? b = some o → h₀.get? b = some o) →
      wpC (model prog w) (A.deeper (callEnv fd s.heap.objs.size a)) (execs body (callEnv fd s.heap.objs.size a)) (fun f s' => R (.ok (.ret (match f with | .ret v => v | _ => .none))) s')
        (fun e s' => wpAny (model prog w) (A.deeper (callEnv fd s.heap.objs.size a)) (leaving (callEnv fd s.heap.objs.size a) e) (fun _ s'' => R (.error e) s'') (fun e' s'' => R (.error e') s'') s')
        { s with heap := h₀, toks := s.toks + binds.length })
    (hco : fd.scope.isCoroutine = false := by rfl) (hgen : fd.scope.isGenerator = false := by rfl) (hk : fd.scope.kind = .function := by rfl) :
    codeC (model prog w) A (.call (.ref a) args) R s := by
  refine codeC_of_tree ?_
  show wpC _ A.in1 (callAny (.ref a) args) _ _ s
  simp only [callAny]
  refine wpC_then (wpAny_load ho ?_)
  have hcd' := hcd
  obtain ⟨c, oc, vs, tq, hc, hoc, hdc, hq⟩ := hcd
  simp only [hdata, callFunction, hco, hgen, hbody, hc]
  refine wpC_then (m := field (.ref c) 1) (wpAny_field hoc hdc hq (wpC_then (wpAny_pure ?_)))
  refine wpC_then (hbind _ _ _ _ ?_)
  refine wpC_then (wpAny_newFunctionEnv hcell hloc (fun h₀ hns₀ hsb₀ => ?_) hk)
  refine wpC_then (wpAny_enterFrame (hlim.fresh _ hsb₀) hroom (wpC_pure (And.intro rfl ?_)))
  have := codeC_func (R := R) (h h₀ hns₀ fun b o e => hsb₀.extBut b o (Nat.ne_of_lt (Heap.lt_size e)) (Heap.get?_push_of_some _ e))
  rw [show callEnv fd s.heap.objs.size a = newEnv fd.scope s.heap.objs.size fd.globals fd.closure (fd.qualname ++ ".<locals>.") (some a) (.ref c) none fd.builtins from by rw [← hc]; rfl] at this
  exact this
end
end Mine

end
section
open PySem PySem.W PyProof.Rows PySem.Calls PySem.Spec
set_option maxRecDepth 100000
namespace Mine
section
variable {prog : Program} {w : World} {A₀ A : Around} {E : Value → Shared → Prop} {s : Shared} {base h₀ : Heap} {outer : List Env} {L : Addr} {m : Str → Option Value} {env : Env} {args : List (Addr × Obj)} {K : Frag}
  {name qual : Str} {params : Arguments} {body : List Stmt} {scope : Scope} {dV kV doc pm cdv ct oc : Value} {an od : Option Addr} {osl : Array (Option Value)} {f : Addr} {vals : List Value} {binds : List (Str × Value)}
  {p : Program} {loose : List Str} {mean : ExcName → Option Value} {mg mb : Str → Option Value} {Q : Value → Shared → Prop} {news : List (Addr × Obj)} {ok : Value → List (Addr × Obj) → Prop}
theorem fnC_enter (B : Below A₀ base outer h₀) (F : Fr h₀ L s.heap m) (X₀ : K.In h₀) (N : News h₀ L s.heap news) (T : Top p loose mean mg mb h₀) (XB : K.In base) (TB : Top p loose mean mg mb base) (D : KtsDicts (frs outer) h₀)
    (hargs : ∀ q ∈ args, q ∈ news) (hA : A.frames = some (env :: outer)) (hf : env.frame = some L) (hke : env.scope.kind = .function)
    (ret : ∀ h₀' v new h' tk', KtsTurn (frs outer) h₀ h₀' → Fr h₀' L h' m → News h₀' L h' (new ++ news) → Below A₀ base outer h₀' → K.In h₀' → Top p loose mean mg mb h₀' → KtsDicts (frs outer) h₀' → (∀ q ∈ new, ∀ p ∈ news, p.1 ≠ q.1) → ok v new → Q v { s with heap := h', toks := tk' })
    (ho : K.lookup f = some ⟨oc, od, .func (fnOf name qual params body scope dV kV doc pm an cdv ct), osl⟩) (hcd : codeIn K cdv qual = true) (hroom : A.depth < recursionLimit)
    (hbind : BindsTo s (fnOf name qual params body scope dV kV doc pm an cdv ct) ⟨vals, []⟩ binds) (hloc : ∀ y ∈ binds, scope.names.lookup y.1 = some .local)
    (h : ∀ g L' h₁, Fr h₀ L g m → Fr g L' h₁ (fun y => binds.reverse.lookup y) → News g L' h₁ args → Below A base (env :: outer) g → K.In g → Top p loose mean mg mb g → K.In base → Top p loose mean mg mb base → KtsDicts (frs (env :: outer)) g →
      wpC (model prog w) (A.deeper (envOf qual scope L' f cdv)) (execs body (envOf qual scope L' f cdv))
        (fun fl s' => LeaveT (frs (env :: outer)) g s args ok (match fl with | .ret v => v | _ => .none) s')
        (fun e s' => wpAny (model prog w) (A.deeper (envOf qual scope L' f cdv)) (leaving (envOf qual scope L' f cdv) e) (fun _ s'' => E e s'') (fun e' s'' => E e' s'') s')
        { s with heap := h₁, toks := s.toks + binds.length })
    (hco : scope.isCoroutine = false) (hgen : scope.isGenerator = false) (hk : scope.kind = .function)
    (hcell : ∀ x ∈ scope.names, x.2 ≠ .cell) : wpC (model prog w) A (call (.ref f) vals) Q E s := by
  refine wpC_call ?_
  have N₁ : News h₀ L s.heap args := fun q hq => N q (hargs q hq)
  obtain ⟨FG, BG, st, lv⟩ := groundX (R := fun _ _ => True) B F N₁ hA hf hke
  obtain ⟨oL, es, ep, hL, hLd, hLk, hLf⟩ := F.ns
  have nL : L ∉ args.map (·.1) := fun q => by
    obtain ⟨p, hp, e⟩ := List.mem_map.mp q
    exact (N₁ p hp).2.1 e
  have hLg := hideAll_get (args.map (·.1)) hL nL
  have nL₀ : h₀.get? L = none := kts_self F
  refine codeC_call_def (fd := fnOf name qual params body scope dV kV doc pm an cdv ct) (body := body) (binds := binds) hroom ((X₀.keeps F.keep) _ _ ho) rfl (T.nolimit.keeps F.keep) (codeRec_of (X₀.keeps F.keep) hcd) rfl hbind hcell hloc (fun h₁ hns hk₁ => ?_) hco hgen hk
  refine wpC_mono (h _ s.heap.objs.size h₁ FG ⟨hns, fun b o e => hk₁ b o (of_hideAll _ e), Nat.le_of_eq (hideAll_size _ _)⟩
    (fun q hq => ⟨hk₁ _ _ (N₁ q hq).1, Nat.ne_of_lt (Heap.lt_size (N₁ q hq).1), hideAll_none _ (List.mem_map_of_mem hq)⟩) BG (X₀.keeps st) (T.keeps st) XB TB (fun b hb => by
      rcases frs_mem hf hb with rfl | hb
      · exact ⟨oL, es, ep, hLg, hLd⟩
      · obtain ⟨o, es', n', ho', hd'⟩ := D b hb
        exact ⟨o, es', n', st b o ho', hd'⟩)) (fun fl s' hl => ?_) fun _ _ y => y
  obtain ⟨hs, g', L', m', news', new, T', F', N', ha, hn, hne, hok⟩ := hl
  rw [hs]
  obtain ⟨sl, hsl⟩ := T'.up hLg
  have nfr : ∀ b, h₀.get? b = none → b ≠ L → b ∉ frs (env :: outer) := fun b e n hm => by
    rcases frs_mem hf hm with z | z
    · exact n z
    · obtain ⟨o, _, _, ho', _⟩ := D b z
      rw [e] at ho'; cases ho'
  have hgo : ∀ q ∈ news, q.1 ∉ args.map (·.1) → g'.get? q.1 = some q.2 := fun q hq hm => T'.other _ _ (hideAll_get _ (N q hq).1 hm) (nfr _ (N q hq).2.2 (N q hq).2.1)
  have hold : ∀ q ∈ news, s'.heap.get? q.1 = some q.2 := fun q hq => by
    by_cases hm : q.1 ∈ args.map (·.1)
    · obtain ⟨q', hq', e⟩ := List.mem_map.mp hm
      have h1 := (N' q' (ha q' hq')).1
      have h2 := (N₁ q' hq').1
      rw [e] at h1 h2
      have h3 := (N q hq).1
      rw [h2] at h3
      rw [h1, h3]
    · exact F'.keep _ _ (hgo q hq hm)
  have hfresh : ∀ q ∈ new, ∀ p ∈ news, p.1 ≠ q.1 := fun q hq p hp e => by
    by_cases hm : p.1 ∈ args.map (·.1)
    · obtain ⟨p', hp', e'⟩ := List.mem_map.mp hm
      exact hne q hq p' hp' (by rw [e', e])
    · have := (N' q (hn q hq)).2.2
      rw [← e, hgo p hp hm] at this
      cases this
  obtain ⟨T₁, S₁⟩ := kts_turn_at (h := s'.heap) (fs := frs outer) (g := h₀)
    (fun b hb => by
      obtain ⟨o, _, _, ho', _⟩ := D b hb
      exact ⟨o, ho'⟩)
    (fun b o e nmem => F'.keep b o (T'.other b o (st b o e) (fun q => by
      rcases frs_mem hf q with z | z
      · rw [z, nL₀] at e
        cases e
      · exact nmem z)))
    (fun b o e hm => by
      obtain ⟨sl', hs'⟩ := T'.up (st b o e)
      exact ⟨sl', F'.keep _ _ hs'⟩)
  have B₃ : Below A₀ base outer (ktsHeap s'.heap (frs outer) h₀) := ⟨B.stack, fun b o e => T₁.other b o (B.stays b o e) (fun hm => by
    rw [(B.frames.mem hm).1] at e
    cases e), B.frames.of_keeps fun b o e _ => by
    obtain ⟨sl', hs'⟩ := T₁.up e
    exact ⟨_, hs', rfl⟩⟩
  refine ret _ _ new _ _ T₁ ⟨⟨_, es, ep, F'.keep _ _ hsl, hLd, hLk, hLf⟩, S₁, by rw [T₁.size]; exact F.above⟩ (fun q hq => ?_) B₃ (XB.keeps B₃.stays) (TB.keeps B₃.stays) (D.turn T₁) hfresh hok
  rcases List.mem_append.mp hq with hq | hq
  · refine ⟨(N' q (hn q hq)).1, fun z => ?_, T₁.none_ _ ?_⟩
    · have := (N' q (hn q hq)).2.2; rw [z, hsl] at this; cases this
    · cases z : h₀.get? q.1 with
      | none => rfl
      | some o =>
        obtain ⟨sl', hs'⟩ := T'.up (st _ _ z)
        have := (N' q (hn q hq)).2.2
        rw [hs'] at this
        cases this
  · exact ⟨hold q hq, (N q hq).2.1, T₁.none_ _ (N q hq).2.2⟩
end


/-- a def's contract where the claim's caller must be known -/
noncomputable def FnC (prog : Program) (w : World) (K : Frag) (d : Nat) (f : Addr) (args : List (Addr × Obj)) (vs : List Value) (ok : Value → List (Addr × Obj) → Prop) : Prop :=
  ∀ (p : Program) (loose : List Str) (mean : ExcName → Option Value) (mg mb : Str → Option Value) (dp un : Nat) (gd : Option (List Code)) (cn : Str) (cs : Scope) (a : Addr) (ccd : Value) (cl : List (Str × Addr)) (outer : List Env) (A₀ : Around) (base h₀ : Heap) (L : Addr) (m : Str → Option Value) (s : Shared) (Q E : Value → Shared → Prop) (news : List (Addr × Obj)),
    Below A₀ base outer h₀ → Fr h₀ L s.heap m → K.In h₀ → News h₀ L s.heap news → Top p loose mean mg mb h₀ → K.In base → Top p loose mean mg mb base → KtsDicts (frs outer) h₀ → cs.kind = .function → (∀ q ∈ args, q ∈ news) → dp + d < recursionLimit → un + 12 * d < cLine →
    (∀ h₀' v new h' tk', KtsTurn (frs outer) h₀ h₀' → Fr h₀' L h' m → News h₀' L h' (new ++ news) → Below A₀ base outer h₀' → K.In h₀' → Top p loose mean mg mb h₀' → KtsDicts (frs outer) h₀' → (∀ q ∈ new, ∀ p ∈ news, p.1 ≠ q.1) → ok v new → Q v { s with heap := h', toks := tk' }) →
    wpC (model prog w) (ktrTop dp un gd cn cs L a ccd cl outer) (call (.ref f) vs) Q E s
theorem FnT.toC {prog : Program} {w : World} {K : Frag} {d : Nat} {f : Addr} {args : List (Addr × Obj)} {vs : List Value} {ok : Value → List (Addr × Obj) → Prop} (C : FnT prog w K d f args vs ok) : FnC prog w K d f args vs ok :=
  fun p loose mean mg mb dp un gd cn cs a ccd cl outer A₀ base h₀ L m s Q E news hB hF hK hN hT hKB hTB hD hk ha hd hu ret =>
    wpC_of (C p loose mean mg mb dp un gd cn cs a ccd cl outer A₀ base h₀ L m s Q E news hB hF hK hN hT hKB hTB hD hk ha hd hu ret)
section
variable {prog : Program} {w : World} {K : Frag} {d : Nat} {f : Addr} {args : List (Addr × Obj)} {vs : List Value} {p : Program} {loose : List Str} {mean : ExcName → Option Value} {mg mb : Str → Option Value} {dp un : Nat} {gd : Option (List Code)} {cn : Str} {cs : Scope} {a : Addr} {ccd : Value} {cl : List (Str × Addr)} {outer : List Env} {A₀ : Around} {base h₀ : Heap} {L : Addr} {m : Str → Option Value} {s : Shared} {Q E : Value → Shared → Prop} {news : List (Addr × Obj)}
/-- the answer is one new object; the ground may turn -/
theorem FnC.useO {O : Obj → Prop} (C : FnC prog w K d f args vs (fun v new => ∃ D o, v = .ref D ∧ new = [(D, o)] ∧ O o)) (B : Below A₀ base outer h₀) (F : Fr h₀ L s.heap m) (X : K.In h₀) (N : News h₀ L s.heap news) (T : Top p loose mean mg mb h₀) (XB : K.In base) (TB : Top p loose mean mg mb base) (D : KtsDicts (frs outer) h₀) (hk : cs.kind = .function) (ha : ∀ q ∈ args, q ∈ news)
    (hd : dp + d < recursionLimit) (hu : un + 12 * d < cLine)
    (ret : ∀ h₀' D o h' tk', O o → KtsTurn (frs outer) h₀ h₀' → Fr h₀' L h' m → News h₀' L h' ((D, o) :: news) → Below A₀ base outer h₀' → K.In h₀' → Top p loose mean mg mb h₀' → KtsDicts (frs outer) h₀' → AllNe D news → Q (.ref D) { s with heap := h', toks := tk' }) :
    wpC (model prog w) (ktrTop dp un gd cn cs L a ccd cl outer) (call (.ref f) vs) Q E s := by
  refine C p loose mean mg mb dp un gd cn cs a ccd cl outer A₀ base h₀ L m s Q E news B F X N T XB TB D hk ha hd hu fun h₀' v new h' tk' T' F' N' B' X' P' D' hne ok => ?_
  obtain ⟨D₁, o, rfl, rfl, ho⟩ := ok
  exact ret h₀' D₁ o h' tk' ho T' F' N' B' X' P' D' (allNe_intro fun q hq => hne _ (.head _) q hq)
/-- in the outermost frame the ground stays -/
theorem FnC.topO {O : Obj → Prop} (C : FnC prog w K d f args vs (fun v new => ∃ D o, v = .ref D ∧ new = [(D, o)] ∧ O o)) (B : Below A₀ h₀ [] h₀) (F : Fr h₀ L s.heap m) (X : K.In h₀) (N : News h₀ L s.heap news) (T : Top p loose mean mg mb h₀) (hk : cs.kind = .function) (ha : ∀ q ∈ args, q ∈ news)
    (hd : dp + d < recursionLimit) (hu : un + 12 * d < cLine)
    (ret : ∀ D o h' tk', O o → Fr h₀ L h' m → News h₀ L h' ((D, o) :: news) → AllNe D news → Q (.ref D) { s with heap := h', toks := tk' }) :
    wpC (model prog w) (ktrTop dp un gd cn cs L a ccd cl []) (call (.ref f) vs) Q E s :=
  FnC.useO C B F X N T X T ktsDicts_nil hk ha hd hu fun h₀' D₁ o h' tk' ho T' F' N' B' X' P' D' hne =>
    ret D₁ o h' tk' ho ⟨F'.ns, fun b o e => F'.keep b o (turn_nil T' b o e), by rw [← T'.size]; exact F'.above⟩ (fun q hq => ⟨(N' q hq).1, (N' q hq).2.1, by
      cases z : h₀.get? q.1 with
      | none => rfl
      | some o => have := (N' q hq).2.2; rw [turn_nil T' _ _ z] at this; cases this⟩) hne
end
section
variable {g g' h : Heap} {s : Shared} {args : List (Addr × Obj)} {fs : List Addr} {tk : Nat} {L' : Addr} {m' : Str → Option Value} {news' : List (Addr × Obj)}
theorem leaveT_obj {D : Addr} {o : Obj} {O : Obj → Prop} (T : KtsTurn fs g g') (F : Fr g' L' h m') (N : News g' L' h news') (ha : ∀ q ∈ args, q ∈ news') (hm : (D, o) ∈ news') (hne : ∀ p ∈ args, p.1 ≠ D) (ho : O o) :
    LeaveT fs g s args (fun v new => ∃ D o, v = Value.ref D ∧ new = [(D, o)] ∧ O o) (.ref D) { s with heap := h, toks := tk } :=
  leaveT_intro T F N ha [(D, o)] (fun q hq => by rw [List.mem_singleton.mp hq]; exact hm) (fun q hq p hp => by rw [List.mem_singleton.mp hq]; exact (hne p hp).symm) ⟨D, o, rfl, rfl, ho⟩
end
end Mine

end
section
open PySem PySem.W PyProof.Rows PySem.Calls PySem.Spec
set_option maxRecDepth 100000
namespace Mine
/-- what a call finds: the parts of its surroundings -/
structure Dat where
  w : World
  p : Program
  loose : List Str
  mean : ExcName → Option Value
  mg : Str → Option Value
  mb : Str → Option Value
  dp : Nat
  un : Nat
  gd : Option (List Code)
  cn : Str
  cs : Scope
  a : Addr
  ccd : Value
  cl : List (Str × Addr)
  outer : List Env
  base : Heap
  L : Addr
  g : Heap
  L' : Addr
  h₁ : Heap
  s : Shared
  E : Value → Shared → Prop
theorem dat_some (p : Program) : Nonempty Dat :=
  ⟨{ w := { draws := fun _ _ => 0, params := { strHash := fun _ => 0, shareClass := fun _ => 0, mergeTok := id, idOf := fun _ => 0, idOfShared := fun _ _ => 0, followText := fun _ => false, idOfImm := fun _ => 0 } }, p := p, loose := [], mean := fun _ => none, mg := fun _ => none, mb := fun _ => none, dp := 0, un := 0, gd := none, cn := Str.empty, cs := { kind := .function, names := [], isGenerator := false, isCoroutine := false }, a := 0, ccd := .none, cl := [], outer := [], base := {}, L := 0, g := {}, L' := 0, h₁ := {}, s := {}, E := fun _ _ => True }⟩
section
variable {name qual : Str} {params : Arguments} {body : List Stmt} {scope : Scope} {dV kV doc pm cdv ct oc : Value} {an od : Option Addr} {osl : Array (Option Value)} {vals : List Value} {binds : List (Str × Value)}
/-- a def's body keeps the contract, at one witness -/
noncomputable def FnB (z : Dat) (prog : Program) (K : Frag) (d : Nat) (f : Addr) (args : List (Addr × Obj)) (vals : List Value) (ok : Value → List (Addr × Obj) → Prop)
    (_ho : K.lookup f = some ⟨oc, od, .func (fnOf name qual params body scope dV kV doc pm an cdv ct), osl⟩) (_hb : BindsTo z.s (fnOf name qual params body scope dV kV doc pm an cdv ct) ⟨vals, []⟩ binds) : Prop := Wrap (
  Fr z.g z.L' z.h₁ (fun y => binds.reverse.lookup y) → News z.g z.L' z.h₁ args → Below (ktrTop z.dp z.un z.gd z.cn z.cs z.L z.a z.ccd z.cl z.outer) z.base (envX z.cn z.cs z.L z.a z.ccd z.cl :: z.outer) z.g → K.In z.g → Top z.p z.loose z.mean z.mg z.mb z.g → z.cs.kind = .function → z.dp + d < recursionLimit → z.un + 12 * d < cLine →
    wpAny (model prog z.w) ((ktrTop z.dp z.un z.gd z.cn z.cs z.L z.a z.ccd z.cl z.outer).deeper (envOf qual scope z.L' f cdv)) (execs body (envOf qual scope z.L' f cdv))
        (fun fl s' => LeaveF z.g z.s args ok (match fl with | .ret v => v | _ => .none) s')
        (fun e s' => wpAny (model prog z.w) ((ktrTop z.dp z.un z.gd z.cn z.cs z.L z.a z.ccd z.cl z.outer).deeper (envOf qual scope z.L' f cdv)) (leaving (envOf qual scope z.L' f cdv) e) (fun _ s'' => z.E e s'') (fun e' s'' => z.E e' s'') s')
        { z.s with heap := z.h₁, toks := z.s.toks + binds.length })
theorem Fn.of_B {prog : Program} {w : World} {K : Frag} {d : Nat} {f : Addr} {args : List (Addr × Obj)} {ok : Value → List (Addr × Obj) → Prop}
    (ho : K.lookup f = some ⟨oc, od, .func (fnOf name qual params body scope dV kV doc pm an cdv ct), osl⟩) (hb : ∀ s, BindsTo s (fnOf name qual params body scope dV kV doc pm an cdv ct) ⟨vals, []⟩ binds)
    (h : ∀ z : Dat, z.w = w → FnB z prog K d f args vals ok ho (hb z.s))
    (hcd : codeIn K cdv qual = true) (hloc : ∀ y ∈ binds, scope.names.lookup y.1 = some .local) (hd : 0 < d)
    (hco : scope.isCoroutine = false) (hgen : scope.isGenerator = false) (hk : scope.kind = .function) (hcell : ∀ x ∈ scope.names, x.2 ≠ .cell) : Fn prog w K d f args vals ok := by
  intro p loose mean mg mb dp un gd cn cs a ccd cl outer A₀ base h₀ L m s Q E news hB hF hK hN hT hkd ha hdp hun ret
  refine fn_enter hB hF hK hN hT ha rfl rfl hkd ret ho hcd (show dp < recursionLimit by omega) (hb s) hloc ?_ hco hgen hk hcell
  intro g L' h₁ _ F1 N1 B1 X1 T1
  exact Wrap.out (h { w := w, p := p, loose := loose, mean := mean, mg := mg, mb := mb, dp := dp, un := un, gd := gd, cn := cn, cs := cs, a := a, ccd := ccd, cl := cl, outer := outer, base := base, L := L, g := g, L' := L', h₁ := h₁, s := s, E := E } rfl) F1 N1 B1 X1 T1 hkd hdp hun
/-- a def's body keeps the contract, at one witness -/
noncomputable def FnTB (z : Dat) (prog : Program) (K : Frag) (d : Nat) (f : Addr) (args : List (Addr × Obj)) (vals : List Value) (ok : Value → List (Addr × Obj) → Prop)
    (_ho : K.lookup f = some ⟨oc, od, .func (fnOf name qual params body scope dV kV doc pm an cdv ct), osl⟩) (_hb : BindsTo z.s (fnOf name qual params body scope dV kV doc pm an cdv ct) ⟨vals, []⟩ binds) : Prop := Wrap (
  Fr z.g z.L' z.h₁ (fun y => binds.reverse.lookup y) → News z.g z.L' z.h₁ args → Below (ktrTop z.dp z.un z.gd z.cn z.cs z.L z.a z.ccd z.cl z.outer) z.base (envX z.cn z.cs z.L z.a z.ccd z.cl :: z.outer) z.g → K.In z.g → Top z.p z.loose z.mean z.mg z.mb z.g → K.In z.base → Top z.p z.loose z.mean z.mg z.mb z.base → KtsDicts (frs (envX z.cn z.cs z.L z.a z.ccd z.cl :: z.outer)) z.g → z.cs.kind = .function → z.dp + d < recursionLimit → z.un + 12 * d < cLine →
    wpAny (model prog z.w) ((ktrTop z.dp z.un z.gd z.cn z.cs z.L z.a z.ccd z.cl z.outer).deeper (envOf qual scope z.L' f cdv)) (execs body (envOf qual scope z.L' f cdv))
        (fun fl s' => LeaveT (frs (envX z.cn z.cs z.L z.a z.ccd z.cl :: z.outer)) z.g z.s args ok (match fl with | .ret v => v | _ => .none) s')
        (fun e s' => wpAny (model prog z.w) ((ktrTop z.dp z.un z.gd z.cn z.cs z.L z.a z.ccd z.cl z.outer).deeper (envOf qual scope z.L' f cdv)) (leaving (envOf qual scope z.L' f cdv) e) (fun _ s'' => z.E e s'') (fun e' s'' => z.E e' s'') s')
        { z.s with heap := z.h₁, toks := z.s.toks + binds.length })
theorem FnT.of_B {prog : Program} {w : World} {K : Frag} {d : Nat} {f : Addr} {args : List (Addr × Obj)} {ok : Value → List (Addr × Obj) → Prop}
    (ho : K.lookup f = some ⟨oc, od, .func (fnOf name qual params body scope dV kV doc pm an cdv ct), osl⟩) (hb : ∀ s, BindsTo s (fnOf name qual params body scope dV kV doc pm an cdv ct) ⟨vals, []⟩ binds)
    (h : ∀ z : Dat, z.w = w → FnTB z prog K d f args vals ok ho (hb z.s))
    (hcd : codeIn K cdv qual = true) (hloc : ∀ y ∈ binds, scope.names.lookup y.1 = some .local) (hd : 0 < d)
    (hco : scope.isCoroutine = false) (hgen : scope.isGenerator = false) (hk : scope.kind = .function) (hcell : ∀ x ∈ scope.names, x.2 ≠ .cell) : FnT prog w K d f args vals ok := by
  intro p loose mean mg mb dp un gd cn cs a ccd cl outer A₀ base h₀ L m s Q E news hB hF hK hN hT hKB hTB hD hkd ha hdp hun ret
  refine fnT_enter hB hF hK hN hT hKB hTB hD ha rfl rfl hkd ret ho hcd (show dp < recursionLimit by omega) (hb s) hloc ?_ hco hgen hk hcell
  intro g L' h₁ _ F1 N1 B1 X1 T1 XB1 TB1 D1
  exact Wrap.out (h { w := w, p := p, loose := loose, mean := mean, mg := mg, mb := mb, dp := dp, un := un, gd := gd, cn := cn, cs := cs, a := a, ccd := ccd, cl := cl, outer := outer, base := base, L := L, g := g, L' := L', h₁ := h₁, s := s, E := E } rfl) F1 N1 B1 X1 T1 XB1 TB1 D1 hkd hdp hun
/-- a def's body keeps the contract, at one witness -/
noncomputable def FnCB (z : Dat) (prog : Program) (K : Frag) (d : Nat) (f : Addr) (args : List (Addr × Obj)) (vals : List Value) (ok : Value → List (Addr × Obj) → Prop)
    (_ho : K.lookup f = some ⟨oc, od, .func (fnOf name qual params body scope dV kV doc pm an cdv ct), osl⟩) (_hb : BindsTo z.s (fnOf name qual params body scope dV kV doc pm an cdv ct) ⟨vals, []⟩ binds) : Prop := Wrap (
  Fr z.g z.L' z.h₁ (fun y => binds.reverse.lookup y) → News z.g z.L' z.h₁ args → Below (ktrTop z.dp z.un z.gd z.cn z.cs z.L z.a z.ccd z.cl z.outer) z.base (envX z.cn z.cs z.L z.a z.ccd z.cl :: z.outer) z.g → K.In z.g → Top z.p z.loose z.mean z.mg z.mb z.g → K.In z.base → Top z.p z.loose z.mean z.mg z.mb z.base → KtsDicts (frs (envX z.cn z.cs z.L z.a z.ccd z.cl :: z.outer)) z.g → z.cs.kind = .function → z.dp + d < recursionLimit → z.un + 12 * d < cLine →
    wpC (model prog z.w) ((ktrTop z.dp z.un z.gd z.cn z.cs z.L z.a z.ccd z.cl z.outer).deeper (envOf qual scope z.L' f cdv)) (execs body (envOf qual scope z.L' f cdv))
        (fun fl s' => LeaveT (frs (envX z.cn z.cs z.L z.a z.ccd z.cl :: z.outer)) z.g z.s args ok (match fl with | .ret v => v | _ => .none) s')
        (fun e s' => wpAny (model prog z.w) ((ktrTop z.dp z.un z.gd z.cn z.cs z.L z.a z.ccd z.cl z.outer).deeper (envOf qual scope z.L' f cdv)) (leaving (envOf qual scope z.L' f cdv) e) (fun _ s'' => z.E e s'') (fun e' s'' => z.E e' s'') s')
        { z.s with heap := z.h₁, toks := z.s.toks + binds.length })
theorem FnC.of_B {prog : Program} {w : World} {K : Frag} {d : Nat} {f : Addr} {args : List (Addr × Obj)} {ok : Value → List (Addr × Obj) → Prop}
    (ho : K.lookup f = some ⟨oc, od, .func (fnOf name qual params body scope dV kV doc pm an cdv ct), osl⟩) (hb : ∀ s, BindsTo s (fnOf name qual params body scope dV kV doc pm an cdv ct) ⟨vals, []⟩ binds)
    (h : ∀ z : Dat, z.w = w → FnCB z prog K d f args vals ok ho (hb z.s))
    (hcd : codeIn K cdv qual = true) (hloc : ∀ y ∈ binds, scope.names.lookup y.1 = some .local) (hd : 0 < d)
    (hco : scope.isCoroutine = false) (hgen : scope.isGenerator = false) (hk : scope.kind = .function) (hcell : ∀ x ∈ scope.names, x.2 ≠ .cell) : FnC prog w K d f args vals ok := by
  intro p loose mean mg mb dp un gd cn cs a ccd cl outer A₀ base h₀ L m s Q E news hB hF hK hN hT hKB hTB hD hkd ha hdp hun ret
  refine fnC_enter hB hF hK hN hT hKB hTB hD ha rfl rfl hkd ret ho hcd (show dp < recursionLimit by omega) (hb s) hloc ?_ hco hgen hk hcell
  intro g L' h₁ _ F1 N1 B1 X1 T1 XB1 TB1 D1
  exact Wrap.out (h { w := w, p := p, loose := loose, mean := mean, mg := mg, mb := mb, dp := dp, un := un, gd := gd, cn := cn, cs := cs, a := a, ccd := ccd, cl := cl, outer := outer, base := base, L := L, g := g, L' := L', h₁ := h₁, s := s, E := E } rfl) F1 N1 B1 X1 T1 XB1 TB1 D1 hkd hdp hun
end
end Mine

end
section
open PySem PySem.W PyProof.Rows PySem.Calls PySem.Spec
set_option Elab.async false
set_option maxRecDepth 100000
namespace Mine
section
variable {α : Type} {M : Model} {A : Around} {E : Value → Shared → Prop} {s : Shared}
theorem wpC_ifF {c : Prop} [Decidable c] {a b : Sem α} {Q : α → Shared → Prop} (hc : ¬ c) (h : wpC M A b Q E s) : wpC M A (if c then a else b) Q E s := by rw [if_neg hc]; exact h
theorem wpC_ifT {c : Prop} [Decidable c] {a b : Sem α} {Q : α → Shared → Prop} (hc : c) (h : wpC M A a Q E s) : wpC M A (if c then a else b) Q E s := by rw [if_pos hc]; exact h
theorem python_no {own : List String} : ∀ {l : List (Code × Pos)}, l.any (fun x => Code.isCaller x.1) = true → pythonCodeMadeTheCall own (l.map (·.1)) = false := by
  intro l h
  unfold pythonCodeMadeTheCall
  refine Bool.and_eq_false_iff.mpr (.inl (Bool.and_eq_false_iff.mpr (.inl ?_)))
  rw [Bool.not_eq_false', List.any_map]
  exact h
theorem wpC_mark {own : List String} {e : Value} {Q : Unit → Shared → Prop} (h : Q () s) : wpC M A (markTheRefusal own e) Q E s := fun Γ p hΓ hc => by
  unfold markTheRefusal stack
  rw [Sem.wp_bind', Sem.wp_stack]
  have h1 : ((Γ.code, p) :: Γ.below).any (fun x => Code.isCaller x.1) = true := by
    rw [List.any_cons]
    rcases hc with hc | hc
    · rw [hc]; rfl
    · rw [hc]; exact Bool.or_true _
  rw [Sem.wp_pure, if_neg (by rw [python_no h1]; exact Bool.false_ne_true)]
  exact h
end
section
variable {prog : Program} {w : World} {A : Around} {E : Value → Shared → Prop} {s : Shared}
theorem tree_int (t : Tok) {Q : Fin → Shared → Prop} (h : wpC (model prog w) A (call (.builtin "int.__new__") [.type "int", .str (Str.ofString "") t]) (fun _ _ => False) E s) :
    wpC (model prog w) A (Builtin.«type.__call__» ⟨[.type "int", .str (Str.ofString "") t], []⟩) Q E s := by
  obtain ⟨c, tl, hmro⟩ := F.called_int.mro
  have hmade := F.called_int.made
  have h1 := F.called_int.notType
  have h2 := F.called_int.canCreate
  have h3 := F.typeCall_int_1 (.str (Str.ofString "") t)
  unfold Builtin.«type.__call__»
  dsimp only
  refine wpC_ifF (by rw [h1]; exact Bool.false_ne_true) ?_
  refine wpC_ifF (by rw [h2]; exact Bool.false_ne_true) ?_
  rw [h3]
  refine wpC_then (wpAny_pure ?_)
  rw [hmro]
  refine wpC_then (wpAny_pure ?_)
  refine wpC_ifF (by exact Bool.false_ne_true) ?_
  rw [hmade]
  refine wpC_then (wpAny_pure ?_)
  dsimp only
  refine wpC_then (wpAny_pure ?_)
  exact wpC_bind (wpC_holding (wpC_mono h (fun _ _ x => x.elim) fun _ _ x => x))
theorem tree_new (t : Tok) {Q : Fin → Shared → Prop} (hA : A.handled = none) (h : ∀ h' tk e, Heap.NewExc s.heap h' e "ValueError" → E (.ref e) { s with heap := h', toks := tk }) :
    wpC (model prog w) A (Builtin.«int.__new__» ⟨[.type "int", .str (Str.ofString "") t], []⟩) Q E s := by
  obtain ⟨hp, g, d, tk, os⟩ := s
  have f1 := F.conv_sub_int
  have f2 := F.madeHere_int
  have f3 := KIN.str_int
  have f4 := KIN.str_idx
  have f5 := KIN.str_trunc
  have f6 : typeOf (.str (Str.ofString "") t) = pure (.type "str") := rfl
  unfold Builtin.«int.__new__»
  dsimp only
  refine wpC_then ?_
  repeat (any_goals (first | assumption | wp_step))
  refine wpC_ifF (by decide) ?_
  rw [f1]
  refine wpC_then (wpAny_pure ?_)
  refine wpC_ifF (by decide) ?_
  rw [f2]
  refine wpC_then (wpAny_pure ?_)
  refine wpC_ifF (by simp) ?_
  refine wpC_ifF (by simp) ?_
  refine wpC_then (wpAny_of_eq (a := PUnit.unit) rfl ?_)
  dsimp only [List.head?, List.getElem?_cons_succ, List.getElem?_nil, Option.map]
  refine wpC_bind ?_
  refine wpC_then ?_
  repeat (any_goals (first | assumption | wp_step))
  all_goals (try dsimp only)
  refine wpC_then ?_
  repeat (any_goals (first | assumption | wp_step))
  all_goals (try dsimp only)
  refine wpC_ifF (by simp) ?_
  refine wpC_then ?_
  repeat (any_goals (first | assumption | wp_step))
  all_goals (try dsimp only)
  refine wpC_then ?_
  repeat (any_goals (first | assumption | wp_step))
  all_goals (try dsimp only)
  rw [show (if ((Str.ofString "").cps.all fun x => decide (x < 128)) = true then (Str.ofString "").cps.toList else Unicode.numberText (Str.ofString "").cps.toList) = [] from by kernel_rfl]
  refine wpC_then ?_
  repeat (any_goals (first | assumption | wp_step))
  all_goals (try dsimp only)
  rw [show (int_private% "readNumeral") 0 10 (List.takeWhile (fun x => x != 0) []) = (int_private% "Numeral.invalid") from rfl]
  all_goals (try dsimp only)
  refine wpC_then ?_
  repeat (any_goals (first | assumption | wp_step))
  all_goals (try dsimp only)
  refine wpC_ifF (by simp) ?_
  refine wpC_then ?_
  repeat (any_goals (first | assumption | wp_step))
  all_goals (try dsimp only)
  refine wpC_then ?_
  repeat (any_goals (first | assumption | wp_step))
  all_goals (try dsimp only)
  refine wpC_then ?_
  refine wpAny_pyRepr_str ?_ (Nat.le_of_ble_eq_true (by kernel_rfl))
  refine wpC_then ?_
  refine wpAny_mkStr ?_ (Nat.le_of_ble_eq_true (by kernel_rfl))
  refine wpC_then ?_
  refine wpAny_newExc_plain plainExc_ValueError ?_
  intro h9 e9 x9
  refine wpC_bind (wpC_mark ?_)
  refine wpC_of ?_
  refine wpAny_raiseNew_none hA ?_
  exact h _ _ _ (Heap.MadeExc.newExc x9)
theorem codeC_builtin {R : Result → Shared → Prop} {id : String} {args : Args} {b : Builtin} (hb : entryFor table id = some b)
    (h : wpC (model prog w) (A.under (.builtin id args)) (b args)
      (fun fin s' => match fin with | .done f => R (.ok f) s' | .again c' => c'.quiet = true ∧ codeC (model prog w) A c' R s') (fun e s' => R (.error e) s') s) :
    codeC (model prog w) A (.builtin id args) R s := by
  refine codeC_of_tree ?_
  show wpC _ _ (match entryFor table id with | some b => b args | none => unsupported ((withoutEnding? id "#data").getD id)) _ _ s
  rw [hb]; exact h
theorem codeC_call_builtin {R : Result → Shared → Prop} {id : String} {args : Args} {b : Builtin} (hq : plainId id = true) (hb : entryFor table id = some b) (hc : checkBuiltinCall id args = pure ())
    (h : wpC (model prog w) A.in1 (b args)
      (fun fin s' => match fin with | .done f => R (.ok f) s' | .again c' => c'.quiet = true ∧ codeC (model prog w) A c' R s') (fun e s' => R (.error e) s') s) : codeC (model prog w) A (.call (.builtin id) args) R s := by
  refine codeC_of_tree ?_
  show wpC _ A.in1 (do checkBuiltinCall id args; again (.builtin id args)) _ _ s
  refine wpC_then (wpAny_of_eq hc ?_)
  refine wpC_pure (And.intro (plainId_quiet hq args) (codeC_builtin hb ?_))
  rw [Around.under_plainId hq args]
  exact h
theorem codeC_type {T : String} {args : List Value} {R : Result → Shared → Prop}
    (h : wpC (model prog w) A.in1 (Builtin.«type.__call__» ⟨.type T :: args, []⟩)
      (fun fin s' => match fin with | .done f => R (.ok f) s' | .again c' => c'.quiet = true ∧ codeC (model prog w) A c' R s') (fun e s' => R (.error e) s') s) : codeC (model prog w) A (.call (.type T) ⟨args, []⟩) R s := by
  refine codeC_of_tree ?_
  show wpC _ _ (callAny (.type T) _) _ _ _
  refine wpC_pure ⟨Code.quiet_builtin _ (by decide +kernel), codeC_builtin F.entry_type_call ?_⟩
  rw [Around.under_plain (weight_type_call_type T args []) (units_type_call_type T args [])]
  exact h
/-- int of an empty text, where the claim's caller stands below: a ValueError, new -/
theorem int_empty (t : Tok) {Q : Value → Shared → Prop} (hA : A.handled = none) (h : ∀ h' tk e, Heap.NewExc s.heap h' e "ValueError" → E (.ref e) { s with heap := h', toks := tk }) :
    wpC (model prog w) A (call (.type "int") [.str (Str.ofString "") t]) Q E s := by
  refine wpC_call (codeC_type ?_)
  refine tree_int t ?_
  refine wpC_call (codeC_call_builtin F.called_int.plain F.entry_int_new (F.newCall_int_1 (.str (Str.ofString "") t)) ?_)
  exact tree_new t hA h
end
end Mine

end
section
open PySem PySem.W PyProof.Rows PySem.Calls PySem.Spec
set_option maxRecDepth 100000
namespace Mine
section
variable {prog : Program} {w : World} {A : Around} {E : Value → Shared → Prop} {s : Shared}
theorem places_ab (a b : Nat) (h : a ≤ b) : Builtin.Slice.slicePlaces (a : Int) (b : Int) 1 = b - a := by
  unfold Builtin.Slice.slicePlaces
  have h1 : (1 : Int) > 0 := by omega
  simp only [h1, if_true, Int.ediv_one]
  split <;> omega
theorem applied_to {sl : Addr} {b n : Nat} {v : Tok} {Q : Int × Int × Nat → Shared → Prop} (hs : s.heap.IsSliceOf sl .none (.int b v) .none) (hb : b ≤ n) (h : Q (((0 : Nat) : Int), 1, b - 0) s) :
    wpAny (model prog w) A (Builtin.Slice.sliceApplied (.ref sl) (pure (n : Int))) Q E s := by
  obtain ⟨os, hos, hcs, hds⟩ := id hs
  unfold Builtin.Slice.sliceApplied Builtin.Slice.sliceFields
  refine wpAny_bind (wpAny_bind (wpAny_field hos hds (x := .none) rfl (wpAny_bind (wpAny_field hos hds (x := .int b v) rfl (wpAny_bind (wpAny_field hos hds (x := .none) rfl (wpAny_pure ?_)))))))
  refine wpAny_bind (slicePart_none ?_)
  show wpAny _ _ (if ((1 : Int) == 0) = true then _ else _) _ _ s
  rw [if_neg (by decide)]
  refine wpAny_bind (slicePart_none (wpAny_bind (slicePart_int (wpAny_bind (wpAny_pure ?_)))))
  show wpAny _ _ (match Builtin.Slice.sliceAdjust none (some (b : Int)) 1 (n : Int) with | (lo, hi) => pure (lo, (1 : Int), Builtin.Slice.slicePlaces lo hi 1)) _ _ s
  rw [show Builtin.Slice.sliceAdjust none (some (b : Int)) 1 (n : Int) = (((0 : Nat) : Int), (b : Int)) from by
    unfold Builtin.Slice.sliceAdjust
    have h1 : ¬ ((1 : Int) < 0) := by omega
    have h2 : ¬ ((b : Int) < 0) := by omega
    simp only [h1, h2, if_false]
    congr 1
    omega]
  show wpAny _ _ (pure (((0 : Nat) : Int), (1 : Int), Builtin.Slice.slicePlaces ((0 : Nat) : Int) (b : Int) 1)) _ _ s
  rw [places_ab 0 b (Nat.zero_le _)]
  exact wpAny_pure h
theorem applied_ab {sl : Addr} {a b n : Nat} {u v : Tok} {Q : Int × Int × Nat → Shared → Prop} (hs : s.heap.IsSliceOf sl (.int a u) (.int b v) .none) (ha : a ≤ b) (hb : b ≤ n) (h : Q ((a : Int), 1, b - a) s) :
    wpAny (model prog w) A (Builtin.Slice.sliceApplied (.ref sl) (pure (n : Int))) Q E s := by
  obtain ⟨os, hos, hcs, hds⟩ := id hs
  unfold Builtin.Slice.sliceApplied Builtin.Slice.sliceFields
  refine wpAny_bind (wpAny_bind (wpAny_field hos hds (x := .int a u) rfl (wpAny_bind (wpAny_field hos hds (x := .int b v) rfl (wpAny_bind (wpAny_field hos hds (x := .none) rfl (wpAny_pure ?_)))))))
  refine wpAny_bind (slicePart_none ?_)
  show wpAny _ _ (if ((1 : Int) == 0) = true then _ else _) _ _ s
  rw [if_neg (by decide)]
  refine wpAny_bind (slicePart_int (wpAny_bind (slicePart_int (wpAny_bind (wpAny_pure ?_)))))
  show wpAny _ _ (match Builtin.Slice.sliceAdjust (some (a : Int)) (some (b : Int)) 1 (n : Int) with | (lo, hi) => pure (lo, (1 : Int), Builtin.Slice.slicePlaces lo hi 1)) _ _ s
  rw [show Builtin.Slice.sliceAdjust (some (a : Int)) (some (b : Int)) 1 (n : Int) = ((a : Int), (b : Int)) from by
    unfold Builtin.Slice.sliceAdjust
    have h1 : ¬ ((1 : Int) < 0) := by omega
    have h2 : ¬ ((a : Int) < 0) := by omega
    have h3 : ¬ ((b : Int) < 0) := by omega
    simp only [h1, h2, h3, if_false]
    congr 1 <;> omega]
  show wpAny _ _ (pure ((a : Int), (1 : Int), Builtin.Slice.slicePlaces (a : Int) (b : Int) 1)) _ _ s
  rw [places_ab a b ha]
  exact wpAny_pure h
/-- a tuple's piece, not the whole -/
theorem getItem_tup {t sl : Addr} {items : Array Value} {a b : Nat} {Q : Value → Shared → Prop} (ht : IsTup s.heap t items) {vl vu : Value} (hs : s.heap.IsSliceOf sl vl vu .none)
    (hap : ∀ (prog : Program) (w : World) (A : Around) (E : Value → Shared → Prop) (Q : Int × Int × Nat → Shared → Prop), Q ((a : Int), 1, b - a) s → wpAny (model prog w) A (Builtin.Slice.sliceApplied (.ref sl) (pure (items.size : Int))) Q E s)
    (hb : b - a < items.size)
    {its : List Value} (hi : ((List.range (b - a)).filterMap fun (k : Nat) => items[((a : Int) + (k : Int) * 1).toNat]?) = its)
    (h : Q (.ref s.heap.objs.size) { s with heap := s.heap.push { cls := .type "tuple", data := .seq its.toArray } })
    (hsz : its.length ≤ sizeLine := by size_fits) : wpAny (model prog w) A (getItem (.ref t) (.ref sl)) Q E s := by
  have hdrop : sizeOk (.seq its.toArray) := by
    show its.toArray.size ≤ sizeLine
    rw [List.size_toArray]; exact hsz
  obtain ⟨os, hos, hcs, hds⟩ := id hs
  have hTs : s.TypeIs (.ref sl) "slice" := ⟨os, hos, hcs⟩
  unfold getItem
  try with_reducible refine wpAny_holding ?_
  first | refine wpAny_bind (wpAny_pure ?_) | skip
  refine wpAny_bind (wpAny_sequenceKey ht.typeIs (by decide) ?_)
  refine wpAny_bind (wpAny_callSpecial?_slot (name := Str.ofString "__getitem__") ht.typeIs slot_tuple_getitem
    (wpAny_call_entry slot_tuple_getitem ht.typeIs entry_tuple_getitem ?_ (args_tuple_getitem _ _)))
  show wpAny _ _ (Builtin.Tuple.tupleItemsOf (.ref t) >>= _) _ _ s
  refine wpAny_bind (tupleItemsOf_ ht ?_)
  refine wpAny_bind (wpAny_typeOf hTs ?_)
  rw [if_pos (by decide)]
  refine wpAny_bind (hap _ _ _ _ _ ?_)
  have hno : ¬ (((a : Int) == 0 && (1 : Int) == 1 && (b - a) == items.size) = true) := by
    have : ((b - a) == items.size) = false := by rw [beq_eq_false_iff_ne]; omega
    rw [this]; simp
  show wpAny _ _ (if ((a : Int) == 0 && (1 : Int) == 1 && (b - a) == items.size) = true then _ else _) _ _ s
  rw [if_neg hno, hi]
  first
    | exact wpAny_bind (m := Builtin.Tuple.tupleExact _) (wpAny_newObj_type (wpAny_pure ⟨_, rfl, wpAny_pure h⟩) hdrop)
    | exact wpAny_bind (m := Builtin.Tuple.tupleExact _) (wpAny_newObj_type (wpAny_bind (wpAny_pure (wpAny_pure ⟨_, rfl, wpAny_pure h⟩))) hdrop)
    | exact wpAny_bind (wpAny_bind (m := Builtin.Tuple.tupleExact _) (wpAny_newObj_type (wpAny_pure (wpAny_pure ⟨_, rfl, wpAny_pure h⟩)) hdrop))
    | exact wpAny_bind (wpAny_bind (m := Builtin.Tuple.tupleExact _) (wpAny_newObj_type (wpAny_pure ⟨_, rfl, wpAny_pure h⟩) hdrop))
end
section
variable {prog : Program} {w : World} {A : Around} {E : Value → Shared → Prop} {s : Shared} {h₀ : Heap} {L : Addr} {m : Str → Option Value} {news : List (Addr × Obj)} {value slice : PySem.Expr} {t : Addr} {items : Array Value} {a b : Nat} {u v : Tok} {Q : Value → Shared → Prop} {its : List Value}
theorem tup_to (F : Fr h₀ L s.heap m) (N : News h₀ L s.heap news) (ht : IsTup s.heap t items) (hb : b < items.size)
    (hi : ((List.range b).filterMap fun (k : Nat) => items[k]?) = its)
    (h : ∀ D h', Fr h₀ L h' m → News h₀ L h' ((D, { cls := .type "tuple", data := .seq its.toArray }) :: news) → (∀ p ∈ news, p.1 < D) → Q (.ref D) { s with heap := h' })
    (hs : subscripted slice false (.ref t) (.ref s.heap.objs.size) = operate [.ref s.heap.objs.size, .ref t] (getItem (.ref t) (.ref s.heap.objs.size)))
    (hg : ∀ r, letTemporaryGo value (.ref t) r = pure ())
    (hsz : its.length ≤ sizeLine) :
    wpAny (model prog w) A (subscriptTail value slice (.ref t) (.ref s.heap.objs.size)) Q E { s with heap := s.heap.push { cls := .type "slice", data := .fields #[.none, .int b v, .none] } } := by
  have ht' : IsTup (s.heap.push { cls := .type "slice", data := .fields #[.none, .int b v, .none] }) t items := ht.keeps fun _ _ e => Heap.get?_push_of_some _ e
  refine subscriptTail_ops (s := { s with heap := s.heap.push { cls := .type "slice", data := .fields #[.none, .int b v, .none] } }) ht'.typeIs slot_tuple_getitem.lookup
    (getItem_tup (a := 0) (b := b) (its := its) ht' (Heap.IsSliceOf.new ..) (fun _ _ _ _ _ hq => applied_to (Heap.IsSliceOf.new ..) (Nat.le_of_lt hb) hq) hb ?_ ?_ hsz) hs hg
  · rw [← hi, Nat.sub_zero]
    have e : (fun (k : Nat) => items[(((0 : Nat) : Int) + (k : Int) * 1).toNat]?) = fun k => items[k]? := by
      funext k
      have : (((0 : Nat) : Int) + (k : Int) * 1).toNat = k := by omega
      rw [this]
    rw [e]
  · have N1 := News.push (F.push { cls := .type "slice", data := .fields #[.none, .int b v, .none] }) (N.grown fun _ _ e => Heap.get?_push_of_some _ e) { cls := .type "tuple", data := .seq its.toArray }
    rw [Heap.size_push] at N1
    show Q (.ref (s.heap.push _).objs.size) _
    rw [Heap.size_push]
    exact h _ _ ((F.push _).push _) N1 fun p hp => Nat.lt_succ_of_lt (Heap.lt_size (N p hp).1)
theorem tup_ab (F : Fr h₀ L s.heap m) (N : News h₀ L s.heap news) (ht : IsTup s.heap t items) (ha : a ≤ b) (hb : b ≤ items.size) (hb' : b - a < items.size)
    (hi : ((List.range (b - a)).filterMap fun (k : Nat) => items[a + k]?) = its)
    (h : ∀ D h', Fr h₀ L h' m → News h₀ L h' ((D, { cls := .type "tuple", data := .seq its.toArray }) :: news) → (∀ p ∈ news, p.1 < D) → Q (.ref D) { s with heap := h' })
    (hs : subscripted slice false (.ref t) (.ref s.heap.objs.size) = operate [.ref s.heap.objs.size, .ref t] (getItem (.ref t) (.ref s.heap.objs.size)))
    (hg : ∀ r, letTemporaryGo value (.ref t) r = pure ())
    (hsz : its.length ≤ sizeLine) :
    wpAny (model prog w) A (subscriptTail value slice (.ref t) (.ref s.heap.objs.size)) Q E { s with heap := s.heap.push { cls := .type "slice", data := .fields #[.int a u, .int b v, .none] } } := by
  have ht' : IsTup (s.heap.push { cls := .type "slice", data := .fields #[.int a u, .int b v, .none] }) t items := ht.keeps fun _ _ e => Heap.get?_push_of_some _ e
  refine subscriptTail_ops (s := { s with heap := s.heap.push { cls := .type "slice", data := .fields #[.int a u, .int b v, .none] } }) ht'.typeIs slot_tuple_getitem.lookup
    (getItem_tup (a := a) (b := b) (its := its) ht' (Heap.IsSliceOf.new ..) (fun _ _ _ _ _ hq => applied_ab (Heap.IsSliceOf.new ..) ha hb hq) hb' ?_ ?_ hsz) hs hg
  · rw [← hi]
    have e : (fun (k : Nat) => items[((a : Int) + (k : Int) * 1).toNat]?) = fun k => items[a + k]? := by
      funext k
      have : ((a : Int) + (k : Int) * 1).toNat = a + k := by omega
      rw [this]
    rw [e]
  · have N1 := News.push (F.push { cls := .type "slice", data := .fields #[.int a u, .int b v, .none] }) (N.grown fun _ _ e => Heap.get?_push_of_some _ e) { cls := .type "tuple", data := .seq its.toArray }
    rw [Heap.size_push] at N1
    show Q (.ref (s.heap.push _).objs.size) _
    rw [Heap.size_push]
    exact h _ _ ((F.push _).push _) N1 fun p hp => Nat.lt_succ_of_lt (Heap.lt_size (N p hp).1)
end
end Mine

end
section
open PySem.Sre PySem.Sre.M
set_option maxRecDepth 100000
namespace Mine
noncomputable abbrev SM := PySem.Sre.M
/-- another text, another end -/
noncomputable def withT (t : Array Nat) (l : Nat) (m : SM) : SM := { m with text := t, lim := l }
structure Same (t1 t2 : Array Nat) : Prop where
  ok : ∀ i, i < t1.size → t1.getD i 0 = t2.getD i 0 ∨ (∃ a b, a < 10 ∧ b < 10 ∧ t1.getD i 0 = 48 + a ∧ t2.getD i 0 = 48 + b)
noncomputable def sameA : Except String (Bool × Seen) → Except String (Bool × Seen) → Bool
  | .ok (b, s), .ok (b', s') => b == b' && s.words == s'.words && s.others == s'.others
  | _, _ => false
theorem sameA_eq {x y : Except String (Bool × Seen)} (h : sameA x y = true) : x = y := by
  unfold sameA at h
  split at h
  · rename_i b s b' s'
    obtain ⟨w, o⟩ := s
    obtain ⟨w', o'⟩ := s'
    simp only [Bool.and_eq_true, beq_iff_eq] at h
    obtain ⟨⟨rfl, rfl⟩, rfl⟩ := h
    rfl
  · cases h
noncomputable def figs (code : Array Nat) (pc : Nat) (seen : Seen) : Bool := (List.range 10).all fun d => sameA (accepts code pc (48 + d) seen) (accepts code pc 48 seen)
theorem figs_eq {code : Array Nat} {pc : Nat} {seen : Seen} (h : figs code pc seen = true) {a b : Nat} (ha : a < 10) (hb : b < 10) : accepts code pc (48 + a) seen = accepts code pc (48 + b) seen := by
  have h' := List.all_eq_true.mp h
  rw [sameA_eq (h' a (List.mem_range.mpr ha)), sameA_eq (h' b (List.mem_range.mpr hb))]
noncomputable def okOp (m : SM) : Bool :=
  if m.code.getD m.pc 0 = 16 ∨ m.code.getD m.pc 0 = 13 then decide (m.pos < m.lim) && decide (m.pos < m.text.size) && figs m.code m.pc (m.seen.add (m.code.getD m.pc 0))
  else if m.code.getD m.pc 0 = 1 then !m.wholeText
  else decide (m.code.getD m.pc 0 = 17 ∨ m.code.getD m.pc 0 = 23 ∨ m.code.getD m.pc 0 = 18 ∨ m.code.getD m.pc 0 = 0 ∨ m.code.getD m.pc 0 = 14 ∨ m.code.getD m.pc 0 = 15)
noncomputable def okWait (m : SM) (f : PySem.Sre.Frame) (yes : Bool) : Bool := match f.wait with
  | .nextStart => yes || !decide (f.pos < m.lastStart)
  | .closeLoop | .maxBelow | .maxMore | .maxTail => true
  | _ => false
noncomputable def okStep (m : SM) : Bool := match m.outcome with
  | some _ => true
  | none => match m.answer, m.frames with
    | some _, [] => true
    | some yes, f :: _ => okWait m f yes
    | none, _ => okOp m
section
variable {m : SM} {t : Array Nat} {l : Nat}
theorem attempt_T (f : PySem.Sre.Frame) (a b : Nat) (o : Bool) : (withT t l m).attempt f a b o = withT t l (m.attempt f a b o) := by
  unfold M.attempt
  show (if m.weight + 1 + f.kept.marks.size > 16777216 then _ else _) = _
  split <;> rfl
theorem say_T (b : Bool) : (withT t l m).say b = withT t l (m.say b) := rfl
theorem mark_T (i : Nat) : (withT t l m).mark i = withT t l (m.mark i) := rfl
theorem keep_T (b : Bool) : (withT t l m).keep b = m.keep b := rfl
theorem putBack_T (k : Kept) : (withT t l m).putBack k = withT t l (m.putBack k) := rfl
theorem setLoop_T (i : Nat) (f : Loop → Loop) : (withT t l m).setLoop i f = withT t l (m.setLoop i f) := rfl
theorem afterLoop_T (w : Wait) (i : Nat) (c : Int) (g : Option Nat → Bool) : (withT t l m).afterLoop w i c g = withT t l (m.afterLoop w i c g) := by
  unfold M.afterLoop
  exact attempt_T (m := { m with inner := (m.loopAt i).outer }) _ _ _ _
theorem round_T (w : Wait) (i : Nat) (c : Int) (g : Bool) (k : Kept) : (withT t l m).round w i c g k = withT t l (m.round w i c g k) := by
  unfold M.round
  exact attempt_T (m := m.setLoop i fun l => { l with count := c, began := if g then some m.pos else l.began }) _ _ _ _
theorem until_T : (withT t l m).until_ true = withT t l (m.until_ true) := by
  unfold M.until_
  show (match m.inner with | none => _ | some i => _) = _
  cases m.inner with
  | none => rfl
  | some i =>
    dsimp only
    show (if (m.loopAt i).count + 1 < (m.code.getD ((m.loopAt i).pc + 2) 0 : Nat) then _ else _) = _
    split
    · exact round_T _ _ _ _ _
    · simp only [Bool.not_true, Bool.false_eq_true, if_false]
      show (if (((m.loopAt i).count + 1 < (m.code.getD ((m.loopAt i).pc + 3) 0 : Nat) || m.code.getD ((m.loopAt i).pc + 3) 0 == maxRepeat) && (m.loopAt i).began != some m.pos) = true then _ else _) = _
      split
      · exact round_T _ _ _ _ _
      · exact afterLoop_T _ _ _ _
theorem resume_T {f : PySem.Sre.Frame} {yes : Bool} (h : okWait m f yes = true) : (withT t l m).resume f yes = withT t l (m.resume f yes) := by
  unfold okWait at h
  unfold M.resume
  cases hw : f.wait <;> rw [hw] at h <;> dsimp only at h ⊢ <;> first | cases h | skip
  · show (if yes = true then _ else if f.pos < m.lastStart then _ else _) = _
    cases yes with
    | true => rfl
    | false =>
      have : ¬ f.pos < m.lastStart := by simpa using h
      rw [if_neg (by decide), if_neg this, if_neg (by decide), if_neg this]
      rfl
  · rfl
  · cases yes <;> rfl
  · cases yes
    · simp only [Bool.false_eq_true, if_false]
      exact afterLoop_T (m := ((m.setLoop f.loop fun l => { l with began := f.began }).putBack f.kept).setLoop f.loop fun l => { l with count := f.count - 1 }) _ _ _ _
    · rfl
  · rfl
noncomputable def runLITERAL (m : SM) : { r : SM // ops[m.word 0]? = some .LITERAL → m.exec = r } := by
  refine ⟨?r, fun ho => ?p⟩
  case p =>
    unfold M.exec
    rw [ho]
noncomputable def runIN (m : SM) : { r : SM // ops[m.word 0]? = some .IN → m.exec = r } := by
  refine ⟨?r, fun ho => ?p⟩
  case p =>
    unfold M.exec
    rw [ho]
noncomputable def runSUCCESS (m : SM) : { r : SM // ops[m.word 0]? = some .SUCCESS → m.exec = r } := by
  refine ⟨?r, fun ho => ?p⟩
  case p =>
    unfold M.exec
    rw [ho]
noncomputable def runMARK (m : SM) : { r : SM // ops[m.word 0]? = some .MARK → m.exec = r } := by
  refine ⟨?r, fun ho => ?p⟩
  case p =>
    unfold M.exec
    rw [ho]
noncomputable def runREPEAT (m : SM) : { r : SM // ops[m.word 0]? = some .REPEAT → m.exec = r } := by
  refine ⟨?r, fun ho => ?p⟩
  case p =>
    unfold M.exec
    rw [ho]
noncomputable def runMAX_UNTIL (m : SM) : { r : SM // ops[m.word 0]? = some .MAX_UNTIL → m.exec = r } := by
  refine ⟨?r, fun ho => ?p⟩
  case p =>
    unfold M.exec
    rw [ho]
noncomputable def runFAILURE (m : SM) : { r : SM // ops[m.word 0]? = some .FAILURE → m.exec = r } := by
  refine ⟨?r, fun ho => ?p⟩
  case p =>
    unfold M.exec
    rw [ho]
noncomputable def runINFO (m : SM) : { r : SM // ops[m.word 0]? = some .INFO → m.exec = r } := by
  refine ⟨?r, fun ho => ?p⟩
  case p =>
    unfold M.exec
    rw [ho]
noncomputable def runJUMP (m : SM) : { r : SM // ops[m.word 0]? = some .JUMP → m.exec = r } := by
  refine ⟨?r, fun ho => ?p⟩
  case p =>
    unfold M.exec
    rw [ho]
theorem exec_T (hs : Same m.text t) (hl : m.lim ≤ l) (h : okOp m = true) : (withT t l m).exec = withT t l m.exec := by
  unfold okOp at h
  by_cases c1 : m.code.getD m.pc 0 = 16 ∨ m.code.getD m.pc 0 = 13
  · rw [if_pos c1] at h
    simp only [Bool.and_eq_true, decide_eq_true_eq] at h
    obtain ⟨⟨h1, h2⟩, h3⟩ := h
    have hacc : accepts m.code m.pc (t.getD m.pos 0) (m.seen.add (m.code.getD m.pc 0)) = accepts m.code m.pc (m.text.getD m.pos 0) (m.seen.add (m.code.getD m.pc 0)) := by
      rcases hs.ok m.pos h2 with e | ⟨a, b, ha, hb, e1, e2⟩
      · rw [e]
      · rw [e1, e2]; exact figs_eq h3 hb ha
    have key : (runLITERAL (withT t l m)).1 = withT t l (runLITERAL m).1 := by
      show (if m.pos ≥ l then _ else match accepts m.code m.pc (t.getD m.pos 0) (m.seen.add (m.code.getD m.pc 0)) with | .error why => _ | .ok (false, seen) => _ | .ok (true, seen) => _) =
        withT t l (if m.pos ≥ m.lim then _ else match accepts m.code m.pc (m.text.getD m.pos 0) (m.seen.add (m.code.getD m.pc 0)) with | .error why => _ | .ok (false, seen) => _ | .ok (true, seen) => _)
      rw [if_neg (by omega), if_neg (by omega), hacc]
      cases accepts m.code m.pc (m.text.getD m.pos 0) (m.seen.add (m.code.getD m.pc 0)) with
      | error why => rfl
      | ok x =>
        obtain ⟨b, s⟩ := x
        cases b <;> rfl
    rcases c1 with e | e
    · have ho : ops[m.word 0]? = some .LITERAL := by rw [show m.word 0 = 16 from e]; rfl
      rw [(runLITERAL (withT t l m)).2 ho, (runLITERAL m).2 ho]
      exact key
    · have ho : ops[m.word 0]? = some .IN := by rw [show m.word 0 = 13 from e]; rfl
      rw [(runIN (withT t l m)).2 ho, (runIN m).2 ho]
      exact key
  · rw [if_neg c1] at h
    clear c1
    by_cases c2 : m.code.getD m.pc 0 = 1
    · rw [if_pos c2] at h
      have ho : ops[m.word 0]? = some .SUCCESS := by rw [show m.word 0 = 1 from c2]; rfl
      have hwt : m.wholeText = false := by simpa using h
      rw [(runSUCCESS (withT t l m)).2 ho, (runSUCCESS m).2 ho]
      show (if (m.outermost && ((m.wholeText && m.pos != l) || (m.mustAdvance && m.pos == m.start))) = true then _ else _) = withT t l (if (m.outermost && ((m.wholeText && m.pos != m.lim) || (m.mustAdvance && m.pos == m.start))) = true then _ else _)
      have e1 : (m.wholeText && m.pos != l) = false := by rw [hwt]; rfl
      have e2 : (m.wholeText && m.pos != m.lim) = false := by rw [hwt]; rfl
      rw [e1, e2]
      by_cases c : (m.outermost && (false || (m.mustAdvance && m.pos == m.start))) = true
      · rw [if_pos c, if_pos c]; rfl
      · rw [if_neg c, if_neg c]; rfl
    · rw [if_neg c2] at h
      have h' := of_decide_eq_true h
      clear h c2
      rcases h' with e | e | e | e | e | e
      · have ho : ops[m.word 0]? = some .MARK := by rw [show m.word 0 = 17 from e]; rfl
        rw [(runMARK (withT t l m)).2 ho, (runMARK m).2 ho]
        rfl
      · have ho : ops[m.word 0]? = some .REPEAT := by rw [show m.word 0 = 23 from e]; rfl
        rw [(runREPEAT (withT t l m)).2 ho, (runREPEAT m).2 ho]
        exact attempt_T (m := { m with seen := m.seen.add (m.code.getD m.pc 0), loops := m.loops.push { pc := m.pc, outer := m.inner }, inner := some m.loops.size }) _ _ _ _
      · have ho : ops[m.word 0]? = some .MAX_UNTIL := by rw [show m.word 0 = 18 from e]; rfl
        rw [(runMAX_UNTIL (withT t l m)).2 ho, (runMAX_UNTIL m).2 ho]
        exact until_T (m := { m with seen := m.seen.add (m.code.getD m.pc 0), pc := m.pc + 1 })
      · have ho : ops[m.word 0]? = some .FAILURE := by rw [show m.word 0 = 0 from e]; rfl
        rw [(runFAILURE (withT t l m)).2 ho, (runFAILURE m).2 ho]
        rfl
      · have ho : ops[m.word 0]? = some .INFO := by rw [show m.word 0 = 14 from e]; rfl
        rw [(runINFO (withT t l m)).2 ho, (runINFO m).2 ho]
        rfl
      · have ho : ops[m.word 0]? = some .JUMP := by rw [show m.word 0 = 15 from e]; rfl
        rw [(runJUMP (withT t l m)).2 ho, (runJUMP m).2 ho]
        rfl
theorem step_run (ho : m.outcome = none) (ha : m.answer = none) : m.step = if m.pc < m.code.size then m.exec else m.stick "code:ran-off" := by
  cases m
  dsimp only at ho ha
  subst ho; subst ha; rfl
theorem step_end {yes : Bool} (ho : m.outcome = none) (ha : m.answer = some yes) (hf : m.frames = []) : m.step = { m with outcome := some (if yes then .matched else .failed) } := by
  cases m
  dsimp only at ho ha hf
  subst ho; subst ha; subst hf; rfl
theorem step_res {yes : Bool} {f : PySem.Sre.Frame} {rest : List PySem.Sre.Frame} (ho : m.outcome = none) (ha : m.answer = some yes) (hf : m.frames = f :: rest) : m.step = M.resume { m with answer := none, frames := rest, weight := m.weight - (1 + f.kept.marks.size), pc := f.pc, pos := f.pos, outermost := f.outermost } f yes := by
  cases m
  dsimp only at ho ha hf
  subst ho; subst ha; subst hf; rfl
theorem step_out {o : Outcome} (ho : m.outcome = some o) : m.step = m := by
  unfold M.step; rw [ho]; rfl
theorem step_T (hs : Same m.text t) (hl : m.lim ≤ l) (h : okStep m = true) : (withT t l m).step = withT t l m.step := by
  unfold okStep at h
  cases ho : m.outcome with
  | some o => rw [step_out ho, step_out (m := withT t l m) ho]
  | none =>
    rw [ho] at h
    cases ha : m.answer with
    | none =>
      rw [ha] at h
      rw [step_run ho ha, step_run (m := withT t l m) ho ha]
      show (if m.pc < m.code.size then _ else _) = _
      split
      · exact exec_T hs hl h
      · rfl
    | some yes =>
      rw [ha] at h
      cases hf : m.frames with
      | nil => rw [step_end ho ha hf, step_end (m := withT t l m) ho ha hf]; rfl
      | cons f rest =>
        rw [hf] at h
        rw [step_res ho ha hf, step_res (m := withT t l m) ho ha hf]
        exact resume_T (m := { m with answer := none, frames := rest, weight := m.weight - (1 + f.kept.marks.size), pc := f.pc, pos := f.pos, outermost := f.outermost }) h
end
end Mine

end
section
open PySem PySem.Sre PySem.Sre.M
set_option maxRecDepth 100000
namespace Mine
noncomputable def okRun : Nat → SM → Bool
  | 0, _ => true
  | n + 1, m => m.outcome.isSome || (okStep m && (m.step.text == m.text) && (m.step.lim == m.lim) && okRun n m.step)
theorem run_T {t : Array Nat} {l : Nat} : ∀ (n : Nat) (m : SM), Same m.text t → m.lim ≤ l → okRun n m = true → (withT t l m).runFor n = withT t l (m.runFor n)
  | 0, _, _, _, _ => rfl
  | n + 1, m, hs, hl, h => by
    unfold okRun at h
    unfold M.runFor
    show (if m.outcome.isSome = true then withT t l m else runFor n (withT t l m).step) = _
    by_cases ho : m.outcome.isSome = true
    · rw [if_pos ho, if_pos ho]
    · rw [if_neg ho, if_neg ho]
      simp only [Bool.or_eq_true, Bool.and_eq_true, beq_iff_eq] at h
      obtain ⟨⟨⟨h1, h2⟩, h3⟩, h4⟩ := h.resolve_left ho
      rw [step_T hs hl h1]
      exact run_T n m.step (h2 ▸ hs) (h3 ▸ hl) h4
noncomputable def goes : Nat → SM → Option SM
  | 0, _ => none
  | n + 1, m => if (m.runFor 4).outcome.isSome then some (m.runFor 4) else goes n (m.runFor 4)
noncomputable def okGoes : Nat → SM → Bool
  | 0, _ => true
  | n + 1, m => okRun 4 m && ((m.runFor 4).text == m.text) && ((m.runFor 4).lim == m.lim) && ((m.runFor 4).outcome.isSome || okGoes n (m.runFor 4))
theorem goes_T {t : Array Nat} {l : Nat} : ∀ (n : Nat) (m : SM), Same m.text t → m.lim ≤ l → okGoes n m = true → goes n (withT t l m) = (goes n m).map (withT t l)
  | 0, _, _, _, _ => rfl
  | n + 1, m, hs, hl, h => by
    unfold okGoes at h
    simp only [Bool.or_eq_true, Bool.and_eq_true, beq_iff_eq] at h
    obtain ⟨⟨⟨h1, h2⟩, h3⟩, h4⟩ := h
    unfold goes
    rw [run_T 4 m hs hl h1]
    show (if (m.runFor 4).outcome.isSome = true then _ else _) = _
    by_cases ho : (m.runFor 4).outcome.isSome = true
    · rw [if_pos ho, if_pos ho]; rfl
    · rw [if_neg ho, if_neg ho]
      exact goes_T n _ (h2 ▸ hs) (h3 ▸ hl) (h4.resolve_left ho)
noncomputable def CODE : Array Nat := #[14, 7, 4, 5, 20, 8, 0, 0, 17, 0, 13, 4, 8, 0, 0, 13, 4, 8, 0, 0, 13, 4, 8, 0, 0, 13, 4, 8, 0, 0, 17, 1, 23, 103, 0, 1, 16, 45, 17, 2, 13, 4, 8, 0, 0, 13, 4, 8, 0, 0, 17, 3, 23, 82, 0, 1, 16, 45, 17, 4, 13, 4, 8, 0, 0, 13, 4, 8, 0, 0, 17, 5, 23, 61, 0, 1, 16, 84, 17, 6, 13, 4, 8, 0, 0, 13, 4, 8, 0, 0, 17, 7, 23, 40, 0, 1, 16, 58, 17, 8, 13, 4, 8, 0, 0, 13, 4, 8, 0, 0, 17, 9, 23, 19, 0, 1, 16, 58, 17, 10, 13, 4, 8, 0, 0, 13, 4, 8, 0, 0, 17, 11, 18, 18, 18, 18, 18, 16, 90, 1]
noncomputable def T0 : Array Nat := #[48, 48, 48, 48, 45, 48, 48, 45, 48, 48, 84, 48, 48, 58, 48, 48, 58, 48, 48, 90]
noncomputable def M0 : SM := forMatch CODE T0 6 0 20 false false
noncomputable def MARKS : Array (Option Nat) := #[some 0, some 4, some 5, some 7, some 8, some 10, some 11, some 13, some 14, some 16, some 17, some 19]
noncomputable def chk : Option SM → Bool
  | some m => (match m.outcome with | some .matched => true | _ => false) && m.lastindex == 6 && m.start == 0 && m.handed == 20 && m.lastmark == 11 && m.marks == MARKS
  | none => false
end Mine
set_option maxHeartbeats 400000
theorem Mine.ok0 : Mine.okGoes 40 Mine.M0 = true := by decide +kernel
theorem Mine.chk0 : Mine.chk (Mine.goes 40 Mine.M0) = true := by decide +kernel

end
section
open PySem PySem.W PyProof.Rows PySem.Calls PySem.Spec PySem.Builtin.Re
set_option maxRecDepth 100000
namespace Mine
section
variable {α : Type} {M : Model} {A : Around} {E : Value → Shared → Prop} {s : Shared}
theorem drive_ {Q : SM → Shared → Prop} : ∀ (n turns : Nat) (m m' : SM), goes n m = some m' → n ≤ turns → Q m' s → wpAny M A (reDrive turns m) Q E s
  | 0, _, _, _, h, _, _ => by cases h
  | n + 1, 0, _, _, _, h, _ => absurd h (by omega)
  | n + 1, turns + 1, m, m', h, hn, hq => by
    unfold goes at h
    unfold reDrive
    show wpAny M A (if (m.runFor 4).outcome.isSome = true then pure (m.runFor 4) else _) Q E s
    by_cases ho : (m.runFor 4).outcome.isSome = true
    · rw [if_pos ho] at h ⊢
      cases h
      exact wpAny_pure hq
    · rw [if_neg ho] at h ⊢
      exact wpAny_bind (wpAny_rule (drive_ n turns _ m' h (Nat.le_of_succ_le_succ hn) hq))
theorem rules_ {f : Nat → Bool} {g : Nat → String} {Q : PUnit → Shared → Prop} (h : Q ⟨⟩ s) : ∀ (l : List Nat), wpAny M A (forIn l PUnit.unit fun i _ => if f i = true then (do rule (g i); pure (ForInStep.yield PUnit.unit)) else pure (ForInStep.yield PUnit.unit)) Q E s
  | [] => by rw [List.forIn_nil]; exact wpAny_pure h
  | i :: l => by
    rw [List.forIn_cons]
    by_cases hf : f i = true
    · rw [if_pos hf]; exact wpAny_bind (wpAny_bind (wpAny_rule (wpAny_pure (rules_ h l))))
    · rw [if_neg hf]; exact wpAny_bind (wpAny_pure (rules_ h l))
theorem runToEnd_ {m m' : SM} {n : Nat} {Q : Option SM → Shared → Prop} (hg : goes n m = some m') (hn : n ≤ 1000) (ho : m'.outcome = some .matched) (hq : Q (some m') s) : wpAny M A (reRunToEnd m) Q E s := by
  unfold reRunToEnd
  refine wpAny_bind (drive_ n (2 ^ 64) m m' hg (Nat.le_trans hn (by decide)) ?_)
  refine wpAny_bind ?_
  refine rules_ (f := fun i => m'.seen.has i) (g := fun i => PySem.Sre.names.getD i "") ?_ _
  rw [ho]
  exact wpAny_pure hq
end
noncomputable def CODEV : Array Value := CODE.map fun (n : Nat) => Value.int (n : Int) 0
theorem codev : (CODEV.map Builtin.Re.reRawOf).map (·.toNat) = CODE := by decide +kernel
/-- the pattern's three objects -/
structure PatAt (h : Heap) (P gi ct : Addr) : Prop where
  pat : ∃ dt sl src ts tf ix, h.get? P = some ⟨.type "re.Pattern", dt, .fields #[.str src ts, .int 256 tf, .int 6 0, .ref gi, ix, .ref ct, .int 0 0], sl⟩
  code : ∃ dt sl n, h.get? ct = some ⟨.type "tuple", dt, .seq CODEV n, sl⟩
/-- the texts the pattern takes: 20 signs, digits where the form has digits -/
noncomputable def stamped (l : List Nat) : Prop := Same T0 l.toArray
theorem start_ (l : List Nat) : Sre.forMatch CODE l.toArray 6 0 20 false false = withT l.toArray 20 M0 := rfl
section
variable {prog : Program} {w : World} {A : Around} {E : Value → Shared → Prop} {s : Shared}
theorem wpAny_ifF {α : Type} {M : Model} {c : Prop} [Decidable c] {a b : Sem α} {Q : α → Shared → Prop} (hc : ¬ c) (h : wpAny M A b Q E s) : wpAny M A (if c then a else b) Q E s := by rw [if_neg hc]; exact h
theorem named1 (f id : String) (v : Value) : reNamed id f ["string", "pos", "endpos"] 1 [v] [] = pure [some v, none, none] := by with_unfolding_all rfl
theorem textOf_ (l : List Nat) (t : Tok) {Q : Array Nat × Nat → Shared → Prop} (h : Q (l.toArray, 0) s) : wpAny (model prog w) A (reTextOf (.str (tx l) t)) Q E s := by
  unfold reTextOf asStr?
  rw [tx_def]
  exact wpAny_bind (wpAny_pure (wpAny_pure h))
theorem rawItems_ {a : Addr} {o : Obj} {items : Array Value} {n : Nat} {Q : Array Int → Shared → Prop} (ho : s.heap.get? a = some o) (hd : o.data = .seq items n) (h : Q (items.map reRawOf) s) : wpAny (model prog w) A (reRawItems (.ref a)) Q E s := by
  unfold reRawItems
  exact wpAny_bind (wpAny_seqItems ho hd (wpAny_pure h))
theorem target_ {P gi ct : Addr} {l : List Nat} {t : Tok} {Q : ReTarget → Shared → Prop} (hP : PatAt s.heap P gi ct) (hl : l.length = 20)
    (hq : Q { pattern := .ref P, string := .str (tx l) t, code := CODE, text := l.toArray, kind := 0, groups := 6, pos := 0, lim := 20 } s) :
    wpAny (model prog w) A (reTarget "re.Pattern.match" "match" ⟨[.ref P, .str (tx l) t], []⟩) Q E s := by
  obtain ⟨⟨dt, sl, src, ts, tf, ix, hp⟩, ⟨dt', sl', n, hc⟩⟩ := hP
  unfold reTarget
  dsimp only
  rw [named1]
  refine wpAny_bind (wpAny_pure ?_)
  dsimp only
  refine wpAny_bind (wpAny_pure ?_)
  refine wpAny_bind (wpAny_pure ?_)
  refine wpAny_bind (wpAny_fieldsOf hp rfl ?_)
  refine wpAny_bind (textOf_ l t ?_)
  refine wpAny_ifF Bool.false_ne_true ?_
  refine wpAny_ifF Bool.false_ne_true ?_
  refine wpAny_bind (wpAny_ifF Bool.false_ne_true (wpAny_pure ?_))
  refine wpAny_bind (rawItems_ hc rfl (wpAny_pure ?_))
  have e1 : min (Int.toNat 0) l.toArray.size = 0 := Nat.zero_min _
  have e2 : min (2 ^ 63 - 1 : Int).toNat l.toArray.size = 20 := by rw [List.size_toArray, hl]; decide
  dsimp only
  rw [e1, e2, codev]
  exact hq
theorem chk_of {o : Option SM} (h : chk o = true) : ∃ m, o = some m ∧ m.outcome = some .matched ∧ m.lastindex = 6 ∧ m.start = 0 ∧ m.handed = 20 ∧ m.lastmark = 11 ∧ m.marks = MARKS := by
  cases o with
  | none => cases h
  | some m =>
    unfold chk at h
    simp only [Bool.and_eq_true, beq_iff_eq] at h
    obtain ⟨⟨⟨⟨⟨h1, h2⟩, h3⟩, h4⟩, h5⟩, h6⟩ := h
    refine ⟨m, rfl, ?_, h2, h3, h4, h5, h6⟩
    split at h1
    · assumption
    · cases h1
noncomputable abbrev SPANS : Array Value := #[.int 0 0, .int 20 0, .int 0 0, .int 4 0, .int 5 0, .int 7 0, .int 8 0, .int 10 0, .int 11 0, .int 13 0, .int 14 0, .int 16 0, .int 17 0, .int 19 0]
theorem newMatch_ {P S : Value} {m : SM} {Q : Value → Shared → Prop} (h2 : m.lastindex = 6) (h3 : m.start = 0) (h4 : m.handed = 20) (h5 : m.lastmark = 11) (h6 : m.marks = MARKS)
    (hq : Q (.ref (s.heap.objs.size + 1)) { s with heap := (s.heap.push { cls := .type "tuple", data := .seq SPANS }).push { cls := .type "re.Match", data := .fields #[S, P, .int 0 0, .int 20 0, .int 6 0, .ref s.heap.objs.size] } }) :
    wpAny (model prog w) A (reNewMatch P S 6 0 20 m) Q E s := by
  unfold reNewMatch
  rw [h2, h3, h4, h5, h6]
  refine wpAny_ifF Bool.false_ne_true ?_
  unfold newTuple newFields
  refine wpAny_bind (wpAny_newObj_type (data := .seq SPANS) (wpAny_newObj_type (data := .fields #[S, P, .int 0 0, .int 20 0, .int 6 0, .ref s.heap.objs.size]) ?_ (Nat.le_of_ble_eq_true rfl)) (Nat.le_of_ble_eq_true rfl))
  rw [Heap.size_push]
  exact hq
theorem match_ {P gi ct : Addr} {l : List Nat} {t : Tok} {Q : PySem.Fin → Shared → Prop} (hP : PatAt s.heap P gi ct) (hl : l.length = 20) (hs : stamped l)
    (hq : Q (.done (.ret (.ref (s.heap.objs.size + 1)))) { s with heap := (s.heap.push { cls := .type "tuple", data := .seq SPANS }).push { cls := .type "re.Match", data := .fields #[.str (tx l) t, .ref P, .int 0 0, .int 20 0, .int 6 0, .ref s.heap.objs.size] } }) :
    wpAny (model prog w) A (Builtin.«re.Pattern.match» ⟨[.ref P, .str (tx l) t], []⟩) Q E s := by
  unfold Builtin.«re.Pattern.match»
  refine wpAny_bind (target_ hP hl ?_)
  unfold reAnswer
  dsimp only
  rw [start_]
  obtain ⟨m, hm, h1, h2, h3, h4, h5, h6⟩ := chk_of chk0
  refine wpAny_bind (runToEnd_ (m' := withT l.toArray 20 m) (n := 40) ?_ (by decide) h1 ?_)
  · rw [goes_T 40 M0 hs (by decide) ok0, hm]; rfl
  · exact wpAny_bind (newMatch_ h2 h3 h4 h5 h6 (wpAny_pure hq))
end
end Mine

end
section
open PySem PySem.W PyProof.Rows PySem.Calls PySem.Spec PySem.Builtin.Re
set_option maxRecDepth 100000
namespace Mine
noncomputable abbrev nYear : Str := Str.ofString "year"
noncomputable abbrev nMonth : Str := Str.ofString "month"
noncomputable abbrev nDay : Str := Str.ofString "day"
noncomputable abbrev nHour : Str := Str.ofString "hour"
noncomputable abbrev nMinute : Str := Str.ofString "minute"
noncomputable abbrev nSecond : Str := Str.ofString "second"
/-- the dict of the groups' names -/
structure NamesAt (w : World) (h : Heap) (gi : Addr) : Prop where
  mk ::
  at_ : ∃ ep a1 a2 a3 a4 a5 a6 b1 b2 b3 b4 b5 b6, h.get? gi = some ⟨.type "dict", none, .dict #[⟨hashStr w nYear, .str nYear a1, .int 1 b1⟩, ⟨hashStr w nMonth, .str nMonth a2, .int 2 b2⟩, ⟨hashStr w nDay, .str nDay a3, .int 3 b3⟩, ⟨hashStr w nHour, .str nHour a4, .int 4 b4⟩, ⟨hashStr w nMinute, .str nMinute a5, .int 5 b5⟩, ⟨hashStr w nSecond, .str nSecond a6, .int 6 b6⟩] ep, #[]⟩
theorem PatAt.keeps {h h' : Heap} {P gi ct : Addr} (x : PatAt h P gi ct) (hk : ∀ b o, h.get? b = some o → h'.get? b = some o) : PatAt h' P gi ct :=
  let ⟨⟨a, b, c, d, e, f, p⟩, ⟨a', b', c', q⟩⟩ := x
  ⟨⟨a, b, c, d, e, f, hk _ _ p⟩, ⟨a', b', c', hk _ _ q⟩⟩
section
variable {prog : Program} {w : World} {A : Around} {E : Value → Shared → Prop} {s : Shared}
theorem isStr (k : Str) (t : Tok) : (strKind prog w).is k (.str k t) = true := by
  show Value.isStrOf k (.str k t) = true
  unfold Value.isStrOf
  first | exact decide_eq_true rfl | simp
theorem names_map {h : Heap} {gi : Addr} (x : NamesAt w h gi) : ∃ b1 b2 b3 b4 b5 b6, h.DictOf (strKind prog w) gi [(nYear, .int 1 b1), (nMonth, .int 2 b2), (nDay, .int 3 b3), (nHour, .int 4 b4), (nMinute, .int 5 b5), (nSecond, .int 6 b6)] := by
  obtain ⟨ep, a1, a2, a3, a4, a5, a6, b1, b2, b3, b4, b5, b6, hg⟩ := x.at_
  refine ⟨b1, b2, b3, b4, b5, b6, _, _, _, hg, ⟨rfl, rfl, rfl⟩, rfl, ?_, ?_, ?_⟩
  · intro e he
    rw [← Array.mem_toList_iff] at he
    simp only [List.mem_cons, List.not_mem_nil, or_false] at he
    rcases he with rfl | rfl | rfl | rfl | rfl | rfl <;> exact ⟨_, isStr _ _, rfl⟩
  · exact .cons (isStr _ _) rfl (.cons (isStr _ _) rfl (.cons (isStr _ _) rfl (.cons (isStr _ _) rfl (.cons (isStr _ _) rfl (.cons (isStr _ _) rfl .nil)))))
  · show [nYear, nMonth, nDay, nHour, nMinute, nSecond].Nodup
    decide +kernel
variable {h₀ : Heap} {L : Addr} {m : Str → Option Value} {news : List (Addr × Obj)}
/-- the number of a name -/
theorem groupNumber_ {P gi ct : Addr} {x : ReFound} {S r2 r3 r4 r5 : Value} {k : Str} {a b : Tok} {g : Nat} {kvs : List (Str × Value)} {Q : Nat → Shared → Prop} (hP : PatAt s.heap P gi ct) (hx : x.fields = #[S, .ref P, r2, r3, r4, r5]) (hsp : x.spans.size = 14) (hg : g < 7)
    (hD : s.heap.DictOf (strKind prog w) gi kvs) (hv : valueAt kvs k = some (.int g b)) (h : ∀ tk, Q g { s with toks := tk }) :
    wpAny (model prog w) A (reGroupNumber x (.str k a)) Q E s := by
  obtain ⟨⟨dt, sl, src, ts, tf, ix, hp⟩, _⟩ := hP
  unfold reGroupNumber
  refine wpAny_bind ?_
  refine wpAny_bind (wpAny_pure (wpAny_pure ?_))
  refine wpAny_ifF Bool.false_ne_true ?_
  refine wpAny_bind (wpAny_specialOf (T := "str") rfl KIN.str_idx ?_)
  refine wpAny_ifF Bool.false_ne_true ?_
  rw [hx]
  refine wpAny_bind (wpAny_fieldsOf hp rfl ?_)
  refine wpAny_bind (wpAny_dictGet_of (isStr k a) hD.mapOf ?_)
  rw [hv]
  refine wpAny_bind (wpAny_pure (wpAny_bind (wpAny_pure ?_)))
  have hno : ¬ ((decide ((g : Int) < 0) || decide (2 * (g : Int) ≥ (x.spans.size : Int))) = true) := by
    rw [hsp, Bool.or_eq_true, decide_eq_true_eq, decide_eq_true_eq]; omega
  refine wpAny_ifF ?_ (wpAny_pure ?_)
  · simpa using hno
  · exact h _
theorem groupText_ {x : ReFound} {l : List Nat} {t : Tok} {r1 r2 r3 r4 r5 d : Value} {g b e : Nat} {Q : Value → Shared → Prop} (hx : x.fields = #[.str (tx l) t, r1, r2, r3, r4, r5]) (hb : x.spans.getD (2 * g) (-1) = (b : Int)) (he : x.spans.getD (2 * g + 1) (-1) = (e : Int)) (hle : b ≤ e) (hz : e ≤ 100)
    (h : ∀ tk, Q (.str (tx ((l.drop b).take (e - b))) tk) { s with toks := s.toks + 1 }) :
    wpAny (model prog w) A (reGroupText x g d) Q E s := by
  unfold reGroupText
  rw [hb, he, hx]
  refine wpAny_ifF ?_ ?_
  · rw [Bool.or_eq_true, decide_eq_true_eq, decide_eq_true_eq]; omega
  refine wpAny_bind (textOf_ l t ?_)
  unfold reSlice
  show wpAny _ _ (mkStr ⟨l.toArray.extract ((b : Int)).toNat ((e : Int)).toNat⟩) _ _ s
  have e1 : (⟨l.toArray.extract ((b : Int)).toNat ((e : Int)).toNat⟩ : Str) = tx ((l.drop b).take (e - b)) := by
    rw [tx_def, Int.toNat_natCast, Int.toNat_natCast]
    simp [List.extract_toArray]
  rw [e1]
  refine wpAny_mkStr (h _) ?_
  rw [tx_length]
  have : ((l.drop b).take (e - b)).length ≤ e - b := List.length_take_le _ _
  show _ ≤ 2 ^ 24
  omega
theorem stored_new {kvs : List (Str × Value)} {k : Str} {v : Value} (h : (kvs.any fun kv => decide (kv.1 = k)) = false) : stored kvs k v = kvs ++ [(k, v)] := by
  unfold stored
  rw [if_neg (by rw [h]; exact Bool.false_ne_true)]
/-- what a group's text answers -/
noncomputable def GroupV (prog : Program) (w : World) (A : Around) (x : ReFound) (g : Nat) (d : Value) (V : Value → Prop) : Prop :=
  ∀ (E : Value → Shared → Prop) (s : Shared) (Q : Value → Shared → Prop), (∀ v tk', V v → Q v { s with toks := tk' }) → wpAny (model prog w) A (reGroupText x g d) Q E s
theorem groupV_text {x : ReFound} {l : List Nat} {t : Tok} {r1 r2 r3 r4 r5 d : Value} {g b e : Nat} (hx : x.fields = #[.str (tx l) t, r1, r2, r3, r4, r5]) (hb : x.spans.getD (2 * g) (-1) = (b : Int)) (he : x.spans.getD (2 * g + 1) (-1) = (e : Int)) (hle : b ≤ e) (hz : e ≤ 100) :
    GroupV prog w A x g d (fun v => ∃ tk, v = .str (tx ((l.drop b).take (e - b))) tk) :=
  fun _ _ _ h => groupText_ hx hb he hle hz fun tk => h _ _ ⟨tk, rfl⟩
theorem entry_ {P gi ct D : Addr} {x : ReFound} {S r2 r3 r4 r5 d : Value} {k : Str} {a : Tok} {g : Nat} {bt : Tok} {ns kvs : List (Str × Value)} {o : Obj} {V : Value → Prop} {Q : Unit → Shared → Prop}
    (F : Fr h₀ L s.heap m) (N : News h₀ L s.heap ((D, o) :: news)) (hD : ∀ p ∈ news, p.1 ≠ D) (hd : o.IsDictOf (strKind prog w) kvs) (hsz : kvs.length ≤ 100) (hP : PatAt h₀ P gi ct) (hN : h₀.DictOf (strKind prog w) gi ns) (hv : valueAt ns k = some (.int g bt))
    (hx : x.fields = #[S, .ref P, r2, r3, r4, r5]) (hsp : x.spans.size = 14) (hg : g < 7)
    (ht : GroupV prog w A x g d V)
    (hnew : (kvs.any fun kv => decide (kv.1 = k)) = false)
    (h : ∀ h' o' v tk', V v → Fr h₀ L h' m → News h₀ L h' ((D, o') :: news) → o'.IsDictOf (strKind prog w) (kvs ++ [(k, v)]) → Q () { s with heap := h', toks := tk' }) :
    wpAny (model prog w) A (holding [.ref D] (do dictSet D (.str k a) (← reGroupText x (← reGroupNumber x (.str k a)) d))) Q E s := by
  have hN' : s.heap.DictOf (strKind prog w) gi ns := by
    obtain ⟨og, ho, hi⟩ := Heap.dictOf_iff.mp hN
    exact Heap.dictOf_iff.mpr ⟨og, F.keep _ _ ho, hi⟩
  refine wpAny_holding ?_
  refine wpAny_bind (groupNumber_ (hP.keeps F.keep) hx hsp hg hN' hv fun tk1 => ?_)
  refine wpAny_bind (ht _ { s with toks := tk1 } _ fun v tk hV => ?_)
  have hm := N (D, o) (.head _)
  refine wpAny_dictSet_pairs (s := { s with toks := tk }) (isStr k a) (Heap.dictOf_iff.mpr ⟨o, hm.1, hd⟩) (fun h' hmm hs => ?_) (Nat.le_trans hsz (by decide))
  obtain ⟨o', ho', hd'⟩ := Heap.dictOf_iff.mp hmm
  rw [stored_new hnew] at hd'
  exact h h' o' v _ hV (F.change hs hm.2.1 hm.2.2) (News.setIn (own := []) N (fun _ hp => by cases hp) hD hs ho') hd'
noncomputable abbrev FIELDS (l : List Nat) (t1 t2 t3 t4 t5 t6 : Tok) : List (Str × Value) :=
  [(nYear, .str (tx ((l.drop 0).take 4)) t1), (nMonth, .str (tx ((l.drop 5).take 2)) t2), (nDay, .str (tx ((l.drop 8).take 2)) t3), (nHour, .str (tx ((l.drop 11).take 2)) t4), (nMinute, .str (tx ((l.drop 14).take 2)) t5), (nSecond, .str (tx ((l.drop 17).take 2)) t6)]
theorem any_no {kvs : List (Str × Value)} {k : Str} (h : ((kvs.map (·.1)).any fun x => decide (x = k)) = false) : (kvs.any fun kv => decide (kv.1 = k)) = false := by
  rw [List.any_map] at h; exact h
theorem value_at {ns : List (Str × Value)} {k : Str} {v : Value} (i : Nat) (h : (ns.map (·.1)).findIdx? (fun x => decide (x = k)) = some i) (hi : (ns[i]?).map (·.2) = some v) : valueAt ns k = some v := by
  unfold valueAt
  rw [← hi]
  clear hi v
  induction ns generalizing i with
  | nil => cases h
  | cons a r ih =>
    rw [List.map_cons, List.findIdx?_cons] at h
    rw [List.find?_cons]
    by_cases ha : a.1 = k
    · simp only [ha, decide_true, if_true, Option.some.injEq] at h ⊢
      subst h; rfl
    · simp only [ha, decide_false, Bool.false_eq_true, if_false, Option.map_eq_some_iff] at h ⊢
      obtain ⟨j, hj, rfl⟩ := h
      rw [ih j hj]; rfl
theorem named0 (f id : String) : reNamed id f ["default"] 0 [] [] = pure [none] := by with_unfolding_all rfl
theorem withDefault_ {mt tt : Addr} {fs : Array Value} {r0 r1 r2 r3 r4 : Value} {Q : ReFound × Value → Shared → Prop} (hM : s.heap.get? mt = some { cls := .type "re.Match", data := .fields #[r0, r1, r2, r3, r4, .ref tt] }) (hT : s.heap.get? tt = some { cls := .type "tuple", data := .seq fs })
    (h : Q (⟨#[r0, r1, r2, r3, r4, .ref tt], fs.map reRawOf⟩, .none) s) : wpAny (model prog w) A (reWithDefault "re.Match.groupdict" "groupdict" ⟨[.ref mt], []⟩) Q E s := by
  unfold reWithDefault
  dsimp only
  rw [named0]
  refine wpAny_bind (wpAny_pure ?_)
  dsimp only
  unfold reFound
  exact wpAny_bind (wpAny_bind (wpAny_fieldsOf hM rfl (wpAny_bind (rawItems_ hT rfl (wpAny_pure (wpAny_pure h))))))
theorem groupdictG {P gi ct mt tt : Addr} {S p1 p2 p3 : Value} {sp : Array Value} {V1 V2 V3 V4 V5 V6 : Value → Prop} {Q : PySem.Fin → Shared → Prop} (F : Fr h₀ L s.heap m) (N : News h₀ L s.heap news) (hP : PatAt h₀ P gi ct) (hN : NamesAt w h₀ gi)
    (hM : s.heap.get? mt = some { cls := .type "re.Match", data := .fields #[S, .ref P, p1, p2, p3, .ref tt] }) (hT : s.heap.get? tt = some { cls := .type "tuple", data := .seq sp }) (qs : (sp.map reRawOf).size = 14)
    (g1 : GroupV prog w A ⟨#[S, .ref P, p1, p2, p3, .ref tt], sp.map reRawOf⟩ 1 .none V1) (g2 : GroupV prog w A ⟨#[S, .ref P, p1, p2, p3, .ref tt], sp.map reRawOf⟩ 2 .none V2) (g3 : GroupV prog w A ⟨#[S, .ref P, p1, p2, p3, .ref tt], sp.map reRawOf⟩ 3 .none V3)
    (g4 : GroupV prog w A ⟨#[S, .ref P, p1, p2, p3, .ref tt], sp.map reRawOf⟩ 4 .none V4) (g5 : GroupV prog w A ⟨#[S, .ref P, p1, p2, p3, .ref tt], sp.map reRawOf⟩ 5 .none V5) (g6 : GroupV prog w A ⟨#[S, .ref P, p1, p2, p3, .ref tt], sp.map reRawOf⟩ 6 .none V6)
    (h : ∀ h' o tk v1 v2 v3 v4 v5 v6, V1 v1 → V2 v2 → V3 v3 → V4 v4 → V5 v5 → V6 v6 → Fr h₀ L h' m → News h₀ L h' ((s.heap.objs.size, o) :: news) → o.IsDictOf (strKind prog w) [(nYear, v1), (nMonth, v2), (nDay, v3), (nHour, v4), (nMinute, v5), (nSecond, v6)] → Q (.done (.ret (.ref s.heap.objs.size))) { s with heap := h', toks := tk }) :
    wpAny (model prog w) A (Builtin.«re.Match.groupdict» ⟨[.ref mt], []⟩) Q E s := by
  obtain ⟨b1, b2, b3, b4, b5, b6, hND⟩ := names_map (prog := prog) hN
  obtain ⟨ep, a1, a2, a3, a4, a5, a6, c1, c2, c3, c4, c5, c6, hg⟩ := hN.at_
  obtain ⟨⟨dt, sl, src, ts, tf, ix, hp⟩, _⟩ := id hP
  unfold Builtin.«re.Match.groupdict»
  refine wpAny_bind (withDefault_ hM hT ?_)
  dsimp only
  unfold newDict
  refine wpAny_bind (wpAny_newObj_type ?_)
  have hp' := (F.push { cls := .type "dict", data := .dict #[] }).keep _ _ hp
  have hg' := (F.push { cls := .type "dict", data := .dict #[] }).keep _ _ hg
  refine wpAny_bind (wpAny_fieldsOf hp' rfl ?_)
  show wpAny _ _ (dictEntries gi >>= _) _ _ _
  refine wpAny_bind (wpAny_dictEntries hg' rfl ?_)
  rw [← Array.forIn_toList]
  have hD : ∀ p ∈ news, p.1 ≠ s.heap.objs.size := fun p hp => Nat.ne_of_lt (Heap.lt_size (N p hp).1)
  have F1 := F.push { cls := .type "dict", data := .dict #[] }
  have N1 := News.push F N { cls := .type "dict", data := .dict #[] }
  have I1 : Obj.IsDictOf (strKind prog w) { cls := .type "dict", data := .dict #[] } [] := by
    obtain ⟨o, ho, hi⟩ := Heap.dictOf_iff.mp (Heap.DictOf.new (knd := strKind prog w) s.heap)
    rw [Heap.get?_push_size _ rfl] at ho
    cases ho
    exact hi
  refine wpAny_bind ?_
  simp only [List.forIn_cons, List.forIn_nil]
  have v1 : valueAt [(nYear, Value.int 1 b1), (nMonth, .int 2 b2), (nDay, .int 3 b3), (nHour, .int 4 b4), (nMinute, .int 5 b5), (nSecond, .int 6 b6)] nYear = some (.int ((1 : Nat) : Int) b1) := value_at 0 (by show [nYear, nMonth, nDay, nHour, nMinute, nSecond].findIdx? _ = _; decide +kernel) rfl
  refine wpAny_bind (wpAny_bind (entry_ (g := 1) F1 N1 hD I1 ?_ hP hND v1 rfl qs (by decide) g1 ?_ fun h1 o1 t1 k1 W1 F2 N2 I2 => wpAny_pure ?_))
  · exact Nat.le_of_ble_eq_true rfl
  · rfl
  have v2 : valueAt [(nYear, Value.int 1 b1), (nMonth, .int 2 b2), (nDay, .int 3 b3), (nHour, .int 4 b4), (nMinute, .int 5 b5), (nSecond, .int 6 b6)] nMonth = some (.int ((2 : Nat) : Int) b2) := value_at 1 (by show [nYear, nMonth, nDay, nHour, nMinute, nSecond].findIdx? _ = _; decide +kernel) rfl
  refine wpAny_bind (wpAny_bind (entry_ (s := { s with heap := h1, toks := k1 }) (g := 2) F2 N2 hD I2 ?_ hP hND v2 rfl qs (by decide) g2 ?_ fun h2 o2 t2 k2 W2 F3 N3 I3 => wpAny_pure ?_))
  · exact Nat.le_of_ble_eq_true rfl
  · exact any_no (by show ([nYear].any _) = _; decide +kernel)
  have v3 : valueAt [(nYear, Value.int 1 b1), (nMonth, .int 2 b2), (nDay, .int 3 b3), (nHour, .int 4 b4), (nMinute, .int 5 b5), (nSecond, .int 6 b6)] nDay = some (.int ((3 : Nat) : Int) b3) := value_at 2 (by show [nYear, nMonth, nDay, nHour, nMinute, nSecond].findIdx? _ = _; decide +kernel) rfl
  refine wpAny_bind (wpAny_bind (entry_ (s := { s with heap := h2, toks := k2 }) (g := 3) F3 N3 hD I3 ?_ hP hND v3 rfl qs (by decide) g3 ?_ fun h3 o3 t3 k3 W3 F4 N4 I4 => wpAny_pure ?_))
  · exact Nat.le_of_ble_eq_true rfl
  · exact any_no (by show ([nYear, nMonth].any _) = _; decide +kernel)
  have v4 : valueAt [(nYear, Value.int 1 b1), (nMonth, .int 2 b2), (nDay, .int 3 b3), (nHour, .int 4 b4), (nMinute, .int 5 b5), (nSecond, .int 6 b6)] nHour = some (.int ((4 : Nat) : Int) b4) := value_at 3 (by show [nYear, nMonth, nDay, nHour, nMinute, nSecond].findIdx? _ = _; decide +kernel) rfl
  refine wpAny_bind (wpAny_bind (entry_ (s := { s with heap := h3, toks := k3 }) (g := 4) F4 N4 hD I4 ?_ hP hND v4 rfl qs (by decide) g4 ?_ fun h4 o4 t4 k4 W4 F5 N5 I5 => wpAny_pure ?_))
  · exact Nat.le_of_ble_eq_true rfl
  · exact any_no (by show ([nYear, nMonth, nDay].any _) = _; decide +kernel)
  have v5 : valueAt [(nYear, Value.int 1 b1), (nMonth, .int 2 b2), (nDay, .int 3 b3), (nHour, .int 4 b4), (nMinute, .int 5 b5), (nSecond, .int 6 b6)] nMinute = some (.int ((5 : Nat) : Int) b5) := value_at 4 (by show [nYear, nMonth, nDay, nHour, nMinute, nSecond].findIdx? _ = _; decide +kernel) rfl
  refine wpAny_bind (wpAny_bind (entry_ (s := { s with heap := h4, toks := k4 }) (g := 5) F5 N5 hD I5 ?_ hP hND v5 rfl qs (by decide) g5 ?_ fun h5 o5 t5 k5 W5 F6 N6 I6 => wpAny_pure ?_))
  · exact Nat.le_of_ble_eq_true rfl
  · exact any_no (by show ([nYear, nMonth, nDay, nHour].any _) = _; decide +kernel)
  have v6 : valueAt [(nYear, Value.int 1 b1), (nMonth, .int 2 b2), (nDay, .int 3 b3), (nHour, .int 4 b4), (nMinute, .int 5 b5), (nSecond, .int 6 b6)] nSecond = some (.int ((6 : Nat) : Int) b6) := value_at 5 (by show [nYear, nMonth, nDay, nHour, nMinute, nSecond].findIdx? _ = _; decide +kernel) rfl
  refine wpAny_bind (wpAny_bind (entry_ (s := { s with heap := h5, toks := k5 }) (g := 6) F6 N6 hD I6 ?_ hP hND v6 rfl qs (by decide) g6 ?_ fun h6 o6 t6 k6 W6 F7 N7 I7 => wpAny_pure ?_))
  · exact Nat.le_of_ble_eq_true rfl
  · exact any_no (by show ([nYear, nMonth, nDay, nHour, nMinute].any _) = _; decide +kernel)
  exact wpAny_pure (wpAny_pure (h _ _ _ _ _ _ _ _ _ W1 W2 W3 W4 W5 W6 F7 N7 I7))
theorem groupdict_ {P gi ct mt tt : Addr} {l : List Nat} {t : Tok} {Q : PySem.Fin → Shared → Prop} (F : Fr h₀ L s.heap m) (N : News h₀ L s.heap news) (hP : PatAt h₀ P gi ct) (hN : NamesAt w h₀ gi)
    (hM : s.heap.get? mt = some { cls := .type "re.Match", data := .fields #[.str (tx l) t, .ref P, .int 0 0, .int 20 0, .int 6 0, .ref tt] }) (hT : s.heap.get? tt = some { cls := .type "tuple", data := .seq SPANS })
    (h : ∀ h' o tk t1 t2 t3 t4 t5 t6, Fr h₀ L h' m → News h₀ L h' ((s.heap.objs.size, o) :: news) → o.IsDictOf (strKind prog w) (FIELDS l t1 t2 t3 t4 t5 t6) → Q (.done (.ret (.ref s.heap.objs.size))) { s with heap := h', toks := tk }) :
    wpAny (model prog w) A (Builtin.«re.Match.groupdict» ⟨[.ref mt], []⟩) Q E s := by
  have q : ∀ i v, (SPANS.map reRawOf).getD i (-1) = v ↔ (#[0, 20, 0, 4, 5, 7, 8, 10, 11, 13, 14, 16, 17, 19] : Array Int).getD i (-1) = v := fun i v => by
    rw [show SPANS.map reRawOf = #[0, 20, 0, 4, 5, 7, 8, 10, 11, 13, 14, 16, 17, 19] from by decide +kernel]
  refine groupdictG F N hP hN hM hT (by decide +kernel) (groupV_text (b := 0) (e := 4) rfl ((q _ _).mpr rfl) ((q _ _).mpr rfl) (by decide) (by decide)) (groupV_text (b := 5) (e := 7) rfl ((q _ _).mpr rfl) ((q _ _).mpr rfl) (by decide) (by decide)) (groupV_text (b := 8) (e := 10) rfl ((q _ _).mpr rfl) ((q _ _).mpr rfl) (by decide) (by decide))
    (groupV_text (b := 11) (e := 13) rfl ((q _ _).mpr rfl) ((q _ _).mpr rfl) (by decide) (by decide)) (groupV_text (b := 14) (e := 16) rfl ((q _ _).mpr rfl) ((q _ _).mpr rfl) (by decide) (by decide)) (groupV_text (b := 17) (e := 19) rfl ((q _ _).mpr rfl) ((q _ _).mpr rfl) (by decide) (by decide)) ?_
  rintro h' o tk v1 v2 v3 v4 v5 v6 ⟨t1, rfl⟩ ⟨t2, rfl⟩ ⟨t3, rfl⟩ ⟨t4, rfl⟩ ⟨t5, rfl⟩ ⟨t6, rfl⟩ F' N' I'
  exact h h' o tk t1 t2 t3 t4 t5 t6 F' N' I'
end
end Mine

end
section
open PySem PySem.W PyProof.Rows PySem.Calls PySem.Spec PySem.Builtin.Re
set_option maxRecDepth 100000
set_option linter.unusedVariables false
namespace Mine
noncomputable def stampL (y m d h mi sc : Int) : List Nat := [] ++ dg4 y ++ [45] ++ dg2 m ++ [45] ++ dg2 d ++ [84] ++ dg2 h ++ [58] ++ dg2 mi ++ [58] ++ dg2 sc ++ [90]
theorem fig_dig (n : Int) : ∃ b, b < 10 ∧ fig n = 48 + b := ⟨(n % 10).toNat, by omega, rfl⟩
noncomputable def okc (x y : Nat) : Prop := x = y ∨ ∃ a b, a < 10 ∧ b < 10 ∧ x = 48 + a ∧ y = 48 + b
noncomputable def all2 : List Nat → List Nat → Prop
  | x :: a, y :: l => okc x y ∧ all2 a l
  | [], [] => True
  | _, _ => False
theorem all2_at : ∀ {a l : List Nat}, all2 a l → ∀ i, i < a.length → okc (a.getD i 0) (l.getD i 0)
  | [], _, _, i, hi => absurd hi (Nat.not_lt_zero _)
  | x :: a, [], h, _, _ => h.elim
  | x :: a, y :: l, h, 0, _ => h.1
  | x :: a, y :: l, h, i + 1, hi => all2_at h.2 i (Nat.lt_of_succ_lt_succ hi)
theorem same_of {a l : List Nat} (h : all2 a l) : Same a.toArray l.toArray := ⟨fun i hi => by
  have := all2_at h i (by simpa using hi)
  have e1 : a.toArray.getD i 0 = a.getD i 0 := by simp
  have e2 : l.toArray.getD i 0 = l.getD i 0 := by simp
  rw [e1, e2]; exact this⟩
theorem okd (n : Int) : okc 48 (fig n) := let ⟨b, hb, e⟩ := fig_dig n; .inr ⟨0, b, by decide, hb, rfl, e⟩
theorem oke (n : Nat) : okc n n := .inl rfl
theorem stampL_same (y m d h mi sc : Int) : stamped (stampL y m d h mi sc) := by
  show Same (List.toArray [48, 48, 48, 48, 45, 48, 48, 45, 48, 48, 84, 48, 48, 58, 48, 48, 58, 48, 48, 90]) (stampL y m d h mi sc).toArray
  refine same_of ?_
  show all2 _ [fig (y / 1000), fig (y / 100), fig (y / 10), fig y, 45, fig (m / 10), fig m, 45, fig (d / 10), fig d, 84, fig (h / 10), fig h, 58, fig (mi / 10), fig mi, 58, fig (sc / 10), fig sc, 90]
  exact ⟨okd _, okd _, okd _, okd _, oke _, okd _, okd _, oke _, okd _, okd _, oke _, okd _, okd _, oke _, okd _, okd _, oke _, okd _, okd _, oke _, trivial⟩
theorem pieces (y m d h mi sc : Int) (t1 t2 t3 t4 t5 t6 : Tok) : FIELDS (stampL y m d h mi sc) t1 t2 t3 t4 t5 t6 = [(nYear, .str (tx (dg4 y)) t1), (nMonth, .str (tx (dg2 m)) t2), (nDay, .str (tx (dg2 d)) t3), (nHour, .str (tx (dg2 h)) t4), (nMinute, .str (tx (dg2 mi)) t5), (nSecond, .str (tx (dg2 sc)) t6)] := rfl
theorem pa_pat : PlainAttrs "re.Pattern" :=
  ⟨⟨"object.__getattribute__", by rw [typeLookup_type, builtinLookup_eq_fast]; kernel_rfl, by decide +kernel⟩, by rw [typeLookup_type, builtinLookup_eq_fast]; kernel_rfl⟩
theorem slot_match : Slot "re.Pattern" "match" "re.Pattern.match" :=
  .of (owner := "re.Pattern") (n := "match") (by rw [typeLookup_type, builtinLookup_eq_fast]; kernel_rfl) (by decide +kernel) (by decide +kernel) (by decide +kernel)
    (by first | exact .inl (by decide +kernel) | exact .inr (by decide +kernel)) (by rw [isSubtype_type]; kernel_rfl)
theorem type_match : typeOf (.builtin "re.Pattern.match") = pure (.type "method_descriptor") := by show builtinType _ = _; rw [builtinType_eq_fast]; kernel_rfl
theorem entry_match : entryFor table "re.Pattern.match" = some Builtin.«re.Pattern.match» := entryFor_of_tree (by kernel_rfl)
theorem pa_mat : PlainAttrs "re.Match" :=
  ⟨⟨"object.__getattribute__", by rw [typeLookup_type, builtinLookup_eq_fast]; kernel_rfl, by decide +kernel⟩, by rw [typeLookup_type, builtinLookup_eq_fast]; kernel_rfl⟩
theorem slot_groupdict : Slot "re.Match" "groupdict" "re.Match.groupdict" :=
  .of (owner := "re.Match") (n := "groupdict") (by rw [typeLookup_type, builtinLookup_eq_fast]; kernel_rfl) (by decide +kernel) (by decide +kernel) (by decide +kernel)
    (by first | exact .inl (by decide +kernel) | exact .inr (by decide +kernel)) (by rw [isSubtype_type]; kernel_rfl)
theorem type_groupdict : typeOf (.builtin "re.Match.groupdict") = pure (.type "method_descriptor") := by show builtinType _ = _; rw [builtinType_eq_fast]; kernel_rfl
theorem owner_pat : Manifest.owners.lookup (String.ofList ['n', 'r', 'e', 't', 't', 'a', 'P', '.', 'e', 'r'].reverse) = some Manifest.sig_re_Pattern := by kernel_rfl
theorem entry_groupdict : entryFor table "re.Match.groupdict" = some Builtin.«re.Match.groupdict» := entryFor_of_tree (by kernel_rfl)
theorem args_match (a b : Value) : argsOk "re.Pattern.match" ⟨[a, b], []⟩ := by
  unfold argsOk; rw [signature?_of (id := "re.Pattern.match") (n := ['h', 'c', 't', 'a', 'm']) (o := ['n', 'r', 'e', 't', 't', 'a', 'P', '.', 'e', 'r']) (by kernel_rfl) owner_pat]; kernel_rfl
theorem owner_mat : Manifest.owners.lookup (String.ofList ['h', 'c', 't', 'a', 'M', '.', 'e', 'r'].reverse) = some Manifest.sig_re_Match := by kernel_rfl
theorem args_groupdict (a : Value) : argsOk "re.Match.groupdict" ⟨[a], []⟩ := by
  unfold argsOk; rw [signature?_of (id := "re.Match.groupdict") (n := ['t', 'c', 'i', 'd', 'p', 'u', 'o', 'r', 'g']) (o := ['h', 'c', 't', 'a', 'M', '.', 'e', 'r']) (by kernel_rfl) owner_mat]; kernel_rfl
noncomputable abbrev matchObj (P : Addr) (l : List Nat) (t : Tok) (tt : Addr) : Obj := { cls := .type "re.Match", data := .fields #[.str (tx l) t, .ref P, .int 0 0, .int 20 0, .int 6 0, .ref tt] }
section
variable {prog : Program} {w : World} {A : Around} {E : Value → Shared → Prop} {s : Shared} {K : Frag} {h₀ : Heap} {L : Addr} {m : Str → Option Value} {news : List (Addr × Obj)} {P gi ct : Addr} {l : List Nat} {t : Tok}
/-- the fragment holds the pattern -/
structure PatK (w : World) (K : Frag) (P : Addr) : Prop where
  mk ::
  at_ : ∃ gi ct src ts tf ix, K.lookup P = some ⟨.type "re.Pattern", none, .fields #[.str src ts, .int 256 tf, .int 6 0, .ref gi, ix, .ref ct, .int 0 0], #[]⟩ ∧ (∃ n, K.lookup ct = some ⟨.type "tuple", none, .seq CODEV n, #[]⟩)
    ∧ ∃ ep a1 a2 a3 a4 a5 a6 b1 b2 b3 b4 b5 b6, K.lookup gi = some ⟨.type "dict", none, .dict #[⟨hashStr w nYear, .str nYear a1, .int 1 b1⟩, ⟨hashStr w nMonth, .str nMonth a2, .int 2 b2⟩, ⟨hashStr w nDay, .str nDay a3, .int 3 b3⟩, ⟨hashStr w nHour, .str nHour a4, .int 4 b4⟩, ⟨hashStr w nMinute, .str nMinute a5, .int 5 b5⟩, ⟨hashStr w nSecond, .str nSecond a6, .int 6 b6⟩] ep, #[]⟩
theorem PatK.pat (x : PatK w K P) (X : K.In h₀) : ∃ gi ct, PatAt h₀ P gi ct ∧ NamesAt w h₀ gi := by
  obtain ⟨gi, ct, src, ts, tf, ix, hp, ⟨n, hc⟩, ep, a1, a2, a3, a4, a5, a6, b1, b2, b3, b4, b5, b6, hg⟩ := x.at_
  exact ⟨gi, ct, ⟨⟨_, _, _, _, _, _, X _ _ hp⟩, ⟨_, _, _, X _ _ hc⟩⟩, ⟨ep, a1, a2, a3, a4, a5, a6, b1, b2, b3, b4, b5, b6, X _ _ hg⟩⟩
theorem match_method {pl : Sem Bool} {Q : Value × List Value → Shared → Prop} (F : Fr h₀ L s.heap m) (X : K.In h₀) (hK : PatK w K P) (h : Q (.builtin "re.Pattern.match", [.ref P]) s) : wpAny (model prog w) A (getMethod (.ref P) "match" pl) Q E s := by
  obtain ⟨gi, ct, src, ts, tf, ix, hp, _⟩ := hK.at_
  have hp' := F.keep _ _ (X _ _ hp)
  exact getMethod_builtin ⟨_, hp', rfl⟩ pa_pat slot_match type_match (fun a e => by cases e; exact ⟨_, hp', rfl⟩) h
theorem match_call {Q : Value → Shared → Prop} (F : Fr h₀ L s.heap m) (N : News h₀ L s.heap news) (X : K.In h₀) (hK : PatK w K P) (hl : l.length = 20) (hs : stamped l)
    (h : ∀ tt D h', Fr h₀ L h' m → News h₀ L h' ((D, matchObj P l t tt) :: (tt, { cls := .type "tuple", data := .seq SPANS }) :: news) → (∀ p ∈ news, p.1 < tt) → tt < D → Q (.ref D) { s with heap := h' }) :
    wpAny (model prog w) A (call (.builtin "re.Pattern.match") [.ref P, .str (tx l) t]) Q E s := by
  obtain ⟨gi, ct, hP, hN⟩ := hK.pat X
  obtain ⟨_, _, src, ts, tf, ix, hp, _⟩ := hK.at_
  have F1 := F.push { cls := .type "tuple", data := .seq SPANS }
  have N1 := News.push F N { cls := .type "tuple", data := .seq SPANS }
  have N2 := News.push F1 N1 (matchObj P l t s.heap.objs.size)
  rw [Heap.size_push] at N2
  exact wpAny_call_entry slot_match ⟨_, F.keep _ _ (X _ _ hp), rfl⟩ entry_match (match_ (hP.keeps F.keep) hl hs ⟨_, rfl, h _ _ _ (F1.push _) N2 (fun p hp => Heap.lt_size (N p hp).1) (Nat.lt_succ_self _)⟩) (args_match _ _)
theorem groupdict_method {D tt : Addr} {pl : Sem Bool} {Q : Value × List Value → Shared → Prop} (N : News h₀ L s.heap news) (hm : (D, matchObj P l t tt) ∈ news) (h : Q (.builtin "re.Match.groupdict", [.ref D]) s) : wpAny (model prog w) A (getMethod (.ref D) "groupdict" pl) Q E s :=
  getMethod_builtin ⟨_, (N _ hm).1, rfl⟩ pa_mat slot_groupdict type_groupdict (fun a e => by cases e; exact ⟨_, (N _ hm).1, rfl⟩) h
theorem groupdict_call {D tt : Addr} {y mo d hr mi sc : Int} {Q : Value → Shared → Prop} (F : Fr h₀ L s.heap m) (N : News h₀ L s.heap news) (X : K.In h₀) (hK : PatK w K P) (hm : (D, matchObj P (stampL y mo d hr mi sc) t tt) ∈ news) (ht : (tt, { cls := .type "tuple", data := .seq SPANS }) ∈ news)
    (h : ∀ G o h' tk t1 t2 t3 t4 t5 t6, Fr h₀ L h' m → News h₀ L h' ((G, o) :: news) → (∀ p ∈ news, p.1 < G) → (G == sysModules) = (s.heap.objs.size == sysModules) → o.IsDictOf (strKind prog w) [(nYear, .str (tx (dg4 y)) t1), (nMonth, .str (tx (dg2 mo)) t2), (nDay, .str (tx (dg2 d)) t3), (nHour, .str (tx (dg2 hr)) t4), (nMinute, .str (tx (dg2 mi)) t5), (nSecond, .str (tx (dg2 sc)) t6)] → Q (.ref G) { s with heap := h', toks := tk }) :
    wpAny (model prog w) A (call (.builtin "re.Match.groupdict") [.ref D]) Q E s := by
  obtain ⟨gi, ct, hP, hN⟩ := hK.pat X
  exact wpAny_call_entry slot_groupdict ⟨_, (N _ hm).1, rfl⟩ entry_groupdict (groupdict_ F N hP hN (N _ hm).1 (N _ ht).1 fun h' o tk t1 t2 t3 t4 t5 t6 F' N' I' => ⟨_, rfl, h _ o h' tk t1 t2 t3 t4 t5 t6 F' N' (fun p hp => Heap.lt_size (N p hp).1) rfl I'⟩) (args_groupdict _)
end
end Mine

end
section
open PySem PySem.W PyProof.Rows PySem.Calls PySem.Spec PySem.Builtin._datetime
set_option maxRecDepth 100000
set_option linter.unusedVariables false
namespace Mine
section
variable {prog : Program} {w : World} {A : Around} {E : Value → Shared → Prop} {s : Shared}
theorem wpAny_ifT {α : Type} {M : Model} {c : Prop} [Decidable c] {a b : Sem α} {Q : α → Shared → Prop} (hc : c) (h : wpAny M A a Q E s) : wpAny M A (if c then a else b) Q E s := by rw [if_pos hc]; exact h
theorem cint_ {n : Int} {t : Tok} {Q : Int → Shared → Prop} (h0 : 0 ≤ n) (h1 : n < 10000) (hq : Q n s) : wpAny (model prog w) A (dtCInt (.int n t)) Q E s := by
  unfold dtCInt
  refine wpAny_bind ?_
  unfold asIndex
  refine wpAny_bind (wpAny_pure (wpAny_pure ?_))
  have a1 : ¬ ((decide (n ≥ 2 ^ 63) || decide (n < -(2 ^ 63 : Int))) = true) := by rw [Bool.or_eq_true, decide_eq_true_eq, decide_eq_true_eq]; omega
  refine wpAny_ifF a1 ?_
  refine wpAny_ifF (by omega) ?_
  refine wpAny_ifF (by omega) ?_
  exact wpAny_pure hq
theorem bindClock_ {y m d h mi sc : Int} {t1 t2 t3 t4 t5 t6 : Tok} {Q : List (Option Int) × Option Value × Option Int → Shared → Prop} (hy : 0 ≤ y ∧ y < 10000) (hm : 0 ≤ m ∧ m < 10000) (hd : 0 ≤ d ∧ d < 10000) (hh : 0 ≤ h ∧ h < 10000) (hi : 0 ≤ mi ∧ mi < 10000) (hs : 0 ≤ sc ∧ sc < 10000)
    (hq : Q ([some y, some m, some d, some h, some mi, some sc, none], none, none) s) :
    wpAny (model prog w) A (dtBindClock "datetime.datetime.__new__" "function" ["year", "month", "day"] 3 [.int y t1, .int m t2, .int d t3, .int h t4, .int mi t5, .int sc t6] []) Q E s := by
  unfold dtBindClock
  dsimp only
  refine wpAny_ifF (show ¬ (6 > 9) from by decide) ?_
  refine wpAny_ifF Bool.false_ne_true ?_
  show wpAny _ _ (forIn [(Str.ofString "year", 0), (Str.ofString "month", 1), (Str.ofString "day", 2), (Str.ofString "hour", 3), (Str.ofString "minute", 4), (Str.ofString "second", 5), (Str.ofString "microsecond", 6)] #[] _ >>= _) _ _ _
  refine wpAny_bind ?_
  rw [List.forIn_cons]
  refine wpAny_bind (wpAny_ifF Bool.false_ne_true (wpAny_bind (cint_ hy.1 hy.2 (wpAny_pure ?_))))
  dsimp only
  rw [List.forIn_cons]
  refine wpAny_bind (wpAny_ifF Bool.false_ne_true (wpAny_bind (cint_ hm.1 hm.2 (wpAny_pure ?_))))
  dsimp only
  rw [List.forIn_cons]
  refine wpAny_bind (wpAny_ifF Bool.false_ne_true (wpAny_bind (cint_ hd.1 hd.2 (wpAny_pure ?_))))
  dsimp only
  rw [List.forIn_cons]
  refine wpAny_bind (wpAny_ifF Bool.false_ne_true (wpAny_bind (cint_ hh.1 hh.2 (wpAny_pure ?_))))
  dsimp only
  rw [List.forIn_cons]
  refine wpAny_bind (wpAny_ifF Bool.false_ne_true (wpAny_bind (cint_ hi.1 hi.2 (wpAny_pure ?_))))
  dsimp only
  rw [List.forIn_cons]
  refine wpAny_bind (wpAny_ifF Bool.false_ne_true (wpAny_bind (cint_ hs.1 hs.2 (wpAny_pure ?_))))
  dsimp only
  rw [List.forIn_cons]
  refine wpAny_bind (wpAny_ifF (show ¬ (6 < 3) from by decide) (wpAny_pure ?_))
  dsimp only
  rw [List.forIn_nil]
  refine wpAny_pure ?_
  refine wpAny_bind (wpAny_ifF (show ¬ (6 > 8) from by decide) (wpAny_pure ?_))
  refine wpAny_bind (wpAny_pure ?_)
  refine wpAny_bind (m := dtBind _ _ _ _ _ _) (wpAny_of_eq (a := [some (.int y t1), some (.int m t2), some (.int d t3), some (.int h t4), some (.int mi t5), some (.int sc t6), none, none, none]) ?_ ?_)
  · with_unfolding_all rfl
  · exact wpAny_pure hq
theorem sub_dt : isSubtype (.type "datetime.datetime") (.type "datetime.datetime") = pure true := by rw [isSubtype_type]; kernel_rfl
theorem isType_dt : isType (.type "datetime.datetime") = pure true := by with_unfolding_all rfl
theorem newClass_ {args : List Value} {Q : Value × List Value → Shared → Prop} (hq : Q (.type "datetime.datetime", args) s) : wpAny (model prog w) A (dtNewClass "datetime.datetime" ⟨.type "datetime.datetime" :: args, []⟩) Q E s := by
  unfold dtNewClass
  dsimp only
  rw [isType_dt]
  refine wpAny_bind (wpAny_pure (wpAny_ifF Bool.false_ne_true ?_))
  rw [sub_dt]
  exact wpAny_bind (wpAny_pure (wpAny_ifF Bool.false_ne_true (wpAny_pure hq)))
theorem daysIn {y m : Int} (hm : 1 ≤ m ∧ m ≤ 12) : daysInMonth y m = dim y m := by
  have hl : Builtin.Time.timeIsLeap y = leap y := by
    unfold Builtin.Time.timeIsLeap leap
    rfl
  unfold daysInMonth
  rw [hl]
  unfold dim
  cases leap y with
  | true => exact monthN (P := fun m : Int => (if (m == 2 && true) = true then (29 : Int) else ([31, 28, 31, 30, 31, 30, 31, 31, 30, 31, 30, 31] : List Int)[(m - 1).toNat]?.getD 0) = if m = 2 then (if true = true then 29 else 28) else if m = 4 ∨ m = 6 ∨ m = 9 ∨ m = 11 then 30 else 31) (by decide +kernel) hm
  | false => exact monthN (P := fun m : Int => (if (m == 2 && false) = true then (29 : Int) else ([31, 28, 31, 30, 31, 30, 31, 31, 30, 31, 30, 31] : List Int)[(m - 1).toNat]?.getD 0) = if m = 2 then (if false = true then 29 else 28) else if m = 4 ∨ m = 6 ∨ m = 9 ∨ m = 11 then 30 else 31) (by decide +kernel) hm
noncomputable abbrev dtObj (y m d h mi sc : Int) : Obj := { cls := .type "datetime.datetime", data := .fields #[.int y 0, .int m 0, .int d 0, .int h 0, .int mi 0, .int sc 0, .int 0 0, .none, .int 0 0, .none] }
/-- a calendar's and a clock's bounds -/
noncomputable def dtOk (y m d h mi sc : Int) : Prop := (1 ≤ d ∧ d ≤ dim y m) ∧ h ≤ 23 ∧ mi ≤ 59 ∧ sc ≤ 59
theorem dt_new_ {y m d h mi sc : Int} {t1 t2 t3 t4 t5 t6 : Tok} {Q : PySem.Fin → Shared → Prop} (hA : A.handled = none) (hy : 1 ≤ y ∧ y ≤ 9999) (hm : 1 ≤ m ∧ m ≤ 12) (hd : 0 ≤ d ∧ d < 100) (hh : 0 ≤ h ∧ h < 100) (hi : 0 ≤ mi ∧ mi < 100) (hs : 0 ≤ sc ∧ sc < 100)
    (hq : dtOk y m d h mi sc → Q (.done (.ret (.ref s.heap.objs.size))) { s with heap := s.heap.push (dtObj y m d h mi sc) })
    (he : ¬ dtOk y m d h mi sc → ∀ h' tk e, Heap.NewExc s.heap h' e "ValueError" → E (.ref e) { s with heap := h', toks := tk }) :
    wpAny (model prog w) A (Builtin.«datetime.datetime.__new__» ⟨[.type "datetime.datetime", .int y t1, .int m t2, .int d t3, .int h t4, .int mi t5, .int sc t6], []⟩) Q E s := by
  unfold Builtin.«datetime.datetime.__new__»
  refine wpAny_bind (newClass_ ?_)
  refine wpAny_ifF Bool.false_ne_true ?_
  refine wpAny_bind (bindClock_ (by omega) (by omega) (by omega) (by omega) (by omega) (by omega) ?_)
  dsimp only [Option.getD]
  refine wpAny_bind ?_
  unfold newStampRaw checkDate checkTime
  dsimp only
  refine wpAny_bind ?_
  rw [daysIn hm]
  refine wpAny_ifF (by rw [Bool.or_eq_true, decide_eq_true_eq, decide_eq_true_eq]; omega) ?_
  refine wpAny_ifF (by rw [Bool.or_eq_true, decide_eq_true_eq, decide_eq_true_eq]; omega) ?_
  have raise : ∀ {α : Type} {msg : String} {R : α → Shared → Prop}, ¬ dtOk y m d h mi sc → wpAny (model prog w) A (raiseErrorWords "ValueError" msg : Sem α) R E s := fun hn => wpAny_raiseErrorWords plainExc_ValueError hA (he hn)
  by_cases c1 : 1 ≤ d ∧ d ≤ dim y m
  · refine wpAny_ifF (by rw [Bool.or_eq_true, decide_eq_true_eq, decide_eq_true_eq]; omega) (wpAny_pure ?_)
    refine wpAny_bind ?_
    by_cases c2 : h ≤ 23
    · refine wpAny_ifF (by rw [Bool.or_eq_true, decide_eq_true_eq, decide_eq_true_eq]; omega) ?_
      by_cases c3 : mi ≤ 59
      · refine wpAny_ifF (by rw [Bool.or_eq_true, decide_eq_true_eq, decide_eq_true_eq]; omega) ?_
        by_cases c4 : sc ≤ 59
        · refine wpAny_ifF (by rw [Bool.or_eq_true, decide_eq_true_eq, decide_eq_true_eq]; omega) ?_
          refine wpAny_ifF Bool.false_ne_true (wpAny_ifF Bool.false_ne_true (wpAny_pure ?_))
          unfold checkTzinfo
          refine wpAny_bind (wpAny_ifF Bool.false_ne_true (wpAny_pure ?_))
          refine wpAny_newObj_type ?_ (Nat.le_of_ble_eq_true rfl)
          exact wpAny_pure (hq ⟨c1, c2, c3, c4⟩)
        · refine wpAny_ifT (by rw [Bool.or_eq_true, decide_eq_true_eq, decide_eq_true_eq]; omega) ?_
          exact wpAny_bind (wpAny_rule (wpAny_bind (raise fun x => c4 x.2.2.2)))
      · refine wpAny_ifT (by rw [Bool.or_eq_true, decide_eq_true_eq, decide_eq_true_eq]; omega) ?_
        exact wpAny_bind (wpAny_rule (wpAny_bind (raise fun x => c3 x.2.2.1)))
    · refine wpAny_ifT (by rw [Bool.or_eq_true, decide_eq_true_eq, decide_eq_true_eq]; omega) ?_
      exact wpAny_bind (wpAny_rule (wpAny_bind (raise fun x => c2 x.2.1)))
  · refine wpAny_ifT (by rw [Bool.or_eq_true, decide_eq_true_eq, decide_eq_true_eq]; omega) ?_
    exact wpAny_bind (wpAny_rule (raise fun x => c1 x.1))
end
end Mine

end
section
open PySem PySem.W PyProof.Rows PySem.Calls PySem.Spec PySem.Builtin._datetime
set_option maxRecDepth 100000
set_option linter.unusedVariables false
namespace Mine
theorem mro_dt : mroOf (.type "datetime.datetime") = pure [.type "datetime.datetime", .type "datetime.date", .type "object"] := by rw [mroOf_type]; kernel_rfl
theorem lookup_dt_new : typeLookup (.type "datetime.datetime") "__new__" = pure (some (.builtin "datetime.datetime.__new__")) := by rw [typeLookup_type, builtinLookup_eq_fast]; kernel_rfl
theorem slot_dt_init : Slot "datetime.datetime" "__init__" "object.__init__" :=
  .of (owner := "object") (n := "__init__") (by rw [typeLookup_type, builtinLookup_eq_fast]; kernel_rfl) (by decide +kernel) (by decide +kernel) (by decide +kernel)
    (by first | exact .inl (by decide +kernel) | exact .inr (by decide +kernel)) (by rw [isSubtype_type]; kernel_rfl)
theorem called_dt : TypeCalled "datetime.datetime" "datetime.datetime.__new__" "object.__init__" :=
  ⟨by decide +kernel, by decide +kernel, ⟨_, _, mro_dt⟩, madeBy_type mro_dt lookup_dt_new (by decide +kernel), by decide +kernel, sub_dt, slot_dt_init⟩
theorem entry_dt_new : entryFor table "datetime.datetime.__new__" = some Builtin.«datetime.datetime.__new__» := entryFor_of_tree (by kernel_rfl)
theorem typeCall_dt (a b c d e f : Value) : checkTypeCall "datetime.datetime" ⟨[a, b, c, d, e, f], []⟩ = pure () := by kernel_rfl
theorem newCall_dt (a b c d e f : Value) : checkBuiltinCall "datetime.datetime.__new__" ⟨[.type "datetime.datetime", a, b, c, d, e, f], []⟩ = pure () := by kernel_rfl
theorem args_init_7 (o a b c d e f : Value) : argsOk "object.__init__" ⟨[o, a, b, c, d, e, f], []⟩ := by
  unfold argsOk; rw [signature?_of (id := "object.__init__") (n := ['_', '_', 't', 'i', 'n', 'i', '_', '_']) (o := ['t', 'c', 'e', 'j', 'b', 'o']) (by kernel_rfl) PySem.F.owner_object]; kernel_rfl
noncomputable def dtSpec (y m d h mi sc : Int) : PySem.Spec := fun A R s => A.handled = none ∧ (dtOk y m d h mi sc → R (.ok (.ret (.ref s.heap.objs.size))) { s with heap := s.heap.push (dtObj y m d h mi sc) }) ∧
  (¬ dtOk y m d h mi sc → ∀ h' tk e, Heap.NewExc s.heap h' e "ValueError" → R (.error (.ref e)) { s with heap := h', toks := tk })
theorem meets_dt {y m d h mi sc : Int} {t1 t2 t3 t4 t5 t6 : Tok} (hy : 1 ≤ y ∧ y ≤ 9999) (hm : 1 ≤ m ∧ m ≤ 12) (hd : 0 ≤ d ∧ d < 100) (hh : 0 ≤ h ∧ h < 100) (hi : 0 ≤ mi ∧ mi < 100) (hs : 0 ≤ sc ∧ sc < 100) :
    Meets (Builtin.«datetime.datetime.__new__» ⟨[.type "datetime.datetime", .int y t1, .int m t2, .int d t3, .int h t4, .int mi t5, .int sc t6], []⟩) (dtSpec y m d h mi sc) :=
  fun prog w A R s x => dt_new_ x.1 hy hm hd hh hi hs x.2.1 x.2.2
section
variable {prog : Program} {w : World} {A : Around} {E : Value → Shared → Prop} {s : Shared} {h₀ : Heap} {L : Addr} {mp : Str → Option Value} {news : List (Addr × Obj)}
theorem dt_call {y m d h mi sc : Int} {t1 t2 t3 t4 t5 t6 : Tok} {Q : Value → Shared → Prop} (hA : A.handled = none) (hy : 1 ≤ y ∧ y ≤ 9999) (hm : 1 ≤ m ∧ m ≤ 12) (hd : 0 ≤ d ∧ d < 100) (hh : 0 ≤ h ∧ h < 100) (hi : 0 ≤ mi ∧ mi < 100) (hs : 0 ≤ sc ∧ sc < 100)
    (hq : dtOk y m d h mi sc → Q (.ref s.heap.objs.size) { s with heap := s.heap.push (dtObj y m d h mi sc) })
    (he : ¬ dtOk y m d h mi sc → ∀ h' tk e, Heap.NewExc s.heap h' e "ValueError" → E (.ref e) { s with heap := h', toks := tk }) :
    wpAny (model prog w) A (call (.type "datetime.datetime") [.int y t1, .int m t2, .int d t3, .int h t4, .int mi t5, .int sc t6]) Q E s :=
  callType_new called_dt (by decide +kernel) (typeCall_dt _ _ _ _ _ _) (newCall_dt _ _ _ _ _ _) (fun obj => args_init_7 _ _ _ _ _ _ _) entry_dt_new (meets_dt hy hm hd hh hi hs)
    ⟨hA, fun ok => ⟨⟨_, Heap.get?_push_size _ rfl, rfl⟩, hq ok⟩, fun no h' tk e x => he no h' tk e x⟩
end
end Mine
namespace Mine
section
variable {prog : Program} {w : World} {A : Around} {E : Value → Shared → Prop} {s : Shared} {h₀ : Heap} {L : Addr} {mp : Str → Option Value} {news : List (Addr × Obj)}
theorem dt_okK {y m d h mi sc : Int} {t1 t2 t3 t4 t5 t6 : Tok} {Q : Value → Shared → Prop} (F : Fr h₀ L s.heap mp) (N : News h₀ L s.heap news) (hok : dtOk y m d h mi sc) (hA : A.handled = none) (hy : 1 ≤ y ∧ y ≤ 9999) (hm : 1 ≤ m ∧ m ≤ 12) (hd : 0 ≤ d ∧ d < 100) (hh : 0 ≤ h ∧ h < 100) (hi : 0 ≤ mi ∧ mi < 100) (hs : 0 ≤ sc ∧ sc < 100)
    (hq : ∀ D h', Fr h₀ L h' mp → News h₀ L h' ((D, dtObj y m d h mi sc) :: news) → (∀ p ∈ news, p.1 < D) → Q (.ref D) { s with heap := h' }) :
    wpAny (model prog w) A (call (.type "datetime.datetime") [.int y t1, .int m t2, .int d t3, .int h t4, .int mi t5, .int sc t6]) Q E s :=
  dt_call hA hy hm hd hh hi hs (fun _ => hq _ _ (F.push _) (News.push F N (dtObj y m d h mi sc)) fun p hp => Heap.lt_size (N p hp).1) fun no => absurd hok no
end
end Mine
namespace Mine
section
variable {M : Model} {A : Around} {E : Value → Shared → Prop} {s : Shared} {env : Env} {pos p : Pos} {Q : Value → Shared → Prop} {e : PySem.Expr}
theorem callWith_T {T : String} (h : wpAny M A (eval e env) (fun v s₁ => StarOf M A E v (fun vs s₂ => wpAny M A (call (.type T) vs) Q E s₂) s₁) E s)
    (he : starEach [.Starred e p] env = [(true, eval e env)] := by rfl) :
    wpAny M A (callWith pos (.type T) [] (backTo pos (starEach [.Starred e p] env)) []) Q E s := by
  rw [he]
  unfold callWith
  refine wpAny_bind (wpAny_holding (wpAny_mono (ks_lone (Q := fun a s₁ => a.kw = [] ∧ wpAny M A (call (.type T) a.pos) Q E s₁) ?_) (fun a s₁ h₁ => wpAny_bind (wpAny_standAt ?_)) fun _ _ x => x))
  · refine wpAny_mono h (fun v s₁ h₁ => ?_) fun _ _ x => x
    unfold StarOf at h₁ ⊢
    exact wpAny_mono h₁ (fun b s₂ h₂ => ⟨h₂.1, wpAny_mono h₂.2 (fun vs s₃ h₃ => ⟨rfl, h₃⟩) fun _ _ x => x⟩) fun _ _ x => x
  · obtain ⟨pa, ka⟩ := a
    obtain ⟨rfl, h₁⟩ := h₁
    refine wpAny_bind (m := keeperOf (.type T)) (wpAny_pure ?_)
    exact wpAny_bind (wpAny_mono (wpAny_operating h₁) (fun r s₂ hr => wpAny_bind (wpAny_holding (wpAny_point (wpAny_pure hr)))) fun _ _ x => x)
end
end Mine
namespace Mine
section
variable {prog : Program} {w : World} {A : Around} {E : Value → Shared → Prop} {s : Shared}
theorem dt_badK {y m d h mi sc : Int} {t1 t2 t3 t4 t5 t6 : Tok} {Q : Value → Shared → Prop} (no : ¬ dtOk y m d h mi sc) (hA : A.handled = none) (hy : 1 ≤ y ∧ y ≤ 9999) (hm : 1 ≤ m ∧ m ≤ 12) (hd : 0 ≤ d ∧ d < 100) (hh : 0 ≤ h ∧ h < 100) (hi : 0 ≤ mi ∧ mi < 100) (hs : 0 ≤ sc ∧ sc < 100)
    (he : ∀ h' tk e, Heap.NewExc s.heap h' e "ValueError" → E (.ref e) { s with heap := h', toks := tk }) :
    wpAny (model prog w) A (call (.type "datetime.datetime") [.int y t1, .int m t2, .int d t3, .int h t4, .int mi t5, .int sc t6]) Q E s :=
  dt_call hA hy hm hd hh hi hs (fun ok => absurd ok no) fun _ => he
end
end Mine

end
section
open PySem PySem.W PyProof.Rows PySem.Calls PySem.Spec
set_option maxRecDepth 100000
set_option linter.unusedVariables false
set_option Elab.async false
namespace Mine
theorem entry_dt_ga : entryFor table "object.__getattribute__" = some Builtin.«object.__getattribute__» := entryFor_of_tree (by kernel_rfl)
theorem slot_dt_ga : Slot "datetime.datetime" "__getattribute__" "object.__getattribute__" :=
  .of (owner := "object") (n := "__getattribute__") (by rw [typeLookup_type, builtinLookup_eq_fast]; kernel_rfl) (by decide +kernel) (by decide +kernel) (by decide +kernel)
    (by first | exact .inl (by decide +kernel) | exact .inr (by decide +kernel)) (by rw [isSubtype_type]; kernel_rfl)
theorem args_dt_ga (a b : Value) : argsOk "object.__getattribute__" ⟨[a, b], []⟩ := by
  unfold argsOk; rw [signature?_of (id := "object.__getattribute__") (n := ['_', '_', 'e', 't', 'u', 'b', 'i', 'r', 't', 't', 'a', 't', 'e', 'g', '_', '_']) (o := ['t', 'c', 'e', 'j', 'b', 'o']) (by kernel_rfl) PySem.F.owner_object]; kernel_rfl
theorem dt_noGa : typeLookup (.type "datetime.datetime") "__getattr__" = pure none := by rw [typeLookup_type, builtinLookup_eq_fast]; kernel_rfl
section
variable {prog : Program} {w : World} {A : Around} {E : Value → Shared → Prop} {hp : Heap} {g : Array GenState} {dr : Drawn} {t : Nat} {os : OsState} {a : Addr} {o : Obj} {idn : String} {nm : Str} {b : Builtin} {v : Value} {t' : Nat}
theorem get_gen {R : Result → Shared → Prop} (hx : hp.get? a = some o) (hc : o.cls = .type "datetime.datetime") (ty : typeOf (.builtin idn) = pure (.type "getset_descriptor")) (en : entryFor table idn = some b) (f8 : isSubtype (.type "datetime.datetime") (.type (".".intercalate (idn.cutAt '.').dropLast)) = pure true)
    (hqt : ∀ args, (Code.builtin idn args).quiet = true)
    (hb : ∀ (A : Around) (E : Value → Shared → Prop) (Q : PySem.Fin → Shared → Prop), Q (.done (.ret v)) ⟨hp, g, dr, t', os⟩ → wpAny (model prog w) A (b ⟨[.ref a], []⟩) Q E ⟨hp, g, dr, t, os⟩)
    (hq : R (.ok (.ret v)) ⟨hp, g, dr, t', os⟩) :
    codeAny (model prog w) A (.call (.builtin "getset_descriptor.__get__") ⟨[.builtin idn, .ref a, .type "datetime.datetime"], []⟩) R ⟨hp, g, dr, t, os⟩ := by
  have hT : (⟨hp, g, dr, t, os⟩ : Shared).TypeIs (.ref a) "datetime.datetime" := ⟨_, hx, hc⟩
  have hT5 : (⟨hp, g, dr, t, os⟩ : Shared).TypeIs (.builtin idn) "getset_descriptor" := ty
  refine codeAny_call_builtin F.slot_gs_get.plain F.entry_gs_get (F.slot_gs_get.check _ _ _ _ _ _ _ _ hT5 (F.args_gs_get _ _ _) ?_)
  repeat (any_goals (first | assumption | wp_step))
  refine ⟨hqt _, codeAny_builtin en ?_⟩
  exact hb _ _ _ hq
theorem entry_gen {tk : Tok} {Q : PySem.Fin → Shared → Prop} (hx : hp.get? a = some o) (hc : o.cls = .type "datetime.datetime") (f4 : typeLookup (.type "datetime.datetime") nm = pure (some (.builtin idn))) (ty : typeOf (.builtin idn) = pure (.type "getset_descriptor"))
    (hg : ∀ (A : Around) (R : Result → Shared → Prop), R (.ok (.ret v)) ⟨hp, g, dr, t', os⟩ → codeAny (model prog w) A (.call (.builtin "getset_descriptor.__get__") ⟨[.builtin idn, .ref a, .type "datetime.datetime"], []⟩) R ⟨hp, g, dr, t, os⟩)
    (hq : Q (.done (.ret v)) ⟨hp, g, dr, t', os⟩) :
    wpAny (model prog w) A (Builtin.«object.__getattribute__» ⟨[.ref a, .str nm tk], []⟩) Q E ⟨hp, g, dr, t, os⟩ := by
  have hT : (⟨hp, g, dr, t, os⟩ : Shared).TypeIs (.ref a) "datetime.datetime" := ⟨_, hx, hc⟩
  have hT5 : (⟨hp, g, dr, t, os⟩ : Shared).TypeIs (.builtin idn) "getset_descriptor" := ty
  have f5 := ty
  have f6 := F.slot_gs_get.lookup
  have f7 := F.slot_gs_set.lookup
  repeat (any_goals (first | assumption | wp_step))
  refine hg _ _ ?_
  repeat (any_goals (first | assumption | wp_step))
theorem attr_gen {ex : Bool} {Q : Value → Shared → Prop} (hx : hp.get? a = some o) (hc : o.cls = .type "datetime.datetime") (f4 : typeLookup (.type "datetime.datetime") nm = pure (some (.builtin idn))) (ty : typeOf (.builtin idn) = pure (.type "getset_descriptor"))
    (hg : ∀ (A : Around) (R : Result → Shared → Prop), R (.ok (.ret v)) ⟨hp, g, dr, t', os⟩ → codeAny (model prog w) A (.call (.builtin "getset_descriptor.__get__") ⟨[.builtin idn, .ref a, .type "datetime.datetime"], []⟩) R ⟨hp, g, dr, t + 1, os⟩)
    (hh : handedOut v = pure v) (hq : Q v ⟨hp, g, dr, t', os⟩) : wpAny (model prog w) A (getAttr (.ref a) nm ex) Q E ⟨hp, g, dr, t, os⟩ := by
  have hT : (⟨hp, g, dr, t, os⟩ : Shared).TypeIs (.ref a) "datetime.datetime" := ⟨_, hx, hc⟩
  have hT' : (⟨hp, g, dr, t + 1, os⟩ : Shared).TypeIs (.ref a) "datetime.datetime" := ⟨_, hx, hc⟩
  have f1 := dt_noGa
  have f2 := slot_dt_ga.lookup
  have f3 := slot_dt_ga.bind (.ref a)
  unfold getAttr
  cases ex
  all_goals (repeat (any_goals (first | assumption | wp_step)))
  all_goals (refine codeAny_call_builtin slot_dt_ga.plain entry_dt_ga (slot_dt_ga.check _ _ _ _ _ _ _ _ hT' (args_dt_ga _ _) (entry_gen hx hc f4 ty hg ?_)))
  all_goals (repeat (any_goals (first | assumption | wp_step)))
  all_goals exact (wpAny_of_eq hh hq : wpAny (model prog w) A (handedOut v) Q E _)
end
theorem lk_year : typeLookup (.type "datetime.datetime") "year" = pure (some (.builtin "datetime.date.year")) := by rw [typeLookup_type, builtinLookup_eq_fast]; kernel_rfl
theorem ty_year : typeOf (.builtin "datetime.date.year") = pure (.type "getset_descriptor") := by show builtinType _ = _; rw [builtinType_eq_fast]; kernel_rfl
theorem en_year : entryFor table "datetime.date.year" = some Builtin.«datetime.date.year» := entryFor_of_tree (by kernel_rfl)
theorem ow_year : (".".intercalate ("datetime.date.year".cutAt '.').dropLast) = "datetime.date" := by
  have e0 : "datetime.date.year".cutAt '.' = ["datetime", "date", "year"] := by first | rfl | decide +kernel
  rw [e0]; decide +kernel
theorem sb_year : isSubtype (.type "datetime.datetime") (.type (".".intercalate ("datetime.date.year".cutAt '.').dropLast)) = pure true := by
  rw [ow_year, isSubtype_type]; kernel_rfl
theorem attr_year {prog : Program} {w : World} {A : Around} {E : Value → Shared → Prop} {hp : Heap} {g : Array GenState} {dr : Drawn} {t : Nat} {os : OsState} {a : Addr} {y m d h mi sc : Int} {ex : Bool} {Q : Value → Shared → Prop} (hx : hp.get? a = some (dtObj y m d h mi sc)) (hq : Q (.int y (t + 1)) ⟨hp, g, dr, t + 1 + 1, os⟩) : wpAny (model prog w) A (getAttr (.ref a) "year" ex) Q E ⟨hp, g, dr, t, os⟩ :=
  attr_gen hx rfl lk_year ty_year (fun A R hr => get_gen hx rfl ty_year en_year sb_year (fun args => Code.quiet_builtin _ (by decide +kernel)) (fun A E Q hq => by
    unfold Builtin.«datetime.date.year»
    unfold Builtin._datetime.dtIntAt
    refine wpAny_bind (wpAny_field hx rfl (x := .int y 0) rfl ?_)
    exact wpAny_bind (wpAny_mkInt (wpAny_pure hq))) hr) rfl hq
theorem attrK_year {prog : Program} {w : World} {A : Around} {E : Value → Shared → Prop} {s : Shared} {h₀ : Heap} {L a : Addr} {news : List (Addr × Obj)} {y m d h mi sc : Int} {ex : Bool} {Q : Value → Shared → Prop} (N : News h₀ L s.heap news) (hm : (a, dtObj y m d h mi sc) ∈ news) (hq : ∀ (t' : Tok) (k : Nat), Q (.int y t') { s with toks := k }) : wpAny (model prog w) A (getAttr (.ref a) "year" ex) Q E s :=
  attr_year (N _ hm).1 (hq _ _)
theorem lk_month : typeLookup (.type "datetime.datetime") "month" = pure (some (.builtin "datetime.date.month")) := by rw [typeLookup_type, builtinLookup_eq_fast]; kernel_rfl
theorem ty_month : typeOf (.builtin "datetime.date.month") = pure (.type "getset_descriptor") := by show builtinType _ = _; rw [builtinType_eq_fast]; kernel_rfl
theorem en_month : entryFor table "datetime.date.month" = some Builtin.«datetime.date.month» := entryFor_of_tree (by kernel_rfl)
theorem ow_month : (".".intercalate ("datetime.date.month".cutAt '.').dropLast) = "datetime.date" := by
  have e0 : "datetime.date.month".cutAt '.' = ["datetime", "date", "month"] := by first | rfl | decide +kernel
  rw [e0]; decide +kernel
theorem sb_month : isSubtype (.type "datetime.datetime") (.type (".".intercalate ("datetime.date.month".cutAt '.').dropLast)) = pure true := by
  rw [ow_month, isSubtype_type]; kernel_rfl
theorem attr_month {prog : Program} {w : World} {A : Around} {E : Value → Shared → Prop} {hp : Heap} {g : Array GenState} {dr : Drawn} {t : Nat} {os : OsState} {a : Addr} {y m d h mi sc : Int} {ex : Bool} {Q : Value → Shared → Prop} (hx : hp.get? a = some (dtObj y m d h mi sc)) (hq : Q (.int m (t + 1)) ⟨hp, g, dr, t + 1 + 1, os⟩) : wpAny (model prog w) A (getAttr (.ref a) "month" ex) Q E ⟨hp, g, dr, t, os⟩ :=
  attr_gen hx rfl lk_month ty_month (fun A R hr => get_gen hx rfl ty_month en_month sb_month (fun args => Code.quiet_builtin _ (by decide +kernel)) (fun A E Q hq => by
    unfold Builtin.«datetime.date.month»
    unfold Builtin._datetime.dtIntAt
    refine wpAny_bind (wpAny_field hx rfl (x := .int m 0) rfl ?_)
    exact wpAny_bind (wpAny_mkInt (wpAny_pure hq))) hr) rfl hq
theorem attrK_month {prog : Program} {w : World} {A : Around} {E : Value → Shared → Prop} {s : Shared} {h₀ : Heap} {L a : Addr} {news : List (Addr × Obj)} {y m d h mi sc : Int} {ex : Bool} {Q : Value → Shared → Prop} (N : News h₀ L s.heap news) (hm : (a, dtObj y m d h mi sc) ∈ news) (hq : ∀ (t' : Tok) (k : Nat), Q (.int m t') { s with toks := k }) : wpAny (model prog w) A (getAttr (.ref a) "month" ex) Q E s :=
  attr_month (N _ hm).1 (hq _ _)
theorem lk_day : typeLookup (.type "datetime.datetime") "day" = pure (some (.builtin "datetime.date.day")) := by rw [typeLookup_type, builtinLookup_eq_fast]; kernel_rfl
theorem ty_day : typeOf (.builtin "datetime.date.day") = pure (.type "getset_descriptor") := by show builtinType _ = _; rw [builtinType_eq_fast]; kernel_rfl
theorem en_day : entryFor table "datetime.date.day" = some Builtin.«datetime.date.day» := entryFor_of_tree (by kernel_rfl)
theorem ow_day : (".".intercalate ("datetime.date.day".cutAt '.').dropLast) = "datetime.date" := by
  have e0 : "datetime.date.day".cutAt '.' = ["datetime", "date", "day"] := by first | rfl | decide +kernel
  rw [e0]; decide +kernel
theorem sb_day : isSubtype (.type "datetime.datetime") (.type (".".intercalate ("datetime.date.day".cutAt '.').dropLast)) = pure true := by
  rw [ow_day, isSubtype_type]; kernel_rfl
theorem attr_day {prog : Program} {w : World} {A : Around} {E : Value → Shared → Prop} {hp : Heap} {g : Array GenState} {dr : Drawn} {t : Nat} {os : OsState} {a : Addr} {y m d h mi sc : Int} {ex : Bool} {Q : Value → Shared → Prop} (hx : hp.get? a = some (dtObj y m d h mi sc)) (hq : Q (.int d (t + 1)) ⟨hp, g, dr, t + 1 + 1, os⟩) : wpAny (model prog w) A (getAttr (.ref a) "day" ex) Q E ⟨hp, g, dr, t, os⟩ :=
  attr_gen hx rfl lk_day ty_day (fun A R hr => get_gen hx rfl ty_day en_day sb_day (fun args => Code.quiet_builtin _ (by decide +kernel)) (fun A E Q hq => by
    unfold Builtin.«datetime.date.day»
    unfold Builtin._datetime.dtIntAt
    refine wpAny_bind (wpAny_field hx rfl (x := .int d 0) rfl ?_)
    exact wpAny_bind (wpAny_mkInt (wpAny_pure hq))) hr) rfl hq
theorem attrK_day {prog : Program} {w : World} {A : Around} {E : Value → Shared → Prop} {s : Shared} {h₀ : Heap} {L a : Addr} {news : List (Addr × Obj)} {y m d h mi sc : Int} {ex : Bool} {Q : Value → Shared → Prop} (N : News h₀ L s.heap news) (hm : (a, dtObj y m d h mi sc) ∈ news) (hq : ∀ (t' : Tok) (k : Nat), Q (.int d t') { s with toks := k }) : wpAny (model prog w) A (getAttr (.ref a) "day" ex) Q E s :=
  attr_day (N _ hm).1 (hq _ _)
theorem lk_hour : typeLookup (.type "datetime.datetime") "hour" = pure (some (.builtin "datetime.datetime.hour")) := by rw [typeLookup_type, builtinLookup_eq_fast]; kernel_rfl
theorem ty_hour : typeOf (.builtin "datetime.datetime.hour") = pure (.type "getset_descriptor") := by show builtinType _ = _; rw [builtinType_eq_fast]; kernel_rfl
theorem en_hour : entryFor table "datetime.datetime.hour" = some Builtin.«datetime.datetime.hour» := entryFor_of_tree (by kernel_rfl)
theorem ow_hour : (".".intercalate ("datetime.datetime.hour".cutAt '.').dropLast) = "datetime.datetime" := by
  have e0 : "datetime.datetime.hour".cutAt '.' = ["datetime", "datetime", "hour"] := by first | rfl | decide +kernel
  rw [e0]; decide +kernel
theorem sb_hour : isSubtype (.type "datetime.datetime") (.type (".".intercalate ("datetime.datetime.hour".cutAt '.').dropLast)) = pure true := by
  rw [ow_hour, isSubtype_type]; kernel_rfl
theorem attr_hour {prog : Program} {w : World} {A : Around} {E : Value → Shared → Prop} {hp : Heap} {g : Array GenState} {dr : Drawn} {t : Nat} {os : OsState} {a : Addr} {y m d h mi sc : Int} {ex : Bool} {Q : Value → Shared → Prop} (hx : hp.get? a = some (dtObj y m d h mi sc)) (hq : Q (.int h (t + 1)) ⟨hp, g, dr, t + 1 + 1, os⟩) : wpAny (model prog w) A (getAttr (.ref a) "hour" ex) Q E ⟨hp, g, dr, t, os⟩ :=
  attr_gen hx rfl lk_hour ty_hour (fun A R hr => get_gen hx rfl ty_hour en_hour sb_hour (fun args => Code.quiet_builtin _ (by decide +kernel)) (fun A E Q hq => by
    unfold Builtin.«datetime.datetime.hour»
    unfold Builtin._datetime.dtIntAt
    refine wpAny_bind (wpAny_field hx rfl (x := .int h 0) rfl ?_)
    exact wpAny_bind (wpAny_mkInt (wpAny_pure hq))) hr) rfl hq
theorem attrK_hour {prog : Program} {w : World} {A : Around} {E : Value → Shared → Prop} {s : Shared} {h₀ : Heap} {L a : Addr} {news : List (Addr × Obj)} {y m d h mi sc : Int} {ex : Bool} {Q : Value → Shared → Prop} (N : News h₀ L s.heap news) (hm : (a, dtObj y m d h mi sc) ∈ news) (hq : ∀ (t' : Tok) (k : Nat), Q (.int h t') { s with toks := k }) : wpAny (model prog w) A (getAttr (.ref a) "hour" ex) Q E s :=
  attr_hour (N _ hm).1 (hq _ _)
theorem lk_minute : typeLookup (.type "datetime.datetime") "minute" = pure (some (.builtin "datetime.datetime.minute")) := by rw [typeLookup_type, builtinLookup_eq_fast]; kernel_rfl
theorem ty_minute : typeOf (.builtin "datetime.datetime.minute") = pure (.type "getset_descriptor") := by show builtinType _ = _; rw [builtinType_eq_fast]; kernel_rfl
theorem en_minute : entryFor table "datetime.datetime.minute" = some Builtin.«datetime.datetime.minute» := entryFor_of_tree (by kernel_rfl)
theorem ow_minute : (".".intercalate ("datetime.datetime.minute".cutAt '.').dropLast) = "datetime.datetime" := by
  have e0 : "datetime.datetime.minute".cutAt '.' = ["datetime", "datetime", "minute"] := by first | rfl | decide +kernel
  rw [e0]; decide +kernel
theorem sb_minute : isSubtype (.type "datetime.datetime") (.type (".".intercalate ("datetime.datetime.minute".cutAt '.').dropLast)) = pure true := by
  rw [ow_minute, isSubtype_type]; kernel_rfl
theorem attr_minute {prog : Program} {w : World} {A : Around} {E : Value → Shared → Prop} {hp : Heap} {g : Array GenState} {dr : Drawn} {t : Nat} {os : OsState} {a : Addr} {y m d h mi sc : Int} {ex : Bool} {Q : Value → Shared → Prop} (hx : hp.get? a = some (dtObj y m d h mi sc)) (hq : Q (.int mi (t + 1)) ⟨hp, g, dr, t + 1 + 1, os⟩) : wpAny (model prog w) A (getAttr (.ref a) "minute" ex) Q E ⟨hp, g, dr, t, os⟩ :=
  attr_gen hx rfl lk_minute ty_minute (fun A R hr => get_gen hx rfl ty_minute en_minute sb_minute (fun args => Code.quiet_builtin _ (by decide +kernel)) (fun A E Q hq => by
    unfold Builtin.«datetime.datetime.minute»
    unfold Builtin._datetime.dtIntAt
    refine wpAny_bind (wpAny_field hx rfl (x := .int mi 0) rfl ?_)
    exact wpAny_bind (wpAny_mkInt (wpAny_pure hq))) hr) rfl hq
theorem attrK_minute {prog : Program} {w : World} {A : Around} {E : Value → Shared → Prop} {s : Shared} {h₀ : Heap} {L a : Addr} {news : List (Addr × Obj)} {y m d h mi sc : Int} {ex : Bool} {Q : Value → Shared → Prop} (N : News h₀ L s.heap news) (hm : (a, dtObj y m d h mi sc) ∈ news) (hq : ∀ (t' : Tok) (k : Nat), Q (.int mi t') { s with toks := k }) : wpAny (model prog w) A (getAttr (.ref a) "minute" ex) Q E s :=
  attr_minute (N _ hm).1 (hq _ _)
theorem lk_second : typeLookup (.type "datetime.datetime") "second" = pure (some (.builtin "datetime.datetime.second")) := by rw [typeLookup_type, builtinLookup_eq_fast]; kernel_rfl
theorem ty_second : typeOf (.builtin "datetime.datetime.second") = pure (.type "getset_descriptor") := by show builtinType _ = _; rw [builtinType_eq_fast]; kernel_rfl
theorem en_second : entryFor table "datetime.datetime.second" = some Builtin.«datetime.datetime.second» := entryFor_of_tree (by kernel_rfl)
theorem ow_second : (".".intercalate ("datetime.datetime.second".cutAt '.').dropLast) = "datetime.datetime" := by
  have e0 : "datetime.datetime.second".cutAt '.' = ["datetime", "datetime", "second"] := by first | rfl | decide +kernel
  rw [e0]; decide +kernel
theorem sb_second : isSubtype (.type "datetime.datetime") (.type (".".intercalate ("datetime.datetime.second".cutAt '.').dropLast)) = pure true := by
  rw [ow_second, isSubtype_type]; kernel_rfl
theorem attr_second {prog : Program} {w : World} {A : Around} {E : Value → Shared → Prop} {hp : Heap} {g : Array GenState} {dr : Drawn} {t : Nat} {os : OsState} {a : Addr} {y m d h mi sc : Int} {ex : Bool} {Q : Value → Shared → Prop} (hx : hp.get? a = some (dtObj y m d h mi sc)) (hq : Q (.int sc (t + 1)) ⟨hp, g, dr, t + 1 + 1, os⟩) : wpAny (model prog w) A (getAttr (.ref a) "second" ex) Q E ⟨hp, g, dr, t, os⟩ :=
  attr_gen hx rfl lk_second ty_second (fun A R hr => get_gen hx rfl ty_second en_second sb_second (fun args => Code.quiet_builtin _ (by decide +kernel)) (fun A E Q hq => by
    unfold Builtin.«datetime.datetime.second»
    unfold Builtin._datetime.dtIntAt
    refine wpAny_bind (wpAny_field hx rfl (x := .int sc 0) rfl ?_)
    exact wpAny_bind (wpAny_mkInt (wpAny_pure hq))) hr) rfl hq
theorem attrK_second {prog : Program} {w : World} {A : Around} {E : Value → Shared → Prop} {s : Shared} {h₀ : Heap} {L a : Addr} {news : List (Addr × Obj)} {y m d h mi sc : Int} {ex : Bool} {Q : Value → Shared → Prop} (N : News h₀ L s.heap news) (hm : (a, dtObj y m d h mi sc) ∈ news) (hq : ∀ (t' : Tok) (k : Nat), Q (.int sc t') { s with toks := k }) : wpAny (model prog w) A (getAttr (.ref a) "second" ex) Q E s :=
  attr_second (N _ hm).1 (hq _ _)
theorem lk_microsecond : typeLookup (.type "datetime.datetime") "microsecond" = pure (some (.builtin "datetime.datetime.microsecond")) := by rw [typeLookup_type, builtinLookup_eq_fast]; kernel_rfl
theorem ty_microsecond : typeOf (.builtin "datetime.datetime.microsecond") = pure (.type "getset_descriptor") := by show builtinType _ = _; rw [builtinType_eq_fast]; kernel_rfl
theorem en_microsecond : entryFor table "datetime.datetime.microsecond" = some Builtin.«datetime.datetime.microsecond» := entryFor_of_tree (by kernel_rfl)
theorem ow_microsecond : (".".intercalate ("datetime.datetime.microsecond".cutAt '.').dropLast) = "datetime.datetime" := by
  have e0 : "datetime.datetime.microsecond".cutAt '.' = ["datetime", "datetime", "microsecond"] := by first | rfl | decide +kernel
  rw [e0]; decide +kernel
theorem sb_microsecond : isSubtype (.type "datetime.datetime") (.type (".".intercalate ("datetime.datetime.microsecond".cutAt '.').dropLast)) = pure true := by
  rw [ow_microsecond, isSubtype_type]; kernel_rfl
theorem attr_microsecond {prog : Program} {w : World} {A : Around} {E : Value → Shared → Prop} {hp : Heap} {g : Array GenState} {dr : Drawn} {t : Nat} {os : OsState} {a : Addr} {y m d h mi sc : Int} {ex : Bool} {Q : Value → Shared → Prop} (hx : hp.get? a = some (dtObj y m d h mi sc)) (hq : Q (.int 0 (t + 1)) ⟨hp, g, dr, t + 1 + 1, os⟩) : wpAny (model prog w) A (getAttr (.ref a) "microsecond" ex) Q E ⟨hp, g, dr, t, os⟩ :=
  attr_gen hx rfl lk_microsecond ty_microsecond (fun A R hr => get_gen hx rfl ty_microsecond en_microsecond sb_microsecond (fun args => Code.quiet_builtin _ (by decide +kernel)) (fun A E Q hq => by
    unfold Builtin.«datetime.datetime.microsecond»
    unfold Builtin._datetime.dtIntAt
    refine wpAny_bind (wpAny_field hx rfl (x := .int 0 0) rfl ?_)
    exact wpAny_bind (wpAny_mkInt (wpAny_pure hq))) hr) rfl hq
theorem attrK_microsecond {prog : Program} {w : World} {A : Around} {E : Value → Shared → Prop} {s : Shared} {h₀ : Heap} {L a : Addr} {news : List (Addr × Obj)} {y m d h mi sc : Int} {ex : Bool} {Q : Value → Shared → Prop} (N : News h₀ L s.heap news) (hm : (a, dtObj y m d h mi sc) ∈ news) (hq : ∀ (t' : Tok) (k : Nat), Q (.int 0 t') { s with toks := k }) : wpAny (model prog w) A (getAttr (.ref a) "microsecond" ex) Q E s :=
  attr_microsecond (N _ hm).1 (hq _ _)
theorem lk_tzinfo : typeLookup (.type "datetime.datetime") "tzinfo" = pure (some (.builtin "datetime.datetime.tzinfo")) := by rw [typeLookup_type, builtinLookup_eq_fast]; kernel_rfl
theorem ty_tzinfo : typeOf (.builtin "datetime.datetime.tzinfo") = pure (.type "getset_descriptor") := by show builtinType _ = _; rw [builtinType_eq_fast]; kernel_rfl
theorem en_tzinfo : entryFor table "datetime.datetime.tzinfo" = some Builtin.«datetime.datetime.tzinfo» := entryFor_of_tree (by kernel_rfl)
theorem ow_tzinfo : (".".intercalate ("datetime.datetime.tzinfo".cutAt '.').dropLast) = "datetime.datetime" := by
  have e0 : "datetime.datetime.tzinfo".cutAt '.' = ["datetime", "datetime", "tzinfo"] := by first | rfl | decide +kernel
  rw [e0]; decide +kernel
theorem sb_tzinfo : isSubtype (.type "datetime.datetime") (.type (".".intercalate ("datetime.datetime.tzinfo".cutAt '.').dropLast)) = pure true := by
  rw [ow_tzinfo, isSubtype_type]; kernel_rfl
theorem attr_tzinfo {prog : Program} {w : World} {A : Around} {E : Value → Shared → Prop} {hp : Heap} {g : Array GenState} {dr : Drawn} {t : Nat} {os : OsState} {a : Addr} {y m d h mi sc : Int} {ex : Bool} {Q : Value → Shared → Prop} (hx : hp.get? a = some (dtObj y m d h mi sc)) (hq : Q (.none) ⟨hp, g, dr, t + 1, os⟩) : wpAny (model prog w) A (getAttr (.ref a) "tzinfo" ex) Q E ⟨hp, g, dr, t, os⟩ :=
  attr_gen hx rfl lk_tzinfo ty_tzinfo (fun A R hr => get_gen hx rfl ty_tzinfo en_tzinfo sb_tzinfo (fun args => Code.quiet_builtin _ (by decide +kernel)) (fun A E Q hq => by
    unfold Builtin.«datetime.datetime.tzinfo»
    skip
    refine wpAny_bind (wpAny_field hx rfl (x := .none) rfl ?_)
    exact wpAny_pure hq) hr) rfl hq
theorem attrK_tzinfo {prog : Program} {w : World} {A : Around} {E : Value → Shared → Prop} {s : Shared} {h₀ : Heap} {L a : Addr} {news : List (Addr × Obj)} {y m d h mi sc : Int} {ex : Bool} {Q : Value → Shared → Prop} (N : News h₀ L s.heap news) (hm : (a, dtObj y m d h mi sc) ∈ news) (hq : ∀ (t' : Tok) (k : Nat), Q (.none) { s with toks := k }) : wpAny (model prog w) A (getAttr (.ref a) "tzinfo" ex) Q E s :=
  attr_tzinfo (N _ hm).1 (hq 0 _)
end Mine

end
section
open PySem PySem.W PyProof.Rows PySem.Calls PySem.Spec
set_option maxRecDepth 100000
namespace Mine
section
variable {α : Type} {M : Model} {A : Around} {E : Value → Shared → Prop} {s : Shared} {env : Env}
theorem wpC_runOwn {c : Code} {h : Option Value} {Q : Flow → Shared → Prop}
    (hc : codeC M (A.mark h) c (fun r s' => match r with | .ok f => Q f s' | .error e => cameBackBy M A env E e s') s) (hnb : h ≠ some byPass := by intro x; cases x) :
    wpC M A (runOwn c env h) Q E s := by
  unfold runOwn
  exact wpC_onRaise (wpC_mono (wpC_run hc hnb) (fun _ _ x => x) fun _ _ x => wpC_of x)
theorem wpC_noted {m : Sem α} {Q : α → Shared → Prop} (h : wpC M A m Q (notedBy M A env E) s) : wpC M A (m.onRaise fun x => do noteFrame x env; theTreesLotGoes x) Q E s :=
  wpC_onRaise (wpC_mono h (fun _ _ q => q) fun _ _ hx => wpC_of (wpAny_bind (wpAny_mono hx (fun _ _ e => wpAny_theTreesLotGoes e) fun _ _ e => e)))
theorem codeC_loop {c : Code} {R : Result → Shared → Prop} (hq : c.quiet = true) (I : Nat → Shared → Prop)
    (turn : ∀ n s, I n s → wpC M (A.under c) (M.den c)
      (fun fin s' => match fin with
        | .done f => R (.ok f) s'
        | .again c' => (c' = c ∧ ∃ m, m < n ∧ I m s') ∨ (c'.quiet = true ∧ codeC M A c' R s')) (fun e s' => R (.error e) s') s)
    (n : Nat) (h : I n s) : codeC M A c R s := by
  induction n using Nat.strongRecOn generalizing s with
  | ind n ih =>
    refine codeC_of_tree (wpC_mono (turn n s h) (fun fin s' hf => ?_) fun _ _ h' => h')
    cases fin with
    | done f => exact hf
    | again c' =>
      rcases hf with ⟨rfl, m, hm, hI⟩ | hf
      · exact ⟨hq, ih m hm hI⟩
      · exact hf
end
section
variable {prog : Program} {w : World} {A : Around} {E : Value → Shared → Prop} {s : Shared}
theorem codeC_block {stmts : List Stmt} {env : Env} {R : Result → Shared → Prop}
    (h : wpC (model prog w) A (execs stmts env) (fun f s' => R (.ok f) s') (notedBy (model prog w) A env fun e s' => R (.error e) s') s) : codeC (model prog w) A (.block stmts env) R s := by
  refine codeC_of_tree ?_
  show wpC _ _ (do return Fin.done (← (execs stmts env).onRaise (fun x => do noteFrame x env; theTreesLotGoes x))) _ _ s
  exact wpC_bind (wpC_noted (wpC_mono h (fun f s' h' => wpC_pure h') fun _ _ h' => h'))
theorem codeC_forLoop {R : Result → Shared → Prop} {target it body orelse env} (I : Nat → Shared → Prop)
    (turn : ∀ n s, I n s → wpAny (model prog w) A (pyNext it) (fun r s₁ => match r with
      | none => wpC (model prog w) A (execs orelse env) (fun f s₃ => R (.ok f) s₃) (notedBy (model prog w) A env fun e s' => R (.error e) s') s₁
      | some v => wpAny (model prog w) A (assign target env v) (fun _ s₂ => wpC (model prog w) A (execs body env) (fun f s₃ => match f with
          | .next | .cont => ∃ m, m < n ∧ I m s₃
          | .brk => R (.ok .next) s₃
          | .ret v => R (.ok (.ret v)) s₃) (notedBy (model prog w) A env fun e s' => R (.error e) s') s₂) (notedBy (model prog w) A env fun e s' => R (.error e) s') s₁) (notedBy (model prog w) A env fun e s' => R (.error e) s') s)
    (n : Nat) (h : I n s) (ht : ∀ v, letOwnedTupleGo target it v = pure () := by intro _; rfl) : codeC (model prog w) A (.forLoop target it body orelse env) R s := by
  refine codeC_loop rfl I (fun n s hI => ?_) n h
  show wpC _ _ ((forTurn target it body orelse env).onRaise (fun x => do noteFrame x env; theTreesLotGoes x)) _ _ s
  refine wpC_noted ?_
  simp only [forTurn]
  refine wpC_then (wpAny_standAt (wpC_then (wpAny_onRaise (wpAny_mono (turn n s hI) (fun r s₁ h₁ => ?_) fun _ _ h' => wpAny_standAt h'))))
  cases r with
  | none => exact wpC_pure (.inr ⟨rfl, codeC_block h₁⟩)
  | some v =>
    refine wpC_then (wpAny_of_eq (ht v) ?_)
    refine wpC_then (wpAny_mono h₁ (fun _ s₂ h₂ => wpC_bind (wpC_mono h₂ (fun f s₃ h₃ => ?_) fun _ _ h' => h')) fun _ _ h' => h')
    cases f with
    | next => exact wpC_pure (.inl ⟨rfl, h₃⟩)
    | cont => exact wpC_pure (.inl ⟨rfl, h₃⟩)
    | brk => exact wpC_pure h₃
    | ret v => exact wpC_pure h₃
theorem wpC_For {target iter : PySem.Expr} {body orelse : List Stmt} {pos : Pos} {env : Env} {Q : Flow → Shared → Prop}
    (h : wpAny (model prog w) A (eval iter env) (fun x s₁ => wpAny (model prog w) A (pyIter x) (fun it s₂ =>
      codeC (model prog w) A (.forLoop target it body orelse env) (fun r s' => match r with | .ok f => Q f s' | .error e => cameBackBy (model prog w) A env E e s') s₂) E s₁) E s)
    (hs : ∀ x, foldedSetIterable iter env x = pure x := by intro _; rfl) :
    wpC (model prog w) A (exec (.For target iter body orelse pos) env) Q E s := by
  rw [exec_For]
  exact wpC_then (wpAny_standAt (wpC_then (wpAny_mono h (fun x s₁ h₁ => wpC_then (wpAny_of_eq (hs x) (wpC_then (wpAny_standAt (wpC_then (wpAny_holding
    (wpAny_mono h₁ (fun it s₂ h₂ => wpC_runOwn h₂) fun _ _ h' => h'))))))) fun _ _ h' => h')))
end

/-! a loop over a list of the ledger -/
section
variable {prog : Program} {w : World} {A : Around} {E : Value → Shared → Prop} {s : Shared} {env : Env} {h₀ : Heap} {body : List Stmt} {target : PySem.Expr} {Q : Flow → Shared → Prop}
/-- what a turn leaves: the iterator io at I, the new ledger, the word for the next turn -/
noncomputable def TurnEnd (h₀ : Heap) (L : Addr) (J : (Str → Option Value) → List (Addr × Obj) → Prop) (I : Addr) (io : Obj) (s₂ s₃ : Shared) : Prop :=
  ∃ h' tk m' news', s₃ = { s₂ with heap := h', toks := tk } ∧ Fr h₀ L h' m' ∧ News h₀ L h' ((I, io) :: news') ∧ AllNe I news' ∧ J m' news'
noncomputable def TurnPost (h₀ : Heap) (L : Addr) (J : (Str → Option Value) → List (Addr × Obj) → Prop) (I : Addr) (io : Obj) (Q : Flow → Shared → Prop) (s₂ : Shared) (f : Flow) (s₃ : Shared) : Prop :=
  match f with
  | .ret v => Q (.ret v) s₃
  | .brk => Q .next s₃
  | _ => TurnEnd h₀ L J I io s₂ s₃
theorem TurnEnd.intro {L : Addr} {J : (Str → Option Value) → List (Addr × Obj) → Prop} {I : Addr} {io : Obj} {s₂ : Shared} {h' : Heap} {tk : Nat} {m' : Str → Option Value} {news' : List (Addr × Obj)} (F : Fr h₀ L h' m') (N : News h₀ L h' ((I, io) :: news')) (hI : AllNe I news') (hj : J m' news') :
    TurnEnd h₀ L J I io s₂ { s₂ with heap := h', toks := tk } := ⟨h', tk, m', news', rfl, F, N, hI, hj⟩
noncomputable abbrev LoopC (prog : Program) (w : World) (A : Around) (h₀ : Heap) (env : Env) (target : PySem.Expr) (body : List Stmt) (l : Addr) (vs : List Value) (news : List (Addr × Obj)) (Q : Flow → Shared → Prop) (E : Value → Shared → Prop) (m : Str → Option Value) (s : Shared) : Prop :=
  ∃ (lo : Obj) (J : Nat → (Str → Option Value) → List (Addr × Obj) → Prop), (∀ i m news, J i m news → (l, lo) ∈ news) ∧ J 0 m news ∧
    (∀ i v m₁ news₁ I io h tk, vs[i]? = some v → J i m₁ news₁ → AllNe I news₁ → Fr h₀ env.locals h m₁ → News h₀ env.locals h ((I, io) :: news₁) →
      wpAny (model prog w) A (assign target env v) (fun _ s₂ => wpC (model prog w) A (execs body env) (TurnPost h₀ env.locals (J (i + 1)) I io Q { s with heap := h, toks := tk }) E s₂) E { s with heap := h, toks := tk }) ∧
    (∀ m₁ news₁ h tk, J vs.length m₁ news₁ → Fr h₀ env.locals h m₁ → News h₀ env.locals h news₁ → Q .next { s with heap := h, toks := tk })
end

/-! the law's own entry -/
section
variable {prog : Program} {w : World} {A : Around} {s : Shared}
theorem enterC {f : Value} {pos : List Value} {kw : List (Str × Value)} {c : ClaimW} {cl : Str → Option Addr} {mean : ExcName → Option Value} {args : List WData} {s₁ : Shared}
    (h : codeC (model prog w) A (.call f ⟨pos, kw⟩) (GoodWG c cl mean args s₁) s) : wpC (model prog w) A (PySem.call f pos kw) (fun v s' => GoodWG c cl mean args s₁ (.ok (.ret v)) s') (fun e s' => GoodWG c cl mean args s₁ (.error e) s') s :=
  wpC_call (codeC_mono h fun res s' g => by rcases g.1 with ⟨v, _, _, rfl, _⟩ | ⟨e, _, _, rfl, _⟩ <;> exact g)
theorem call_fullC {R : Result → Shared → Prop} {name : Str} {params : Arguments} {body : List Stmt} {scope : Scope}
    {dV kV pm cd doc : Value} {a : Addr} {o : Obj} {args : Args} {binds : List (Str × Value)}
    (hroom : A.depth < recursionLimit) (ho : s.heap.get? a = some o) (hdata : o.data = .func { docDef name params body scope pm cd doc with defaults := dV, kwdefaults := kV }) (hlim : s.heap.NoLimit) (hcd : s.heap.CodeRec cd name)
    (hbind : BindsTo s { docDef name params body scope pm cd doc with defaults := dV, kwdefaults := kV } args binds)
    (hloc : ∀ x ∈ binds, scope.names.lookup x.1 = some .local)
    (h : ∀ h₁, Fr s.heap s.heap.objs.size h₁ (fun x => binds.reverse.lookup x) →
      wpC (model prog w) (A.deeper (envOf name scope s.heap.objs.size a cd)) (execs body (envOf name scope s.heap.objs.size a cd))
        (fun f s' => R (.ok (.ret (match f with | .ret v => v | _ => .none))) s')
        (fun e s' => wpAny (model prog w) (A.deeper (envOf name scope s.heap.objs.size a cd)) (leaving (envOf name scope s.heap.objs.size a cd) e)
          (fun _ s'' => R (.error e) s'') (fun e' s'' => R (.error e') s'') s')
        { s with heap := h₁, toks := s.toks + binds.length })
    (hco : scope.isCoroutine = false := by rfl) (hgen : scope.isGenerator = false := by rfl) (hk : scope.kind = .function := by rfl)
    (hcell : ∀ x ∈ scope.names, x.2 ≠ .cell := by decide) :
    codeC (model prog w) A (.call (.ref a) args) R s :=
  codeC_call_def hroom ho hdata hlim hcd rfl hbind hcell hloc (fun h₁ hns hkeep => h h₁ ⟨hns, hkeep, Nat.le_refl _⟩) hco hgen hk
end
end Mine
namespace Mine
open PySem PySem.W PyProof.Rows PySem.Calls PySem.Spec
section
variable {prog : Program} {w : World} {K : Frag} {d : Nat} {f : Addr} {args : List (Addr × Obj)} {vs : List Value} {p : Program} {loose : List Str} {mean : ExcName → Option Value} {mg mb : Str → Option Value} {dp un : Nat} {gd : Option (List Code)} {cn : Str} {cs : Scope} {a : Addr} {ccd : Value} {cl : List (Str × Addr)} {outer : List Env} {A₀ : Around} {base h₀ : Heap} {L : Addr} {m : Str → Option Value} {s : Shared} {Q E : Value → Shared → Prop} {news : List (Addr × Obj)}
end
end Mine
namespace Mine
structure Stop (P : Prop) : Prop where
  out : P
end Mine
namespace Mine
open PySem PySem.W PyProof.Rows PySem.Calls PySem.Spec
theorem map_pin {m : Str → Option Value} {x : Str} {v : Value} (h : m x = some v) : m = fun y => if y = x then some v else m y := by
  funext y
  by_cases e : y = x
  · subst e; simp [h]
  · simp [e]
theorem AllNe.at {d a : Addr} {o : Obj} {l : List (Addr × Obj)} (h : AllNe d l) (hm : (a, o) ∈ l) : a ≠ d := h.mem _ hm
theorem AllNe.at' {d a : Addr} {o : Obj} {l : List (Addr × Obj)} (h : AllNe d l) (hm : (a, o) ∈ l) : d ≠ a := (h.mem _ hm).symm
end Mine
namespace Mine
open PySem PySem.W PyProof.Rows PySem.Calls PySem.Spec
section
variable {prog : Program} {w : World} {A : Around} {E : Value → Shared → Prop} {s : Shared} {env : Env} {h₀ : Heap} {body : List Stmt} {target : PySem.Expr} {Q : Flow → Shared → Prop}
end
end Mine
namespace Mine
open PySem PySem.W PyProof.Rows PySem.Calls PySem.Spec
theorem pinR {h₀ h : Heap} {L R : Addr} {m : Str → Option Value} (_F : Fr h₀ L h m) (x : Str) (e : m x = some (.ref R)) : ∃ R', R' = R ∧ m x = some (.ref R') := ⟨R, rfl, e⟩
end Mine
namespace Mine
open PySem PySem.W PyProof.Rows PySem.Calls PySem.Spec
end Mine
namespace Mine
open PySem PySem.W PyProof.Rows PySem.Calls PySem.Spec
theorem news_tl {g h : Heap} {L : Addr} {a : Addr × Obj} {t : List (Addr × Obj)} (N : News g L h (a :: t)) : News g L h t := fun p hp => N p (.tail _ hp)
theorem news_dup {g h : Heap} {L : Addr} {a : Addr × Obj} {t : List (Addr × Obj)} (N : News g L h t) (hm : a ∈ t) : News g L h (a :: t) := fun p hp => N p (by
  rcases List.mem_cons.mp hp with rfl | hp
  · exact hm
  · exact hp)
end Mine
namespace Mine
open PySem PySem.W PyProof.Rows PySem.Calls PySem.Spec
section
variable {prog : Program} {w : World} {K : Frag} {d : Nat} {f : Addr} {vs : List Value} {p : Program} {loose : List Str} {mean : ExcName → Option Value} {mg mb : Str → Option Value} {dp un : Nat} {gd : Option (List Code)} {cn : Str} {cs : Scope} {a : Addr} {ccd : Value} {cl : List (Str × Addr)} {outer : List Env} {A₀ : Around} {base h₀ : Heap} {L : Addr} {m : Str → Option Value} {s : Shared} {Q E : Value → Shared → Prop} {news : List (Addr × Obj)} {q : Addr × Obj}
theorem mem_one {q : Addr × Obj} (hm : q ∈ news) : ∀ r ∈ [q], r ∈ news := fun r hr => by rw [List.mem_singleton.mp hr]; exact hm
/-- one object of the ledger is handed over; it is sought first -/
theorem Fn.useVA {mk : Tok → Value} (N : News h₀ L s.heap news) (hm : q ∈ news) (C : Fn prog w K d f [q] vs (fun v new => new = [] ∧ ∃ t, v = mk t)) (B : Below A₀ base outer h₀) (F : Fr h₀ L s.heap m) (X : K.In h₀) (T : Top p loose mean mg mb h₀) (hk : cs.kind = .function)
    (hd : dp + d < recursionLimit) (hu : un + 12 * d < cLine)
    (ret : ∀ t h' tk', Fr h₀ L h' m → News h₀ L h' news → Q (mk t) { s with heap := h', toks := tk' }) :
    wpAny (model prog w) (ktrTop dp un gd cn cs L a ccd cl outer) (call (.ref f) vs) Q E s := Fn.useV C B F X N T hk (mem_one hm) hd hu ret
theorem Fn.useOA {O : Obj → Prop} (N : News h₀ L s.heap news) (hm : q ∈ news) (C : Fn prog w K d f [q] vs (fun v new => ∃ D o, v = .ref D ∧ new = [(D, o)] ∧ O o)) (B : Below A₀ base outer h₀) (F : Fr h₀ L s.heap m) (X : K.In h₀) (T : Top p loose mean mg mb h₀) (hk : cs.kind = .function)
    (hd : dp + d < recursionLimit) (hu : un + 12 * d < cLine)
    (ret : ∀ D o h' tk', O o → Fr h₀ L h' m → News h₀ L h' ((D, o) :: news) → AllNe D news → Q (.ref D) { s with heap := h', toks := tk' }) :
    wpAny (model prog w) (ktrTop dp un gd cn cs L a ccd cl outer) (call (.ref f) vs) Q E s := Fn.useO C B F X N T hk (mem_one hm) hd hu ret
end
end Mine
namespace Mine
open PySem PySem.W PyProof.Rows PySem.Calls PySem.Spec
theorem wpC_CallK {M : Model} {A : Around} {E : Value → Shared → Prop} {s : Shared} {env : Env} {K : Frag} {hp : Heap} (_X : K.In hp) {func e : PySem.Expr} {rest : List PySem.Expr} {pos : Pos} {Q : Value → Shared → Prop}
    (h : wpAny M A (eval func env) (fun f s₁ => keepIn K f = true ∧ wpAny M A (spliced (backTo pos (starEach (e :: rest) env))) (fun vs s₂ => K.In s₂.heap ∧ wpC M A (call f vs) Q E s₂) E s₁) E s)
    (hc : eval (.Call func (e :: rest) [] pos) env = (do callWith pos (← eval func env) [] (backTo pos (starEach (e :: rest) env)) (backToKw pos (keywordEach [] env))) := by rfl)
    (he : starEach (e :: rest) env = (false, eval e env) :: starEach rest env := by rfl) (hplain : (backTo pos (starEach rest env)).any (·.1) = false := by rfl) :
    wpC M A (eval (.Call func (e :: rest) [] pos) env) Q E s := wpC_Call h hc he hplain
end Mine

end
section
open PySem PySem.W PyProof.Rows PySem.Calls PySem.Spec
set_option maxRecDepth 100000
namespace Mine
theorem eqv_tup {xs ys : List PyData} (h : PyData.eqvAll xs ys = true) : PyData.eqv (.tuple xs) (.tuple ys) = true := by simp [PyData.eqv, h]
theorem eqv_list {xs ys : List PyData} (h : PyData.eqvAll xs ys = true) : PyData.eqv (.list xs) (.list ys) = true := by simp [PyData.eqv, h]
theorem eqvs_nil : PyData.eqvAll [] [] = true := by simp [PyData.eqvAll]
theorem eqvs_int {x y : Int} {xs ys : List PyData} (e : x = y) (h : PyData.eqvAll xs ys = true) : PyData.eqvAll (.int x :: xs) (.int y :: ys) = true := by simp [PyData.eqvAll, PyData.eqv, h, e]
section
variable {prog : Program} {w : World} {A : Around} {E : Value → Shared → Prop} {s : Shared} {a b : Value} {da db : PyData} {as bs : List Addr} {Q : Value → Shared → Prop}
theorem ne_same (ra : Reads s.heap a da as) (rb : Reads s.heap b db bs) (ha : SeqAt.shaped da = true) (hb : SeqAt.shaped db = true) (hu : A.units + 64 < cLine) (e : PyData.eqv da db = true)
    (h : Q (.bool false) s) : wpAny (model prog w) A (compareOp .NotEq a b) Q E s := ne_dataH ra rb ha hb hu (by rw [e]; exact h)
theorem ne_other (ra : Reads s.heap a da as) (rb : Reads s.heap b db bs) (ha : SeqAt.shaped da = true) (hb : SeqAt.shaped db = true) (hu : A.units + 64 < cLine) (e : PyData.eqv da db = false)
    (h : Q (.bool true) s) : wpAny (model prog w) A (compareOp .NotEq a b) Q E s := ne_dataH ra rb ha hb hu (by rw [e]; exact h)
theorem eqd_same (ra : Reads s.heap a da as) (rb : Reads s.heap b db bs) (ha : SeqAt.shaped da = true) (hb : SeqAt.shaped db = true) (hu : A.units + 64 < cLine) (e : PyData.eqv da db = true)
    (h : Q (.bool true) s) : wpAny (model prog w) A (compareOp .Eq a b) Q E s := eq_dataH ra rb ha hb hu (by rw [e]; exact h)
theorem eqd_other (ra : Reads s.heap a da as) (rb : Reads s.heap b db bs) (ha : SeqAt.shaped da = true) (hb : SeqAt.shaped db = true) (hu : A.units + 64 < cLine) (e : PyData.eqv da db = false)
    (h : Q (.bool false) s) : wpAny (model prog w) A (compareOp .Eq a b) Q E s := eq_dataH ra rb ha hb hu (by rw [e]; exact h)
theorem nei_same {x y : Int} {t u : Tok} (e : x = y) (h : Q (.bool false) s) : wpAny (model prog w) A (compareOp .NotEq (.int x t) (.int y u)) Q E s := PyProof.Rows.ne_int (by rw [e, bne_self_eq_false]; exact h)
theorem nes_same {x y : Str} {t u : Tok} (e : x = y) (h : Q (.bool false) s) : wpAny (model prog w) A (compareOp .NotEq (.str x t) (.str y u)) Q E s := PyProof.Rows.ne_str (by rw [e, bne_self_eq_false]; exact h)
end
open Builtin in
theorem fmt_stampL (b : Addr) (t t1 t2 t3 t4 t5 t6 : Tok) (y m d h mi sc : Int) (hy : 0 ≤ y ∧ y < 10000) (hm : 0 ≤ m ∧ m < 100) (hd : 0 ≤ d ∧ d < 100) (hh : 0 ≤ h ∧ h < 100) (hi : 0 ≤ mi ∧ mi < 100) (hs : 0 ≤ sc ∧ sc < 100) :
    Meets («str.__mod__» ⟨[.str ⟨#[37, 48, 52, 100, 45, 37, 48, 50, 100, 45, 37, 48, 50, 100, 84, 37, 48, 50, 100, 58, 37, 48, 50, 100, 58, 37, 48, 50, 100, 90]⟩ t, .ref b], []⟩)
      (fun _ R s => IsTup s.heap b #[.int y t1, .int m t2, .int d t3, .int h t4, .int mi t5, .int sc t6] ∧ ∀ t' k, R (.ok (.ret (.str (tx (stampL y m d h mi sc)) t'))) { s with toks := k }) :=
  fmt_stamp b t t1 t2 t3 t4 t5 t6 y m d h mi sc hy.1 hy.2 hm.1 hm.2 hd.1 hd.2 hh.1 hh.2 hi.1 hi.2 hs.1 hs.2
end Mine

end
section
open PySem PySem.W PyProof.Rows PySem.Calls PySem.Spec
set_option maxRecDepth 100000
namespace Mine
section
variable {prog : Program} {w : World} {A : Around} {E : Value → Shared → Prop} {s : Shared} {env : Env}
/-- «type(x) is not int» of an int, whatever the frame -/
theorem test_int {x : Str} {p1 p2 p3 p4 p5 : Pos} {m mg mb : Str → Option Value} {n : Int} {t : Tok} {Q : Bool → Shared → Prop} (hk : env.scope.kind = .function) (hx : env.kindOf x = some .local) (hT : env.kindOf (Str.ofString "type") = some .globalImplicit) (hI : env.kindOf (Str.ofString "int") = some .globalImplicit)
    (hn : s.heap.Ns env.locals m) (hv : m x = some (.int n t)) (hg : s.heap.Ns env.globals mg) (hb : s.heap.Ns env.builtins mb) (g1 : mg (Str.ofString "type") = none) (g2 : mg (Str.ofString "int") = none) (b1 : mb (Str.ofString "type") = some (.type "type")) (b2 : mb (Str.ofString "int") = some (.type "int"))
    (hd : (x == ("__debug__" : Str)) = false) (h : Q false s) :
    wpAny (model prog w) A (isTrue (.Compare (.Call (.Name (Str.ofString "type") p1) [.Name x p2] [] p3) [.IsNot] [.Name (Str.ofString "int") p4] p5) env (eval (.Compare (.Call (.Name (Str.ofString "type") p1) [.Name x p2] [] p3) [.IsNot] [.Name (Str.ofString "int") p4] p5) env)) Q E s := by
  refine wpAny_isTrue_Compare1 ?_
  refine Call_Name1 ?_
  refine Calls.Name_function_global hk hT (Calls.loadGlobal_builtin hg g1 hb b1 ?_)
  refine PySem.callWith_type1 (wpAny_Name (wpAny_loadName_local hk hx hn hv ?_) hd)
  refine call_type_of (Tx := "int") rfl (by decide +kernel) ?_
  refine Calls.Name_function_global hk hI (Calls.loadGlobal_builtin hg g2 hb b2 ?_)
  refine wpAny_isNot_self rfl ?_
  exact wpAny_truthy_bool h

noncomputable def AllInt : List Value → Prop
  | [] => True
  | v :: r => (∃ n t, v = .int n t) ∧ AllInt r
theorem AllInt.at : ∀ {l : List Value}, AllInt l → ∀ v ∈ l, ∃ n t, v = .int n t
  | [], _, _, h => nomatch h
  | _ :: _, h, v, hv => by
    rcases List.mem_cons.mp hv with rfl | hv
    · exact h.1
    · exact AllInt.at h.2 v hv
/-- the source of a comprehension that keeps what is no int: a tuple of ints -/
noncomputable def CompI (h₀ : Heap) (L : Addr) (m : Str → Option Value) (Q : Value → Shared → Prop) (xv : Value) (s₁ : Shared) : Prop :=
  ∃ (a : Addr) (its : List Value) (news : List (Addr × Obj)), xv = .ref a ∧ Fr h₀ L s₁.heap m ∧ News h₀ L s₁.heap news ∧ (a, ({ cls := .type "tuple", data := .seq its.toArray } : Obj)) ∈ news ∧ AllInt its ∧ its.length ≤ sizeLine ∧
    ∀ D n0 h' tk, Fr h₀ L h' m → News h₀ L h' ((D, PySem.W.listOf #[] n0) :: news) → AllNe D news → Q (.ref D) { s₁ with heap := h', toks := tk }
theorem CompI.intro {h₀ : Heap} {L a : Addr} {m : Str → Option Value} {Q : Value → Shared → Prop} {s₁ : Shared} {its : List Value} {news : List (Addr × Obj)} (F : Fr h₀ L s₁.heap m) (N : News h₀ L s₁.heap news) (hm : (a, ({ cls := .type "tuple", data := .seq its.toArray } : Obj)) ∈ news) (hi : AllInt its) (hz : its.length ≤ sizeLine)
    (k : ∀ D n0 h' tk, Fr h₀ L h' m → News h₀ L h' ((D, PySem.W.listOf #[] n0) :: news) → AllNe D news → Q (.ref D) { s₁ with heap := h', toks := tk }) : CompI h₀ L m Q (.ref a) s₁ := ⟨a, its, news, rfl, F, N, hm, hi, hz, k⟩
variable {K : Frag} {h₀ : Heap} {L a : Addr} {m mg mb : Str → Option Value} {cn : Str} {cs : Scope} {ccd : Value} {p : Program} {loose : List Str} {mean : ExcName → Option Value}
theorem comp_ints {x : Str} {px p0 p1 p2 p3 p4 p5 pos : Pos} {iter : PySem.Expr} {scope : Scope} {Q : Value → Shared → Prop} (_F : Fr h₀ L s.heap m) (hh : A.handled = none) (X : K.In h₀) (T : Top p loose mean mg mb h₀) (e1 : nsIn K mainGlobals (Str.ofString "type") = some none) (e2 : nsIn K mainGlobals (Str.ofString "int") = some none)
    (hfree : ∀ y ∈ scope.names, y.2 ≠ .free) (hcell : ∀ y ∈ scope.names, y.2 ≠ .cell) (hkind : scope.kind = .function)
    (hnames : ∀ y ∈ scope.names, y.2 = .local → scope.names.lookup y.1 = some .local) (hx : scope.names.lookup x = some .local)
    (hX : ∀ C, (compEnv scope C (envOf cn cs L a ccd)).kindOf x = some .local) (hT : ∀ C, (compEnv scope C (envOf cn cs L a ccd)).kindOf (Str.ofString "type") = some .globalImplicit) (hI : ∀ C, (compEnv scope C (envOf cn cs L a ccd)).kindOf (Str.ofString "int") = some .globalImplicit)
    (hd : (x == ("__debug__" : Str)) = false)
    (h : wpAny (model prog w) A (eval iter (envOf cn cs L a ccd)) (CompI h₀ L m Q) E s)
    (hs : ∀ x, foldedSetIterable iter (envOf cn cs L a ccd) x = pure x) :
    wpAny (model prog w) A (eval (.ListComp (.Name x p0) [⟨.Name x px, iter, [.Compare (.Call (.Name (Str.ofString "type") p1) [.Name x p2] [] p3) [.IsNot] [.Name (Str.ofString "int") p4] p5], 0⟩] scope pos) (envOf cn cs L a ccd)) Q E s := by
  refine wpAny_ListComp_walk (fun _ => false) (fun _ _ => False) hfree hcell hkind hnames hx (wpAny_mono h (fun xv s₁ h₁ => ?_) fun _ _ e => e) hs
  obtain ⟨t, its, news, rfl, F, N, hm, hi, hz, k⟩ := h₁
  have ht : s₁.heap.IsTuple t its.toArray := ⟨_, (N _ hm).1, rfl, _, rfl⟩
  have hlt : t < s₁.heap.objs.size := Heap.lt_size (N _ hm).1
  refine wpAny_pyIter_tuple ht ?_
  have up : ∀ b o, s₁.heap.get? b = some o → (s₁.heap.push { cls := .type "tuple_iterator", data := .fields #[.ref t, .int 0 0] }).get? b = some o := fun b o e => Heap.get?_push_of_some _ e
  refine ⟨_, _, _, _, _, _, rfl, Walks.tuple hh s₁.heap.objs.size t (Nat.ne_of_lt hlt) its.toArray, by rw [List.size_toArray]; exact hz, ⟨⟨_, Heap.get?_push_size _ rfl, rfl, rfl⟩, ?_⟩, fun b hb => ?_, ⟨fun C i v s₃ m₃ E' hP hn hv hk _ => ?_, fun C i v s₃ m₃ E' hP hp => ?_⟩, ?_⟩
  · exact let ⟨o, e, r⟩ := ht; ⟨o, up _ _ e, r⟩
  · show b < (s₁.heap.push _).objs.size
    rw [Heap.size_push]
    rcases List.mem_cons.mp hb with rfl | hb
    · exact Nat.lt_succ_self _
    · rw [List.mem_singleton.mp hb]; exact Nat.lt_succ_of_lt hlt
  · obtain ⟨n, u, rfl⟩ := hi.at v (List.mem_of_getElem? (by simpa using hP))
    have st : ∀ b o, h₀.get? b = some o → s₃.heap.get? b = some o := fun b o e => hk b o (fun q => by
      rw [List.mem_singleton.mp q] at e
      exact absurd (Heap.lt_size (F.keep _ _ e)) (Nat.lt_irrefl _)) (up b o (F.keep b o e))
    rw [List.forIn_cons]
    refine wpAny_bind (wpAny_bind ?_)
    refine test_int (env := compEnv scope C (envOf cn cs L a ccd)) hkind (hX C) (hT C) (hI C) hn hv (T.g.keeps st) (T.b.keeps st) (mg_none_of X T.g e1) (mg_none_of X T.g e2) ((T.builtins _ (by decide)).trans Boot.«type») ((T.builtins _ (by decide)).trans Boot.«int») hd ?_
    refine wpAny_pure ?_
    exact wpAny_pure ⟨rfl, _, _, rfl, fun _ _ e => e⟩
  · cases hp
  · intro D h' tk ys vs hD hl hpl hlen hP hpair hk
    have hnil : vs.filter (fun _ => false) = [] := by simp
    rw [hnil] at hpair
    have hys : ys = #[] := by
      cases hy : ys.toList with
      | nil => exact Array.toList_eq_nil_iff.mp hy
      | cons q r => rw [hy] at hpair; cases hpair
    subst hys
    obtain ⟨n0, ho⟩ := hpl
    have kp : ∀ b o, s₁.heap.get? b = some o → h'.get? b = some o := fun b o e => hk b o (fun q => by
      rw [List.mem_singleton.mp q] at e
      exact absurd (Heap.lt_size e) (Nat.lt_irrefl _)) (up b o e)
    have off : ∀ b o, s₁.heap.get? b = some o → b ≠ D := fun b o e q => by
      rw [← q, up b o e] at hD; cases hD
    refine k D n0 h' tk (F.keeps kp) (fun q hq => ?_) (allNe_intro fun q hq => off _ _ (N q hq).1)
    rcases List.mem_cons.mp hq with rfl | hq
    · refine ⟨ho, fun z => ?_, ?_⟩
      · obtain ⟨oL, _, _, e, _⟩ := F.ns
        exact off _ _ e z.symm
      · cases z : h₀.get? D with
        | none => rfl
        | some o => exact absurd rfl (off _ _ (F.keep _ _ z))
    · exact ⟨kp _ _ (N q hq).1, (N q hq).2⟩
end
end Mine
namespace Mine
section
variable {v1 v2 v3 v4 v5 v6 v7 v8 v9 v10 : PySem.Value}
theorem pick9_3 : ((List.range 3).filterMap fun (k : Nat) => #[v1, v2, v3, v4, v5, v6, v7, v8, v9][k]?) = [v1, v2, v3] := rfl
theorem pick9_6 : ((List.range 6).filterMap fun (k : Nat) => #[v1, v2, v3, v4, v5, v6, v7, v8, v9][k]?) = [v1, v2, v3, v4, v5, v6] := rfl
theorem pick10_9 : ((List.range 9).filterMap fun (k : Nat) => #[v1, v2, v3, v4, v5, v6, v7, v8, v9, v10][k]?) = [v1, v2, v3, v4, v5, v6, v7, v8, v9] := rfl
end
end Mine
namespace Mine
section
variable {v1 v2 v3 v4 v5 v6 v7 v8 v9 v10 : PySem.Value}
theorem cat33 : (#[v1, v2, v3] : Array PySem.Value).toList ++ (#[v4, v5, v6] : Array PySem.Value).toList = [v1, v2, v3, v4, v5, v6] := rfl
theorem cat63 : (#[v1, v2, v3, v4, v5, v6] : Array PySem.Value).toList ++ (#[v7, v8, v9] : Array PySem.Value).toList = [v1, v2, v3, v4, v5, v6, v7, v8, v9] := rfl
end
end Mine

end
section
open PySem PySem.W PyProof.Rows PySem.Calls PySem.Spec
open PySem.Builtin PySem.Builtin.Str PySem.NumText
set_option maxRecDepth 100000
namespace Mine
/-- the weekdays' names in a mail -/
noncomputable def wdTab : List (List Nat) := [[83, 117, 110, 100, 97, 121], [77, 111, 110, 100, 97, 121], [84, 117, 101, 115, 100, 97, 121], [87, 101, 100, 110, 101, 115, 100, 97, 121], [84, 104, 117, 114, 115, 100, 97, 121], [70, 114, 105, 100, 97, 121], [83, 97, 116, 117, 114, 100, 97, 121]]
noncomputable def wdL (k : Int) : List Nat := wdTab.getD k.toNat []
noncomputable def wd3 (k : Int) : List Nat := (wdL k).take 3
noncomputable def lwd (k : Int) : List Nat := (wd3 k).map fun c => if c < 97 then c + 32 else c
theorem weekN {P : Int → Prop} (h : ∀ k : Nat, k < 7 → P k) {k : Int} (hk : 0 ≤ k ∧ k ≤ 6) : P k := by
  obtain ⟨j, rfl⟩ := Int.eq_ofNat_of_zero_le hk.1
  exact h j (by omega)
theorem wd3_lenT : ∀ k : Nat, k < 7 → (wd3 k).length = 3 := by decide
theorem wd3_len {k : Int} (h : 0 ≤ k ∧ k ≤ 6) : (wd3 k).length = 3 := weekN (P := fun k => (wd3 k).length = 3) wd3_lenT h
theorem wdL_lenT : ∀ k : Nat, k < 7 → 1 ≤ (wdL k).length ∧ (wdL k).length ≤ 9 := by decide
theorem wdL_len {k : Int} (h : 0 ≤ k ∧ k ≤ 6) : 1 ≤ (wdL k).length ∧ (wdL k).length ≤ 9 := weekN (P := fun k => 1 ≤ (wdL k).length ∧ (wdL k).length ≤ 9) wdL_lenT h
theorem wdL_memT : ∀ k : Nat, k < 7 → ∀ c ∈ wdL k, 65 ≤ c ∧ c ≤ 122 := by decide
theorem wdL_mem {k : Int} (h : 0 ≤ k ∧ k ≤ 6) : ∀ c ∈ wdL k, 65 ≤ c ∧ c ≤ 122 := weekN (P := fun k => ∀ c ∈ wdL k, 65 ≤ c ∧ c ≤ 122) wdL_memT h
theorem wd3_mem {k : Int} (h : 0 ≤ k ∧ k ≤ 6) : ∀ c ∈ wd3 k, 65 ≤ c ∧ c ≤ 122 := fun c hc => wdL_mem h c (List.mem_of_mem_take hc)
noncomputable def gmt : List Nat := [71, 77, 84]
theorem gmt_is : tx gmt = Str.ofString "GMT" := by rw [tx_def]; decide +kernel
/-- the three dresses -/
noncomputable def mailA (k d m yy h mi sc : Int) : List Nat := joinSp [wd3 k ++ [44], dg2 d, mon m, dg2 yy, clk h mi sc, gmt]
noncomputable def dashed (d m yy : Int) : List Nat := joinC 45 [dg2 d, mon m, dg2 yy]
noncomputable def mailB (k d m yy h mi sc : Int) : List Nat := joinSp [wdL k ++ [44], dashed d m yy, clk h mi sc, gmt]
noncomputable def mailC (k d m yy h mi sc : Int) : List Nat := joinSp [wd3 k, mon m, dgs d, clk h mi sc, dg2 yy]
theorem plain_cm {l : List Nat} (h : ∀ c ∈ l, 65 ≤ c ∧ c ≤ 122) : Plain (l ++ [44]) := plain_of (by simp) fun c hc => by
  rcases List.mem_append.mp hc with q | q
  · have := h c q; omega
  · rw [List.mem_singleton.mp q]; decide
theorem plain_gmt : Plain gmt := plain_of (by decide) (by decide)
theorem plain_wd3 {k : Int} (h : 0 ≤ k ∧ k ≤ 6) : Plain (wd3 k) := plain_of (by intro e; have := wd3_len h; rw [e] at this; cases this) fun c hc => by have := wd3_mem h c hc; omega
theorem dash_mem {d m yy : Int} (hm : 1 ≤ m ∧ m ≤ 12) : ∀ c ∈ dashed d m yy, 45 ≤ c ∧ c ≤ 122 := by
  intro c hc
  simp only [dashed, joinC, List.mem_append, List.mem_cons] at hc
  rcases hc with q | rfl | q | rfl | q
  · have := dg2_mem _ _ q; omega
  · omega
  · have := mon_mem hm _ q; omega
  · omega
  · have := dg2_mem _ _ q; omega
theorem plain_dash {d m yy : Int} (hm : 1 ≤ m ∧ m ≤ 12) : Plain (dashed d m yy) := plain_of (by simp [dashed, joinC, dg2]) fun c hc => by have := dash_mem hm c hc; omega
theorem words_A {k d m yy h mi sc : Int} (hk : 0 ≤ k ∧ k ≤ 6) (hm : 1 ≤ m ∧ m ≤ 12) : Txt.words (tx (mailA k d m yy h mi sc)) = [tx (wd3 k ++ [44]), tx (dg2 d), tx (mon m), tx (dg2 yy), tx (clk h mi sc), Str.ofString "GMT"] := by
  rw [← gmt_is]
  unfold mailA
  rw [words_sp _ (by simp) (fun p hp => ?_)]
  · rfl
  · simp only [List.mem_cons, List.not_mem_nil, or_false] at hp
    rcases hp with rfl | rfl | rfl | rfl | rfl | rfl
    · exact plain_cm (wd3_mem hk)
    · exact plain_dg2 _
    · exact plain_mon hm
    · exact plain_dg2 _
    · exact plain_clk _ _ _
    · exact plain_gmt
theorem words_B {k d m yy h mi sc : Int} (hk : 0 ≤ k ∧ k ≤ 6) (hm : 1 ≤ m ∧ m ≤ 12) : Txt.words (tx (mailB k d m yy h mi sc)) = [tx (wdL k ++ [44]), tx (dashed d m yy), tx (clk h mi sc), Str.ofString "GMT"] := by
  rw [← gmt_is]
  unfold mailB
  rw [words_sp _ (by simp) (fun p hp => ?_)]
  · rfl
  · simp only [List.mem_cons, List.not_mem_nil, or_false] at hp
    rcases hp with rfl | rfl | rfl | rfl
    · exact plain_cm (wdL_mem hk)
    · exact plain_dash hm
    · exact plain_clk _ _ _
    · exact plain_gmt
theorem words_C {k d m yy h mi sc : Int} (hk : 0 ≤ k ∧ k ≤ 6) (hm : 1 ≤ m ∧ m ≤ 12) : Txt.words (tx (mailC k d m yy h mi sc)) = [tx (wd3 k), tx (mon m), tx (dgs d), tx (clk h mi sc), tx (dg2 yy)] := by
  unfold mailC
  rw [words_sp _ (by simp) (fun p hp => ?_)]
  · rfl
  · simp only [List.mem_cons, List.not_mem_nil, or_false] at hp
    rcases hp with rfl | rfl | rfl | rfl | rfl
    · exact plain_wd3 hk
    · exact plain_mon hm
    · exact plain_dgs _
    · exact plain_clk _ _ _
    · exact plain_dg2 _
theorem split_dash {d m yy : Int} (hm : 1 ≤ m ∧ m ≤ 12) : Txt.split (tx (dashed d m yy)) (Str.ofString "-") = [tx (dg2 d), tx (mon m), tx (dg2 yy)] := by
  rw [minus]
  unfold dashed
  rw [split_c 45 _ (by simp) (by simp [joinC, dg2]) (fun p hp => ?_)]
  · rfl
  · simp only [List.mem_cons, List.not_mem_nil, or_false] at hp
    rcases hp with rfl | rfl | rfl
    · exact fun hc => by have := dg2_mem _ _ hc; omega
    · exact fun hc => by have := mon_mem hm _ hc; omega
    · exact fun hc => by have := dg2_mem _ _ hc; omega
theorem ends_last {l : List Nat} {c : Nat} {y : PySem.Str} (hy : y = ⟨#[c]⟩) : Txt.endswith (tx (l ++ [c])) y = true := by
  subst hy
  unfold Txt.endswith
  have hl : (tx (l ++ [c])).length = l.length + 1 := by rw [tx_length]; simp
  have e : (⟨#[c]⟩ : PySem.Str).length = 1 := rfl
  have q := StrLaws.subAt_one (tx (l ++ [c])) c l.length
  rw [tx_toList] at q
  have := q.mpr (by simp)
  rw [hl, e]
  simp only [Nat.add_sub_cancel]
  simp [this.2]
theorem lower_wd3T : ∀ k : Nat, k < 7 → Txt.lower ⟨(wd3 k).toArray⟩ = ⟨(lwd k).toArray⟩ := by decide +kernel
theorem lower_wd3 {k : Int} (h : 0 ≤ k ∧ k ≤ 6) : Txt.lower (tx (wd3 k)) = tx (lwd k) := weekN (P := fun k => Txt.lower (tx (wd3 k)) = tx (lwd k)) (fun k hk => by rw [tx_def, tx_def]; exact lower_wd3T k hk) h
theorem lwd_inT : ∀ k : Nat, k < 7 → dyTab.contains (lwd k) = true := by decide
theorem lwd_in {k : Int} (h : 0 ≤ k ∧ k ≤ 6) : dyTab.contains (lwd k) = true := weekN (P := fun k => dyTab.contains (lwd k) = true) lwd_inT h
/-! lengths, signs -/
theorem len_wd3 {k : Int} (h : 0 ≤ k ∧ k ≤ 6) : Len (wd3 k) := by unfold Len; rw [wd3_len h]; decide
theorem len_lwd {k : Int} (h : 0 ≤ k ∧ k ≤ 6) : Len (lwd k) := by unfold Len lwd; rw [List.length_map, wd3_len h]; decide
theorem len_cm {l : List Nat} (h : l.length ≤ 9) : Len (l ++ [44]) := by unfold Len; rw [List.length_append]; simp; omega
theorem len_gmt : Len gmt := by unfold Len; decide
theorem len_dash {d m yy : Int} (hm : 1 ≤ m ∧ m ≤ 12) : Len (dashed d m yy) := by unfold Len; simp [dashed, joinC, dg2, mon_len hm]
theorem len_A {k d m yy h mi sc : Int} (hk : 0 ≤ k ∧ k ≤ 6) (hm : 1 ≤ m ∧ m ≤ 12) : Len (mailA k d m yy h mi sc) := by
  unfold Len; simp [mailA, joinSp, clk, joinC, gmt, dg2, mon_len hm, wd3_len hk]
theorem len_B {k d m yy h mi sc : Int} (hk : 0 ≤ k ∧ k ≤ 6) (hm : 1 ≤ m ∧ m ≤ 12) : Len (mailB k d m yy h mi sc) := by
  have := wdL_len hk
  unfold Len; simp [mailB, dashed, joinSp, clk, joinC, gmt, dg2, mon_len hm]; omega
theorem len_C {k d m yy h mi sc : Int} (hk : 0 ≤ k ∧ k ≤ 6) (hm : 1 ≤ m ∧ m ≤ 12) : Len (mailC k d m yy h mi sc) := by
  have := dgs_len d
  unfold Len; simp [mailC, joinSp, clk, joinC, gmt, dg2, mon_len hm, wd3_len hk]; omega
theorem hi_wd3 {k : Int} (h : 0 ≤ k ∧ k ≤ 6) : Hi (wd3 k) := fun c hc => by have := wd3_mem h c hc; omega
theorem find_col2 (n : Int) : Txt.find (tx (dg2 n)) (Str.ofString ":") = -1 := find_c colon fun hc => by have := dg2_mem n _ hc; omega
theorem dg2_not {tab : List (List Nat)} (ht : tab.all (fun y => y.all (fun c => decide (97 ≤ c))) = true) (n : Int) : tab.contains (dg2 n) = false := not_in_of_head ht (c := fig n) (by simp [dg2]) (by have := fig_hi n; omega)
theorem find_first {l : List Nat} {c i : Nat} (h : l[i]? = some c) (hn : ∀ j, j < i → l[j]? ≠ some c) : Txt.find (tx l) ⟨#[c]⟩ = i := by
  have key : ∀ j, StrLaws.At (tx l) ⟨#[c]⟩ (tx l).length j ↔ l[j]? = some c := fun j => by
    have := StrLaws.subAt_one (tx l) c j
    rw [tx_toList] at this
    exact this
  unfold Txt.find
  rcases StrLaws.occ_head (tx l) ⟨#[c]⟩ 1 (Nat.le_refl 1) with ⟨e, q⟩ | ⟨j, r, e, hj, q⟩
  · exact absurd ((key i).mpr h) (q i)
  · rw [e]
    show (j : Int) = i
    have h1 := (key j).mp hj
    rcases Nat.lt_trichotomy j i with z | z | z
    · exact absurd h1 (hn j z)
    · rw [z]
    · exact absurd ((key i).mpr h) (q i z)
/-- where a clock's first colon stands -/
theorem find_clk (h mi sc : Int) : Txt.find (tx (clk h mi sc)) (Str.ofString ":") = 2 := by
  rw [colon]
  refine find_first (i := 2) rfl fun j hj => ?_
  have hf : ∀ n, fig n ≠ 58 := fun n => by have := fig_hi n; omega
  match j, hj with
  | 0, _ => exact fun e => hf _ (Option.some.inj e)
  | 1, _ => exact fun e => hf _ (Option.some.inj e)
theorem find_wdT : ∀ k : Nat, k < 7 → Txt.find (Str.ofString "SunMonTueWedThuFriSat") ⟨(wd3 k).toArray⟩ = 3 * (k : Int) := by decide +kernel
theorem find_wd {k : Int} (h : 0 ≤ k ∧ k ≤ 6) : Txt.find (Str.ofString "SunMonTueWedThuFriSat") (tx (wd3 k)) = 3 * k := weekN (P := fun k => Txt.find (Str.ofString "SunMonTueWedThuFriSat") (tx (wd3 k)) = 3 * k) (fun k hk => by rw [tx_def]; exact find_wdT k hk) h
/-! the first three signs -/
theorem slice3 {l : List Nat} (h : 3 ≤ l.length) : Txt.slice (tx l) none (some 3) = tx (l.take 3) := by
  have e := StrLaws.sliceText_to (x := tx l) (j := 3) ⟨by decide, by rw [tx_toList]; omega⟩
  rw [tx_toList] at e
  refine Eq.trans ?_ (e.trans ?_)
  · rfl
  · rw [tx_def]; rfl
theorem take3_A {k d m yy h mi sc : Int} (hk : 0 ≤ k ∧ k ≤ 6) : (mailA k d m yy h mi sc).take 3 = wd3 k := by
  have e : ∃ r, mailA k d m yy h mi sc = wd3 k ++ r := ⟨44 :: 32 :: joinSp [dg2 d, mon m, dg2 yy, clk h mi sc, gmt], by simp [mailA, joinSp]⟩
  obtain ⟨r, e⟩ := e
  rw [e, ← wd3_len hk, List.take_left']
  rfl
theorem take3_B {k d m yy h mi sc : Int} : (mailB k d m yy h mi sc).take 3 = (wdL k ++ 44 :: 32 :: joinSp [dashed d m yy, clk h mi sc, gmt]).take 3 := by
  simp [mailB, joinSp]
theorem wdL_ge : ∀ k : Nat, k < 7 → 3 ≤ (wdL k).length := by decide
theorem take3_B' {k d m yy h mi sc : Int} (hk : 0 ≤ k ∧ k ≤ 6) : (mailB k d m yy h mi sc).take 3 = wd3 k := by
  rw [take3_B, List.take_append_of_le_length (weekN (P := fun k => 3 ≤ (wdL k).length) wdL_ge hk)]
  rfl
theorem take3_C {k d m yy h mi sc : Int} (hk : 0 ≤ k ∧ k ≤ 6) : (mailC k d m yy h mi sc).take 3 = wd3 k := by
  have e : ∃ r, mailC k d m yy h mi sc = wd3 k ++ r := ⟨32 :: joinSp [mon m, dgs d, clk h mi sc, dg2 yy], by simp [mailC, joinSp]⟩
  obtain ⟨r, e⟩ := e
  rw [e, ← wd3_len hk, List.take_left']
  rfl
/-- two figures' century -/
noncomputable def cent (yy : Int) : Int := if 68 < yy then yy + 1900 else yy + 2000
/-- a mail's date in one of the dresses -/
noncomputable def Mail (T : List Nat) (k d m yy h mi sc : Int) : Prop := T = mailA k d m yy h mi sc ∨ T = mailB k d m yy h mi sc ∨ T = mailC k d m yy h mi sc
theorem Mail.len {T : List Nat} {k d m yy h mi sc : Int} (t : Mail T k d m yy h mi sc) (hk : 0 ≤ k ∧ k ≤ 6) (hm : 1 ≤ m ∧ m ≤ 12) : Len T := by
  rcases t with rfl | rfl | rfl
  · exact len_A hk hm
  · exact len_B hk hm
  · exact len_C hk hm
theorem Mail.day {T : List Nat} {k d m yy h mi sc : Int} (t : Mail T k d m yy h mi sc) (hk : 0 ≤ k ∧ k ≤ 6) : T.take 3 = wd3 k := by
  rcases t with rfl | rfl | rfl
  · exact take3_A hk
  · exact take3_B' hk
  · exact take3_C hk
theorem take3_long {l : List Nat} {k : Int} (h : l.take 3 = wd3 k) (hk : 0 ≤ k ∧ k ≤ 6) : 3 ≤ l.length := by
  have := congrArg List.length h
  rw [List.length_take, wd3_len hk] at this
  omega
theorem Mail.slice {T : List Nat} {k d m yy h mi sc : Int} (t : Mail T k d m yy h mi sc) (hk : 0 ≤ k ∧ k ≤ 6) : Txt.slice (tx T) none (some 3) = tx (wd3 k) := by
  rw [slice3 (take3_long (t.day hk) hk), t.day hk]
end Mine

end
section
open PySem PySem.W PyProof.Rows PySem.Calls PySem.Spec
open PySem.Builtin PySem.Builtin.Str PySem.NumText
set_option maxRecDepth 100000
namespace Mine
theorem words_Fmt1_0 : True := by
  k_with_none
  w_top off
  k_with "fmt:go1" => ((
  apply fmt_run1
  intro _ _ _ _ _ _ _
  unfold Builtin.Str.percentFormat
  refine wpAny_bind (wpAny_isInstance (typeIs_int _ _ _) F.sub_int_tuple ?_)
  refine wpAny_bind (wpAny_of_eq (a := none) rfl ?_)
  refine wpAny_bind (wpAny_of_eq (KPc.fills _ _) ?_)
  kpc_if
  refine wpAny_bind (wpAny_pure ?_)
  refine wpAny_bind ?_
  rw [KPc.range_list]
  refine fmt_start ?_
  intro _ _))
  k_with "fmt:lit" => ((
  refine KPc.turn ?_
  kpc_check
  (repeat kpc_if)
  refine wpAny_pure ?_
  refine fmt_add 40 (by kpc_g) rfl (by decide) (by kpc_obj) ?_
  intro _ _))
  k_with "fmt:num" => ((
  refine KPc.turn ?_
  kpc_check
  (repeat kpc_if)
  refine wpAny_bind ?_
  refine wpAny_holding ?_
  (repeat kpc_if)
  refine wpAny_bind (wpAny_of_eq (a := _) rfl ?_)
  (repeat kpc_if)
  refine wpAny_bind (wpAny_mkInt ?_)
  refine wpAny_bind (call_gives F.slot_int_repr (typeIs_int _ _ _) F.entry_int_repr (F.args_int_repr_1 _) (gives_int_repr _ _ (KPt.hd2 (by kpt_hd))) ⟨int_text_fits (KPt.hd2 (by kpt_hd)), ?_⟩)
  refine wpAny_bind (wpAny_of_eq (a := some _) rfl ?_)
  refine wpAny_pure ?_))
  k_with "fmt:d" => ((
  walk_at "fmt:num"
  refine fmt_pad (k := fun x o => pure (ForInStep.yield (_, Writer.add _ ⟨x.toArray⟩ o, _))) (pad0 rfl (by omega) (by omega) rfl) rfl ?_
  refine wpAny_pure ?_
  refine fmt_add 4 (by kpc_g) rfl (dgs_len _) (KPc.obj_none rfl) ?_
  intro _ _))
  k_with "fmt:end" => ((
  refine KPc.turn ?_
  kpc_check
  (repeat kpc_if)
  refine wpAny_pure ?_
  kpc_if
  refine KPc.finish_ok (by kpc_g) (by decide +kernel) rfl ?_
  assumption))
  k_with "fmt:2" => ((
  walk_at "fmt:num"
  refine fmt_pad (k := fun x o => pure (ForInStep.yield (_, Writer.add _ ⟨x.toArray⟩ o, _))) (pad2 rfl (by omega) (by omega) rfl) rfl ?_
  refine wpAny_pure ?_
  refine fmt_add 2 (by kpc_g) rfl (Nat.le_refl _) (KPc.obj_none rfl) ?_
  intro _ _))
  trivial
section
variable (b : Addr) (t t1 t2 t3 t4 t5 u : Tok)
/-- '%02d' -/
theorem fmt_two (n : Int) (h0 : 0 ≤ n) (h1 : n < 100) :
    Meets («str.__mod__» ⟨[.str ⟨#[37, 48, 50, 100]⟩ t, .int n u], []⟩) (fun _ R s => ∀ t' k, R (.ok (.ret (.str (tx ([] ++ dg2 n)) t'))) { s with toks := k }) := by
  walk_at "fmt:go1"
  walk_at "fmt:2"
  walk_at "fmt:end"
/-- '%02d:%02d:%02d' -/
theorem fmt_hms (h mi sc : Int) (hh : 0 ≤ h) (hh' : h < 100) (hi : 0 ≤ mi) (hi' : mi < 100) (hs : 0 ≤ sc) (hs' : sc < 100) :
    Meets («str.__mod__» ⟨[.str ⟨#[37, 48, 50, 100, 58, 37, 48, 50, 100, 58, 37, 48, 50, 100]⟩ t, .ref b], []⟩)
      (fun _ R s => IsTup s.heap b #[.int h t1, .int mi t2, .int sc t3] ∧ ∀ t' k, R (.ok (.ret (.str (tx ([] ++ dg2 h ++ [58] ++ dg2 mi ++ [58] ++ dg2 sc)) t'))) { s with toks := k }) := by
  refine fmt_run fun prog w A s Q E hb hq => fmt_turns hb fun f Q' k T => ?_
  refine fmt_start fun w0 g0 => T.num2 hh hh' g0 (by omega) fun w1 k1 g1 => ?_
  refine T.lit (cs := [58]) (.of (by decide)) g1 (by omega) fun w2 k2 g2 => T.num2 hi hi' g2 (by omega) fun w3 k3 g3 => ?_
  refine T.lit (cs := [58]) (.of (by decide)) g3 (by omega) fun w4 k4 g4 => T.num2 hs hs' g4 (by omega) fun w5 k5 g5 => ?_
  exact T.fin g5 (by omega) hq
/-- '%s, %02d %s %s %s GMT' -/
theorem fmt_A (x1 : List Nat) (d : Int) (x3 x4 x5 : List Nat) (q1 : x1.length ≤ 40) (hd : 0 ≤ d) (hd' : d < 100) (q3 : x3.length ≤ 40) (q4 : x4.length ≤ 40) (q5 : x5.length ≤ 40) :
    Meets («str.__mod__» ⟨[.str ⟨#[37, 115, 44, 32, 37, 48, 50, 100, 32, 37, 115, 32, 37, 115, 32, 37, 115, 32, 71, 77, 84]⟩ t, .ref b], []⟩)
      (fun _ R s => IsTup s.heap b #[.str (tx x1) t1, .int d t2, .str (tx x3) t3, .str (tx x4) t4, .str (tx x5) t5] ∧ ∀ t' k, R (.ok (.ret (.str (tx ([] ++ x1 ++ [44, 32] ++ dg2 d ++ [32] ++ x3 ++ [32] ++ x4 ++ [32] ++ x5 ++ [32, 71, 77, 84])) t'))) { s with toks := k }) := by
  refine fmt_run fun prog w A s Q E hb hq => fmt_turns hb fun f Q' k T => ?_
  refine fmt_start fun w0 g0 => T.str q1 g0 (by omega) fun w1 k1 g1 => ?_
  refine T.lit (cs := [44, 32]) (.of (by decide)) g1 (by omega) fun w2 k2 g2 => T.num2 hd hd' g2 (by omega) fun w3 k3 g3 => ?_
  refine T.lit (cs := [32]) (.of (by decide)) g3 (by omega) fun w4 k4 g4 => T.str q3 g4 (by omega) fun w5 k5 g5 => ?_
  refine T.lit (cs := [32]) (.of (by decide)) g5 (by omega) fun w6 k6 g6 => T.str q4 g6 (by omega) fun w7 k7 g7 => ?_
  refine T.lit (cs := [32]) (.of (by decide)) g7 (by omega) fun w8 k8 g8 => T.str q5 g8 (by omega) fun w9 k9 g9 => ?_
  exact T.lend (cs := [32, 71, 77, 84]) (.of (by decide)) g9 (by omega) fun w10 k10 g10 => T.fin g10 (by omega) hq
/-- '%s, %02d-%s-%s %s GMT' -/
theorem fmt_B (x1 : List Nat) (d : Int) (x3 x4 x5 : List Nat) (q1 : x1.length ≤ 40) (hd : 0 ≤ d) (hd' : d < 100) (q3 : x3.length ≤ 40) (q4 : x4.length ≤ 40) (q5 : x5.length ≤ 40) :
    Meets («str.__mod__» ⟨[.str ⟨#[37, 115, 44, 32, 37, 48, 50, 100, 45, 37, 115, 45, 37, 115, 32, 37, 115, 32, 71, 77, 84]⟩ t, .ref b], []⟩)
      (fun _ R s => IsTup s.heap b #[.str (tx x1) t1, .int d t2, .str (tx x3) t3, .str (tx x4) t4, .str (tx x5) t5] ∧ ∀ t' k, R (.ok (.ret (.str (tx ([] ++ x1 ++ [44, 32] ++ dg2 d ++ [45] ++ x3 ++ [45] ++ x4 ++ [32] ++ x5 ++ [32, 71, 77, 84])) t'))) { s with toks := k }) := by
  refine fmt_run fun prog w A s Q E hb hq => fmt_turns hb fun f Q' k T => ?_
  refine fmt_start fun w0 g0 => T.str q1 g0 (by omega) fun w1 k1 g1 => ?_
  refine T.lit (cs := [44, 32]) (.of (by decide)) g1 (by omega) fun w2 k2 g2 => T.num2 hd hd' g2 (by omega) fun w3 k3 g3 => ?_
  refine T.lit (cs := [45]) (.of (by decide)) g3 (by omega) fun w4 k4 g4 => T.str q3 g4 (by omega) fun w5 k5 g5 => ?_
  refine T.lit (cs := [45]) (.of (by decide)) g5 (by omega) fun w6 k6 g6 => T.str q4 g6 (by omega) fun w7 k7 g7 => ?_
  refine T.lit (cs := [32]) (.of (by decide)) g7 (by omega) fun w8 k8 g8 => T.str q5 g8 (by omega) fun w9 k9 g9 => ?_
  exact T.lend (cs := [32, 71, 77, 84]) (.of (by decide)) g9 (by omega) fun w10 k10 g10 => T.fin g10 (by omega) hq
/-- '%s %s %d %s %s' -/
theorem fmt_C (x1 x2 : List Nat) (d : Int) (x4 x5 : List Nat) (q1 : x1.length ≤ 40) (q2 : x2.length ≤ 40) (hd : 0 ≤ d) (hd' : d < 100) (q4 : x4.length ≤ 40) (q5 : x5.length ≤ 40) :
    Meets («str.__mod__» ⟨[.str ⟨#[37, 115, 32, 37, 115, 32, 37, 100, 32, 37, 115, 32, 37, 115]⟩ t, .ref b], []⟩)
      (fun _ R s => IsTup s.heap b #[.str (tx x1) t1, .str (tx x2) t2, .int d t3, .str (tx x4) t4, .str (tx x5) t5] ∧ ∀ t' k, R (.ok (.ret (.str (tx ([] ++ x1 ++ [32] ++ x2 ++ [32] ++ dgs d ++ [32] ++ x4 ++ [32] ++ x5)) t'))) { s with toks := k }) := by
  refine fmt_run fun prog w A s Q E hb hq => fmt_turns hb fun f Q' k T => ?_
  refine fmt_start fun w0 g0 => T.str q1 g0 (by omega) fun w1 k1 g1 => ?_
  refine T.lit (cs := [32]) (.of (by decide)) g1 (by omega) fun w2 k2 g2 => T.str q2 g2 (by omega) fun w3 k3 g3 => ?_
  refine T.lit (cs := [32]) (.of (by decide)) g3 (by omega) fun w4 k4 g4 => T.num hd (by omega) g4 (by omega) fun w5 k5 g5 => ?_
  refine T.lit (cs := [32]) (.of (by decide)) g5 (by omega) fun w6 k6 g6 => T.str q4 g6 (by omega) fun w7 k7 g7 => ?_
  refine T.lit (cs := [32]) (.of (by decide)) g7 (by omega) fun w8 k8 g8 => T.str q5 g8 (by omega) fun w9 k9 g9 => ?_
  exact T.fin g9 (by omega) hq
end
theorem mod_two {prog : Program} {w : World} {A : Around} {E : Value → Shared → Prop} {s : Shared} {n : Int} {Q : Value → Shared → Prop} {t u : Tok} (h0 : 0 ≤ n ∧ n < 100)
    (h : ∀ t' k, Q (.str (tx ([] ++ dg2 n)) t') { s with toks := k }) : wpAny (model prog w) A (binaryOp .Mod (.str (PySem.Str.ofString "%02d") t) (.int n u)) Q E s :=
  KPc.mod_lit (by decide +kernel) (log_small h0.1 (by omega)) (fun _ _ => fmt_two _ _ n h0.1 h0.2) h
theorem fits_len {l : List Nat} (h : Len l) : (tx l).length ≤ sizeLine := by rw [tx_length, sizeLine_eq]; exact Nat.le_trans h.2 (by decide)
theorem len_wdL {k : Int} (h : 0 ≤ k ∧ k ≤ 6) : Len (wdL k) := ⟨(wdL_len h).1, Nat.le_trans (wdL_len h).2 (by decide)⟩
theorem wd_slice {k : Int} (h : 0 ≤ k ∧ k ≤ 6) : Txt.slice (tx (wdL k)) none (some 3) = tx (wd3 k) := slice3 (weekN (P := fun k => 3 ≤ (wdL k).length) wdL_ge h)
theorem mailA_eq (k d m yy h mi sc : Int) : [] ++ wd3 k ++ [44, 32] ++ dg2 d ++ [32] ++ mon m ++ [32] ++ ([] ++ dg2 yy) ++ [32] ++ ([] ++ dg2 h ++ [58] ++ dg2 mi ++ [58] ++ dg2 sc) ++ [32, 71, 77, 84] = mailA k d m yy h mi sc := by
  simp [mailA, joinSp, clk, joinC, gmt]
theorem mailB_eq (k d m yy h mi sc : Int) : [] ++ wdL k ++ [44, 32] ++ dg2 d ++ [45] ++ mon m ++ [45] ++ ([] ++ dg2 yy) ++ [32] ++ ([] ++ dg2 h ++ [58] ++ dg2 mi ++ [58] ++ dg2 sc) ++ [32, 71, 77, 84] = mailB k d m yy h mi sc := by
  simp [mailB, dashed, joinSp, clk, joinC, gmt]
theorem mailC_eq (k d m yy h mi sc : Int) : [] ++ wd3 k ++ [32] ++ mon m ++ [32] ++ dgs d ++ [32] ++ ([] ++ dg2 h ++ [58] ++ dg2 mi ++ [58] ++ dg2 sc) ++ [32] ++ ([] ++ dg2 yy) = mailC k d m yy h mi sc := by
  simp [mailC, joinSp, clk, joinC]
theorem mailA_is (k d m yy h mi sc : Int) : Mail ([] ++ wd3 k ++ [44, 32] ++ dg2 d ++ [32] ++ mon m ++ [32] ++ ([] ++ dg2 yy) ++ [32] ++ ([] ++ dg2 h ++ [58] ++ dg2 mi ++ [58] ++ dg2 sc) ++ [32, 71, 77, 84]) k d m yy h mi sc := Or.inl (mailA_eq k d m yy h mi sc)
theorem mailB_is (k d m yy h mi sc : Int) : Mail ([] ++ wdL k ++ [44, 32] ++ dg2 d ++ [45] ++ mon m ++ [45] ++ ([] ++ dg2 yy) ++ [32] ++ ([] ++ dg2 h ++ [58] ++ dg2 mi ++ [58] ++ dg2 sc) ++ [32, 71, 77, 84]) k d m yy h mi sc := Or.inr (Or.inl (mailB_eq k d m yy h mi sc))
theorem mailC_is (k d m yy h mi sc : Int) : Mail ([] ++ wd3 k ++ [32] ++ mon m ++ [32] ++ dgs d ++ [32] ++ ([] ++ dg2 h ++ [58] ++ dg2 mi ++ [58] ++ dg2 sc) ++ [32] ++ ([] ++ dg2 yy)) k d m yy h mi sc := Or.inr (Or.inr (mailC_eq k d m yy h mi sc))
theorem strsOk_at : ∀ {vs : List Value} {ys : List (List Nat)} (_ : strsOk vs ys = true) (j : Nat), j < ys.length → ∃ t, vs[j]? = some (.str (tx (ys.getD j [])) t)
  | [], [], _, j, hj => absurd hj (by simp)
  | [], _ :: _, h, _, _ => by simp [strsOk] at h
  | .str x t :: vs, y :: ys, h, 0, _ => by
    rw [strsOk, Bool.and_eq_true] at h
    refine ⟨t, ?_⟩
    have e : x = tx y := by rw [tx_def, ← eq_of_beq h.1]
    rw [e]; rfl
  | .str x t :: vs, y :: ys, h, j + 1, hj => by
    rw [strsOk, Bool.and_eq_true] at h
    obtain ⟨t', e⟩ := strsOk_at h.2 j (by simpa using hj)
    exact ⟨t', by simpa using e⟩
theorem item_wd {prog : Program} {w : World} {A : Around} {E : Value → Shared → Prop} {s : Shared} {h₀ : Heap} {L : Addr} {news : List (Addr × Obj)} {value slice : PySem.Expr} {l : Addr} {vs : List Value} {n0 : Nat} {k : Int} {u : Tok} {Q : Value → Shared → Prop}
    (N : News h₀ L s.heap news) (hm : (l, PySem.W.listOf vs.toArray n0) ∈ news) (ht : strsOk vs wdTab = true) (hk : 0 ≤ k ∧ k ≤ 6)
    (h : ∀ t, Q (.str (tx (wdL k)) t) s)
    (hs : subscripted slice false (.ref l) (.int k u) = operate [.ref l, .int k u] (getItem (.ref l) (.int k u)) := by with_unfolding_all rfl) :
    wpAny (model prog w) A (subscriptTail value slice (.ref l) (.int k u)) Q E s := by
  obtain ⟨t, hx⟩ := strsOk_at ht k.toNat (by show k.toNat < 7; omega)
  exact item_litK (News.isList N hm) (by omega) (by omega) hx (h t) hs
theorem leaveF_val {g h : Heap} {s : Shared} {args : List (Addr × Obj)} {v : Value} {tk : Nat} {L' : Addr} {m' : Str → Option Value} {news' : List (Addr × Obj)} {P : Value → Prop}
    (F : Fr g L' h m') (N : News g L' h news') (ha : ∀ q ∈ args, q ∈ news') (hp : P v) : LeaveF g s args (fun v new => new = [] ∧ P v) v { s with heap := h, toks := tk } :=
  leaveF_intro F N ha [] (fun _ h => nomatch h) (fun _ h => nomatch h) ⟨rfl, hp⟩
end Mine

end
section
open PySem PySem.W PyProof.Rows PySem.Calls PySem.Spec
set_option maxRecDepth 100000
namespace Mine
theorem yrs_400 (y k : Int) : yrs (y + 400 * k) = yrs y + 146097 * k := by
  have h1 : (y + 400 * k) / 4 = y / 4 + 100 * k := by rw [show (400 : Int) = 4 * 100 from rfl, Int.mul_assoc, Int.add_mul_ediv_left _ _ (by decide)]
  have h2 : (y + 400 * k) / 100 = y / 100 + 4 * k := by rw [show (400 : Int) = 100 * 4 from rfl, Int.mul_assoc, Int.add_mul_ediv_left _ _ (by decide)]
  have h3 : (y + 400 * k) / 400 = y / 400 + k := Int.add_mul_ediv_left _ _ (by decide)
  unfold yrs
  rw [h1, h2, h3]
  generalize y / 4 = a
  generalize y / 100 = b
  generalize y / 400 = c
  omega
theorem yrs_100 (y k : Int) (h : 0 ≤ k ∧ k ≤ 3) : ∃ e : Int, (e = 0 ∨ e = 1) ∧ yrs (y + 100 * k) = yrs y + 36524 * k + e := by
  have h1 : (y + 100 * k) / 4 = y / 4 + 25 * k := by rw [show (100 : Int) = 4 * 25 from rfl, Int.mul_assoc, Int.add_mul_ediv_left _ _ (by decide)]
  have h2 : (y + 100 * k) / 100 = y / 100 + k := Int.add_mul_ediv_left _ _ (by decide)
  refine ⟨(y + 100 * k) / 400 - y / 400, by omega, ?_⟩
  unfold yrs
  rw [h1, h2]
  generalize (y + 100 * k) / 400 = c'
  generalize y / 4 = a
  generalize y / 100 = b
  generalize y / 400 = c
  omega
theorem first_step {m : Int} (hm : 1 ≤ m ∧ m ≤ 12) : ∃ t s : Int, ∀ y, first y m = yrs (y + s) + t := by
  by_cases c : 3 ≤ m
  · exact ⟨hiT m, 0, fun y => by rw [first_hi c (by omega), Int.add_zero]⟩
  · exact ⟨loT m, -1, fun y => by rw [first_lo hm.1 (by omega)]; rfl⟩
theorem first_400 {m : Int} (hm : 1 ≤ m ∧ m ≤ 12) (y k : Int) : first (y + 400 * k) m = first y m + 146097 * k := by
  obtain ⟨t, s, e⟩ := first_step hm
  rw [e, e, show y + 400 * k + s = y + s + 400 * k by omega, yrs_400]
  omega
theorem first_100 {m : Int} (hm : 1 ≤ m ∧ m ≤ 12) (y k : Int) (h : 0 ≤ k ∧ k ≤ 3) : ∃ e : Int, (e = 0 ∨ e = 1) ∧ first (y + 100 * k) m = first y m + 36524 * k + e := by
  obtain ⟨t, s, q⟩ := first_step hm
  obtain ⟨e, he, z⟩ := yrs_100 (y + s) k h
  refine ⟨e, he, ?_⟩
  rw [q, q, show y + 100 * k + s = y + s + 100 * k by omega, z]
  omega
theorem lp_400 (y k : Int) : lp (y + 400 * k) = lp y := by
  have h1 : (y + 400 * k) % 4 = y % 4 := by rw [show (400 : Int) = 4 * 100 from rfl, Int.mul_assoc, Int.add_mul_emod_self_left]
  have h2 : (y + 400 * k) % 100 = y % 100 := by rw [show (400 : Int) = 100 * 4 from rfl, Int.mul_assoc, Int.add_mul_emod_self_left]
  rw [lp_steps, lp_steps, h1, h2, Int.add_mul_emod_self_left]
theorem dim_400 {m : Int} (hm : 1 ≤ m ∧ m ≤ 12) (y k : Int) : dim (y + 400 * k) m = dim y m := by rw [dim_eq hm, dim_eq hm, lp_400]
theorem valid_400 {y m d : Int} (v : Valid y m d) (k : Int) : Valid (y + 400 * k) m d := ⟨v.m1, v.m2, v.d1, by rw [dim_400 ⟨v.m1, v.m2⟩]; exact v.d2⟩
/-- the times four hundred years that a day lies behind 1 January 1769 -/
noncomputable def far4 (n : Int) : Int := (n - 645750) / 146097
noncomputable def dueN (n : Int) : Int := 645750 + (n - 645750) % 146097
theorem due_far (n : Int) : dueN n = n - 146097 * far4 n ∧ 645750 ≤ dueN n ∧ dueN n < 791847 := by unfold dueN far4; omega
/-- the day that is told: of the years 1769 to 2168 -/
structure There (n y m d y0 : Int) : Prop where
  v : Valid y0 m d
  num : first y0 m + d - 1 = dueN n
  yr : y = y0 + 400 * far4 n
  lo : 1769 ≤ y0
  hi : y0 ≤ 2168
theorem there_is {n y m d : Int} (v : Valid y m d) (e : first y m + d - 1 = n) : There n y m d (y - 400 * far4 n) := by
  have hm : 1 ≤ m ∧ m ≤ 12 := ⟨v.m1, v.m2⟩
  obtain ⟨q1, q2, q3⟩ := due_far n
  have hv : Valid (y - 400 * far4 n) m d := by
    have := valid_400 v (-(far4 n))
    rwa [show y + 400 * -(far4 n) = y - 400 * far4 n by omega] at this
  have hf : first (y - 400 * far4 n) m = first y m - 146097 * far4 n := by
    have := first_400 hm y (-(far4 n))
    rw [show y + 400 * -(far4 n) = y - 400 * far4 n by omega] at this
    omega
  have hn : first (y - 400 * far4 n) m + d - 1 = dueN n := by omega
  refine ⟨hv, hn, by omega, ?_, ?_⟩
  · have a : Valid 1769 1 1 := ⟨by decide, by decide, by decide, by decide⟩
    have e1 : first 1769 1 = 645750 := by decide
    by_cases h : 1769 ≤ y - 400 * far4 n
    · exact h
    · have := date_lt hv a (by omega)
      omega
  · have a : Valid 2168 12 31 := ⟨by decide, by decide, by decide, by decide⟩
    have e1 : first 2168 12 = 791816 := by decide
    by_cases h : y - 400 * far4 n ≤ 2168
    · exact h
    · have := date_lt a hv (by omega)
      omega
/-- which of the four years it is -/
theorem cent_T : ∀ k : Nat, k < 100 → 1969 ≤ cent k ∧ cent k ≤ 2068 ∧ cent k % 100 = k := by decide +kernel
theorem cent_rng {yy : Int} (h : 0 ≤ yy ∧ yy ≤ 99) : 1969 ≤ cent yy ∧ cent yy ≤ 2068 ∧ cent yy % 100 = yy := by
  obtain ⟨k, rfl⟩ := Int.eq_ofNat_of_zero_le h.1
  exact cent_T k (Nat.lt_succ_of_le (Int.ofNat_le.mp h.2))
theorem which {n y m d y0 : Int} (t : There n y m d y0) : ∃ q : Nat, q < 4 ∧ y0 = cent (y % 100) - 200 + (q : Int) * 100 := by
  have h1 := cent_rng (yy := y % 100) (by omega)
  have h2 := t.lo; have h3 := t.hi; have h4 := t.yr
  generalize cent (y % 100) = Y at *
  refine ⟨((y0 - (Y - 200)) / 100).toNat, ?_, ?_⟩
  · omega
  · omega
theorem mod7T : ∀ k : Nat, k < 4 → 1 ≤ k → ∀ e : Nat, e < 2 → ¬ ((36524 * (k : Int) + e) % 7 = 0) := by decide +kernel
theorem mod7 {A d k e : Int} (hk : 1 ≤ k ∧ k ≤ 3) (he : e = 0 ∨ e = 1) : ¬ ((A + 36524 * k + e + d - 1) % 7 = (A + d - 1) % 7) := fun x => by
  have z := Int.emod_eq_emod_iff_emod_sub_eq_zero.mp x
  rw [show A + 36524 * k + e + d - 1 - (A + d - 1) = 36524 * k + e by omega] at z
  obtain ⟨k', rfl⟩ := Int.eq_ofNat_of_zero_le (Int.le_trans (by decide) hk.1)
  rcases he with rfl | rfl
  · exact mod7T k' (by omega) (by omega) 0 (by decide) z
  · exact mod7T k' (by omega) (by omega) 1 (by decide) z
theorem due7 (n : Int) : dueN n % 7 = n % 7 := by
  rw [(due_far n).1, show n - 146097 * far4 n = n + 7 * (-20871 * far4 n) by omega, Int.add_mul_emod_self_left]
/-- no other of them has the weekday -/
theorem only {n y m d y0 Y : Int} {q : Nat} (t : There n y m d y0) (hq : q < 4) (h0 : y0 = Y + (q : Int) * 100) {i : Nat} (hi : i < 4) (hne : i ≠ q) :
    ¬ ((first (Y + (i : Int) * 100) m + d - 1) % 7 = n % 7) := by
  have hm : 1 ≤ m ∧ m ≤ 12 := ⟨t.v.m1, t.v.m2⟩
  have hn := t.num
  have hd := (due_far n).1
  have e7 := due7 n
  rw [← e7, ← hn]
  clear hn hd e7
  by_cases c : i < q
  · obtain ⟨e, he, z⟩ := first_100 hm (Y + (i : Int) * 100) ((q : Int) - i) (by omega)
    rw [h0, show Y + (q : Int) * 100 = Y + (i : Int) * 100 + 100 * ((q : Int) - i) by omega, z]
    exact fun x => mod7 (by omega) he x.symm
  · obtain ⟨e, he, z⟩ := first_100 hm (Y + (q : Int) * 100) ((i : Int) - q) (by omega)
    rw [h0, show Y + (i : Int) * 100 = Y + (q : Int) * 100 + 100 * ((i : Int) - q) by omega, z]
    exact mod7 (by omega) he
end Mine

end
section
open PySem PySem.W PyProof.Rows PySem.Calls PySem.Spec
set_option maxRecDepth 100000
namespace Mine
section
variable {g h h₁ : Heap} {L I : Addr} {m : Str → Option Value} {io io' : Obj} {news : List (Addr × Obj)}
/-- the iterator at I has gone on, and nothing else -/
theorem iter_fr (F : Fr g L h m) (N : News g L h ((I, io) :: news)) (hs : Heap.SameBut I h h₁) : Fr g L h₁ m :=
  ⟨F.ns.at' fun o e => (hs.2 _ (N _ (.head _)).2.1.symm).trans e, fun b o e => (hs.2 b (fun q => by rw [q, (N _ (.head _)).2.2] at e; cases e)).trans (F.keep b o e), F.above⟩
theorem iter_news (N : News g L h ((I, io) :: news)) (hI : AllNe I news) (hs : Heap.SameBut I h h₁) (hi : h₁.get? I = some io') : News g L h₁ ((I, io') :: news) :=
  fun p hp => (List.mem_cons.mp hp).elim (fun e => by rw [e]; exact ⟨hi, (N _ (.head _)).2⟩) fun hp => ⟨(hs.2 _ (hI.mem p hp)).trans (N p (.tail _ hp)).1, (N p (.tail _ hp)).2⟩
theorem over_fr (F : Fr g L h m) (N : News g L h ((I, io) :: news)) (he : ∀ b o, b ≠ I → h.get? b = some o → h₁.get? b = some o) : Fr g L h₁ m :=
  ⟨F.ns.at' fun o e => he _ o (N _ (.head _)).2.1.symm e, fun b o e => he b o (fun q => by rw [q, (N _ (.head _)).2.2] at e; cases e) (F.keep b o e), F.above⟩
theorem over_news (N : News g L h ((I, io) :: news)) (hI : AllNe I news) (he : ∀ b o, b ≠ I → h.get? b = some o → h₁.get? b = some o) : News g L h₁ news :=
  fun p hp => ⟨he _ _ (hI.mem p hp) (N p (.tail _ hp)).1, (N p (.tail _ hp)).2⟩
end
end Mine

end
section
open PySem PySem.W PyProof.Rows PySem.Calls PySem.Spec
set_option maxRecDepth 100000
namespace Mine
/-- a range, and its iterator after i items of n -/
noncomputable abbrev rangeO (a b c : Int) (t u v : Tok) : Obj := { cls := .type "range", dict := none, data := .fields #[.int a t, .int b u, .int c v], slots := #[] }
noncomputable def rangeI (a c : Int) (n i : Nat) : Obj := { cls := .type "range_iterator", dict := none, data := .fields #[rawInt (a + i * c), rawInt ((n : Int) - i), rawInt c], slots := #[] }
section
variable {prog : Program} {w : World} {A : Around} {E : Value → Shared → Prop} {s : Shared} {env : Env} {h₀ : Heap} {body : List Stmt} {target : PySem.Expr} {Q : Flow → Shared → Prop}
/-- what a turn leaves where the ground may turn -/
noncomputable def TurnEndT (Gd : Heap → Prop) (L : Addr) (J : (Str → Option Value) → List (Addr × Obj) → Prop) (I : Addr) (io : Obj) (s₂ s₃ : Shared) : Prop :=
  ∃ g h' tk m' news', Gd g ∧ s₃ = { s₂ with heap := h', toks := tk } ∧ Fr g L h' m' ∧ News g L h' ((I, io) :: news') ∧ AllNe I news' ∧ J m' news'
noncomputable def TurnPostT (Gd : Heap → Prop) (L : Addr) (J : (Str → Option Value) → List (Addr × Obj) → Prop) (I : Addr) (io : Obj) (Q : Flow → Shared → Prop) (s₂ : Shared) (f : Flow) (s₃ : Shared) : Prop :=
  match f with
  | .ret v => Q (.ret v) s₃
  | .brk => Q .next s₃
  | _ => TurnEndT Gd L J I io s₂ s₃
theorem range_e1 {a c : Int} {i : Nat} : a + (i : Int) * c + c = a + ((i + 1 : Nat) : Int) * c := by rw [Int.natCast_add, Int.add_mul, Int.add_assoc]; simp
theorem range_e2 {n i : Nat} : (n : Int) - i - 1 = (n : Int) - ((i + 1 : Nat) : Int) := by omega
inductive RanIt (Gd : Heap → Prop) (L I : Addr) (a c : Int) (n : Nat) (J : Nat → (Str → Option Value) → List (Addr × Obj) → Prop) (s : Shared) : Nat → Shared → Prop
  | mk {g h' : Heap} {tk : Nat} {m' : Str → Option Value} {news' : List (Addr × Obj)} {i : Nat} : Gd g → Fr g L h' m' → News g L h' ((I, rangeI a c n i) :: news') → AllNe I news' → J i m' news' → i ≤ n → RanIt Gd L I a c n J s (n + 1 - i) { s with heap := h', toks := tk }
theorem for_rangeT {Gd : Heap → Prop} {r : Addr} {a b c : Int} {t u v : Tok} {m : Str → Option Value} {news : List (Addr × Obj)} (n : Nat) (J : Nat → (Str → Option Value) → List (Addr × Obj) → Prop)
    (hh : A.handled = none) (hr : IsRange s.heap r a b c t u v) (hn : Builtin.Range.rangeSize a b c = n) (hs : Builtin.Range.small a b c = true)
    (G0 : Gd h₀) (F : Fr h₀ env.locals s.heap m) (N : News h₀ env.locals s.heap news) (h0 : J 0 m news)
    (turn : ∀ (Q' : Flow → Shared → Prop) (E' : Value → Shared → Prop) i g m₁ news₁ I h tk tv, i < n → Gd g → J i m₁ news₁ → AllNe I news₁ → Fr g env.locals h m₁ → News g env.locals h ((I, rangeI a c n (i + 1)) :: news₁) →
      wpAny (model prog w) A (assign target env (.int (a + i * c) tv)) (fun _ s₂ => wpC (model prog w) A (execs body env) (TurnPostT Gd env.locals (J (i + 1)) I (rangeI a c n (i + 1)) Q' { s with heap := h, toks := tk }) E' s₂) E' { s with heap := h, toks := tk })
    (done : ∀ g m₁ news₁ h tk, Gd g → J n m₁ news₁ → Fr g env.locals h m₁ → News g env.locals h news₁ → Q .next { s with heap := h, toks := tk })
    (ht : ∀ I v, letOwnedTupleGo target (.ref I) v = pure ())
    (hE : PassesOwn (model prog w) A env E) :
    wpAny (model prog w) A (pyIter (.ref r)) (fun it s₂ => codeC (model prog w) A (.forLoop target it body [] env) (fun r s' => match r with | .ok f => Q f s' | .error e => cameBackBy (model prog w) A env E e s') s₂) E s := by
  refine wpAny_pyIter_range hr hs ?_
  refine codeC_forLoop (RanIt Gd env.locals s.heap.objs.size a c n J s) ?_ (n + 1) (RanIt.mk (i := 0) G0 (F.push _) ?_ (allNe_intro fun p hp => Nat.ne_of_lt (Heap.lt_size (N p hp).1)) h0 (Nat.zero_le _)) (ht _)
  · rintro k s' ⟨G', F', N', hI, hJ, hi⟩
    rename_i g h' tk m' news' i
    have hit : IsRangeIter h' s.heap.objs.size (a + i * c) ((n : Int) - i) c := (N' _ (.head _)).1
    by_cases hlt : i < n
    · refine wpAny_pyNext_range_item hit (by omega) fun h₁ hit₁ hs₁ => ?_
      have hit₂ : h₁.get? s.heap.objs.size = some (rangeI a c n (i + 1)) := by
        rw [range_e1, range_e2] at hit₁; exact hit₁
      refine wpAny_passesOwn hE (wpAny_mono (turn Q E i g m' news' _ h₁ (tk + 1) tk hlt G' hJ hI (iter_fr F' N' hs₁) (iter_news N' hI hs₁ hit₂)) (fun _ s₂ h₂ => wpC_mono h₂ (fun f s₃ h₃ => ?_) hE) fun _ _ x => x)
      have fin : TurnEndT Gd env.locals (J (i + 1)) s.heap.objs.size (rangeI a c n (i + 1)) { s with heap := h₁, toks := tk + 1 } s₃ → ∃ m, m < n + 1 - i ∧ RanIt Gd env.locals s.heap.objs.size a c n J s m s₃ := by
        rintro ⟨g₄, h₄, tk₄, m₄, news₄, G₄, rfl, F₄, N₄, hI₄, hJ₄⟩
        exact ⟨n + 1 - (i + 1), by omega, RanIt.mk G₄ F₄ N₄ hI₄ hJ₄ hlt⟩
      cases f with
      | ret v => exact h₃
      | brk => exact h₃
      | next => exact fin h₃
      | cont => exact fin h₃
    · have hin : i = n := by omega
      subst hin
      refine wpAny_pyNext_range_end hh hit (by omega) fun h₁ he₁ => wpC_nil ?_
      exact done g m' news' h₁ tk G' hJ (over_fr F' N' fun b o hb e => he₁ b o hb e) (over_news N' hI fun b o hb e => he₁ b o hb e)
  · have e : ({ cls := .type "range_iterator", data := .fields #[rawInt a, rawInt (Builtin.Range.rangeSize a b c), rawInt c] } : Obj) = rangeI a c n 0 := by
      rw [hn]; simp [rangeI]
    rw [e]
    exact News.push F N _
end
end Mine

end
section
open PySem PySem.W PyProof.Rows PySem.Calls PySem.Spec
set_option maxRecDepth 100000
namespace Mine
/-- the ground of a frame that calls: it has turned since g₀ -/
structure Gd5 (p : Program) (loose : List Str) (mean : ExcName → Option Value) (mg mb : Str → Option Value) (K : Frag) (A₀ : Around) (base : Heap) (outer : List Env) (g₀ g : Heap) : Prop where
  T : KtsTurn (frs outer) g₀ g
  B : Below A₀ base outer g
  X : K.In g
  P : Top p loose mean mg mb g
  D : KtsDicts (frs outer) g
section
variable {fs : List Addr} {g g' h : Heap} {s : Shared} {args : List (Addr × Obj)} {tk : Nat} {L' : Addr} {m' : Str → Option Value} {news' : List (Addr × Obj)}
theorem leaveT_two {D x : Addr} {o o2 : Obj} {O : Addr → Obj → Addr → Obj → Prop} (T : KtsTurn fs g g') (F : Fr g' L' h m') (N : News g' L' h news') (ha : ∀ q ∈ args, q ∈ news') (hm : (D, o) ∈ news') (hm2 : (x, o2) ∈ news')
    (hne : ∀ p ∈ args, p.1 ≠ D) (hne2 : ∀ p ∈ args, p.1 ≠ x) (ho : O D o x o2) :
    LeaveT fs g s args (fun v new => ∃ D o x o2, v = Value.ref D ∧ new = [(D, o), (x, o2)] ∧ O D o x o2) (.ref D) { s with heap := h, toks := tk } :=
  leaveT_intro T F N ha [(D, o), (x, o2)] (fun q hq => by
    rcases List.mem_cons.mp hq with rfl | hq
    · exact hm
    · rw [List.mem_singleton.mp hq]; exact hm2) (fun q hq p hp => by
    rcases List.mem_cons.mp hq with rfl | hq
    · exact (hne p hp).symm
    · rw [List.mem_singleton.mp hq]; exact (hne2 p hp).symm) ⟨D, o, x, o2, rfl, rfl, ho⟩
end
section
variable {prog : Program} {w : World} {K : Frag} {d : Nat} {f : Addr} {args : List (Addr × Obj)} {vs : List Value} {p : Program} {loose : List Str} {mean : ExcName → Option Value} {mg mb : Str → Option Value} {dp un : Nat} {gd : Option (List Code)} {cn : Str} {cs : Scope} {a : Addr} {ccd : Value} {cl : List (Str × Addr)} {outer : List Env} {A₀ : Around} {base g₀ h₀ : Heap} {L : Addr} {m : Str → Option Value} {s : Shared} {Q E : Value → Shared → Prop} {news : List (Addr × Obj)}
/-- a call that may turn the ground, its answer one new object -/
theorem FnT.useG {O : Obj → Prop} (C : FnT prog w K d f args vs (fun v new => ∃ D o, v = .ref D ∧ new = [(D, o)] ∧ O o)) (G : Gd5 p loose mean mg mb K A₀ base outer g₀ h₀) (F : Fr h₀ L s.heap m) (N : News h₀ L s.heap news) (XB : K.In base) (TB : Top p loose mean mg mb base) (hk : cs.kind = .function) (ha : ∀ q ∈ args, q ∈ news)
    (hd : dp + d < recursionLimit) (hu : un + 12 * d < cLine)
    (ret : ∀ h₀' D o h' tk', O o → Gd5 p loose mean mg mb K A₀ base outer g₀ h₀' → Fr h₀' L h' m → News h₀' L h' ((D, o) :: news) → AllNe D news → Q (.ref D) { s with heap := h', toks := tk' }) :
    wpAny (model prog w) (ktrTop dp un gd cn cs L a ccd cl outer) (call (.ref f) vs) Q E s := by
  refine C p loose mean mg mb dp un gd cn cs a ccd cl outer A₀ base h₀ L m s Q E news G.B F G.X N G.P XB TB G.D hk ha hd hu fun h₀' v new h' tk' T' F' N' B' X' P' D' hne ok => ?_
  obtain ⟨D₁, o, rfl, rfl, ho⟩ := ok
  exact ret h₀' D₁ o h' tk' ho ⟨G.T.trans T', B', X', P', D'⟩ F' N' (allNe_intro fun q hq => hne _ (.head _) q hq)
/-- as useG, the answer a new object beside another -/
theorem FnT.useG2 {O : Addr → Obj → Addr → Obj → Prop} (C : FnT prog w K d f args vs (fun v new => ∃ D o x o2, v = .ref D ∧ new = [(D, o), (x, o2)] ∧ O D o x o2)) (G : Gd5 p loose mean mg mb K A₀ base outer g₀ h₀) (F : Fr h₀ L s.heap m) (N : News h₀ L s.heap news) (XB : K.In base) (TB : Top p loose mean mg mb base) (hk : cs.kind = .function) (ha : ∀ q ∈ args, q ∈ news)
    (hd : dp + d < recursionLimit) (hu : un + 12 * d < cLine)
    (ret : ∀ h₀' D o x o2 h' tk', O D o x o2 → Gd5 p loose mean mg mb K A₀ base outer g₀ h₀' → Fr h₀' L h' m → News h₀' L h' ((D, o) :: (x, o2) :: news) → AllNe D news → AllNe x news → Q (.ref D) { s with heap := h', toks := tk' }) :
    wpAny (model prog w) (ktrTop dp un gd cn cs L a ccd cl outer) (call (.ref f) vs) Q E s := by
  refine C p loose mean mg mb dp un gd cn cs a ccd cl outer A₀ base h₀ L m s Q E news G.B F G.X N G.P XB TB G.D hk ha hd hu fun h₀' v new h' tk' T' F' N' B' X' P' D' hne ok => ?_
  obtain ⟨D₁, o, x, o2, rfl, rfl, ho⟩ := ok
  exact ret h₀' D₁ o x o2 h' tk' ho ⟨G.T.trans T', B', X', P', D'⟩ F' N' (allNe_intro fun q hq => hne _ (.head _) q hq) (allNe_intro fun q hq => hne _ (.tail _ (.head _)) q hq)
end
end Mine

end
section
open PySem PySem.W PyProof.Rows PySem.Calls PySem.Spec
set_option maxRecDepth 100000
set_option linter.unusedVariables false
set_option Elab.async false
namespace Mine
theorem slot_ms_get : Slot "member_descriptor" "__get__" "member_descriptor.__get__" :=
  .of (owner := "member_descriptor") (n := "__get__") (by rw [typeLookup_type, builtinLookup_eq_fast]; kernel_rfl) (by decide +kernel) (by decide +kernel) (by decide +kernel)
    (by first | exact .inl (by decide +kernel) | exact .inr (by decide +kernel)) (by rw [isSubtype_type]; kernel_rfl)
theorem slot_ms_set : Slot "member_descriptor" "__set__" "member_descriptor.__set__" :=
  .of (owner := "member_descriptor") (n := "__set__") (by rw [typeLookup_type, builtinLookup_eq_fast]; kernel_rfl) (by decide +kernel) (by decide +kernel) (by decide +kernel)
    (by first | exact .inl (by decide +kernel) | exact .inr (by decide +kernel)) (by rw [isSubtype_type]; kernel_rfl)
theorem entry_ms_get : entryFor table "member_descriptor.__get__" = some Builtin.«member_descriptor.__get__» := entryFor_of_tree (by kernel_rfl)
theorem args_ms_get (a b c : Value) : argsOk "member_descriptor.__get__" ⟨[a, b, c], []⟩ := by unfold argsOk; kernel_rfl
noncomputable abbrev tdObj (d s : Int) : Obj := { cls := .type "datetime.timedelta", data := .fields #[.int d 0, .int s 0, .int 0 0] }
theorem slot_td_ga : Slot "datetime.timedelta" "__getattribute__" "object.__getattribute__" :=
  .of (owner := "object") (n := "__getattribute__") (by rw [typeLookup_type, builtinLookup_eq_fast]; kernel_rfl) (by decide +kernel) (by decide +kernel) (by decide +kernel)
    (by first | exact .inl (by decide +kernel) | exact .inr (by decide +kernel)) (by rw [isSubtype_type]; kernel_rfl)
theorem args_td_ga (a b : Value) : argsOk "object.__getattribute__" ⟨[a, b], []⟩ := by
  unfold argsOk; rw [signature?_of (id := "object.__getattribute__") (n := ['_', '_', 'e', 't', 'u', 'b', 'i', 'r', 't', 't', 'a', 't', 'e', 'g', '_', '_']) (o := ['t', 'c', 'e', 'j', 'b', 'o']) (by kernel_rfl) PySem.F.owner_object]; kernel_rfl
theorem td_noGa : typeLookup (.type "datetime.timedelta") "__getattr__" = pure none := by rw [typeLookup_type, builtinLookup_eq_fast]; kernel_rfl
section
variable {prog : Program} {w : World} {A : Around} {E : Value → Shared → Prop} {hp : Heap} {g : Array GenState} {dr : Drawn} {t : Nat} {os : OsState} {a : Addr} {o : Obj} {idn : String} {nm : Str} {b : Builtin} {v : Value} {t' : Nat}
theorem get_genD {R : Result → Shared → Prop} (hx : hp.get? a = some o) (hc : o.cls = .type "datetime.timedelta") (ty : typeOf (.builtin idn) = pure (.type "member_descriptor")) (en : entryFor table idn = some b) (f8 : isSubtype (.type "datetime.timedelta") (.type (".".intercalate (idn.cutAt '.').dropLast)) = pure true)
    (hqt : ∀ args, (Code.builtin idn args).quiet = true)
    (hb : ∀ (A : Around) (E : Value → Shared → Prop) (Q : PySem.Fin → Shared → Prop), Q (.done (.ret v)) ⟨hp, g, dr, t', os⟩ → wpAny (model prog w) A (b ⟨[.ref a], []⟩) Q E ⟨hp, g, dr, t, os⟩)
    (hq : R (.ok (.ret v)) ⟨hp, g, dr, t', os⟩) :
    codeAny (model prog w) A (.call (.builtin "member_descriptor.__get__") ⟨[.builtin idn, .ref a, .type "datetime.timedelta"], []⟩) R ⟨hp, g, dr, t, os⟩ := by
  have hT : (⟨hp, g, dr, t, os⟩ : Shared).TypeIs (.ref a) "datetime.timedelta" := ⟨_, hx, hc⟩
  have hT5 : (⟨hp, g, dr, t, os⟩ : Shared).TypeIs (.builtin idn) "member_descriptor" := ty
  refine codeAny_call_builtin slot_ms_get.plain entry_ms_get (slot_ms_get.check _ _ _ _ _ _ _ _ hT5 (args_ms_get _ _ _) ?_)
  repeat (any_goals (first | assumption | wp_step))
  refine ⟨hqt _, codeAny_builtin en ?_⟩
  exact hb _ _ _ hq
theorem entry_genD {tk : Tok} {Q : PySem.Fin → Shared → Prop} (hx : hp.get? a = some o) (hc : o.cls = .type "datetime.timedelta") (f4 : typeLookup (.type "datetime.timedelta") nm = pure (some (.builtin idn))) (ty : typeOf (.builtin idn) = pure (.type "member_descriptor"))
    (hg : ∀ (A : Around) (R : Result → Shared → Prop), R (.ok (.ret v)) ⟨hp, g, dr, t', os⟩ → codeAny (model prog w) A (.call (.builtin "member_descriptor.__get__") ⟨[.builtin idn, .ref a, .type "datetime.timedelta"], []⟩) R ⟨hp, g, dr, t, os⟩)
    (hq : Q (.done (.ret v)) ⟨hp, g, dr, t', os⟩) :
    wpAny (model prog w) A (Builtin.«object.__getattribute__» ⟨[.ref a, .str nm tk], []⟩) Q E ⟨hp, g, dr, t, os⟩ := by
  have hT : (⟨hp, g, dr, t, os⟩ : Shared).TypeIs (.ref a) "datetime.timedelta" := ⟨_, hx, hc⟩
  have hT5 : (⟨hp, g, dr, t, os⟩ : Shared).TypeIs (.builtin idn) "member_descriptor" := ty
  have f5 := ty
  have f6 := slot_ms_get.lookup
  have f7 := slot_ms_set.lookup
  repeat (any_goals (first | assumption | wp_step))
  refine hg _ _ ?_
  repeat (any_goals (first | assumption | wp_step))
theorem attr_genD {ex : Bool} {Q : Value → Shared → Prop} (hx : hp.get? a = some o) (hc : o.cls = .type "datetime.timedelta") (f4 : typeLookup (.type "datetime.timedelta") nm = pure (some (.builtin idn))) (ty : typeOf (.builtin idn) = pure (.type "member_descriptor"))
    (hg : ∀ (A : Around) (R : Result → Shared → Prop), R (.ok (.ret v)) ⟨hp, g, dr, t', os⟩ → codeAny (model prog w) A (.call (.builtin "member_descriptor.__get__") ⟨[.builtin idn, .ref a, .type "datetime.timedelta"], []⟩) R ⟨hp, g, dr, t + 1, os⟩)
    (hh : handedOut v = pure v) (hq : Q v ⟨hp, g, dr, t', os⟩) : wpAny (model prog w) A (getAttr (.ref a) nm ex) Q E ⟨hp, g, dr, t, os⟩ := by
  have hT : (⟨hp, g, dr, t, os⟩ : Shared).TypeIs (.ref a) "datetime.timedelta" := ⟨_, hx, hc⟩
  have hT' : (⟨hp, g, dr, t + 1, os⟩ : Shared).TypeIs (.ref a) "datetime.timedelta" := ⟨_, hx, hc⟩
  have f1 := td_noGa
  have f2 := slot_td_ga.lookup
  have f3 := slot_td_ga.bind (.ref a)
  unfold getAttr
  cases ex
  all_goals (repeat (any_goals (first | assumption | wp_step)))
  all_goals (refine codeAny_call_builtin slot_td_ga.plain entry_dt_ga (slot_td_ga.check _ _ _ _ _ _ _ _ hT' (args_td_ga _ _) (entry_genD hx hc f4 ty hg ?_)))
  all_goals (repeat (any_goals (first | assumption | wp_step)))
  all_goals exact (wpAny_of_eq hh hq : wpAny (model prog w) A (handedOut v) Q E _)
end
theorem lk_td_days : typeLookup (.type "datetime.timedelta") "days" = pure (some (.builtin "datetime.timedelta.days")) := by rw [typeLookup_type, builtinLookup_eq_fast]; kernel_rfl
theorem ty_td_days : typeOf (.builtin "datetime.timedelta.days") = pure (.type "member_descriptor") := by show builtinType _ = _; rw [builtinType_eq_fast]; kernel_rfl
theorem en_td_days : entryFor table "datetime.timedelta.days" = some Builtin.«datetime.timedelta.days» := entryFor_of_tree (by kernel_rfl)
theorem ow_td_days : (".".intercalate ("datetime.timedelta.days".cutAt '.').dropLast) = "datetime.timedelta" := by
  have e0 : "datetime.timedelta.days".cutAt '.' = ["datetime", "timedelta", "days"] := by first | rfl | decide +kernel
  rw [e0]; decide +kernel
theorem sb_td_days : isSubtype (.type "datetime.timedelta") (.type (".".intercalate ("datetime.timedelta.days".cutAt '.').dropLast)) = pure true := by
  rw [ow_td_days, isSubtype_type]; kernel_rfl
theorem attr_td_days {prog : Program} {w : World} {A : Around} {E : Value → Shared → Prop} {hp : Heap} {g : Array GenState} {dr : Drawn} {t : Nat} {os : OsState} {a : Addr} {d sc : Int} {ex : Bool} {Q : Value → Shared → Prop} (hx : hp.get? a = some (tdObj d sc)) (hq : Q (.int d (t + 1)) ⟨hp, g, dr, t + 1 + 1, os⟩) : wpAny (model prog w) A (getAttr (.ref a) "days" ex) Q E ⟨hp, g, dr, t, os⟩ :=
  attr_genD hx rfl lk_td_days ty_td_days (fun A R hr => get_genD hx rfl ty_td_days en_td_days sb_td_days (fun args => Code.quiet_builtin _ (by decide +kernel)) (fun A E Q hq => by
    unfold Builtin.«datetime.timedelta.days»
    unfold Builtin._datetime.dtIntAt
    refine wpAny_bind (wpAny_field hx rfl (x := .int d 0) rfl ?_)
    exact wpAny_bind (wpAny_mkInt (wpAny_pure hq))) hr) rfl hq
theorem attrK_td_days {prog : Program} {w : World} {A : Around} {E : Value → Shared → Prop} {s : Shared} {h₀ : Heap} {L a : Addr} {news : List (Addr × Obj)} {d sc : Int} {ex : Bool} {Q : Value → Shared → Prop} (N : News h₀ L s.heap news) (hm : (a, tdObj d sc) ∈ news) (hq : ∀ (t' : Tok) (k : Nat), Q (.int d t') { s with toks := k }) : wpAny (model prog w) A (getAttr (.ref a) "days" ex) Q E s :=
  attr_td_days (N _ hm).1 (hq _ _)
theorem lk_td_seconds : typeLookup (.type "datetime.timedelta") "seconds" = pure (some (.builtin "datetime.timedelta.seconds")) := by rw [typeLookup_type, builtinLookup_eq_fast]; kernel_rfl
theorem ty_td_seconds : typeOf (.builtin "datetime.timedelta.seconds") = pure (.type "member_descriptor") := by show builtinType _ = _; rw [builtinType_eq_fast]; kernel_rfl
theorem en_td_seconds : entryFor table "datetime.timedelta.seconds" = some Builtin.«datetime.timedelta.seconds» := entryFor_of_tree (by kernel_rfl)
theorem ow_td_seconds : (".".intercalate ("datetime.timedelta.seconds".cutAt '.').dropLast) = "datetime.timedelta" := by
  have e0 : "datetime.timedelta.seconds".cutAt '.' = ["datetime", "timedelta", "seconds"] := by first | rfl | decide +kernel
  rw [e0]; decide +kernel
theorem sb_td_seconds : isSubtype (.type "datetime.timedelta") (.type (".".intercalate ("datetime.timedelta.seconds".cutAt '.').dropLast)) = pure true := by
  rw [ow_td_seconds, isSubtype_type]; kernel_rfl
theorem attr_td_seconds {prog : Program} {w : World} {A : Around} {E : Value → Shared → Prop} {hp : Heap} {g : Array GenState} {dr : Drawn} {t : Nat} {os : OsState} {a : Addr} {d sc : Int} {ex : Bool} {Q : Value → Shared → Prop} (hx : hp.get? a = some (tdObj d sc)) (hq : Q (.int sc (t + 1)) ⟨hp, g, dr, t + 1 + 1, os⟩) : wpAny (model prog w) A (getAttr (.ref a) "seconds" ex) Q E ⟨hp, g, dr, t, os⟩ :=
  attr_genD hx rfl lk_td_seconds ty_td_seconds (fun A R hr => get_genD hx rfl ty_td_seconds en_td_seconds sb_td_seconds (fun args => Code.quiet_builtin _ (by decide +kernel)) (fun A E Q hq => by
    unfold Builtin.«datetime.timedelta.seconds»
    unfold Builtin._datetime.dtIntAt
    refine wpAny_bind (wpAny_field hx rfl (x := .int sc 0) rfl ?_)
    exact wpAny_bind (wpAny_mkInt (wpAny_pure hq))) hr) rfl hq
theorem attrK_td_seconds {prog : Program} {w : World} {A : Around} {E : Value → Shared → Prop} {s : Shared} {h₀ : Heap} {L a : Addr} {news : List (Addr × Obj)} {d sc : Int} {ex : Bool} {Q : Value → Shared → Prop} (N : News h₀ L s.heap news) (hm : (a, tdObj d sc) ∈ news) (hq : ∀ (t' : Tok) (k : Nat), Q (.int sc t') { s with toks := k }) : wpAny (model prog w) A (getAttr (.ref a) "seconds" ex) Q E s :=
  attr_td_seconds (N _ hm).1 (hq _ _)
end Mine

end
section
open PySem PySem.W PyProof.Rows PySem.Calls PySem.Spec PySem.Builtin._datetime
set_option maxRecDepth 100000
set_option linter.unusedVariables false
set_option Elab.async false
namespace Mine
section
variable {prog : Program} {w : World} {A : Around} {E : Value → Shared → Prop} {s : Shared} {a b : Addr} {y m d h mi sc y' m' d' h' mi' sc' : Int}
theorem stampOf_ {Q : Stamp → Shared → Prop} (hx : s.heap.get? a = some (dtObj y m d h mi sc)) (hq : Q { y := y, mo := m, d := d, c := { h := h, m := mi, s := sc, us := 0, tz := .none, fold := 0 } } s) : wpAny (model prog w) A (stampOf (.ref a)) Q E s := by
  have hT : s.TypeIs (.ref a) "datetime.datetime" := ⟨_, hx, rfl⟩
  have f1 := sub_dt
  repeat (any_goals (first | assumption | wp_step))
/-- microseconds between two clocks -/
noncomputable def usOf (y m d h mi sc : Int) : Int := (toOrdinal y m d * 86400 + h * 3600 + mi * 60 + sc) * usPerSecond + 0
theorem sub_run {Q : PySem.Fin → Shared → Prop} (hx : s.heap.get? a = some (dtObj y m d h mi sc)) (hy : s.heap.get? b = some (dtObj y' m' d' h' mi' sc'))
    (hq : wpAny (model prog w) A (newDelta (usOf y m d h mi sc - usOf y' m' d' h' mi' sc')) (fun v s' => Q (.done (.ret v)) s') E s) :
    wpAny (model prog w) A (Builtin.«datetime.datetime.__sub__» ⟨[.ref a, .ref b], []⟩) Q E s := by
  have hT : s.TypeIs (.ref a) "datetime.datetime" := ⟨_, hx, rfl⟩
  have hT2 : s.TypeIs (.ref b) "datetime.datetime" := ⟨_, hy, rfl⟩
  have f1 := sub_dt
  refine wpAny_bind ?_
  refine wpAny_of_eq (a := (.ref a, [.ref b])) rfl ?_
  refine wpAny_bind ?_
  refine wpAny_bind ?_
  refine wpAny_isInstance (T := "datetime.datetime") hT f1 ?_
  refine wpAny_bind ?_
  refine wpAny_isInstance (T := "datetime.datetime") hT2 f1 ?_
  refine wpAny_bind (stampOf_ hx ?_)
  refine wpAny_bind (stampOf_ hy ?_)
  refine wpAny_ite (KPc.ite_yes rfl ?_)
  exact wpAny_mono hq (fun v s' q => wpAny_pure q) fun _ _ q => q
theorem newDelta_made {us : Int} {Q : Value → Shared → Prop} (h0 : us ≠ 0) (h1 : 0 ≤ us ∧ us < 86400000000 * 999999999) (hz : us % 86400000000 % 1000000 = 0)
    (hq : Q (.ref s.heap.objs.size) { s with heap := s.heap.push (tdObj (us / 86400000000) (us % 86400000000 / 1000000)) }) : wpAny (model prog w) A (newDelta us) Q E s := by
  have e1 : us.fdiv usPerDay = us / 86400000000 := Int.fdiv_eq_ediv_of_nonneg _ (by decide)
  have e2 : us.fmod usPerDay = us % 86400000000 := Int.fmod_eq_emod_of_nonneg _ (by decide)
  have hd : 0 ≤ us / 86400000000 ∧ us / 86400000000 < 999999999 := by omega
  unfold newDelta
  refine wpAny_ite (KPc.ite_no (by simp [h0]) ?_)
  rw [e1, e2]
  refine wpAny_ite (KPc.ite_no (by simp; omega) ?_)
  refine wpAny_ite (KPc.ite_no (by simp; omega) ?_)
  refine wpAny_newObj_type ?_ (Nat.le_of_ble_eq_true rfl)
  have e3 : us % 86400000000 % usPerSecond = 0 := hz
  rw [e3]
  exact hq
theorem newDelta_zero {o2 : Obj} {Q : Value → Shared → Prop} (hx : s.heap.get? 2 = some o2) (hn : nsLook (Str.ofString "datetime.timedelta.zero") o2 = pure (some (.ref 49))) (hq : Q (.ref 49) s) : wpAny (model prog w) A (newDelta 0) Q E s := by
  unfold newDelta
  refine wpAny_ite (KPc.ite_yes rfl ?_)
  refine wpAny_bind (wpAny_rule ?_)
  unfold zeroDelta
  refine wpAny_bind ?_
  unfold nsGet
  refine wpAny_bind ?_
  exact wpAny_loadPart hx (wpAny_of_eq hn (wpAny_pure hq))
theorem slot_dt_sub : Slot "datetime.datetime" "__sub__" "datetime.datetime.__sub__" :=
  .of (owner := "datetime.datetime") (n := "__sub__") (by rw [typeLookup_type, builtinLookup_eq_fast]; kernel_rfl) (by decide +kernel) (by decide +kernel) (by decide +kernel)
    (by first | exact .inl (by decide +kernel) | exact .inr (by decide +kernel)) (by rw [isSubtype_type]; kernel_rfl)
theorem entry_dt_sub : entryFor table "datetime.datetime.__sub__" = some Builtin.«datetime.datetime.__sub__» := entryFor_of_tree (by kernel_rfl)
theorem args_dt_sub (a b : Value) : argsOk "datetime.datetime.__sub__" ⟨[a, b], []⟩ := by unfold argsOk; kernel_rfl
theorem fills_dt_sub : fillsNumberSlot (.type "datetime.datetime") "sub" = pure true := by kernel_rfl
theorem sub_dtK {Q : Value → Shared → Prop} (hx : s.heap.get? a = some (dtObj y m d h mi sc)) (hy : s.heap.get? b = some (dtObj y' m' d' h' mi' sc'))
    (hq : ∀ A, wpAny (model prog w) A (newDelta (usOf y m d h mi sc - usOf y' m' d' h' mi' sc')) (fun v s' => v ≠ .notImplemented ∧ Q v s') E s) :
    wpAny (model prog w) A (binaryOp .Sub (.ref a) (.ref b)) Q E s :=
  wpAny_binaryOp_same (T := "datetime.datetime") ⟨_, hx, rfl⟩ ⟨_, hy, rfl⟩ fills_dt_sub slot_dt_sub (by
    refine wpAny_call_entry slot_dt_sub ⟨_, hx, rfl⟩ entry_dt_sub ?_ (args_dt_sub _ _)
    exact sub_run hx hy (wpAny_mono (hq _) (fun v s' q => ⟨v, rfl, q⟩) fun _ _ q => q))
end
end Mine

end
section
open PySem PySem.W PyProof.Rows PySem.Calls PySem.Spec
set_option maxRecDepth 100000
namespace Mine
theorem range4 {Y : Int} : Builtin.Range.rangeSize (Y - 200) (Y + 101) 100 = 4 := by
  unfold Builtin.Range.rangeSize
  rw [if_pos (by decide), if_pos (by omega)]
  omega
theorem small4 {Y : Int} (h : 1969 ≤ Y ∧ Y ≤ 2068) : Builtin.Range.small (Y - 200) (Y + 101) 100 = true := by
  unfold Builtin.Range.small
  rw [range4]
  simp [Builtin.Range.rangeFitsLong]
  omega
theorem map_pin3 {m : Str → Option Value} {a b c : Str} {x y z : Value} (h1 : m a = some x) (h2 : m b = some y) (h3 : m c = some z) :
    m = fun u => if u = a then some x else if u = b then some y else if u = c then some z else m u := by
  funext u
  by_cases e1 : u = a
  · subst e1; simp [h1]
  · by_cases e2 : u = b
    · subst e2; simp [h2, e1]
    · by_cases e3 : u = c
      · subst e3; simp [h3, e1, e2]
      · simp [e1, e2, e3]
noncomputable abbrev tup9 (Y m d h mi sc : Int) (t1 t2 t3 t4 t5 t6 t7 t8 t9 : Tok) : Obj := { cls := .type "tuple", data := .seq #[.int Y t1, .int m t2, .int d t3, .int h t4, .int mi t5, .int sc t6, .int 0 t7, .int 1 t8, .int (-1) t9] }
/-- what stands found ahead of the year number i -/
noncomputable def Found (y0 m d h mi sc q : Int) (i : Nat) (its : Array Value) (tail : List (Addr × Obj)) : Prop :=
  ((i : Int) ≤ q ∧ its = #[]) ∨ (q < i ∧ ∃ (x y : Addr) (u1 u2 : Tok), its = #[.ref x] ∧ (x, ({ cls := .type "tuple", data := .seq #[.int y0 u1, .int (first y0 m + d - 1) u2, .ref y] } : Obj)) ∈ tail ∧ (y, dtObj y0 m d h mi sc) ∈ tail)
structure JD (R a0 : Addr) (T9 : Obj) (wk : Int) (tw : Tok) (y0 m d h mi sc q : Int) (i : Nat) (nm : Str → Option Value) (news : List (Addr × Obj)) : Prop where
  p1 : nm (PySem.Str.ofString "found") = some (.ref R)
  p2 : nm (PySem.Str.ofString "told") = some (.ref a0)
  p3 : nm (PySem.Str.ofString "weekday") = some (.int wk tw)
  led : ∃ (its : Array Value) (n0 : Nat) (tail : List (Addr × Obj)), news = (R, PySem.W.listOf its n0) :: (a0, T9) :: tail ∧ AllNe R ((a0, T9) :: tail) ∧ Found y0 m d h mi sc q i its tail
theorem split_dt {Y y0 m d h mi sc q : Int} {i : Nat} {its : Array Value} {tail : List (Addr × Obj)} {P : Prop} (_hF : Found y0 m d h mi sc q i its tail) (_hi : i < 4) (h0 : y0 = Y - 200 + q * 100) (hv : Valid y0 m d) (hd : 1 ≤ d ∧ d ≤ 31) (hh : 0 ≤ h ∧ h ≤ 23) (hmi : 0 ≤ mi ∧ mi ≤ 59) (hs : 0 ≤ sc ∧ sc ≤ 59)
    (h1 : dtOk (Y - 200 + (i : Int) * 100) m d h mi sc → Valid (Y - 200 + (i : Int) * 100) m d → (d ≤ dim (Y - 200 + (i : Int) * 100) m) → P)
    (h3 : (i : Int) ≠ q → ¬ dtOk (Y - 200 + (i : Int) * 100) m d h mi sc → ¬ (1 ≤ d ∧ d ≤ dim (Y - 200 + (i : Int) * 100) m) → ¬ (d ≤ dim (Y - 200 + (i : Int) * 100) m) → P) : P := by
  by_cases c : d ≤ dim (Y - 200 + (i : Int) * 100) m
  · exact h1 ⟨⟨hd.1, c⟩, hh.2, hmi.2, hs.2⟩ ⟨hv.m1, hv.m2, hd.1, c⟩ c
  · refine h3 (fun e => ?_) (fun z => c z.1.2) (fun z => c z.2) c
    subst e
    rw [h0] at hv
    exact c hv.d2
theorem split_q {Y y0 m d q wk : Int} {i : Nat} {P : Prop} (hi : i < 4) (hw : (first y0 m + d - 1).fmod 7 = wk) (ho : ∀ i : Nat, i < 4 → (i : Int) ≠ q → (first (Y - 200 + (i : Int) * 100) m + d - 1).fmod 7 ≠ wk) (h0 : y0 = Y - 200 + q * 100)
    (h1 : (i : Int) = q → ((first (Y - 200 + (i : Int) * 100) m + d - 1).fmod 7 = wk) → (y0 = Y - 200 + (i : Int) * 100) → P)
    (h2 : (i : Int) ≠ q → ¬ ((first (Y - 200 + (i : Int) * 100) m + d - 1).fmod 7 = wk) → P) : P := by
  by_cases e : (i : Int) = q
  · have ey : y0 = Y - 200 + (i : Int) * 100 := by rw [h0, e]
    exact h1 e (by rw [← ey]; exact hw) ey
  · exact h2 e (ho i hi e)
theorem ne_of_all {d a : Addr} {o : Obj} {l : List (Addr × Obj)} (h : AllNe d l) (m : (a, o) ∈ l) : a ≠ d := AllNe.mem h _ m
theorem en_of_all {d a : Addr} {o : Obj} {l : List (Addr × Obj)} (h : AllNe d l) (m : (a, o) ∈ l) : d ≠ a := (AllNe.mem h _ m).symm
theorem found_nil {y0 m d h mi sc q : Int} {i : Nat} {its : Array Value} {tail : List (Addr × Obj)} (hF : Found y0 m d h mi sc q i its tail) (e : (i : Int) = q) : its = #[] := by
  rcases hF with ⟨_, h⟩ | ⟨h, _⟩
  · exact h
  · omega
theorem found_size {y0 m d h mi sc q : Int} {i : Nat} {its : Array Value} {tail : List (Addr × Obj)} (hF : Found y0 m d h mi sc q i its tail) : its.size ≤ sizeLine := by
  rcases hF with ⟨_, rfl⟩ | ⟨_, _, _, _, _, rfl, _⟩ <;> exact Nat.le_of_ble_eq_true rfl
theorem found_next {y0 m d h mi sc q : Int} {i : Nat} {its : Array Value} {tail : List (Addr × Obj)} (hF : Found y0 m d h mi sc q i its tail) (e : (i : Int) ≠ q) : Found y0 m d h mi sc q (i + 1) its tail := by
  rcases hF with ⟨h, z⟩ | ⟨h, z⟩
  · exact .inl ⟨by omega, z⟩
  · exact .inr ⟨by omega, z⟩
theorem found_now {y0 y1 m d h mi sc q : Int} {i : Nat} {its : Array Value} {x y : Addr} {u1 u2 : Tok} {tail : List (Addr × Obj)} (e : (i : Int) = q) (ey : y0 = y1) (hn : its = #[]) :
    Found y0 m d h mi sc q (i + 1) (its.push (.ref x)) ((x, ({ cls := .type "tuple", data := .seq #[.int y1 u1, .int (first y1 m + d - 1) u2, .ref y] } : Obj)) :: (y, dtObj y1 m d h mi sc) :: tail) := by
  subst ey; subst hn
  exact .inr ⟨by omega, x, y, u1, u2, rfl, .head _, .tail _ (.head _)⟩
theorem TurnEndT.of {Gd : Heap → Prop} {L : Addr} {J : (Str → Option Value) → List (Addr × Obj) → Prop} {I : Addr} {io : Obj} {s₂ : Shared} {g h' : Heap} {tk : Nat} {m' : Str → Option Value} {led news' : List (Addr × Obj)}
    (G : Gd g) (F : Fr g L h' m') (N : News g L h' led) (sub : ∀ p ∈ (I, io) :: news', p ∈ led) (hI : AllNe I news') (hj : J m' news') : TurnEndT Gd L J I io s₂ { s₂ with heap := h', toks := tk } :=
  ⟨g, h', tk, m', news', G, rfl, F, fun p hp => N p (sub p hp), hI, hj⟩
theorem item_one {prog : Program} {w : World} {A : Around} {E : Value → Shared → Prop} {s : Shared} {h₀ : Heap} {L : Addr} {news : List (Addr × Obj)} {value slice : PySem.Expr} {l : Addr} {v : Value} {n0 : Nat} {u : Tok} {Q : Value → Shared → Prop}
    (N : News h₀ L s.heap news) (hm : (l, PySem.W.listOf #[v] n0) ∈ news) (h : Q v s)
    (hs : subscripted slice false (.ref l) (.int 0 u) = operate [.ref l, .int 0 u] (getItem (.ref l) (.int 0 u)) := by with_unfolding_all rfl) :
    wpAny (model prog w) A (subscriptTail value slice (.ref l) (.int 0 u)) Q E s :=
  item_litK (vs := [v]) (News.isList N hm) (by decide) (by decide) rfl h hs
theorem TurnEndT.now {Gd : Heap → Prop} {L R0 a0 x y : Addr} {T9 : Obj} {wk : Int} {tw : Tok} {y0 y1 m d h mi sc q : Int} {i n0 : Nat} {its : Array Value} {u1 u2 : Tok} {I : Addr} {io oo : Obj} {s₂ : Shared} {g h' : Heap} {tk : Nat} {m' : Str → Option Value} {led tail : List (Addr × Obj)}
    (G : Gd g) (F : Fr g L h' m') (N : News g L h' led) (e : (i : Int) = q) (ey : y0 = y1) (hR : AllNe R0 ((a0, T9) :: tail)) (hI : AllNe I ((R0, oo) :: (a0, T9) :: tail)) (hn : its = #[])
    (mI : (I, io) ∈ led) (m0 : (R0, PySem.W.listOf (its.push (.ref x)) n0) ∈ led) (ma : (a0, T9) ∈ led) (mx : (x, ({ cls := .type "tuple", data := .seq #[.int y1 u1, .int (first y1 m + d - 1) u2, .ref y] } : Obj)) ∈ led) (my : (y, dtObj y1 m d h mi sc) ∈ led) (mt : ∀ p ∈ tail, p ∈ led)
    (nxR : x ≠ R0) (nyR : y ≠ R0) (nxI : x ≠ I) (nyI : y ≠ I)
    (p1 : m' (PySem.Str.ofString "found") = some (.ref R0)) (p2 : m' (PySem.Str.ofString "told") = some (.ref a0)) (p3 : m' (PySem.Str.ofString "weekday") = some (.int wk tw)) :
    TurnEndT Gd L (JD R0 a0 T9 wk tw y0 m d h mi sc q (i + 1)) I io s₂ { s₂ with heap := h', toks := tk } :=
  ⟨g, h', tk, m', (R0, PySem.W.listOf (its.push (.ref x)) n0) :: (a0, T9) :: (x, { cls := .type "tuple", data := .seq #[.int y1 u1, .int (first y1 m + d - 1) u2, .ref y] }) :: (y, dtObj y1 m d h mi sc) :: tail, G, rfl, F,
    fun p hp => N p (List.forall_mem_cons.mpr ⟨mI, List.forall_mem_cons.mpr ⟨m0, List.forall_mem_cons.mpr ⟨ma, List.forall_mem_cons.mpr ⟨mx, List.forall_mem_cons.mpr ⟨my, mt⟩⟩⟩⟩⟩ p hp),
    ⟨hI.1, hI.2.1, ⟨nxI⟩, ⟨nyI⟩, hI.2.2⟩, p1, p2, p3, _, _, _, rfl, ⟨hR.1, ⟨nxR⟩, ⟨nyR⟩, hR.2⟩, found_now e ey hn⟩
theorem leaveT_found {fs : List Addr} {g g' : Heap} {s : Shared} {R0 a0 L' : Addr} {y0 m d h mi sc q : Int} {its : Array Value} {n0 : Nat} {tk : Nat} {hp : Heap} {m' : Str → Option Value} {tail : List (Addr × Obj)} {Y : Int} {t1 t2 t3 t4 t5 t6 t7 t8 t9 : Tok}
    (hF : Found y0 m d h mi sc q 4 its tail) (hq : 0 ≤ q ∧ q < 4) (hR : AllNe R0 ((a0, tup9 Y m d h mi sc t1 t2 t3 t4 t5 t6 t7 t8 t9) :: tail)) (T : KtsTurn fs g g') (F : Fr g' L' hp m') (N : News g' L' hp ((R0, PySem.W.listOf its n0) :: (a0, tup9 Y m d h mi sc t1 t2 t3 t4 t5 t6 t7 t8 t9) :: tail)) :
    LeaveT fs g s [(a0, tup9 Y m d h mi sc t1 t2 t3 t4 t5 t6 t7 t8 t9)] (fun v new => ∃ D x y, v = .ref D ∧ ∃ (n0 : Nat) (u1 u2 : Tok), new = [(D, PySem.W.listOf #[.ref x] n0), (x, ({ cls := .type "tuple", data := .seq #[.int y0 u1, .int (first y0 m + d - 1) u2, .ref y] } : Obj)), (y, dtObj y0 m d h mi sc)]) (.ref R0) { s with heap := hp, toks := tk } := by
  rcases hF with ⟨h1, _⟩ | ⟨_, x, y, u1, u2, rfl, hx, hy⟩
  · exact absurd hq.2 (by omega)
  · have ga := (N _ (.tail _ (.head _))).1
    have gx := (N _ (.tail _ (.tail _ hx))).1
    have gy := (N _ (.tail _ (.tail _ hy))).1
    have nx : x ≠ a0 := fun e => by
      rw [e, ga] at gx
      have := congrArg Obj.data (Option.some.inj gx)
      injection this with q1
      have q2 : (9 : Nat) = 3 := congrArg Array.size q1
      exact absurd q2 (by decide)
    have ny : y ≠ a0 := fun e => by
      rw [e, ga] at gy
      have := congrArg Obj.cls (Option.some.inj gy)
      injection this with q1
      exact absurd q1 (by decide)
    refine leaveT_intro T F N (fun p hp => ?_) [(R0, PySem.W.listOf #[.ref x] n0), (x, { cls := .type "tuple", data := .seq #[.int y0 u1, .int (first y0 m + d - 1) u2, .ref y] }), (y, dtObj y0 m d h mi sc)] (fun p hp => ?_) (fun p hp r hr => ?_) ⟨R0, x, y, rfl, n0, u1, u2, rfl⟩
    · rw [List.mem_singleton.mp hp]; exact .tail _ (.head _)
    · exact List.forall_mem_cons.mpr ⟨.head _, List.forall_mem_cons.mpr ⟨.tail _ (.tail _ hx), List.forall_mem_cons.mpr ⟨.tail _ (.tail _ hy), List.forall_mem_nil _⟩⟩⟩ p hp
    · rw [List.mem_singleton.mp hr]
      exact List.forall_mem_cons (p := fun p => p.1 ≠ a0).mpr ⟨hR.1.out.symm, List.forall_mem_cons.mpr ⟨nx, List.forall_mem_cons.mpr ⟨ny, List.forall_mem_nil _⟩⟩⟩ p hp
section
variable {prog : Program} {w : World} {A : Around} {E : Value → Shared → Prop} {s : Shared} {Q : Value → Shared → Prop}
theorem eqi_yes {x y : Int} {t u : Tok} (e : x = y) (h : Q (.bool true) s) : wpAny (model prog w) A (compareOp .Eq (.int x t) (.int y u)) Q E s := PyProof.Rows.eq_int (by rw [e, beq_self_eq_true]; exact h)
theorem eqi_no {x y : Int} {t u : Tok} (e : ¬ x = y) (h : Q (.bool false) s) : wpAny (model prog w) A (compareOp .Eq (.int x t) (.int y u)) Q E s := PyProof.Rows.eq_int (by rw [beq_eq_false_iff_ne.mpr e]; exact h)
end
end Mine

end
section
open PySem PySem.W PyProof.Rows PySem.Calls PySem.Spec PySem.Builtin.Re
set_option maxRecDepth 100000
set_option linter.unusedVariables false
namespace Mine
/-- the text 1769-01-01Z -/
noncomputable def ORI : List Nat := dg4 1769 ++ [45] ++ dg2 1 ++ [45] ++ dg2 1 ++ [90]
noncomputable def T1 : Array Nat := #[49, 55, 54, 57, 45, 48, 49, 45, 48, 49, 90]
theorem ori_T1 : ORI.toArray = T1 := by decide +kernel
theorem ori_len : ORI.length = 11 := rfl
@[irreducible] noncomputable def M1 : SM := Sre.forMatch CODE T1 6 0 11 false false
noncomputable def MARKS1 : Array (Option Nat) := #[some 0, some 4, some 5, some 7, some 8, some 10, none, none, none, none, none, none]
noncomputable def chk1 : Option SM → Bool
  | some m => (match m.outcome with | some .matched => true | _ => false) && m.lastindex == 3 && m.start == 0 && m.handed == 11 && m.lastmark == 5 && m.marks == MARKS1
  | none => false
theorem start1_ : Sre.forMatch CODE T1 6 0 11 false false = M1 := by with_unfolding_all rfl
theorem chk10 : chk1 (goes 40 M1) = true := by decide +kernel
theorem chk1_of {o : Option SM} (h : chk1 o = true) : ∃ m, o = some m ∧ m.outcome = some .matched ∧ m.lastindex = 3 ∧ m.start = 0 ∧ m.handed = 11 ∧ m.lastmark = 5 ∧ m.marks = MARKS1 := by
  cases o with
  | none => cases h
  | some m =>
    unfold chk1 at h
    simp only [Bool.and_eq_true, beq_iff_eq] at h
    obtain ⟨⟨⟨⟨⟨h1, h2⟩, h3⟩, h4⟩, h5⟩, h6⟩ := h
    refine ⟨m, rfl, ?_, h2, h3, h4, h5, h6⟩
    split at h1
    · assumption
    · cases h1
noncomputable abbrev SPANS1 : Array Value := #[.int 0 0, .int 11 0, .int 0 0, .int 4 0, .int 5 0, .int 7 0, .int 8 0, .int 10 0, .int (-1) 0, .int (-1) 0, .int (-1) 0, .int (-1) 0, .int (-1) 0, .int (-1) 0]
noncomputable abbrev matchObj1 (P : Addr) (t : Tok) (tt : Addr) : Obj := { cls := .type "re.Match", data := .fields #[.str (tx ORI) t, .ref P, .int 0 0, .int 11 0, .int 3 0, .ref tt] }
section
variable {prog : Program} {w : World} {A : Around} {E : Value → Shared → Prop} {s : Shared}
theorem target1_ {P gi ct : Addr} {t : Tok} {Q : ReTarget → Shared → Prop} (hP : PatAt s.heap P gi ct)
    (hq : Q { pattern := .ref P, string := .str (tx ORI) t, code := CODE, text := ORI.toArray, kind := 0, groups := 6, pos := 0, lim := 11 } s) :
    wpAny (model prog w) A (reTarget "re.Pattern.match" "match" ⟨[.ref P, .str (tx ORI) t], []⟩) Q E s := by
  obtain ⟨⟨dt, sl, src, ts, tf, ix, hp⟩, ⟨dt', sl', n, hc⟩⟩ := hP
  unfold reTarget
  dsimp only
  rw [named1]
  refine wpAny_bind (wpAny_pure ?_)
  dsimp only
  refine wpAny_bind (wpAny_pure ?_)
  refine wpAny_bind (wpAny_pure ?_)
  refine wpAny_bind (wpAny_fieldsOf hp rfl ?_)
  refine wpAny_bind (textOf_ ORI t ?_)
  refine wpAny_ifF Bool.false_ne_true ?_
  refine wpAny_ifF Bool.false_ne_true ?_
  refine wpAny_bind (wpAny_ifF Bool.false_ne_true (wpAny_pure ?_))
  refine wpAny_bind (rawItems_ hc rfl (wpAny_pure ?_))
  have e1 : min (Int.toNat 0) ORI.toArray.size = 0 := Nat.zero_min _
  have e2 : min (2 ^ 63 - 1 : Int).toNat ORI.toArray.size = 11 := by rw [List.size_toArray, ori_len]; decide
  dsimp only
  rw [e1, e2, codev]
  exact hq
theorem newMatch1_ {P S : Value} {m : SM} {Q : Value → Shared → Prop} (h2 : m.lastindex = 3) (h3 : m.start = 0) (h4 : m.handed = 11) (h5 : m.lastmark = 5) (h6 : m.marks = MARKS1)
    (hq : Q (.ref (s.heap.objs.size + 1)) { s with heap := (s.heap.push { cls := .type "tuple", data := .seq SPANS1 }).push { cls := .type "re.Match", data := .fields #[S, P, .int 0 0, .int 11 0, .int 3 0, .ref s.heap.objs.size] } }) :
    wpAny (model prog w) A (reNewMatch P S 6 0 11 m) Q E s := by
  unfold reNewMatch
  rw [h2, h3, h4, h5, h6]
  refine wpAny_ifF Bool.false_ne_true ?_
  unfold newTuple newFields
  refine wpAny_bind (wpAny_newObj_type (data := .seq SPANS1) (wpAny_newObj_type (data := .fields #[S, P, .int 0 0, .int 11 0, .int 3 0, .ref s.heap.objs.size]) ?_ (Nat.le_of_ble_eq_true rfl)) (Nat.le_of_ble_eq_true rfl))
  rw [Heap.size_push]
  exact hq
theorem match1_ {P gi ct : Addr} {t : Tok} {Q : PySem.Fin → Shared → Prop} (hP : PatAt s.heap P gi ct)
    (hq : Q (.done (.ret (.ref (s.heap.objs.size + 1)))) { s with heap := (s.heap.push { cls := .type "tuple", data := .seq SPANS1 }).push (matchObj1 P t s.heap.objs.size) }) :
    wpAny (model prog w) A (Builtin.«re.Pattern.match» ⟨[.ref P, .str (tx ORI) t], []⟩) Q E s := by
  unfold Builtin.«re.Pattern.match»
  refine wpAny_bind (target1_ hP ?_)
  unfold reAnswer
  dsimp only
  rw [ori_T1, start1_]
  obtain ⟨m, hm, h1, h2, h3, h4, h5, h6⟩ := chk1_of chk10
  have k := fun Q => runToEnd_ (M := model prog w) (A := A) (E := E) (s := s) (Q := Q) hm (by decide) h1
  refine wpAny_bind (k _ ?_)
  dsimp only
  exact wpAny_bind (newMatch1_ h2 h3 h4 h5 h6 (wpAny_pure hq))
noncomputable abbrev FIELDS1 (t1 t2 t3 : Tok) : List (Str × Value) :=
  [(nYear, .str (tx (dg4 1769)) t1), (nMonth, .str (tx (dg2 1)) t2), (nDay, .str (tx (dg2 1)) t3), (nHour, .none), (nMinute, .none), (nSecond, .none)]
theorem groupNone_ {x : ReFound} {d : Value} {g : Nat} {Q : Value → Shared → Prop} (hb : x.spans.getD (2 * g) (-1) = (-1 : Int)) (h : Q d s) :
    wpAny (model prog w) A (reGroupText x g d) Q E s := by
  unfold reGroupText
  rw [hb]
  refine wpAny_ifT ?_ (wpAny_pure h)
  rw [Bool.or_eq_true]; exact .inl rfl
variable {h₀ : Heap} {L : Addr} {m : Str → Option Value} {news : List (Addr × Obj)}
theorem groupV_none {x : ReFound} {g : Nat} (hb : x.spans.getD (2 * g) (-1) = (-1 : Int)) : GroupV prog w A x g .none (fun v => v = .none) :=
  fun _ _ _ h => groupNone_ hb (h _ _ rfl)
theorem groupdict1_ {P gi ct mt tt : Addr} {t : Tok} {Q : PySem.Fin → Shared → Prop} (F : Fr h₀ L s.heap m) (N : News h₀ L s.heap news) (hP : PatAt h₀ P gi ct) (hN : NamesAt w h₀ gi)
    (hM : s.heap.get? mt = some (matchObj1 P t tt)) (hT : s.heap.get? tt = some { cls := .type "tuple", data := .seq SPANS1 })
    (h : ∀ h' o tk t1 t2 t3, Fr h₀ L h' m → News h₀ L h' ((s.heap.objs.size, o) :: news) → o.IsDictOf (strKind prog w) (FIELDS1 t1 t2 t3) → Q (.done (.ret (.ref s.heap.objs.size))) { s with heap := h', toks := tk }) :
    wpAny (model prog w) A (Builtin.«re.Match.groupdict» ⟨[.ref mt], []⟩) Q E s := by
  have q : ∀ i v, (SPANS1.map reRawOf).getD i (-1) = v ↔ (#[0, 11, 0, 4, 5, 7, 8, 10, -1, -1, -1, -1, -1, -1] : Array Int).getD i (-1) = v := fun i v => by
    rw [show SPANS1.map reRawOf = #[0, 11, 0, 4, 5, 7, 8, 10, -1, -1, -1, -1, -1, -1] from by decide +kernel]
  refine groupdictG F N hP hN hM hT (by decide +kernel) (groupV_text (b := 0) (e := 4) rfl ((q _ _).mpr rfl) ((q _ _).mpr rfl) (by decide) (by decide)) (groupV_text (b := 5) (e := 7) rfl ((q _ _).mpr rfl) ((q _ _).mpr rfl) (by decide) (by decide)) (groupV_text (b := 8) (e := 10) rfl ((q _ _).mpr rfl) ((q _ _).mpr rfl) (by decide) (by decide))
    (groupV_none ((q _ _).mpr rfl)) (groupV_none ((q _ _).mpr rfl)) (groupV_none ((q _ _).mpr rfl)) ?_
  rintro h' o tk v1 v2 v3 v4 v5 v6 ⟨t1, rfl⟩ ⟨t2, rfl⟩ ⟨t3, rfl⟩ rfl rfl rfl F' N' I'
  exact h h' o tk t1 t2 t3 F' N' I'
end
section
variable {prog : Program} {w : World} {A : Around} {E : Value → Shared → Prop} {s : Shared} {K : Frag} {h₀ : Heap} {L : Addr} {m : Str → Option Value} {news : List (Addr × Obj)} {P gi ct : Addr} {t : Tok}
theorem match1_call {Q : Value → Shared → Prop} (F : Fr h₀ L s.heap m) (N : News h₀ L s.heap news) (X : K.In h₀) (hK : PatK w K P)
    (h : ∀ tt D h', Fr h₀ L h' m → News h₀ L h' ((D, matchObj1 P t tt) :: (tt, { cls := .type "tuple", data := .seq SPANS1 }) :: news) → (∀ p ∈ news, p.1 < tt) → tt < D → Q (.ref D) { s with heap := h' }) :
    wpAny (model prog w) A (call (.builtin "re.Pattern.match") [.ref P, .str (tx ORI) t]) Q E s := by
  obtain ⟨gi, ct, hP, hN⟩ := hK.pat X
  obtain ⟨_, _, src, ts, tf, ix, hp, _⟩ := hK.at_
  have F1 := F.push { cls := .type "tuple", data := .seq SPANS1 }
  have N1 := News.push F N { cls := .type "tuple", data := .seq SPANS1 }
  have N2 := News.push F1 N1 (matchObj1 P t s.heap.objs.size)
  rw [Heap.size_push] at N2
  exact wpAny_call_entry slot_match ⟨_, F.keep _ _ (X _ _ hp), rfl⟩ entry_match (match1_ (hP.keeps F.keep) ⟨_, rfl, h _ _ _ (F1.push _) N2 (fun p hp => Heap.lt_size (N p hp).1) (Nat.lt_succ_self _)⟩) (args_match _ _)
theorem groupdict1_method {D tt : Addr} {pl : Sem Bool} {Q : Value × List Value → Shared → Prop} (N : News h₀ L s.heap news) (hm : (D, matchObj1 P t tt) ∈ news) (h : Q (.builtin "re.Match.groupdict", [.ref D]) s) : wpAny (model prog w) A (getMethod (.ref D) "groupdict" pl) Q E s :=
  getMethod_builtin ⟨_, (N _ hm).1, rfl⟩ pa_mat slot_groupdict type_groupdict (fun a e => by cases e; exact ⟨_, (N _ hm).1, rfl⟩) h
theorem groupdict1_call {D tt : Addr} {Q : Value → Shared → Prop} (F : Fr h₀ L s.heap m) (N : News h₀ L s.heap news) (X : K.In h₀) (hK : PatK w K P) (hm : (D, matchObj1 P t tt) ∈ news) (ht : (tt, { cls := .type "tuple", data := .seq SPANS1 }) ∈ news)
    (h : ∀ G o h' tk t1 t2 t3, Fr h₀ L h' m → News h₀ L h' ((G, o) :: news) → (∀ p ∈ news, p.1 < G) → (G == sysModules) = (s.heap.objs.size == sysModules) → o.IsDictOf (strKind prog w) (FIELDS1 t1 t2 t3) → Q (.ref G) { s with heap := h', toks := tk }) :
    wpAny (model prog w) A (call (.builtin "re.Match.groupdict") [.ref D]) Q E s := by
  obtain ⟨gi, ct, hP, hN⟩ := hK.pat X
  exact wpAny_call_entry slot_groupdict ⟨_, (N _ hm).1, rfl⟩ entry_groupdict (groupdict1_ F N hP hN (N _ hm).1 (N _ ht).1 fun h' o tk t1 t2 t3 F' N' I' => ⟨_, rfl, h _ o h' tk t1 t2 t3 F' N' (fun p hp => Heap.lt_size (N p hp).1) rfl I'⟩) (args_groupdict _)
end
end Mine

end
section
open PySem PySem.W PyProof.Rows PySem.Calls PySem.Spec PySem.Builtin._datetime
set_option maxRecDepth 100000
set_option linter.unusedVariables false
namespace Mine
section
variable {prog : Program} {w : World} {A : Around} {E : Value → Shared → Prop} {s : Shared}
theorem bindClock3_ {y m d : Int} {t1 t2 t3 : Tok} {Q : List (Option Int) × Option Value × Option Int → Shared → Prop} (hy : 0 ≤ y ∧ y < 10000) (hm : 0 ≤ m ∧ m < 10000) (hd : 0 ≤ d ∧ d < 10000)
    (hq : Q ([some y, some m, some d, none, none, none, none], none, none) s) :
    wpAny (model prog w) A (dtBindClock "datetime.datetime.__new__" "function" ["year", "month", "day"] 3 [.int y t1, .int m t2, .int d t3] []) Q E s := by
  unfold dtBindClock
  dsimp only
  refine wpAny_ifF (show ¬ (3 > 9) from by decide) ?_
  refine wpAny_ifF Bool.false_ne_true ?_
  show wpAny _ _ (forIn [(Str.ofString "year", 0), (Str.ofString "month", 1), (Str.ofString "day", 2), (Str.ofString "hour", 3), (Str.ofString "minute", 4), (Str.ofString "second", 5), (Str.ofString "microsecond", 6)] #[] _ >>= _) _ _ _
  refine wpAny_bind ?_
  rw [List.forIn_cons]
  refine wpAny_bind (wpAny_ifF Bool.false_ne_true (wpAny_bind (cint_ hy.1 hy.2 (wpAny_pure ?_))))
  dsimp only
  rw [List.forIn_cons]
  refine wpAny_bind (wpAny_ifF Bool.false_ne_true (wpAny_bind (cint_ hm.1 hm.2 (wpAny_pure ?_))))
  dsimp only
  rw [List.forIn_cons]
  refine wpAny_bind (wpAny_ifF Bool.false_ne_true (wpAny_bind (cint_ hd.1 hd.2 (wpAny_pure ?_))))
  dsimp only
  rw [List.forIn_cons]
  refine wpAny_bind (wpAny_ifF (show ¬ (3 < 3) from by decide) (wpAny_pure ?_))
  dsimp only
  rw [List.forIn_cons]
  refine wpAny_bind (wpAny_ifF (show ¬ (4 < 3) from by decide) (wpAny_pure ?_))
  dsimp only
  rw [List.forIn_cons]
  refine wpAny_bind (wpAny_ifF (show ¬ (5 < 3) from by decide) (wpAny_pure ?_))
  dsimp only
  rw [List.forIn_cons]
  refine wpAny_bind (wpAny_ifF (show ¬ (6 < 3) from by decide) (wpAny_pure ?_))
  dsimp only
  rw [List.forIn_nil]
  refine wpAny_pure ?_
  refine wpAny_bind (wpAny_ifF (show ¬ (3 > 8) from by decide) (wpAny_pure ?_))
  refine wpAny_bind (wpAny_pure ?_)
  refine wpAny_bind (m := dtBind _ _ _ _ _ _) (wpAny_of_eq (a := [some (.int y t1), some (.int m t2), some (.int d t3), none, none, none, none, none, none]) ?_ ?_)
  · with_unfolding_all rfl
  · exact wpAny_pure hq
theorem dt_new3_ {t1 t2 t3 : Tok} {Q : PySem.Fin → Shared → Prop}
    (hq : Q (.done (.ret (.ref s.heap.objs.size))) { s with heap := s.heap.push (dtObj 1769 1 1 0 0 0) }) :
    wpAny (model prog w) A (Builtin.«datetime.datetime.__new__» ⟨[.type "datetime.datetime", .int 1769 t1, .int 1 t2, .int 1 t3], []⟩) Q E s := by
  unfold Builtin.«datetime.datetime.__new__»
  refine wpAny_bind (newClass_ ?_)
  refine wpAny_ifF Bool.false_ne_true ?_
  refine wpAny_bind (bindClock3_ (by omega) (by omega) (by omega) ?_)
  dsimp only [Option.getD]
  refine wpAny_bind ?_
  unfold newStampRaw checkDate checkTime
  dsimp only
  refine wpAny_bind ?_
  rw [daysIn (by omega)]
  refine wpAny_ifF (by decide) ?_
  refine wpAny_ifF (by decide) ?_
  refine wpAny_ifF (by decide) (wpAny_pure ?_)
  refine wpAny_bind ?_
  refine wpAny_ifF (by decide) ?_
  refine wpAny_ifF (by decide) ?_
  refine wpAny_ifF (by decide) ?_
  refine wpAny_ifF (by decide) (wpAny_ifF (by decide) (wpAny_pure ?_))
  unfold checkTzinfo
  refine wpAny_bind (wpAny_ifF Bool.false_ne_true (wpAny_pure ?_))
  refine wpAny_newObj_type ?_ (Nat.le_of_ble_eq_true rfl)
  exact wpAny_pure hq
theorem typeCall_dt3 (a b c : Value) : checkTypeCall "datetime.datetime" ⟨[a, b, c], []⟩ = pure () := by kernel_rfl
theorem newCall_dt3 (a b c : Value) : checkBuiltinCall "datetime.datetime.__new__" ⟨[.type "datetime.datetime", a, b, c], []⟩ = pure () := by kernel_rfl
theorem args_init_4 (o a b c : Value) : argsOk "object.__init__" ⟨[o, a, b, c], []⟩ := by
  unfold argsOk; rw [signature?_of (id := "object.__init__") (n := ['_', '_', 't', 'i', 'n', 'i', '_', '_']) (o := ['t', 'c', 'e', 'j', 'b', 'o']) (by kernel_rfl) PySem.F.owner_object]; kernel_rfl
noncomputable def dtSpec3 : PySem.Spec := fun A R s => R (.ok (.ret (.ref s.heap.objs.size))) { s with heap := s.heap.push (dtObj 1769 1 1 0 0 0) }
theorem meets_dt3 {t1 t2 t3 : Tok} :
    Meets (Builtin.«datetime.datetime.__new__» ⟨[.type "datetime.datetime", .int 1769 t1, .int 1 t2, .int 1 t3], []⟩) dtSpec3 :=
  fun prog w A R s x => dt_new3_ x
variable {h₀ : Heap} {L : Addr} {mp : Str → Option Value} {news : List (Addr × Obj)}
theorem dt_3K {t1 t2 t3 : Tok} {Q : Value → Shared → Prop} (F : Fr h₀ L s.heap mp) (N : News h₀ L s.heap news)
    (hq : ∀ D h', Fr h₀ L h' mp → News h₀ L h' ((D, dtObj 1769 1 1 0 0 0) :: news) → (∀ p ∈ news, p.1 < D) → Q (.ref D) { s with heap := h' }) :
    wpAny (model prog w) A (call (.type "datetime.datetime") [.int 1769 t1, .int 1 t2, .int 1 t3]) Q E s :=
  callType_new called_dt (by decide +kernel) (typeCall_dt3 _ _ _) (newCall_dt3 _ _ _) (fun obj => args_init_4 _ _ _ _) entry_dt_new meets_dt3
    ⟨⟨_, Heap.get?_push_size _ rfl, rfl⟩, hq _ _ (F.push _) (News.push F N (dtObj 1769 1 1 0 0 0)) fun p hp => Heap.lt_size (N p hp).1⟩
end
theorem ori_str : Str.ofString "1769-01-01Z" = tx ORI := by rw [tx_def]; decide +kernel
theorem match1_call' {prog : Program} {w : World} {A : Around} {E : Value → Shared → Prop} {s : Shared} {K : Frag} {h₀ : Heap} {L : Addr} {m : Str → Option Value} {news : List (Addr × Obj)} {P : Addr} {t : Tok} {Q : Value → Shared → Prop} (F : Fr h₀ L s.heap m) (N : News h₀ L s.heap news) (X : K.In h₀) (hK : PatK w K P)
    (h : ∀ tt D h', Fr h₀ L h' m → News h₀ L h' ((D, matchObj1 P t tt) :: (tt, { cls := .type "tuple", data := .seq SPANS1 }) :: news) → (∀ p ∈ news, p.1 < tt) → tt < D → Q (.ref D) { s with heap := h' }) :
    wpAny (model prog w) A (call (.builtin "re.Pattern.match") [.ref P, .str (Str.ofString "1769-01-01Z") t]) Q E s := by
  rw [ori_str]; exact match1_call F N X hK h
end Mine

end
section
open PySem PySem.W PyProof.Rows PySem.Calls PySem.Spec
set_option maxRecDepth 100000
namespace Mine
section
variable {prog : Program} {w : World} {A : Around} {E : Value → Shared → Prop} {s : Shared}
theorem codeC_forLoop2 {R : Result → Shared → Prop} {target it body orelse env} (I : Nat → Shared → Prop)
    (turn : ∀ n s, I n s → wpAny (model prog w) A (pyNext it) (fun r s₁ => match r with
      | none => wpC (model prog w) A (execs orelse env) (fun f s₃ => R (.ok f) s₃) (notedBy (model prog w) A env fun e s' => R (.error e) s') s₁
      | some v => wpAny (model prog w) A (letOwnedTupleGo target it v) (fun _ s₀ => wpAny (model prog w) A (assign target env v) (fun _ s₂ => wpC (model prog w) A (execs body env) (fun f s₃ => match f with
          | .next | .cont => ∃ m, m < n ∧ I m s₃
          | .brk => R (.ok .next) s₃
          | .ret v => R (.ok (.ret v)) s₃) (notedBy (model prog w) A env fun e s' => R (.error e) s') s₂) (notedBy (model prog w) A env fun e s' => R (.error e) s') s₀) (notedBy (model prog w) A env fun e s' => R (.error e) s') s₁) (notedBy (model prog w) A env fun e s' => R (.error e) s') s)
    (n : Nat) (h : I n s) : codeC (model prog w) A (.forLoop target it body orelse env) R s := by
  refine codeC_loop rfl I (fun n s hI => ?_) n h
  show wpC _ _ ((forTurn target it body orelse env).onRaise (fun x => do noteFrame x env; theTreesLotGoes x)) _ _ s
  refine wpC_noted ?_
  simp only [forTurn]
  refine wpC_then (wpAny_standAt (wpC_then (wpAny_onRaise (wpAny_mono (turn n s hI) (fun r s₁ h₁ => ?_) fun _ _ h' => wpAny_standAt h'))))
  cases r with
  | none => exact wpC_pure (.inr ⟨rfl, codeC_block h₁⟩)
  | some v =>
    refine wpC_then (wpAny_mono h₁ (fun _ s₀ h₀ => ?_) fun _ _ h' => h')
    refine wpC_then (wpAny_mono h₀ (fun _ s₂ h₂ => wpC_bind (wpC_mono h₂ (fun f s₃ h₃ => ?_) fun _ _ h' => h')) fun _ _ h' => h')
    cases f with
    | next => exact wpC_pure (.inl ⟨rfl, h₃⟩)
    | cont => exact wpC_pure (.inl ⟨rfl, h₃⟩)
    | brk => exact wpC_pure h₃
    | ret v => exact wpC_pure h₃
end
section
variable {prog : Program} {w : World} {A : Around} {E : Value → Shared → Prop} {s : Shared} {env : Env} {h₀ : Heap} {body : List Stmt} {elts : List PySem.Expr} {xc : Nat} {tp : Pos} {Q : Flow → Shared → Prop}
inductive LedIt (h₀ : Heap) (L l I : Addr) (n : Nat) (J : Nat → (Str → Option Value) → List (Addr × Obj) → Prop) (s : Shared) : Nat → Shared → Prop
  | mk {h' : Heap} {tk : Nat} {m' : Str → Option Value} {news' : List (Addr × Obj)} {io : Obj} {i : Nat} : h'.IsListIter I l i → Fr h₀ L h' m' → News h₀ L h' ((I, io) :: news') → AllNe I news' → J i m' news' → i ≤ n → LedIt h₀ L l I n J s (n + 1 - i) { s with heap := h', toks := tk }
theorem for_ledP {l : Addr} {vs : List Value} {lo : Obj} {m : Str → Option Value} {news : List (Addr × Obj)} (J : Nat → (Str → Option Value) → List (Addr × Obj) → Prop)
    (hh : A.handled = none) (hlo : ∃ n0, lo = PySem.W.listOf vs.toArray n0) (hJl : ∀ i m news, J i m news → (l, lo) ∈ news) (F : Fr h₀ env.locals s.heap m) (N : News h₀ env.locals s.heap news) (h0 : J 0 m news)
    (turn : ∀ i v m₁ news₁ I io h tk, vs[i]? = some v → J i m₁ news₁ → AllNe I news₁ → Fr h₀ env.locals h m₁ → News h₀ env.locals h ((I, io) :: news₁) →
      wpAny (model prog w) A (assign (.Tuple elts xc tp) env v) (fun _ s₂ => wpC (model prog w) A (execs body env) (TurnPost h₀ env.locals (J (i + 1)) I io Q { s with heap := h, toks := tk }) E s₂) E { s with heap := h, toks := tk })
    (done : ∀ m₁ news₁ h tk, J vs.length m₁ news₁ → Fr h₀ env.locals h m₁ → News h₀ env.locals h news₁ → Q .next { s with heap := h, toks := tk })
    (hrefs : ∀ v ∈ vs, ∃ T, v = Value.ref T)
    (hE : PassesOwn (model prog w) A env E) :
    wpAny (model prog w) A (pyIter (.ref l)) (fun it s₂ => codeC (model prog w) A (.forLoop (.Tuple elts xc tp) it body [] env) (fun r s' => match r with | .ok f => Q f s' | .error e => cameBackBy (model prog w) A env E e s') s₂) E s := by
  obtain ⟨n0, rfl⟩ := hlo
  have hl : ∀ {h : Heap} {I : Addr} {io : Obj} {i : Nat} {m₁ : Str → Option Value} {news₁ : List (Addr × Obj)}, J i m₁ news₁ → News h₀ env.locals h ((I, io) :: news₁) → h.IsList l vs.toArray := fun hj hN => News.isList hN (List.mem_cons_of_mem _ (hJl _ _ _ hj))
  have hls : s.heap.IsList l vs.toArray := News.isList N (hJl _ _ _ h0)
  refine wpAny_pyIter_list hls ?_
  refine codeC_forLoop2 (LedIt h₀ env.locals l s.heap.objs.size vs.length J s) ?_ (vs.length + 1)
    (LedIt.mk (i := 0) ⟨_, Heap.get?_push_size _ rfl, rfl, rfl⟩ (F.push _) (News.push F N _) (allNe_intro fun p hp => Nat.ne_of_lt (Heap.lt_size (N p hp).1)) h0 (Nat.zero_le _))
  rintro k s' ⟨hit, F', N', hI, hJ, hi⟩
  rename_i h' tk m' news' io i
  by_cases hlt : i < vs.length
  · refine wpAny_pyNext_list_item hit (hl hJ N') (x := vs[i]) (by simp [hlt]) fun h₁ hit₁ hs₁ => ?_
    obtain ⟨io₁, hio₁, _⟩ := id hit₁
    obtain ⟨T, hT⟩ := hrefs vs[i] (List.getElem_mem hlt)
    dsimp only
    rw [hT]
    refine wpAny_letOwnedTupleGo_listiter hit₁ ?_
    rw [← hT]
    refine wpAny_passesOwn hE (wpAny_mono (turn i vs[i] m' news' _ io₁ h₁ tk (by simp [hlt]) hJ hI (iter_fr F' N' hs₁) (iter_news N' hI hs₁ hio₁)) (fun _ s₂ h₂ => wpC_mono h₂ (fun f s₃ h₃ => ?_) hE) fun _ _ x => x)
    have fin : TurnEnd h₀ env.locals (J (i + 1)) s.heap.objs.size io₁ { s with heap := h₁, toks := tk } s₃ → ∃ m, m < vs.length + 1 - i ∧ LedIt h₀ env.locals l s.heap.objs.size vs.length J s m s₃ := by
      rintro ⟨h₄, tk₄, m₄, news₄, rfl, F₄, N₄, hI₄, hJ₄⟩
      refine ⟨vs.length + 1 - (i + 1), by omega, LedIt.mk (hit₁.at fun o e => ?_) F₄ N₄ hI₄ hJ₄ hlt⟩
      rw [hio₁] at e
      obtain rfl := Option.some.inj e
      exact (N₄ _ (.head _)).1
    cases f with
    | ret v => exact h₃
    | brk => exact h₃
    | next => exact fin h₃
    | cont => exact fin h₃
  · have hin : i = vs.length := by omega
    subst hin
    refine wpAny_pyNext_list_end hh hit (hl hJ N') (by simp) fun h₁ he₁ => wpC_nil ?_
    exact done m' news' h₁ tk hJ (over_fr F' N' fun b o hb e => he₁ b o hb e) (over_news N' hI fun b o hb e => he₁ b o hb e)
theorem for_headP {l : Addr} {vs : List Value} {n0 : Nat} {m : Str → Option Value} {news : List (Addr × Obj)} (J : Nat → (Str → Option Value) → List (Addr × Obj) → Prop)
    (F : Fr h₀ env.locals s.heap m) (N : News h₀ env.locals s.heap ((l, PySem.W.listOf vs.toArray n0) :: news)) (hh : A.handled = none) (h0 : J 0 m news)
    (turn : ∀ (Q' : Flow → Shared → Prop) (E' : Value → Shared → Prop) i v m₁ news₁ I io h tk, vs[i]? = some v → J i m₁ news₁ → AllNe I ((l, PySem.W.listOf vs.toArray n0) :: news₁) → Fr h₀ env.locals h m₁ → News h₀ env.locals h ((I, io) :: (l, PySem.W.listOf vs.toArray n0) :: news₁) →
      wpAny (model prog w) A (assign (.Tuple elts xc tp) env v) (fun _ s₂ => wpC (model prog w) A (execs body env) (TurnPost h₀ env.locals (fun m' n' => ∃ n1, n' = (l, PySem.W.listOf vs.toArray n0) :: n1 ∧ J (i + 1) m' n1) I io Q' { s with heap := h, toks := tk }) E' s₂) E' { s with heap := h, toks := tk })
    (done : ∀ m₁ news₁ h tk, J vs.length m₁ news₁ → Fr h₀ env.locals h m₁ → News h₀ env.locals h ((l, PySem.W.listOf vs.toArray n0) :: news₁) → Q .next { s with heap := h, toks := tk })
    (hrefs : ∀ v ∈ vs, ∃ T, v = Value.ref T)
    (hE : PassesOwn (model prog w) A env E) :
    wpAny (model prog w) A (pyIter (.ref l)) (fun it s₂ => codeC (model prog w) A (.forLoop (.Tuple elts xc tp) it body [] env) (fun r s' => match r with | .ok f => Q f s' | .error e => cameBackBy (model prog w) A env E e s') s₂) E s := by
  refine for_ledP (vs := vs) (lo := PySem.W.listOf vs.toArray n0) (fun i m' n' => ∃ n1, n' = (l, PySem.W.listOf vs.toArray n0) :: n1 ∧ J i m' n1) hh ⟨n0, rfl⟩ (fun i m' n' h => ?_) F N ⟨_, rfl, h0⟩ (fun i v m₁ news₁ I io h tk hv hJ hI F₁ N₁ => ?_) (fun m₁ news₁ h tk hJ F₁ N₁ => ?_) hrefs hE
  · obtain ⟨n1, rfl, _⟩ := h; exact .head _
  · obtain ⟨n1, rfl, hJ⟩ := hJ
    exact turn Q E i v m₁ n1 I io h tk hv hJ hI F₁ N₁
  · obtain ⟨n1, rfl, hJ⟩ := hJ
    exact done m₁ n1 h tk hJ F₁ N₁
end
end Mine

end
section
open PySem PySem.W PyProof.Rows PySem.Calls PySem.Spec PySem.Builtin._datetime
set_option maxRecDepth 100000
set_option linter.unusedVariables false
namespace Mine
theorem before_T : ∀ k : Nat, k < 13 → 1 ≤ k → (([0, 31, 59, 90, 120, 151, 181, 212, 243, 273, 304, 334] : List Int)[((k : Int) - 1).toNat]?).getD 0 = dbmT k := by decide +kernel
theorem ordinal_eq {y m d : Int} (h : 1 ≤ m ∧ m ≤ 12) : toOrdinal y m d = first y m + d - 1 := by
  have hl : Builtin.Time.timeIsLeap y = leap y := by
    unfold Builtin.Time.timeIsLeap leap
    rfl
  have e : Builtin.Time.timeDaysBefore (leap y) m = dbm y m := by
    rw [dbm_eq h]
    unfold Builtin.Time.timeDaysBefore
    rw [monthN (P := fun m => (([0, 31, 59, 90, 120, 151, 181, 212, 243, 273, 304, 334] : List Int)[(m - 1).toNat]?).getD 0 = dbmT m) before_T h]
    by_cases c : 2 < m
    · cases q : leap y with
      | true => rw [lp_true q]; simp [c]
      | false => rw [lp_false q]; simp
    · simp [c]
  unfold toOrdinal
  rw [hl, first_eq h]
  dsimp only
  rw [e]
  unfold dby
  omega
structure MainF (n y m d q y0 : Int) : Prop where
  mk ::
  hk : 0 ≤ n.fmod 7 ∧ n.fmod 7 ≤ 6
  hm : 1 ≤ m ∧ m ≤ 12
  hyy : 0 ≤ y.fmod 100 ∧ y.fmod 100 ≤ 99
  hd : 1 ≤ d ∧ d ≤ 31
  hY : 1969 ≤ cent (y.fmod 100) ∧ cent (y.fmod 100) ≤ 2068
  hq : 0 ≤ q ∧ q < 4
  h0 : y0 = cent (y.fmod 100) - 200 + q * 100
  hv : Valid y0 m d
  hw : (first y0 m + d - 1).fmod 7 = (3 * n.fmod 7).fdiv 3
  ho : ∀ i : Nat, i < 4 → (i : Int) ≠ q → (first (cent (y.fmod 100) - 200 + (i : Int) * 100) m + d - 1).fmod 7 ≠ (3 * n.fmod 7).fdiv 3
  due : first y0 m + d - 1 = 645750 + (n - 645750).fmod 146097
  yr : y = y0 + (n - (645750 + (n - 645750).fmod 146097)).fdiv 146097 * 400
theorem main_facts {n y m d : Int} (v : Valid y m d) (f : first y m + d - 1 = n) : ∃ q y0, MainF n y m d q y0 := by
  have t := there_is v f
  obtain ⟨q, hq, h0⟩ := which t
  have hm : 1 ≤ m ∧ m ≤ 12 := ⟨v.m1, v.m2⟩
  have hdm := dim_rng (y := y) hm
  have hc := cent_rng (yy := y % 100) (by omega)
  have e100 : y.fmod 100 = y % 100 := fm100 y
  have e7 : ∀ a : Int, a.fmod 7 = a % 7 := fm7
  have e3 : (3 * n.fmod 7).fdiv 3 = n % 7 := by rw [Int.fdiv_eq_ediv_of_nonneg _ (by decide), e7]; omega
  have ed : 645750 + (n - 645750).fmod 146097 = dueN n := by rw [fm146097]; rfl
  refine ⟨q, y - 400 * far4 n, by rw [e7]; omega, hm, by rw [e100]; omega, ⟨v.d1, by have := v.d2; omega⟩, by rw [e100]; exact ⟨hc.1, hc.2.1⟩, by omega, by rw [e100]; exact h0, t.v, ?_, ?_, ?_, ?_⟩
  · rw [e3, e7, t.num, due7]
  · intro i hi hne
    rw [e3, e7, e100]
    exact only t hq h0 hi (fun e => hne (by rw [e]))
  · rw [ed]; exact t.num
  · rw [ed, fd146097]
    have h1 := (due_far n).1
    have : (n - dueN n) / 146097 = far4 n := by omega
    rw [this]
    omega
structure ClockF (c : Int) : Prop where
  mk ::
  hh : 0 ≤ c.fdiv 3600 ∧ c.fdiv 3600 ≤ 23
  hmi : 0 ≤ (c.fdiv 60).fmod 60 ∧ (c.fdiv 60).fmod 60 ≤ 59
  hs : 0 ≤ c.fmod 60 ∧ c.fmod 60 ≤ 59
  sum : c.fdiv 3600 * 3600 + (c.fdiv 60).fmod 60 * 60 + c.fmod 60 = c
theorem clock_facts {c : Int} (h : 0 ≤ c ∧ c < 86400) : ClockF c := by
  have e1 := fd3600 c
  have e2 := fd60 c
  have e3 := fm60 c
  have e4 := fm60 (c.fdiv 60)
  rw [e2] at e4
  refine ⟨by rw [e1]; omega, by rw [e2, e4]; omega, by rw [e3]; omega, ?_⟩
  rw [e1, e2, e4, e3]
  omega
theorem us_is {y m d h mi sc : Int} (v : Valid y m d) {D c : Int} (hD : first y m + d - 1 = 645750 + D) (hc : h * 3600 + mi * 60 + sc = c) : usOf y m d h mi sc - usOf 1769 1 1 0 0 0 = (D * 86400 + c) * 1000000 := by
  have e0 : usOf 1769 1 1 0 0 0 = 55792800000000000 := by decide +kernel
  have e1 : usPerSecond = 1000000 := rfl
  rw [e0]
  unfold usOf
  rw [ordinal_eq ⟨v.m1, v.m2⟩, hD, e1]
  omega
section
variable {prog : Program} {w : World} {A : Around} {E : Value → Shared → Prop} {s : Shared} {a b : Addr} {y m d h mi sc : Int} {K : Frag} {h₀ : Heap} {L : Addr} {mp : Str → Option Value} {news : List (Addr × Obj)}
/-- the fragment holds the name of the one zero -/
structure ZeroK (K : Frag) : Prop where
  mk ::
  out : ∃ o2, K.lookup 2 = some o2 ∧ nsLook (Str.ofString "datetime.timedelta.zero") o2 = pure (some (.ref 49))
theorem gapK {Q : Value → Shared → Prop} (F : Fr h₀ L s.heap mp) (N : News h₀ L s.heap news) (X : K.In h₀) (z : ZeroK K) (ha : (a, dtObj y m d h mi sc) ∈ news) (hb : (b, dtObj 1769 1 1 0 0 0) ∈ news) (v : Valid y m d) {D c : Int} (hD : first y m + d - 1 = 645750 + D) (h0 : 0 ≤ D ∧ D < 146097) (hc : h * 3600 + mi * 60 + sc = c) (h1 : 0 ≤ c ∧ c < 86400)
    (q0 : D = 0 → c = 0 → Q (.ref 49) s)
    (q1 : ∀ l h', Fr h₀ L h' mp → News h₀ L h' ((l, tdObj D c) :: news) → (∀ p ∈ news, p.1 < l) → Q (.ref l) { s with heap := h' }) :
    wpAny (model prog w) A (binaryOp .Sub (.ref a) (.ref b)) Q E s := by
  refine sub_dtK (N _ ha).1 (N _ hb).1 fun A => ?_
  rw [us_is v hD hc]
  by_cases e : D = 0 ∧ c = 0
  · obtain ⟨e1, e2⟩ := e
    have q := q0 e1 e2
    subst e1; subst e2
    obtain ⟨o2, hk, hn⟩ := z.out
    exact newDelta_zero (F.keep _ _ (X _ _ hk)) hn ⟨(fun z => by cases z), q⟩
  · refine newDelta_made (by omega) (by omega) (by omega) ⟨(fun z => by cases z), ?_⟩
    have e1 : (D * 86400 + c) * 1000000 / 86400000000 = D := by omega
    have e2 : (D * 86400 + c) * 1000000 % 86400000000 / 1000000 = c := by omega
    rw [e1, e2]
    exact q1 _ _ (F.push _) (News.push F N (tdObj D c)) fun p hp => Heap.lt_size (N p hp).1
theorem td49_days {ex : Bool} {Q : Value → Shared → Prop} (F : Fr h₀ L s.heap mp) (h49 : h₀.get? 49 = some (tdObj 0 0)) (hq : ∀ (t' : Tok) (k : Nat), Q (.int 0 t') { s with toks := k }) : wpAny (model prog w) A (getAttr (.ref 49) "days" ex) Q E s :=
  attr_td_days (F.keep _ _ h49) (hq _ _)
theorem td49_seconds {ex : Bool} {Q : Value → Shared → Prop} (F : Fr h₀ L s.heap mp) (h49 : h₀.get? 49 = some (tdObj 0 0)) (hq : ∀ (t' : Tok) (k : Nat), Q (.int 0 t') { s with toks := k }) : wpAny (model prog w) A (getAttr (.ref 49) "seconds" ex) Q E s :=
  attr_td_seconds (F.keep _ _ h49) (hq _ _)
end
section
variable {prog : Program} {w : World} {K : Frag} {d : Nat} {f : Addr} {args : List (Addr × Obj)} {vs : List Value} {p : Program} {loose : List Str} {mean : ExcName → Option Value} {mg mb : Str → Option Value} {dp un : Nat} {gd : Option (List Code)} {cn : Str} {cs : Scope} {a : Addr} {ccd : Value} {cl : List (Str × Addr)} {outer : List Env} {A₀ : Around} {base h₀ : Heap} {L : Addr} {m : Str → Option Value} {s : Shared} {Q E : Value → Shared → Prop} {news : List (Addr × Obj)}
/-- the answer is a text -/
theorem Fn.useX {P : List Nat → Prop} (C : Fn prog w K d f args vs (fun v new => new = [] ∧ ∃ (T : List Nat) (t : Tok), v = .str (tx T) t ∧ P T)) (B : Below A₀ base outer h₀) (F : Fr h₀ L s.heap m) (X : K.In h₀) (N : News h₀ L s.heap news) (T : Top p loose mean mg mb h₀) (hk : cs.kind = .function) (ha : ∀ q ∈ args, q ∈ news)
    (hd : dp + d < recursionLimit) (hu : un + 12 * d < cLine)
    (ret : ∀ T t h' tk', P T → Fr h₀ L h' m → News h₀ L h' news → Q (.str (tx T) t) { s with heap := h', toks := tk' }) :
    wpAny (model prog w) (ktrTop dp un gd cn cs L a ccd cl outer) (call (.ref f) vs) Q E s := by
  refine C p loose mean mg mb dp un gd cn cs a ccd cl outer A₀ base h₀ L m s Q E news B F X N T hk ha hd hu fun v new h' tk' F' N' hne ok => ?_
  obtain ⟨rfl, T, t, rfl, hP⟩ := ok
  exact ret T t h' tk' hP F' N'
/-- as topO, one object of the ledger handed over, three objects answered -/
theorem FnC.top3 {q : Addr × Obj} {O : Addr → Addr → Addr → Obj → Obj → Obj → Prop} (N : News h₀ L s.heap news) (hm : q ∈ news) (C : FnC prog w K d f [q] vs (fun v new => ∃ D x y, v = .ref D ∧ ∃ o1 o2 o3, new = [(D, o1), (x, o2), (y, o3)] ∧ O D x y o1 o2 o3)) (B : Below A₀ h₀ [] h₀) (F : Fr h₀ L s.heap m) (X : K.In h₀) (T : Top p loose mean mg mb h₀) (hk : cs.kind = .function)
    (hd : dp + d < recursionLimit) (hu : un + 12 * d < cLine)
    (ret : ∀ D x y o1 o2 o3 h' tk', O D x y o1 o2 o3 → Fr h₀ L h' m → News h₀ L h' ((D, o1) :: (x, o2) :: (y, o3) :: news) → AllNe D news → Q (.ref D) { s with heap := h', toks := tk' }) :
    wpC (model prog w) (ktrTop dp un gd cn cs L a ccd cl []) (call (.ref f) vs) Q E s := by
  refine C p loose mean mg mb dp un gd cn cs a ccd cl [] A₀ h₀ h₀ L m s Q E news B F X N T X T ktsDicts_nil hk (mem_one hm) hd hu fun h₀' v new h' tk' T' F' N' B' X' P' D' hne ok => ?_
  obtain ⟨D₁, x, y, rfl, o1, o2, o3, rfl, ho⟩ := ok
  exact ret D₁ x y o1 o2 o3 h' tk' ho ⟨F'.ns, fun b o e => F'.keep b o (turn_nil T' b o e), by rw [← T'.size]; exact F'.above⟩ (fun q hq => ⟨(N' q hq).1, (N' q hq).2.1, by
      cases z : h₀.get? q.1 with
      | none => rfl
      | some o => have := (N' q hq).2.2; rw [turn_nil T' _ _ z] at this; cases this⟩) (allNe_intro fun q hq => hne _ (.head _) q hq)
end
section
variable {prog : Program} {w : World} {A : Around} {E : Value → Shared → Prop} {s : Shared}
theorem applied_a {sl : Addr} {a n : Nat} {u : Tok} {Q : Int × Int × Nat → Shared → Prop} (hs : s.heap.IsSliceOf sl (.int a u) .none .none) (ha : a ≤ n) (h : Q ((a : Int), 1, n - a) s) :
    wpAny (model prog w) A (Builtin.Slice.sliceApplied (.ref sl) (pure (n : Int))) Q E s := by
  obtain ⟨os, hos, hcs, hds⟩ := id hs
  unfold Builtin.Slice.sliceApplied Builtin.Slice.sliceFields
  refine wpAny_bind (wpAny_bind (wpAny_field hos hds (x := .int a u) rfl (wpAny_bind (wpAny_field hos hds (x := .none) rfl (wpAny_bind (wpAny_field hos hds (x := .none) rfl (wpAny_pure ?_)))))))
  refine wpAny_bind (slicePart_none ?_)
  show wpAny _ _ (if ((1 : Int) == 0) = true then _ else _) _ _ s
  rw [if_neg (by decide)]
  refine wpAny_bind (slicePart_int (wpAny_bind (slicePart_none (wpAny_bind (wpAny_pure ?_)))))
  show wpAny _ _ (match Builtin.Slice.sliceAdjust (some (a : Int)) none 1 (n : Int) with | (lo, hi) => pure (lo, (1 : Int), Builtin.Slice.slicePlaces lo hi 1)) _ _ s
  rw [show Builtin.Slice.sliceAdjust (some (a : Int)) none 1 (n : Int) = ((a : Int), (n : Int)) from by
    unfold Builtin.Slice.sliceAdjust
    have h1 : ¬ ((1 : Int) < 0) := by omega
    have h2 : ¬ ((a : Int) < 0) := by omega
    simp only [h1, h2, if_false]
    congr 1 <;> omega]
  show wpAny _ _ (pure ((a : Int), (1 : Int), Builtin.Slice.slicePlaces (a : Int) (n : Int) 1)) _ _ s
  rw [places_ab a n ha]
  exact wpAny_pure h
variable {h₀ : Heap} {L : Addr} {m : Str → Option Value} {news : List (Addr × Obj)} {value slice : PySem.Expr} {t : Addr} {items : Array Value} {a : Nat} {u v : Tok} {Q : Value → Shared → Prop} {its : List Value}
theorem tup_a (F : Fr h₀ L s.heap m) (N : News h₀ L s.heap news) (ht : IsTup s.heap t items) (ha : a ≤ items.size) (hb' : items.size - a < items.size)
    (hi : ((List.range (items.size - a)).filterMap fun (k : Nat) => items[a + k]?) = its)
    (h : ∀ D h', Fr h₀ L h' m → News h₀ L h' ((D, { cls := .type "tuple", data := .seq its.toArray }) :: news) → (∀ p ∈ news, p.1 < D) → Q (.ref D) { s with heap := h' })
    (hs : subscripted slice false (.ref t) (.ref s.heap.objs.size) = operate [.ref s.heap.objs.size, .ref t] (getItem (.ref t) (.ref s.heap.objs.size)))
    (hg : ∀ r, letTemporaryGo value (.ref t) r = pure ())
    (hsz : its.length ≤ sizeLine) :
    wpAny (model prog w) A (subscriptTail value slice (.ref t) (.ref s.heap.objs.size)) Q E { s with heap := s.heap.push { cls := .type "slice", data := .fields #[.int a u, .none, .none] } } := by
  have ht' : IsTup (s.heap.push { cls := .type "slice", data := .fields #[.int a u, .none, .none] }) t items := ht.keeps fun _ _ e => Heap.get?_push_of_some _ e
  refine subscriptTail_ops (s := { s with heap := s.heap.push { cls := .type "slice", data := .fields #[.int a u, .none, .none] } }) ht'.typeIs slot_tuple_getitem.lookup
    (getItem_tup (a := a) (b := items.size) (its := its) ht' (Heap.IsSliceOf.new ..) (fun _ _ _ _ _ hq => applied_a (Heap.IsSliceOf.new ..) ha hq) hb' ?_ ?_ hsz) hs hg
  · rw [← hi]
    have e : (fun (k : Nat) => items[((a : Int) + (k : Int) * 1).toNat]?) = fun k => items[a + k]? := by
      funext k
      have : ((a : Int) + (k : Int) * 1).toNat = a + k := by omega
      rw [this]
    rw [e]
  · have N1 := News.push (F.push { cls := .type "slice", data := .fields #[.int a u, .none, .none] }) (N.grown fun _ _ e => Heap.get?_push_of_some _ e) { cls := .type "tuple", data := .seq its.toArray }
    rw [Heap.size_push] at N1
    show Q (.ref (s.heap.push _).objs.size) _
    rw [Heap.size_push]
    exact h _ _ ((F.push _).push _) N1 fun p hp => Nat.lt_succ_of_lt (Heap.lt_size (N p hp).1)
end
/-- a tuple from its second place on -/
theorem pick9_1 {v1 v2 v3 v4 v5 v6 v7 v8 v9 : Value} : ((List.range ((#[v1, v2, v3, v4, v5, v6, v7, v8, v9] : Array Value).size - 1)).filterMap fun (k : Nat) => (#[v1, v2, v3, v4, v5, v6, v7, v8, v9] : Array Value)[1 + k]?) = [v2, v3, v4, v5, v6, v7, v8, v9] := rfl
theorem cat93 {v1 v2 v3 v4 v5 v6 v7 v8 v9 u1 u2 u3 : Value} : (#[v1, v2, v3, v4, v5, v6, v7, v8, v9] : Array PySem.Value).toList ++ (#[u1, u2, u3] : Array PySem.Value).toList = [v1, v2, v3, v4, v5, v6, v7, v8, v9, u1, u2, u3] := rfl
end Mine

end
local macro_rules | `(tactic| k_all) => `(tactic| first
  | (with_reducible refine Mine.allNe_of_lt ?_; with_reducible assumption)
  | (with_reducible refine Mine.allNe_of_allLt ?_; with_reducible assumption)
  | (with_reducible refine Mine.AllNe.mem ?_; with_reducible assumption)
  | exact List.forall_mem_nil _
  | (refine' List.forall_mem_cons.mpr ⟨?a, ?b⟩; (case a => k_ne); (case b => k_all)))
local macro_rules | `(tactic| k_ne) => `(tactic| (refine PySem.W.neN ?_; (try dsimp only); first | (with_reducible refine Mine.NeA.out ?_; with_reducible assumption) | (with_reducible refine Ne.symm (Mine.NeA.out ?_); with_reducible assumption) | omega))
local macro_rules | `(tactic| walk_at "fn:args") => `(tactic| exact PySem.W.SubL.mem (by k_subL))
local macro_rules | `(tactic| walk_at "fn:end") => `(tactic| (repeat (first | k_unfold | dsimp only)))
local macro_rules | `(tactic| walk_at "fn:int") => `(tactic| (walk_at "fn:end"; k_dflt (refine' Mine.leaveF_int ?F ?N ?ha ?e; (case F => k_asm); (case N => k_asm); (case ha => walk_at "fn:args"))))
local macro_rules | `(tactic| walk_at "fn:bool") => `(tactic| (walk_at "fn:end"; k_dflt (refine' Mine.leaveF_bool ?F ?N ?ha ?e; (case F => k_asm); (case N => k_asm); (case ha => walk_at "fn:args"))))
local macro_rules | `(tactic| walk_at "fn:str") => `(tactic| (walk_at "fn:end"; k_dflt (refine' Mine.leaveF_str ?F ?N ?ha ?e; (case F => k_asm); (case N => k_asm); (case ha => walk_at "fn:args"))))
local macro_rules | `(tactic| walk_at "fn:obj") => `(tactic| (walk_at "fn:end"; k_dflt (refine' Mine.leaveF_obj ?F ?N ?ha ?hm ?hne ?e; (case F => k_asm); (case N => k_asm); (case ha => walk_at "fn:args"); (case hm => k_mem); (case hne => k_all))))
local macro_rules | `(tactic| walk_at "fnC:obj") => `(tactic| (walk_at "fn:end"; k_dflt (refine' Mine.leaveT_obj ?T ?F ?N ?ha ?hm ?hne ?e; (case F => k_asm); (case N => k_asm); (case T => first | assumption | exact PySem.W.KtsTurn.refl); (case ha => walk_at "fn:args"); (case hm => k_mem); (case hne => k_all))))
local macro_rules | `(tactic| walk_at "fnC:two") => `(tactic| (walk_at "fn:end"; k_dflt (refine' Mine.leaveT_two ?T ?F ?N ?ha ?hm ?hm2 ?hne ?hne2 ?e; (case F => k_asm); (case N => k_asm); (case T => first | assumption | exact PySem.W.KtsTurn.refl); (case ha => walk_at "fn:args"); (case hm => k_mem); (case e => exact ⟨_, rfl, rfl⟩); (case hm2 => k_mem); (case hne => k_all); (case hne2 => k_all))))
section
open PySem PySem.W PyProof.Rows PySem.Calls PySem.Spec
set_option Elab.async false
namespace Mine
section
set_option maxRecDepth 100000
set_option maxHeartbeats 8000000
theorem filled_CalC : PySem.Challenge.rw_kl0450_01 = PySem.Challenge.rw_kl0450_01 ∧ ∀ P, Mine.hd.heap_1 P = Mine.hd.heap_1 P := by
  k_fill
  exact ⟨rfl, fun _ => rfl⟩
theorem words_CalC_01_0 : True := by
  k_with_none
  w_top off
  k_with "body" => ((
  refine Wrap.mk ?_
  intro zzF' zzN' zzB' zzX' zzT' zzhk zzhd zzhu
  (try dsimp only)
  (try k_lift zzB')
  (try k_fold)))
  k_with "idx" => (first | omega | (simp only [fm12]; omega) | (simp only [fd32, fd4, fd100, fd400, fd365, fd1461, fd36524, fd146097, fm365, fm1461, fm36524, fm146097, dbmT]; omega) | (rename ((_ : Int) < dbmT _ + _) => hx9; simp only [dbmT, fd32] at hx9 ⊢; omega))
  k_with "ediv" => (simp only [fd4, fd5, fd7, fd12, fd60, fd100, fd400, fd365, fd1461, fd3600, fd36524, fd86400, fd146097, fm4, fm7, fm12, fm60, fm100, fm365, fm400, fm1461, fm36524, fm86400, fm146097] at *)
  k_with "wpC" => (first
  | with_reducible refine wpC_cons ?_
  | with_reducible refine wpC_nil ?_)
  k_with "ite" => ((k_here; first
  | (k_closed; k_dflt (first | refine ite_pos (by decide) ?_ | refine ite_neg (by decide) ?_))
  | refine ite_pos (by with_reducible assumption) ?_
  | refine ite_neg (by with_reducible assumption) ?_
  | refine ite_isFalse (by with_reducible assumption) ?_
  | refine ite_pos (by k_dec) ?_
  | refine ite_neg (by k_dec) ?_))
  k_with "step" => (first | (k_unfold; (try dsimp only)) | (k_end; wrow_close) | ((with_reducible guard_target = wpAny _ _ (newTuple _) _ _ _); dsimp only; walk1) | walk1 | (dsimp only; walk1) | (leave1; try dsimp only))
  k_with "bodyT" => ((
  refine Wrap.mk ?_
  intro zzF' zzN' zzB' zzX' zzT' zzXB' zzTB' zzD' zzhk zzhd zzhu
  (try dsimp only)
  (try k_lift zzB')
  (try k_fold)))
  k_with "bodyC" => ((
  refine Wrap.mk ?_
  intro zzF' zzN' zzB' zzX' zzT' zzXB' zzTB' zzD' zzhk zzhd zzhu
  (try dsimp only)
  (try k_lift zzB')))
  trivial
noncomputable def G_leap (z : Dat) (y : Int) (ty : Tok) : Prop := Wrap (FnB z PySem.Challenge.rw_kl0450_01.row.prog (Mine.hd.heap_1 z.w.params) 1 111 [] [.int y ty] (fun v new => new = [] ∧ ∃ _t : Tok, v = .bool (leap y)) (by k_is) (by exact BindsTo.of_eq rfl))
namespace D_leap
noncomputable def zG (zt : Dat × Int × Tok) : Prop := G_leap (zt.1) (zt.2.1) (zt.2.2)
noncomputable def zt : Dat × Int × Tok := haveI : Nonempty Dat := dat_some PySem.Challenge.rw_kl0450_01.row.prog; sk zG
@[irreducible] noncomputable def z : Dat := zt.1
theorem z_def : z = zt.1 := by with_unfolding_all rfl
@[irreducible] noncomputable def y : Int := zt.2.1
theorem y_def : y = zt.2.1 := by with_unfolding_all rfl
@[irreducible] noncomputable def ty : Tok := zt.2.2
theorem ty_def : ty = zt.2.2 := by with_unfolding_all rfl
theorem main : G_leap z y ty := by
  refine Wrap.mk ?_
  walk_at "body"
  k_with "run:c_leap" => (
    (try dsimp +zetaDelta only)
    as_aux_lemma =>
      walk_at "step"
      all_goals (repeat' ((fail_if_success (with_reducible guard_target = wpAny _ _ (execs (List.cons _ _) _) _ _ _)); walk_at "step"))
      all_goals (first | ((with_reducible guard_target = wpAny _ _ (execs (List.cons _ _) _) _ _ _); k_extra "run:c_leap") | k_extra "tail:c_leap"))
  k_with "tail:c_leap" => (
  all_goals walk_at "fn:bool"
  all_goals (unfold leap; walk_at "ediv"; simp_all; try rfl))
  all_goals (first | ((with_reducible guard_target = wpAny _ _ (execs (List.cons _ _) _) _ _ _); k_extra "run:c_leap") | k_extra "tail:c_leap")
theorem main' : zG zt := by
  have q := main
  rw [z_def, y_def, ty_def] at q
  exact q
theorem all (z : Dat) (y : Int) (ty : Tok) : G_leap z y ty := haveI : Nonempty Dat := dat_some PySem.Challenge.rw_kl0450_01.row.prog; sk_all (G := zG) main' (z, y, ty)
end D_leap
theorem c_leap (w : World) (y : Int) (ty : Tok) : Fn PySem.Challenge.rw_kl0450_01.row.prog w (Mine.hd.heap_1 w.params) 1 111 [] [.int y ty] (fun v new => new = [] ∧ ∃ _t : Tok, v = .bool (leap y)) := by
  refine' Fn.of_B ?ho ?hb ?h ?hcd ?hl ?h0 ?h1 ?h2 ?h3 ?h4
  case ho => k_is
  case hb => exact fun _ => BindsTo.of_eq rfl
  case hcd => k_is
  case hl => exact locs rfl
  case h0 => decide
  case h1 => exact rfl
  case h2 => exact rfl
  case h3 => exact rfl
  case h4 => decide
  case h =>
    intro z hz
    subst hz
    exact Wrap.out (D_leap.all z y ty) 
noncomputable def G_dby (z : Dat) (y : Int) (ty : Tok) : Prop := Wrap (FnB z PySem.Challenge.rw_kl0450_01.row.prog (Mine.hd.heap_1 z.w.params) 1 118 [] [.int y ty] (fun v new => new = [] ∧ ∃ t : Tok, v = .int (dby y) t) (by k_is) (by exact BindsTo.of_eq rfl))
namespace D_dby
noncomputable def zG (zt : Dat × Int × Tok) : Prop := G_dby (zt.1) (zt.2.1) (zt.2.2)
noncomputable def zt : Dat × Int × Tok := haveI : Nonempty Dat := dat_some PySem.Challenge.rw_kl0450_01.row.prog; sk zG
@[irreducible] noncomputable def z : Dat := zt.1
theorem z_def : z = zt.1 := by with_unfolding_all rfl
@[irreducible] noncomputable def y : Int := zt.2.1
theorem y_def : y = zt.2.1 := by with_unfolding_all rfl
@[irreducible] noncomputable def ty : Tok := zt.2.2
theorem ty_def : ty = zt.2.2 := by with_unfolding_all rfl
theorem main : G_dby z y ty := by
  refine Wrap.mk ?_
  walk_at "body"
  k_with "run:c_dby" => (
    (try dsimp +zetaDelta only)
    as_aux_lemma =>
      walk_at "step"
      all_goals (repeat' ((fail_if_success (with_reducible guard_target = wpAny _ _ (execs (List.cons _ _) _) _ _ _)); walk_at "step"))
      all_goals (first | ((with_reducible guard_target = wpAny _ _ (execs (List.cons _ _) _) _ _ _); k_extra "run:c_dby") | k_extra "tail:c_dby"))
  k_with "tail:c_dby" => (
  all_goals walk_at "fn:int"
  all_goals (unfold dby; walk_at "ediv"))
  all_goals (first | ((with_reducible guard_target = wpAny _ _ (execs (List.cons _ _) _) _ _ _); k_extra "run:c_dby") | k_extra "tail:c_dby")
theorem main' : zG zt := by
  have q := main
  rw [z_def, y_def, ty_def] at q
  exact q
theorem all (z : Dat) (y : Int) (ty : Tok) : G_dby z y ty := haveI : Nonempty Dat := dat_some PySem.Challenge.rw_kl0450_01.row.prog; sk_all (G := zG) main' (z, y, ty)
end D_dby
theorem c_dby (w : World) (y : Int) (ty : Tok) : Fn PySem.Challenge.rw_kl0450_01.row.prog w (Mine.hd.heap_1 w.params) 1 118 [] [.int y ty] (fun v new => new = [] ∧ ∃ t : Tok, v = .int (dby y) t) := by
  refine' Fn.of_B ?ho ?hb ?h ?hcd ?hl ?h0 ?h1 ?h2 ?h3 ?h4
  case ho => k_is
  case hb => exact fun _ => BindsTo.of_eq rfl
  case hcd => k_is
  case hl => exact locs rfl
  case h0 => decide
  case h1 => exact rfl
  case h2 => exact rfl
  case h3 => exact rfl
  case h4 => decide
  case h =>
    intro z hz
    subst hz
    exact Wrap.out (D_dby.all z y ty) 
noncomputable def G_first (z : Dat) (y : Int) (m : Int) (ty : Tok) (tm : Tok) : Prop := Wrap (FnB z PySem.Challenge.rw_kl0450_01.row.prog (Mine.hd.heap_1 z.w.params) 1 163 [] [.int y ty, .int m tm] (fun v new => new = [] ∧ ∃ t : Tok, v = .int (first y m) t) (by k_is) (by exact BindsTo.of_eq rfl))
namespace D_first
noncomputable def zG (zt : Dat × Int × Int × Tok × Tok) : Prop := G_first (zt.1) (zt.2.1) (zt.2.2.1) (zt.2.2.2.1) (zt.2.2.2.2)
noncomputable def zt : Dat × Int × Int × Tok × Tok := haveI : Nonempty Dat := dat_some PySem.Challenge.rw_kl0450_01.row.prog; sk zG
@[irreducible] noncomputable def z : Dat := zt.1
theorem z_def : z = zt.1 := by with_unfolding_all rfl
@[irreducible] noncomputable def y : Int := zt.2.1
theorem y_def : y = zt.2.1 := by with_unfolding_all rfl
@[irreducible] noncomputable def m : Int := zt.2.2.1
theorem m_def : m = zt.2.2.1 := by with_unfolding_all rfl
@[irreducible] noncomputable def ty : Tok := zt.2.2.2.1
theorem ty_def : ty = zt.2.2.2.1 := by with_unfolding_all rfl
@[irreducible] noncomputable def tm : Tok := zt.2.2.2.2
theorem tm_def : tm = zt.2.2.2.2 := by with_unfolding_all rfl
theorem main : G_first z y m ty tm := by
  refine Wrap.mk ?_
  walk_at "body"
  k_with "run:c_first" => (
    (try dsimp +zetaDelta only)
    as_aux_lemma =>
      walk_at "step"
      all_goals (repeat' ((fail_if_success (with_reducible guard_target = wpAny _ _ (execs (List.cons _ _) _) _ _ _)); walk_at "step"))
      all_goals (first | ((with_reducible guard_target = wpAny _ _ (execs (List.cons _ _) _) _ _ _); k_extra "run:c_first") | k_extra "tail:c_first"))
  k_with "tail:c_first" => (
  all_goals walk_at "fn:int"
  all_goals (unfold first; walk_at "ediv"))
  all_goals (first | ((with_reducible guard_target = wpAny _ _ (execs (List.cons _ _) _) _ _ _); k_extra "run:c_first") | k_extra "tail:c_first")
theorem main' : zG zt := by
  have q := main
  rw [z_def, y_def, m_def, ty_def, tm_def] at q
  exact q
theorem all (z : Dat) (y : Int) (m : Int) (ty : Tok) (tm : Tok) : G_first z y m ty tm := haveI : Nonempty Dat := dat_some PySem.Challenge.rw_kl0450_01.row.prog; sk_all (G := zG) main' (z, y, m, ty, tm)
end D_first
theorem c_first (w : World) (y m : Int) (ty tm : Tok) : Fn PySem.Challenge.rw_kl0450_01.row.prog w (Mine.hd.heap_1 w.params) 1 163 [] [.int y ty, .int m tm] (fun v new => new = [] ∧ ∃ t : Tok, v = .int (first y m) t) := by
  refine' Fn.of_B ?ho ?hb ?h ?hcd ?hl ?h0 ?h1 ?h2 ?h3 ?h4
  case ho => k_is
  case hb => exact fun _ => BindsTo.of_eq rfl
  case hcd => k_is
  case hl => exact locs rfl
  case h0 => decide
  case h1 => exact rfl
  case h2 => exact rfl
  case h3 => exact rfl
  case h4 => decide
  case h =>
    intro z hz
    subst hz
    exact Wrap.out (D_first.all z y m ty tm) 
theorem words_CalC_01_1 : True := by
  k_with "call ref" => ((k_here; (with_reducible show wpAny _ _ (call (Value.ref 111) _) _ _ _); k_dflt (refine' Fn.useV (c_leap _ _ _) (by k_asm) (by k_asm) (by k_asm) (by k_asm) (by k_asm) (by first | exact rfl | assumption) (by walk_at "fn:args") (by ktr_room) (by ktr_units) ?_); intro t9 h9 tk9 F9 N9; (try dsimp only); (try k_fold)))
  k_with "call ref" => ((k_here; (with_reducible show wpAny _ _ (call (Value.ref 118) _) _ _ _); k_dflt (refine' Fn.useV (c_dby _ _ _) (by k_asm) (by k_asm) (by k_asm) (by k_asm) (by k_asm) (by first | exact rfl | assumption) (by walk_at "fn:args") (by ktr_room) (by ktr_units) ?_); intro t9 h9 tk9 F9 N9; (try dsimp only); (try k_fold)))
  k_with "subscriptTail" => ((k_here; (with_reducible show wpAny _ _ (subscriptTail _ _ (Value.ref 98) (Value.int _ _)) _ _ _); k_dflt (refine' item_tabK dimT 1 12 (by k_asm) (by k_asm) (by k_is) (by decide +kernel) (by decide) (by walk_at "idx") (by walk_at "idx") (by decide) ?_ (by with_unfolding_all rfl); k_whole; intro t9; (try dsimp only); (try k_fold))))
  k_with "subscriptTail" => ((k_here; (with_reducible show wpAny _ _ (subscriptTail _ _ (Value.ref 99) (Value.int _ _)) _ _ _); k_dflt (refine' item_tabK dbmT 1 12 (by k_asm) (by k_asm) (by k_is) (by decide +kernel) (by decide) (by walk_at "idx") (by walk_at "idx") (by decide) ?_ (by with_unfolding_all rfl); k_whole; intro t9; (try dsimp only); (try k_fold))))
  trivial
noncomputable def G_dim (z : Dat) (y : Int) (m : Int) (ty : Tok) (tm : Tok) : Prop := Wrap ((1 ≤ m ∧ m ≤ 12) → FnB z PySem.Challenge.rw_kl0450_01.row.prog (Mine.hd.heap_1 z.w.params) 2 125 [] [.int y ty, .int m tm] (fun v new => new = [] ∧ ∃ t : Tok, v = .int (dim y m) t) (by k_is) (by exact BindsTo.of_eq rfl))
namespace D_dim
noncomputable def zG (zt : Dat × Int × Int × Tok × Tok) : Prop := G_dim (zt.1) (zt.2.1) (zt.2.2.1) (zt.2.2.2.1) (zt.2.2.2.2)
noncomputable def zt : Dat × Int × Int × Tok × Tok := haveI : Nonempty Dat := dat_some PySem.Challenge.rw_kl0450_01.row.prog; sk zG
@[irreducible] noncomputable def z : Dat := zt.1
theorem z_def : z = zt.1 := by with_unfolding_all rfl
@[irreducible] noncomputable def y : Int := zt.2.1
theorem y_def : y = zt.2.1 := by with_unfolding_all rfl
@[irreducible] noncomputable def m : Int := zt.2.2.1
theorem m_def : m = zt.2.2.1 := by with_unfolding_all rfl
@[irreducible] noncomputable def ty : Tok := zt.2.2.2.1
theorem ty_def : ty = zt.2.2.2.1 := by with_unfolding_all rfl
@[irreducible] noncomputable def tm : Tok := zt.2.2.2.2
theorem tm_def : tm = zt.2.2.2.2 := by with_unfolding_all rfl
theorem main : G_dim z y m ty tm := by
  refine Wrap.mk ?_
  intro hm
  walk_at "body"
  k_with "run:c_dim" => (
    (try dsimp +zetaDelta only)
    as_aux_lemma =>
      walk_at "step"
      all_goals (repeat' ((fail_if_success (with_reducible guard_target = wpAny _ _ (execs (List.cons _ _) _) _ _ _)); walk_at "step"))
      all_goals (first | ((with_reducible guard_target = wpAny _ _ (execs (List.cons _ _) _) _ _ _); k_extra "run:c_dim") | k_extra "tail:c_dim"))
  k_with "tail:c_dim" => (
  all_goals walk_at "fn:int"
  all_goals (rw [dim_eq hm])
  all_goals (first | (rw [lp_true (by assumption)]; simp [*, dimT]; done) | (rw [lp_false (by assumption)]; simp [*, dimT]; done) | (simp [*]; done)))
  all_goals (first | ((with_reducible guard_target = wpAny _ _ (execs (List.cons _ _) _) _ _ _); k_extra "run:c_dim") | k_extra "tail:c_dim")
theorem main' : zG zt := by
  have q := main
  rw [z_def, y_def, m_def, ty_def, tm_def] at q
  exact q
theorem all (z : Dat) (y : Int) (m : Int) (ty : Tok) (tm : Tok) : G_dim z y m ty tm := haveI : Nonempty Dat := dat_some PySem.Challenge.rw_kl0450_01.row.prog; sk_all (G := zG) main' (z, y, m, ty, tm)
end D_dim
theorem c_dim (w : World) (y m : Int) (ty tm : Tok) (hm : 1 ≤ m ∧ m ≤ 12) : Fn PySem.Challenge.rw_kl0450_01.row.prog w (Mine.hd.heap_1 w.params) 2 125 [] [.int y ty, .int m tm] (fun v new => new = [] ∧ ∃ t : Tok, v = .int (dim y m) t) := by
  refine' Fn.of_B ?ho ?hb ?h ?hcd ?hl ?h0 ?h1 ?h2 ?h3 ?h4
  case ho => k_is
  case hb => exact fun _ => BindsTo.of_eq rfl
  case hcd => k_is
  case hl => exact locs rfl
  case h0 => decide
  case h1 => exact rfl
  case h2 => exact rfl
  case h3 => exact rfl
  case h4 => decide
  case h =>
    intro z hz
    subst hz
    exact Wrap.out (D_dim.all z y m ty tm) hm
noncomputable def G_dbm (z : Dat) (y : Int) (m : Int) (ty : Tok) (tm : Tok) : Prop := Wrap ((1 ≤ m ∧ m ≤ 12) → FnB z PySem.Challenge.rw_kl0450_01.row.prog (Mine.hd.heap_1 z.w.params) 2 132 [] [.int y ty, .int m tm] (fun v new => new = [] ∧ ∃ t : Tok, v = .int (dbm y m) t) (by k_is) (by exact BindsTo.of_eq rfl))
namespace D_dbm
noncomputable def zG (zt : Dat × Int × Int × Tok × Tok) : Prop := G_dbm (zt.1) (zt.2.1) (zt.2.2.1) (zt.2.2.2.1) (zt.2.2.2.2)
noncomputable def zt : Dat × Int × Int × Tok × Tok := haveI : Nonempty Dat := dat_some PySem.Challenge.rw_kl0450_01.row.prog; sk zG
@[irreducible] noncomputable def z : Dat := zt.1
theorem z_def : z = zt.1 := by with_unfolding_all rfl
@[irreducible] noncomputable def y : Int := zt.2.1
theorem y_def : y = zt.2.1 := by with_unfolding_all rfl
@[irreducible] noncomputable def m : Int := zt.2.2.1
theorem m_def : m = zt.2.2.1 := by with_unfolding_all rfl
@[irreducible] noncomputable def ty : Tok := zt.2.2.2.1
theorem ty_def : ty = zt.2.2.2.1 := by with_unfolding_all rfl
@[irreducible] noncomputable def tm : Tok := zt.2.2.2.2
theorem tm_def : tm = zt.2.2.2.2 := by with_unfolding_all rfl
theorem main : G_dbm z y m ty tm := by
  refine Wrap.mk ?_
  intro hm
  walk_at "body"
  k_with "run:c_dbm" => (
    (try dsimp +zetaDelta only)
    as_aux_lemma =>
      walk_at "step"
      all_goals (repeat' ((fail_if_success (with_reducible guard_target = wpAny _ _ (execs (List.cons _ _) _) _ _ _)); walk_at "step"))
      all_goals (first | ((with_reducible guard_target = wpAny _ _ (execs (List.cons _ _) _) _ _ _); k_extra "run:c_dbm") | k_extra "tail:c_dbm"))
  k_with "tail:c_dbm" => (
  all_goals walk_at "fn:int"
  all_goals (rw [dbm_eq hm])
  all_goals (first | (rw [← lp_of]; simp [*]; done) | (simp [*]; done)))
  all_goals (first | ((with_reducible guard_target = wpAny _ _ (execs (List.cons _ _) _) _ _ _); k_extra "run:c_dbm") | k_extra "tail:c_dbm")
theorem main' : zG zt := by
  have q := main
  rw [z_def, y_def, m_def, ty_def, tm_def] at q
  exact q
theorem all (z : Dat) (y : Int) (m : Int) (ty : Tok) (tm : Tok) : G_dbm z y m ty tm := haveI : Nonempty Dat := dat_some PySem.Challenge.rw_kl0450_01.row.prog; sk_all (G := zG) main' (z, y, m, ty, tm)
end D_dbm
theorem c_dbm (w : World) (y m : Int) (ty tm : Tok) (hm : 1 ≤ m ∧ m ≤ 12) : Fn PySem.Challenge.rw_kl0450_01.row.prog w (Mine.hd.heap_1 w.params) 2 132 [] [.int y ty, .int m tm] (fun v new => new = [] ∧ ∃ t : Tok, v = .int (dbm y m) t) := by
  refine' Fn.of_B ?ho ?hb ?h ?hcd ?hl ?h0 ?h1 ?h2 ?h3 ?h4
  case ho => k_is
  case hb => exact fun _ => BindsTo.of_eq rfl
  case hcd => k_is
  case hl => exact locs rfl
  case h0 => decide
  case h1 => exact rfl
  case h2 => exact rfl
  case h3 => exact rfl
  case h4 => decide
  case h =>
    intro z hz
    subst hz
    exact Wrap.out (D_dbm.all z y m ty tm) hm
theorem words_CalC_01_2 : True := by
  k_with "call ref" => ((k_here; (with_reducible show wpAny _ _ (call (Value.ref 125) _) _ _ _); k_dflt (refine' Fn.useV (c_dim _ _ _ _ _ (by exact ⟨by walk_at "idx", by walk_at "idx"⟩)) (by k_asm) (by k_asm) (by k_asm) (by k_asm) (by k_asm) (by first | exact rfl | assumption) (by walk_at "fn:args") (by ktr_room) (by ktr_units) ?_); intro t9 h9 tk9 F9 N9; (try dsimp only); (try k_fold)))
  k_with "call ref" => ((k_here; (with_reducible show wpAny _ _ (call (Value.ref 132) _) _ _ _); k_dflt (refine' Fn.useV (c_dbm _ _ _ _ _ (by exact ⟨by walk_at "idx", by walk_at "idx"⟩)) (by k_asm) (by k_asm) (by k_asm) (by k_asm) (by k_asm) (by first | exact rfl | assumption) (by walk_at "fn:args") (by ktr_room) (by ktr_units) ?_); intro t9 h9 tk9 F9 N9; (try dsimp only); (try k_fold)))
  trivial
noncomputable def G_ymd (z : Dat) (y : Int) (m : Int) (d : Int) (ty : Tok) (tm : Tok) (td : Tok) : Prop := Wrap ((Valid y m d) → FnB z PySem.Challenge.rw_kl0450_01.row.prog (Mine.hd.heap_1 z.w.params) 3 139 [] [.int y ty, .int m tm, .int d td] (fun v new => new = [] ∧ ∃ t : Tok, v = .int (first y m + d - 1) t) (by k_is) (by exact BindsTo.of_eq rfl))
namespace D_ymd
noncomputable def zG (zt : Dat × Int × Int × Int × Tok × Tok × Tok) : Prop := G_ymd (zt.1) (zt.2.1) (zt.2.2.1) (zt.2.2.2.1) (zt.2.2.2.2.1) (zt.2.2.2.2.2.1) (zt.2.2.2.2.2.2)
noncomputable def zt : Dat × Int × Int × Int × Tok × Tok × Tok := haveI : Nonempty Dat := dat_some PySem.Challenge.rw_kl0450_01.row.prog; sk zG
@[irreducible] noncomputable def z : Dat := zt.1
theorem z_def : z = zt.1 := by with_unfolding_all rfl
@[irreducible] noncomputable def y : Int := zt.2.1
theorem y_def : y = zt.2.1 := by with_unfolding_all rfl
@[irreducible] noncomputable def m : Int := zt.2.2.1
theorem m_def : m = zt.2.2.1 := by with_unfolding_all rfl
@[irreducible] noncomputable def d : Int := zt.2.2.2.1
theorem d_def : d = zt.2.2.2.1 := by with_unfolding_all rfl
@[irreducible] noncomputable def ty : Tok := zt.2.2.2.2.1
theorem ty_def : ty = zt.2.2.2.2.1 := by with_unfolding_all rfl
@[irreducible] noncomputable def tm : Tok := zt.2.2.2.2.2.1
theorem tm_def : tm = zt.2.2.2.2.2.1 := by with_unfolding_all rfl
@[irreducible] noncomputable def td : Tok := zt.2.2.2.2.2.2
theorem td_def : td = zt.2.2.2.2.2.2 := by with_unfolding_all rfl
theorem main : G_ymd z y m d ty tm td := by
  refine Wrap.mk ?_
  intro v
  have hv := v; obtain ⟨hv1, hv2, hv3, hv4⟩ := hv
  walk_at "body"
  k_with "run:c_ymd" => (
    (try dsimp +zetaDelta only)
    as_aux_lemma =>
      walk_at "step"
      all_goals (repeat' ((fail_if_success (with_reducible guard_target = wpAny _ _ (execs (List.cons _ _) _) _ _ _)); walk_at "step"))
      all_goals (first | ((with_reducible guard_target = wpAny _ _ (execs (List.cons _ _) _) _ _ _); k_extra "run:c_ymd") | k_extra "tail:c_ymd"))
  k_with "tail:c_ymd" => (
  all_goals walk_at "fn:int"
  all_goals (rw [first_eq ⟨v.m1, v.m2⟩]; omega))
  all_goals (first | ((with_reducible guard_target = wpAny _ _ (execs (List.cons _ _) _) _ _ _); k_extra "run:c_ymd") | k_extra "tail:c_ymd")
theorem main' : zG zt := by
  have q := main
  rw [z_def, y_def, m_def, d_def, ty_def, tm_def, td_def] at q
  exact q
theorem all (z : Dat) (y : Int) (m : Int) (d : Int) (ty : Tok) (tm : Tok) (td : Tok) : G_ymd z y m d ty tm td := haveI : Nonempty Dat := dat_some PySem.Challenge.rw_kl0450_01.row.prog; sk_all (G := zG) main' (z, y, m, d, ty, tm, td)
end D_ymd
theorem c_ymd (w : World) (y m d : Int) (ty tm td : Tok) (v : Valid y m d) : Fn PySem.Challenge.rw_kl0450_01.row.prog w (Mine.hd.heap_1 w.params) 3 139 [] [.int y ty, .int m tm, .int d td] (fun v new => new = [] ∧ ∃ t : Tok, v = .int (first y m + d - 1) t) := by
  refine' Fn.of_B ?ho ?hb ?h ?hcd ?hl ?h0 ?h1 ?h2 ?h3 ?h4
  case ho => k_is
  case hb => exact fun _ => BindsTo.of_eq rfl
  case hcd => k_is
  case hl => exact locs rfl
  case h0 => decide
  case h1 => exact rfl
  case h2 => exact rfl
  case h3 => exact rfl
  case h4 => decide
  case h =>
    intro z hz
    subst hz
    exact Wrap.out (D_ymd.all z y m d ty tm td) v
end
end Mine

end
section
open PySem PySem.W PyProof.Rows PySem.Calls PySem.Spec
set_option Elab.async false
namespace Mine
section
set_option maxRecDepth 100000
set_option maxHeartbeats 8000000
theorem filled_OrdC : PySem.Challenge.rw_kl0450_01 = PySem.Challenge.rw_kl0450_01 ∧ ∀ P, Mine.hd.heap_1 P = Mine.hd.heap_1 P := by
  k_fill
  exact ⟨rfl, fun _ => rfl⟩
theorem words_OrdC_01_0 : True := by
  k_with_none
  w_top off
  k_with "body" => ((
  refine Wrap.mk ?_
  intro zzF' zzN' zzB' zzX' zzT' zzhk zzhd zzhu
  (try dsimp only)
  (try k_lift zzB')
  (try k_fold)))
  k_with "idx" => (first | omega | (simp only [fm12]; omega) | (simp only [fd32, fd4, fd100, fd400, fd365, fd1461, fd36524, fd146097, fm365, fm1461, fm36524, fm146097, dbmT]; omega) | (rename ((_ : Int) < dbmT _ + _) => hx9; simp only [dbmT, fd32] at hx9 ⊢; omega))
  k_with "ediv" => (simp only [fd4, fd5, fd7, fd12, fd60, fd100, fd400, fd365, fd1461, fd3600, fd36524, fd86400, fd146097, fm4, fm7, fm12, fm60, fm100, fm365, fm400, fm1461, fm36524, fm86400, fm146097] at *)
  k_with "wpC" => (first
  | with_reducible refine wpC_cons ?_
  | with_reducible refine wpC_nil ?_)
  k_with "ite" => ((k_here; first
  | (k_closed; k_dflt (first | refine ite_pos (by decide) ?_ | refine ite_neg (by decide) ?_))
  | refine ite_pos (by with_reducible assumption) ?_
  | refine ite_neg (by with_reducible assumption) ?_
  | refine ite_isFalse (by with_reducible assumption) ?_
  | refine ite_pos (by k_dec) ?_
  | refine ite_neg (by k_dec) ?_))
  k_with "step" => (first | (k_unfold; (try dsimp only)) | (k_end; wrow_close) | ((with_reducible guard_target = wpAny _ _ (newTuple _) _ _ _); dsimp only; walk1) | walk1 | (dsimp only; walk1) | (leave1; try dsimp only))
  k_with "bodyT" => ((
  refine Wrap.mk ?_
  intro zzF' zzN' zzB' zzX' zzT' zzXB' zzTB' zzD' zzhk zzhd zzhu
  (try dsimp only)
  (try k_lift zzB')
  (try k_fold)))
  k_with "bodyC" => ((
  refine Wrap.mk ?_
  intro zzF' zzN' zzB' zzX' zzT' zzXB' zzTB' zzD' zzhk zzhd zzhu
  (try dsimp only)
  (try k_lift zzB')))
  k_with "call ref" => ((k_here; (with_reducible show wpAny _ _ (call (Value.ref 111) _) _ _ _); k_dflt (refine' Fn.useV (c_leap _ _ _) (by k_asm) (by k_asm) (by k_asm) (by k_asm) (by k_asm) (by first | exact rfl | assumption) (by walk_at "fn:args") (by ktr_room) (by ktr_units) ?_); intro t9 h9 tk9 F9 N9; (try dsimp only); (try k_fold)))
  k_with "call ref" => ((k_here; (with_reducible show wpAny _ _ (call (Value.ref 118) _) _ _ _); k_dflt (refine' Fn.useV (c_dby _ _ _) (by k_asm) (by k_asm) (by k_asm) (by k_asm) (by k_asm) (by first | exact rfl | assumption) (by walk_at "fn:args") (by ktr_room) (by ktr_units) ?_); intro t9 h9 tk9 F9 N9; (try dsimp only); (try k_fold)))
  k_with "call ref" => ((k_here; (with_reducible show wpAny _ _ (call (Value.ref 163) _) _ _ _); k_dflt (refine' Fn.useV (c_first _ _ _ _ _) (by k_asm) (by k_asm) (by k_asm) (by k_asm) (by k_asm) (by first | exact rfl | assumption) (by walk_at "fn:args") (by ktr_room) (by ktr_units) ?_); intro t9 h9 tk9 F9 N9; (try dsimp only); (try k_fold)))
  k_with "subscriptTail" => ((k_here; (with_reducible show wpAny _ _ (subscriptTail _ _ (Value.ref 98) (Value.int _ _)) _ _ _); k_dflt (refine' item_tabK dimT 1 12 (by k_asm) (by k_asm) (by k_is) (by decide +kernel) (by decide) (by walk_at "idx") (by walk_at "idx") (by decide) ?_ (by with_unfolding_all rfl); k_whole; intro t9; (try dsimp only); (try k_fold))))
  k_with "subscriptTail" => ((k_here; (with_reducible show wpAny _ _ (subscriptTail _ _ (Value.ref 99) (Value.int _ _)) _ _ _); k_dflt (refine' item_tabK dbmT 1 12 (by k_asm) (by k_asm) (by k_is) (by decide +kernel) (by decide) (by walk_at "idx") (by walk_at "idx") (by decide) ?_ (by with_unfolding_all rfl); k_whole; intro t9; (try dsimp only); (try k_fold))))
  k_with "call ref" => ((k_here; (with_reducible show wpAny _ _ (call (Value.ref 125) _) _ _ _); k_dflt (refine' Fn.useV (c_dim _ _ _ _ _ (by exact ⟨by walk_at "idx", by walk_at "idx"⟩)) (by k_asm) (by k_asm) (by k_asm) (by k_asm) (by k_asm) (by first | exact rfl | assumption) (by walk_at "fn:args") (by ktr_room) (by ktr_units) ?_); intro t9 h9 tk9 F9 N9; (try dsimp only); (try k_fold)))
  k_with "call ref" => ((k_here; (with_reducible show wpAny _ _ (call (Value.ref 132) _) _ _ _); k_dflt (refine' Fn.useV (c_dbm _ _ _ _ _ (by exact ⟨by walk_at "idx", by walk_at "idx"⟩)) (by k_asm) (by k_asm) (by k_asm) (by k_asm) (by k_asm) (by first | exact rfl | assumption) (by walk_at "fn:args") (by ktr_room) (by ktr_units) ?_); intro t9 h9 tk9 F9 N9; (try dsimp only); (try k_fold)))
  trivial
theorem c_leap_by (w : World) (y : Int) (ty : Tok) (X : Bool) (h : leap y = X) : Fn PySem.Challenge.rw_kl0450_01.row.prog w (Mine.hd.heap_1 w.params) 1 111 [] [.int y ty] (fun v new => new = [] ∧ ∃ _t : Tok, v = .bool X) := h ▸ c_leap w y ty
theorem words_OrdC_01_1 : True := by
  k_with "call builtin:divmod" => ((k_here; (with_reducible show wpAny _ _ (call (Value.builtin _) [Value.int _ _, Value.int _ _]) _ _ _); k_dflt (refine divmod_by' (by assumption) (by k_asm) (by k_asm) (by decide) (by decide) ?_; intro h' F' N'; (try k_sweep); (try k_fold))))
  k_with "binaryOp Add int bool" => ((k_here; with_reducible refine add_ib ?_; intro z9 hz9 hz9' hz9''; (try (have hz0 : z9 = 0 := by (rw [hz9''.out]; exact if_neg (by simp only [decide_eq_true_eq, beq_iff_eq]; omega)))); (try k_fold)))
  k_with "eval BoolOp" => ((k_here; (with_reducible show wpAny _ _ (eval (Expr.BoolOp _ [_, Expr.BoolOp _ _ _] _) _) _ _ _); refine' join_bool (by assumption) (by with_reducible refine BoolOp_and ?_; k_steps; all_goals (repeat (first | k_unfold | dsimp only)); all_goals (first | exact ⟨_, rfl⟩ | (refine congrArg Value.bool ?_; simp [*]; done))) ?_; intro tk; (try dsimp only); (try k_fold)))
  k_with "compareOp Eq bool bool" => ((k_here; with_reducible refine eq_same ?_))
  k_with "call ref" => ((k_here; (with_reducible show wpAny _ _ (call (Value.ref 111) _) _ _ _); k_dflt (refine' Fn.useV (c_leap_by _ _ _ _ (Hid.out (by assumption) (by constructor <;> assumption))) (by k_asm) (by k_asm) (by k_asm) (by k_asm) (by k_asm) (by first | exact rfl | assumption) (by walk_at "fn:args") (by ktr_room) (by ktr_units) ?_); intro t9 h9 tk9 F9 N9; (try dsimp only); (try k_fold)))
  trivial
noncomputable def G_ordP (z : Dat) (n : Int) (a : Int) (b : Int) (c : Int) (e : Int) (r : Int) (r1 : Int) (r2 : Int) (r3 : Int) (tn : Tok) : Prop := Wrap ((DivMod (n - 1) 146097 a r1) → (DivMod r1 36524 b r2) → (DivMod r2 1461 c r3) → (DivMod r3 365 e r) → (Hid (n - 1 = 146097 * a + 36524 * b + 1461 * c + 365 * e + r)) → (Hid ((0 ≤ b ∧ b ≤ 4) ∧ (0 ≤ c ∧ c ≤ 24) ∧ (0 ≤ e ∧ e ≤ 4))) → (Hid (b = 4 → c = 0 ∧ e = 0 ∧ r = 0)) → (Hid (e = 4 → r = 0 ∧ (c = 24 → b = 3))) → (0 ≤ r) → (r < 365) → FnB z PySem.Challenge.rw_kl0450_01.row.prog (Mine.hd.heap_1 z.w.params) 3 149 [] [.int n tn] (fun v new => ∃ D o, v = .ref D ∧ new = [(D, o)] ∧ ∃ (y m d : Int) (t1 t2 t3 : Tok), o = { cls := .type "tuple", data := .seq #[.int y t1, .int m t2, .int d t3] } ∧ Valid y m d ∧ first y m + d - 1 = n) (by k_is) (by exact BindsTo.of_eq rfl))
namespace D_ordP
noncomputable def zG (zt : Dat × Int × Int × Int × Int × Int × Int × Int × Int × Int × Tok) : Prop := G_ordP (zt.1) (zt.2.1) (zt.2.2.1) (zt.2.2.2.1) (zt.2.2.2.2.1) (zt.2.2.2.2.2.1) (zt.2.2.2.2.2.2.1) (zt.2.2.2.2.2.2.2.1) (zt.2.2.2.2.2.2.2.2.1) (zt.2.2.2.2.2.2.2.2.2.1) (zt.2.2.2.2.2.2.2.2.2.2)
noncomputable def zt : Dat × Int × Int × Int × Int × Int × Int × Int × Int × Int × Tok := haveI : Nonempty Dat := dat_some PySem.Challenge.rw_kl0450_01.row.prog; sk zG
@[irreducible] noncomputable def z : Dat := zt.1
theorem z_def : z = zt.1 := by with_unfolding_all rfl
@[irreducible] noncomputable def n : Int := zt.2.1
theorem n_def : n = zt.2.1 := by with_unfolding_all rfl
@[irreducible] noncomputable def a : Int := zt.2.2.1
theorem a_def : a = zt.2.2.1 := by with_unfolding_all rfl
@[irreducible] noncomputable def b : Int := zt.2.2.2.1
theorem b_def : b = zt.2.2.2.1 := by with_unfolding_all rfl
@[irreducible] noncomputable def c : Int := zt.2.2.2.2.1
theorem c_def : c = zt.2.2.2.2.1 := by with_unfolding_all rfl
@[irreducible] noncomputable def e : Int := zt.2.2.2.2.2.1
theorem e_def : e = zt.2.2.2.2.2.1 := by with_unfolding_all rfl
@[irreducible] noncomputable def r : Int := zt.2.2.2.2.2.2.1
theorem r_def : r = zt.2.2.2.2.2.2.1 := by with_unfolding_all rfl
@[irreducible] noncomputable def r1 : Int := zt.2.2.2.2.2.2.2.1
theorem r1_def : r1 = zt.2.2.2.2.2.2.2.1 := by with_unfolding_all rfl
@[irreducible] noncomputable def r2 : Int := zt.2.2.2.2.2.2.2.2.1
theorem r2_def : r2 = zt.2.2.2.2.2.2.2.2.1 := by with_unfolding_all rfl
@[irreducible] noncomputable def r3 : Int := zt.2.2.2.2.2.2.2.2.2.1
theorem r3_def : r3 = zt.2.2.2.2.2.2.2.2.2.1 := by with_unfolding_all rfl
@[irreducible] noncomputable def tn : Tok := zt.2.2.2.2.2.2.2.2.2.2
theorem tn_def : tn = zt.2.2.2.2.2.2.2.2.2.2 := by with_unfolding_all rfl
theorem main : G_ordP z n a b c e r r1 r2 r3 tn := by
  refine Wrap.mk ?_
  intro D1 D2 D3 D4 hid1 hid2 hid3 hid4 hr0 hr1
  obtain ⟨X, hX⟩ : ∃ X, JoinB X (e == 3 && (c != 24 || b == 3)) := ⟨_, ⟨rfl⟩⟩
  have hXL : Hid ((b ≠ 4 ∧ e ≠ 4) → leap (a * 400 + 1 + (b * 100 + c * 4 + e)) = X) := ⟨fun h => by rw [hX.out]; exact leap_parts hid2.out.1 hid2.out.2.1 hid2.out.2.2 h.1 h.2⟩
  walk_at "body"
  k_with "run:c_ordP" => (
    (try dsimp +zetaDelta only)
    as_aux_lemma =>
      walk_at "step"
      all_goals (repeat' ((fail_if_success (with_reducible guard_target = wpAny _ _ (execs (List.cons _ _) _) _ _ _)); walk_at "step"))
      all_goals (first | ((with_reducible guard_target = wpAny _ _ (execs (List.cons _ _) _) _ _ _); k_extra "run:c_ordP") | k_extra "tail:c_ordP"))
  k_with "tail:c_ordP" => (
  all_goals (
    have hn := hid1.out
    have hb := hid2.out.1
    have hc := hid2.out.2.1
    have he := hid2.out.2.2
    have h4 := hid3.out
    have h5 := hid4.out
    first
    | (have h45 : e = 4 ∨ b = 4 := by first | exact .inl (by assumption) | exact .inr (by assumption)
       first
       | (exfalso; rename r ≠ 0 => hq; exact hq (ord_n4 h4 h5 h45))
       | (walk_at "fn:obj"; exact ⟨_, _, _, _, _, _, rfl, ord_last hb hc he h4 h5 h45 hn⟩))
    | (have hb' : b ≠ 4 := by assumption
       have he' : e ≠ 4 := by assumption
       have hl := hXL.out ⟨hb', he'⟩
       first
       | (exfalso; rename ((_ == _) = false) => hq; rw [hl] at hq; simp at hq; done)
       | (have hbb : 0 ≤ b ∧ b ≤ 3 := ⟨hb.1, Int.le_of_lt_add_one (Int.lt_iff_le_and_ne.mpr ⟨hb.2, hb'⟩)⟩
          have hee : 0 ≤ e ∧ e ≤ 3 := ⟨he.1, Int.le_of_lt_add_one (Int.lt_iff_le_and_ne.mpr ⟨he.2, he'⟩)⟩
          have C := ordCtx hbb hc hee hn hl (ord_tab hr0 hr1 (lp_or _))
          clear h4 h5 hb he hb' he' hr0 hr1 hbb hee hc hn hl
          first
          | (walk_at "fn:obj"
             refine ⟨_, _, _, _, _, _, rfl, ?_⟩
             first
             | (refine (ord_w3 C ?_ ?_ ?_).v <;> with_reducible assumption)
             | (refine (ord_w6 C ?_ ?_ ?_).v <;> with_reducible assumption)
             | (refine (ord_w1 C ?_ ?_ ?_ ?_ ?_).v <;> with_reducible assumption)
             | (refine (ord_w2 C ?_ ?_ ?_ ?_ ?_).v <;> with_reducible assumption)
             | (refine (ord_w5 C ?_ ?_ ?_ ?_).v <;> with_reducible assumption)
             | (refine absurd (ord_w4 (M := (r + 50).fdiv (2 ^ Int.toNat 5)) ?_ ?_) not_false <;> with_reducible assumption))
          | (exfalso; refine ord_w4 (M := (r + 50).fdiv (2 ^ Int.toNat 5)) ?_ ?_ <;> with_reducible assumption)
          | (exfalso
             rename (¬ 0 ≤ _ - _) => hq
             refine hq ?_
             first
             | (refine (ord_w1 C ?_ ?_ ?_ ?_ ?_).lo <;> with_reducible assumption)
             | (refine (ord_w2 C ?_ ?_ ?_ ?_ ?_).lo <;> with_reducible assumption)
             | (refine (ord_w5 C ?_ ?_ ?_ ?_).lo <;> with_reducible assumption))
          | (exfalso
             rename (¬ _ - _ < _) => hq
             refine hq ?_
             first
             | (refine (ord_w3 C ?_ ?_ ?_).hi <;> with_reducible assumption)
             | (refine (ord_w6 C ?_ ?_ ?_).hi <;> with_reducible assumption)
             | (refine (ord_w1 C ?_ ?_ ?_ ?_ ?_).hi <;> with_reducible assumption)
             | (refine (ord_w2 C ?_ ?_ ?_ ?_ ?_).hi <;> with_reducible assumption)
             | (refine (ord_w5 C ?_ ?_ ?_ ?_).hi <;> with_reducible assumption))
          | fail "an end is left")))
)
  all_goals (first | ((with_reducible guard_target = wpAny _ _ (execs (List.cons _ _) _) _ _ _); k_extra "run:c_ordP") | k_extra "tail:c_ordP")
theorem main' : zG zt := by
  have q := main
  rw [z_def, n_def, a_def, b_def, c_def, e_def, r_def, r1_def, r2_def, r3_def, tn_def] at q
  exact q
theorem all (z : Dat) (n : Int) (a : Int) (b : Int) (c : Int) (e : Int) (r : Int) (r1 : Int) (r2 : Int) (r3 : Int) (tn : Tok) : G_ordP z n a b c e r r1 r2 r3 tn := haveI : Nonempty Dat := dat_some PySem.Challenge.rw_kl0450_01.row.prog; sk_all (G := zG) main' (z, n, a, b, c, e, r, r1, r2, r3, tn)
end D_ordP
theorem c_ordP (w : World) (n a b c e r r1 r2 r3 : Int) (tn : Tok) (D1 : DivMod (n - 1) 146097 a r1) (D2 : DivMod r1 36524 b r2) (D3 : DivMod r2 1461 c r3) (D4 : DivMod r3 365 e r) (hid1 : Hid (n - 1 = 146097 * a + 36524 * b + 1461 * c + 365 * e + r)) (hid2 : Hid ((0 ≤ b ∧ b ≤ 4) ∧ (0 ≤ c ∧ c ≤ 24) ∧ (0 ≤ e ∧ e ≤ 4))) (hid3 : Hid (b = 4 → c = 0 ∧ e = 0 ∧ r = 0)) (hid4 : Hid (e = 4 → r = 0 ∧ (c = 24 → b = 3))) (hr0 : 0 ≤ r) (hr1 : r < 365) : Fn PySem.Challenge.rw_kl0450_01.row.prog w (Mine.hd.heap_1 w.params) 3 149 [] [.int n tn] (fun v new => ∃ D o, v = .ref D ∧ new = [(D, o)] ∧ ∃ (y m d : Int) (t1 t2 t3 : Tok), o = { cls := .type "tuple", data := .seq #[.int y t1, .int m t2, .int d t3] } ∧ Valid y m d ∧ first y m + d - 1 = n) := by
  refine' Fn.of_B ?ho ?hb ?h ?hcd ?hl ?h0 ?h1 ?h2 ?h3 ?h4
  case ho => k_is
  case hb => exact fun _ => BindsTo.of_eq rfl
  case hcd => k_is
  case hl => exact locs rfl
  case h0 => decide
  case h1 => exact rfl
  case h2 => exact rfl
  case h3 => exact rfl
  case h4 => decide
  case h =>
    intro z hz
    subst hz
    exact Wrap.out (D_ordP.all z n a b c e r r1 r2 r3 tn) D1 D2 D3 D4 hid1 hid2 hid3 hid4 hr0 hr1
theorem c_ord (w : World) (n : Int) (tn : Tok) : Fn PySem.Challenge.rw_kl0450_01.row.prog w (Mine.hd.heap_1 w.params) 3 149 [] [.int n tn] (fun v new => ∃ D o, v = .ref D ∧ new = [(D, o)] ∧ ∃ (y m d : Int) (t1 t2 t3 : Tok), o = { cls := .type "tuple", data := .seq #[.int y t1, .int m t2, .int d t3] } ∧ Valid y m d ∧ first y m + d - 1 = n) := by
  obtain ⟨a, b, c, e, r, r1, r2, r3, D1, D2, D3, D4, hn, hb0, hb4, hc0, hc4, he0, he4, hr0, hr1, hb, he⟩ := ord_start n
  exact c_ordP w n a b c e r r1 r2 r3 tn D1 D2 D3 D4 ⟨hn⟩ ⟨⟨hb0, hb4⟩, ⟨hc0, hc4⟩, ⟨he0, he4⟩⟩ ⟨hb⟩ ⟨he⟩ hr0 hr1
end
end Mine

end
section
open PySem PySem.W PyProof.Rows PySem.Calls PySem.Spec
set_option Elab.async false
namespace Mine
section
set_option maxRecDepth 100000
set_option maxHeartbeats 8000000
theorem filled_Mail1 : PySem.Challenge.rw_kl0450_01 = PySem.Challenge.rw_kl0450_01 ∧ ∀ P, Mine.hd.heap_1 P = Mine.hd.heap_1 P := by
  k_fill
  exact ⟨rfl, fun _ => rfl⟩
theorem words_Mail1_01_0 : True := by
  k_with_none
  w_top off
  k_with "body" => ((
  refine Wrap.mk ?_
  intro zzF' zzN' zzB' zzX' zzT' zzhk zzhd zzhu
  (try dsimp only)
  (try k_lift zzB')
  (try k_fold)))
  k_with "idx" => (first | omega | (simp only [fm12]; omega) | (simp only [fd32, fd4, fd100, fd400, fd365, fd1461, fd36524, fd146097, fm365, fm1461, fm36524, fm146097, dbmT]; omega) | (rename ((_ : Int) < dbmT _ + _) => hx9; simp only [dbmT, fd32] at hx9 ⊢; omega))
  k_with "ediv" => (simp only [fd4, fd5, fd7, fd12, fd60, fd100, fd400, fd365, fd1461, fd3600, fd36524, fd86400, fd146097, fm4, fm7, fm12, fm60, fm100, fm365, fm400, fm1461, fm36524, fm86400, fm146097] at *)
  k_with "wpC" => (first
  | with_reducible refine wpC_cons ?_
  | with_reducible refine wpC_nil ?_)
  k_with "ite" => ((k_here; first
  | (k_closed; k_dflt (first | refine ite_pos (by decide) ?_ | refine ite_neg (by decide) ?_))
  | refine ite_pos (by with_reducible assumption) ?_
  | refine ite_neg (by with_reducible assumption) ?_
  | refine ite_isFalse (by with_reducible assumption) ?_
  | refine ite_pos (by k_dec) ?_
  | refine ite_neg (by k_dec) ?_))
  k_with "step" => (first | (k_unfold; (try dsimp only)) | (k_end; wrow_close) | ((with_reducible guard_target = wpAny _ _ (newTuple _) _ _ _); dsimp only; walk1) | walk1 | (dsimp only; walk1) | (leave1; try dsimp only))
  k_with "bodyT" => ((
  refine Wrap.mk ?_
  intro zzF' zzN' zzB' zzX' zzT' zzXB' zzTB' zzD' zzhk zzhd zzhu
  (try dsimp only)
  (try k_lift zzB')
  (try k_fold)))
  k_with "bodyC" => ((
  refine Wrap.mk ?_
  intro zzF' zzN' zzB' zzX' zzT' zzXB' zzTB' zzD' zzhk zzhd zzhu
  (try dsimp only)
  (try k_lift zzB')))
  k_with "call ref" => ((k_here; (with_reducible show wpAny _ _ (call (Value.ref 149) _) _ _ _); k_dflt (refine' Fn.useO (c_ord _ _ _) (by k_asm) (by k_asm) (by k_asm) (by k_asm) (by k_asm) (by first | exact rfl | assumption) (by walk_at "fn:args") (by ktr_room) (by ktr_units) ?_); intro D9 o9 h9 tk9 ho9 F9 N9 hne9; obtain ⟨y9, m9, d9, _, _, _, e9, v9, f9⟩ := ho9; subst e9;have q91 : 1 ≤ m9 ∧ m9 ≤ 12 := ⟨v9.m1, v9.m2⟩; have q92 := v9.d1; have q93 := v9.d2; have q94 := dim_rng (y := y9) q91; have q95 := fmod_rng y9 100 (by decide);  (try dsimp only); (try k_fold)))
  k_with "subscriptTail Name Slice str ref" => ((k_here; (with_reducible show wpAny _ _ (subscriptTail _ (PySem.Expr.Slice none (some _) none _) (Value.str (tx _) _) (Value.ref _)) _ _ _); (with_reducible rename Fr _ _ _ _ => F9); (with_reducible rename News _ _ _ _ => N9); (refine slice_strN_ns (hsz := fits_len (by walk_at "len1")) (s := ⟨_, _, _, _, _⟩) F9 N9 ?_); intro h9 t9 k9 F8 N8; (try k_sweep); (try k_fold)))
  k_with "len1" => (with_reducible exact len_wdL (by assumption))
  k_with "subscriptTail Name BinOp ref int" => ((k_here; (with_reducible show wpAny _ _ (subscriptTail _ _ (Value.ref _) (Value.int _ _)) _ _ _); k_dflt (refine' item_wd (by k_asm) (by k_mem) (by kernel_rfl) (by assumption) ?_ (by with_unfolding_all rfl); k_whole); intro t9; (try k_fold)))
  k_with "binaryOp Mod str int" => ((k_here; k_dflt (refine' mod_two (by exact fmod_rng _ 100 (by decide)) ?_); intro t9 k9; (try k_fold)))
  k_with "binaryOp Mod str ref" => ((k_here; (with_reducible show wpAny _ _ (binaryOp Operator.Mod (Value.str (PySem.Str.ofString "%02d:%02d:%02d") _) (Value.ref _)) _ _ _); (with_reducible rename News _ _ _ _ => N9); k_dflt (refine' KPt.mod_tuple (by exact N9) (by k_mem) ?_ (by exact fmt_hms _ _ _ _ _ _ _ _ (by omega) (by omega) (by omega) (by omega) (by omega) (by omega)) ?_; (decide +kernel)); intro t9 k9; (try k_fold)))
  k_with "binaryOp Mod str ref" => ((k_here; (with_reducible show wpAny _ _ (binaryOp Operator.Mod (Value.str (PySem.Str.ofString "%s, %02d %s %s %s GMT") _) (Value.ref _)) _ _ _); (with_reducible rename News _ _ _ _ => N9); rw [mon_slice (by assumption)] at N9; rw [wd_slice (by assumption)] at N9; k_dflt (refine' KPt.mod_tuple (by exact N9) (by k_mem) ?_ (by exact fmt_A _ _ _ _ _ _ _ _ _ _ _ _ (by walk_at "m1len") (by omega) (by omega) (by walk_at "m1len") (by walk_at "m1len") (by walk_at "m1len")) ?_; (decide +kernel)); intro t9 k9; (try k_fold)))
  k_with "binaryOp Mod str ref" => ((k_here; (with_reducible show wpAny _ _ (binaryOp Operator.Mod (Value.str (PySem.Str.ofString "%s, %02d-%s-%s %s GMT") _) (Value.ref _)) _ _ _); (with_reducible rename News _ _ _ _ => N9); rw [mon_slice (by assumption)] at N9; k_dflt (refine' KPt.mod_tuple (by exact N9) (by k_mem) ?_ (by exact fmt_B _ _ _ _ _ _ _ _ _ _ _ _ (by walk_at "m1len") (by omega) (by omega) (by walk_at "m1len") (by walk_at "m1len") (by walk_at "m1len")) ?_; (decide +kernel)); intro t9 k9; (try k_fold)))
  k_with "binaryOp Mod str ref" => ((k_here; (with_reducible show wpAny _ _ (binaryOp Operator.Mod (Value.str (PySem.Str.ofString "%s %s %d %s %s") _) (Value.ref _)) _ _ _); (with_reducible rename News _ _ _ _ => N9); rw [mon_slice (by assumption)] at N9; rw [wd_slice (by assumption)] at N9; k_dflt (refine' KPt.mod_tuple (by exact N9) (by k_mem) ?_ (by exact fmt_C _ _ _ _ _ _ _ _ _ _ _ _ (by walk_at "m1len") (by walk_at "m1len") (by omega) (by omega) (by walk_at "m1len") (by walk_at "m1len")) ?_; (decide +kernel)); intro t9 k9; (try k_fold)))
  k_with "m1len" => (first | (rw [wd3_len (by assumption)]; decide) | exact Nat.le_trans (wdL_len (by assumption)).2 (by decide) | (rw [mon_len (by assumption)]; decide) | (simp [dg2]; done))
  k_with "fn:val" => ((walk_at "fn:end"; k_dflt (refine' leaveF_val (by k_asm) (by k_asm) (by walk_at "fn:args") ?_)))
  trivial
noncomputable def G_mail (z : Dat) (n : Int) (dr : Int) (c : Int) (t1 : Tok) (t2 : Tok) (t3 : Tok) : Prop := Wrap ((0 ≤ dr ∧ dr ≤ 2) → (0 ≤ c ∧ c < 86400) → FnB z PySem.Challenge.rw_kl0450_01.row.prog (Mine.hd.heap_1 z.w.params) 4 156 [] [.int n t1, .int dr t2, .int c t3] (fun v new => new = [] ∧ ∃ (T : List Nat) (y m d : Int) (t : Tok), v = .str (tx T) t ∧ Mail T (n.fmod 7) d m (y.fmod 100) (c.fdiv 3600) ((c.fdiv 60).fmod 60) (c.fmod 60) ∧ Valid y m d ∧ first y m + d - 1 = n) (by k_is) (by exact BindsTo.of_eq rfl))
namespace D_mail
noncomputable def zG (zt : Dat × Int × Int × Int × Tok × Tok × Tok) : Prop := G_mail (zt.1) (zt.2.1) (zt.2.2.1) (zt.2.2.2.1) (zt.2.2.2.2.1) (zt.2.2.2.2.2.1) (zt.2.2.2.2.2.2)
noncomputable def zt : Dat × Int × Int × Int × Tok × Tok × Tok := haveI : Nonempty Dat := dat_some PySem.Challenge.rw_kl0450_01.row.prog; sk zG
@[irreducible] noncomputable def z : Dat := zt.1
theorem z_def : z = zt.1 := by with_unfolding_all rfl
@[irreducible] noncomputable def n : Int := zt.2.1
theorem n_def : n = zt.2.1 := by with_unfolding_all rfl
@[irreducible] noncomputable def dr : Int := zt.2.2.1
theorem dr_def : dr = zt.2.2.1 := by with_unfolding_all rfl
@[irreducible] noncomputable def c : Int := zt.2.2.2.1
theorem c_def : c = zt.2.2.2.1 := by with_unfolding_all rfl
@[irreducible] noncomputable def t1 : Tok := zt.2.2.2.2.1
theorem t1_def : t1 = zt.2.2.2.2.1 := by with_unfolding_all rfl
@[irreducible] noncomputable def t2 : Tok := zt.2.2.2.2.2.1
theorem t2_def : t2 = zt.2.2.2.2.2.1 := by with_unfolding_all rfl
@[irreducible] noncomputable def t3 : Tok := zt.2.2.2.2.2.2
theorem t3_def : t3 = zt.2.2.2.2.2.2 := by with_unfolding_all rfl
theorem main : G_mail z n dr c t1 t2 t3 := by
  refine Wrap.mk ?_
  intro hdr hc
  have hk := fmod_rng n 7 (by decide)
  have hk : 0 ≤ n.fmod 7 ∧ n.fmod 7 ≤ 6 := by omega
  have hc1 : 0 ≤ c.fdiv 3600 ∧ c.fdiv 3600 < 100 := by rw [fd3600]; omega
  have hc2 := fmod_rng (c.fdiv 60) 60 (by decide)
  have hc3 := fmod_rng c 60 (by decide)
  walk_at "body"
  k_with "run:c_mail" => (
    (try dsimp +zetaDelta only)
    as_aux_lemma =>
      walk_at "step"
      all_goals (repeat' ((fail_if_success (with_reducible guard_target = wpAny _ _ (execs (List.cons _ _) _) _ _ _)); walk_at "step"))
      all_goals (first | ((with_reducible guard_target = wpAny _ _ (execs (List.cons _ _) _) _ _ _); k_extra "run:c_mail") | k_extra "tail:c_mail"))
  k_with "tail:c_mail" => (
  all_goals walk_at "fn:val"
  all_goals first
    | (with_reducible refine ⟨_, _, _, _, _, rfl, mailA_is _ _ _ _ _ _ _, ?_, ?_⟩; all_goals with_reducible assumption)
    | (with_reducible refine ⟨_, _, _, _, _, rfl, mailB_is _ _ _ _ _ _ _, ?_, ?_⟩; all_goals with_reducible assumption)
    | (with_reducible refine ⟨_, _, _, _, _, rfl, mailC_is _ _ _ _ _ _ _, ?_, ?_⟩; all_goals with_reducible assumption))
  all_goals (first | ((with_reducible guard_target = wpAny _ _ (execs (List.cons _ _) _) _ _ _); k_extra "run:c_mail") | k_extra "tail:c_mail")
theorem main' : zG zt := by
  have q := main
  rw [z_def, n_def, dr_def, c_def, t1_def, t2_def, t3_def] at q
  exact q
theorem all (z : Dat) (n : Int) (dr : Int) (c : Int) (t1 : Tok) (t2 : Tok) (t3 : Tok) : G_mail z n dr c t1 t2 t3 := haveI : Nonempty Dat := dat_some PySem.Challenge.rw_kl0450_01.row.prog; sk_all (G := zG) main' (z, n, dr, c, t1, t2, t3)
end D_mail
theorem c_mail (w : World) (n dr c : Int) (t1 t2 t3 : Tok) (hdr : 0 ≤ dr ∧ dr ≤ 2) (hc : 0 ≤ c ∧ c < 86400) : Fn PySem.Challenge.rw_kl0450_01.row.prog w (Mine.hd.heap_1 w.params) 4 156 [] [.int n t1, .int dr t2, .int c t3] (fun v new => new = [] ∧ ∃ (T : List Nat) (y m d : Int) (t : Tok), v = .str (tx T) t ∧ Mail T (n.fmod 7) d m (y.fmod 100) (c.fdiv 3600) ((c.fdiv 60).fmod 60) (c.fmod 60) ∧ Valid y m d ∧ first y m + d - 1 = n) := by
  refine' Fn.of_B ?ho ?hb ?h ?hcd ?hl ?h0 ?h1 ?h2 ?h3 ?h4
  case ho => k_is
  case hb => exact fun _ => BindsTo.of_eq rfl
  case hcd => k_is
  case hl => exact locs rfl
  case h0 => decide
  case h1 => exact rfl
  case h2 => exact rfl
  case h3 => exact rfl
  case h4 => decide
  case h =>
    intro z hz
    subst hz
    exact Wrap.out (D_mail.all z n dr c t1 t2 t3) hdr hc
end
end Mine

end
section
open PySem PySem.W PyProof.Rows PySem.Calls PySem.Spec
set_option Elab.async false
namespace Mine
section
set_option maxRecDepth 100000
set_option maxHeartbeats 8000000
theorem filled_DfsC : PySem.Challenge.rw_kl0450_01 = PySem.Challenge.rw_kl0450_01 ∧ ∀ P, Mine.hd.heap_1 P = Mine.hd.heap_1 P := by
  k_fill
  exact ⟨rfl, fun _ => rfl⟩
theorem words_DfsC_01_0 : True := by
  k_with_none
  w_top off
  k_with "body" => ((
  refine Wrap.mk ?_
  intro zzF' zzN' zzB' zzX' zzT' zzhk zzhd zzhu
  (try dsimp only)
  (try k_lift zzB')
  (try k_fold)))
  k_with "idx" => (first | omega | (simp only [fm12]; omega) | (simp only [fd32, fd4, fd100, fd400, fd365, fd1461, fd36524, fd146097, fm365, fm1461, fm36524, fm146097, dbmT]; omega) | (rename ((_ : Int) < dbmT _ + _) => hx9; simp only [dbmT, fd32] at hx9 ⊢; omega))
  k_with "ediv" => (simp only [fd4, fd5, fd7, fd12, fd60, fd100, fd400, fd365, fd1461, fd3600, fd36524, fd86400, fd146097, fm4, fm7, fm12, fm60, fm100, fm365, fm400, fm1461, fm36524, fm86400, fm146097] at *)
  k_with "wpC" => (first
  | with_reducible refine wpC_cons ?_
  | with_reducible refine wpC_nil ?_)
  k_with "ite" => ((k_here; first
  | (k_closed; k_dflt (first | refine ite_pos (by decide) ?_ | refine ite_neg (by decide) ?_))
  | refine ite_pos (by with_reducible assumption) ?_
  | refine ite_neg (by with_reducible assumption) ?_
  | refine ite_isFalse (by with_reducible assumption) ?_
  | refine ite_pos (by k_dec) ?_
  | refine ite_neg (by k_dec) ?_))
  k_with "step" => (first | (k_unfold; (try dsimp only)) | (k_end; wrow_close) | ((with_reducible guard_target = wpAny _ _ (newTuple _) _ _ _); dsimp only; walk1) | walk1 | (dsimp only; walk1) | (leave1; try dsimp only))
  k_with "bodyT" => ((
  refine Wrap.mk ?_
  intro zzF' zzN' zzB' zzX' zzT' zzXB' zzTB' zzD' zzhk zzhd zzhu
  (try dsimp only)
  (try k_lift zzB')
  (try k_fold)))
  k_with "bodyC" => ((
  refine Wrap.mk ?_
  intro zzF' zzN' zzB' zzX' zzT' zzXB' zzTB' zzD' zzhk zzhd zzhu
  (try dsimp only)
  (try k_lift zzB')))
  trivial
theorem patk (w : World) : PatK w (Mine.hd.heap_1 w.params) 83 := by
  refine ⟨80, 82, _, _, _, _, rfl, ⟨0, by kernel_rfl⟩, _, _, _, _, _, _, _, _, _, _, _, _, _, rfl⟩
theorem words_DfsC_01_1 : True := by
  k_with "hi" => (first | with_reducible exact hi_dgs _ | with_reducible exact hi_dg4 _ | with_reducible exact hi_dg2 _ | with_reducible exact hi_clk _ _ _ | with_reducible exact hi_mon (by assumption) | with_reducible exact hi_lmon (by assumption))
  k_with "len" => (first | with_reducible exact len_dgs _ | with_reducible exact len_dg4 _ | with_reducible exact len_dg2 _ | with_reducible exact len_clk _ _ _ | with_reducible exact len_mon (by assumption) | with_reducible exact len_lmon (by assumption) | with_reducible exact len_mail (by assumption))
  k_with "isc" => (first | with_reducible exact comma | with_reducible exact colon | with_reducible exact minus | with_reducible exact plus | rfl)
  k_with "txt" => (first
  | with_reducible exact find_col4 _
  | with_reducible exact ends_c (by walk_at "isc") (hi_no (by walk_at "hi") (by decide))
  | with_reducible exact find_c (by walk_at "isc") (hi_no (by walk_at "hi") (by decide))
  | with_reducible exact rfind_c (by walk_at "isc") (hi_no (by walk_at "hi") (by decide))
  | with_reducible exact lower_dgs _
  | with_reducible exact lower_mon (by assumption)
  | with_reducible exact isdigit_fig _)
  k_with "call builtin:str.split" => ((k_here; (with_reducible show wpAny _ _ (call (Value.builtin "str.split") [Value.str (tx _) _]) _ _ _); k_dflt (
  (refine KSpl.split0 (by k_asm) (by k_asm) ?_ (Nat.le_trans (Nat.add_le_add_right (mailT_len (by assumption)).1 2) (by rw [sizeLine_eq]; decide)))
  intro D' l' h' k' e' a' F' N' l1
  rw [words_mail (by assumption)] at e'
  (try k_lt l1)
  kspl_open e'
  simp only [strValues, List.map_cons, List.map_nil] at N' a'
  (try k_sweep)
  (try k_fold))))
  k_with "truthy str" => ((k_here; (with_reducible show wpAny _ _ (PySem.truthy (Value.str (tx _) _)) _ _ _); k_dflt (refine KXt.truthy_pos (tr_pos (by walk_at "len")) (tr_len (by walk_at "len")) (by decide) ?_; intro _; (try k_fold))))
  k_with "call builtin:str.endswith" => ((k_here; (with_reducible show wpAny _ _ (call (Value.builtin "str.endswith") [Value.str (tx _) _, Value.str _ _]) _ _ _); (refine SC.endswith ?_); (rw [ends_c (by walk_at "isc") (hi_no (by walk_at "hi") (by decide))]); (try k_fold)))
  k_with "call builtin:str.find" => ((k_here; (with_reducible show wpAny _ _ (call (Value.builtin "str.find") [Value.str (tx _) _, Value.str _ _]) _ _ _); (refine KXw.find (by walk_at "txt") ?_); intro _ _; (try k_fold)))
  k_with "call builtin:str.rfind" => ((k_here; (with_reducible show wpAny _ _ (call (Value.builtin "str.rfind") [Value.str (tx _) _, Value.str _ _]) _ _ _); (refine KXw.rfind (by walk_at "txt") ?_); intro _ _; (try k_fold)))
  k_with "call builtin:str.isdigit" => ((k_here; (with_reducible show wpAny _ _ (call (Value.builtin "str.isdigit") [Value.str (tx _) _]) _ _ _); (with_reducible refine KXw.isdigit (isdigit_fig _) ?_); (try k_fold)))
  k_with "call builtin:str.lower" => ((k_here; (with_reducible show wpAny _ _ (call (Value.builtin "str.lower") [Value.str (tx _) _]) _ _ _); (first | with_reducible refine KXw.lower (lower_dgs _) (fit_l (lower_dgs _) (len_dgs _)) ?_ | with_reducible refine KXw.lower (lower_mon (by assumption)) (fit_l (lower_mon (by assumption)) (len_lmon (by assumption))) ?_); intro _ _; (try k_fold)))
  k_with "tabin" => (first | with_reducible exact dgs_not (by decide) _ | with_reducible exact lmon_in (by assumption))
  k_with "compareOp In str ref" => ((k_here; (with_reducible show wpAny _ _ (compareOp CmpOp.In (Value.str (tx _) _) (Value.ref 56)) _ _ _); k_dflt (refine' in_strsK dyTab (by k_asm) (by k_asm) (by k_is) (by decide +kernel) (by walk_at "tabin") ?_; k_whole; (try k_fold))))
  k_with "compareOp NotIn str ref" => ((k_here; (with_reducible show wpAny _ _ (compareOp CmpOp.NotIn (Value.str (tx _) _) (Value.ref 55)) _ _ _); k_dflt (refine' notin_strsK mnTab (by k_asm) (by k_asm) (by k_is) (by decide +kernel) (by walk_at "tabin") ?_; k_whole; (try k_fold))))
  k_with "call builtin:list.index" => ((k_here; k_dflt (refine' index_strsK mnTab (by k_asm) (by k_asm) (by k_is) (by decide +kernel) (by exact lmon_idx (by assumption)) (by (simp only [mnTab, List.length_cons, List.length_nil]; omega)) (by decide) ?_; k_whole; (try k_fold))))
  k_with "call builtin:list.append" => ((k_here; (with_reducible show wpAny _ _ (call (Value.builtin "list.append") [Value.ref _, _]) _ _ _); k_dflt (refine' append_K (by k_asm) (by k_asm) (by k_upd) ?_ (by exact Nat.le_of_ble_eq_true rfl); k_whole); intro h' F' N'; (try k_sweep); (try k_fold)))
  k_with "exec Assign" => (((with_reducible show wpAny _ _ (exec (Stmt.Assign [Expr.List _ _] _ _) _) _ _ _); refine Assign_List ?_))
  k_with "getMethod ref" => ((k_here; (with_reducible show wpAny _ _ (getMethod (Value.ref 55) (PySem.Str.ofString "index") _) _ _ _); k_dflt (refine' index_method (by k_asm) (by k_asm) (by k_is) ?_; k_whole)))
  k_with "lastc" => (first | with_reducible exact dgs_getLast _ | with_reducible exact dg4_last _ | with_reducible exact clk_last _ _ _ | with_reducible exact dg2_last _)
  k_with "headc" => (first | with_reducible exact dg4_head _ | with_reducible exact dg2_head _)
  k_with "subscriptTail Name UnaryOp str int" => ((k_here; (with_reducible show wpAny _ _ (subscriptTail _ _ (Value.str (tx _) _) (Value.int (-1) _)) _ _ _); k_dflt (refine' item_last_tx (by walk_at "lastc") (by exact len1000 (by walk_at "len")) ?_ (by with_unfolding_all rfl) (by intro _; with_unfolding_all rfl); k_whole; intro t9; (try k_fold))))
  k_with "subscriptTail Name Constant str int" => ((k_here; (with_reducible show wpAny _ _ (subscriptTail _ _ (Value.str (tx _) _) (Value.int 0 _)) _ _ _); k_dflt (refine' item_first_tx (by walk_at "headc") (by exact len1000 (by walk_at "len")) ?_ (by with_unfolding_all rfl) (by intro _; with_unfolding_all rfl); k_whole; intro t9; (try k_fold))))
  k_with "txteq" => (first | (refine' fig_ne (by walk_at "isc") (by decide)))
  k_with "compareOp Eq str str" => ((k_here; (with_reducible show wpAny _ _ (compareOp CmpOp.Eq (Value.str (tx _) _) (Value.str _ _)) _ _ _); k_dflt (refine' eq_tx (by walk_at "txteq") ?_; k_whole; (try k_fold))))
  k_with "call builtin:str.split" => ((k_here; (with_reducible show wpAny _ _ (call (Value.builtin "str.split") [Value.str (tx _) _, Value.str _ _]) _ _ _); k_dflt (
  (refine KSpl.split1 (by k_asm) (by k_asm) (by decide) ?_ (fits_l (len1000 (by walk_at "len"))))
  intro D' l' h' k' e' a' F' N' l1
  rw [split_clk2] at e'
  (try k_lt l1)
  kspl_open e'
  simp only [strValues, List.map_cons, List.map_nil] at N' a'
  (try k_sweep)
  (try k_fold))))
  k_with "val" => (first | with_reducible exact val_dg2 (by omega) (by omega) | with_reducible exact val_dg4 (by omega) (by omega) | with_reducible exact val_dgs (by omega) (by omega))
  k_with "call type:int" => ((k_here; (with_reducible show wpAny _ _ (call (Value.type "int") [Value.str (tx _) _]) _ _ _); k_dflt (refine KIN.call_text (by walk_at "val") (Nat.le_trans (len1000' (by walk_at "len")) (by decide)) ?_; (try k_fold))))
  k_with "getMethod ref" => ((k_here; (with_reducible show wpAny _ _ (getMethod (Value.ref 83) (PySem.Str.ofString "match") _) _ _ _); k_dflt (refine' match_method (by k_asm) (by k_asm) (by exact patk _) ?_; k_whole)))
  k_with "call builtin:re.Pattern.match" => ((k_here; k_dflt (refine' match_call (by k_asm) (by k_asm) (by k_asm) (by exact patk _) (by exact rfl) (by exact stampL_same _ _ _ _ _ _) ?_; k_whole); intro tt' D' h' F' N' l1 l2; (try k_lt l1); (try k_sweep); (try k_fold)))
  k_with "getMethod ref" => ((k_here; (with_reducible show wpAny _ _ (getMethod (Value.ref _) (PySem.Str.ofString "groupdict") _) _ _ _); k_dflt (refine' groupdict_method (by k_asm) (by k_mem) ?_; k_whole)))
  k_with "call builtin:re.Match.groupdict" => ((k_here; k_dflt (refine' groupdict_call (by k_asm) (by k_asm) (by k_asm) (by exact patk _) (by k_mem) (by k_mem) ?_; k_whole); intro D' o' h' tk' t1' t2' t3' t4' t5' t6' F' N' l1 l2 hd'; (try k_lt l1); (try k_sweep); (try k_fold)))
  k_with "call type:datetime.datetime" => ((k_here; k_dflt (refine' dt_okK (by k_asm) (by k_asm) (by assumption) (by exact rfl) (by assumption) (by assumption) (by assumption) (by assumption) (by assumption) (by assumption) ?_; k_whole); intro D' h' F' N' l1; (try k_lt l1); (try k_sweep); (try k_fold)))
  k_with "callWith type:datetime.datetime nil nil" => ((k_here; (with_reducible show wpAny _ _ (callWith _ (Value.type _) [] (backTo _ (starEach [Expr.Starred _ _] _)) []) _ _ _); k_dflt (refine' callWith_T ?_; k_whole)))
  k_with "pyIter ref" => ((k_here; (with_reducible show wpAny _ _ (pyIter (Value.ref _)) (fun it s₂ => LoopAtV _ _ _ _ _ _ _ _ _ it s₂) _ _); k_listUnr))
  trivial
noncomputable def G_dfs (z : Dat) (y : Int) (m : Int) (d : Int) (h : Int) (mi : Int) (sc : Int) (tx0 : Tok) : Prop := Wrap ((1 ≤ y ∧ y ≤ 9999) → (1 ≤ m ∧ m ≤ 12) → (0 ≤ d ∧ d < 100) → (0 ≤ h ∧ h < 100) → (0 ≤ mi ∧ mi < 100) → (0 ≤ sc ∧ sc < 100) → (dtOk y m d h mi sc) → FnB z PySem.Challenge.rw_kl0450_01.row.prog (Mine.hd.heap_1 z.w.params) 1 90 [] [.str (tx (stampL y m d h mi sc)) tx0, .bool false] (fun v new => ∃ D o, v = .ref D ∧ new = [(D, o)] ∧ o = dtObj y m d h mi sc) (by k_is) (by exact BindsTo.of_eq rfl))
namespace D_dfs
noncomputable def zG (zt : Dat × Int × Int × Int × Int × Int × Int × Tok) : Prop := G_dfs (zt.1) (zt.2.1) (zt.2.2.1) (zt.2.2.2.1) (zt.2.2.2.2.1) (zt.2.2.2.2.2.1) (zt.2.2.2.2.2.2.1) (zt.2.2.2.2.2.2.2)
noncomputable def zt : Dat × Int × Int × Int × Int × Int × Int × Tok := haveI : Nonempty Dat := dat_some PySem.Challenge.rw_kl0450_01.row.prog; sk zG
@[irreducible] noncomputable def z : Dat := zt.1
theorem z_def : z = zt.1 := by with_unfolding_all rfl
@[irreducible] noncomputable def y : Int := zt.2.1
theorem y_def : y = zt.2.1 := by with_unfolding_all rfl
@[irreducible] noncomputable def m : Int := zt.2.2.1
theorem m_def : m = zt.2.2.1 := by with_unfolding_all rfl
@[irreducible] noncomputable def d : Int := zt.2.2.2.1
theorem d_def : d = zt.2.2.2.1 := by with_unfolding_all rfl
@[irreducible] noncomputable def h : Int := zt.2.2.2.2.1
theorem h_def : h = zt.2.2.2.2.1 := by with_unfolding_all rfl
@[irreducible] noncomputable def mi : Int := zt.2.2.2.2.2.1
theorem mi_def : mi = zt.2.2.2.2.2.1 := by with_unfolding_all rfl
@[irreducible] noncomputable def sc : Int := zt.2.2.2.2.2.2.1
theorem sc_def : sc = zt.2.2.2.2.2.2.1 := by with_unfolding_all rfl
@[irreducible] noncomputable def tx0 : Tok := zt.2.2.2.2.2.2.2
theorem tx0_def : tx0 = zt.2.2.2.2.2.2.2 := by with_unfolding_all rfl
theorem main : G_dfs z y m d h mi sc tx0 := by
  refine Wrap.mk ?_
  intro hy hm hd hh hmi hs hok
  walk_at "body"
  k_with "run:c_dfs" => (
    (try dsimp +zetaDelta only)
    as_aux_lemma =>
      walk_at "step"
      all_goals (repeat' ((fail_if_success (with_reducible guard_target = wpAny _ _ (execs (List.cons _ _) _) _ _ _)); walk_at "step"))
      all_goals (first | ((with_reducible guard_target = wpAny _ _ (execs (List.cons _ _) _) _ _ _); k_extra "run:c_dfs") | k_extra "tail:c_dfs"))
  k_with "tail:c_dfs" => (
  all_goals walk_at "fn:obj"
  all_goals rfl)
  all_goals (first | ((with_reducible guard_target = wpAny _ _ (execs (List.cons _ _) _) _ _ _); k_extra "run:c_dfs") | k_extra "tail:c_dfs")
theorem main' : zG zt := by
  have q := main
  rw [z_def, y_def, m_def, d_def, h_def, mi_def, sc_def, tx0_def] at q
  exact q
theorem all (z : Dat) (y : Int) (m : Int) (d : Int) (h : Int) (mi : Int) (sc : Int) (tx0 : Tok) : G_dfs z y m d h mi sc tx0 := haveI : Nonempty Dat := dat_some PySem.Challenge.rw_kl0450_01.row.prog; sk_all (G := zG) main' (z, y, m, d, h, mi, sc, tx0)
end D_dfs
theorem c_dfs (w : World) (y m d h mi sc : Int) (tx0 : Tok) (hy : 1 ≤ y ∧ y ≤ 9999) (hm : 1 ≤ m ∧ m ≤ 12) (hd : 0 ≤ d ∧ d < 100) (hh : 0 ≤ h ∧ h < 100) (hmi : 0 ≤ mi ∧ mi < 100) (hs : 0 ≤ sc ∧ sc < 100) (hok : dtOk y m d h mi sc) : Fn PySem.Challenge.rw_kl0450_01.row.prog w (Mine.hd.heap_1 w.params) 1 90 [] [.str (tx (stampL y m d h mi sc)) tx0, .bool false] (fun v new => ∃ D o, v = .ref D ∧ new = [(D, o)] ∧ o = dtObj y m d h mi sc) := by
  refine' Fn.of_B ?ho ?hb ?h ?hcd ?hl ?h0 ?h1 ?h2 ?h3 ?h4
  case ho => k_is
  case hb => exact fun _ => BindsTo.of_eq rfl
  case hcd => k_is
  case hl => exact locs rfl
  case h0 => decide
  case h1 => exact rfl
  case h2 => exact rfl
  case h3 => exact rfl
  case h4 => decide
  case h =>
    intro z hz
    subst hz
    exact Wrap.out (D_dfs.all z y m d h mi sc tx0) hy hm hd hh hmi hs hok
end
end Mine

end
section
open PySem PySem.W PyProof.Rows PySem.Calls PySem.Spec
set_option Elab.async false
namespace Mine
section
set_option maxRecDepth 100000
set_option maxHeartbeats 8000000
theorem filled_ReadO : PySem.Challenge.rw_kl0450_01 = PySem.Challenge.rw_kl0450_01 ∧ ∀ P, Mine.hd.heap_1 P = Mine.hd.heap_1 P := by
  k_fill
  exact ⟨rfl, fun _ => rfl⟩
theorem words_ReadO_01_0 : True := by
  k_with_none
  w_top off
  k_with "body" => ((
  refine Wrap.mk ?_
  intro zzF' zzN' zzB' zzX' zzT' zzhk zzhd zzhu
  (try dsimp only)
  (try k_lift zzB')
  (try k_fold)))
  k_with "idx" => (first | omega | (simp only [fm12]; omega) | (simp only [fd32, fd4, fd100, fd400, fd365, fd1461, fd36524, fd146097, fm365, fm1461, fm36524, fm146097, dbmT]; omega) | (rename ((_ : Int) < dbmT _ + _) => hx9; simp only [dbmT, fd32] at hx9 ⊢; omega))
  k_with "ediv" => (simp only [fd4, fd5, fd7, fd12, fd60, fd100, fd400, fd365, fd1461, fd3600, fd36524, fd86400, fd146097, fm4, fm7, fm12, fm60, fm100, fm365, fm400, fm1461, fm36524, fm86400, fm146097] at *)
  k_with "wpC" => (first
  | with_reducible refine wpC_cons ?_
  | with_reducible refine wpC_nil ?_)
  k_with "ite" => ((k_here; first
  | (k_closed; k_dflt (first | refine ite_pos (by decide) ?_ | refine ite_neg (by decide) ?_))
  | refine ite_pos (by with_reducible assumption) ?_
  | refine ite_neg (by with_reducible assumption) ?_
  | refine ite_isFalse (by with_reducible assumption) ?_
  | refine ite_pos (by k_dec) ?_
  | refine ite_neg (by k_dec) ?_))
  k_with "step" => (first | (k_unfold; (try dsimp only)) | (k_end; wrow_close) | ((with_reducible guard_target = wpAny _ _ (newTuple _) _ _ _); dsimp only; walk1) | walk1 | (dsimp only; walk1) | (leave1; try dsimp only))
  k_with "bodyT" => ((
  refine Wrap.mk ?_
  intro zzF' zzN' zzB' zzX' zzT' zzXB' zzTB' zzD' zzhk zzhd zzhu
  (try dsimp only)
  (try k_lift zzB')
  (try k_fold)))
  k_with "bodyC" => ((
  refine Wrap.mk ?_
  intro zzF' zzN' zzB' zzX' zzT' zzXB' zzTB' zzD' zzhk zzhd zzhu
  (try dsimp only)
  (try k_lift zzB')))
  k_with "call ref" => ((k_here; (with_reducible show wpAny _ _ (call (Value.ref 90) _) _ _ _); k_dflt (refine' Fn.useO (c_dfs _ _ _ _ _ _ _ _ (by assumption) (by assumption) (by assumption) (by assumption) (by assumption) (by assumption) (by assumption)) (by k_asm) (by k_asm) (by k_asm) (by k_asm) (by k_asm) (by first | exact rfl | assumption) (by walk_at "fn:args") (by ktr_room) (by ktr_units) ?_); intro D9 o9 h9 tk9 ho9 F9 N9 hne9; have e9 : _ = _ := ho9; subst e9; (try dsimp only); (try k_fold)))
  trivial
noncomputable def G_readO (z : Dat) (y : Int) (m : Int) (d : Int) (h : Int) (mi : Int) (sc : Int) (tx0 : Tok) : Prop := Wrap ((1 ≤ y ∧ y ≤ 9999) → (1 ≤ m ∧ m ≤ 12) → (0 ≤ d ∧ d < 100) → (0 ≤ h ∧ h < 100) → (0 ≤ mi ∧ mi < 100) → (0 ≤ sc ∧ sc < 100) → (dtOk y m d h mi sc) → FnTB z PySem.Challenge.rw_kl0450_01.row.prog (Mine.hd.heap_1 z.w.params) 2 170 [] [.str (tx (stampL y m d h mi sc)) tx0] (fun v new => ∃ D o x o2, v = .ref D ∧ new = [(D, o), (x, o2)] ∧ (∃ n0 : Nat, o = PySem.W.listOf #[.ref x] n0 ∧ o2 = dtObj y m d h mi sc)) (by k_is) (by exact BindsTo.of_eq rfl))
namespace D_readO
noncomputable def zG (zt : Dat × Int × Int × Int × Int × Int × Int × Tok) : Prop := G_readO (zt.1) (zt.2.1) (zt.2.2.1) (zt.2.2.2.1) (zt.2.2.2.2.1) (zt.2.2.2.2.2.1) (zt.2.2.2.2.2.2.1) (zt.2.2.2.2.2.2.2)
noncomputable def zt : Dat × Int × Int × Int × Int × Int × Int × Tok := haveI : Nonempty Dat := dat_some PySem.Challenge.rw_kl0450_01.row.prog; sk zG
@[irreducible] noncomputable def z : Dat := zt.1
theorem z_def : z = zt.1 := by with_unfolding_all rfl
@[irreducible] noncomputable def y : Int := zt.2.1
theorem y_def : y = zt.2.1 := by with_unfolding_all rfl
@[irreducible] noncomputable def m : Int := zt.2.2.1
theorem m_def : m = zt.2.2.1 := by with_unfolding_all rfl
@[irreducible] noncomputable def d : Int := zt.2.2.2.1
theorem d_def : d = zt.2.2.2.1 := by with_unfolding_all rfl
@[irreducible] noncomputable def h : Int := zt.2.2.2.2.1
theorem h_def : h = zt.2.2.2.2.1 := by with_unfolding_all rfl
@[irreducible] noncomputable def mi : Int := zt.2.2.2.2.2.1
theorem mi_def : mi = zt.2.2.2.2.2.1 := by with_unfolding_all rfl
@[irreducible] noncomputable def sc : Int := zt.2.2.2.2.2.2.1
theorem sc_def : sc = zt.2.2.2.2.2.2.1 := by with_unfolding_all rfl
@[irreducible] noncomputable def tx0 : Tok := zt.2.2.2.2.2.2.2
theorem tx0_def : tx0 = zt.2.2.2.2.2.2.2 := by with_unfolding_all rfl
theorem main : G_readO z y m d h mi sc tx0 := by
  refine Wrap.mk ?_
  intro hy hm hd hh hmi hs hok
  walk_at "bodyT"
  k_with "run:c_readO" => (
    (try dsimp +zetaDelta only)
    as_aux_lemma =>
      walk_at "step"
      all_goals (repeat' ((fail_if_success (with_reducible guard_target = wpAny _ _ (execs (List.cons _ _) _) _ _ _)); walk_at "step"))
      all_goals (first | ((with_reducible guard_target = wpAny _ _ (execs (List.cons _ _) _) _ _ _); k_extra "run:c_readO") | k_extra "tail:c_readO"))
  k_with "tail:c_readO" => (
  all_goals walk_at "fnC:two")
  all_goals (first | ((with_reducible guard_target = wpAny _ _ (execs (List.cons _ _) _) _ _ _); k_extra "run:c_readO") | k_extra "tail:c_readO")
theorem main' : zG zt := by
  have q := main
  rw [z_def, y_def, m_def, d_def, h_def, mi_def, sc_def, tx0_def] at q
  exact q
theorem all (z : Dat) (y : Int) (m : Int) (d : Int) (h : Int) (mi : Int) (sc : Int) (tx0 : Tok) : G_readO z y m d h mi sc tx0 := haveI : Nonempty Dat := dat_some PySem.Challenge.rw_kl0450_01.row.prog; sk_all (G := zG) main' (z, y, m, d, h, mi, sc, tx0)
end D_readO
theorem c_readO (w : World) (y m d h mi sc : Int) (tx0 : Tok) (hy : 1 ≤ y ∧ y ≤ 9999) (hm : 1 ≤ m ∧ m ≤ 12) (hd : 0 ≤ d ∧ d < 100) (hh : 0 ≤ h ∧ h < 100) (hmi : 0 ≤ mi ∧ mi < 100) (hs : 0 ≤ sc ∧ sc < 100) (hok : dtOk y m d h mi sc) : FnT PySem.Challenge.rw_kl0450_01.row.prog w (Mine.hd.heap_1 w.params) 2 170 [] [.str (tx (stampL y m d h mi sc)) tx0] (fun v new => ∃ D o x o2, v = .ref D ∧ new = [(D, o), (x, o2)] ∧ (∃ n0 : Nat, o = PySem.W.listOf #[.ref x] n0 ∧ o2 = dtObj y m d h mi sc)) := by
  refine' FnT.of_B ?ho ?hb ?h ?hcd ?hl ?h0 ?h1 ?h2 ?h3 ?h4
  case ho => k_is
  case hb => exact fun _ => BindsTo.of_eq rfl
  case hcd => k_is
  case hl => exact locs rfl
  case h0 => decide
  case h1 => exact rfl
  case h2 => exact rfl
  case h3 => exact rfl
  case h4 => decide
  case h =>
    intro z hz
    subst hz
    exact Wrap.out (D_readO.all z y m d h mi sc tx0) hy hm hd hh hmi hs hok
end
end Mine

end
section
open PySem PySem.W PyProof.Rows PySem.Calls PySem.Spec
set_option Elab.async false
namespace Mine
section
set_option maxRecDepth 100000
set_option maxHeartbeats 8000000
theorem filled_ReadC : PySem.Challenge.rw_kl0450_01 = PySem.Challenge.rw_kl0450_01 ∧ ∀ P, Mine.hd.heap_1 P = Mine.hd.heap_1 P := by
  k_fill
  exact ⟨rfl, fun _ => rfl⟩
theorem words_ReadC_01_0 : True := by
  k_with_none
  w_top off
  k_with "body" => ((
  refine Wrap.mk ?_
  intro zzF' zzN' zzB' zzX' zzT' zzhk zzhd zzhu
  (try dsimp only)
  (try k_lift zzB')
  (try k_fold)))
  k_with "idx" => (first | omega | (simp only [fm12]; omega) | (simp only [fd32, fd4, fd100, fd400, fd365, fd1461, fd36524, fd146097, fm365, fm1461, fm36524, fm146097, dbmT]; omega) | (rename ((_ : Int) < dbmT _ + _) => hx9; simp only [dbmT, fd32] at hx9 ⊢; omega))
  k_with "ediv" => (simp only [fd4, fd5, fd7, fd12, fd60, fd100, fd400, fd365, fd1461, fd3600, fd36524, fd86400, fd146097, fm4, fm7, fm12, fm60, fm100, fm365, fm400, fm1461, fm36524, fm86400, fm146097] at *)
  k_with "wpC" => (first
  | with_reducible refine wpC_cons ?_
  | with_reducible refine wpC_nil ?_)
  k_with "ite" => ((k_here; first
  | (k_closed; k_dflt (first | refine ite_pos (by decide) ?_ | refine ite_neg (by decide) ?_))
  | refine ite_pos (by with_reducible assumption) ?_
  | refine ite_neg (by with_reducible assumption) ?_
  | refine ite_isFalse (by with_reducible assumption) ?_
  | refine ite_pos (by k_dec) ?_
  | refine ite_neg (by k_dec) ?_))
  k_with "step" => (first | (k_unfold; (try dsimp only)) | (k_end; wrow_close) | ((with_reducible guard_target = wpAny _ _ (newTuple _) _ _ _); dsimp only; walk1) | walk1 | (dsimp only; walk1) | (leave1; try dsimp only))
  k_with "bodyT" => ((
  refine Wrap.mk ?_
  intro zzF' zzN' zzB' zzX' zzT' zzXB' zzTB' zzD' zzhk zzhd zzhu
  (try dsimp only)
  (try k_lift zzB')
  (try k_fold)))
  k_with "bodyC" => ((
  refine Wrap.mk ?_
  intro zzF' zzN' zzB' zzX' zzT' zzXB' zzTB' zzD' zzhk zzhd zzhu
  (try dsimp only)
  (try k_lift zzB')))
  k_with "hi" => (first | with_reducible exact hi_dgs _ | with_reducible exact hi_dg4 _ | with_reducible exact hi_dg2 _ | with_reducible exact hi_clk _ _ _ | with_reducible exact hi_mon (by assumption) | with_reducible exact hi_lmon (by assumption))
  k_with "len" => (first | with_reducible exact len_dgs _ | with_reducible exact len_dg4 _ | with_reducible exact len_dg2 _ | with_reducible exact len_clk _ _ _ | with_reducible exact len_mon (by assumption) | with_reducible exact len_lmon (by assumption) | with_reducible exact len_mail (by assumption))
  k_with "isc" => (first | with_reducible exact comma | with_reducible exact colon | with_reducible exact minus | with_reducible exact plus | rfl)
  k_with "txt" => (first
  | with_reducible exact find_col4 _
  | with_reducible exact ends_c (by walk_at "isc") (hi_no (by walk_at "hi") (by decide))
  | with_reducible exact find_c (by walk_at "isc") (hi_no (by walk_at "hi") (by decide))
  | with_reducible exact rfind_c (by walk_at "isc") (hi_no (by walk_at "hi") (by decide))
  | with_reducible exact lower_dgs _
  | with_reducible exact lower_mon (by assumption)
  | with_reducible exact isdigit_fig _)
  k_with "call builtin:str.split" => ((k_here; (with_reducible show wpAny _ _ (call (Value.builtin "str.split") [Value.str (tx _) _]) _ _ _); k_dflt (
  (refine KSpl.split0 (by k_asm) (by k_asm) ?_ (Nat.le_trans (Nat.add_le_add_right (mailT_len (by assumption)).1 2) (by rw [sizeLine_eq]; decide)))
  intro D' l' h' k' e' a' F' N' l1
  rw [words_mail (by assumption)] at e'
  (try k_lt l1)
  kspl_open e'
  simp only [strValues, List.map_cons, List.map_nil] at N' a'
  (try k_sweep)
  (try k_fold))))
  k_with "truthy str" => ((k_here; (with_reducible show wpAny _ _ (PySem.truthy (Value.str (tx _) _)) _ _ _); k_dflt (refine KXt.truthy_pos (tr_pos (by walk_at "len")) (tr_len (by walk_at "len")) (by decide) ?_; intro _; (try k_fold))))
  k_with "call builtin:str.endswith" => ((k_here; (with_reducible show wpAny _ _ (call (Value.builtin "str.endswith") [Value.str (tx _) _, Value.str _ _]) _ _ _); (refine SC.endswith ?_); (rw [ends_c (by walk_at "isc") (hi_no (by walk_at "hi") (by decide))]); (try k_fold)))
  k_with "call builtin:str.find" => ((k_here; (with_reducible show wpAny _ _ (call (Value.builtin "str.find") [Value.str (tx _) _, Value.str _ _]) _ _ _); (refine KXw.find (by walk_at "txt") ?_); intro _ _; (try k_fold)))
  k_with "call builtin:str.rfind" => ((k_here; (with_reducible show wpAny _ _ (call (Value.builtin "str.rfind") [Value.str (tx _) _, Value.str _ _]) _ _ _); (refine KXw.rfind (by walk_at "txt") ?_); intro _ _; (try k_fold)))
  k_with "call builtin:str.isdigit" => ((k_here; (with_reducible show wpAny _ _ (call (Value.builtin "str.isdigit") [Value.str (tx _) _]) _ _ _); (with_reducible refine KXw.isdigit (isdigit_fig _) ?_); (try k_fold)))
  k_with "call builtin:str.lower" => ((k_here; (with_reducible show wpAny _ _ (call (Value.builtin "str.lower") [Value.str (tx _) _]) _ _ _); (first | with_reducible refine KXw.lower (lower_dgs _) (fit_l (lower_dgs _) (len_dgs _)) ?_ | with_reducible refine KXw.lower (lower_mon (by assumption)) (fit_l (lower_mon (by assumption)) (len_lmon (by assumption))) ?_); intro _ _; (try k_fold)))
  k_with "tabin" => (first | with_reducible exact dgs_not (by decide) _ | with_reducible exact lmon_in (by assumption))
  k_with "compareOp In str ref" => ((k_here; (with_reducible show wpAny _ _ (compareOp CmpOp.In (Value.str (tx _) _) (Value.ref 56)) _ _ _); k_dflt (refine' in_strsK dyTab (by k_asm) (by k_asm) (by k_is) (by decide +kernel) (by walk_at "tabin") ?_; k_whole; (try k_fold))))
  k_with "compareOp NotIn str ref" => ((k_here; (with_reducible show wpAny _ _ (compareOp CmpOp.NotIn (Value.str (tx _) _) (Value.ref 55)) _ _ _); k_dflt (refine' notin_strsK mnTab (by k_asm) (by k_asm) (by k_is) (by decide +kernel) (by walk_at "tabin") ?_; k_whole; (try k_fold))))
  k_with "call builtin:list.index" => ((k_here; k_dflt (refine' index_strsK mnTab (by k_asm) (by k_asm) (by k_is) (by decide +kernel) (by exact lmon_idx (by assumption)) (by (simp only [mnTab, List.length_cons, List.length_nil]; omega)) (by decide) ?_; k_whole; (try k_fold))))
  k_with "call builtin:list.append" => ((k_here; (with_reducible show wpAny _ _ (call (Value.builtin "list.append") [Value.ref _, _]) _ _ _); k_dflt (refine' append_K (by k_asm) (by k_asm) (by k_upd) ?_ (by exact Nat.le_of_ble_eq_true rfl); k_whole); intro h' F' N'; (try k_sweep); (try k_fold)))
  k_with "exec Assign" => (((with_reducible show wpAny _ _ (exec (Stmt.Assign [Expr.List _ _] _ _) _) _ _ _); refine Assign_List ?_))
  k_with "getMethod ref" => ((k_here; (with_reducible show wpAny _ _ (getMethod (Value.ref 55) (PySem.Str.ofString "index") _) _ _ _); k_dflt (refine' index_method (by k_asm) (by k_asm) (by k_is) ?_; k_whole)))
  k_with "lastc" => (first | with_reducible exact dgs_getLast _ | with_reducible exact dg4_last _ | with_reducible exact clk_last _ _ _ | with_reducible exact dg2_last _)
  k_with "headc" => (first | with_reducible exact dg4_head _ | with_reducible exact dg2_head _)
  k_with "subscriptTail Name UnaryOp str int" => ((k_here; (with_reducible show wpAny _ _ (subscriptTail _ _ (Value.str (tx _) _) (Value.int (-1) _)) _ _ _); k_dflt (refine' item_last_tx (by walk_at "lastc") (by exact len1000 (by walk_at "len")) ?_ (by with_unfolding_all rfl) (by intro _; with_unfolding_all rfl); k_whole; intro t9; (try k_fold))))
  k_with "subscriptTail Name Constant str int" => ((k_here; (with_reducible show wpAny _ _ (subscriptTail _ _ (Value.str (tx _) _) (Value.int 0 _)) _ _ _); k_dflt (refine' item_first_tx (by walk_at "headc") (by exact len1000 (by walk_at "len")) ?_ (by with_unfolding_all rfl) (by intro _; with_unfolding_all rfl); k_whole; intro t9; (try k_fold))))
  k_with "txteq" => (first | (refine' fig_ne (by walk_at "isc") (by decide)))
  k_with "compareOp Eq str str" => ((k_here; (with_reducible show wpAny _ _ (compareOp CmpOp.Eq (Value.str (tx _) _) (Value.str _ _)) _ _ _); k_dflt (refine' eq_tx (by walk_at "txteq") ?_; k_whole; (try k_fold))))
  k_with "call builtin:str.split" => ((k_here; (with_reducible show wpAny _ _ (call (Value.builtin "str.split") [Value.str (tx _) _, Value.str _ _]) _ _ _); k_dflt (
  (refine KSpl.split1 (by k_asm) (by k_asm) (by decide) ?_ (fits_l (len1000 (by walk_at "len"))))
  intro D' l' h' k' e' a' F' N' l1
  rw [split_clk2] at e'
  (try k_lt l1)
  kspl_open e'
  simp only [strValues, List.map_cons, List.map_nil] at N' a'
  (try k_sweep)
  (try k_fold))))
  k_with "val" => (first | with_reducible exact val_dg2 (by omega) (by omega) | with_reducible exact val_dg4 (by omega) (by omega) | with_reducible exact val_dgs (by omega) (by omega))
  k_with "call type:int" => ((k_here; (with_reducible show wpAny _ _ (call (Value.type "int") [Value.str (tx _) _]) _ _ _); k_dflt (refine KIN.call_text (by walk_at "val") (Nat.le_trans (len1000' (by walk_at "len")) (by decide)) ?_; (try k_fold))))
  k_with "getMethod ref" => ((k_here; (with_reducible show wpAny _ _ (getMethod (Value.ref 83) (PySem.Str.ofString "match") _) _ _ _); k_dflt (refine' match_method (by k_asm) (by k_asm) (by exact patk _) ?_; k_whole)))
  k_with "call builtin:re.Pattern.match" => ((k_here; k_dflt (refine' match_call (by k_asm) (by k_asm) (by k_asm) (by exact patk _) (by exact rfl) (by exact stampL_same _ _ _ _ _ _) ?_; k_whole); intro tt' D' h' F' N' l1 l2; (try k_lt l1); (try k_sweep); (try k_fold)))
  k_with "getMethod ref" => ((k_here; (with_reducible show wpAny _ _ (getMethod (Value.ref _) (PySem.Str.ofString "groupdict") _) _ _ _); k_dflt (refine' groupdict_method (by k_asm) (by k_mem) ?_; k_whole)))
  k_with "call builtin:re.Match.groupdict" => ((k_here; k_dflt (refine' groupdict_call (by k_asm) (by k_asm) (by k_asm) (by exact patk _) (by k_mem) (by k_mem) ?_; k_whole); intro D' o' h' tk' t1' t2' t3' t4' t5' t6' F' N' l1 l2 hd'; (try k_lt l1); (try k_sweep); (try k_fold)))
  k_with "callWith type:datetime.datetime nil nil" => ((k_here; (with_reducible show wpAny _ _ (callWith _ (Value.type _) [] (backTo _ (starEach [Expr.Starred _ _] _)) []) _ _ _); k_dflt (refine' callWith_T ?_; k_whole)))
  k_with "call type:datetime.datetime" => ((k_here; k_dflt (refine' dt_badK (by assumption) (by exact rfl) (by assumption) (by assumption) (by assumption) (by assumption) (by assumption) (by assumption) ?_); intro h9 tk9 e9 x9; (try dsimp only)))
  k_with "pyIter ref" => ((k_here; (with_reducible show wpAny _ _ (pyIter (Value.ref _)) (fun it s₂ => LoopAtV _ _ _ _ _ _ _ _ _ it s₂) _ _); k_listUnr))
  k_with "call ref" => ((k_here; (with_reducible show wpAny _ _ (call (Value.ref 90) _) _ _ _); k_dflt (refine wpAny_call ?_; refine' code_defS (by k_asm) (by k_asm) (by k_asm) (by k_asm) (by k_asm) (by assumption) (by assumption) (by assumption) (by first | assumption | exact KtsTurn.refl) (by exact rfl) (by k_is) (by k_is) (by ktr_room) (by first | exact binds_K (by k_in) rfl (by k_is) rfl rfl rfl | exact BindsTo.of_eq rfl) (by exact locs rfl) ?_ (by exact rfl) (by exact rfl) (by exact rfl) (by exact rfl) (by decide); k_whole; intro g' L' h' FG' F' N' B' X' T' D'; (try dsimp only); (try k_lift B'); (try k_fold))))
  trivial
noncomputable def G_readN (z : Dat) (y : Int) (m : Int) (d : Int) (h : Int) (mi : Int) (sc : Int) (tx0 : Tok) : Prop := Wrap ((1 ≤ y ∧ y ≤ 9999) → (1 ≤ m ∧ m ≤ 12) → (0 ≤ d ∧ d < 100) → (0 ≤ h ∧ h < 100) → (0 ≤ mi ∧ mi < 100) → (0 ≤ sc ∧ sc < 100) → (¬ dtOk y m d h mi sc) → FnTB z PySem.Challenge.rw_kl0450_01.row.prog (Mine.hd.heap_1 z.w.params) 2 170 [] [.str (tx (stampL y m d h mi sc)) tx0] (fun v new => ∃ D o, v = .ref D ∧ new = [(D, o)] ∧ ∃ n0 : Nat, o = PySem.W.listOf #[] n0) (by k_is) (by exact BindsTo.of_eq rfl))
namespace D_readN
noncomputable def zG (zt : Dat × Int × Int × Int × Int × Int × Int × Tok) : Prop := G_readN (zt.1) (zt.2.1) (zt.2.2.1) (zt.2.2.2.1) (zt.2.2.2.2.1) (zt.2.2.2.2.2.1) (zt.2.2.2.2.2.2.1) (zt.2.2.2.2.2.2.2)
noncomputable def zt : Dat × Int × Int × Int × Int × Int × Int × Tok := haveI : Nonempty Dat := dat_some PySem.Challenge.rw_kl0450_01.row.prog; sk zG
@[irreducible] noncomputable def z : Dat := zt.1
theorem z_def : z = zt.1 := by with_unfolding_all rfl
@[irreducible] noncomputable def y : Int := zt.2.1
theorem y_def : y = zt.2.1 := by with_unfolding_all rfl
@[irreducible] noncomputable def m : Int := zt.2.2.1
theorem m_def : m = zt.2.2.1 := by with_unfolding_all rfl
@[irreducible] noncomputable def d : Int := zt.2.2.2.1
theorem d_def : d = zt.2.2.2.1 := by with_unfolding_all rfl
@[irreducible] noncomputable def h : Int := zt.2.2.2.2.1
theorem h_def : h = zt.2.2.2.2.1 := by with_unfolding_all rfl
@[irreducible] noncomputable def mi : Int := zt.2.2.2.2.2.1
theorem mi_def : mi = zt.2.2.2.2.2.1 := by with_unfolding_all rfl
@[irreducible] noncomputable def sc : Int := zt.2.2.2.2.2.2.1
theorem sc_def : sc = zt.2.2.2.2.2.2.1 := by with_unfolding_all rfl
@[irreducible] noncomputable def tx0 : Tok := zt.2.2.2.2.2.2.2
theorem tx0_def : tx0 = zt.2.2.2.2.2.2.2 := by with_unfolding_all rfl
theorem main : G_readN z y m d h mi sc tx0 := by
  refine Wrap.mk ?_
  intro hy hm hd hh hmi hs hno
  walk_at "bodyT"
  k_with "run:c_readN" => (
    (try dsimp +zetaDelta only)
    as_aux_lemma =>
      walk_at "step"
      all_goals (repeat' ((fail_if_success (with_reducible guard_target = wpAny _ _ (execs (List.cons _ _) _) _ _ _)); walk_at "step"))
      all_goals (first | ((with_reducible guard_target = wpAny _ _ (execs (List.cons _ _) _) _ _ _); k_extra "run:c_readN") | k_extra "tail:c_readN"))
  k_with "tail:c_readN" => (
  all_goals walk_at "fnC:obj"
  all_goals exact ⟨_, rfl⟩)
  all_goals (first | ((with_reducible guard_target = wpAny _ _ (execs (List.cons _ _) _) _ _ _); k_extra "run:c_readN") | k_extra "tail:c_readN")
theorem main' : zG zt := by
  have q := main
  rw [z_def, y_def, m_def, d_def, h_def, mi_def, sc_def, tx0_def] at q
  exact q
theorem all (z : Dat) (y : Int) (m : Int) (d : Int) (h : Int) (mi : Int) (sc : Int) (tx0 : Tok) : G_readN z y m d h mi sc tx0 := haveI : Nonempty Dat := dat_some PySem.Challenge.rw_kl0450_01.row.prog; sk_all (G := zG) main' (z, y, m, d, h, mi, sc, tx0)
end D_readN
theorem c_readN (w : World) (y m d h mi sc : Int) (tx0 : Tok) (hy : 1 ≤ y ∧ y ≤ 9999) (hm : 1 ≤ m ∧ m ≤ 12) (hd : 0 ≤ d ∧ d < 100) (hh : 0 ≤ h ∧ h < 100) (hmi : 0 ≤ mi ∧ mi < 100) (hs : 0 ≤ sc ∧ sc < 100) (hno : ¬ dtOk y m d h mi sc) : FnT PySem.Challenge.rw_kl0450_01.row.prog w (Mine.hd.heap_1 w.params) 2 170 [] [.str (tx (stampL y m d h mi sc)) tx0] (fun v new => ∃ D o, v = .ref D ∧ new = [(D, o)] ∧ ∃ n0 : Nat, o = PySem.W.listOf #[] n0) := by
  refine' FnT.of_B ?ho ?hb ?h ?hcd ?hl ?h0 ?h1 ?h2 ?h3 ?h4
  case ho => k_is
  case hb => exact fun _ => BindsTo.of_eq rfl
  case hcd => k_is
  case hl => exact locs rfl
  case h0 => decide
  case h1 => exact rfl
  case h2 => exact rfl
  case h3 => exact rfl
  case h4 => decide
  case h =>
    intro z hz
    subst hz
    exact Wrap.out (D_readN.all z y m d h mi sc tx0) hy hm hd hh hmi hs hno
end
end Mine

end
section
open PySem PySem.W PyProof.Rows PySem.Calls PySem.Spec
set_option Elab.async false
namespace Mine
section
set_option maxRecDepth 100000
set_option maxHeartbeats 8000000
theorem filled_DtsC : PySem.Challenge.rw_kl0450_01 = PySem.Challenge.rw_kl0450_01 ∧ ∀ P, Mine.hd.heap_1 P = Mine.hd.heap_1 P := by
  k_fill
  exact ⟨rfl, fun _ => rfl⟩
theorem words_DtsC_01_0 : True := by
  k_with_none
  w_top off
  k_with "body" => ((
  refine Wrap.mk ?_
  intro zzF' zzN' zzB' zzX' zzT' zzhk zzhd zzhu
  (try dsimp only)
  (try k_lift zzB')
  (try k_fold)))
  k_with "idx" => (first | omega | (simp only [fm12]; omega) | (simp only [fd32, fd4, fd100, fd400, fd365, fd1461, fd36524, fd146097, fm365, fm1461, fm36524, fm146097, dbmT]; omega) | (rename ((_ : Int) < dbmT _ + _) => hx9; simp only [dbmT, fd32] at hx9 ⊢; omega))
  k_with "ediv" => (simp only [fd4, fd5, fd7, fd12, fd60, fd100, fd400, fd365, fd1461, fd3600, fd36524, fd86400, fd146097, fm4, fm7, fm12, fm60, fm100, fm365, fm400, fm1461, fm36524, fm86400, fm146097] at *)
  k_with "wpC" => (first
  | with_reducible refine wpC_cons ?_
  | with_reducible refine wpC_nil ?_)
  k_with "ite" => ((k_here; first
  | (k_closed; k_dflt (first | refine ite_pos (by decide) ?_ | refine ite_neg (by decide) ?_))
  | refine ite_pos (by with_reducible assumption) ?_
  | refine ite_neg (by with_reducible assumption) ?_
  | refine ite_isFalse (by with_reducible assumption) ?_
  | refine ite_pos (by k_dec) ?_
  | refine ite_neg (by k_dec) ?_))
  k_with "step" => (first | (k_unfold; (try dsimp only)) | (k_end; wrow_close) | ((with_reducible guard_target = wpAny _ _ (newTuple _) _ _ _); dsimp only; walk1) | walk1 | (dsimp only; walk1) | (leave1; try dsimp only))
  k_with "bodyT" => ((
  refine Wrap.mk ?_
  intro zzF' zzN' zzB' zzX' zzT' zzXB' zzTB' zzD' zzhk zzhd zzhu
  (try dsimp only)
  (try k_lift zzB')
  (try k_fold)))
  k_with "bodyC" => ((
  refine Wrap.mk ?_
  intro zzF' zzN' zzB' zzX' zzT' zzXB' zzTB' zzD' zzhk zzhd zzhu
  (try dsimp only)
  (try k_lift zzB')))
  k_with "getAttr ref" => ((k_here; (with_reducible show wpAny _ _ (getAttr (Value.ref _) (PySem.Str.ofString "year") _) _ _ _); k_dflt (refine' attrK_year (by k_asm) (by k_mem) ?_; k_whole); intro t9 k9; (try k_fold)))
  k_with "getAttr ref" => ((k_here; (with_reducible show wpAny _ _ (getAttr (Value.ref _) (PySem.Str.ofString "month") _) _ _ _); k_dflt (refine' attrK_month (by k_asm) (by k_mem) ?_; k_whole); intro t9 k9; (try k_fold)))
  k_with "getAttr ref" => ((k_here; (with_reducible show wpAny _ _ (getAttr (Value.ref _) (PySem.Str.ofString "day") _) _ _ _); k_dflt (refine' attrK_day (by k_asm) (by k_mem) ?_; k_whole); intro t9 k9; (try k_fold)))
  k_with "getAttr ref" => ((k_here; (with_reducible show wpAny _ _ (getAttr (Value.ref _) (PySem.Str.ofString "hour") _) _ _ _); k_dflt (refine' attrK_hour (by k_asm) (by k_mem) ?_; k_whole); intro t9 k9; (try k_fold)))
  k_with "getAttr ref" => ((k_here; (with_reducible show wpAny _ _ (getAttr (Value.ref _) (PySem.Str.ofString "minute") _) _ _ _); k_dflt (refine' attrK_minute (by k_asm) (by k_mem) ?_; k_whole); intro t9 k9; (try k_fold)))
  k_with "getAttr ref" => ((k_here; (with_reducible show wpAny _ _ (getAttr (Value.ref _) (PySem.Str.ofString "second") _) _ _ _); k_dflt (refine' attrK_second (by k_asm) (by k_mem) ?_; k_whole); intro t9 k9; (try k_fold)))
  k_with "getAttr ref" => ((k_here; (with_reducible show wpAny _ _ (getAttr (Value.ref _) (PySem.Str.ofString "microsecond") _) _ _ _); k_dflt (refine' attrK_microsecond (by k_asm) (by k_mem) ?_; k_whole); intro t9 k9; (try k_fold)))
  k_with "getAttr ref" => ((k_here; (with_reducible show wpAny _ _ (getAttr (Value.ref _) (PySem.Str.ofString "tzinfo") _) _ _ _); k_dflt (refine' attrK_tzinfo (by k_asm) (by k_mem) ?_; k_whole); intro t9 k9; (try k_fold)))
  k_with "binaryOp Mod str ref" => ((k_here; (with_reducible show wpAny _ _ (binaryOp Operator.Mod (Value.str _ _) (Value.ref _)) _ _ _); k_dflt (refine' KPt.mod_tuple (by k_asm) (by k_mem) ?_ (by exact fmt_stamp _ _ _ _ _ _ _ _ _ _ _ _ _ _ (by omega) (by omega) (by omega) (by omega) (by omega) (by omega) (by omega) (by omega) (by omega) (by omega) (by omega) (by omega)) ?_; (decide +kernel)); intro t9 k9; (try k_fold)))
  trivial
noncomputable def G_dts (z : Dat) (y : Int) (m : Int) (d : Int) (h : Int) (mi : Int) (sc : Int) (a0 : Addr) : Prop := Wrap ((0 ≤ y ∧ y < 10000) → (0 ≤ m ∧ m < 100) → (0 ≤ d ∧ d < 100) → (0 ≤ h ∧ h < 100) → (0 ≤ mi ∧ mi < 100) → (0 ≤ sc ∧ sc < 100) → FnB z PySem.Challenge.rw_kl0450_01.row.prog (Mine.hd.heap_1 z.w.params) 1 97 [(a0, dtObj y m d h mi sc)] [.ref a0, .bool false] (fun v new => new = [] ∧ ∃ t : Tok, v = .str (tx (stampL y m d h mi sc)) t) (by k_is) (by exact BindsTo.of_eq rfl))
namespace D_dts
noncomputable def zG (zt : Dat × Int × Int × Int × Int × Int × Int × Addr) : Prop := G_dts (zt.1) (zt.2.1) (zt.2.2.1) (zt.2.2.2.1) (zt.2.2.2.2.1) (zt.2.2.2.2.2.1) (zt.2.2.2.2.2.2.1) (zt.2.2.2.2.2.2.2)
noncomputable def zt : Dat × Int × Int × Int × Int × Int × Int × Addr := haveI : Nonempty Dat := dat_some PySem.Challenge.rw_kl0450_01.row.prog; sk zG
@[irreducible] noncomputable def z : Dat := zt.1
theorem z_def : z = zt.1 := by with_unfolding_all rfl
@[irreducible] noncomputable def y : Int := zt.2.1
theorem y_def : y = zt.2.1 := by with_unfolding_all rfl
@[irreducible] noncomputable def m : Int := zt.2.2.1
theorem m_def : m = zt.2.2.1 := by with_unfolding_all rfl
@[irreducible] noncomputable def d : Int := zt.2.2.2.1
theorem d_def : d = zt.2.2.2.1 := by with_unfolding_all rfl
@[irreducible] noncomputable def h : Int := zt.2.2.2.2.1
theorem h_def : h = zt.2.2.2.2.1 := by with_unfolding_all rfl
@[irreducible] noncomputable def mi : Int := zt.2.2.2.2.2.1
theorem mi_def : mi = zt.2.2.2.2.2.1 := by with_unfolding_all rfl
@[irreducible] noncomputable def sc : Int := zt.2.2.2.2.2.2.1
theorem sc_def : sc = zt.2.2.2.2.2.2.1 := by with_unfolding_all rfl
@[irreducible] noncomputable def a0 : Addr := zt.2.2.2.2.2.2.2
theorem a0_def : a0 = zt.2.2.2.2.2.2.2 := by with_unfolding_all rfl
theorem main : G_dts z y m d h mi sc a0 := by
  refine Wrap.mk ?_
  intro hy hm hd hh hmi hs
  walk_at "body"
  k_with "run:c_dts" => (
    (try dsimp +zetaDelta only)
    as_aux_lemma =>
      walk_at "step"
      all_goals (repeat' ((fail_if_success (with_reducible guard_target = wpAny _ _ (execs (List.cons _ _) _) _ _ _)); walk_at "step"))
      all_goals (first | ((with_reducible guard_target = wpAny _ _ (execs (List.cons _ _) _) _ _ _); k_extra "run:c_dts") | k_extra "tail:c_dts"))
  k_with "tail:c_dts" => (
  all_goals walk_at "fn:str"
  all_goals rfl)
  all_goals (first | ((with_reducible guard_target = wpAny _ _ (execs (List.cons _ _) _) _ _ _); k_extra "run:c_dts") | k_extra "tail:c_dts")
theorem main' : zG zt := by
  have q := main
  rw [z_def, y_def, m_def, d_def, h_def, mi_def, sc_def, a0_def] at q
  exact q
theorem all (z : Dat) (y : Int) (m : Int) (d : Int) (h : Int) (mi : Int) (sc : Int) (a0 : Addr) : G_dts z y m d h mi sc a0 := haveI : Nonempty Dat := dat_some PySem.Challenge.rw_kl0450_01.row.prog; sk_all (G := zG) main' (z, y, m, d, h, mi, sc, a0)
end D_dts
theorem c_dts (w : World) (y m d h mi sc : Int) (a0 : Addr) (hy : 0 ≤ y ∧ y < 10000) (hm : 0 ≤ m ∧ m < 100) (hd : 0 ≤ d ∧ d < 100) (hh : 0 ≤ h ∧ h < 100) (hmi : 0 ≤ mi ∧ mi < 100) (hs : 0 ≤ sc ∧ sc < 100) : Fn PySem.Challenge.rw_kl0450_01.row.prog w (Mine.hd.heap_1 w.params) 1 97 [(a0, dtObj y m d h mi sc)] [.ref a0, .bool false] (fun v new => new = [] ∧ ∃ t : Tok, v = .str (tx (stampL y m d h mi sc)) t) := by
  refine' Fn.of_B ?ho ?hb ?h ?hcd ?hl ?h0 ?h1 ?h2 ?h3 ?h4
  case ho => k_is
  case hb => exact fun _ => BindsTo.of_eq rfl
  case hcd => k_is
  case hl => exact locs rfl
  case h0 => decide
  case h1 => exact rfl
  case h2 => exact rfl
  case h3 => exact rfl
  case h4 => decide
  case h =>
    intro z hz
    subst hz
    exact Wrap.out (D_dts.all z y m d h mi sc a0) hy hm hd hh hmi hs
end
end Mine

end
section
open PySem PySem.W PyProof.Rows PySem.Calls PySem.Spec
set_option Elab.async false
namespace Mine
section
set_option maxRecDepth 100000
set_option maxHeartbeats 8000000
theorem filled_NumV : PySem.Challenge.rw_kl0450_01 = PySem.Challenge.rw_kl0450_01 ∧ ∀ P, Mine.hd.heap_1 P = Mine.hd.heap_1 P := by
  k_fill
  exact ⟨rfl, fun _ => rfl⟩
theorem words_NumV_01_0 : True := by
  k_with_none
  w_top off
  k_with "body" => ((
  refine Wrap.mk ?_
  intro zzF' zzN' zzB' zzX' zzT' zzhk zzhd zzhu
  (try dsimp only)
  (try k_lift zzB')
  (try k_fold)))
  k_with "idx" => (first | omega | (simp only [fm12]; omega) | (simp only [fd32, fd4, fd100, fd400, fd365, fd1461, fd36524, fd146097, fm365, fm1461, fm36524, fm146097, dbmT]; omega) | (rename ((_ : Int) < dbmT _ + _) => hx9; simp only [dbmT, fd32] at hx9 ⊢; omega))
  k_with "ediv" => (simp only [fd4, fd5, fd7, fd12, fd60, fd100, fd400, fd365, fd1461, fd3600, fd36524, fd86400, fd146097, fm4, fm7, fm12, fm60, fm100, fm365, fm400, fm1461, fm36524, fm86400, fm146097] at *)
  k_with "wpC" => (first
  | with_reducible refine wpC_cons ?_
  | with_reducible refine wpC_nil ?_)
  k_with "ite" => ((k_here; first
  | (k_closed; k_dflt (first | refine ite_pos (by decide) ?_ | refine ite_neg (by decide) ?_))
  | refine ite_pos (by with_reducible assumption) ?_
  | refine ite_neg (by with_reducible assumption) ?_
  | refine ite_isFalse (by with_reducible assumption) ?_
  | refine ite_pos (by k_dec) ?_
  | refine ite_neg (by k_dec) ?_))
  k_with "step" => (first | (k_unfold; (try dsimp only)) | (k_end; wrow_close) | ((with_reducible guard_target = wpAny _ _ (newTuple _) _ _ _); dsimp only; walk1) | walk1 | (dsimp only; walk1) | (leave1; try dsimp only))
  k_with "bodyT" => ((
  refine Wrap.mk ?_
  intro zzF' zzN' zzB' zzX' zzT' zzXB' zzTB' zzD' zzhk zzhd zzhu
  (try dsimp only)
  (try k_lift zzB')
  (try k_fold)))
  k_with "bodyC" => ((
  refine Wrap.mk ?_
  intro zzF' zzN' zzB' zzX' zzT' zzXB' zzTB' zzD' zzhk zzhd zzhu
  (try dsimp only)
  (try k_lift zzB')))
  k_with "call ref" => ((k_here; (with_reducible show wpAny _ _ (call (Value.ref 139) _) _ _ _); k_dflt (refine' Fn.useV (c_ymd _ _ _ _ _ _ _ (by assumption)) (by k_asm) (by k_asm) (by k_asm) (by k_asm) (by k_asm) (by first | exact rfl | assumption) (by walk_at "fn:args") (by ktr_room) (by ktr_units) ?_); intro t9 h9 tk9 F9 N9; (try dsimp only); (try k_fold)))
  trivial
noncomputable def G_numV (z : Dat) (y : Int) (m : Int) (d : Int) (ty : Tok) (tm : Tok) (td : Tok) : Prop := Wrap ((Valid y m d) → FnTB z PySem.Challenge.rw_kl0450_01.row.prog (Mine.hd.heap_1 z.w.params) 4 177 [] [.int y ty, .int m tm, .int d td] (fun v new => ∃ D o, v = .ref D ∧ new = [(D, o)] ∧ ∃ (t : Tok) (n0 : Nat), o = PySem.W.listOf #[.int (first y m + d - 1) t] n0) (by k_is) (by exact BindsTo.of_eq rfl))
namespace D_numV
noncomputable def zG (zt : Dat × Int × Int × Int × Tok × Tok × Tok) : Prop := G_numV (zt.1) (zt.2.1) (zt.2.2.1) (zt.2.2.2.1) (zt.2.2.2.2.1) (zt.2.2.2.2.2.1) (zt.2.2.2.2.2.2)
noncomputable def zt : Dat × Int × Int × Int × Tok × Tok × Tok := haveI : Nonempty Dat := dat_some PySem.Challenge.rw_kl0450_01.row.prog; sk zG
@[irreducible] noncomputable def z : Dat := zt.1
theorem z_def : z = zt.1 := by with_unfolding_all rfl
@[irreducible] noncomputable def y : Int := zt.2.1
theorem y_def : y = zt.2.1 := by with_unfolding_all rfl
@[irreducible] noncomputable def m : Int := zt.2.2.1
theorem m_def : m = zt.2.2.1 := by with_unfolding_all rfl
@[irreducible] noncomputable def d : Int := zt.2.2.2.1
theorem d_def : d = zt.2.2.2.1 := by with_unfolding_all rfl
@[irreducible] noncomputable def ty : Tok := zt.2.2.2.2.1
theorem ty_def : ty = zt.2.2.2.2.1 := by with_unfolding_all rfl
@[irreducible] noncomputable def tm : Tok := zt.2.2.2.2.2.1
theorem tm_def : tm = zt.2.2.2.2.2.1 := by with_unfolding_all rfl
@[irreducible] noncomputable def td : Tok := zt.2.2.2.2.2.2
theorem td_def : td = zt.2.2.2.2.2.2 := by with_unfolding_all rfl
theorem main : G_numV z y m d ty tm td := by
  refine Wrap.mk ?_
  intro v
  walk_at "bodyT"
  k_with "run:c_numV" => (
    (try dsimp +zetaDelta only)
    as_aux_lemma =>
      walk_at "step"
      all_goals (repeat' ((fail_if_success (with_reducible guard_target = wpAny _ _ (execs (List.cons _ _) _) _ _ _)); walk_at "step"))
      all_goals (first | ((with_reducible guard_target = wpAny _ _ (execs (List.cons _ _) _) _ _ _); k_extra "run:c_numV") | k_extra "tail:c_numV"))
  k_with "tail:c_numV" => (
  all_goals walk_at "fnC:obj"
  all_goals exact ⟨_, _, rfl⟩)
  all_goals (first | ((with_reducible guard_target = wpAny _ _ (execs (List.cons _ _) _) _ _ _); k_extra "run:c_numV") | k_extra "tail:c_numV")
theorem main' : zG zt := by
  have q := main
  rw [z_def, y_def, m_def, d_def, ty_def, tm_def, td_def] at q
  exact q
theorem all (z : Dat) (y : Int) (m : Int) (d : Int) (ty : Tok) (tm : Tok) (td : Tok) : G_numV z y m d ty tm td := haveI : Nonempty Dat := dat_some PySem.Challenge.rw_kl0450_01.row.prog; sk_all (G := zG) main' (z, y, m, d, ty, tm, td)
end D_numV
theorem c_numV (w : World) (y m d : Int) (ty tm td : Tok) (v : Valid y m d) : FnT PySem.Challenge.rw_kl0450_01.row.prog w (Mine.hd.heap_1 w.params) 4 177 [] [.int y ty, .int m tm, .int d td] (fun v new => ∃ D o, v = .ref D ∧ new = [(D, o)] ∧ ∃ (t : Tok) (n0 : Nat), o = PySem.W.listOf #[.int (first y m + d - 1) t] n0) := by
  refine' FnT.of_B ?ho ?hb ?h ?hcd ?hl ?h0 ?h1 ?h2 ?h3 ?h4
  case ho => k_is
  case hb => exact fun _ => BindsTo.of_eq rfl
  case hcd => k_is
  case hl => exact locs rfl
  case h0 => decide
  case h1 => exact rfl
  case h2 => exact rfl
  case h3 => exact rfl
  case h4 => decide
  case h =>
    intro z hz
    subst hz
    exact Wrap.out (D_numV.all z y m d ty tm td) v
end
end Mine

end
section
open PySem PySem.W PyProof.Rows PySem.Calls PySem.Spec
set_option Elab.async false
namespace Mine
section
set_option maxRecDepth 100000
set_option maxHeartbeats 8000000
theorem filled_NumN : PySem.Challenge.rw_kl0450_01 = PySem.Challenge.rw_kl0450_01 ∧ ∀ P, Mine.hd.heap_1 P = Mine.hd.heap_1 P := by
  k_fill
  exact ⟨rfl, fun _ => rfl⟩
theorem words_NumN_01_0 : True := by
  k_with_none
  w_top off
  k_with "body" => ((
  refine Wrap.mk ?_
  intro zzF' zzN' zzB' zzX' zzT' zzhk zzhd zzhu
  (try dsimp only)
  (try k_lift zzB')
  (try k_fold)))
  k_with "idx" => (first | omega | (simp only [fm12]; omega) | (simp only [fd32, fd4, fd100, fd400, fd365, fd1461, fd36524, fd146097, fm365, fm1461, fm36524, fm146097, dbmT]; omega) | (rename ((_ : Int) < dbmT _ + _) => hx9; simp only [dbmT, fd32] at hx9 ⊢; omega))
  k_with "ediv" => (simp only [fd4, fd5, fd7, fd12, fd60, fd100, fd400, fd365, fd1461, fd3600, fd36524, fd86400, fd146097, fm4, fm7, fm12, fm60, fm100, fm365, fm400, fm1461, fm36524, fm86400, fm146097] at *)
  k_with "wpC" => (first
  | with_reducible refine wpC_cons ?_
  | with_reducible refine wpC_nil ?_)
  k_with "ite" => ((k_here; first
  | (k_closed; k_dflt (first | refine ite_pos (by decide) ?_ | refine ite_neg (by decide) ?_))
  | refine ite_pos (by with_reducible assumption) ?_
  | refine ite_neg (by with_reducible assumption) ?_
  | refine ite_isFalse (by with_reducible assumption) ?_
  | refine ite_pos (by k_dec) ?_
  | refine ite_neg (by k_dec) ?_))
  k_with "step" => (first | (k_unfold; (try dsimp only)) | (k_end; wrow_close) | ((with_reducible guard_target = wpAny _ _ (newTuple _) _ _ _); dsimp only; walk1) | walk1 | (dsimp only; walk1) | (leave1; try dsimp only))
  k_with "bodyT" => ((
  refine Wrap.mk ?_
  intro zzF' zzN' zzB' zzX' zzT' zzXB' zzTB' zzD' zzhk zzhd zzhu
  (try dsimp only)
  (try k_lift zzB')
  (try k_fold)))
  k_with "bodyC" => ((
  refine Wrap.mk ?_
  intro zzF' zzN' zzB' zzX' zzT' zzXB' zzTB' zzD' zzhk zzhd zzhu
  (try dsimp only)
  (try k_lift zzB')))
  k_with "binaryOp Mod str int" => ((k_here; k_dflt (refine' mod_day (by exact Int.le_trans (by decide) (dim_rng (by assumption)).1) (by exact Int.lt_of_le_of_lt (dim_rng (by assumption)).2 (by decide)) ?_); intro t9 k9; (try k_fold)))
  k_with "call ref" => ((k_here; (with_reducible show wpAny _ _ (call (Value.ref 111) _) _ _ _); k_dflt (refine' Fn.useV (c_leap _ _ _) (by k_asm) (by k_asm) (by k_asm) (by k_asm) (by k_asm) (by first | exact rfl | assumption) (by walk_at "fn:args") (by ktr_room) (by ktr_units) ?_); intro t9 h9 tk9 F9 N9; (try dsimp only); (try k_fold)))
  k_with "call ref" => ((k_here; (with_reducible show wpAny _ _ (call (Value.ref 118) _) _ _ _); k_dflt (refine' Fn.useV (c_dby _ _ _) (by k_asm) (by k_asm) (by k_asm) (by k_asm) (by k_asm) (by first | exact rfl | assumption) (by walk_at "fn:args") (by ktr_room) (by ktr_units) ?_); intro t9 h9 tk9 F9 N9; (try dsimp only); (try k_fold)))
  k_with "call ref" => ((k_here; (with_reducible show wpAny _ _ (call (Value.ref 163) _) _ _ _); k_dflt (refine' Fn.useV (c_first _ _ _ _ _) (by k_asm) (by k_asm) (by k_asm) (by k_asm) (by k_asm) (by first | exact rfl | assumption) (by walk_at "fn:args") (by ktr_room) (by ktr_units) ?_); intro t9 h9 tk9 F9 N9; (try dsimp only); (try k_fold)))
  k_with "subscriptTail" => ((k_here; (with_reducible show wpAny _ _ (subscriptTail _ _ (Value.ref 98) (Value.int _ _)) _ _ _); k_dflt (refine' item_tabK dimT 1 12 (by k_asm) (by k_asm) (by k_is) (by decide +kernel) (by decide) (by walk_at "idx") (by walk_at "idx") (by decide) ?_ (by with_unfolding_all rfl); k_whole; intro t9; (try dsimp only); (try k_fold))))
  k_with "subscriptTail" => ((k_here; (with_reducible show wpAny _ _ (subscriptTail _ _ (Value.ref 99) (Value.int _ _)) _ _ _); k_dflt (refine' item_tabK dbmT 1 12 (by k_asm) (by k_asm) (by k_is) (by decide +kernel) (by decide) (by walk_at "idx") (by walk_at "idx") (by decide) ?_ (by with_unfolding_all rfl); k_whole; intro t9; (try dsimp only); (try k_fold))))
  k_with "call ref" => ((k_here; (with_reducible show wpAny _ _ (call (Value.ref 125) _) _ _ _); k_dflt (refine' Fn.useV (c_dim _ _ _ _ _ (by exact ⟨by walk_at "idx", by walk_at "idx"⟩)) (by k_asm) (by k_asm) (by k_asm) (by k_asm) (by k_asm) (by first | exact rfl | assumption) (by walk_at "fn:args") (by ktr_room) (by ktr_units) ?_); intro t9 h9 tk9 F9 N9; (try dsimp only); (try k_fold)))
  k_with "call ref" => ((k_here; (with_reducible show wpAny _ _ (call (Value.ref 132) _) _ _ _); k_dflt (refine' Fn.useV (c_dbm _ _ _ _ _ (by exact ⟨by walk_at "idx", by walk_at "idx"⟩)) (by k_asm) (by k_asm) (by k_asm) (by k_asm) (by k_asm) (by first | exact rfl | assumption) (by walk_at "fn:args") (by ktr_room) (by ktr_units) ?_); intro t9 h9 tk9 F9 N9; (try dsimp only); (try k_fold)))
  k_with "call ref" => ((k_here; (with_reducible show wpAny _ _ (call (Value.ref 139) _) _ _ _); k_dflt (refine wpAny_call ?_; refine' code_defS (by k_asm) (by k_asm) (by k_asm) (by k_asm) (by k_asm) (by assumption) (by assumption) (by assumption) (by first | assumption | exact KtsTurn.refl) (by exact rfl) (by k_is) (by k_is) (by ktr_room) (by first | exact binds_K (by k_in) rfl (by k_is) rfl rfl rfl | exact BindsTo.of_eq rfl) (by exact locs rfl) ?_ (by exact rfl) (by exact rfl) (by exact rfl) (by exact rfl) (by decide); k_whole; intro g' L' h' FG' F' N' B' X' T' D'; (try dsimp only); (try k_lift B'); (try k_fold))))
  trivial
noncomputable def G_numN (z : Dat) (y : Int) (m : Int) (d : Int) (ty : Tok) (tm : Tok) (td : Tok) : Prop := Wrap ((1 ≤ m ∧ m ≤ 12) → (¬ (1 ≤ d ∧ d ≤ dim y m)) → FnTB z PySem.Challenge.rw_kl0450_01.row.prog (Mine.hd.heap_1 z.w.params) 4 177 [] [.int y ty, .int m tm, .int d td] (fun v new => ∃ D o, v = .ref D ∧ new = [(D, o)] ∧ ∃ n0 : Nat, o = PySem.W.listOf #[] n0) (by k_is) (by exact BindsTo.of_eq rfl))
namespace D_numN
noncomputable def zG (zt : Dat × Int × Int × Int × Tok × Tok × Tok) : Prop := G_numN (zt.1) (zt.2.1) (zt.2.2.1) (zt.2.2.2.1) (zt.2.2.2.2.1) (zt.2.2.2.2.2.1) (zt.2.2.2.2.2.2)
noncomputable def zt : Dat × Int × Int × Int × Tok × Tok × Tok := haveI : Nonempty Dat := dat_some PySem.Challenge.rw_kl0450_01.row.prog; sk zG
@[irreducible] noncomputable def z : Dat := zt.1
theorem z_def : z = zt.1 := by with_unfolding_all rfl
@[irreducible] noncomputable def y : Int := zt.2.1
theorem y_def : y = zt.2.1 := by with_unfolding_all rfl
@[irreducible] noncomputable def m : Int := zt.2.2.1
theorem m_def : m = zt.2.2.1 := by with_unfolding_all rfl
@[irreducible] noncomputable def d : Int := zt.2.2.2.1
theorem d_def : d = zt.2.2.2.1 := by with_unfolding_all rfl
@[irreducible] noncomputable def ty : Tok := zt.2.2.2.2.1
theorem ty_def : ty = zt.2.2.2.2.1 := by with_unfolding_all rfl
@[irreducible] noncomputable def tm : Tok := zt.2.2.2.2.2.1
theorem tm_def : tm = zt.2.2.2.2.2.1 := by with_unfolding_all rfl
@[irreducible] noncomputable def td : Tok := zt.2.2.2.2.2.2
theorem td_def : td = zt.2.2.2.2.2.2 := by with_unfolding_all rfl
theorem main : G_numN z y m d ty tm td := by
  refine Wrap.mk ?_
  intro hm hno
  walk_at "bodyT"
  k_with "run:c_numN" => (
    (try dsimp +zetaDelta only)
    as_aux_lemma =>
      walk_at "step"
      all_goals (repeat' ((fail_if_success (with_reducible guard_target = wpAny _ _ (execs (List.cons _ _) _) _ _ _)); walk_at "step"))
      all_goals (first | ((with_reducible guard_target = wpAny _ _ (execs (List.cons _ _) _) _ _ _); k_extra "run:c_numN") | k_extra "tail:c_numN"))
  k_with "tail:c_numN" => (
  all_goals walk_at "fnC:obj"
  all_goals exact ⟨_, rfl⟩)
  all_goals (first | ((with_reducible guard_target = wpAny _ _ (execs (List.cons _ _) _) _ _ _); k_extra "run:c_numN") | k_extra "tail:c_numN")
theorem main' : zG zt := by
  have q := main
  rw [z_def, y_def, m_def, d_def, ty_def, tm_def, td_def] at q
  exact q
theorem all (z : Dat) (y : Int) (m : Int) (d : Int) (ty : Tok) (tm : Tok) (td : Tok) : G_numN z y m d ty tm td := haveI : Nonempty Dat := dat_some PySem.Challenge.rw_kl0450_01.row.prog; sk_all (G := zG) main' (z, y, m, d, ty, tm, td)
end D_numN
theorem c_numN (w : World) (y m d : Int) (ty tm td : Tok) (hm : 1 ≤ m ∧ m ≤ 12) (hno : ¬ (1 ≤ d ∧ d ≤ dim y m)) : FnT PySem.Challenge.rw_kl0450_01.row.prog w (Mine.hd.heap_1 w.params) 4 177 [] [.int y ty, .int m tm, .int d td] (fun v new => ∃ D o, v = .ref D ∧ new = [(D, o)] ∧ ∃ n0 : Nat, o = PySem.W.listOf #[] n0) := by
  refine' FnT.of_B ?ho ?hb ?h ?hcd ?hl ?h0 ?h1 ?h2 ?h3 ?h4
  case ho => k_is
  case hb => exact fun _ => BindsTo.of_eq rfl
  case hcd => k_is
  case hl => exact locs rfl
  case h0 => decide
  case h1 => exact rfl
  case h2 => exact rfl
  case h3 => exact rfl
  case h4 => decide
  case h =>
    intro z hz
    subst hz
    exact Wrap.out (D_numN.all z y m d ty tm td) hm hno
end
end Mine

end
section
open PySem PySem.W PyProof.Rows PySem.Calls PySem.Spec
set_option Elab.async false
namespace Mine
section
set_option maxRecDepth 100000
set_option maxHeartbeats 8000000
theorem filled_Pt0 : PySem.Challenge.rw_kl0450_01 = PySem.Challenge.rw_kl0450_01 ∧ ∀ P, Mine.hd.heap_1 P = Mine.hd.heap_1 P := by
  k_fill
  exact ⟨rfl, fun _ => rfl⟩
theorem words_Pt0_01_0 : True := by
  k_with_none
  w_top off
  k_with "body" => ((
  refine Wrap.mk ?_
  intro zzF' zzN' zzB' zzX' zzT' zzhk zzhd zzhu
  (try dsimp only)
  (try k_lift zzB')
  (try k_fold)))
  k_with "idx" => (first | omega | (simp only [fm12]; omega) | (simp only [fd32, fd4, fd100, fd400, fd365, fd1461, fd36524, fd146097, fm365, fm1461, fm36524, fm146097, dbmT]; omega) | (rename ((_ : Int) < dbmT _ + _) => hx9; simp only [dbmT, fd32] at hx9 ⊢; omega))
  k_with "ediv" => (simp only [fd4, fd5, fd7, fd12, fd60, fd100, fd400, fd365, fd1461, fd3600, fd36524, fd86400, fd146097, fm4, fm7, fm12, fm60, fm100, fm365, fm400, fm1461, fm36524, fm86400, fm146097] at *)
  k_with "wpC" => (first
  | with_reducible refine wpC_cons ?_
  | with_reducible refine wpC_nil ?_)
  k_with "ite" => ((k_here; first
  | (k_closed; k_dflt (first | refine ite_pos (by decide) ?_ | refine ite_neg (by decide) ?_))
  | refine ite_pos (by with_reducible assumption) ?_
  | refine ite_neg (by with_reducible assumption) ?_
  | refine ite_isFalse (by with_reducible assumption) ?_
  | refine ite_pos (by k_dec) ?_
  | refine ite_neg (by k_dec) ?_))
  k_with "step" => (first | (k_unfold; (try dsimp only)) | (k_end; wrow_close) | ((with_reducible guard_target = wpAny _ _ (newTuple _) _ _ _); dsimp only; walk1) | walk1 | (dsimp only; walk1) | (leave1; try dsimp only))
  k_with "bodyT" => ((
  refine Wrap.mk ?_
  intro zzF' zzN' zzB' zzX' zzT' zzXB' zzTB' zzD' zzhk zzhd zzhu
  (try dsimp only)
  (try k_lift zzB')
  (try k_fold)))
  k_with "bodyC" => ((
  refine Wrap.mk ?_
  intro zzF' zzN' zzB' zzX' zzT' zzXB' zzTB' zzD' zzhk zzhd zzhu
  (try dsimp only)
  (try k_lift zzB')))
  k_with "hi" => (first | with_reducible exact hi_dgs _ | with_reducible exact hi_dg4 _ | with_reducible exact hi_dg2 _ | with_reducible exact hi_clk _ _ _ | with_reducible exact hi_mon (by assumption) | with_reducible exact hi_lmon (by assumption))
  k_with "len" => (first | with_reducible exact len_dgs _ | with_reducible exact len_dg4 _ | with_reducible exact len_dg2 _ | with_reducible exact len_clk _ _ _ | with_reducible exact len_mon (by assumption) | with_reducible exact len_lmon (by assumption) | with_reducible exact len_mail (by assumption))
  k_with "isc" => (first | with_reducible exact comma | with_reducible exact colon | with_reducible exact minus | with_reducible exact plus | rfl)
  k_with "txt" => (first
  | with_reducible exact find_col4 _
  | with_reducible exact ends_c (by walk_at "isc") (hi_no (by walk_at "hi") (by decide))
  | with_reducible exact find_c (by walk_at "isc") (hi_no (by walk_at "hi") (by decide))
  | with_reducible exact rfind_c (by walk_at "isc") (hi_no (by walk_at "hi") (by decide))
  | with_reducible exact lower_dgs _
  | with_reducible exact lower_mon (by assumption)
  | with_reducible exact isdigit_fig _)
  k_with "call builtin:str.split" => ((k_here; (with_reducible show wpAny _ _ (call (Value.builtin "str.split") [Value.str (tx _) _]) _ _ _); k_dflt (
  (refine KSpl.split0 (by k_asm) (by k_asm) ?_ (Nat.le_trans (Nat.add_le_add_right (mailT_len (by assumption)).1 2) (by rw [sizeLine_eq]; decide)))
  intro D' l' h' k' e' a' F' N' l1
  rw [words_mail (by assumption)] at e'
  (try k_lt l1)
  kspl_open e'
  simp only [strValues, List.map_cons, List.map_nil] at N' a'
  (try k_sweep)
  (try k_fold))))
  k_with "truthy str" => ((k_here; (with_reducible show wpAny _ _ (PySem.truthy (Value.str (tx _) _)) _ _ _); k_dflt (refine KXt.truthy_pos (tr_pos (by walk_at "len")) (tr_len (by walk_at "len")) (by decide) ?_; intro _; (try k_fold))))
  k_with "call builtin:str.endswith" => ((k_here; (with_reducible show wpAny _ _ (call (Value.builtin "str.endswith") [Value.str (tx _) _, Value.str _ _]) _ _ _); (refine SC.endswith ?_); (rw [ends_c (by walk_at "isc") (hi_no (by walk_at "hi") (by decide))]); (try k_fold)))
  k_with "call builtin:str.find" => ((k_here; (with_reducible show wpAny _ _ (call (Value.builtin "str.find") [Value.str (tx _) _, Value.str _ _]) _ _ _); (refine KXw.find (by walk_at "txt") ?_); intro _ _; (try k_fold)))
  k_with "call builtin:str.rfind" => ((k_here; (with_reducible show wpAny _ _ (call (Value.builtin "str.rfind") [Value.str (tx _) _, Value.str _ _]) _ _ _); (refine KXw.rfind (by walk_at "txt") ?_); intro _ _; (try k_fold)))
  k_with "call builtin:str.isdigit" => ((k_here; (with_reducible show wpAny _ _ (call (Value.builtin "str.isdigit") [Value.str (tx _) _]) _ _ _); (with_reducible refine KXw.isdigit (isdigit_fig _) ?_); (try k_fold)))
  k_with "call builtin:str.lower" => ((k_here; (with_reducible show wpAny _ _ (call (Value.builtin "str.lower") [Value.str (tx _) _]) _ _ _); (first | with_reducible refine KXw.lower (lower_dgs _) (fit_l (lower_dgs _) (len_dgs _)) ?_ | with_reducible refine KXw.lower (lower_mon (by assumption)) (fit_l (lower_mon (by assumption)) (len_lmon (by assumption))) ?_); intro _ _; (try k_fold)))
  k_with "tabin" => (first | with_reducible exact dgs_not (by decide) _ | with_reducible exact lmon_in (by assumption))
  k_with "compareOp In str ref" => ((k_here; (with_reducible show wpAny _ _ (compareOp CmpOp.In (Value.str (tx _) _) (Value.ref 56)) _ _ _); k_dflt (refine' in_strsK dyTab (by k_asm) (by k_asm) (by k_is) (by decide +kernel) (by walk_at "tabin") ?_; k_whole; (try k_fold))))
  k_with "compareOp NotIn str ref" => ((k_here; (with_reducible show wpAny _ _ (compareOp CmpOp.NotIn (Value.str (tx _) _) (Value.ref 55)) _ _ _); k_dflt (refine' notin_strsK mnTab (by k_asm) (by k_asm) (by k_is) (by decide +kernel) (by walk_at "tabin") ?_; k_whole; (try k_fold))))
  k_with "call builtin:list.index" => ((k_here; k_dflt (refine' index_strsK mnTab (by k_asm) (by k_asm) (by k_is) (by decide +kernel) (by exact lmon_idx (by assumption)) (by (simp only [mnTab, List.length_cons, List.length_nil]; omega)) (by decide) ?_; k_whole; (try k_fold))))
  k_with "call builtin:list.append" => ((k_here; (with_reducible show wpAny _ _ (call (Value.builtin "list.append") [Value.ref _, _]) _ _ _); k_dflt (refine' append_K (by k_asm) (by k_asm) (by k_upd) ?_ (by exact Nat.le_of_ble_eq_true rfl); k_whole); intro h' F' N'; (try k_sweep); (try k_fold)))
  k_with "exec Assign" => (((with_reducible show wpAny _ _ (exec (Stmt.Assign [Expr.List _ _] _ _) _) _ _ _); refine Assign_List ?_))
  k_with "getMethod ref" => ((k_here; (with_reducible show wpAny _ _ (getMethod (Value.ref 55) (PySem.Str.ofString "index") _) _ _ _); k_dflt (refine' index_method (by k_asm) (by k_asm) (by k_is) ?_; k_whole)))
  k_with "lastc" => (first | with_reducible exact dgs_getLast _ | with_reducible exact dg4_last _ | with_reducible exact clk_last _ _ _ | with_reducible exact dg2_last _)
  k_with "headc" => (first | with_reducible exact dg4_head _ | with_reducible exact dg2_head _)
  k_with "subscriptTail Name UnaryOp str int" => ((k_here; (with_reducible show wpAny _ _ (subscriptTail _ _ (Value.str (tx _) _) (Value.int (-1) _)) _ _ _); k_dflt (refine' item_last_tx (by walk_at "lastc") (by exact len1000 (by walk_at "len")) ?_ (by with_unfolding_all rfl) (by intro _; with_unfolding_all rfl); k_whole; intro t9; (try k_fold))))
  k_with "subscriptTail Name Constant str int" => ((k_here; (with_reducible show wpAny _ _ (subscriptTail _ _ (Value.str (tx _) _) (Value.int 0 _)) _ _ _); k_dflt (refine' item_first_tx (by walk_at "headc") (by exact len1000 (by walk_at "len")) ?_ (by with_unfolding_all rfl) (by intro _; with_unfolding_all rfl); k_whole; intro t9; (try k_fold))))
  k_with "txteq" => (first | (refine' fig_ne (by walk_at "isc") (by decide)))
  k_with "compareOp Eq str str" => ((k_here; (with_reducible show wpAny _ _ (compareOp CmpOp.Eq (Value.str (tx _) _) (Value.str _ _)) _ _ _); k_dflt (refine' eq_tx (by walk_at "txteq") ?_; k_whole; (try k_fold))))
  k_with "call builtin:str.split" => ((k_here; (with_reducible show wpAny _ _ (call (Value.builtin "str.split") [Value.str (tx _) _, Value.str _ _]) _ _ _); k_dflt (
  (refine KSpl.split1 (by k_asm) (by k_asm) (by decide) ?_ (fits_l (len1000 (by walk_at "len"))))
  intro D' l' h' k' e' a' F' N' l1
  rw [split_clk2] at e'
  (try k_lt l1)
  kspl_open e'
  simp only [strValues, List.map_cons, List.map_nil] at N' a'
  (try k_sweep)
  (try k_fold))))
  k_with "val" => (first | with_reducible exact val_dg2 (by omega) (by omega) | with_reducible exact val_dg4 (by omega) (by omega) | with_reducible exact val_dgs (by omega) (by omega))
  k_with "call type:int" => ((k_here; (with_reducible show wpAny _ _ (call (Value.type "int") [Value.str (tx _) _]) _ _ _); k_dflt (refine KIN.call_text (by walk_at "val") (Nat.le_trans (len1000' (by walk_at "len")) (by decide)) ?_; (try k_fold))))
  k_with "hi" => (with_reducible exact hi_wd3 (by assumption))
  k_with "len" => (first | with_reducible exact len_wd3 (by assumption) | with_reducible exact len_lwd (by assumption) | with_reducible exact len_cm (Nat.le_of_eq_of_le (wd3_len (by assumption)) (by decide)) | with_reducible exact len_cm (wdL_len (by assumption)).2 | with_reducible exact len_dash (by assumption) | with_reducible exact len_A (by assumption) (by assumption) | with_reducible exact len_B (by assumption) (by assumption) | with_reducible exact len_C (by assumption) (by assumption))
  k_with "txt" => (first | with_reducible exact find_col2 _ | with_reducible exact find_clk _ _ _)
  k_with "split0" => (first | rw [words_A (by assumption) (by assumption)] at e' | rw [words_B (by assumption) (by assumption)] at e' | rw [words_C (by assumption) (by assumption)] at e')
  k_with "call builtin:str.split" => ((k_here; (with_reducible show wpAny _ _ (call (Value.builtin "str.split") [Value.str (tx _) _]) _ _ _); k_dflt (
  (refine KSpl.split0 (by k_asm) (by k_asm) ?_ (fits_l (len1000 (by walk_at "len"))))
  intro D' l' h' k' e' a' F' N' l1
  (first | rw [words_A (by assumption) (by assumption)] at e' | rw [words_B (by assumption) (by assumption)] at e' | rw [words_C (by assumption) (by assumption)] at e')
  (try k_lt l1)
  kspl_open e'
  simp only [strValues, List.map_cons, List.map_nil] at N' a'
  (try k_sweep)
  (try k_fold))))
  k_with "call builtin:str.split" => ((k_here; (with_reducible show wpAny _ _ (call (Value.builtin "str.split") [Value.str (tx (dashed _ _ _)) _, Value.str _ _]) _ _ _); k_dflt (
  (refine KSpl.split1 (by k_asm) (by k_asm) (by decide) ?_ (fits_l (len1000 (by walk_at "len"))))
  intro D' l' h' k' e' a' F' N' l1
  rw [split_dash (by assumption)] at e'
  (try k_lt l1)
  kspl_open e'
  simp only [strValues, List.map_cons, List.map_nil] at N' a'
  (try k_sweep)
  (try k_fold))))
  k_with "call builtin:str.endswith" => ((k_here; (with_reducible show wpAny _ _ (call (Value.builtin "str.endswith") [Value.str (tx (_ ++ [44])) _, Value.str _ _]) _ _ _); (refine SC.endswith ?_); (rw [ends_last (by walk_at "isc")]); (try k_fold)))
  k_with "call builtin:str.lower" => ((k_here; (with_reducible show wpAny _ _ (call (Value.builtin "str.lower") [Value.str (tx _) _]) _ _ _); with_reducible refine KXw.lower (lower_wd3 (by assumption)) (fit_l (lower_wd3 (by assumption)) (len_lwd (by assumption))) ?_; intro _ _; (try k_fold)))
  k_with "tabin" => (first | with_reducible exact dg2_not (by decide) _ | with_reducible exact lwd_in (by assumption))
  k_with "len" => (with_reducible exact Mail.len (by assumption) (by assumption) (by assumption))
  k_with "call builtin:str.split" => ((k_here; (with_reducible show wpAny _ _ (call (Value.builtin "str.split") [Value.str (tx _) _]) _ _ _); k_dflt (
  (refine KSpl.split0 (by k_asm) (by k_asm) ?_ (fits_l (len1000 (by walk_at "len"))))
  intro D' l' h' k' e' a' F' N' l1
  (rename Mail _ _ _ _ _ _ _ _ => hT9)
  rcases hT9 with hx | hx | hx
  all_goals (
    (first | rw [hx, words_A (by assumption) (by assumption)] at e' | rw [hx, words_B (by assumption) (by assumption)] at e' | rw [hx, words_C (by assumption) (by assumption)] at e')
    (try k_lt l1)
    kspl_open e'
    simp only [strValues, List.map_cons, List.map_nil] at N' a'
    (try k_sweep)
    (try k_fold)))))
  k_with "wpC" => ((k_here; (with_reducible show wpC _ _ (execs (Stmt.If _ _ (Stmt.Try _ _ _ _ _ :: _) _ :: _) _) _ _ _); k_dflt (refine wpC_consC ?_; refine wpC_If ?_); (try k_fold)))
  k_with "wpC" => ((k_here; (with_reducible show wpC _ _ (execs (Stmt.Try (Stmt.Assign [Expr.Name (PySem.Str.ofString "tzoffset") _] _ _ :: _) _ _ _ _ :: _) _) _ _ _); k_dflt (refine wpC_consC ?_; refine wpC_Try ?_; refine wpC_consC ?_; refine wpC_AssignName ?_; refine wpC_CallType (T := "int") ?_); (try k_fold)))
  k_with "wpC" => ((k_here; (with_reducible show wpC _ _ (call (Value.type "int") [Value.str (PySem.Str.ofString "") _]) _ _ _); k_dflt (refine int_empty _ rfl ?_); intro h9 tk9 e9 x9; (try dsimp only)))
  k_with "noteFrame ref" => ((k_here; k_dflt (refine' caught_own (T' := "ValueError") (by assumption) (by k_asm) (by k_asm) (by assumption) (by assumption) (by assumption) (by assumption) (by exact KtsTurn.refl) (by k_is) PyProof.Rows.Boot.«ValueError» (by decide) PySem.F.isExc_ValueError PySem.F.notTuple_ValueError (by kts_sub) ?_; k_whole; intro h' g' T0' F' N' K' X' P' D'; (try k_lift K'); (try k_sweep))))
  k_with "exec If" => ((k_here; with_reducible refine wpAny_If ?_))
  k_with "And" => (((with_reducible show _ = Value.type "int" ∧ _); refine ⟨rfl, ?_⟩))
  trivial
noncomputable def G_pt0 (z : Dat) (T : List Nat) (k : Int) (y : Int) (m : Int) (d : Int) (h : Int) (mi : Int) (sc : Int) (tx0 : Tok) : Prop := Wrap ((Mail T k d m y h mi sc) → (0 ≤ k ∧ k ≤ 6) → (1 ≤ m ∧ m ≤ 12) → (0 ≤ y ∧ y ≤ 99) → (1 ≤ d ∧ d ≤ 31) → (0 ≤ h ∧ h ≤ 23) → (0 ≤ mi ∧ mi ≤ 59) → (0 ≤ sc ∧ sc ≤ 59) → FnCB z PySem.Challenge.rw_kl0450_01.row.prog (Mine.hd.heap_1 z.w.params) 1 71 [] [.str (tx T) tx0] (fun v new => ∃ D o, v = .ref D ∧ new = [(D, o)] ∧ ∃ (n0 : Nat) (t1 t2 t3 t4 t5 t6 t7 t8 t9 : Tok) (zv : Value), o = PySem.W.listOf #[.int (cent y) t1, .int m t2, .int d t3, .int h t4, .int mi t5, .int sc t6, .int 0 t7, .int 1 t8, .int (-1) t9, zv] n0 ∧ (zv = .none ∨ ∃ t : Tok, zv = .int 0 t)) (by k_is) (by exact BindsTo.of_eq rfl))
namespace D_pt0
noncomputable def zG (zt : Dat × List Nat × Int × Int × Int × Int × Int × Int × Int × Tok) : Prop := G_pt0 (zt.1) (zt.2.1) (zt.2.2.1) (zt.2.2.2.1) (zt.2.2.2.2.1) (zt.2.2.2.2.2.1) (zt.2.2.2.2.2.2.1) (zt.2.2.2.2.2.2.2.1) (zt.2.2.2.2.2.2.2.2.1) (zt.2.2.2.2.2.2.2.2.2)
noncomputable def zt : Dat × List Nat × Int × Int × Int × Int × Int × Int × Int × Tok := haveI : Nonempty Dat := dat_some PySem.Challenge.rw_kl0450_01.row.prog; sk zG
@[irreducible] noncomputable def z : Dat := zt.1
theorem z_def : z = zt.1 := by with_unfolding_all rfl
@[irreducible] noncomputable def T : List Nat := zt.2.1
theorem T_def : T = zt.2.1 := by with_unfolding_all rfl
@[irreducible] noncomputable def k : Int := zt.2.2.1
theorem k_def : k = zt.2.2.1 := by with_unfolding_all rfl
@[irreducible] noncomputable def y : Int := zt.2.2.2.1
theorem y_def : y = zt.2.2.2.1 := by with_unfolding_all rfl
@[irreducible] noncomputable def m : Int := zt.2.2.2.2.1
theorem m_def : m = zt.2.2.2.2.1 := by with_unfolding_all rfl
@[irreducible] noncomputable def d : Int := zt.2.2.2.2.2.1
theorem d_def : d = zt.2.2.2.2.2.1 := by with_unfolding_all rfl
@[irreducible] noncomputable def h : Int := zt.2.2.2.2.2.2.1
theorem h_def : h = zt.2.2.2.2.2.2.1 := by with_unfolding_all rfl
@[irreducible] noncomputable def mi : Int := zt.2.2.2.2.2.2.2.1
theorem mi_def : mi = zt.2.2.2.2.2.2.2.1 := by with_unfolding_all rfl
@[irreducible] noncomputable def sc : Int := zt.2.2.2.2.2.2.2.2.1
theorem sc_def : sc = zt.2.2.2.2.2.2.2.2.1 := by with_unfolding_all rfl
@[irreducible] noncomputable def tx0 : Tok := zt.2.2.2.2.2.2.2.2.2
theorem tx0_def : tx0 = zt.2.2.2.2.2.2.2.2.2 := by with_unfolding_all rfl
theorem main : G_pt0 z T k y m d h mi sc tx0 := by
  refine Wrap.mk ?_
  intro hT hk hm hy hd hh hmi hs
  walk_at "bodyC"
  k_with "run:c_pt0" => (
    (try dsimp +zetaDelta only)
    as_aux_lemma =>
      walk_at "step"
      all_goals (repeat' ((fail_if_success (first | (with_reducible guard_target = wpC _ _ (execs (List.cons _ _) _) _ _ _) | (with_reducible guard_target = wpAny _ _ (execs (List.cons _ _) _) _ _ _))); walk_at "step"))
      all_goals (first | ((first | (with_reducible guard_target = wpC _ _ (execs (List.cons _ _) _) _ _ _) | (with_reducible guard_target = wpAny _ _ (execs (List.cons _ _) _) _ _ _)); k_extra "run:c_pt0") | k_extra "tail:c_pt0"))
  k_with "tail:c_pt0" => (
  all_goals walk_at "fnC:obj"
  all_goals (rw [show ((↑(m - 1).toNat : Int) + 1) = m from by omega])
  all_goals (first | (rw [show y + 1900 = cent y from (if_pos (by assumption)).symm]) | (rw [show y + 2000 = cent y from (if_neg (by assumption)).symm]))
  all_goals first
    | exact ⟨_, _, _, _, _, _, _, _, _, _, _, rfl, .inr ⟨_, rfl⟩⟩
    | exact ⟨_, _, _, _, _, _, _, _, _, _, _, rfl, .inl rfl⟩
)
  all_goals (first | ((first | (with_reducible guard_target = wpC _ _ (execs (List.cons _ _) _) _ _ _) | (with_reducible guard_target = wpAny _ _ (execs (List.cons _ _) _) _ _ _)); k_extra "run:c_pt0") | k_extra "tail:c_pt0")
theorem main' : zG zt := by
  have q := main
  rw [z_def, T_def, k_def, y_def, m_def, d_def, h_def, mi_def, sc_def, tx0_def] at q
  exact q
theorem all (z : Dat) (T : List Nat) (k : Int) (y : Int) (m : Int) (d : Int) (h : Int) (mi : Int) (sc : Int) (tx0 : Tok) : G_pt0 z T k y m d h mi sc tx0 := haveI : Nonempty Dat := dat_some PySem.Challenge.rw_kl0450_01.row.prog; sk_all (G := zG) main' (z, T, k, y, m, d, h, mi, sc, tx0)
end D_pt0
theorem c_pt0 (w : World) (T : List Nat) (k y m d h mi sc : Int) (tx0 : Tok) (hT : Mail T k d m y h mi sc) (hk : 0 ≤ k ∧ k ≤ 6) (hm : 1 ≤ m ∧ m ≤ 12) (hy : 0 ≤ y ∧ y ≤ 99) (hd : 1 ≤ d ∧ d ≤ 31) (hh : 0 ≤ h ∧ h ≤ 23) (hmi : 0 ≤ mi ∧ mi ≤ 59) (hs : 0 ≤ sc ∧ sc ≤ 59) : FnC PySem.Challenge.rw_kl0450_01.row.prog w (Mine.hd.heap_1 w.params) 1 71 [] [.str (tx T) tx0] (fun v new => ∃ D o, v = .ref D ∧ new = [(D, o)] ∧ ∃ (n0 : Nat) (t1 t2 t3 t4 t5 t6 t7 t8 t9 : Tok) (zv : Value), o = PySem.W.listOf #[.int (cent y) t1, .int m t2, .int d t3, .int h t4, .int mi t5, .int sc t6, .int 0 t7, .int 1 t8, .int (-1) t9, zv] n0 ∧ (zv = .none ∨ ∃ t : Tok, zv = .int 0 t)) := by
  refine' FnC.of_B ?ho ?hb ?h ?hcd ?hl ?h0 ?h1 ?h2 ?h3 ?h4
  case ho => k_is
  case hb => exact fun _ => BindsTo.of_eq rfl
  case hcd => k_is
  case hl => exact locs rfl
  case h0 => decide
  case h1 => exact rfl
  case h2 => exact rfl
  case h3 => exact rfl
  case h4 => decide
  case h =>
    intro z hz
    subst hz
    exact Wrap.out (D_pt0.all z T k y m d h mi sc tx0) hT hk hm hy hd hh hmi hs
end
end Mine

end
section
open PySem PySem.W PyProof.Rows PySem.Calls PySem.Spec
set_option Elab.async false
namespace Mine
section
set_option maxRecDepth 100000
set_option maxHeartbeats 8000000
theorem filled_PtE : PySem.Challenge.rw_kl0450_01 = PySem.Challenge.rw_kl0450_01 ∧ ∀ P, Mine.hd.heap_1 P = Mine.hd.heap_1 P := by
  k_fill
  exact ⟨rfl, fun _ => rfl⟩
theorem words_PtE_01_0 : True := by
  k_with_none
  w_top off
  k_with "body" => ((
  refine Wrap.mk ?_
  intro zzF' zzN' zzB' zzX' zzT' zzhk zzhd zzhu
  (try dsimp only)
  (try k_lift zzB')
  (try k_fold)))
  k_with "idx" => (first | omega | (simp only [fm12]; omega) | (simp only [fd32, fd4, fd100, fd400, fd365, fd1461, fd36524, fd146097, fm365, fm1461, fm36524, fm146097, dbmT]; omega) | (rename ((_ : Int) < dbmT _ + _) => hx9; simp only [dbmT, fd32] at hx9 ⊢; omega))
  k_with "ediv" => (simp only [fd4, fd5, fd7, fd12, fd60, fd100, fd400, fd365, fd1461, fd3600, fd36524, fd86400, fd146097, fm4, fm7, fm12, fm60, fm100, fm365, fm400, fm1461, fm36524, fm86400, fm146097] at *)
  k_with "wpC" => (first
  | with_reducible refine wpC_cons ?_
  | with_reducible refine wpC_nil ?_)
  k_with "ite" => ((k_here; first
  | (k_closed; k_dflt (first | refine ite_pos (by decide) ?_ | refine ite_neg (by decide) ?_))
  | refine ite_pos (by with_reducible assumption) ?_
  | refine ite_neg (by with_reducible assumption) ?_
  | refine ite_isFalse (by with_reducible assumption) ?_
  | refine ite_pos (by k_dec) ?_
  | refine ite_neg (by k_dec) ?_))
  k_with "step" => (first | (k_unfold; (try dsimp only)) | (k_end; wrow_close) | ((with_reducible guard_target = wpAny _ _ (newTuple _) _ _ _); dsimp only; walk1) | walk1 | (dsimp only; walk1) | (leave1; try dsimp only))
  k_with "bodyT" => ((
  refine Wrap.mk ?_
  intro zzF' zzN' zzB' zzX' zzT' zzXB' zzTB' zzD' zzhk zzhd zzhu
  (try dsimp only)
  (try k_lift zzB')
  (try k_fold)))
  k_with "bodyC" => ((
  refine Wrap.mk ?_
  intro zzF' zzN' zzB' zzX' zzT' zzXB' zzTB' zzD' zzhk zzhd zzhu
  (try dsimp only)
  (try k_lift zzB')))
  k_with "wpC" => ((k_here; (with_reducible show wpC _ _ (execs (Stmt.Assign [Expr.Name _ _] (Expr.Call (Expr.Name (PySem.Str.ofString "_parsedate_tz") _) _ _ _) _ :: _) _) _ _ _); k_dflt (refine wpC_consC ?_; refine wpC_AssignName ?_; rename Frag.In _ _ => X9; refine wpC_CallK X9 ?_; skip); (try k_fold)))
  k_with "wpC" => ((k_here; (with_reducible show wpC _ _ (execs (Stmt.Assign [Expr.Name _ _] (Expr.Call (Expr.Name (PySem.Str.ofString "parsedate_tz") _) _ _ _) _ :: _) _) _ _ _); k_dflt (refine wpC_consC ?_; refine wpC_AssignName ?_; rename Frag.In _ _ => X9; refine wpC_CallK X9 ?_; skip); (try k_fold)))
  k_with "And" => (((with_reducible show keepIn _ _ = true ∧ _); refine ⟨by k_is, ?_⟩; (try dsimp only [List.nil_append, List.cons_append])))
  k_with "subscriptTail Name Slice ref ref" => ((k_here; (with_reducible show wpAny _ _ (subscriptTail _ (PySem.Expr.Slice none (some (PySem.Expr.Constant (PySem.Const.int 9) _ _)) none _) (Value.ref _) (Value.ref _)) _ _ _); k_dflt (refine' tup_to (b := 9) (by k_asm) (by k_asm) (by exact News.isTup (by k_asm) (by k_mem)) (by exact Nat.le_of_ble_eq_true rfl) (by rfl) ?_ (by with_unfolding_all rfl) (by intro _; with_unfolding_all rfl) (by exact Nat.le_of_ble_eq_true rfl); k_whole); intro D' h' F' N' l1; (try k_lt l1); (try k_sweep); (try k_fold)))
  k_with "subscriptTail Name Slice ref ref" => ((k_here; (with_reducible show wpAny _ _ (subscriptTail _ (PySem.Expr.Slice none (some (PySem.Expr.Constant (PySem.Const.int 6) _ _)) none _) (Value.ref _) (Value.ref _)) _ _ _); k_dflt (refine' tup_to (b := 6) (by k_asm) (by k_asm) (by exact News.isTup (by k_asm) (by k_mem)) (by exact Nat.le_of_ble_eq_true rfl) (by rfl) ?_ (by with_unfolding_all rfl) (by intro _; with_unfolding_all rfl) (by exact Nat.le_of_ble_eq_true rfl); k_whole); intro D' h' F' N' l1; (try k_lt l1); (try k_sweep); (try k_fold)))
  k_with "subscriptTail Name Slice ref ref" => ((k_here; (with_reducible show wpAny _ _ (subscriptTail _ (PySem.Expr.Slice none (some (PySem.Expr.Constant (PySem.Const.int 3) _ _)) none _) (Value.ref _) (Value.ref _)) _ _ _); k_dflt (refine' tup_to (b := 3) (by k_asm) (by k_asm) (by exact News.isTup (by k_asm) (by k_mem)) (by exact Nat.le_of_ble_eq_true rfl) (by rfl) ?_ (by with_unfolding_all rfl) (by intro _; with_unfolding_all rfl) (by exact Nat.le_of_ble_eq_true rfl); k_whole); intro D' h' F' N' l1; (try k_lt l1); (try k_sweep); (try k_fold)))
  k_with "wpC" => ((k_here; (with_reducible show wpC _ _ (call (Value.ref 71) _) _ _ _); k_dflt (refine' FnC.useO (c_pt0 _ _ _ _ _ _ _ _ _ _ (by assumption) (by assumption) (by assumption) (by assumption) (by assumption) (by assumption) (by assumption) (by assumption)) (by k_asm) (by k_asm) (by k_asm) (by k_asm) (by k_asm) (by assumption) (by assumption) (by assumption) (by first | exact rfl | assumption) (by walk_at "fn:args") (by ktr_room) (by ktr_units) ?_); intro g9 D9 o9 h9 tk9 ho9 T9 F9 N9 B9 X9 P9 D9 hne9; (try k_lift B9); obtain ⟨_, _, _, _, _, _, _, _, _, _, zv9, e9, (c9 | ⟨u9, c9⟩)⟩ := ho9; all_goals (subst c9; subst e9; (try simp only [List.cons_append, List.nil_append] at N9); (try dsimp only))))
  trivial
noncomputable def G_ptz (z : Dat) (T : List Nat) (k : Int) (y : Int) (m : Int) (d : Int) (h : Int) (mi : Int) (sc : Int) (tx0 : Tok) : Prop := Wrap ((Mail T k d m y h mi sc) → (0 ≤ k ∧ k ≤ 6) → (1 ≤ m ∧ m ≤ 12) → (0 ≤ y ∧ y ≤ 99) → (1 ≤ d ∧ d ≤ 31) → (0 ≤ h ∧ h ≤ 23) → (0 ≤ mi ∧ mi ≤ 59) → (0 ≤ sc ∧ sc ≤ 59) → FnCB z PySem.Challenge.rw_kl0450_01.row.prog (Mine.hd.heap_1 z.w.params) 2 64 [] [.str (tx T) tx0] (fun v new => ∃ D o, v = .ref D ∧ new = [(D, o)] ∧ ∃ (t1 t2 t3 t4 t5 t6 t7 t8 t9 t10 : Tok), o = ({ cls := .type "tuple", data := .seq #[.int (cent y) t1, .int m t2, .int d t3, .int h t4, .int mi t5, .int sc t6, .int 0 t7, .int 1 t8, .int (-1) t9, .int 0 t10] } : Obj)) (by k_is) (by exact BindsTo.of_eq rfl))
namespace D_ptz
noncomputable def zG (zt : Dat × List Nat × Int × Int × Int × Int × Int × Int × Int × Tok) : Prop := G_ptz (zt.1) (zt.2.1) (zt.2.2.1) (zt.2.2.2.1) (zt.2.2.2.2.1) (zt.2.2.2.2.2.1) (zt.2.2.2.2.2.2.1) (zt.2.2.2.2.2.2.2.1) (zt.2.2.2.2.2.2.2.2.1) (zt.2.2.2.2.2.2.2.2.2)
noncomputable def zt : Dat × List Nat × Int × Int × Int × Int × Int × Int × Int × Tok := haveI : Nonempty Dat := dat_some PySem.Challenge.rw_kl0450_01.row.prog; sk zG
@[irreducible] noncomputable def z : Dat := zt.1
theorem z_def : z = zt.1 := by with_unfolding_all rfl
@[irreducible] noncomputable def T : List Nat := zt.2.1
theorem T_def : T = zt.2.1 := by with_unfolding_all rfl
@[irreducible] noncomputable def k : Int := zt.2.2.1
theorem k_def : k = zt.2.2.1 := by with_unfolding_all rfl
@[irreducible] noncomputable def y : Int := zt.2.2.2.1
theorem y_def : y = zt.2.2.2.1 := by with_unfolding_all rfl
@[irreducible] noncomputable def m : Int := zt.2.2.2.2.1
theorem m_def : m = zt.2.2.2.2.1 := by with_unfolding_all rfl
@[irreducible] noncomputable def d : Int := zt.2.2.2.2.2.1
theorem d_def : d = zt.2.2.2.2.2.1 := by with_unfolding_all rfl
@[irreducible] noncomputable def h : Int := zt.2.2.2.2.2.2.1
theorem h_def : h = zt.2.2.2.2.2.2.1 := by with_unfolding_all rfl
@[irreducible] noncomputable def mi : Int := zt.2.2.2.2.2.2.2.1
theorem mi_def : mi = zt.2.2.2.2.2.2.2.1 := by with_unfolding_all rfl
@[irreducible] noncomputable def sc : Int := zt.2.2.2.2.2.2.2.2.1
theorem sc_def : sc = zt.2.2.2.2.2.2.2.2.1 := by with_unfolding_all rfl
@[irreducible] noncomputable def tx0 : Tok := zt.2.2.2.2.2.2.2.2.2
theorem tx0_def : tx0 = zt.2.2.2.2.2.2.2.2.2 := by with_unfolding_all rfl
theorem main : G_ptz z T k y m d h mi sc tx0 := by
  refine Wrap.mk ?_
  intro hT hk hm hy hd hh hmi hs
  walk_at "bodyC"
  k_with "run:c_ptz" => (
    (try dsimp +zetaDelta only)
    as_aux_lemma =>
      walk_at "step"
      all_goals (repeat' ((fail_if_success (first | (with_reducible guard_target = wpC _ _ (execs (List.cons _ _) _) _ _ _) | (with_reducible guard_target = wpAny _ _ (execs (List.cons _ _) _) _ _ _))); walk_at "step"))
      all_goals (first | ((first | (with_reducible guard_target = wpC _ _ (execs (List.cons _ _) _) _ _ _) | (with_reducible guard_target = wpAny _ _ (execs (List.cons _ _) _) _ _ _)); k_extra "run:c_ptz") | k_extra "tail:c_ptz"))
  k_with "tail:c_ptz" => (
  all_goals walk_at "fnC:obj"
  all_goals exact ⟨_, _, _, _, _, _, _, _, _, _, rfl⟩)
  all_goals (first | ((first | (with_reducible guard_target = wpC _ _ (execs (List.cons _ _) _) _ _ _) | (with_reducible guard_target = wpAny _ _ (execs (List.cons _ _) _) _ _ _)); k_extra "run:c_ptz") | k_extra "tail:c_ptz")
theorem main' : zG zt := by
  have q := main
  rw [z_def, T_def, k_def, y_def, m_def, d_def, h_def, mi_def, sc_def, tx0_def] at q
  exact q
theorem all (z : Dat) (T : List Nat) (k : Int) (y : Int) (m : Int) (d : Int) (h : Int) (mi : Int) (sc : Int) (tx0 : Tok) : G_ptz z T k y m d h mi sc tx0 := haveI : Nonempty Dat := dat_some PySem.Challenge.rw_kl0450_01.row.prog; sk_all (G := zG) main' (z, T, k, y, m, d, h, mi, sc, tx0)
end D_ptz
theorem c_ptz (w : World) (T : List Nat) (k y m d h mi sc : Int) (tx0 : Tok) (hT : Mail T k d m y h mi sc) (hk : 0 ≤ k ∧ k ≤ 6) (hm : 1 ≤ m ∧ m ≤ 12) (hy : 0 ≤ y ∧ y ≤ 99) (hd : 1 ≤ d ∧ d ≤ 31) (hh : 0 ≤ h ∧ h ≤ 23) (hmi : 0 ≤ mi ∧ mi ≤ 59) (hs : 0 ≤ sc ∧ sc ≤ 59) : FnC PySem.Challenge.rw_kl0450_01.row.prog w (Mine.hd.heap_1 w.params) 2 64 [] [.str (tx T) tx0] (fun v new => ∃ D o, v = .ref D ∧ new = [(D, o)] ∧ ∃ (t1 t2 t3 t4 t5 t6 t7 t8 t9 t10 : Tok), o = ({ cls := .type "tuple", data := .seq #[.int (cent y) t1, .int m t2, .int d t3, .int h t4, .int mi t5, .int sc t6, .int 0 t7, .int 1 t8, .int (-1) t9, .int 0 t10] } : Obj)) := by
  refine' FnC.of_B ?ho ?hb ?h ?hcd ?hl ?h0 ?h1 ?h2 ?h3 ?h4
  case ho => k_is
  case hb => exact fun _ => BindsTo.of_eq rfl
  case hcd => k_is
  case hl => exact locs rfl
  case h0 => decide
  case h1 => exact rfl
  case h2 => exact rfl
  case h3 => exact rfl
  case h4 => decide
  case h =>
    intro z hz
    subst hz
    exact Wrap.out (D_ptz.all z T k y m d h mi sc tx0) hT hk hm hy hd hh hmi hs
theorem words_PtE_01_1 : True := by
  k_with "wpC" => ((k_here; (with_reducible show wpC _ _ (call (Value.ref 64) _) _ _ _); k_dflt (refine' FnC.useO (c_ptz _ _ _ _ _ _ _ _ _ _ (by assumption) (by assumption) (by assumption) (by assumption) (by assumption) (by assumption) (by assumption) (by assumption)) (by k_asm) (by k_asm) (by k_asm) (by k_asm) (by k_asm) (by assumption) (by assumption) (by assumption) (by first | exact rfl | assumption) (by walk_at "fn:args") (by ktr_room) (by ktr_units) ?_); intro g9 D9 o9 h9 tk9 ho9 T9 F9 N9 B9 X9 P9 D9 hne9; (try k_lift B9); obtain ⟨_, _, _, _, _, _, _, _, _, _, e9⟩ := ho9; subst e9; (try simp only [List.cons_append, List.nil_append] at N9); (try dsimp only)))
  trivial
noncomputable def G_pd (z : Dat) (T : List Nat) (k : Int) (y : Int) (m : Int) (d : Int) (h : Int) (mi : Int) (sc : Int) (tx0 : Tok) : Prop := Wrap ((Mail T k d m y h mi sc) → (0 ≤ k ∧ k ≤ 6) → (1 ≤ m ∧ m ≤ 12) → (0 ≤ y ∧ y ≤ 99) → (1 ≤ d ∧ d ≤ 31) → (0 ≤ h ∧ h ≤ 23) → (0 ≤ mi ∧ mi ≤ 59) → (0 ≤ sc ∧ sc ≤ 59) → FnCB z PySem.Challenge.rw_kl0450_01.row.prog (Mine.hd.heap_1 z.w.params) 3 78 [] [.str (tx T) tx0] (fun v new => ∃ D o, v = .ref D ∧ new = [(D, o)] ∧ ∃ (t1 t2 t3 t4 t5 t6 t7 t8 t9 : Tok), o = ({ cls := .type "tuple", data := .seq #[.int (cent y) t1, .int m t2, .int d t3, .int h t4, .int mi t5, .int sc t6, .int 0 t7, .int 1 t8, .int (-1) t9] } : Obj)) (by k_is) (by exact BindsTo.of_eq rfl))
namespace D_pd
noncomputable def zG (zt : Dat × List Nat × Int × Int × Int × Int × Int × Int × Int × Tok) : Prop := G_pd (zt.1) (zt.2.1) (zt.2.2.1) (zt.2.2.2.1) (zt.2.2.2.2.1) (zt.2.2.2.2.2.1) (zt.2.2.2.2.2.2.1) (zt.2.2.2.2.2.2.2.1) (zt.2.2.2.2.2.2.2.2.1) (zt.2.2.2.2.2.2.2.2.2)
noncomputable def zt : Dat × List Nat × Int × Int × Int × Int × Int × Int × Int × Tok := haveI : Nonempty Dat := dat_some PySem.Challenge.rw_kl0450_01.row.prog; sk zG
@[irreducible] noncomputable def z : Dat := zt.1
theorem z_def : z = zt.1 := by with_unfolding_all rfl
@[irreducible] noncomputable def T : List Nat := zt.2.1
theorem T_def : T = zt.2.1 := by with_unfolding_all rfl
@[irreducible] noncomputable def k : Int := zt.2.2.1
theorem k_def : k = zt.2.2.1 := by with_unfolding_all rfl
@[irreducible] noncomputable def y : Int := zt.2.2.2.1
theorem y_def : y = zt.2.2.2.1 := by with_unfolding_all rfl
@[irreducible] noncomputable def m : Int := zt.2.2.2.2.1
theorem m_def : m = zt.2.2.2.2.1 := by with_unfolding_all rfl
@[irreducible] noncomputable def d : Int := zt.2.2.2.2.2.1
theorem d_def : d = zt.2.2.2.2.2.1 := by with_unfolding_all rfl
@[irreducible] noncomputable def h : Int := zt.2.2.2.2.2.2.1
theorem h_def : h = zt.2.2.2.2.2.2.1 := by with_unfolding_all rfl
@[irreducible] noncomputable def mi : Int := zt.2.2.2.2.2.2.2.1
theorem mi_def : mi = zt.2.2.2.2.2.2.2.1 := by with_unfolding_all rfl
@[irreducible] noncomputable def sc : Int := zt.2.2.2.2.2.2.2.2.1
theorem sc_def : sc = zt.2.2.2.2.2.2.2.2.1 := by with_unfolding_all rfl
@[irreducible] noncomputable def tx0 : Tok := zt.2.2.2.2.2.2.2.2.2
theorem tx0_def : tx0 = zt.2.2.2.2.2.2.2.2.2 := by with_unfolding_all rfl
theorem main : G_pd z T k y m d h mi sc tx0 := by
  refine Wrap.mk ?_
  intro hT hk hm hy hd hh hmi hs
  walk_at "bodyC"
  k_with "run:c_pd" => (
    (try dsimp +zetaDelta only)
    as_aux_lemma =>
      walk_at "step"
      all_goals (repeat' ((fail_if_success (first | (with_reducible guard_target = wpC _ _ (execs (List.cons _ _) _) _ _ _) | (with_reducible guard_target = wpAny _ _ (execs (List.cons _ _) _) _ _ _))); walk_at "step"))
      all_goals (first | ((first | (with_reducible guard_target = wpC _ _ (execs (List.cons _ _) _) _ _ _) | (with_reducible guard_target = wpAny _ _ (execs (List.cons _ _) _) _ _ _)); k_extra "run:c_pd") | k_extra "tail:c_pd"))
  k_with "tail:c_pd" => (
  all_goals walk_at "fnC:obj"
  all_goals exact ⟨_, _, _, _, _, _, _, _, _, rfl⟩)
  all_goals (first | ((first | (with_reducible guard_target = wpC _ _ (execs (List.cons _ _) _) _ _ _) | (with_reducible guard_target = wpAny _ _ (execs (List.cons _ _) _) _ _ _)); k_extra "run:c_pd") | k_extra "tail:c_pd")
theorem main' : zG zt := by
  have q := main
  rw [z_def, T_def, k_def, y_def, m_def, d_def, h_def, mi_def, sc_def, tx0_def] at q
  exact q
theorem all (z : Dat) (T : List Nat) (k : Int) (y : Int) (m : Int) (d : Int) (h : Int) (mi : Int) (sc : Int) (tx0 : Tok) : G_pd z T k y m d h mi sc tx0 := haveI : Nonempty Dat := dat_some PySem.Challenge.rw_kl0450_01.row.prog; sk_all (G := zG) main' (z, T, k, y, m, d, h, mi, sc, tx0)
end D_pd
theorem c_pd (w : World) (T : List Nat) (k y m d h mi sc : Int) (tx0 : Tok) (hT : Mail T k d m y h mi sc) (hk : 0 ≤ k ∧ k ≤ 6) (hm : 1 ≤ m ∧ m ≤ 12) (hy : 0 ≤ y ∧ y ≤ 99) (hd : 1 ≤ d ∧ d ≤ 31) (hh : 0 ≤ h ∧ h ≤ 23) (hmi : 0 ≤ mi ∧ mi ≤ 59) (hs : 0 ≤ sc ∧ sc ≤ 59) : FnC PySem.Challenge.rw_kl0450_01.row.prog w (Mine.hd.heap_1 w.params) 3 78 [] [.str (tx T) tx0] (fun v new => ∃ D o, v = .ref D ∧ new = [(D, o)] ∧ ∃ (t1 t2 t3 t4 t5 t6 t7 t8 t9 : Tok), o = ({ cls := .type "tuple", data := .seq #[.int (cent y) t1, .int m t2, .int d t3, .int h t4, .int mi t5, .int sc t6, .int 0 t7, .int 1 t8, .int (-1) t9] } : Obj)) := by
  refine' FnC.of_B ?ho ?hb ?h ?hcd ?hl ?h0 ?h1 ?h2 ?h3 ?h4
  case ho => k_is
  case hb => exact fun _ => BindsTo.of_eq rfl
  case hcd => k_is
  case hl => exact locs rfl
  case h0 => decide
  case h1 => exact rfl
  case h2 => exact rfl
  case h3 => exact rfl
  case h4 => decide
  case h =>
    intro z hz
    subst hz
    exact Wrap.out (D_pd.all z T k y m d h mi sc tx0) hT hk hm hy hd hh hmi hs
end
end Mine

end
section
open PySem PySem.W PyProof.Rows PySem.Calls PySem.Spec
set_option Elab.async false
namespace Mine
section
set_option maxRecDepth 100000
set_option maxHeartbeats 8000000
theorem filled_DatesC : PySem.Challenge.rw_kl0450_01 = PySem.Challenge.rw_kl0450_01 ∧ ∀ P, Mine.hd.heap_1 P = Mine.hd.heap_1 P := by
  k_fill
  exact ⟨rfl, fun _ => rfl⟩
theorem words_DatesC_01_0 : True := by
  k_with_none
  w_top off
  k_with "body" => ((
  refine Wrap.mk ?_
  intro zzF' zzN' zzB' zzX' zzT' zzhk zzhd zzhu
  (try dsimp only)
  (try k_lift zzB')
  (try k_fold)))
  k_with "idx" => (first | omega | (simp only [fm12]; omega) | (simp only [fd32, fd4, fd100, fd400, fd365, fd1461, fd36524, fd146097, fm365, fm1461, fm36524, fm146097, dbmT]; omega) | (rename ((_ : Int) < dbmT _ + _) => hx9; simp only [dbmT, fd32] at hx9 ⊢; omega))
  k_with "ediv" => (simp only [fd4, fd5, fd7, fd12, fd60, fd100, fd400, fd365, fd1461, fd3600, fd36524, fd86400, fd146097, fm4, fm7, fm12, fm60, fm100, fm365, fm400, fm1461, fm36524, fm86400, fm146097] at *)
  k_with "wpC" => (first
  | with_reducible refine wpC_cons ?_
  | with_reducible refine wpC_nil ?_)
  k_with "ite" => ((k_here; first
  | (k_closed; k_dflt (first | refine ite_pos (by decide) ?_ | refine ite_neg (by decide) ?_))
  | refine ite_pos (by with_reducible assumption) ?_
  | refine ite_neg (by with_reducible assumption) ?_
  | refine ite_isFalse (by with_reducible assumption) ?_
  | refine ite_pos (by k_dec) ?_
  | refine ite_neg (by k_dec) ?_))
  k_with "step" => (first | (k_unfold; (try dsimp only)) | (k_end; wrow_close) | ((with_reducible guard_target = wpAny _ _ (newTuple _) _ _ _); dsimp only; walk1) | walk1 | (dsimp only; walk1) | (leave1; try dsimp only))
  k_with "bodyT" => ((
  refine Wrap.mk ?_
  intro zzF' zzN' zzB' zzX' zzT' zzXB' zzTB' zzD' zzhk zzhd zzhu
  (try dsimp only)
  (try k_lift zzB')
  (try k_fold)))
  k_with "bodyC" => ((
  refine Wrap.mk ?_
  intro zzF' zzN' zzB' zzX' zzT' zzXB' zzTB' zzD' zzhk zzhd zzhu
  (try dsimp only)
  (try k_lift zzB')))
  k_with "getAttr ref" => ((k_here; (with_reducible show wpAny _ _ (getAttr (Value.ref _) (PySem.Str.ofString "year") _) _ _ _); k_dflt (refine' attrK_year (by k_asm) (by k_mem) ?_; k_whole); intro t9 k9; (try k_fold)))
  k_with "getAttr ref" => ((k_here; (with_reducible show wpAny _ _ (getAttr (Value.ref _) (PySem.Str.ofString "month") _) _ _ _); k_dflt (refine' attrK_month (by k_asm) (by k_mem) ?_; k_whole); intro t9 k9; (try k_fold)))
  k_with "getAttr ref" => ((k_here; (with_reducible show wpAny _ _ (getAttr (Value.ref _) (PySem.Str.ofString "day") _) _ _ _); k_dflt (refine' attrK_day (by k_asm) (by k_mem) ?_; k_whole); intro t9 k9; (try k_fold)))
  k_with "getAttr ref" => ((k_here; (with_reducible show wpAny _ _ (getAttr (Value.ref _) (PySem.Str.ofString "hour") _) _ _ _); k_dflt (refine' attrK_hour (by k_asm) (by k_mem) ?_; k_whole); intro t9 k9; (try k_fold)))
  k_with "getAttr ref" => ((k_here; (with_reducible show wpAny _ _ (getAttr (Value.ref _) (PySem.Str.ofString "minute") _) _ _ _); k_dflt (refine' attrK_minute (by k_asm) (by k_mem) ?_; k_whole); intro t9 k9; (try k_fold)))
  k_with "getAttr ref" => ((k_here; (with_reducible show wpAny _ _ (getAttr (Value.ref _) (PySem.Str.ofString "second") _) _ _ _); k_dflt (refine' attrK_second (by k_asm) (by k_mem) ?_; k_whole); intro t9 k9; (try k_fold)))
  k_with "getAttr ref" => ((k_here; (with_reducible show wpAny _ _ (getAttr (Value.ref _) (PySem.Str.ofString "microsecond") _) _ _ _); k_dflt (refine' attrK_microsecond (by k_asm) (by k_mem) ?_; k_whole); intro t9 k9; (try k_fold)))
  k_with "getAttr ref" => ((k_here; (with_reducible show wpAny _ _ (getAttr (Value.ref _) (PySem.Str.ofString "tzinfo") _) _ _ _); k_dflt (refine' attrK_tzinfo (by k_asm) (by k_mem) ?_; k_whole); intro t9 k9; (try k_fold)))
  k_with "lawC:enter" => ((
  k_fill
  intro zzw zzs₀ zzs₁ zzmg zzmb zzG zzY zzfa zzo zzpm zzcd zzdoc zzdV zzkV zzho zzhd zzhcd zzhD zzhmg zzhg zzargs zzvals zzas zzhpre zzhlay zzhrd zzhwl zzhlo
  have zzKX := kIn_of zzY
  have zzX := (Ground.X zzG).1
  have zzV := (Ground.X zzG).2
  refine Ground.open zzG ?_
  intro zzT zzB zzD zzTE zzTW
  clear zzD
  wrow_args zzhpre zzhlay zzhrd zzhwl zzhlo
  refine enterC ?_
  w_top on
  refine codeC_mono ?_ (fun _ _ g => GoodW.toG g)
  have zzK0 := below_caller (Top.heap zzT)
  have zzhe := Dflts.none zzhD rfl; subst zzhe
  refine call_fullC (by decide) zzho zzhd (Top.nolimit zzT) zzhcd (BindsTo.of_eq rfl) (locs rfl) fun zzh₁ zzF => ?_
  w_binds zzF
  have zzN0 := (News.nil : News _ _ _ []).at zzF
  clear zzhd zzhmg
  k_drop))
  k_with "wpC" => ((k_here; (with_reducible show wpC _ _ (execs (Stmt.For _ _ _ _ _ :: _) _) _ _ _); k_dflt (refine wpC_consC ?_; refine wpC_For ?_); (try k_fold)))
  k_with "pyIter ref" => ((k_here; (with_reducible show wpAny _ _ (pyIter (Value.ref _)) (fun it s₂ => codeC _ _ _ _ s₂) _ _); refine Stop.out ?_))
  k_with "ieq" => (first | with_reducible rfl | with_reducible assumption | (with_reducible refine Eq.symm ?_; with_reducible assumption) | omega)
  k_with "eqvs" => (first | exact eqvs_nil | (refine eqvs_int (by walk_at "ieq") (by walk_at "eqvs")))
  k_with "eqv" => (first | (with_reducible refine eqv_tup ?_; walk_at "eqvs") | (with_reducible refine eqv_list ?_; walk_at "eqvs"))
  k_with "compareOp NotEq ref ref" => ((k_here; (with_reducible show wpAny _ _ (compareOp CmpOp.NotEq (Value.ref _) (Value.ref _)) _ _ _); k_dflt (refine' ne_same (by ke_read) (by ke_read) (by ke_shaped) (by ke_shaped) (by ke_room) (by walk_at "eqv") ?_; (try k_fold))))
  k_with "compareOp Eq ref ref" => ((k_here; (with_reducible show wpAny _ _ (compareOp CmpOp.Eq (Value.ref _) (Value.ref _)) _ _ _); k_dflt (refine' eqd_same (by ke_read) (by ke_read) (by ke_shaped) (by ke_shaped) (by ke_room) (by walk_at "eqv") ?_; (try k_fold))))
  k_with "compareOp NotEq int int" => ((k_here; (with_reducible show wpAny _ _ (compareOp CmpOp.NotEq (Value.int _ _) (Value.int _ _)) _ _ _); k_dflt (refine' nei_same (by walk_at "ieq") ?_; (try k_fold))))
  k_with "compareOp NotEq str str" => ((k_here; (with_reducible show wpAny _ _ (compareOp CmpOp.NotEq (Value.str _ _) (Value.str _ _)) _ _ _); k_dflt (refine' nes_same (by with_reducible rfl) ?_; (try k_fold))))
  k_with "binaryOp Mod str ref" => ((k_here; (with_reducible show wpAny _ _ (binaryOp Operator.Mod (Value.str _ _) (Value.ref _)) _ _ _); k_dflt (refine' KPt.mod_tuple (by k_asm) (by k_mem) ?_ (by exact fmt_stampL _ _ _ _ _ _ _ _ _ _ _ _ _ _ (by assumption) (by assumption) (by assumption) (by assumption) (by assumption) (by assumption)) ?_; (decide +kernel)); intro t9 k9; (try k_fold)))
  k_with "And" => (((with_reducible show keepIn _ _ = true ∧ _); refine ⟨by k_is, ?_⟩; (try dsimp only [List.nil_append, List.cons_append])))
  k_with "And" => (((with_reducible show Frag.In _ _ ∧ _); refine ⟨by k_in, ?_⟩; (try dsimp only [List.nil_append, List.cons_append])))
  k_with "wpC" => ((k_here; (with_reducible show wpC _ _ (execs (Stmt.Assign [Expr.Name _ _] (Expr.Call (Expr.Name (PySem.Str.ofString "parsedate") _) _ _ _) _ :: _) _) _ _ _); k_dflt (refine wpC_consC ?_; refine wpC_AssignName ?_; rename Frag.In _ _ => X9; refine wpC_CallK X9 ?_; skip); (try k_fold)))
  k_with "allint" => (first | exact True.intro | (refine And.intro ⟨_, _, rfl⟩ ?_; walk_at "allint"))
  k_with "CompI" => ((k_dflt (refine' CompI.intro (by k_asm) (by k_asm) (by k_mem) (by walk_at "allint") (by exact Nat.le_of_ble_eq_true rfl) ?_; k_whole); intro D' n' h' tk' F' N' hne'; (try k_sweep); (try k_fold)))
  k_with "eval ListComp" => ((k_here; (with_reducible show wpAny _ _ (eval (Expr.ListComp (Expr.Name _ _) [Comprehension.mk _ _ [Expr.Compare (Expr.Call (Expr.Name (Str.ofString "type") _) _ _ _) _ _ _] _] _ _) _) _ _ _); k_dflt (refine' comp_ints (by k_asm) (by exact rfl) (by k_asm) (by k_asm) (by k_is) (by k_is) (by decide) (by decide) (by exact rfl) (by decide) (by exact rfl) (by intro _; exact rfl) (by intro _; exact rfl) (by intro _; exact rfl) (by decide) ?_ (by intro _; exact rfl); (try k_fold))))
  k_with "subscriptTail Name Slice ref ref" => ((k_here; (with_reducible show wpAny _ _ (subscriptTail _ (PySem.Expr.Slice none (some (PySem.Expr.Constant (PySem.Const.int 9) _ _)) none _) (Value.ref _) (Value.ref _)) _ _ _); k_dflt (refine' tup_to (b := 9) (by k_asm) (by k_asm) (by exact News.isTup (by k_asm) (by k_mem)) (by exact Nat.le_of_ble_eq_true rfl) (by exact pick10_9) ?_ (by with_unfolding_all rfl) (by intro _; with_unfolding_all rfl) (by exact Nat.le_of_ble_eq_true rfl); k_whole); intro D' h' F' N' l1; (try k_lt l1); (try k_sweep); (try k_fold)))
  k_with "subscriptTail Name Slice ref ref" => ((k_here; (with_reducible show wpAny _ _ (subscriptTail _ (PySem.Expr.Slice none (some (PySem.Expr.Constant (PySem.Const.int 6) _ _)) none _) (Value.ref _) (Value.ref _)) _ _ _); k_dflt (refine' tup_to (b := 6) (by k_asm) (by k_asm) (by exact News.isTup (by k_asm) (by k_mem)) (by exact Nat.le_of_ble_eq_true rfl) (by exact pick9_6) ?_ (by with_unfolding_all rfl) (by intro _; with_unfolding_all rfl) (by exact Nat.le_of_ble_eq_true rfl); k_whole); intro D' h' F' N' l1; (try k_lt l1); (try k_sweep); (try k_fold)))
  k_with "subscriptTail Name Slice ref ref" => ((k_here; (with_reducible show wpAny _ _ (subscriptTail _ (PySem.Expr.Slice none (some (PySem.Expr.Constant (PySem.Const.int 3) _ _)) none _) (Value.ref _) (Value.ref _)) _ _ _); k_dflt (refine' tup_to (b := 3) (by k_asm) (by k_asm) (by exact News.isTup (by k_asm) (by k_mem)) (by exact Nat.le_of_ble_eq_true rfl) (by exact pick9_3) ?_ (by with_unfolding_all rfl) (by intro _; with_unfolding_all rfl) (by exact Nat.le_of_ble_eq_true rfl); k_whole); intro D' h' F' N' l1; (try k_lt l1); (try k_sweep); (try k_fold)))
  k_with "binaryOp Add ref ref" => ((k_here; (with_reducible show wpAny _ _ (binaryOp _ (Value.ref _) (Value.ref _)) _ _ _); k_dflt (refine' kde_addT (by k_asm) (by k_asm) (by exact News.isTup (by k_asm) (by k_mem)) (by exact News.isTup (by k_asm) (by k_mem)) (by exact List.cons_ne_nil _ _) (by exact List.cons_ne_nil _ _) (by exact Nat.le_of_ble_eq_true rfl) (by first | exact cat33 | exact cat63 | kun_lit) ?_; k_whole); intro D' h' F' N' l1; (try k_lt l1); (try k_sweep); (try k_fold)))
  k_with "compareOp Eq ref ref" => ((k_here; (with_reducible show wpAny _ _ (compareOp CmpOp.Eq (Value.ref _) (Value.ref _)) _ _ _); k_dflt (refine' eqd_other (by ke_read) (by ke_read) (by ke_shaped) (by ke_shaped) (by ke_room) (by exact eqv_no6 (by with_reducible assumption)) ?_; (try k_fold))))
  k_with "compareOp Eq ref ref" => ((k_here; (with_reducible show wpAny _ _ (compareOp CmpOp.Eq (Value.ref _) (Value.ref _)) _ _ _); k_dflt (refine' eqd_same (by ke_read) (by ke_read) (by ke_shaped) (by ke_shaped) (by ke_room) (by exact eqv_is6 (by with_reducible assumption)) ?_; (try k_fold))))
  trivial
local macro_rules | `(tactic| k_ne) => `(tactic| (refine neN ?_; (try dsimp only); first | (with_reducible refine' ne_of_all ?h ?m; (case h => with_reducible assumption); (case m => k_dflt k_mem)) | (with_reducible refine' en_of_all ?h ?m; (case h => with_reducible assumption); (case m => k_dflt k_mem)) | fail "no"))
theorem words_DatesC_01_1 : True := by
  k_with "subscriptTail Name Slice ref ref" => ((k_here; (with_reducible show wpAny _ _ (subscriptTail _ (PySem.Expr.Slice (some (PySem.Expr.Constant (PySem.Const.int 1) _ _)) (some (PySem.Expr.Constant (PySem.Const.int 6) _ _)) none _) (Value.ref _) (Value.ref _)) _ _ _); k_dflt (refine' tup_ab (a := 1) (b := 6) (by k_asm) (by k_asm) (by exact News.isTup (by k_asm) (by k_mem)) (by decide) (by exact Nat.le_of_ble_eq_true rfl) (by exact Nat.le_of_ble_eq_true rfl) (by rfl) ?_ (by with_unfolding_all rfl) (by intro _; with_unfolding_all rfl) (by exact Nat.le_of_ble_eq_true rfl); k_whole); intro D' h' F' N' l1; (try k_lt l1); (try k_sweep); (try k_fold)))
  k_with "subscriptTail Name Constant ref int" => ((k_here; (with_reducible show wpAny _ _ (subscriptTail _ _ (Value.ref _) (Value.int 0 _)) _ _ _); k_dflt (refine' item_one (by k_asm) (by k_mem) ?_ (by with_unfolding_all rfl)); (try k_fold)))
  k_with "call builtin:list.append" => ((k_here; (with_reducible show wpAny _ _ (call (Value.builtin "list.append") _) _ _ _); k_dflt (refine' append_K (by k_asm) (by k_asm) (by k_upd) ?_ (by first | with_reducible assumption | exact Nat.le_of_ble_eq_true rfl); k_whole); intro h' F' N'; (try k_sweep); (try k_fold)))
  k_with "compareOp Eq int int" => ((k_here; (with_reducible show wpAny _ _ (compareOp CmpOp.Eq (Value.int (Int.fmod _ 7) _) (Value.int _ _)) _ _ _); refine split_q (by assumption) (by assumption) (by assumption) (by assumption) (fun q1 q5 q6 => ?_) (fun q1 q5 => ?_); all_goals (first | ((with_reducible refine eqi_yes ?_ ?_); (first | (with_reducible assumption) | fail "no"); (try k_fold)) | ((with_reducible refine eqi_no ?_ ?_); (first | (with_reducible assumption) | fail "no"); (try k_fold)))))
  k_with "call ref" => ((k_here; (with_reducible show wpAny _ _ (call (Value.ref 111) _) _ _ _); k_dflt (refine' Fn.useV (c_leap _ _ _) (by k_asm) (by k_asm) (by k_asm) (by k_asm) (by k_asm) (by first | exact rfl | assumption) (by walk_at "fn:args") (by ktr_room) (by ktr_units) ?_); intro t9 h9 tk9 F9 N9; (try dsimp only); (try k_fold)))
  k_with "call ref" => ((k_here; (with_reducible show wpAny _ _ (call (Value.ref 118) _) _ _ _); k_dflt (refine' Fn.useV (c_dby _ _ _) (by k_asm) (by k_asm) (by k_asm) (by k_asm) (by k_asm) (by first | exact rfl | assumption) (by walk_at "fn:args") (by ktr_room) (by ktr_units) ?_); intro t9 h9 tk9 F9 N9; (try dsimp only); (try k_fold)))
  k_with "call ref" => ((k_here; (with_reducible show wpAny _ _ (call (Value.ref 163) _) _ _ _); k_dflt (refine' Fn.useV (c_first _ _ _ _ _) (by k_asm) (by k_asm) (by k_asm) (by k_asm) (by k_asm) (by first | exact rfl | assumption) (by walk_at "fn:args") (by ktr_room) (by ktr_units) ?_); intro t9 h9 tk9 F9 N9; (try dsimp only); (try k_fold)))
  k_with "subscriptTail" => ((k_here; (with_reducible show wpAny _ _ (subscriptTail _ _ (Value.ref 98) (Value.int _ _)) _ _ _); k_dflt (refine' item_tabK dimT 1 12 (by k_asm) (by k_asm) (by k_is) (by decide +kernel) (by decide) (by walk_at "idx") (by walk_at "idx") (by decide) ?_ (by with_unfolding_all rfl); k_whole; intro t9; (try dsimp only); (try k_fold))))
  k_with "subscriptTail" => ((k_here; (with_reducible show wpAny _ _ (subscriptTail _ _ (Value.ref 99) (Value.int _ _)) _ _ _); k_dflt (refine' item_tabK dbmT 1 12 (by k_asm) (by k_asm) (by k_is) (by decide +kernel) (by decide) (by walk_at "idx") (by walk_at "idx") (by decide) ?_ (by with_unfolding_all rfl); k_whole; intro t9; (try dsimp only); (try k_fold))))
  k_with "call ref" => ((k_here; (with_reducible show wpAny _ _ (call (Value.ref 125) _) _ _ _); k_dflt (refine' Fn.useV (c_dim _ _ _ _ _ (by exact ⟨by walk_at "idx", by walk_at "idx"⟩)) (by k_asm) (by k_asm) (by k_asm) (by k_asm) (by k_asm) (by first | exact rfl | assumption) (by walk_at "fn:args") (by ktr_room) (by ktr_units) ?_); intro t9 h9 tk9 F9 N9; (try dsimp only); (try k_fold)))
  k_with "call ref" => ((k_here; (with_reducible show wpAny _ _ (call (Value.ref 132) _) _ _ _); k_dflt (refine' Fn.useV (c_dbm _ _ _ _ _ (by exact ⟨by walk_at "idx", by walk_at "idx"⟩)) (by k_asm) (by k_asm) (by k_asm) (by k_asm) (by k_asm) (by first | exact rfl | assumption) (by walk_at "fn:args") (by ktr_room) (by ktr_units) ?_); intro t9 h9 tk9 F9 N9; (try dsimp only); (try k_fold)))
  k_with "call ref" => ((k_here; (with_reducible show wpAny _ _ (call (Value.ref 97) _) _ _ _); k_dflt (refine' Fn.useVA (by k_asm) (by k_mem) (c_dts _ _ _ _ _ _ _ _ (by assumption) (by assumption) (by assumption) (by assumption) (by assumption) (by assumption)) (by k_asm) (by k_asm) (by k_asm) (by k_asm) (by first | exact rfl | assumption) (by ktr_room) (by ktr_units) ?_; intro t9 h9 tk9 F9 N9; (try dsimp only); (try k_fold))))
  k_with "call ref" => ((k_here; (with_reducible show wpAny _ _ (call (Value.ref 170) _) _ _ _); k_dflt (refine' FnT.useG (c_readN _ _ _ _ _ _ _ _ (by assumption) (by assumption) (by assumption) (by assumption) (by assumption) (by assumption) (by assumption)) (by assumption) (by k_asm) (by k_asm) (by assumption) (by assumption) (by first | exact rfl | assumption) (by walk_at "fn:args") (by ktr_room) (by ktr_units) ?_); intro g9 D9 o9 h9 tk9 ho9 G9 F9 N9 hne9; obtain ⟨_, e9⟩ := ho9; subst e9; have B9 := Gd5.B G9; have X9 := Gd5.X G9; have P9 := Gd5.P G9; have K9 := Gd5.D G9; (try dsimp only); (try k_fold)))
  k_with "call ref" => ((k_here; (with_reducible show wpAny _ _ (call (Value.ref 170) _) _ _ _); k_dflt (refine' FnT.useG2 (c_readO _ _ _ _ _ _ _ _ (by assumption) (by assumption) (by assumption) (by assumption) (by assumption) (by assumption) (by assumption)) (by assumption) (by k_asm) (by k_asm) (by assumption) (by assumption) (by first | exact rfl | assumption) (by walk_at "fn:args") (by ktr_room) (by ktr_units) ?_); intro g9 D9 o9 x9 p9 h9 tk9 ho9 G9 F9 N9 hne9 hne8; obtain ⟨_, e9, e8⟩ := ho9; subst e9; subst e8; have B9 := Gd5.B G9; have X9 := Gd5.X G9; have P9 := Gd5.P G9; have K9 := Gd5.D G9; (try dsimp only); (try k_fold)))
  k_with "call ref" => ((k_here; (with_reducible show wpAny _ _ (call (Value.ref 177) _) _ _ _); k_dflt (refine' FnT.useG (c_numN _ _ _ _ _ _ _ (by assumption) (by assumption)) (by assumption) (by k_asm) (by k_asm) (by assumption) (by assumption) (by first | exact rfl | assumption) (by walk_at "fn:args") (by ktr_room) (by ktr_units) ?_); intro g9 D9 o9 h9 tk9 ho9 G9 F9 N9 hne9; obtain ⟨_, e9⟩ := ho9; subst e9; have B9 := Gd5.B G9; have X9 := Gd5.X G9; have P9 := Gd5.P G9; have K9 := Gd5.D G9; (try dsimp only); (try k_fold)))
  k_with "call ref" => ((k_here; (with_reducible show wpAny _ _ (call (Value.ref 177) _) _ _ _); k_dflt (refine' FnT.useG (c_numV _ _ _ _ _ _ _ (by assumption)) (by assumption) (by k_asm) (by k_asm) (by assumption) (by assumption) (by first | exact rfl | assumption) (by walk_at "fn:args") (by ktr_room) (by ktr_units) ?_); intro g9 D9 o9 h9 tk9 ho9 G9 F9 N9 hne9; obtain ⟨_, _, e9⟩ := ho9; subst e9; have B9 := Gd5.B G9; have X9 := Gd5.X G9; have P9 := Gd5.P G9; have K9 := Gd5.D G9; (try dsimp only); (try k_fold)))
  k_with "call ref" => ((k_here; (with_reducible show wpAny _ _ (call (Value.ref 170) _) _ _ _); (fail_if_success (with_reducible rename Stop True => q9)); have s9 : Stop True := Stop.mk True.intro; refine split_dt (by assumption) (by assumption) (by assumption) (by assumption) (by assumption) (by assumption) (by assumption) (by assumption) (fun q2 q3 q4 => ?_) (fun q1 q2 q3 q4 => ?_)))
  trivial
noncomputable def G_dates (z : Dat) (Y : Int) (m : Int) (d : Int) (h : Int) (mi : Int) (sc : Int) (wk : Int) (y0 : Int) (q : Int) (a0 : Addr) (t1 : Tok) (t2 : Tok) (t3 : Tok) (t4 : Tok) (t5 : Tok) (t6 : Tok) (t7 : Tok) (t8 : Tok) (t9 : Tok) (tw : Tok) : Prop := Wrap ((1 ≤ m ∧ m ≤ 12) → (1969 ≤ Y ∧ Y ≤ 2068) → (1 ≤ d ∧ d ≤ 31) → (0 ≤ h ∧ h ≤ 23) → (0 ≤ mi ∧ mi ≤ 59) → (0 ≤ sc ∧ sc ≤ 59) → (0 ≤ q ∧ q < 4) → (y0 = Y - 200 + q * 100) → (Valid y0 m d) → ((first y0 m + d - 1).fmod 7 = wk) → (∀ i : Nat, i < 4 → (i : Int) ≠ q → (first (Y - 200 + (i : Int) * 100) m + d - 1).fmod 7 ≠ wk) → FnCB z PySem.Challenge.rw_kl0450_01.row.prog (Mine.hd.heap_1 z.w.params) 8 184 [(a0, ({ cls := .type "tuple", data := .seq #[.int Y t1, .int m t2, .int d t3, .int h t4, .int mi t5, .int sc t6, .int 0 t7, .int 1 t8, .int (-1) t9] } : Obj))] [.ref a0, .int wk tw] (fun v new => ∃ D x y, v = .ref D ∧ ∃ (n0 : Nat) (u1 u2 : Tok), new = [(D, PySem.W.listOf #[.ref x] n0), (x, ({ cls := .type "tuple", data := .seq #[.int y0 u1, .int (first y0 m + d - 1) u2, .ref y] } : Obj)), (y, dtObj y0 m d h mi sc)]) (by k_is) (by exact BindsTo.of_eq rfl))
namespace D_dates
noncomputable def zG (zt : Dat × Int × Int × Int × Int × Int × Int × Int × Int × Int × Addr × Tok × Tok × Tok × Tok × Tok × Tok × Tok × Tok × Tok × Tok) : Prop := G_dates (zt.1) (zt.2.1) (zt.2.2.1) (zt.2.2.2.1) (zt.2.2.2.2.1) (zt.2.2.2.2.2.1) (zt.2.2.2.2.2.2.1) (zt.2.2.2.2.2.2.2.1) (zt.2.2.2.2.2.2.2.2.1) (zt.2.2.2.2.2.2.2.2.2.1) (zt.2.2.2.2.2.2.2.2.2.2.1) (zt.2.2.2.2.2.2.2.2.2.2.2.1) (zt.2.2.2.2.2.2.2.2.2.2.2.2.1) (zt.2.2.2.2.2.2.2.2.2.2.2.2.2.1) (zt.2.2.2.2.2.2.2.2.2.2.2.2.2.2.1) (zt.2.2.2.2.2.2.2.2.2.2.2.2.2.2.2.1) (zt.2.2.2.2.2.2.2.2.2.2.2.2.2.2.2.2.1) (zt.2.2.2.2.2.2.2.2.2.2.2.2.2.2.2.2.2.1) (zt.2.2.2.2.2.2.2.2.2.2.2.2.2.2.2.2.2.2.1) (zt.2.2.2.2.2.2.2.2.2.2.2.2.2.2.2.2.2.2.2.1) (zt.2.2.2.2.2.2.2.2.2.2.2.2.2.2.2.2.2.2.2.2)
noncomputable def zt : Dat × Int × Int × Int × Int × Int × Int × Int × Int × Int × Addr × Tok × Tok × Tok × Tok × Tok × Tok × Tok × Tok × Tok × Tok := haveI : Nonempty Dat := dat_some PySem.Challenge.rw_kl0450_01.row.prog; sk zG
@[irreducible] noncomputable def z : Dat := zt.1
theorem z_def : z = zt.1 := by with_unfolding_all rfl
@[irreducible] noncomputable def Y : Int := zt.2.1
theorem Y_def : Y = zt.2.1 := by with_unfolding_all rfl
@[irreducible] noncomputable def m : Int := zt.2.2.1
theorem m_def : m = zt.2.2.1 := by with_unfolding_all rfl
@[irreducible] noncomputable def d : Int := zt.2.2.2.1
theorem d_def : d = zt.2.2.2.1 := by with_unfolding_all rfl
@[irreducible] noncomputable def h : Int := zt.2.2.2.2.1
theorem h_def : h = zt.2.2.2.2.1 := by with_unfolding_all rfl
@[irreducible] noncomputable def mi : Int := zt.2.2.2.2.2.1
theorem mi_def : mi = zt.2.2.2.2.2.1 := by with_unfolding_all rfl
@[irreducible] noncomputable def sc : Int := zt.2.2.2.2.2.2.1
theorem sc_def : sc = zt.2.2.2.2.2.2.1 := by with_unfolding_all rfl
@[irreducible] noncomputable def wk : Int := zt.2.2.2.2.2.2.2.1
theorem wk_def : wk = zt.2.2.2.2.2.2.2.1 := by with_unfolding_all rfl
@[irreducible] noncomputable def y0 : Int := zt.2.2.2.2.2.2.2.2.1
theorem y0_def : y0 = zt.2.2.2.2.2.2.2.2.1 := by with_unfolding_all rfl
@[irreducible] noncomputable def q : Int := zt.2.2.2.2.2.2.2.2.2.1
theorem q_def : q = zt.2.2.2.2.2.2.2.2.2.1 := by with_unfolding_all rfl
@[irreducible] noncomputable def a0 : Addr := zt.2.2.2.2.2.2.2.2.2.2.1
theorem a0_def : a0 = zt.2.2.2.2.2.2.2.2.2.2.1 := by with_unfolding_all rfl
@[irreducible] noncomputable def t1 : Tok := zt.2.2.2.2.2.2.2.2.2.2.2.1
theorem t1_def : t1 = zt.2.2.2.2.2.2.2.2.2.2.2.1 := by with_unfolding_all rfl
@[irreducible] noncomputable def t2 : Tok := zt.2.2.2.2.2.2.2.2.2.2.2.2.1
theorem t2_def : t2 = zt.2.2.2.2.2.2.2.2.2.2.2.2.1 := by with_unfolding_all rfl
@[irreducible] noncomputable def t3 : Tok := zt.2.2.2.2.2.2.2.2.2.2.2.2.2.1
theorem t3_def : t3 = zt.2.2.2.2.2.2.2.2.2.2.2.2.2.1 := by with_unfolding_all rfl
@[irreducible] noncomputable def t4 : Tok := zt.2.2.2.2.2.2.2.2.2.2.2.2.2.2.1
theorem t4_def : t4 = zt.2.2.2.2.2.2.2.2.2.2.2.2.2.2.1 := by with_unfolding_all rfl
@[irreducible] noncomputable def t5 : Tok := zt.2.2.2.2.2.2.2.2.2.2.2.2.2.2.2.1
theorem t5_def : t5 = zt.2.2.2.2.2.2.2.2.2.2.2.2.2.2.2.1 := by with_unfolding_all rfl
@[irreducible] noncomputable def t6 : Tok := zt.2.2.2.2.2.2.2.2.2.2.2.2.2.2.2.2.1
theorem t6_def : t6 = zt.2.2.2.2.2.2.2.2.2.2.2.2.2.2.2.2.1 := by with_unfolding_all rfl
@[irreducible] noncomputable def t7 : Tok := zt.2.2.2.2.2.2.2.2.2.2.2.2.2.2.2.2.2.1
theorem t7_def : t7 = zt.2.2.2.2.2.2.2.2.2.2.2.2.2.2.2.2.2.1 := by with_unfolding_all rfl
@[irreducible] noncomputable def t8 : Tok := zt.2.2.2.2.2.2.2.2.2.2.2.2.2.2.2.2.2.2.1
theorem t8_def : t8 = zt.2.2.2.2.2.2.2.2.2.2.2.2.2.2.2.2.2.2.1 := by with_unfolding_all rfl
@[irreducible] noncomputable def t9 : Tok := zt.2.2.2.2.2.2.2.2.2.2.2.2.2.2.2.2.2.2.2.1
theorem t9_def : t9 = zt.2.2.2.2.2.2.2.2.2.2.2.2.2.2.2.2.2.2.2.1 := by with_unfolding_all rfl
@[irreducible] noncomputable def tw : Tok := zt.2.2.2.2.2.2.2.2.2.2.2.2.2.2.2.2.2.2.2.2
theorem tw_def : tw = zt.2.2.2.2.2.2.2.2.2.2.2.2.2.2.2.2.2.2.2.2 := by with_unfolding_all rfl
theorem main : G_dates z Y m d h mi sc wk y0 q a0 t1 t2 t3 t4 t5 t6 t7 t8 t9 tw := by
  refine Wrap.mk ?_
  intro hm hY hd hh hmi hs hq h0 hv hw ho
  walk_at "bodyC"
  k_with "run:c_dates" => (
    (try dsimp +zetaDelta only)
    as_aux_lemma =>
      walk_at "step"
      all_goals (repeat' ((fail_if_success (first | (with_reducible guard_target = wpC _ _ (execs (List.cons _ _) _) _ _ _) | (with_reducible guard_target = wpAny _ _ (execs (List.cons _ _) _) _ _ _))); walk_at "step"))
      all_goals (first | ((first | (with_reducible guard_target = wpC _ _ (execs (List.cons _ _) _) _ _ _) | (with_reducible guard_target = wpAny _ _ (execs (List.cons _ _) _) _ _ _)); k_extra "run:c_dates") | k_extra "tail:c_dates"))
  k_with "tail:c_dates" => (
  first
  | (refine ⟨?_⟩
     rename IsRange _ _ _ _ _ _ _ _ => R1
     rename Fr _ _ _ _ => F1
     rename News _ _ _ _ => N1
     rename LT.lt _ _ => l1
     obtain ⟨R0, eR, hm0⟩ := pinR F1 (PySem.Str.ofString "found") rfl
     subst eR
     refine for_rangeT (Gd := Gd5 z.p z.loose z.mean z.mg z.mb (Mine.hd.heap_1 z.w.params) _ z.base _ z.g) 4 (JD R0 a0 (tup9 Y m d h mi sc t1 t2 t3 t4 t5 t6 t7 t8 t9) wk tw y0 m d h mi sc q) rfl R1 range4 (small4 hY) ⟨KtsTurn.refl, by assumption, by assumption, by assumption, by assumption⟩ F1 N1 ?h0 ?turn ?done ?ht ?hE
     case h0 =>
       refine ⟨rfl, rfl, rfl, _, _, _, rfl, allNe_intro ?_, .inl ⟨by omega, rfl⟩⟩
       k_all
     case ht => intro I v; rfl
     case hE => with_unfolding_all passes_own
     case turn =>
       intro Q' E' i g m₁ news₁ I hp tk tv hlt G hJ hI F₁ N₁
       obtain ⟨p1, p2, p3, its, n9, tail, rfl, hR, hF⟩ := hJ
       rw [map_pin3 p1 p2 p3] at F₁
       have B9 := G.B; have X9 := G.X; have P9 := G.P; have K9 := G.D
       have gy : 1 ≤ Y - 200 + (i : Int) * 100 ∧ Y - 200 + (i : Int) * 100 ≤ 9999 := by omega
       have gy' : 0 ≤ Y - 200 + (i : Int) * 100 ∧ Y - 200 + (i : Int) * 100 < 10000 := by omega
       have gm : 0 ≤ m ∧ m < 100 := by omega
       have gd : 0 ≤ d ∧ d < 100 := by omega
       have gh : 0 ≤ h ∧ h < 100 := by omega
       have gi : 0 ≤ mi ∧ mi < 100 := by omega
       have gs : 0 ≤ sc ∧ sc < 100 := by omega
       have hn2 := first_next (y := Y - 200 + (i : Int) * 100) hm
       have hdr := dim_rng (y := Y - 200 + (i : Int) * 100) hm
       have hIl := hI.1
       have hsz := found_size hF
       have hIR : NeA R0 I := ⟨AllNe.at hI (.head _)⟩
       k_with "run:dt" => (
         (try dsimp +zetaDelta only)
         as_aux_lemma =>
           walk_at "step"
           all_goals (repeat' ((fail_if_success (first | (with_reducible guard_target = wpC _ _ (execs (List.cons _ _) _) _ _ _) | (with_reducible guard_target = wpAny _ _ (execs (List.cons _ _) _) _ _ _))); walk_at "step"))
           all_goals (first | ((first | (with_reducible guard_target = wpC _ _ (execs (List.cons _ _) _) _ _ _) | (with_reducible guard_target = wpAny _ _ (execs (List.cons _ _) _) _ _ _)); k_extra "run:dt") | k_extra "tail:dt"))
       k_with "tail:dt" => (
         rename Gd5 _ _ _ _ _ _ _ _ _ _ _ => G2
         rename Fr _ _ _ _ => F2
         rename News _ _ _ _ => N2
         first
         | (refine TurnEndT.of G2 F2 N2 (fun p hp => ?_) hI ⟨rfl, rfl, rfl, _, _, _, rfl, hR, found_next hF (by assumption)⟩
            repeat (first | exact hp | refine List.Mem.tail _ ?_))
         | (k_dflt (refine' TurnEndT.now G2 F2 N2 ?q1 ?q2 hR hI (found_nil hF (by assumption)) ?m1 ?m2 ?m3 ?m4 ?m5 ?m6 ?n1 ?n2 ?n3 ?n4 rfl rfl rfl; (case q1 => assumption); (case q2 => assumption); (case m1 => k_mem); (case m2 => k_mem); (case m3 => k_mem); (case m4 => k_mem); (case m5 => k_mem); (case m6 => (intro p hp; repeat (first | exact hp | refine List.Mem.tail _ ?_))); (case n1 => k_ne); (case n2 => k_ne); (case n3 => k_ne); (case n4 => k_ne)))
         | (fail "tail:dt"))
       all_goals (repeat' ((fail_if_success (first | (with_reducible guard_target = wpC _ _ (execs (List.cons _ _) _) _ _ _) | (with_reducible guard_target = wpAny _ _ (execs (List.cons _ _) _) _ _ _))); walk_at "step"))
       all_goals (first | ((first | (with_reducible guard_target = wpC _ _ (execs (List.cons _ _) _) _ _ _) | (with_reducible guard_target = wpAny _ _ (execs (List.cons _ _) _) _ _ _)); k_extra "run:dt") | k_extra "tail:dt")
     case done =>
       intro g m₁ news₁ h' tk' G hJ F₁ N₁
       obtain ⟨p1, p2, p3, its, n9, tail, rfl, hR, hF⟩ := hJ
       rw [map_pin3 p1 p2 p3] at F₁
       have B9 := G.B; have X9 := G.X; have P9 := G.P; have K9 := G.D
       k_with "run:dn" => (
         (try dsimp +zetaDelta only)
         as_aux_lemma =>
           walk_at "step"
           all_goals (repeat' (walk_at "step"))
           walk_at "fn:end"
           exact leaveT_found hF hq hR G.T (by assumption) (by assumption))
       k_extra "run:dn")
  | (fail "tail"))
  all_goals (first | ((first | (with_reducible guard_target = wpC _ _ (execs (List.cons _ _) _) _ _ _) | (with_reducible guard_target = wpAny _ _ (execs (List.cons _ _) _) _ _ _)); k_extra "run:c_dates") | k_extra "tail:c_dates")
theorem main' : zG zt := by
  have q := main
  rw [z_def, Y_def, m_def, d_def, h_def, mi_def, sc_def, wk_def, y0_def, q_def, a0_def, t1_def, t2_def, t3_def, t4_def, t5_def, t6_def, t7_def, t8_def, t9_def, tw_def] at q
  exact q
theorem all (z : Dat) (Y : Int) (m : Int) (d : Int) (h : Int) (mi : Int) (sc : Int) (wk : Int) (y0 : Int) (q : Int) (a0 : Addr) (t1 : Tok) (t2 : Tok) (t3 : Tok) (t4 : Tok) (t5 : Tok) (t6 : Tok) (t7 : Tok) (t8 : Tok) (t9 : Tok) (tw : Tok) : G_dates z Y m d h mi sc wk y0 q a0 t1 t2 t3 t4 t5 t6 t7 t8 t9 tw := haveI : Nonempty Dat := dat_some PySem.Challenge.rw_kl0450_01.row.prog; sk_all (G := zG) main' (z, Y, m, d, h, mi, sc, wk, y0, q, a0, t1, t2, t3, t4, t5, t6, t7, t8, t9, tw)
end D_dates
theorem c_dates (w : World) (Y m d h mi sc wk y0 q : Int) (a0 : Addr) (t1 t2 t3 t4 t5 t6 t7 t8 t9 tw : Tok) (hm : 1 ≤ m ∧ m ≤ 12) (hY : 1969 ≤ Y ∧ Y ≤ 2068) (hd : 1 ≤ d ∧ d ≤ 31) (hh : 0 ≤ h ∧ h ≤ 23) (hmi : 0 ≤ mi ∧ mi ≤ 59) (hs : 0 ≤ sc ∧ sc ≤ 59) (hq : 0 ≤ q ∧ q < 4) (h0 : y0 = Y - 200 + q * 100) (hv : Valid y0 m d) (hw : (first y0 m + d - 1).fmod 7 = wk) (ho : ∀ i : Nat, i < 4 → (i : Int) ≠ q → (first (Y - 200 + (i : Int) * 100) m + d - 1).fmod 7 ≠ wk) : FnC PySem.Challenge.rw_kl0450_01.row.prog w (Mine.hd.heap_1 w.params) 8 184 [(a0, ({ cls := .type "tuple", data := .seq #[.int Y t1, .int m t2, .int d t3, .int h t4, .int mi t5, .int sc t6, .int 0 t7, .int 1 t8, .int (-1) t9] } : Obj))] [.ref a0, .int wk tw] (fun v new => ∃ D x y, v = .ref D ∧ ∃ (n0 : Nat) (u1 u2 : Tok), new = [(D, PySem.W.listOf #[.ref x] n0), (x, ({ cls := .type "tuple", data := .seq #[.int y0 u1, .int (first y0 m + d - 1) u2, .ref y] } : Obj)), (y, dtObj y0 m d h mi sc)]) := by
  refine' FnC.of_B ?ho ?hb ?h ?hcd ?hl ?h0 ?h1 ?h2 ?h3 ?h4
  case ho => k_is
  case hb => exact fun _ => BindsTo.of_eq rfl
  case hcd => k_is
  case hl => exact locs rfl
  case h0 => decide
  case h1 => exact rfl
  case h2 => exact rfl
  case h3 => exact rfl
  case h4 => decide
  case h =>
    intro z hz
    subst hz
    exact Wrap.out (D_dates.all z Y m d h mi sc wk y0 q a0 t1 t2 t3 t4 t5 t6 t7 t8 t9 tw) hm hY hd hh hmi hs hq h0 hv hw ho
end
end Mine

end
section
open PySem PySem.W PyProof.Rows PySem.Calls PySem.Spec
set_option Elab.async false
namespace Mine
section
set_option maxRecDepth 100000
set_option maxHeartbeats 8000000
theorem filled_Dfs0 : PySem.Challenge.rw_kl0450_01 = PySem.Challenge.rw_kl0450_01 ∧ ∀ P, Mine.hd.heap_1 P = Mine.hd.heap_1 P := by
  k_fill
  exact ⟨rfl, fun _ => rfl⟩
theorem words_Dfs0_01_0 : True := by
  k_with_none
  w_top off
  k_with "body" => ((
  refine Wrap.mk ?_
  intro zzF' zzN' zzB' zzX' zzT' zzhk zzhd zzhu
  (try dsimp only)
  (try k_lift zzB')
  (try k_fold)))
  k_with "idx" => (first | omega | (simp only [fm12]; omega) | (simp only [fd32, fd4, fd100, fd400, fd365, fd1461, fd36524, fd146097, fm365, fm1461, fm36524, fm146097, dbmT]; omega) | (rename ((_ : Int) < dbmT _ + _) => hx9; simp only [dbmT, fd32] at hx9 ⊢; omega))
  k_with "ediv" => (simp only [fd4, fd5, fd7, fd12, fd60, fd100, fd400, fd365, fd1461, fd3600, fd36524, fd86400, fd146097, fm4, fm7, fm12, fm60, fm100, fm365, fm400, fm1461, fm36524, fm86400, fm146097] at *)
  k_with "wpC" => (first
  | with_reducible refine wpC_cons ?_
  | with_reducible refine wpC_nil ?_)
  k_with "ite" => ((k_here; first
  | (k_closed; k_dflt (first | refine ite_pos (by decide) ?_ | refine ite_neg (by decide) ?_))
  | refine ite_pos (by with_reducible assumption) ?_
  | refine ite_neg (by with_reducible assumption) ?_
  | refine ite_isFalse (by with_reducible assumption) ?_
  | refine ite_pos (by k_dec) ?_
  | refine ite_neg (by k_dec) ?_))
  k_with "step" => (first | (k_unfold; (try dsimp only)) | (k_end; wrow_close) | ((with_reducible guard_target = wpAny _ _ (newTuple _) _ _ _); dsimp only; walk1) | walk1 | (dsimp only; walk1) | (leave1; try dsimp only))
  k_with "bodyT" => ((
  refine Wrap.mk ?_
  intro zzF' zzN' zzB' zzX' zzT' zzXB' zzTB' zzD' zzhk zzhd zzhu
  (try dsimp only)
  (try k_lift zzB')
  (try k_fold)))
  k_with "bodyC" => ((
  refine Wrap.mk ?_
  intro zzF' zzN' zzB' zzX' zzT' zzXB' zzTB' zzD' zzhk zzhd zzhu
  (try dsimp only)
  (try k_lift zzB')))
  k_with "hi" => (first | with_reducible exact hi_dgs _ | with_reducible exact hi_dg4 _ | with_reducible exact hi_dg2 _ | with_reducible exact hi_clk _ _ _ | with_reducible exact hi_mon (by assumption) | with_reducible exact hi_lmon (by assumption))
  k_with "len" => (first | with_reducible exact len_dgs _ | with_reducible exact len_dg4 _ | with_reducible exact len_dg2 _ | with_reducible exact len_clk _ _ _ | with_reducible exact len_mon (by assumption) | with_reducible exact len_lmon (by assumption) | with_reducible exact len_mail (by assumption))
  k_with "isc" => (first | with_reducible exact comma | with_reducible exact colon | with_reducible exact minus | with_reducible exact plus | rfl)
  k_with "txt" => (first
  | with_reducible exact find_col4 _
  | with_reducible exact ends_c (by walk_at "isc") (hi_no (by walk_at "hi") (by decide))
  | with_reducible exact find_c (by walk_at "isc") (hi_no (by walk_at "hi") (by decide))
  | with_reducible exact rfind_c (by walk_at "isc") (hi_no (by walk_at "hi") (by decide))
  | with_reducible exact lower_dgs _
  | with_reducible exact lower_mon (by assumption)
  | with_reducible exact isdigit_fig _)
  k_with "call builtin:str.split" => ((k_here; (with_reducible show wpAny _ _ (call (Value.builtin "str.split") [Value.str (tx _) _]) _ _ _); k_dflt (
  (refine KSpl.split0 (by k_asm) (by k_asm) ?_ (Nat.le_trans (Nat.add_le_add_right (mailT_len (by assumption)).1 2) (by rw [sizeLine_eq]; decide)))
  intro D' l' h' k' e' a' F' N' l1
  rw [words_mail (by assumption)] at e'
  (try k_lt l1)
  kspl_open e'
  simp only [strValues, List.map_cons, List.map_nil] at N' a'
  (try k_sweep)
  (try k_fold))))
  k_with "truthy str" => ((k_here; (with_reducible show wpAny _ _ (PySem.truthy (Value.str (tx _) _)) _ _ _); k_dflt (refine KXt.truthy_pos (tr_pos (by walk_at "len")) (tr_len (by walk_at "len")) (by decide) ?_; intro _; (try k_fold))))
  k_with "call builtin:str.endswith" => ((k_here; (with_reducible show wpAny _ _ (call (Value.builtin "str.endswith") [Value.str (tx _) _, Value.str _ _]) _ _ _); (refine SC.endswith ?_); (rw [ends_c (by walk_at "isc") (hi_no (by walk_at "hi") (by decide))]); (try k_fold)))
  k_with "call builtin:str.find" => ((k_here; (with_reducible show wpAny _ _ (call (Value.builtin "str.find") [Value.str (tx _) _, Value.str _ _]) _ _ _); (refine KXw.find (by walk_at "txt") ?_); intro _ _; (try k_fold)))
  k_with "call builtin:str.rfind" => ((k_here; (with_reducible show wpAny _ _ (call (Value.builtin "str.rfind") [Value.str (tx _) _, Value.str _ _]) _ _ _); (refine KXw.rfind (by walk_at "txt") ?_); intro _ _; (try k_fold)))
  k_with "call builtin:str.isdigit" => ((k_here; (with_reducible show wpAny _ _ (call (Value.builtin "str.isdigit") [Value.str (tx _) _]) _ _ _); (with_reducible refine KXw.isdigit (isdigit_fig _) ?_); (try k_fold)))
  k_with "call builtin:str.lower" => ((k_here; (with_reducible show wpAny _ _ (call (Value.builtin "str.lower") [Value.str (tx _) _]) _ _ _); (first | with_reducible refine KXw.lower (lower_dgs _) (fit_l (lower_dgs _) (len_dgs _)) ?_ | with_reducible refine KXw.lower (lower_mon (by assumption)) (fit_l (lower_mon (by assumption)) (len_lmon (by assumption))) ?_); intro _ _; (try k_fold)))
  k_with "tabin" => (first | with_reducible exact dgs_not (by decide) _ | with_reducible exact lmon_in (by assumption))
  k_with "compareOp In str ref" => ((k_here; (with_reducible show wpAny _ _ (compareOp CmpOp.In (Value.str (tx _) _) (Value.ref 56)) _ _ _); k_dflt (refine' in_strsK dyTab (by k_asm) (by k_asm) (by k_is) (by decide +kernel) (by walk_at "tabin") ?_; k_whole; (try k_fold))))
  k_with "compareOp NotIn str ref" => ((k_here; (with_reducible show wpAny _ _ (compareOp CmpOp.NotIn (Value.str (tx _) _) (Value.ref 55)) _ _ _); k_dflt (refine' notin_strsK mnTab (by k_asm) (by k_asm) (by k_is) (by decide +kernel) (by walk_at "tabin") ?_; k_whole; (try k_fold))))
  k_with "call builtin:list.index" => ((k_here; k_dflt (refine' index_strsK mnTab (by k_asm) (by k_asm) (by k_is) (by decide +kernel) (by exact lmon_idx (by assumption)) (by (simp only [mnTab, List.length_cons, List.length_nil]; omega)) (by decide) ?_; k_whole; (try k_fold))))
  k_with "call builtin:list.append" => ((k_here; (with_reducible show wpAny _ _ (call (Value.builtin "list.append") [Value.ref _, _]) _ _ _); k_dflt (refine' append_K (by k_asm) (by k_asm) (by k_upd) ?_ (by exact Nat.le_of_ble_eq_true rfl); k_whole); intro h' F' N'; (try k_sweep); (try k_fold)))
  k_with "exec Assign" => (((with_reducible show wpAny _ _ (exec (Stmt.Assign [Expr.List _ _] _ _) _) _ _ _); refine Assign_List ?_))
  k_with "getMethod ref" => ((k_here; (with_reducible show wpAny _ _ (getMethod (Value.ref 55) (PySem.Str.ofString "index") _) _ _ _); k_dflt (refine' index_method (by k_asm) (by k_asm) (by k_is) ?_; k_whole)))
  k_with "lastc" => (first | with_reducible exact dgs_getLast _ | with_reducible exact dg4_last _ | with_reducible exact clk_last _ _ _ | with_reducible exact dg2_last _)
  k_with "headc" => (first | with_reducible exact dg4_head _ | with_reducible exact dg2_head _)
  k_with "subscriptTail Name UnaryOp str int" => ((k_here; (with_reducible show wpAny _ _ (subscriptTail _ _ (Value.str (tx _) _) (Value.int (-1) _)) _ _ _); k_dflt (refine' item_last_tx (by walk_at "lastc") (by exact len1000 (by walk_at "len")) ?_ (by with_unfolding_all rfl) (by intro _; with_unfolding_all rfl); k_whole; intro t9; (try k_fold))))
  k_with "subscriptTail Name Constant str int" => ((k_here; (with_reducible show wpAny _ _ (subscriptTail _ _ (Value.str (tx _) _) (Value.int 0 _)) _ _ _); k_dflt (refine' item_first_tx (by walk_at "headc") (by exact len1000 (by walk_at "len")) ?_ (by with_unfolding_all rfl) (by intro _; with_unfolding_all rfl); k_whole; intro t9; (try k_fold))))
  k_with "txteq" => (first | (refine' fig_ne (by walk_at "isc") (by decide)))
  k_with "compareOp Eq str str" => ((k_here; (with_reducible show wpAny _ _ (compareOp CmpOp.Eq (Value.str (tx _) _) (Value.str _ _)) _ _ _); k_dflt (refine' eq_tx (by walk_at "txteq") ?_; k_whole; (try k_fold))))
  k_with "call builtin:str.split" => ((k_here; (with_reducible show wpAny _ _ (call (Value.builtin "str.split") [Value.str (tx _) _, Value.str _ _]) _ _ _); k_dflt (
  (refine KSpl.split1 (by k_asm) (by k_asm) (by decide) ?_ (fits_l (len1000 (by walk_at "len"))))
  intro D' l' h' k' e' a' F' N' l1
  rw [split_clk2] at e'
  (try k_lt l1)
  kspl_open e'
  simp only [strValues, List.map_cons, List.map_nil] at N' a'
  (try k_sweep)
  (try k_fold))))
  k_with "val" => (first | with_reducible exact val_dg2 (by omega) (by omega) | with_reducible exact val_dg4 (by omega) (by omega) | with_reducible exact val_dgs (by omega) (by omega))
  k_with "call type:int" => ((k_here; (with_reducible show wpAny _ _ (call (Value.type "int") [Value.str (tx _) _]) _ _ _); k_dflt (refine KIN.call_text (by walk_at "val") (Nat.le_trans (len1000' (by walk_at "len")) (by decide)) ?_; (try k_fold))))
  k_with "getMethod ref" => ((k_here; (with_reducible show wpAny _ _ (getMethod (Value.ref 83) (PySem.Str.ofString "match") _) _ _ _); k_dflt (refine' match_method (by k_asm) (by k_asm) (by exact patk _) ?_; k_whole)))
  k_with "call builtin:re.Pattern.match" => ((k_here; k_dflt (refine' match1_call' (by k_asm) (by k_asm) (by k_asm) (by exact patk _) ?_; k_whole); intro tt' D' h' F' N' l1 l2; (try k_lt l1); (try k_sweep); (try k_fold)))
  k_with "getMethod ref" => ((k_here; (with_reducible show wpAny _ _ (getMethod (Value.ref _) (PySem.Str.ofString "groupdict") _) _ _ _); k_dflt (refine' groupdict1_method (by k_asm) (by k_mem) ?_; k_whole)))
  k_with "call builtin:re.Match.groupdict" => ((k_here; k_dflt (refine' groupdict1_call (by k_asm) (by k_asm) (by k_asm) (by exact patk _) (by k_mem) (by k_mem) ?_; k_whole); intro D' o' h' tk' t1' t2' t3' F' N' l1 l2 hd'; (try k_lt l1); (try k_sweep); (try k_fold)))
  k_with "call type:datetime.datetime" => ((k_here; k_dflt (refine' dt_3K (by k_asm) (by k_asm) ?_; k_whole); intro D' h' F' N' l1; (try k_lt l1); (try k_sweep); (try k_fold)))
  k_with "callWith type:datetime.datetime nil nil" => ((k_here; (with_reducible show wpAny _ _ (callWith _ (Value.type _) [] (backTo _ (starEach [Expr.Starred _ _] _)) []) _ _ _); k_dflt (refine' callWith_T ?_; k_whole)))
  k_with "pyIter ref" => ((k_here; (with_reducible show wpAny _ _ (pyIter (Value.ref _)) (fun it s₂ => LoopAtV _ _ _ _ _ _ _ _ _ it s₂) _ _); k_listUnr))
  trivial
noncomputable def G_dfs0 (z : Dat) (tx0 : Tok) : Prop := Wrap (FnB z PySem.Challenge.rw_kl0450_01.row.prog (Mine.hd.heap_1 z.w.params) 1 90 [] [.str (PySem.Str.ofString "1769-01-01Z") tx0, .bool false] (fun v new => ∃ D o, v = .ref D ∧ new = [(D, o)] ∧ o = dtObj 1769 1 1 0 0 0) (by k_is) (by exact BindsTo.of_eq rfl))
namespace D_dfs0
noncomputable def zG (zt : Dat × Tok) : Prop := G_dfs0 (zt.1) (zt.2)
noncomputable def zt : Dat × Tok := haveI : Nonempty Dat := dat_some PySem.Challenge.rw_kl0450_01.row.prog; sk zG
@[irreducible] noncomputable def z : Dat := zt.1
theorem z_def : z = zt.1 := by with_unfolding_all rfl
@[irreducible] noncomputable def tx0 : Tok := zt.2
theorem tx0_def : tx0 = zt.2 := by with_unfolding_all rfl
theorem main : G_dfs0 z tx0 := by
  refine Wrap.mk ?_
  walk_at "body"
  k_with "run:c_dfs0" => (
    (try dsimp +zetaDelta only)
    as_aux_lemma =>
      walk_at "step"
      all_goals (repeat' ((fail_if_success (with_reducible guard_target = wpAny _ _ (execs (List.cons _ _) _) _ _ _)); walk_at "step"))
      all_goals (first | ((with_reducible guard_target = wpAny _ _ (execs (List.cons _ _) _) _ _ _); k_extra "run:c_dfs0") | k_extra "tail:c_dfs0"))
  k_with "tail:c_dfs0" => (
  all_goals walk_at "fn:obj"
  all_goals rfl)
  all_goals (first | ((with_reducible guard_target = wpAny _ _ (execs (List.cons _ _) _) _ _ _); k_extra "run:c_dfs0") | k_extra "tail:c_dfs0")
theorem main' : zG zt := by
  have q := main
  rw [z_def, tx0_def] at q
  exact q
theorem all (z : Dat) (tx0 : Tok) : G_dfs0 z tx0 := haveI : Nonempty Dat := dat_some PySem.Challenge.rw_kl0450_01.row.prog; sk_all (G := zG) main' (z, tx0)
end D_dfs0
theorem c_dfs0 (w : World) (tx0 : Tok) : Fn PySem.Challenge.rw_kl0450_01.row.prog w (Mine.hd.heap_1 w.params) 1 90 [] [.str (PySem.Str.ofString "1769-01-01Z") tx0, .bool false] (fun v new => ∃ D o, v = .ref D ∧ new = [(D, o)] ∧ o = dtObj 1769 1 1 0 0 0) := by
  refine' Fn.of_B ?ho ?hb ?h ?hcd ?hl ?h0 ?h1 ?h2 ?h3 ?h4
  case ho => k_is
  case hb => exact fun _ => BindsTo.of_eq rfl
  case hcd => k_is
  case hl => exact locs rfl
  case h0 => decide
  case h1 => exact rfl
  case h2 => exact rfl
  case h3 => exact rfl
  case h4 => decide
  case h =>
    intro z hz
    subst hz
    exact Wrap.out (D_dfs0.all z tx0) 
end
end Mine

end
section
open PySem PySem.W PyProof.Rows PySem.Calls PySem.Spec
set_option Elab.async false
namespace Mine
section
set_option maxRecDepth 100000
set_option maxHeartbeats 8000000
theorem filled_LawP : PySem.Challenge.rw_kl0450_01 = PySem.Challenge.rw_kl0450_01 ∧ ∀ P, Mine.hd.heap_1 P = Mine.hd.heap_1 P := by
  k_fill
  exact ⟨rfl, fun _ => rfl⟩
theorem words_LawP_01_0 : True := by
  k_with_none
  w_top off
  k_with "body" => ((
  refine Wrap.mk ?_
  intro zzF' zzN' zzB' zzX' zzT' zzhk zzhd zzhu
  (try dsimp only)
  (try k_lift zzB')
  (try k_fold)))
  k_with "idx" => (first | omega | (simp only [fm12]; omega) | (simp only [fd32, fd4, fd100, fd400, fd365, fd1461, fd36524, fd146097, fm365, fm1461, fm36524, fm146097, dbmT]; omega) | (rename ((_ : Int) < dbmT _ + _) => hx9; simp only [dbmT, fd32] at hx9 ⊢; omega))
  k_with "ediv" => (simp only [fd4, fd5, fd7, fd12, fd60, fd100, fd400, fd365, fd1461, fd3600, fd36524, fd86400, fd146097, fm4, fm7, fm12, fm60, fm100, fm365, fm400, fm1461, fm36524, fm86400, fm146097] at *)
  k_with "wpC" => (first
  | with_reducible refine wpC_cons ?_
  | with_reducible refine wpC_nil ?_)
  k_with "ite" => ((k_here; first
  | (k_closed; k_dflt (first | refine ite_pos (by decide) ?_ | refine ite_neg (by decide) ?_))
  | refine ite_pos (by with_reducible assumption) ?_
  | refine ite_neg (by with_reducible assumption) ?_
  | refine ite_isFalse (by with_reducible assumption) ?_
  | refine ite_pos (by k_dec) ?_
  | refine ite_neg (by k_dec) ?_))
  k_with "step" => (first | (k_unfold; (try dsimp only)) | (k_end; wrow_close) | ((with_reducible guard_target = wpAny _ _ (newTuple _) _ _ _); dsimp only; walk1) | walk1 | (dsimp only; walk1) | (leave1; try dsimp only))
  k_with "bodyT" => ((
  refine Wrap.mk ?_
  intro zzF' zzN' zzB' zzX' zzT' zzXB' zzTB' zzD' zzhk zzhd zzhu
  (try dsimp only)
  (try k_lift zzB')
  (try k_fold)))
  k_with "bodyC" => ((
  refine Wrap.mk ?_
  intro zzF' zzN' zzB' zzX' zzT' zzXB' zzTB' zzD' zzhk zzhd zzhu
  (try dsimp only)
  (try k_lift zzB')))
  trivial
theorem Fn.mono {prog : Program} {w : World} {K : Frag} {d : Nat} {f : Addr} {args : List (Addr × Obj)} {vs : List Value} {ok ok' : Value → List (Addr × Obj) → Prop} (C : Fn prog w K d f args vs ok) (h : ∀ v new, ok v new → ok' v new) : Fn prog w K d f args vs ok' :=
  fun p loose mean mg mb dp un gd cn cs a ccd cl outer A₀ base h₀ L m s Q E news hB hF hK hN hT hk ha hd hu ret =>
    C p loose mean mg mb dp un gd cn cs a ccd cl outer A₀ base h₀ L m s Q E news hB hF hK hN hT hk ha hd hu fun v new h' tk' F' N' hne o => ret v new h' tk' F' N' hne (h v new o)
theorem c_ordE (w : World) (y m d n : Int) (tn : Tok) (v : Valid y m d) (hn : first y m + d - 1 = n) : Fn PySem.Challenge.rw_kl0450_01.row.prog w (Mine.hd.heap_1 w.params) 3 149 [] [.int n tn] (fun v new => ∃ D o, v = .ref D ∧ new = [(D, o)] ∧ ∃ (t1 t2 t3 : Tok), o = { cls := .type "tuple", data := .seq #[.int y t1, .int m t2, .int d t3] }) :=
  Fn.mono (c_ord w n tn) (by
    rintro v9 new ⟨D, o, rfl, rfl, y', m', d', t1, t2, t3, rfl, v', h'⟩
    obtain ⟨rfl, rfl, rfl⟩ := date_uniq v v' (by omega)
    exact ⟨D, _, rfl, rfl, t1, t2, t3, rfl⟩)
theorem withZ_in {K : Params → Frag} {w : World} {h : Heap} (Y' : (withZ K w.params).In h) (hn : (K w.params).lookup 49 = none) : (K w.params).In h ∧ h.get? 49 = some zeroD := by
  refine ⟨fun a o ho => Y' a o ?_, Y' 49 zeroD rfl⟩
  show List.lookup a ((49, zeroD) :: K w.params) = some o
  rw [List.lookup_cons]
  by_cases ha : a = 49
  · subst ha
    have : (K w.params).lookup 49 = some o := ho
    rw [hn] at this; cases this
  · rw [show (a == 49) = false from beq_eq_false_iff_ne.mpr ha]
    exact ho
theorem no49 (P : Params) : (Mine.hd.heap_1 P).lookup 49 = none := by kernel_rfl
structure MidP (Mid : Shared → Prop) (f : Flow) (s' : Shared) : Prop where
  mk ::
  e : f = .next
  m : Mid s'
theorem wpC_cut {M : Model} {A : Around} {E : Value → Shared → Prop} {s : Shared} {env : Env} {st : Stmt} {rest : List Stmt} {Q : Flow → Shared → Prop} (Mid : Shared → Prop) (h1 : wpAny M A (exec st env) (fun f s' => MidP Mid f s') E s) (h2 : ∀ s', Mid s' → wpC M A (execs rest env) Q E s') : wpC M A (execs (st :: rest) env) Q E s :=
  wpC_consC (wpC_mono (wpC_of h1) (fun f s' p => by obtain ⟨e, m⟩ := p; subst e; exact h2 s' m) (fun _ _ x => x))
noncomputable def MidA (h₀ : Heap) (L O : Addr) (s s' : Shared) : Prop :=
  ∃ (h : Heap) (tk : Nat) (m : Str → Option Value) (C : Addr) (vs : List Value) (xs : List Int) (n0 k : Nat), s' = { s with heap := h, toks := tk } ∧ Fr h₀ L h m ∧ News h₀ L h [(C, PySem.W.listOf vs.toArray n0), (O, dtObj 1769 1 1 0 0 0)] ∧ NeA C O ∧ m (PySem.Str.ofString "cells") = some (.ref C) ∧ m (PySem.Str.ofString "origin") = some (.ref O) ∧ IntsAre vs xs ∧ xs.length = 2 * k ∧ k ≤ 4
theorem midA_intro {h₀ : Heap} {L O : Addr} {s : Shared} {h : Heap} {tk : Nat} {m : Str → Option Value} {C : Addr} {vs : List Value} {xs : List Int} {n0 : Nat} {news : List (Addr × Obj)} (F : Fr h₀ L h m) (N : News h₀ L h news) (hC : (C, PySem.W.listOf vs.toArray n0) ∈ news) (hO : (O, dtObj 1769 1 1 0 0 0) ∈ news) (ne : C ≠ O) (e1 : m (PySem.Str.ofString "cells") = some (.ref C)) (e2 : m (PySem.Str.ofString "origin") = some (.ref O)) (hI : IntsAre vs xs) (hk : xs.length % 2 = 0) (hl : xs.length ≤ 8) :
    MidP (MidA h₀ L O s) .next { s with heap := h, toks := tk } :=
  ⟨rfl, h, tk, m, C, vs, xs, n0, xs.length / 2, rfl, F, fun p hp => N p (List.forall_mem_cons.mpr ⟨hC, List.forall_mem_cons.mpr ⟨hO, List.forall_mem_nil _⟩⟩ p hp), ⟨ne⟩, e1, e2, hI, by omega, by omega⟩
noncomputable def RowQ (tail : List (Addr × Obj)) (v : Value) : Prop := ∃ (t : Addr) (x y : Int) (t1 t2 : Tok), v = .ref t ∧ (t, ({ cls := .type "tuple", data := .seq #[.int x t1, .int y t2] } : Obj)) ∈ tail
theorem RowQ.more {tail : List (Addr × Obj)} {v : Value} {q : Addr × Obj} (h : RowQ tail v) : RowQ (q :: tail) v := by
  obtain ⟨t, x, y, t1, t2, e, hm⟩ := h
  exact ⟨t, x, y, t1, t2, e, .tail _ hm⟩
structure JR (R C O : Addr) (vs : List Value) (n0 : Nat) (i : Nat) (m : Str → Option Value) (news : List (Addr × Obj)) : Prop where
  p1 : m (PySem.Str.ofString "rows") = some (.ref R)
  p2 : m (PySem.Str.ofString "cells") = some (.ref C)
  p3 : m (PySem.Str.ofString "origin") = some (.ref O)
  led : ∃ (rs : List Value) (n1 : Nat) (tail : List (Addr × Obj)), news = (R, PySem.W.listOf rs.toArray n1) :: tail ∧ (C, PySem.W.listOf vs.toArray n0) ∈ tail ∧ (O, dtObj 1769 1 1 0 0 0) ∈ tail ∧ rs.length = 3 + i ∧ (∀ v ∈ rs, RowQ tail v) ∧ AllNe R tail
theorem TurnEndT.row {Gd : Heap → Prop} {L R C O D : Addr} {vs rs : List Value} {n0 n1 i : Nat} {x y : Int} {u1 u2 : Tok} {I : Addr} {io oo : Obj} {s₂ : Shared} {g h' : Heap} {tk : Nat} {m' : Str → Option Value} {led tail : List (Addr × Obj)}
    (G : Gd g) (F : Fr g L h' m') (N : News g L h' led) (hI : AllNe I ((R, oo) :: tail)) (hC : (C, PySem.W.listOf vs.toArray n0) ∈ tail) (hO : (O, dtObj 1769 1 1 0 0 0) ∈ tail) (hlen : rs.length = 3 + i) (hrow : ∀ v ∈ rs, RowQ tail v) (hR : AllNe R tail)
    (mI : (I, io) ∈ led) (mR : (R, PySem.W.listOf (rs.toArray.push (.ref D)) (n1 + 1)) ∈ led) (mD : (D, ({ cls := .type "tuple", data := .seq #[.int x u1, .int y u2] } : Obj)) ∈ led) (mt : ∀ p ∈ tail, p ∈ led)
    (nDR : D ≠ R) (nDI : D ≠ I)
    (p1 : m' (PySem.Str.ofString "rows") = some (.ref R)) (p2 : m' (PySem.Str.ofString "cells") = some (.ref C)) (p3 : m' (PySem.Str.ofString "origin") = some (.ref O)) :
    TurnEndT Gd L (JR R C O vs n0 (i + 1)) I io s₂ { s₂ with heap := h', toks := tk } :=
  ⟨g, h', tk, m', (R, PySem.W.listOf (rs ++ [Value.ref D]).toArray (n1 + 1)) :: (D, { cls := .type "tuple", data := .seq #[.int x u1, .int y u2] }) :: tail, G, rfl, F,
    fun p hp => N p (List.forall_mem_cons.mpr ⟨mI, List.forall_mem_cons.mpr ⟨by rw [← List.push_toArray]; exact mR, List.forall_mem_cons.mpr ⟨mD, mt⟩⟩⟩ p hp),
    ⟨hI.1, ⟨nDI⟩, hI.2⟩, p1, p2, p3, _, _, _, rfl, .tail _ hC, .tail _ hO, by rw [List.length_append, hlen]; rfl, fun v h => by
      rcases List.mem_append.mp h with h | h
      · exact (hrow v h).more
      · rw [List.mem_singleton.mp h]; exact ⟨D, x, y, u1, u2, rfl, .head _⟩, ⟨⟨nDR⟩, hR⟩⟩
theorem range2 {n : Int} {k : Nat} (h : n = 2 * (k : Int)) : Builtin.Range.rangeSize 0 n 2 = k := by
  unfold Builtin.Range.rangeSize
  subst h
  rcases Nat.eq_zero_or_pos k with e | e
  · subst e; rfl
  · rw [if_pos (by decide), if_pos (by omega)]
    omega
theorem small2 {n : Int} {k : Nat} (h : n = 2 * (k : Int)) (hk : k ≤ 4) : Builtin.Range.small 0 n 2 = true := by
  unfold Builtin.Range.small
  rw [range2 h]
  simp [Builtin.Range.rangeFitsLong]
  omega
theorem wpC_cutA {M : Model} {A : Around} {E : Value → Shared → Prop} {s : Shared} {env : Env} {st : Stmt} {rest : List Stmt} {Q : Flow → Shared → Prop} {h₀ : Heap} {L O : Addr} {m : Str → Option Value} (_F : Fr h₀ L s.heap m) (_e : m (PySem.Str.ofString "origin") = some (.ref O)) (h1 : wpAny M A (exec st env) (fun f s' => MidP (MidA h₀ L O s) f s') E s) (h2 : ∀ s', MidA h₀ L O s s' → wpC M A (execs rest env) Q E s') : wpC M A (execs (st :: rest) env) Q E s := wpC_cut _ h1 h2
theorem par_odd {n : Nat} (h : ((n : Nat) : Int).fmod 2 = 1) : n % 2 = 1 := by rw [Int.fmod_eq_emod_of_nonneg _ (by decide)] at h; omega
theorem par_even {n : Nat} (h : ¬ ((n : Nat) : Int).fmod 2 = 1) : n % 2 = 0 := by rw [Int.fmod_eq_emod_of_nonneg _ (by decide)] at h; omega
theorem map_pin2 {m : Str → Option Value} {a b : Str} {x y : Value} (h1 : m a = some x) (h2 : m b = some y) :
    m = fun u => if u = a then some x else if u = b then some y else m u := by
  funext u
  by_cases e1 : u = a
  · subst e1; simp [h1]
  · by_cases e2 : u = b
    · subst e2; simp [h2, e1]
    · simp [e1, e2]
theorem par_app {l : List Int} {x : Int} (h : ((l.length : Nat) : Int).fmod 2 = 1) : (l ++ [x]).length % 2 = 0 := by have := par_odd h; rw [List.length_append]; simp; omega
theorem par_app8 {l : List Int} {x : Int} (h : (((l.take 8).length : Nat) : Int).fmod 2 = 1) : (l.take 8 ++ [x]).length ≤ 8 := by
  have := par_odd h
  rw [List.length_append]
  rw [List.length_take] at *
  simp
  omega
theorem c_ordF (w : World) (y m d n : Int) (tn : Tok) (hn : first y m + d - 1 = n) (v : Valid y m d) : Fn PySem.Challenge.rw_kl0450_01.row.prog w (Mine.hd.heap_1 w.params) 3 149 [] [.int n tn] (fun v new => ∃ D o, v = .ref D ∧ new = [(D, o)] ∧ ∃ (t1 t2 t3 : Tok), o = { cls := .type "tuple", data := .seq #[.int y t1, .int m t2, .int d t3] }) := c_ordE w y m d n tn v hn
theorem FnC.mono {prog : Program} {w : World} {K : Frag} {d : Nat} {f : Addr} {args : List (Addr × Obj)} {vs : List Value} {ok ok' : Value → List (Addr × Obj) → Prop} (C : FnC prog w K d f args vs ok) (h : ∀ v new, ok v new → ok' v new) : FnC prog w K d f args vs ok' :=
  fun p loose mean mg mb dp un gd cn cs a ccd cl outer A₀ base h₀ L m s Q E news hB hF hK hN hT hKB hTB hD hk ha hd hu ret =>
    C p loose mean mg mb dp un gd cn cs a ccd cl outer A₀ base h₀ L m s Q E news hB hF hK hN hT hKB hTB hD hk ha hd hu fun h₀' v new h' tk' T' F' N' B' X' P' D' hne o => ret h₀' v new h' tk' T' F' N' B' X' P' D' hne (h v new o)
theorem find_day {T : List Nat} {k d m yy h mi sc : Int} (t : Mail T k d m yy h mi sc) (hk : 0 ≤ k ∧ k ≤ 6) : Txt.find (Str.ofString "SunMonTueWedThuFriSat") (Txt.slice (tx T) none (some 3)) = 3 * k := by rw [Mail.slice t hk, find_wd hk]
theorem zeroK (w : World) : ZeroK (Mine.hd.heap_1 w.params) := by
  refine ⟨_, rfl, ?_⟩
  kernel_rfl
end
end Mine

end
section
open PySem PySem.W PyProof.Rows PySem.Calls PySem.Spec
set_option Elab.async false
namespace Mine
section
set_option maxRecDepth 100000
set_option maxHeartbeats 8000000
theorem filled_LawM : PySem.Challenge.rw_kl0450_01 = PySem.Challenge.rw_kl0450_01 ∧ ∀ P, Mine.hd.heap_1 P = Mine.hd.heap_1 P := by
  k_fill
  exact ⟨rfl, fun _ => rfl⟩
theorem words_LawM_01_0 : True := by
  k_with_none
  w_top off
  k_with "body" => ((
  refine Wrap.mk ?_
  intro zzF' zzN' zzB' zzX' zzT' zzhk zzhd zzhu
  (try dsimp only)
  (try k_lift zzB')
  (try k_fold)))
  k_with "idx" => (first | omega | (simp only [fm12]; omega) | (simp only [fd32, fd4, fd100, fd400, fd365, fd1461, fd36524, fd146097, fm365, fm1461, fm36524, fm146097, dbmT]; omega) | (rename ((_ : Int) < dbmT _ + _) => hx9; simp only [dbmT, fd32] at hx9 ⊢; omega))
  k_with "ediv" => (simp only [fd4, fd5, fd7, fd12, fd60, fd100, fd400, fd365, fd1461, fd3600, fd36524, fd86400, fd146097, fm4, fm7, fm12, fm60, fm100, fm365, fm400, fm1461, fm36524, fm86400, fm146097] at *)
  k_with "wpC" => (first
  | with_reducible refine wpC_cons ?_
  | with_reducible refine wpC_nil ?_)
  k_with "ite" => ((k_here; first
  | (k_closed; k_dflt (first | refine ite_pos (by decide) ?_ | refine ite_neg (by decide) ?_))
  | refine ite_pos (by with_reducible assumption) ?_
  | refine ite_neg (by with_reducible assumption) ?_
  | refine ite_isFalse (by with_reducible assumption) ?_
  | refine ite_pos (by k_dec) ?_
  | refine ite_neg (by k_dec) ?_))
  k_with "step" => (first | (k_unfold; (try dsimp only)) | (k_end; wrow_close) | ((with_reducible guard_target = wpAny _ _ (newTuple _) _ _ _); dsimp only; walk1) | walk1 | (dsimp only; walk1) | (leave1; try dsimp only))
  k_with "bodyT" => ((
  refine Wrap.mk ?_
  intro zzF' zzN' zzB' zzX' zzT' zzXB' zzTB' zzD' zzhk zzhd zzhu
  (try dsimp only)
  (try k_lift zzB')
  (try k_fold)))
  k_with "bodyC" => ((
  refine Wrap.mk ?_
  intro zzF' zzN' zzB' zzX' zzT' zzXB' zzTB' zzD' zzhk zzhd zzhu
  (try dsimp only)
  (try k_lift zzB')))
  k_with "getAttr ref" => ((k_here; (with_reducible show wpAny _ _ (getAttr (Value.ref _) (PySem.Str.ofString "year") _) _ _ _); k_dflt (refine' attrK_year (by k_asm) (by k_mem) ?_; k_whole); intro t9 k9; (try k_fold)))
  k_with "getAttr ref" => ((k_here; (with_reducible show wpAny _ _ (getAttr (Value.ref _) (PySem.Str.ofString "month") _) _ _ _); k_dflt (refine' attrK_month (by k_asm) (by k_mem) ?_; k_whole); intro t9 k9; (try k_fold)))
  k_with "getAttr ref" => ((k_here; (with_reducible show wpAny _ _ (getAttr (Value.ref _) (PySem.Str.ofString "day") _) _ _ _); k_dflt (refine' attrK_day (by k_asm) (by k_mem) ?_; k_whole); intro t9 k9; (try k_fold)))
  k_with "getAttr ref" => ((k_here; (with_reducible show wpAny _ _ (getAttr (Value.ref _) (PySem.Str.ofString "hour") _) _ _ _); k_dflt (refine' attrK_hour (by k_asm) (by k_mem) ?_; k_whole); intro t9 k9; (try k_fold)))
  k_with "getAttr ref" => ((k_here; (with_reducible show wpAny _ _ (getAttr (Value.ref _) (PySem.Str.ofString "minute") _) _ _ _); k_dflt (refine' attrK_minute (by k_asm) (by k_mem) ?_; k_whole); intro t9 k9; (try k_fold)))
  k_with "getAttr ref" => ((k_here; (with_reducible show wpAny _ _ (getAttr (Value.ref _) (PySem.Str.ofString "second") _) _ _ _); k_dflt (refine' attrK_second (by k_asm) (by k_mem) ?_; k_whole); intro t9 k9; (try k_fold)))
  k_with "getAttr ref" => ((k_here; (with_reducible show wpAny _ _ (getAttr (Value.ref _) (PySem.Str.ofString "microsecond") _) _ _ _); k_dflt (refine' attrK_microsecond (by k_asm) (by k_mem) ?_; k_whole); intro t9 k9; (try k_fold)))
  k_with "getAttr ref" => ((k_here; (with_reducible show wpAny _ _ (getAttr (Value.ref _) (PySem.Str.ofString "tzinfo") _) _ _ _); k_dflt (refine' attrK_tzinfo (by k_asm) (by k_mem) ?_; k_whole); intro t9 k9; (try k_fold)))
  k_with "lawC:enter" => ((
  k_fill
  intro zzw zzs₀ zzs₁ zzmg zzmb zzG zzY zzfa zzo zzpm zzcd zzdoc zzdV zzkV zzho zzhd zzhcd zzhD zzhmg zzhg zzargs zzvals zzas zzhpre zzhlay zzhrd zzhwl zzhlo
  have zzKX := kIn_of zzY
  have zzX := (Ground.X zzG).1
  have zzV := (Ground.X zzG).2
  refine Ground.open zzG ?_
  intro zzT zzB zzD zzTE zzTW
  clear zzD
  wrow_args zzhpre zzhlay zzhrd zzhwl zzhlo
  refine enterC ?_
  w_top on
  refine codeC_mono ?_ (fun _ _ g => GoodW.toG g)
  have zzK0 := below_caller (Top.heap zzT)
  have zzhe := Dflts.none zzhD rfl; subst zzhe
  refine call_fullC (by decide) zzho zzhd (Top.nolimit zzT) zzhcd (BindsTo.of_eq rfl) (locs rfl) fun zzh₁ zzF => ?_
  w_binds zzF
  have zzN0 := (News.nil : News _ _ _ []).at zzF
  clear zzhd zzhmg
  k_drop))
  k_with "wpC" => ((k_here; (with_reducible show wpC _ _ (execs (Stmt.For _ _ _ _ _ :: _) _) _ _ _); k_dflt (refine wpC_consC ?_; refine wpC_For ?_); (try k_fold)))
  k_with "pyIter ref" => ((k_here; (with_reducible show wpAny _ _ (pyIter (Value.ref _)) (fun it s₂ => codeC _ _ _ _ s₂) _ _); refine Stop.out ?_))
  k_with "ieq" => (first | with_reducible rfl | with_reducible assumption | (with_reducible refine Eq.symm ?_; with_reducible assumption) | omega)
  k_with "eqvs" => (first | exact eqvs_nil | (refine eqvs_int (by walk_at "ieq") (by walk_at "eqvs")))
  k_with "eqv" => (first | (with_reducible refine eqv_tup ?_; walk_at "eqvs") | (with_reducible refine eqv_list ?_; walk_at "eqvs"))
  k_with "compareOp NotEq ref ref" => ((k_here; (with_reducible show wpAny _ _ (compareOp CmpOp.NotEq (Value.ref _) (Value.ref _)) _ _ _); k_dflt (refine' ne_same (by ke_read) (by ke_read) (by ke_shaped) (by ke_shaped) (by ke_room) (by walk_at "eqv") ?_; (try k_fold))))
  k_with "compareOp Eq ref ref" => ((k_here; (with_reducible show wpAny _ _ (compareOp CmpOp.Eq (Value.ref _) (Value.ref _)) _ _ _); k_dflt (refine' eqd_same (by ke_read) (by ke_read) (by ke_shaped) (by ke_shaped) (by ke_room) (by walk_at "eqv") ?_; (try k_fold))))
  k_with "compareOp NotEq int int" => ((k_here; (with_reducible show wpAny _ _ (compareOp CmpOp.NotEq (Value.int _ _) (Value.int _ _)) _ _ _); k_dflt (refine' nei_same (by walk_at "ieq") ?_; (try k_fold))))
  k_with "compareOp NotEq str str" => ((k_here; (with_reducible show wpAny _ _ (compareOp CmpOp.NotEq (Value.str _ _) (Value.str _ _)) _ _ _); k_dflt (refine' nes_same (by with_reducible rfl) ?_; (try k_fold))))
  k_with "binaryOp Mod str ref" => ((k_here; (with_reducible show wpAny _ _ (binaryOp Operator.Mod (Value.str _ _) (Value.ref _)) _ _ _); k_dflt (refine' KPt.mod_tuple (by k_asm) (by k_mem) ?_ (by exact fmt_stampL _ _ _ _ _ _ _ _ _ _ _ _ _ _ (by assumption) (by assumption) (by assumption) (by assumption) (by assumption) (by assumption)) ?_; (decide +kernel)); intro t9 k9; (try k_fold)))
  k_with "And" => (((with_reducible show keepIn _ _ = true ∧ _); refine ⟨by k_is, ?_⟩; (try dsimp only [List.nil_append, List.cons_append])))
  k_with "And" => (((with_reducible show Frag.In _ _ ∧ _); refine ⟨by k_in, ?_⟩; (try dsimp only [List.nil_append, List.cons_append])))
  k_with "wpC" => ((k_here; (with_reducible show wpC _ _ (execs (Stmt.Assign [Expr.Name _ _] (Expr.Call (Expr.Name (PySem.Str.ofString "parsedate") _) _ _ _) _ :: _) _) _ _ _); k_dflt (refine wpC_consC ?_; refine wpC_AssignName ?_; rename Frag.In _ _ => X9; refine wpC_CallK X9 ?_; skip); (try k_fold)))
  k_with "allint" => (first | exact True.intro | (refine And.intro ⟨_, _, rfl⟩ ?_; walk_at "allint"))
  k_with "CompI" => ((k_dflt (refine' CompI.intro (by k_asm) (by k_asm) (by k_mem) (by walk_at "allint") (by exact Nat.le_of_ble_eq_true rfl) ?_; k_whole); intro D' n' h' tk' F' N' hne'; (try k_sweep); (try k_fold)))
  k_with "eval ListComp" => ((k_here; (with_reducible show wpAny _ _ (eval (Expr.ListComp (Expr.Name _ _) [Comprehension.mk _ _ [Expr.Compare (Expr.Call (Expr.Name (Str.ofString "type") _) _ _ _) _ _ _] _] _ _) _) _ _ _); k_dflt (refine' comp_ints (by k_asm) (by exact rfl) (by k_asm) (by k_asm) (by k_is) (by k_is) (by decide) (by decide) (by exact rfl) (by decide) (by exact rfl) (by intro _; exact rfl) (by intro _; exact rfl) (by intro _; exact rfl) (by decide) ?_ (by intro _; exact rfl); (try k_fold))))
  k_with "subscriptTail Name Slice ref ref" => ((k_here; (with_reducible show wpAny _ _ (subscriptTail _ (PySem.Expr.Slice none (some (PySem.Expr.Constant (PySem.Const.int 9) _ _)) none _) (Value.ref _) (Value.ref _)) _ _ _); k_dflt (refine' tup_to (b := 9) (by k_asm) (by k_asm) (by exact News.isTup (by k_asm) (by k_mem)) (by exact Nat.le_of_ble_eq_true rfl) (by exact pick10_9) ?_ (by with_unfolding_all rfl) (by intro _; with_unfolding_all rfl) (by exact Nat.le_of_ble_eq_true rfl); k_whole); intro D' h' F' N' l1; (try k_lt l1); (try k_sweep); (try k_fold)))
  k_with "subscriptTail Name Slice ref ref" => ((k_here; (with_reducible show wpAny _ _ (subscriptTail _ (PySem.Expr.Slice none (some (PySem.Expr.Constant (PySem.Const.int 6) _ _)) none _) (Value.ref _) (Value.ref _)) _ _ _); k_dflt (refine' tup_to (b := 6) (by k_asm) (by k_asm) (by exact News.isTup (by k_asm) (by k_mem)) (by exact Nat.le_of_ble_eq_true rfl) (by exact pick9_6) ?_ (by with_unfolding_all rfl) (by intro _; with_unfolding_all rfl) (by exact Nat.le_of_ble_eq_true rfl); k_whole); intro D' h' F' N' l1; (try k_lt l1); (try k_sweep); (try k_fold)))
  k_with "subscriptTail Name Slice ref ref" => ((k_here; (with_reducible show wpAny _ _ (subscriptTail _ (PySem.Expr.Slice none (some (PySem.Expr.Constant (PySem.Const.int 3) _ _)) none _) (Value.ref _) (Value.ref _)) _ _ _); k_dflt (refine' tup_to (b := 3) (by k_asm) (by k_asm) (by exact News.isTup (by k_asm) (by k_mem)) (by exact Nat.le_of_ble_eq_true rfl) (by exact pick9_3) ?_ (by with_unfolding_all rfl) (by intro _; with_unfolding_all rfl) (by exact Nat.le_of_ble_eq_true rfl); k_whole); intro D' h' F' N' l1; (try k_lt l1); (try k_sweep); (try k_fold)))
  k_with "binaryOp Add ref ref" => ((k_here; (with_reducible show wpAny _ _ (binaryOp _ (Value.ref _) (Value.ref _)) _ _ _); k_dflt (refine' kde_addT (by k_asm) (by k_asm) (by exact News.isTup (by k_asm) (by k_mem)) (by exact News.isTup (by k_asm) (by k_mem)) (by exact List.cons_ne_nil _ _) (by exact List.cons_ne_nil _ _) (by exact Nat.le_of_ble_eq_true rfl) (by first | exact cat33 | exact cat63 | kun_lit) ?_; k_whole); intro D' h' F' N' l1; (try k_lt l1); (try k_sweep); (try k_fold)))
  k_with "compareOp Eq ref ref" => ((k_here; (with_reducible show wpAny _ _ (compareOp CmpOp.Eq (Value.ref _) (Value.ref _)) _ _ _); k_dflt (refine' eqd_other (by ke_read) (by ke_read) (by ke_shaped) (by ke_shaped) (by ke_room) (by exact eqv_no6 (by with_reducible assumption)) ?_; (try k_fold))))
  k_with "compareOp Eq ref ref" => ((k_here; (with_reducible show wpAny _ _ (compareOp CmpOp.Eq (Value.ref _) (Value.ref _)) _ _ _); k_dflt (refine' eqd_same (by ke_read) (by ke_read) (by ke_shaped) (by ke_shaped) (by ke_room) (by exact eqv_is6 (by with_reducible assumption)) ?_; (try k_fold))))
  k_with "lawC:enter" => ((
  k_fill
  intro zzw zzs₀ zzs₁ zzmg zzmb zzG zzY zzfa zzo zzpm zzcd zzdoc zzdV zzkV zzho zzhd zzhcd zzhD zzhmg zzhg zzargs zzvals zzas zzhpre zzhlay zzhrd zzhwl zzhlo
  have zzKX9 : (withZ Mine.hd.heap_1 _).In _ := kIn_of zzY
  have zz49 := (withZ_in zzKX9 (no49 _)).2
  replace zzKX9 := (withZ_in zzKX9 (no49 _)).1
  have zzX := (Ground.X zzG).1
  have zzV := (Ground.X zzG).2
  refine Ground.open zzG ?_
  intro zzT zzB zzD zzTE zzTW
  clear zzD
  wrow_args zzhpre zzhlay zzhrd zzhwl zzhlo
  refine enterC ?_
  w_top on
  refine codeC_mono ?_ (fun _ _ g => GoodW.toG g)
  have zzK0 := below_caller (Top.heap zzT)
  have zzhe := Dflts.none zzhD rfl; subst zzhe
  refine call_fullC (by decide) zzho zzhd (Top.nolimit zzT) zzhcd (BindsTo.of_eq rfl) (locs rfl) fun zzh₁ zzF => ?_
  w_binds zzF
  have zzN0 := (News.nil : News _ _ _ []).at zzF
  clear zzhd zzhmg
  k_drop))
  k_with "call ref" => ((k_here; (with_reducible show wpAny _ _ (call (Value.ref 139) _) _ _ _); k_dflt (refine' Fn.useV (c_ymd _ _ _ _ _ _ _ (by assumption)) (by k_asm) (by k_asm) (by k_asm) (by k_asm) (by k_asm) (by first | exact rfl | assumption) (by walk_at "fn:args") (by ktr_room) (by ktr_units) ?_); intro t9 h9 tk9 F9 N9; (try dsimp only); (try k_fold)))
  k_with "call ref" => ((k_here; (with_reducible show wpAny _ _ (call (Value.ref 90) _) _ _ _); k_dflt (refine' Fn.useO (c_dfs0 _ _) (by k_asm) (by k_asm) (by k_asm) (by k_asm) (by k_asm) (by first | exact rfl | assumption) (by walk_at "fn:args") (by ktr_room) (by ktr_units) ?_); intro D9 o9 h9 tk9 ho9 F9 N9 hne9; have e9 : _ = _ := ho9; subst e9; (try dsimp only); (try k_fold)))
  k_with "call ref" => ((k_here; (with_reducible show wpAny _ _ (call (Value.ref 149) _) _ _ _); k_dflt (refine' Fn.useO (c_ord _ _ _) (by k_asm) (by k_asm) (by k_asm) (by k_asm) (by k_asm) (by first | exact rfl | assumption) (by walk_at "fn:args") (by ktr_room) (by ktr_units) ?_); intro D9 o9 h9 tk9 ho9 F9 N9 hne9; obtain ⟨_, _, _, _, _, _, e9, v9, f9⟩ := ho9; subst e9; obtain ⟨_, _, mfz⟩ := main_facts v9 f9; have mf0 := mfz.hk; have mf1 := mfz.hm; have mf2 := mfz.hyy; have mf3 := mfz.hd; have mf4 := mfz.hY; have mf5 := mfz.hq; have mf6 := mfz.h0; have mf7 := mfz.hv; have mf8 := mfz.hw; have mf9 := mfz.ho; have mf10 := mfz.due; have mf11 := mfz.yr; clear mfz;  (try dsimp only); (try k_fold)))
  k_with "call ref" => ((k_here; (with_reducible show wpAny _ _ (call (Value.ref 149) _) _ _ _); k_dflt (refine' Fn.useO (c_ordF _ _ _ _ _ _ (by assumption) (by assumption)) (by k_asm) (by k_asm) (by k_asm) (by k_asm) (by k_asm) (by first | exact rfl | assumption) (by walk_at "fn:args") (by ktr_room) (by ktr_units) ?_); intro D9 o9 h9 tk9 ho9 F9 N9 hne9; obtain ⟨_, _, _, e9⟩ := ho9; subst e9; (try dsimp only); (try k_fold)))
  k_with "wpC" => ((k_here; (with_reducible show wpC _ _ (call (Value.ref 78) _) _ _ _); k_dflt (refine' FnC.topO (c_pd _ _ _ _ _ _ _ _ _ _ (by assumption) (by assumption) (by assumption) (by assumption) (by assumption) (by assumption) (by assumption) (by assumption)) (by k_asm) (by k_asm) (by k_asm) (by k_asm) (by k_asm) (by first | exact rfl | assumption) (by walk_at "fn:args") (by ktr_room) (by ktr_units) ?_); intro D9 o9 h9 tk9 ho9 F9 N9 hne9; obtain ⟨_, _, _, _, _, _, _, _, _, e9⟩ := ho9; subst e9; (try dsimp only); (try k_fold)))
  k_with "call builtin:list.append" => ((k_here; (with_reducible show wpAny _ _ (call (Value.builtin "list.append") _) _ _ _); k_dflt (refine' append_K (by k_asm) (by k_asm) (by k_upd) ?_ (by first | with_reducible assumption | exact Nat.le_of_ble_eq_true rfl); k_whole); intro h' F' N'; (try k_sweep); (try k_fold)))
  trivial
local macro_rules | `(tactic| k_ne) => `(tactic| (refine neN ?_; (try dsimp only); first | (with_reducible refine' ne_of_all ?h ?m; (case h => with_reducible assumption); (case m => k_dflt k_mem)) | (with_reducible refine' en_of_all ?h ?m; (case h => with_reducible assumption); (case m => k_dflt k_mem)) | fail "no"))
theorem c_mailE (w : World) (n dr c y m d : Int) (t1 t2 t3 : Tok) (hdr : 0 ≤ dr ∧ dr ≤ 2) (hc : 0 ≤ c ∧ c < 86400) (f : first y m + d - 1 = n) (v : Valid y m d) : Fn PySem.Challenge.rw_kl0450_01.row.prog w (Mine.hd.heap_1 w.params) 4 156 [] [.int n t1, .int dr t2, .int c t3] (fun v new => new = [] ∧ ∃ (T : List Nat) (t : Tok), v = .str (tx T) t ∧ Mail T (n.fmod 7) d m (y.fmod 100) (c.fdiv 3600) ((c.fdiv 60).fmod 60) (c.fmod 60)) :=
  Fn.mono (c_mail w n dr c t1 t2 t3 hdr hc) (by
    rintro v9 new ⟨rfl, T, y', m', d', t, rfl, hT, v', f'⟩
    obtain ⟨rfl, rfl, rfl⟩ := date_uniq v v' (by omega)
    exact ⟨rfl, T, t, rfl, hT⟩)
theorem c_datesE (w : World) (Y m d h mi sc wk y0 q : Int) (a0 : Addr) (t1 t2 t3 t4 t5 t6 t7 t8 t9 tw : Tok) (hm : 1 ≤ m ∧ m ≤ 12) (hY : 1969 ≤ Y ∧ Y ≤ 2068) (hd : 1 ≤ d ∧ d ≤ 31) (hh : 0 ≤ h ∧ h ≤ 23) (hmi : 0 ≤ mi ∧ mi ≤ 59) (hs : 0 ≤ sc ∧ sc ≤ 59) (h0 : y0 = Y - 200 + q * 100) (hq : 0 ≤ q ∧ q < 4) (hv : Valid y0 m d) (hw : (first y0 m + d - 1).fmod 7 = wk) (ho : ∀ i : Nat, i < 4 → (i : Int) ≠ q → (first (Y - 200 + (i : Int) * 100) m + d - 1).fmod 7 ≠ wk) (wk' : Int) (hwk : wk' = wk) :
    FnC PySem.Challenge.rw_kl0450_01.row.prog w (Mine.hd.heap_1 w.params) 8 184 [(a0, ({ cls := .type "tuple", data := .seq #[.int Y t1, .int m t2, .int d t3, .int h t4, .int mi t5, .int sc t6, .int 0 t7, .int 1 t8, .int (-1) t9] } : Obj))] [.ref a0, .int wk' tw] (fun v new => ∃ D x y, v = .ref D ∧ ∃ o1 o2 o3, new = [(D, o1), (x, o2), (y, o3)] ∧ ∃ (n0 : Nat) (u1 u2 : Tok), o1 = PySem.W.listOf #[.ref x] n0 ∧ o2 = ({ cls := .type "tuple", data := .seq #[.int y0 u1, .int (first y0 m + d - 1) u2, .ref y] } : Obj) ∧ o3 = dtObj y0 m d h mi sc) := hwk ▸
  FnC.mono (c_dates w Y m d h mi sc wk y0 q a0 t1 t2 t3 t4 t5 t6 t7 t8 t9 tw hm hY hd hh hmi hs hq h0 hv hw ho) (by
    rintro v9 new ⟨D, x, y, rfl, n0, u1, u2, rfl⟩
    exact ⟨D, x, y, rfl, _, _, _, rfl, n0, u1, u2, rfl, rfl, rfl⟩)
theorem words_LawM_01_1 : True := by
  k_with "call ref" => ((k_here; (with_reducible show wpAny _ _ (call (Value.ref 156) _) _ _ _); k_dflt (refine' Fn.useX (c_mailE _ _ _ _ _ _ _ _ _ _ (by assumption) (by assumption) (by assumption) (by assumption)) (by k_asm) (by k_asm) (by k_asm) (by k_asm) (by k_asm) (by first | exact rfl | assumption) (by walk_at "fn:args") (by ktr_room) (by ktr_units) ?_); intro T9 t9 h9 tk9 hT9 F9 N9; (try dsimp only); (try k_fold)))
  k_with "wpC" => ((k_here; (with_reducible show wpC _ _ (call (Value.ref 184) _) _ _ _); k_dflt (refine' FnC.top3 (by k_asm) (by k_mem) (c_datesE _ _ _ _ _ _ _ _ _ _ _ _ _ _ _ _ _ _ _ _ _ (by assumption) (by assumption) (by assumption) (by assumption) (by assumption) (by assumption) (by assumption) (by assumption) (by assumption) (by assumption) (by assumption) _ (by rw [find_day (by assumption) (by assumption)])) (by k_asm) (by k_asm) (by k_asm) (by k_asm) (by first | exact rfl | assumption) (by ktr_room) (by ktr_units) ?_); intro D9 x9 y9 o9 p9 r9 h9 tk9 ho9 F9 N9 hne9; obtain ⟨_, _, _, e9, e8, e7⟩ := ho9; subst e9; subst e8; subst e7; (try dsimp only); (try k_fold)))
  k_with "wpC" => ((k_here; (with_reducible show wpC _ _ (execs (Stmt.Assign [Expr.Name _ _] (Expr.Call (Expr.Name (PySem.Str.ofString "_law_dates") _) _ _ _) _ :: _) _) _ _ _); k_dflt (refine wpC_consC ?_; refine wpC_AssignName ?_; rename Frag.In _ _ => X9; refine wpC_CallK X9 ?_; skip); (try k_fold)))
  k_with "subscriptTail Name Slice str ref" => ((k_here; (with_reducible show wpAny _ _ (subscriptTail _ (PySem.Expr.Slice none (some _) none _) (Value.str (tx _) _) (Value.ref _)) _ _ _); (with_reducible rename Fr _ _ _ _ => F9); (with_reducible rename News _ _ _ _ => N9); (refine slice_strN_ns (hsz := fits_len (Mail.len (by assumption) (by assumption) (by assumption))) (s := ⟨_, _, _, _, _⟩) F9 N9 ?_); intro h9 t9 k9 F8 N8; (try k_sweep); (try k_fold)))
  k_with "call builtin:str.find" => ((k_here; (with_reducible show wpAny _ _ (call (Value.builtin "str.find") [Value.str (PySem.Str.ofString "SunMonTueWedThuFriSat") _, Value.str _ _]) _ _ _); (refine KXw.find (find_day (by assumption) (by assumption)) ?_); intro _ _; (try k_fold)))
  k_with "subscriptTail Name Slice ref ref" => ((k_here; (with_reducible show wpAny _ _ (subscriptTail _ (PySem.Expr.Slice (some (PySem.Expr.Constant (PySem.Const.int 1) _ _)) none none _) (Value.ref _) (Value.ref _)) _ _ _); k_dflt (refine' tup_a (a := 1) (by k_asm) (by k_asm) (by exact News.isTup (by k_asm) (by k_mem)) (by exact Nat.le_of_ble_eq_true rfl) (by exact Nat.le_of_ble_eq_true rfl) (by exact pick9_1) ?_ (by with_unfolding_all rfl) (by intro _; with_unfolding_all rfl) (by exact Nat.le_of_ble_eq_true rfl); k_whole); intro D' h' F' N' l1; (try k_lt l1); (try k_sweep); (try k_fold)))
  k_with "binaryOp Add ref ref" => ((k_here; (with_reducible show wpAny _ _ (binaryOp _ (Value.ref _) (Value.ref _)) _ _ _); k_dflt (refine' kde_addT (by k_asm) (by k_asm) (by exact News.isTup (by k_asm) (by k_mem)) (by exact News.isTup (by k_asm) (by k_mem)) (by exact List.cons_ne_nil _ _) (by exact List.cons_ne_nil _ _) (by exact Nat.le_of_ble_eq_true rfl) (by exact cat93) ?_; k_whole); intro D' h' F' N' l1; (try k_lt l1); (try k_sweep); (try k_fold)))
  k_with "subscriptTail Name Constant ref int" => ((k_here; (with_reducible show wpAny _ _ (subscriptTail _ _ (Value.ref _) (Value.int 0 _)) _ _ _); k_dflt (refine' item_one (by k_asm) (by k_mem) ?_ (by with_unfolding_all rfl)); (try k_fold)))
  k_with "binaryOp Sub ref ref" => ((k_here; (with_reducible show wpAny _ _ (binaryOp Operator.Sub (Value.ref _) (Value.ref _)) _ _ _); k_dflt (refine' gapK (by k_asm) (by k_asm) (by k_asm) (by exact zeroK _) (by k_mem) (by k_mem) (by assumption) (by assumption) (by exact fmod_rng _ 146097 (by decide)) (by assumption) (by assumption) ?_ ?_); all_goals (first | (intro l' h' F' N' l1; (try k_lt l1); (try k_sweep); (try k_fold)) | (intro g1 g2; (try k_fold)))))
  k_with "getAttr ref" => ((k_here; (with_reducible show wpAny _ _ (getAttr (Value.ref 49) (PySem.Str.ofString "days") _) _ _ _); k_dflt (refine' td49_days (by k_asm) (by assumption) ?_; k_whole); intro t9 k9; (try k_fold)))
  k_with "getAttr ref" => ((k_here; (with_reducible show wpAny _ _ (getAttr (Value.ref 49) (PySem.Str.ofString "seconds") _) _ _ _); k_dflt (refine' td49_seconds (by k_asm) (by assumption) ?_; k_whole); intro t9 k9; (try k_fold)))
  k_with "getAttr ref" => ((k_here; (with_reducible show wpAny _ _ (getAttr (Value.ref _) (PySem.Str.ofString "days") _) _ _ _); k_dflt (refine' attrK_td_days (by k_asm) (by k_mem) ?_; k_whole); intro t9 k9; (try k_fold)))
  k_with "getAttr ref" => ((k_here; (with_reducible show wpAny _ _ (getAttr (Value.ref _) (PySem.Str.ofString "seconds") _) _ _ _); k_dflt (refine' attrK_td_seconds (by k_asm) (by k_mem) ?_; k_whole); intro t9 k9; (try k_fold)))
  trivial
theorem law01 : PySem.Challenge.rw_kl0450_01.Holds := by
  have kf : PySem.Challenge.rw_kl0450_01 = PySem.Challenge.rw_kl0450_01 ∧ ∀ P, Mine.hd.heap_1 P = Mine.hd.heap_1 P := by k_fill; exact ⟨rfl, fun _ => rfl⟩
  clear kf
  refine hdQ rfl rfl rfl ?_
  k_with "run:A" => (
    (try dsimp +zetaDelta only)
    as_aux_lemma =>
      walk_at "step"
      all_goals (repeat' ((fail_if_success (first | (with_reducible guard_target = wpC _ _ (execs (List.cons _ _) _) _ _ _) | (with_reducible guard_target = wpAny _ _ (execs (List.cons _ _) _) _ _ _))); walk_at "step"))
      all_goals (first | ((with_reducible guard_target = wpC _ _ (execs (Stmt.If _ _ _ _ :: _) _) _ _ _); k_extra "cut:A") | k_extra "run:A"))
  k_with "run:B" => (
    (try dsimp +zetaDelta only)
    as_aux_lemma =>
      walk_at "step"
      all_goals (repeat' ((fail_if_success (first | (with_reducible guard_target = wpC _ _ (execs (List.cons _ _) _) _ _ _) | (with_reducible guard_target = wpAny _ _ (execs (List.cons _ _) _) _ _ _))); walk_at "step"))
      all_goals (first | ((first | (with_reducible guard_target = wpC _ _ (execs (List.cons _ _) _) _ _ _) | (with_reducible guard_target = wpAny _ _ (execs (List.cons _ _) _) _ _ _)); k_extra "run:B") | k_extra "tail:B"))
  k_with "run:C" => (
    (try dsimp +zetaDelta only)
    as_aux_lemma =>
      walk_at "step"
      all_goals (repeat' ((fail_if_success (first | (with_reducible guard_target = wpC _ _ (execs (List.cons _ _) _) _ _ _) | (with_reducible guard_target = wpAny _ _ (execs (List.cons _ _) _) _ _ _))); walk_at "step"))
      all_goals (first | ((first | (with_reducible guard_target = wpC _ _ (execs (List.cons _ _) _) _ _ _) | (with_reducible guard_target = wpAny _ _ (execs (List.cons _ _) _) _ _ _)); k_extra "run:C") | k_extra "tail:C"))
  k_with "run:law" => (
    (try dsimp +zetaDelta only)
    as_aux_lemma =>
      walk_at "step"
      all_goals (repeat' ((fail_if_success (first | (with_reducible guard_target = wpC _ _ (execs (List.cons _ _) _) _ _ _) | (with_reducible guard_target = wpAny _ _ (execs (List.cons _ _) _) _ _ _))); walk_at "step"))
      all_goals (first | ((first | (with_reducible guard_target = wpC _ _ (execs (List.cons _ _) _) _ _ _) | (with_reducible guard_target = wpAny _ _ (execs (List.cons _ _) _) _ _ _)); k_extra "run:law") | k_extra "tail:law"))
  k_with "tail:law" => (
    rename Fr _ _ _ _ => F9
    rename News _ _ _ _ => N9
    refine TurnEnd.intro F9 (fun p hp => N9 p ?_) hIn ⟨_, rfl, rfl, rfl⟩
    repeat (first | exact hp | refine List.Mem.tail _ ?_))
  k_with "cut:A" => (
    rename Fr _ _ _ _ => F1
    rename News _ _ _ _ => N1
    rename IntsAre _ _ => I1
    refine wpC_cutA F1 rfl ?h1 ?h2
    case h1 =>
      repeat' (walk_at "step")
      all_goals (
        rename Fr _ _ _ _ => F2
        rename News _ _ _ _ => N2
        rename IntsAre _ _ => I2
        refine' midA_intro F2 N2 ?c ?o ?n rfl rfl I2 ?zp ?zl
        case c => k_mem
        case o => k_mem
        case n => k_ne
        case zp => first | exact par_even (by assumption) | exact par_app (by assumption)
        case zl => first | exact Nat.le_trans (Nat.le_of_eq List.length_take) (Nat.min_le_left _ _) | exact par_app8 (by assumption))
    case h2 =>
      intro s' hs'
      clear F1 N1 I1
      obtain ⟨h1, tk1, m1, C, vs, xs, n0, k, rfl, F2, N2, hCO, e1, e2, hI, hxs, hk⟩ := hs'
      rw [map_pin2 e1 e2] at F2
      k_extra "run:B")
  k_with "tail:B" => (
    refine ⟨?_⟩
    rename IsRange _ _ _ _ _ _ _ _ => R3
    rename Fr _ _ _ _ => F3
    rename News _ _ _ _ => N3
    obtain ⟨R0, eR, hm0⟩ := pinR F3 (PySem.Str.ofString "rows") rfl
    subst eR
    obtain ⟨O0, eO, hmO⟩ := pinR F3 (PySem.Str.ofString "origin") rfl
    subst eO
    obtain ⟨C0, eC, hmC⟩ := pinR F3 (PySem.Str.ofString "cells") rfl
    subst eC
    have hxs' : ((xs.length : Nat) : Int) = 2 * (k : Int) := by omega
    refine for_rangeT (Gd := fun g => g = _) k (JR R0 C0 O0 vs n0) rfl R3 (range2 hxs') (small2 hxs' hk) rfl F3 N3 ?h0 ?turn ?done ?ht ?hE
    case h0 =>
      refine ⟨rfl, rfl, rfl, [_, _, _], _, _, rfl, ?hc, ?ho, rfl, ?hr, allNe_intro ?ha⟩
      case hc => k_mem
      case ho => k_mem
      case ha => k_all
      case hr =>
        intro v hv
        simp only [List.mem_cons, List.not_mem_nil, or_false] at hv
        rcases hv with rfl | rfl | rfl
        all_goals exact ⟨_, _, _, _, _, rfl, by k_mem⟩
    case ht => intro I v; rfl
    case hE => with_unfolding_all passes_own
    case turn =>
      intro Q' E' i g m₁ news₁ I h tk tv hlt G hJ hIn F₁ N₁
      subst G
      clear F3 N3
      obtain ⟨p1, p2, p3, rs, n1, tail, rfl, hC, hO, hlen, hrow, hR⟩ := hJ
      rw [map_pin3 p1 p2 p3] at F₁
      have hCR : NeA C0 R0 := ⟨ne_of_all hR hC⟩
      have hIR : NeA R0 I := hIn.1
      have N₂ := news_dup N₁ (.tail _ (.tail _ hC))
      have hsz : rs.toArray.size ≤ sizeLine := by
        rw [List.size_toArray, hlen, sizeLine_eq]
        omega
      clear N₁
      repeat' (walk_at "step")
      rename Fr _ _ _ _ => F2
      rename News _ _ _ _ => N2
      refine' TurnEndT.row rfl F2 N2 hIn hC hO hlen hrow hR ?m1 ?m2 ?m3 ?m4 ?n1 ?n2 rfl rfl rfl
      case m1 => k_mem
      case m2 => k_mem
      case m3 => k_mem
      case m4 =>
        intro p hp
        repeat (first | exact hp | refine List.Mem.tail _ ?_)
      case n1 => k_ne
      case n2 => k_ne
    case done =>
      intro g m₁ news₁ h tk G hJ F₁ N₁
      subst G
      clear F3 N3
      obtain ⟨p1, p2, p3, rs, n1, tail, rfl, hC, hO, hlen, hrow, hR⟩ := hJ
      rw [map_pin3 p1 p2 p3] at F₁
      clear p1 p2 p3 hC hlen hR hI hxs hxs' hk
      (try dsimp only)
      first | ((first | (with_reducible guard_target = wpC _ _ (execs (List.cons _ _) _) _ _ _) | (with_reducible guard_target = wpAny _ _ (execs (List.cons _ _) _) _ _ _)); k_extra "run:C") | k_extra "tail:C")
  k_with "tail:C" => (
    refine ⟨?_⟩
    rename Fr _ _ _ _ => F5
    rename News _ _ _ _ => N5
    obtain ⟨O1, eO, hmO⟩ := pinR F5 (PySem.Str.ofString "origin") rfl
    subst eO
    refine for_headP (fun _ m n => m (PySem.Str.ofString "origin") = some (.ref O1) ∧ n = tail) F5 N5 rfl ⟨rfl, rfl⟩ ?turn ?done ?ht ?hE
    case ht => intro v hv; obtain ⟨t, x, y, t1, t2, e, _⟩ := hrow v hv; exact ⟨t, e⟩
    case hE => with_unfolding_all passes_own
    case done =>
      intro m₂ news₂ h₂ tk₂ hJ F₃ N₃
      obtain ⟨_, rfl⟩ := hJ
      dsimp only
      (repeat' (walk_at "step"))
    case turn =>
      intro Q' E' i v m₂ news₂ I io h₂ tk₂ hv hJ hIn F₃ N₃
      obtain ⟨eO, rfl⟩ := hJ
      obtain ⟨t, x, y, t1, t2, rfl, hmem⟩ := hrow v (List.mem_of_getElem? hv)
      rw [map_pin eO] at F₃
      have N₄ := news_dup (news_dup N₃ (.tail _ (.tail _ hmem))) (.tail _ (.tail _ (.tail _ hO)))
      clear hrow hv N₃ F5 N5 eO
      have hcr := fmod_rng (y.fdiv 3) 86400 (by decide)
      have hdr : 0 ≤ y.fmod 3 ∧ y.fmod 3 ≤ 2 := by have := fmod_rng y 3 (by decide); omega
      have hcf := clock_facts hcr
      have c1 := hcf.hh; have c2 := hcf.hmi; have c3 := hcf.hs; have c4 := hcf.sum
      clear hcf
      all_goals (repeat' ((fail_if_success (first | (with_reducible guard_target = wpC _ _ (execs (List.cons _ _) _) _ _ _) | (with_reducible guard_target = wpAny _ _ (execs (List.cons _ _) _) _ _ _))); walk_at "step"))
      all_goals (first | ((first | (with_reducible guard_target = wpC _ _ (execs (List.cons _ _) _) _ _ _) | (with_reducible guard_target = wpAny _ _ (execs (List.cons _ _) _) _ _ _)); k_extra "run:law") | k_extra "tail:law"))
  walk_at "lawC:enter"
  (try dsimp only)
  k_extra "run:A"
end
end Mine

end
set_option maxRecDepth 100000 in
set_option maxHeartbeats 8000000 in
theorem PySem.Challenge.cw_kl0450_01_holds : PySem.Challenge.rw_kl0450_01.Holds := by
  exact Mine.law01
