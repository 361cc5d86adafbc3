import PyProof.Rows.All
import Wide.All
import OpenK.AllK
import Wide.FinOn
import PySem.Sre
import KE.KIntText
import KE.KStrWords
import PyProof.Rows.StrCase
import Flt.Reg
import PyProof.RangeIter
import PyProof.IsiBase
import PyProof.WalksMore
import PyProof.TypeOfCall
import PyProof.AttrMiss
import KE.KTryDeepN
import OpenK.KCell
import Lean
import PySem.Challenge.RW_kl0450_03
set_option Elab.async false
set_option genSizeOf false
set_option genInjectivity false
set_option compiler.extract_closed false
set_option linter.all false
local macro_rules | `(tactic| walk_at $s:str) => `(tactic| k_extra $s)
section
open PySem PySem.W PyProof.Rows PySem.Calls PySem.Spec
set_option maxRecDepth 100000
namespace Mine.Internal
noncomputable def HasC (Γ : PySem.Ctx) : Prop := Code.isCaller Γ.code = true ∨ Γ.below.any (fun x => Code.isCaller x.1) = true
theorem HasC.enter {Γ : PySem.Ctx} (h : HasC Γ) (c : Code) (x : Option Value) (p : Pos) : (Γ.enter c x p).below.any (fun x => Code.isCaller x.1) = true := by
  show ((Γ.code, p) :: Γ.below).any _ = true
  rw [List.any_cons]
  rcases h with h | h
  · rw [h]; rfl
  · rw [h]; exact Bool.or_true _
noncomputable def wpC {α : Type} (M : Model) (A : Around) (t : Sem α) (Q : α → Shared → Prop) (E : Value → Shared → Prop) (s : Shared) : Prop :=
  ∀ Γ p, Γ.In A → HasC Γ → Sem.wp M Γ t (fun a _ s' => Q a s') (fun e _ s' => E e s') p s
noncomputable def codeC (M : Model) (A : Around) (c : Code) (R : Result → Shared → Prop) (s : Shared) : Prop :=
  ∀ Γ p, Γ.code = c → Γ.Below A → Γ.below.any (fun x => Code.isCaller x.1) = true → wpCode M Γ R p s
section
variable {α β : Type} {M : Model} {A : Around} {E : Value → Shared → Prop} {s : Shared}
theorem wpC_of {t : Sem α} {Q : α → Shared → Prop} (h : wpAny M A t Q E s) : wpC M A t Q E s := fun Γ p hΓ _ => h Γ p hΓ
theorem wpC_pure {a : α} {Q : α → Shared → Prop} (h : Q a s) : wpC M A (pure a) Q E s := fun _ _ _ _ => h
theorem wpC_mono {t : Sem α} {Q Q' : α → Shared → Prop} {E' : Value → Shared → Prop} (h : wpC M A t Q E s)
    (hQ : ∀ a s, Q a s → Q' a s) (hE : ∀ e s, E e s → E' e s) : wpC M A t Q' E' s :=
  fun Γ p hΓ hc => Sem.wp_mono M Γ t (fun a _ s => hQ a s) (fun e _ s => hE e s) p s (h Γ p hΓ hc)
theorem wpC_bind {m : Sem α} {f : α → Sem β} {Q : β → Shared → Prop} (h : wpC M A m (fun a s' => wpC M A (f a) Q E s') E s) : wpC M A (m >>= f) Q E s := fun Γ p hΓ hc => by
  rw [Sem.wp_bind']
  exact Sem.wp_mono M Γ m (fun a p' s' h' => h' Γ p' hΓ hc) (fun _ _ _ h' => h') p s (h Γ p hΓ hc)
theorem wpC_then {m : Sem α} {f : α → Sem β} {Q : β → Shared → Prop} (h : wpAny M A m (fun a s' => wpC M A (f a) Q E s') E s) : wpC M A (m >>= f) Q E s := wpC_bind (wpC_of h)
theorem wpC_onRaise {m : Sem α} {k : Value → Sem Unit} {Q : α → Shared → Prop}
    (h : wpC M A m Q (fun e s' => wpC M A (k e) (fun _ s'' => E e s'') E s') s) : wpC M A (m.onRaise k) Q E s := fun Γ p hΓ hc => by
  rw [Sem.wp_onRaise]
  exact Sem.wp_mono M Γ m (fun _ _ _ h' => h') (fun e p' s' h' => h' Γ p' hΓ hc) p s (h Γ p hΓ hc)
theorem wpC_holding {vs : List Value} {m : Sem α} {Q : α → Shared → Prop} (h : wpC M A m Q E s) : wpC M A (holding vs m) Q E s :=
  fun Γ p hΓ hc => by rw [Sem.wp_holding]; exact h Γ p hΓ hc
theorem wpC_standAt {pos : Pos} {Q : Unit → Shared → Prop} (h : Q () s) : wpC M A (standAt pos) Q E s := fun _ _ _ _ => h
theorem wpC_run {c : Code} {h : Option Value} {Q : Flow → Shared → Prop}
    (hc : codeC M (A.mark h) c (fun r s' => match r with | .ok f => Q f s' | .error e => E e s') s) (hnb : autoParam (h ≠ some byPass) PySem.wpAny_run._auto_3) :
    wpC M A (run c h) Q E s :=
  fun Γ p hΓ hC => by rw [Sem.wp_run]; exact hc _ p rfl (hΓ.enter c h p hnb) (hC.enter c h p)
theorem wpC_runValue {c : Code} {Q : Value → Shared → Prop}
    (hc : codeC M A c (fun r s' => match r with | .ok (.ret v) => Q v s' | .ok _ => False | .error e => E e s') s) :
    wpC M A (runValue c) Q E s := fun Γ p hΓ hC => by rw [Sem.wp_runValue]; exact hc _ p rfl (hΓ.enter c none p (by intro x; cases x)) (hC.enter c none p)
theorem wpC_call {f : Value} {pos : List Value} {kw : List (Str × Value)} {Q : Value → Shared → Prop}
    (hc : codeC M A (.call f ⟨pos, kw⟩) (fun r s' => match r with | .ok (.ret v) => Q v s' | .ok _ => False | .error e => E e s') s) :
    wpC M A (call f pos kw) Q E s := wpC_runValue hc
theorem codeC_mono {c : Code} {R R' : Result → Shared → Prop} (h : codeC M A c R s) (hR : ∀ r s, R r s → R' r s) : codeC M A c R' s :=
  fun Γ p hc hΓ hC => wpCode_mono hR (h Γ p hc hΓ hC)
theorem codeC_of_tree {c : Code} {R : Result → Shared → Prop}
    (h : wpC M (A.under c) (M.den c) (fun fin s' => match fin with | .done f => R (.ok f) s' | .again c' => c'.quiet = true ∧ codeC M A c' R s')
      (fun e s' => R (.error e) s') s) : codeC M A c R s := fun Γ p hc hΓ hC => by
  rw [wpCode_iff_wp, hc]
  refine Sem.wp_mono M Γ _ (fun fin p' s' h' => ?_) (fun _ _ _ h' => h') p s (h Γ p (hc ▸ hΓ.in) (.inr hC))
  cases fin with
  | done f => exact h'
  | again c' => exact ⟨h'.1, h'.2 (Γ.goto c') p' rfl (hΓ.goto c') hC⟩
end

section
theorem caller_hasC : HasC ⟨.builtin "claim.caller" {}, none, none, [], none⟩ := .inl rfl
theorem thread_endsC {prog : Program} {w : World} {t : Sem Fin} {s : Shared} {R : Result → Shared → Prop} (hreg : s.asleep)
    (h : wpC (model prog w) callerA t (fun fin s' => ∃ f, fin = .done f ∧ (R (.ok f) s' ∧ leftWithCleanup s'.gens = false)) (fun e s' => R (.error e) s' ∧ leftWithCleanup s'.gens = false) s) :
    ∃ n r s' s'', runN (denote table) prog w n s ⟨t, .builtin "claim.caller" {}, default, []⟩ = .halted (outcomeOf r) s' ∧
      schedN (denote table) prog w n (.single s ⟨t, .builtin "claim.caller" {}, default, []⟩) = .halted (outcomeOf r) s' ∧ s'.forget = s''.forget ∧ R r s'' := by
  have h' : Sem.wp (model prog w) ⟨.builtin "claim.caller" {}, none, none, [], none⟩ t (Sem.finPost (model prog w) ⟨.builtin "claim.caller" {}, none, none, [], none⟩ (fun r s' => R r s' ∧ leftWithCleanup s'.gens = false)) (fun e _ s' => R (.error e) s' ∧ leftWithCleanup s'.gens = false) default s := by
    refine Sem.wp_mono _ _ t (fun fin p' s' h' => ?_) (fun _ _ _ h' => h') _ s (h _ _ caller_in caller_hasC)
    obtain ⟨f, rfl, hf⟩ := h'
    exact hf
  obtain ⟨n, r, s₁, s₂, hs, hn, hfo, hR⟩ := wp_halts_full (M := model prog w) (R := R) hreg h'
  exact ⟨n, r, s₂, s₁, hn, hs, hfo, hR⟩
theorem abs_goal0 {G : Prop} (h : ∀ P : Prop, (G → P) → P) : G := h G id
theorem callFromC {c : ClaimW} {tree : List Value → Sem Fin} {w : World} {s : Shared} {free : Addr → Prop} {gens : Prop} {kept : Heap → Prop} (hz : s.asleep) (hgens : s.gens = #[])
    (hspec : ∀ args, c.pre args = true → WData.layableAll args = true →
      ∀ ord : List DictEntry → List DictEntry, (∀ l, (ord l).Perm l) →
      ∃ vs s₁, layAllW c.records (classAt s.heap) w.params ord args s = some (vs, s₁) ∧
        wpC (model c.prog w) callerA (tree vs) (fun fin s' => ∃ f, fin = .done f ∧ (c.Ends s args vs s₁ (.ok f) s' ∧ s'.os = s.os ∧ AllBare s'.gens ∧ kept s'.heap))
          (fun e s' => c.Ends s args vs s₁ (.error e) s' ∧ s'.os = s.os ∧ AllBare s'.gens ∧ kept s'.heap) s₁) :
    c.CallFrom (fun vs => ⟨tree vs, .builtin "claim.caller" {}, default, []⟩) w free gens kept s := by
  intro args hpre hlay ord hord
  refine abs_goal0 fun P hP => ?_
  obtain ⟨vs, s₁, hlaid, hcode⟩ := hspec args hpre hlay ord hord
  have hal := layAllW_rest _ _ _ hlaid
  obtain ⟨k, r, s', s'', hrun, hsched, hfo, hcase, hos, hkp⟩ := thread_endsC (prog := c.prog) (w := w) (t := tree vs) (s := s₁)
    (R := fun r s' => c.Ends s args vs s₁ r s' ∧ s'.os = s.os ∧ kept s'.heap)
    (Shared.asleep_of_life hal.2.2.2 hz)
    (wpC_mono hcode (by
      rintro fin s' ⟨f, e, h1, h2, h3, h4⟩
      exact ⟨f, e, ⟨h1, h2, h4⟩, leftWithCleanup_false_of_bare h3⟩) (by
      rintro e s' ⟨h1, h2, h3, h4⟩
      exact ⟨⟨h1, h2, h4⟩, leftWithCleanup_false_of_bare h3⟩))
  obtain ⟨eh, _, _, eo, _⟩ := Shared.forget_eq hfo
  have hcase := hcase.congr eh
  have hkp : kept s'.heap := by rw [eh]; exact hkp
  rw [← eo] at hos
  have hlife : s'.heap.life = s.heap.life := (runN_life _ _ _ hrun).trans hal.2.2.2
  rcases hcase with ⟨v, rfl, d1, d2, d3, d4, d5⟩ | ⟨e, ob, cls, rfl, d1, d2, d3, d4, d5⟩
  · exact hP ⟨vs, s₁, hlaid, k, _, s', hsched, .inl ⟨v, rfl, d1, d2, d3, fun b o y _ => d4 b o y, d5⟩, (fun _ i x hx => by rw [hgens] at hx; simp at hx), hkp, by rw [hlife], Shared.rest_eq hos⟩
  · exact hP ⟨vs, s₁, hlaid, k, _, s', hsched, .inr ⟨e, ob, cls, rfl, d1, d2, d3, d4, fun b o y _ => d5 b o y⟩, (fun _ i x hx => by rw [hgens] at hx; simp at hx), hkp, by rw [hlife], Shared.rest_eq hos⟩
theorem openC {r : RowW} {run : Value → List Value → Sem Value} {tree : List Value → Sem Fin} {q : Program} {loose defs kps : List Str} {writes : Bool} {Xt : Shared → Bool} {XP : (Str → Option Value) → Heap → Prop} {α : Type} {Yf : Shared → α} {Ya : World → α} {YP : World → Heap → Prop} {N : Nat}
    (left : LeftO r.prog q loose Xt Yf Ya N) (hY : ∀ w s, Yf s = Ya w → YP w s.heap) (hYk : ∀ w h h', YP w h → (∀ b o, h.get? b = some o → h'.get? b = some o) → YP w h') (hX : ∀ s, Xt s = true → XP (s.heap.nsMap mainGlobals) s.heap) (hXk : ∀ mg h h', XP mg h → (∀ b o, h.get? b = some o → h'.get? b = some o) → XP mg h')
    (hRf : ∀ s, Xt s = true → RecFacts r.records s.heap) (hwr : (!writes || r.records.isEmpty) = true) (ok : (chainsOk q && opensWell r.prog && (frees r && r.within.isEmpty)) = true) (hb : r.prog.bare) (hw : r.promised)
    (ht : ∀ vs (w : World) (s : Shared) mg f (Q : Fin → Shared → Prop) (E : Value → Shared → Prop), s.heap.Ns mainGlobals mg → mg r.name = some f → wpC (model r.prog w) callerA (run f vs) (fun v s' => Q (.done (.ret v)) s') E s → wpC (model r.prog w) callerA (tree vs) Q E s)
    (pin : ∀ w s, s.heap.isNs mainGlobals = true → Ground q loose [] XP w s (s.heap.nsMap mainGlobals) (s.heap.nsMap builtinsNs) s.heap → ∀ n ∈ defs, isTheDefsW r.prog s.heap n)
    (call : ∀ (w : World) (s₀ s₁ : Shared) (mg mb : Str → Option Value), Ground q loose r.records XP w s₀ mg mb s₁.heap → YP w s₁.heap → ∀ (args : List WData) (vs : List Value) (as : List Addr),
      r.claim.pre args = true → WData.layableAll args = true → Laid r.records w s₀ s₁ args vs as → sysModules < s₀.heap.objs.size → ∃ f, mg r.name = some f ∧
        wpC (model r.prog w) callerA (run f vs) (fun v s' => GoodWG r.claim (classAt s₀.heap) (ExcName.means s₀.heap) args s₁ (.ok (.ret v)) s')
          (fun e s' => GoodWG r.claim (classAt s₀.heap) (ExcName.means s₀.heap) args s₁ (.error e) s') s₁) : r.claim.HoldsOpenBy (fun vs => ⟨tree vs, .builtin "claim.caller" {}, default, []⟩) defs kps writes := by
  obtain ⟨ok, k5⟩ := Bool.and_eq_true_iff.mp ok
  obtain ⟨hch, o1⟩ := Bool.and_eq_true_iff.mp ok
  obtain ⟨k5, k6⟩ := Bool.and_eq_true_iff.mp k5
  obtain ⟨hsame, hu, ha, hap, hm⟩ := frees_parts k5
  refine ⟨⟨hb, o1, by show r.makers.map _ = []; rw [hm]; rfl⟩, hw.witness, fun w => ⟨(left.behind hX hch w).1, fun s' hs' => ?_⟩⟩
  obtain ⟨s₀, hf, hg0, s, hT, hz, hgens, hg, G00, y⟩ := (left.behind (XP := fun mg h => XP mg h ∧ RecFacts r.records h) (fun s hs => ⟨hX s hs, hRf s hs⟩) hch w).2 s' hs'
  have G0 : Ground q loose [] XP w s (s.heap.nsMap mainGlobals) (s.heap.nsMap builtinsNs) s.heap := ⟨G00.T, G00.B, G00.D, G00.TE, G00.TD, G00.W, G00.X.1, G00.cls, G00.has, G00.apart, G00.once, G00.K⟩
  have RF := G00.X.2
  have hT' := hT
  refine ⟨s₀, hf, hg0, s, hT, pin w s hg G0, RF.1, RF.2.1, ?_⟩
  have hgens : s.gens = #[] := Array.eq_empty_of_size_eq_zero (beq_iff_eq.mp hgens)
  have G : Ground q loose r.records XP w s _ _ s.heap := RF.ground G0
  refine callFromC (c := r.claim) hz hgens fun args hpre hlay ord hord => ?_
  obtain ⟨⟨vs, s₁⟩, hlaid⟩ := Option.isSome_iff_exists.mp (layAllW_isSome (P := w.params) (ord := ord) G.has args r.args s (pre_splitW hpre).1)
  have keeps := layAllW_keeps _ _ _ hlaid
  have hal := layAllW_rest _ _ _ hlaid
  obtain ⟨as, hrd, hin, hold⟩ := reads_layAllW hord _ _ _ hlaid hlay s₁.heap (fun _ _ e => e)
  have L : Laid r.records w s s₁ args vs as := ⟨⟨ord, hord, hlaid⟩, hrd, hin, hold, keeps, hal.1.trans hgens, hal.2.2.1⟩
  have G₁ := G.keeps hXk keeps
  obtain ⟨f, hf, h⟩ := call w s s₁ _ _ G₁ (hYk _ _ _ (hY w s y) keeps) args vs as hpre hlay L G.low
  have hi := ident_freeW hu ha hap
  have hwi : r.claim.within = [] := List.isEmpty_iff.mp k6
  exact ⟨vs, s₁, hlaid, ht vs w s₁ _ f _ _ G₁.T.g hf (wpC_mono h (fun v s' g => ⟨_, rfl, have z := g.laid (c := r.claim) hsame hwi hi L; ⟨z.1, z.2.1, z.2.2, fun q => ⟨namesKept_of hT' hg kps keeps g.2.1.old, noTable hwr q⟩⟩⟩) fun e s' g => have z := g.laid (c := r.claim) hsame hwi hi L; ⟨z.1, z.2.1, z.2.2, fun q => ⟨namesKept_of hT' hg kps keeps g.2.1.old, noTable hwr q⟩⟩)⟩
noncomputable abbrev WalkC (q : Program) (loose : List Str) (XP : (Str → Option Value) → Heap → Prop) (YP : World → Heap → Prop) (r : RowW) (d : DefRec) (kwd : List (Str × Expr)) (run : Value → List Value → Sem Value) : Prop :=
  ∀ (w : World) (s₀ s₁ : Shared) (mg mb : Str → Option Value), Ground q loose r.records XP w s₀ mg mb s₁.heap → YP w s₁.heap → ∀ (a : Addr) (o : Obj) (pm cd doc dV kV : Value), s₁.heap.get? a = some o →
    o.data = .func { docDef d.name d.params d.body d.scope pm cd doc with defaults := dV, kwdefaults := kV } → s₁.heap.CodeRec cd d.name → Dflts mg s₁.heap d.params kwd dV kV → mg d.name = some (.ref a) → s₁.gens = #[] →
    ∀ (args : List WData) (vals : List Value) (as : List Addr), r.claim.pre args = true → WData.layableAll args = true → ReadsAllW r.records (classAt s₀.heap) s₁.heap vals args as → WellAll w.params s₁.heap vals args → (∀ a ∈ as, (a == sysModules) = false) →
      wpC (model r.prog w) callerA (run (.ref a) vals) (fun v s' => GoodWG r.claim (classAt s₀.heap) (ExcName.means s₀.heap) args s₁ (.ok (.ret v)) s')
        (fun e s' => GoodWG r.claim (classAt s₀.heap) (ExcName.means s₀.heap) args s₁ (.error e) s') s₁
theorem PySem.W.holds_open {r : OpenRow} {q : Program} {loose : List Str} {Xt : Shared → Bool} {XP : (Str → Option Value) → Heap → Prop} {α : Type} {Yf : Shared → α} {Ya : World → α} {YP : World → Heap → Prop} {d : DefRec} {kwd : List (Str × Expr)} {N : Nat}
    (left : LeftO r.prog q loose Xt Yf Ya N) (hY : ∀ w s, Yf s = Ya w → YP w s.heap) (hYk : ∀ w h h', YP w h → (∀ b o, h.get? b = some o → h'.get? b = some o) → YP w h')
    (hX : ∀ s, Xt s = true → XP (s.heap.nsMap mainGlobals) s.heap) (hXk : ∀ mg h h', XP mg h → (∀ b o, h.get? b = some o → h'.get? b = some o) → XP mg h')
    (hdef : defOf q r.name = some (d, kwd)) (hp : r.prog.theDef r.name = some (d.params, d.body, d.scope)) (hk : kwWritten? d.params.kwonlyargs d.params.kw_defaults = some kwd) (hRf : ∀ s, Xt s = true → RecFacts r.records s.heap) (hwr : (!r.writes || r.records.isEmpty) = true)
    (k1 : r.wellSaid = true) (ok : (chainsOk q && opensWell r.prog && (frees r.toRowW && r.within.isEmpty)) = true) (hb : r.prog.bare) (hw : r.toRowW.promised)
    (call : WalkC q loose XP YP r.toRowW d kwd fun f vs => PySem.call f vs) : r.Holds := by
  refine ⟨k1, hw, openC (r := r.toRowW) (run := fun f vs => PySem.call f vs) (tree := fun vs => do match ← nsGet mainNs r.name with
      | some f => do ret (← PySem.call f vs)
      | none => unsupported "claim.caller:no-such-global") left hY hYk hX hXk hRf hwr ok hb hw
    (fun vs w s mg f Q E hg hf h => wpC_then (wpAny_nsGet hg (by rw [hf]; exact wpC_bind (wpC_mono h (fun _ _ x => wpC_pure x) fun _ _ x => x))))
    (fun w s hg G n hn => ?_) fun w s₀ s₁ mg mb G Y args vs as hpre hlay L low => ?_⟩
  · obtain rfl : n = r.name := by split at hn <;> simp_all
    exact pinned_of_view hg G hdef hp hk
  · obtain ⟨a, o, pm, cd, doc, dV, kV, h1, h2, h3, h4, h5⟩ := G.fn hdef
    exact ⟨.ref a, h1, call w s₀ s₁ mg mb G Y a o pm cd doc dV kV h2 h3 h4 h5 (defOf_name hdef ▸ h1) L.gens args vs as hpre hlay L.reads L.well (L.low low)⟩
end
end Mine.Internal

end
section
open PySem PySem.W PyProof.Rows
set_option maxRecDepth 100000
namespace Mine.Internal
noncomputable def treeL : List Obj → Nat → BT → Option BT
  | [], _, t => some t
  | o :: r, n, t => match ((t.ins n o).get n).isSome with
    | true => treeL r (n + 1) (t.ins n o)
    | false => none
theorem treeL_abs {life : Life} : ∀ {l : List Obj} {n : Nat} {t t' : BT}, treeL l n t = some t' → absHeap t' (n + l.length) life = ⟨(absHeap t n life).objs ++ l.toArray, life⟩
  | [], n, t, t', h => by
    cases h
    simp [absHeap]
  | o :: r, n, t, t', h => by
    unfold treeL at h
    cases hg : ((t.ins n o).get n).isSome with
    | false => rw [hg] at h; cases h
    | true =>
      rw [hg] at h
      have ih := treeL_abs (life := life) h
      rw [List.length_cons, show n + (r.length + 1) = n + 1 + r.length from by omega, ih, absHeap_ins hg]
      simp [Heap.push]
noncomputable def topRunT (tb : String → Option Builtin) (p : Program) (w : World) (n₀ : Nat) (ann : Option Value) : Nat → SharedT → Thread → Option SharedT
  | 0, _, _ => none
  | n + 1, s, t => match through t with
    | true => some s
    | false => match stepOk n₀ ann t with
      | false => none
      | true => match stepT (denote tb) p w s t with
        | some (s', t') => topRunT tb p w n₀ ann n s' t'
        | none => none
theorem topRunT_of {tb : String → Option Builtin} {p : Program} {w : World} {n₀ : Nat} {ann : Option Value} : ∀ {n : Nat} {s s' : SharedT} {t : Thread}, topRunT tb p w n₀ ann n s t = some s' → topRun tb p w n₀ ann n s.abs t = some s'.abs
  | 0, _, _, _, h => by cases h
  | n + 1, s, s', t, h => by
    unfold topRunT at h
    unfold topRun
    cases he : through t with
    | true => rw [he] at h; cases h; rfl
    | false =>
      rw [he] at h
      cases hk : stepOk n₀ ann t with
      | false => rw [hk] at h; cases h
      | true =>
        rw [hk] at h
        cases hs : stepT (denote tb) p w s t with
        | none => rw [hs] at h; cases h
        | some r => obtain ⟨s₂, t₂⟩ := r; rw [hs] at h; rw [stepT_spec hs]; exact topRunT_of h
noncomputable def topFromT (tb : String → Option Builtin) (p : Program) (w : World) (N : Nat) (s₀ : Shared) : Option Shared :=
  match s₀.heap.isNs mainGlobals && s₀.gens.size == 0 with
  | true => match treeL s₀.heap.objs.toList 0 .nil with
    | none => none
    | some T => match topRunT tb p w s₀.heap.objs.size (s₀.heap.nsMap mainGlobals "__annotations__") N ⟨T, s₀.heap.objs.toList.length, s₀.heap.life, s₀.gens, s₀.drawn, s₀.toks, s₀.os⟩ (topStub p) with
      | none => none
      | some sT => match staticsOk (importedModules p.main.body) s₀.heap sT.abs.heap && namesBound p sT.abs.heap && gensDone sT.abs && laidKept s₀.heap sT.abs.heap with
        | true => some sT.abs
        | false => none
  | false => none
theorem topFromT_of {tb : String → Option Builtin} {p : Program} {w : World} {N : Nat} {s₀ s : Shared} (h : topFromT tb p w N s₀ = some s) : topFrom tb p w N s₀ = some s := by
  unfold topFromT at h
  unfold topFrom
  cases h1 : (s₀.heap.isNs mainGlobals && s₀.gens.size == 0) with
  | false => rw [h1] at h; cases h
  | true =>
    rw [h1] at h
    dsimp only at h ⊢
    cases h2 : treeL s₀.heap.objs.toList 0 .nil with
    | none => rw [h2] at h; cases h
    | some T =>
      rw [h2] at h
      dsimp only at h
      have ha := treeL_abs (life := s₀.heap.life) h2
      have e0 : (SharedT.abs ⟨T, s₀.heap.objs.toList.length, s₀.heap.life, s₀.gens, s₀.drawn, s₀.toks, s₀.os⟩) = s₀ := by
        unfold SharedT.abs
        dsimp only
        rw [Nat.zero_add] at ha
        rw [ha]
        obtain ⟨⟨objs, life⟩, g, d, k, os⟩ := s₀
        simp [absHeap, BT.list]
      cases h3 : topRunT tb p w s₀.heap.objs.size (s₀.heap.nsMap mainGlobals "__annotations__") N ⟨T, s₀.heap.objs.toList.length, s₀.heap.life, s₀.gens, s₀.drawn, s₀.toks, s₀.os⟩ (topStub p) with
      | none => rw [h3] at h; cases h
      | some sT =>
        rw [h3] at h
        dsimp only at h
        have h4 := topRunT_of h3
        rw [e0] at h4
        rw [h4]
        dsimp only [Option.bind]
        cases h5 : (staticsOk (importedModules p.main.body) s₀.heap sT.abs.heap && namesBound p sT.abs.heap && gensDone sT.abs && laidKept s₀.heap sT.abs.heap) with
        | false => rw [h5] at h; cases h
        | true => rw [h5] at h; exact h
noncomputable def importT (tb : String → Option Builtin) (p : Program) (w : World) : Nat → SharedT → Thread → Option SharedT
  | 0, _, _ => none
  | n + 1, s, t => match t.atExitBegin with
    | some [] => some s
    | some (_ :: _) => none
    | none => match stepT (denote tb) p w s t with
      | some (s', t') => importT tb p w n s' t'
      | none => none
theorem importT_of {tb : String → Option Builtin} {p : Program} {w : World} : ∀ {n : Nat} {s s' : SharedT} {t : Thread}, importT tb p w n s t = some s' → importEnds tb p w n s.abs t = some s'.abs
  | 0, _, _, _, h => by cases h
  | n + 1, s, s', t, h => by
    unfold importT at h
    unfold importEnds
    cases he : t.atExitBegin with
    | some l =>
      rw [he] at h
      cases l with
      | nil => cases h; rfl
      | cons a b => cases h
    | none =>
      rw [he] at h
      cases hs : stepT (denote tb) p w s t with
      | none => rw [hs] at h; cases h
      | some r => obtain ⟨s₂, t₂⟩ := r; rw [hs] at h; dsimp only; rw [stepT_spec hs]; exact importT_of h
theorem toT {s : Shared} {T : BT} (h : treeL s.heap.objs.toList 0 .nil = some T) : (SharedT.abs ⟨T, s.heap.objs.toList.length, s.heap.life, s.gens, s.drawn, s.toks, s.os⟩) = s := by
  have ha := treeL_abs (life := s.heap.life) h
  unfold SharedT.abs
  dsimp only
  rw [Nat.zero_add] at ha
  rw [ha]
  obtain ⟨⟨objs, life⟩, g, d, k, os⟩ := s
  simp [absHeap, BT.list]
noncomputable def openT (tb : String → Option Builtin) (p : Program) (w : World) (N : Nat) : Option Shared :=
  match treeL (start (opening p)).1.heap.objs.toList 0 .nil with
  | none => none
  | some T => match importT tb (opening p) w N ⟨T, (start (opening p)).1.heap.objs.toList.length, (start (opening p)).1.heap.life, (start (opening p)).1.gens, (start (opening p)).1.drawn, (start (opening p)).1.toks, (start (opening p)).1.os⟩ (start (opening p)).2 with
    | none => none
    | some sT => match fenceModules? p sT.abs with
      | none => none
      | some s₀ => topFromT tb p w N s₀
theorem openT_of {tb : String → Option Builtin} {p : Program} {w : World} {N : Nat} {s : Shared} (h : openT tb p w N = some s) : openEnds tb p w N = some s := by
  unfold openT at h
  unfold openEnds fencedOpening
  cases h1 : treeL (start (opening p)).1.heap.objs.toList 0 .nil with
  | none => rw [h1] at h; cases h
  | some T =>
    rw [h1] at h
    dsimp only at h
    cases h2 : importT tb (opening p) w N ⟨T, (start (opening p)).1.heap.objs.toList.length, (start (opening p)).1.heap.life, (start (opening p)).1.gens, (start (opening p)).1.drawn, (start (opening p)).1.toks, (start (opening p)).1.os⟩ (start (opening p)).2 with
    | none => rw [h2] at h; cases h
    | some sT =>
      rw [h2] at h
      dsimp only at h
      have h3 := importT_of h2
      rw [toT h1] at h3
      rw [h3]
      dsimp only [Option.bind]
      cases h4 : fenceModules? p sT.abs with
      | none => rw [h4] at h; cases h
      | some s₀ => rw [h4] at h; exact topFromT_of h
theorem den_eq : denote treeTable = (PySem.W.Fast.tw11892475500146522536 PySem.W.Fast.tw14364793385576792824) := by rw [PySem.W.Fast.te11892475500146522536, PySem.W.Fast.te14364793385576792824]
noncomputable def topRunQ (p : Program) (w : World) (n₀ : Nat) (ann : Option Value) : Nat → SharedT → Thread → Option SharedT
  | 0, _, _ => none
  | n + 1, s, t => match through t with
    | true => some s
    | false => match PySem.W.Fast.tw6613529449190102663 n₀ ann t with
      | false => none
      | true => match PySem.W.Fast.tw10156331382660048174 (PySem.W.Fast.tw11892475500146522536 PySem.W.Fast.tw14364793385576792824) p w s t with
        | some (s', t') => topRunQ p w n₀ ann n s' t'
        | none => none
theorem topRunQ_eq {p : Program} {w : World} {n₀ : Nat} {ann : Option Value} : ∀ (n : Nat) (s : SharedT) (t : Thread), topRunQ p w n₀ ann n s t = topRunT treeTable p w n₀ ann n s t
  | 0, _, _ => rfl
  | n + 1, s, t => by
    unfold topRunQ topRunT
    rw [← PySem.W.Fast.te6613529449190102663, ← PySem.W.Fast.te10156331382660048174, ← den_eq]
    cases through t with
    | true => rfl
    | false =>
      dsimp only
      cases stepOk n₀ ann t with
      | false => rfl
      | true =>
        dsimp only
        cases stepT (denote treeTable) p w s t with
        | none => rfl
        | some r => exact topRunQ_eq n r.1 r.2
noncomputable def importQ (p : Program) (w : World) : Nat → SharedT → Thread → Option SharedT
  | 0, _, _ => none
  | n + 1, s, t => match PySem.W.Fast.tw3805553451399329143 t with
    | some [] => some s
    | some (_ :: _) => none
    | none => match PySem.W.Fast.tw10156331382660048174 (PySem.W.Fast.tw11892475500146522536 PySem.W.Fast.tw14364793385576792824) p w s t with
      | some (s', t') => importQ p w n s' t'
      | none => none
theorem importQ_eq {p : Program} {w : World} : ∀ (n : Nat) (s : SharedT) (t : Thread), importQ p w n s t = importT treeTable p w n s t
  | 0, _, _ => rfl
  | n + 1, s, t => by
    unfold importQ importT
    rw [← PySem.W.Fast.te3805553451399329143, ← PySem.W.Fast.te10156331382660048174, ← den_eq]
    cases t.atExitBegin with
    | some l => cases l <;> rfl
    | none =>
      dsimp only
      cases stepT (denote treeTable) p w s t with
      | none => rfl
      | some r => exact importQ_eq n r.1 r.2
noncomputable def openQ (p : Program) (w : World) (N : Nat) : Option (Shared × SharedT) :=
  match treeL (PySem.W.Fast.tw1435165496053646825 (opening p)).1.heap.objs.toList 0 .nil with
  | none => none
  | some T => match importQ (opening p) w N ⟨T, (PySem.W.Fast.tw1435165496053646825 (opening p)).1.heap.objs.toList.length, (PySem.W.Fast.tw1435165496053646825 (opening p)).1.heap.life, (PySem.W.Fast.tw1435165496053646825 (opening p)).1.gens, (PySem.W.Fast.tw1435165496053646825 (opening p)).1.drawn, (PySem.W.Fast.tw1435165496053646825 (opening p)).1.toks, (PySem.W.Fast.tw1435165496053646825 (opening p)).1.os⟩ (PySem.W.Fast.tw1435165496053646825 (opening p)).2 with
    | none => none
    | some sT => match fenceModules? p sT.abs with
      | none => none
      | some s₀ => match s₀.heap.isNs mainGlobals && s₀.gens.size == 0 with
        | true => match treeL s₀.heap.objs.toList 0 .nil with
          | none => none
          | some T => match topRunQ p w s₀.heap.objs.size (PySem.W.Fast.tw8920871248978507458 s₀.heap mainGlobals "__annotations__") N ⟨T, s₀.heap.objs.toList.length, s₀.heap.life, s₀.gens, s₀.drawn, s₀.toks, s₀.os⟩ (topStub p) with
            | none => none
            | some sT => match staticsOk (importedModules p.main.body) s₀.heap sT.abs.heap && namesBound p sT.abs.heap && gensDone sT.abs && laidKept s₀.heap sT.abs.heap with
              | true => some (s₀, sT)
              | false => none
        | false => none
theorem openQ_of {p : Program} {w : World} {N : Nat} {s₀ : Shared} {sT : SharedT} (h : openQ p w N = some (s₀, sT)) : openT treeTable p w N = some sT.abs := by
  unfold openQ at h
  rw [← PySem.W.Fast.te1435165496053646825, ← PySem.W.Fast.te8920871248978507458] at h
  unfold openT
  cases h1 : treeL (start (opening p)).1.heap.objs.toList 0 .nil with
  | none => rw [h1] at h; cases h
  | some T =>
    rw [h1] at h
    dsimp only at h ⊢
    rw [importQ_eq] at h
    cases h2 : importT treeTable (opening p) w N ⟨T, (start (opening p)).1.heap.objs.toList.length, (start (opening p)).1.heap.life, (start (opening p)).1.gens, (start (opening p)).1.drawn, (start (opening p)).1.toks, (start (opening p)).1.os⟩ (start (opening p)).2 with
    | none => rw [h2] at h; cases h
    | some sT1 =>
      rw [h2] at h
      dsimp only at h ⊢
      cases h4 : fenceModules? p sT1.abs with
      | none => rw [h4] at h; cases h
      | some s1 =>
        rw [h4] at h
        dsimp only at h ⊢
        unfold topFromT
        cases h5 : (s1.heap.isNs mainGlobals && s1.gens.size == 0) with
        | false => rw [h5] at h; cases h
        | true =>
          rw [h5] at h
          dsimp only at h ⊢
          cases h6 : treeL s1.heap.objs.toList 0 .nil with
          | none => rw [h6] at h; cases h
          | some T =>
            rw [h6] at h
            dsimp only at h ⊢
            rw [topRunQ_eq] at h
            cases h7 : topRunT treeTable p w s1.heap.objs.size (s1.heap.nsMap mainGlobals "__annotations__") N ⟨T, s1.heap.objs.toList.length, s1.heap.life, s1.gens, s1.drawn, s1.toks, s1.os⟩ (topStub p) with
            | none => rw [h7] at h; cases h
            | some sT2 =>
              rw [h7] at h
              dsimp only at h ⊢
              cases h8 : (staticsOk (importedModules p.main.body) s1.heap sT2.abs.heap && namesBound p sT2.abs.heap && gensDone sT2.abs && laidKept s1.heap sT2.abs.heap) with
              | false => rw [h8] at h; cases h
              | true =>
                rw [h8] at h
                dsimp only at h ⊢
                cases h
                rfl
theorem left_quick {p q : Program} {loose : List Str} {Xt : Shared → Bool} {α : Type} {Yf : Shared → α} {Ya : World → α} {N : Nat} {w : World}
    (h : (openQ p w N).map (fun s => (PySem.W.Fast.tw4187177175401517315 q loose (importedModules p.main.body) Xt true s.2.abs, Yf s.2.abs)) = some (openGood q loose, Ya w)) :
    (openEnds treeTable p w N).map (fun s => (openSeen q loose (importedModules p.main.body) Xt true s, Yf s)) = some (openGood q loose, Ya w) := by
  rw [← PySem.W.Fast.te4187177175401517315] at h
  obtain ⟨⟨s₀, sT⟩, h3, h4⟩ := Option.map_eq_some_iff.mp h
  rw [openT_of (openQ_of h3)]
  exact congrArg some h4
end Mine.Internal

end
section
open PySem PySem.W PyProof.Rows
set_option Elab.async false
set_option maxRecDepth 100000
namespace Mine.Internal
noncomputable def pick (l : List Stmt) : List Nat → List Stmt
  | [] => []
  | k :: r => match l[k]? with
    | some s => s :: pick l r
    | none => pick l r
noncomputable def viewQ : Program := { PySem.Challenge.rw_kl0450_03.row.prog with main := { PySem.Challenge.rw_kl0450_03.row.prog.main with body := pick PySem.Challenge.rw_kl0450_03.row.prog.main.body [0, 1, 3, 4, 5, 7, 8, 12, 13, 14, 15, 16, 17, 18, 19, 20, 22, 23, 24, 25, 26, 27, 29, 30, 31, 32, 33, 34, 35, 36] } }
noncomputable def looseQ : List Str := [Str.ofString "_dateParser", Str.ofString "_DAYS_IN_MONTH", Str.ofString "_DAYS_BEFORE_MONTH", Str.ofString "_DI400Y", Str.ofString "_DI100Y", Str.ofString "_DI4Y", Str.ofString "_monthnames", Str.ofString "_daynames", Str.ofString "_timezones"]
noncomputable def lvQ : List (Str × WData) := [(Str.ofString "_DI400Y", WData.int 146097), (Str.ofString "_DI100Y", WData.int 36524), (Str.ofString "_DI4Y", WData.int 1461)]
theorem said : PySem.Challenge.rw_kl0450_03.wellSaid = true := by
  rw [PySem.W.Fast.te9446332074065402090]
  kernel_rfl
theorem laid {r : OpenRow} {K : Params → Frag} {as : List Addr} (_e : ∀ P, as = (K P).map (·.1)) (_hw : r.toRowW.promised) (hc : r.Holds) : r.Holds := hc
section
local macro_rules | `(tactic| o_head ($_f:ident $K $as $e)) => `(tactic| refine Mine.Internal.laid (K := $K) (as := $as) $e ?hw ?hc)
local macro_rules | `(tactic| o_law) => `(tactic| refine holds_law Mine.Internal.said fun said => ?_)
set_option maxHeartbeats 8000000 in
open_top hd for PySem.Challenge.rw_kl0450_03
end
noncomputable def asQ : List Addr := [2,3,56,57,58,59,60,62,63,65,66,67,69,70,72,73,74,75,81,83,84,86,87,88,90,91,93,94,95,97,98,100,101,102,104,105,107,108,109,111,112,114,115,119,121,122,124,125,126,127,128,129,131,132,134,135,136,138,139,141,142,143,145,146,148,149,150,152,153,155,156,157,159,160,162,163,164,166,167,169,170,171,173,174,176,177,178,180,181,183,184,185,187,188,190,191,192,194,195,197,198,199,202,203]
theorem as_eq (P : Params) : asQ = (hd.heap_1 P).map (·.1) := by kernel_rfl
noncomputable abbrev hookQ : Hook := kHook (hd.heap_1) asQ as_eq
noncomputable def XtQ (s : Shared) : Bool := xlAt viewQ lvQ s && recOk (RowW.records PySem.Challenge.rw_kl0450_03.row.toRowW) s
noncomputable def NQ : Nat := 4720
theorem run_f (w : World) : (openQ PySem.Challenge.rw_kl0450_03.row.prog (w.withFollow "special-get-raises" false) NQ).map (fun s => (PySem.W.Fast.tw4187177175401517315 viewQ looseQ (importedModules PySem.Challenge.rw_kl0450_03.row.prog.main.body) XtQ true s.2.abs, hookQ.obs s.2.abs)) = some (openGood viewQ looseQ, hookQ.val (w.withFollow "special-get-raises" false)) := by kernel_rfl
theorem run_t (w : World) : (openQ PySem.Challenge.rw_kl0450_03.row.prog (w.withFollow "special-get-raises" true) NQ).map (fun s => (PySem.W.Fast.tw4187177175401517315 viewQ looseQ (importedModules PySem.Challenge.rw_kl0450_03.row.prog.main.body) XtQ true s.2.abs, hookQ.obs s.2.abs)) = some (openGood viewQ looseQ, hookQ.val (w.withFollow "special-get-raises" true)) := by kernel_rfl
theorem left : LeftO PySem.Challenge.rw_kl0450_03.row.prog viewQ looseQ XtQ hookQ.obs hookQ.val NQ := byRow2 "special-get-raises" (fun w => left_quick (run_f w)) (fun w => left_quick (run_t w))
theorem chainsQ : (chainsOk viewQ && opensWell PySem.Challenge.rw_kl0450_03.row.prog && (frees PySem.Challenge.rw_kl0450_03.row.toRowW && PySem.Challenge.rw_kl0450_03.row.toRowW.within.isEmpty)) = true := by kernel_rfl
theorem bareQ : PySem.Challenge.rw_kl0450_03.row.prog.bare := ⟨rfl, rfl, rfl, rfl, rfl, by decide +kernel⟩
theorem promisedQ : PySem.Challenge.rw_kl0450_03.row.toRowW.promised := by w_witness2
theorem hdQ {d : DefRec} {kwd : List (Str × PySem.Expr)} (hdef : defOf viewQ PySem.Challenge.rw_kl0450_03.row.name = some (d, kwd)) (hp : PySem.Challenge.rw_kl0450_03.row.prog.theDef PySem.Challenge.rw_kl0450_03.row.name = some (d.params, d.body, d.scope)) (hk : kwWritten? d.params.kwonlyargs d.params.kw_defaults = some kwd)
    (call : WalkC viewQ looseQ (XL viewQ lvQ) hookQ.says PySem.Challenge.rw_kl0450_03.row.toRowW d kwd fun f vs => PySem.call f vs) : PySem.Challenge.rw_kl0450_03.Holds :=
  holds_law said fun sd => Mine.Internal.PySem.W.holds_open (q := viewQ) (loose := looseQ) (Xt := XtQ) (XP := XL viewQ lvQ) (Yf := hookQ.obs) (Ya := hookQ.val) (YP := hookQ.says) (N := NQ) left hookQ.of hookQ.keeps (fun s e => xl_of s (Bool.and_eq_true_iff.mp e).1) XL.keeps hdef hp hk (fun s e => recFacts_of (Bool.and_eq_true_iff.mp e).2) (by rfl) sd chainsQ bareQ promisedQ call
end Mine.Internal

end
section
open PySem PySem.W PyProof.Rows PySem.Calls PySem.Spec
set_option maxRecDepth 100000
namespace Mine.Internal
structure NeA (a b : Addr) : Prop where
  out : a ≠ b
noncomputable def AllNe (d : Addr) : List (Addr × Obj) → Prop
  | [] => True
  | p :: r => NeA p.1 d ∧ AllNe d r
theorem allNe_intro {d : Addr} : ∀ {l : List (Addr × Obj)}, (∀ p ∈ l, p.1 ≠ d) → AllNe d l
  | [], _ => trivial
  | p :: _, h => ⟨⟨h p (.head _)⟩, allNe_intro fun q hq => h q (.tail _ hq)⟩
theorem AllNe.mem {d : Addr} : ∀ {l : List (Addr × Obj)}, AllNe d l → ∀ p ∈ l, p.1 ≠ d
  | [], _, _, h => nomatch h
  | q :: r, hl, p, h => by
    rcases List.mem_cons.mp h with rfl | h
    · exact hl.1.out
    · exact AllNe.mem hl.2 p h

noncomputable def LeaveF (g : Heap) (s : Shared) (args : List (Addr × Obj)) (ok : Value → List (Addr × Obj) → Prop) (v : Value) (s' : Shared) : Prop :=
  s' = { s with heap := s'.heap, toks := s'.toks } ∧ ∃ L' m' news' new, Fr g L' s'.heap m' ∧ News g L' s'.heap news' ∧ (∀ q ∈ args, q ∈ news') ∧ (∀ q ∈ new, q ∈ news') ∧ (∀ q ∈ new, ∀ p ∈ args, q.1 ≠ p.1) ∧ ok v new
theorem leaveF_intro {g h : Heap} {s : Shared} {args : List (Addr × Obj)} {ok : Value → List (Addr × Obj) → Prop} {v : Value} {tk : Nat} {L' : Addr} {m' : Str → Option Value} {news' : List (Addr × Obj)}
    (F : Fr g L' h m') (N : News g L' h news') (ha : ∀ q ∈ args, q ∈ news') (new : List (Addr × Obj)) (hn : ∀ q ∈ new, q ∈ news') (hne : ∀ q ∈ new, ∀ p ∈ args, q.1 ≠ p.1) (ho : ok v new) :
    LeaveF g s args ok v { s with heap := h, toks := tk } := ⟨rfl, L', m', news', new, F, N, ha, hn, hne, ho⟩

section
variable {prog : Program} {w : World} {A₀ A : Around} {E : Value → Shared → Prop} {s : Shared} {base h₀ : Heap} {outer : List Env} {L : Addr} {m : Str → Option Value} {env : Env} {args : List (Addr × Obj)} {K : Frag}
  {name qual : Str} {params : Arguments} {body : List Stmt} {scope : Scope} {dV kV doc pm cdv ct oc : Value} {an od : Option Addr} {osl : Array (Option Value)} {f : Addr} {vals : List Value} {binds : List (Str × Value)}
  {p : Program} {loose : List Str} {mean : ExcName → Option Value} {mg mb : Str → Option Value} {Q : Value → Shared → Prop} {news : List (Addr × Obj)} {ok : Value → List (Addr × Obj) → Prop}

theorem fn_enter (B : Below A₀ base outer h₀) (F : Fr h₀ L s.heap m) (X₀ : K.In h₀) (N : News h₀ L s.heap news) (T : Top p loose mean mg mb h₀) (hargs : ∀ q ∈ args, q ∈ news) (hA : A.frames = some (env :: outer)) (hf : env.frame = some L) (hke : env.scope.kind = .function)
    (ret : ∀ v new h' tk', Fr h₀ L h' m → News h₀ L h' (new ++ news) → (∀ q ∈ new, ∀ p ∈ news, p.1 ≠ q.1) → ok v new → Q v { s with heap := h', toks := tk' })
    (ho : K.lookup f = some ⟨oc, od, .func (fnOf name qual params body scope dV kV doc pm an cdv ct), osl⟩) (hcd : codeIn K cdv qual = true) (hroom : A.depth < recursionLimit)
    (hbind : BindsTo s (fnOf name qual params body scope dV kV doc pm an cdv ct) ⟨vals, []⟩ binds) (hloc : ∀ y ∈ binds, scope.names.lookup y.1 = some .local)
    (h : ∀ g L' h₁, Fr h₀ L g m → Fr g L' h₁ (fun y => binds.reverse.lookup y) → News g L' h₁ args → Below A base (env :: outer) g → K.In g → Top p loose mean mg mb g →
      wpAny (model prog w) (A.deeper (envOf qual scope L' f cdv)) (execs body (envOf qual scope L' f cdv))
        (fun fl s' => LeaveF g s args ok (match fl with | .ret v => v | _ => .none) s')
        (fun e s' => wpAny (model prog w) (A.deeper (envOf qual scope L' f cdv)) (leaving (envOf qual scope L' f cdv) e) (fun _ s'' => E e s'') (fun e' s'' => E e' s'') s')
        { s with heap := h₁, toks := s.toks + binds.length })
    (hco : scope.isCoroutine = false) (hgen : scope.isGenerator = false) (hk : scope.kind = .function)
    (hcell : ∀ x ∈ scope.names, x.2 ≠ .cell) : wpAny (model prog w) A (call (.ref f) vals) Q E s := by
  refine wpAny_call ?_
  have N₁ : News h₀ L s.heap args := fun q hq => N q (hargs q hq)
  obtain ⟨FG, BG, st, lv⟩ := groundX (R := fun _ _ => True) B F N₁ hA hf hke
  refine codeAny_call_def (fd := fnOf name qual params body scope dV kV doc pm an cdv ct) (body := body) (binds := binds) hroom ((X₀.keeps F.keep) _ _ ho) rfl (T.nolimit.keeps F.keep) (codeRec_of (X₀.keeps F.keep) hcd) rfl hbind hcell hloc (fun h₁ hns hk₁ => ?_) hco hgen hk
  refine wpAny_mono (h _ s.heap.objs.size h₁ FG ⟨hns, fun b o e => hk₁ b o (of_hideAll _ e), Nat.le_of_eq (hideAll_size _ _)⟩
    (fun q hq => ⟨hk₁ _ _ (N₁ q hq).1, Nat.ne_of_lt (Heap.lt_size (N₁ q hq).1), hideAll_none _ (List.mem_map_of_mem hq)⟩) BG (X₀.keeps st) (T.keeps st)) (fun fl s' hl => ?_) fun _ _ y => y
  obtain ⟨hs, L', m', news', new, F', N', ha, hn, hne, hok⟩ := hl
  rw [hs]
  have nL : L ∉ args.map (·.1) := fun q => by
    obtain ⟨p, hp, e⟩ := List.mem_map.mp q
    exact (N₁ p hp).2.1 e
  obtain ⟨oL, es, ep, hL, hLd, hLk, hLf⟩ := F.ns
  have hLg := hideAll_get (args.map (·.1)) hL nL
  have hold : ∀ q ∈ news, s'.heap.get? q.1 = some q.2 := fun q hq => by
    by_cases hm : q.1 ∈ args.map (·.1)
    · obtain ⟨q', hq', e⟩ := List.mem_map.mp hm
      have h1 := (N' q' (ha q' hq')).1
      have h2 := (N₁ q' hq').1
      rw [e] at h1 h2
      have h3 := (N q hq).1
      rw [h2] at h3
      rw [h1, h3]
    · exact F'.keep _ _ (hideAll_get _ (N q hq).1 hm)
  have hfresh : ∀ q ∈ new, ∀ p ∈ news, p.1 ≠ q.1 := fun q hq p hp e => by
    by_cases hm : p.1 ∈ args.map (·.1)
    · obtain ⟨p', hp', e'⟩ := List.mem_map.mp hm
      exact hne q hq p' hp' (by rw [e', e])
    · have := (N' q (hn q hq)).2.2
      rw [← e, hideAll_get _ (N p hp).1 hm] at this
      cases this
  refine ret _ new _ _ ⟨⟨oL, es, ep, F'.keep L oL hLg, hLd, hLk, hLf⟩, fun b o e => F'.keep b o (st b o e), F.above⟩ (fun q hq => ?_) hfresh hok
  rcases List.mem_append.mp hq with hq | hq
  · refine ⟨(N' q (hn q hq)).1, fun z => ?_, ?_⟩
    · have := (N' q (hn q hq)).2.2; rw [z, hLg] at this; cases this
    · cases z : h₀.get? q.1 with
      | none => rfl
      | some o => have := (N' q (hn q hq)).2.2; rw [st _ _ z] at this; cases this
  · exact ⟨hold q hq, (N q hq).2⟩
end

noncomputable def Fn (prog : Program) (w : World) (K : Frag) (d : Nat) (f : Addr) (args : List (Addr × Obj)) (vs : List Value) (ok : Value → List (Addr × Obj) → Prop) : Prop :=
  ∀ (p : Program) (loose : List Str) (mean : ExcName → Option Value) (mg mb : Str → Option Value) (dp un : Nat) (gd : Option (List Code)) (cn : Str) (cs : Scope) (a : Addr) (ccd : Value) (cl : List (Str × Addr)) (outer : List Env) (A₀ : Around) (base h₀ : Heap) (L : Addr) (m : Str → Option Value) (s : Shared) (Q E : Value → Shared → Prop) (news : List (Addr × Obj)),
    Below A₀ base outer h₀ → Fr h₀ L s.heap m → K.In h₀ → News h₀ L s.heap news → Top p loose mean mg mb h₀ → cs.kind = .function → (∀ q ∈ args, q ∈ news) → dp + d < recursionLimit → un + 12 * d < cLine →
    (∀ v new h' tk', Fr h₀ L h' m → News h₀ L h' (new ++ news) → (∀ q ∈ new, ∀ p ∈ news, p.1 ≠ q.1) → ok v new → Q v { s with heap := h', toks := tk' }) →
    wpAny (model prog w) (ktrTop dp un gd cn cs L a ccd cl outer) (call (.ref f) vs) Q E s
end Mine.Internal
namespace Mine.Internal
open PySem PySem.W PyProof.Rows PySem.Calls PySem.Spec
section
variable {prog : Program} {w : World} {K : Frag} {d : Nat} {f : Addr} {args : List (Addr × Obj)} {vs : List Value} {p : Program} {loose : List Str} {mean : ExcName → Option Value} {mg mb : Str → Option Value} {dp un : Nat} {gd : Option (List Code)} {cn : Str} {cs : Scope} {a : Addr} {ccd : Value} {cl : List (Str × Addr)} {outer : List Env} {A₀ : Around} {base h₀ : Heap} {L : Addr} {m : Str → Option Value} {s : Shared} {Q E : Value → Shared → Prop} {news : List (Addr × Obj)}
theorem Fn.useV {mk : Tok → Value} (C : Fn prog w K d f args vs (fun v new => new = [] ∧ ∃ t, v = mk t)) (B : Below A₀ base outer h₀) (F : Fr h₀ L s.heap m) (X : K.In h₀) (N : News h₀ L s.heap news) (T : Top p loose mean mg mb h₀) (hk : cs.kind = .function) (ha : ∀ q ∈ args, q ∈ news)
    (hd : dp + d < recursionLimit) (hu : un + 12 * d < cLine)
    (ret : ∀ t h' tk', Fr h₀ L h' m → News h₀ L h' news → Q (mk t) { s with heap := h', toks := tk' }) :
    wpAny (model prog w) (ktrTop dp un gd cn cs L a ccd cl outer) (call (.ref f) vs) Q E s := by
  refine C p loose mean mg mb dp un gd cn cs a ccd cl outer A₀ base h₀ L m s Q E news B F X N T hk ha hd hu fun v new h' tk' F' N' hne ok => ?_
  obtain ⟨rfl, t, rfl⟩ := ok
  exact ret t h' tk' F' N'
theorem Fn.useO {O : Obj → Prop} (C : Fn prog w K d f args vs (fun v new => ∃ D o, v = .ref D ∧ new = [(D, o)] ∧ O o)) (B : Below A₀ base outer h₀) (F : Fr h₀ L s.heap m) (X : K.In h₀) (N : News h₀ L s.heap news) (T : Top p loose mean mg mb h₀) (hk : cs.kind = .function) (ha : ∀ q ∈ args, q ∈ news)
    (hd : dp + d < recursionLimit) (hu : un + 12 * d < cLine)
    (ret : ∀ D o h' tk', O o → Fr h₀ L h' m → News h₀ L h' ((D, o) :: news) → AllNe D news → Q (.ref D) { s with heap := h', toks := tk' }) :
    wpAny (model prog w) (ktrTop dp un gd cn cs L a ccd cl outer) (call (.ref f) vs) Q E s := by
  refine C p loose mean mg mb dp un gd cn cs a ccd cl outer A₀ base h₀ L m s Q E news B F X N T hk ha hd hu fun v new h' tk' F' N' hne ok => ?_
  obtain ⟨D, o, rfl, rfl, ho⟩ := ok
  exact ret D o h' tk' ho F' N' (allNe_intro fun q hq => hne _ (.head _) q hq)
end
end Mine.Internal
namespace Mine.Internal
open PySem PySem.W PyProof.Rows PySem.Calls PySem.Spec
section
variable {g h : Heap} {s : Shared} {args : List (Addr × Obj)} {tk : Nat} {L' : Addr} {m' : Str → Option Value} {news' : List (Addr × Obj)}
theorem leaveF_int {x y : Int} {t : Tok} (F : Fr g L' h m') (N : News g L' h news') (ha : ∀ q ∈ args, q ∈ news') (e : x = y) :
    LeaveF g s args (fun v new => new = [] ∧ ∃ t, v = Value.int y t) (.int x t) { s with heap := h, toks := tk } := by
  subst e
  exact leaveF_intro F N ha [] (fun _ h => nomatch h) (fun _ h => nomatch h) ⟨rfl, _, rfl⟩
theorem leaveF_bool {x y : Bool} (F : Fr g L' h m') (N : News g L' h news') (ha : ∀ q ∈ args, q ∈ news') (e : x = y) :
    LeaveF g s args (fun v new => new = [] ∧ ∃ _t : Tok, v = Value.bool y) (.bool x) { s with heap := h, toks := tk } := by
  subst e
  exact leaveF_intro F N ha [] (fun _ h => nomatch h) (fun _ h => nomatch h) ⟨rfl, 0, rfl⟩
theorem leaveF_str {x y : Str} {t : Tok} (F : Fr g L' h m') (N : News g L' h news') (ha : ∀ q ∈ args, q ∈ news') (e : x = y) :
    LeaveF g s args (fun v new => new = [] ∧ ∃ t, v = Value.str y t) (.str x t) { s with heap := h, toks := tk } := by
  subst e
  exact leaveF_intro F N ha [] (fun _ h => nomatch h) (fun _ h => nomatch h) ⟨rfl, _, rfl⟩
theorem leaveF_obj {D : Addr} {o : Obj} {O : Obj → Prop} (F : Fr g L' h m') (N : News g L' h news') (ha : ∀ q ∈ args, q ∈ news') (hm : (D, o) ∈ news') (hne : ∀ p ∈ args, p.1 ≠ D) (ho : O o) :
    LeaveF g s args (fun v new => ∃ D o, v = Value.ref D ∧ new = [(D, o)] ∧ O o) (.ref D) { s with heap := h, toks := tk } :=
  leaveF_intro F N ha [(D, o)] (fun q hq => by rw [List.mem_singleton.mp hq]; exact hm) (fun q hq p hp => by rw [List.mem_singleton.mp hq]; exact (hne p hp).symm) ⟨D, o, rfl, rfl, ho⟩
end

noncomputable def leap (y : Int) : Bool := decide (y % 4 = 0) && (!decide (y % 100 = 0) || decide (y % 400 = 0))
noncomputable def dby (y : Int) : Int := (y - 1) * 365 + (y - 1) / 4 - (y - 1) / 100 + (y - 1) / 400
noncomputable def dim (y m : Int) : Int := if m = 2 then (if leap y then 29 else 28) else if m = 4 ∨ m = 6 ∨ m = 9 ∨ m = 11 then 30 else 31
noncomputable def dbm0 (m : Int) : Int := if m = 1 then 0 else if m = 2 then 31 else if m = 3 then 59 else if m = 4 then 90 else if m = 5 then 120 else if m = 6 then 151 else if m = 7 then 181 else if m = 8 then 212 else if m = 9 then 243 else if m = 10 then 273 else if m = 11 then 304 else 334
noncomputable def dbm (y m : Int) : Int := dbm0 m + (if 2 < m then (if leap y then 1 else 0) else 0)
noncomputable def first (y m : Int) : Int :=
  365 * ((12 * y + m - 3) / 12) + ((12 * y + m - 3) / 12) / 4 - ((12 * y + m - 3) / 12) / 100 + ((12 * y + m - 3) / 12) / 400 + (153 * ((12 * y + m - 3) % 12) + 2) / 5 - 305

theorem fd4 (a : Int) : a.fdiv 4 = a / 4 := Int.fdiv_eq_ediv_of_nonneg _ (by decide)
theorem fd5 (a : Int) : a.fdiv 5 = a / 5 := Int.fdiv_eq_ediv_of_nonneg _ (by decide)
theorem fd7 (a : Int) : a.fdiv 7 = a / 7 := Int.fdiv_eq_ediv_of_nonneg _ (by decide)
theorem fd12 (a : Int) : a.fdiv 12 = a / 12 := Int.fdiv_eq_ediv_of_nonneg _ (by decide)
theorem fd60 (a : Int) : a.fdiv 60 = a / 60 := Int.fdiv_eq_ediv_of_nonneg _ (by decide)
theorem fd100 (a : Int) : a.fdiv 100 = a / 100 := Int.fdiv_eq_ediv_of_nonneg _ (by decide)
theorem fd400 (a : Int) : a.fdiv 400 = a / 400 := Int.fdiv_eq_ediv_of_nonneg _ (by decide)
theorem fd365 (a : Int) : a.fdiv 365 = a / 365 := Int.fdiv_eq_ediv_of_nonneg _ (by decide)
theorem fd1461 (a : Int) : a.fdiv 1461 = a / 1461 := Int.fdiv_eq_ediv_of_nonneg _ (by decide)
theorem fd3600 (a : Int) : a.fdiv 3600 = a / 3600 := Int.fdiv_eq_ediv_of_nonneg _ (by decide)
theorem fd36524 (a : Int) : a.fdiv 36524 = a / 36524 := Int.fdiv_eq_ediv_of_nonneg _ (by decide)
theorem fd86400 (a : Int) : a.fdiv 86400 = a / 86400 := Int.fdiv_eq_ediv_of_nonneg _ (by decide)
theorem fd146097 (a : Int) : a.fdiv 146097 = a / 146097 := Int.fdiv_eq_ediv_of_nonneg _ (by decide)
theorem fm4 (a : Int) : a.fmod 4 = a % 4 := Int.fmod_eq_emod_of_nonneg _ (by decide)
theorem fm7 (a : Int) : a.fmod 7 = a % 7 := Int.fmod_eq_emod_of_nonneg _ (by decide)
theorem fm12 (a : Int) : a.fmod 12 = a % 12 := Int.fmod_eq_emod_of_nonneg _ (by decide)
theorem fm60 (a : Int) : a.fmod 60 = a % 60 := Int.fmod_eq_emod_of_nonneg _ (by decide)
theorem fm100 (a : Int) : a.fmod 100 = a % 100 := Int.fmod_eq_emod_of_nonneg _ (by decide)
theorem fm365 (a : Int) : a.fmod 365 = a % 365 := Int.fmod_eq_emod_of_nonneg _ (by decide)
theorem fm400 (a : Int) : a.fmod 400 = a % 400 := Int.fmod_eq_emod_of_nonneg _ (by decide)
theorem fm1461 (a : Int) : a.fmod 1461 = a % 1461 := Int.fmod_eq_emod_of_nonneg _ (by decide)
theorem fm36524 (a : Int) : a.fmod 36524 = a % 36524 := Int.fmod_eq_emod_of_nonneg _ (by decide)
theorem fm86400 (a : Int) : a.fmod 86400 = a % 86400 := Int.fmod_eq_emod_of_nonneg _ (by decide)
theorem fm146097 (a : Int) : a.fmod 146097 = a % 146097 := Int.fmod_eq_emod_of_nonneg _ (by decide)
end Mine.Internal

namespace Mine.Internal
open PySem PySem.W PyProof.Rows PySem.Calls PySem.Spec
noncomputable def tabOk (vs : List Value) (tab : Int → Int) (lo : Int) : Nat → Bool
  | 0 => true
  | n + 1 => (match vs[(lo + n).toNat]? with | some (.int x _) => x == tab (lo + n) | _ => false) && tabOk vs tab lo n
theorem tabOk_at {vs : List Value} {tab : Int → Int} {lo : Int} : ∀ {n : Nat}, tabOk vs tab lo n = true → ∀ {k : Int}, lo ≤ k → k < lo + n → ∃ t, vs[k.toNat]? = some (.int (tab k) t)
  | 0, _, k, h1, h2 => by omega
  | n + 1, h, k, h1, h2 => by
    rw [tabOk, Bool.and_eq_true] at h
    by_cases e : k = lo + n
    · subst e
      have := h.1
      split at this
      · rename_i x t hx
        exact ⟨t, by rw [hx, eq_of_beq this]⟩
      · cases this
    · exact tabOk_at h.2 h1 (by omega)
theorem item_tabK {prog : Program} {w : World} {A : Around} {E : Value → Shared → Prop} {s : Shared} {K : Frag} {h₀ : Heap} {L : Addr} {m : Str → Option Value} {value slice : PySem.Expr} {l : Addr} {vs : List Value} {n0 : Nat} {sl : Array (Option Value)} {k : Int} {u : Tok} {Q : Value → Shared → Prop}
    (tab : Int → Int) (lo : Int) (n : Nat) (F : Fr h₀ L s.heap m) (X : K.In h₀) (ho : K.lookup l = some ⟨.type "list", none, .seq vs.toArray n0, sl⟩) (ht : tabOk vs tab lo n = true) (h0 : 0 ≤ lo) (h1 : lo ≤ k) (h2 : k < lo + n) (hn : lo + n ≤ 1000)
    (h : ∀ t, Q (.int (tab k) t) s)
    (hs : autoParam (subscripted slice false (.ref l) (.int k u) = operate [.ref l, .int k u] (getItem (.ref l) (.int k u))) PySem.W.pickK._auto_1) :
    wpAny (model prog w) A (subscriptTail value slice (.ref l) (.int k u)) Q E s := by
  obtain ⟨t, hx⟩ := tabOk_at ht h1 h2
  have hl : s.heap.IsList l vs.toArray := ⟨_, (X.keeps F.keep) _ _ ho, rfl, n0, rfl⟩
  exact item_litK hl (by omega) (by omega) hx (h t) hs
end Mine.Internal

end
section
open PySem PySem.W PyProof.Rows PySem.Calls PySem.Spec
set_option maxRecDepth 100000
namespace Mine.Internal
theorem fd32 (a : Int) : a.fdiv (2 ^ Int.toNat 5) = a / 32 := Int.fdiv_eq_ediv_of_nonneg _ (by decide)
theorem leap_true {y : Int} : leap y = true ↔ y % 4 = 0 ∧ (y % 100 ≠ 0 ∨ y % 400 = 0) := by simp [leap]
noncomputable def lp (y : Int) : Int := (y / 4 - (y - 1) / 4) - (y / 100 - (y - 1) / 100) + (y / 400 - (y - 1) / 400)
theorem lp_def (y : Int) : lp y = (y / 4 - (y - 1) / 4) - (y / 100 - (y - 1) / 100) + (y / 400 - (y - 1) / 400) := rfl
theorem step_of (y : Int) {c : Int} (hc : 0 < c) : y / c - (y - 1) / c = if y % c = 0 then 1 else 0 := by
  have h0 := Int.emod_nonneg y (Int.ne_of_gt hc)
  have h1 := Int.emod_lt_of_pos y hc
  have h2 := Int.emod_add_mul_ediv y c
  generalize y / c = q at *
  generalize y % c = r at *
  subst h2
  split
  · rename_i e
    subst e
    rw [show 0 + c * q - 1 = (c - 1) + c * (q - 1) by rw [Int.mul_sub]; omega, Int.add_mul_ediv_left _ _ (Int.ne_of_gt hc), Int.ediv_eq_zero_of_lt (by omega) (by omega)]
    omega
  · rw [show r + c * q - 1 = (r - 1) + c * q by omega, Int.add_mul_ediv_left _ _ (Int.ne_of_gt hc), Int.ediv_eq_zero_of_lt (by omega) (by omega)]
    omega
theorem step4 (y : Int) : y / 4 - (y - 1) / 4 = if y % 4 = 0 then 1 else 0 := step_of y (by decide)
theorem step100 (y : Int) : y / 100 - (y - 1) / 100 = if y % 100 = 0 then 1 else 0 := step_of y (by decide)
theorem step400 (y : Int) : y / 400 - (y - 1) / 400 = if y % 400 = 0 then 1 else 0 := step_of y (by decide)
theorem lp_steps (y : Int) : lp y = (if y % 4 = 0 then 1 else 0) - (if y % 100 = 0 then 1 else 0) + (if y % 400 = 0 then 1 else 0) := by
  rw [lp_def, step4, step100, step400]
theorem m100 {y : Int} (h : y % 100 = 0) : y % 4 = 0 := by omega
theorem m400 {y : Int} (h : y % 400 = 0) : y % 100 = 0 := by omega
theorem lp_of (y : Int) : (if leap y = true then (1 : Int) else 0) = lp y := by
  rw [lp_steps]
  by_cases h4 : y % 4 = 0
  · by_cases h100 : y % 100 = 0
    · by_cases h400 : y % 400 = 0
      · rw [if_pos (leap_true.mpr ⟨h4, .inr h400⟩), if_pos h4, if_pos h100, if_pos h400]; rfl
      · rw [if_neg (fun q => (leap_true.mp q).2.elim (fun z => z h100) h400), if_pos h4, if_pos h100, if_neg h400]; rfl
    · rw [if_pos (leap_true.mpr ⟨h4, .inl h100⟩), if_pos h4, if_neg h100, if_neg (fun z => h100 (m400 z))]; rfl
  · rw [if_neg (fun q => h4 (leap_true.mp q).1), if_neg h4, if_neg (fun z => h4 (m100 z)), if_neg (fun z => h4 (m100 (m400 z)))]; rfl
theorem lp_true {y : Int} (h : leap y = true) : lp y = 1 := by rw [← lp_of, if_pos h]
theorem lp_false {y : Int} (h : leap y = false) : lp y = 0 := by rw [← lp_of, if_neg (by rw [h]; exact Bool.false_ne_true)]
theorem lp_or (y : Int) : lp y = 0 ∨ lp y = 1 := by
  cases h : leap y with
  | true => exact .inr (lp_true h)
  | false => exact .inl (lp_false h)
noncomputable def dimT (m : Int) : Int := 30 + (m + m / 8) % 2 - 2 * ((m + 10) / 12 - (m + 9) / 12)
noncomputable def dbmT (m : Int) : Int := (367 * m - 362) / 12 - 2 * ((m + 9) / 12)
theorem monthsN : ∀ k : Nat, k < 13 → 1 ≤ k → (k : Int) = 1 ∨ (k : Int) = 2 ∨ (k : Int) = 3 ∨ (k : Int) = 4 ∨ (k : Int) = 5 ∨ (k : Int) = 6 ∨ (k : Int) = 7 ∨ (k : Int) = 8 ∨ (k : Int) = 9 ∨ (k : Int) = 10 ∨ (k : Int) = 11 ∨ (k : Int) = 12 := by decide +kernel
theorem monthN {P : Int → Prop} (h : ∀ k : Nat, k < 13 → 1 ≤ k → P k) {m : Int} (hm : 1 ≤ m ∧ m ≤ 12) : P m := by
  obtain ⟨k, rfl⟩ := Int.eq_ofNat_of_zero_le (Int.le_trans (by decide) hm.1)
  exact h k (by omega) (by omega)
theorem months {m : Int} (h : 1 ≤ m ∧ m ≤ 12) : m = 1 ∨ m = 2 ∨ m = 3 ∨ m = 4 ∨ m = 5 ∨ m = 6 ∨ m = 7 ∨ m = 8 ∨ m = 9 ∨ m = 10 ∨ m = 11 ∨ m = 12 := monthN (P := fun m => m = 1 ∨ m = 2 ∨ m = 3 ∨ m = 4 ∨ m = 5 ∨ m = 6 ∨ m = 7 ∨ m = 8 ∨ m = 9 ∨ m = 10 ∨ m = 11 ∨ m = 12) monthsN h
theorem dim_T : ∀ k : Nat, k < 13 → 1 ≤ k → (k : Int) ≠ 2 → (if (k : Int) = 4 ∨ (k : Int) = 6 ∨ (k : Int) = 9 ∨ (k : Int) = 11 then (30 : Int) else 31) = dimT k := by decide +kernel
theorem dbm_T : ∀ k : Nat, k < 13 → 1 ≤ k → dbm0 k = dbmT k := by decide +kernel
theorem dim_eq {y m : Int} (h : 1 ≤ m ∧ m ≤ 12) : dim y m = dimT m + (if m = 2 then lp y else 0) := by
  unfold dim
  by_cases e : m = 2
  · subst e
    rw [if_pos rfl, if_pos rfl, ← lp_of]
    split <;> rfl
  · rw [if_neg e, if_neg e, Int.add_zero]
    exact monthN (P := fun m => m ≠ 2 → (if m = 4 ∨ m = 6 ∨ m = 9 ∨ m = 11 then (30 : Int) else 31) = dimT m) dim_T h e
theorem dbm_eq {y m : Int} (h : 1 ≤ m ∧ m ≤ 12) : dbm y m = dbmT m + (if 2 < m then lp y else 0) := by
  unfold dbm
  rw [lp_of y, monthN (P := fun m => dbm0 m = dbmT m) dbm_T h]
noncomputable def hiT (m : Int) : Int := (153 * (m - 3) + 2) / 5 - 305
noncomputable def loT (m : Int) : Int := (153 * (m + 9) + 2) / 5 - 305
noncomputable def yrs (y : Int) : Int := 365 * y + y / 4 - y / 100 + y / 400
theorem first_hi {y m : Int} (h1 : 3 ≤ m) (h2 : m ≤ 14) : first y m = yrs y + hiT m := by
  have e1 : (12 * y + m - 3) / 12 = y := by omega
  have e2 : (12 * y + m - 3) % 12 = m - 3 := by omega
  unfold first
  rw [e1, e2]
  exact Int.add_sub_assoc ..
theorem first_lo {y m : Int} (h1 : 1 ≤ m) (h2 : m ≤ 2) : first y m = yrs (y - 1) + loT m := by
  have e1 : (12 * y + m - 3) / 12 = y - 1 := by omega
  have e2 : (12 * y + m - 3) % 12 = m + 9 := by omega
  unfold first
  rw [e1, e2]
  exact Int.add_sub_assoc ..
theorem dby_yrs (y : Int) : dby y = yrs (y - 1) := by unfold dby yrs; rw [Int.mul_comm]
theorem yrs_step (y : Int) : yrs y = yrs (y - 1) + 365 + lp y := by
  rw [lp_def]
  unfold yrs
  generalize y / 4 = a
  generalize y / 100 = b
  generalize y / 400 = c
  generalize (y - 1) / 4 = a'
  generalize (y - 1) / 100 = b'
  generalize (y - 1) / 400 = c'
  omega
theorem hi_dbm : ∀ k : Nat, k < 13 → 1 ≤ k → 3 ≤ (k : Int) → hiT k + 364 = dbmT k := by decide +kernel
theorem lo_dbm : ∀ k : Nat, k < 13 → 1 ≤ k → (k : Int) ≤ 2 → loT k = dbmT k + 1 := by decide +kernel
theorem hi_dim : ∀ k : Nat, k < 13 → 1 ≤ k → 3 ≤ (k : Int) → hiT (k + 1) = hiT k + dimT k := by decide +kernel
theorem first_eq {y m : Int} (h : 1 ≤ m ∧ m ≤ 12) : first y m = dby y + dbm y m + 1 := by
  rw [dbm_eq h, dby_yrs]
  by_cases c : 3 ≤ m
  · have ht := monthN (P := fun m => 3 ≤ m → hiT m + 364 = dbmT m) hi_dbm h c
    rw [first_hi c (by omega), yrs_step y, if_pos (by omega)]
    omega
  · have ht := monthN (P := fun m => m ≤ 2 → loT m = dbmT m + 1) lo_dbm h (by omega)
    rw [first_lo h.1 (by omega), if_neg (by omega)]
    omega
theorem first_next {y m : Int} (h : 1 ≤ m ∧ m ≤ 12) : first y (m + 1) = first y m + dim y m := by
  rw [dim_eq h]
  by_cases c : 3 ≤ m
  · have ht := monthN (P := fun m => 3 ≤ m → hiT (m + 1) = hiT m + dimT m) hi_dim h c
    rw [first_hi c (by omega), first_hi (by omega) (by omega), if_neg (by omega)]
    omega
  · by_cases e : m = 2
    · subst e
      rw [first_lo (m := 2) (by decide) (by decide), if_pos rfl, show (2 : Int) + 1 = 3 from rfl, first_hi (by decide) (by decide), yrs_step y]
      have e1 : hiT 3 = -305 := by decide
      have e2 : loT 2 = 32 := by decide
      have e3 : dimT 2 = 28 := by decide
      omega
    · have e : m = 1 := by omega
      subst e
      rw [first_lo (m := 1) (by decide) (by decide), if_neg (by decide), show (1 : Int) + 1 = 2 from rfl, first_lo (m := 2) (by decide) (by decide)]
      have e1 : loT 1 = 1 := by decide
      have e2 : loT 2 = 32 := by decide
      have e3 : dimT 1 = 31 := by decide
      omega
structure Valid (y m d : Int) : Prop where
  m1 : 1 ≤ m
  m2 : m ≤ 12
  d1 : 1 ≤ d
  d2 : d ≤ dim y m
noncomputable def firstK (k : Int) : Int := 365 * (k / 12) + k / 12 / 4 - k / 12 / 100 + k / 12 / 400 + (153 * (k % 12) + 2) / 5 - 305
theorem first_K (y m : Int) : first y m = firstK (12 * y + m - 3) := rfl
theorem kT : ∀ k : Nat, k < 11 → (153 * (k : Int) + 2) / 5 ≤ (153 * ((k : Int) + 1) + 2) / 5 := by decide +kernel
theorem yrs_up (t : Int) : yrs t + 337 ≤ yrs (t + 1) := by
  have h1 : t / 4 ≤ (t + 1) / 4 := Int.ediv_le_ediv (by decide) (by omega)
  have h2 : (t + 1) / 100 ≤ t / 100 + 1 := by omega
  have h3 : t / 400 ≤ (t + 1) / 400 := Int.ediv_le_ediv (by decide) (by omega)
  unfold yrs
  revert h1 h2 h3
  generalize t / 4 = a
  generalize t / 100 = b
  generalize t / 400 = c
  generalize (t + 1) / 4 = a'
  generalize (t + 1) / 100 = b'
  generalize (t + 1) / 400 = c'
  omega
theorem firstK_yrs (k : Int) : firstK k = yrs (k / 12) + ((153 * (k % 12) + 2) / 5 - 305) := Int.add_sub_assoc ..
theorem firstK_succ (k : Int) : firstK k ≤ firstK (k + 1) := by
  rw [firstK_yrs, firstK_yrs]
  by_cases h : k % 12 = 11
  · have h1 : (k + 1) / 12 = k / 12 + 1 := by omega
    have h2 : (k + 1) % 12 = 0 := by omega
    rw [h1, h2, h]
    have := yrs_up (k / 12)
    have e1 : (153 * (11 : Int) + 2) / 5 = 337 := by decide
    have e2 : (153 * (0 : Int) + 2) / 5 = 0 := by decide
    rw [e1, e2]
    revert this
    generalize yrs (k / 12) = u
    generalize yrs (k / 12 + 1) = v
    omega
  · have h1 : (k + 1) / 12 = k / 12 := by omega
    have h2 : (k + 1) % 12 = k % 12 + 1 := by omega
    rw [h1, h2]
    have h0 : 0 ≤ k % 12 := Int.emod_nonneg _ (by decide)
    have hu : k % 12 < 12 := Int.emod_lt_of_pos _ (by decide)
    revert h0 hu h
    generalize k % 12 = r
    intro h h0 hu
    obtain ⟨n, rfl⟩ := Int.eq_ofNat_of_zero_le h0
    exact Int.add_le_add_left (Int.sub_le_sub_right (kT n (by omega)) _) _
theorem firstK_mono (k : Int) (n : Nat) : firstK k ≤ firstK (k + n) := by
  induction n with
  | zero => simp
  | succ n ih =>
    have := firstK_succ (k + n)
    have e : k + ((n + 1 : Nat) : Int) = k + n + 1 := by omega
    rw [e]; omega
theorem firstK_le {k k' : Int} (h : k ≤ k') : firstK k ≤ firstK k' := by
  have := firstK_mono k (k' - k).toNat
  have e : k + ((k' - k).toNat : Int) = k' := by omega
  rwa [e] at this
theorem date_lt {y m d y' m' d' : Int} (v : Valid y m d) (v' : Valid y' m' d') (h : 12 * y + m < 12 * y' + m') : first y m + d < first y' m' + d' := by
  have h1 := first_next (y := y) ⟨v.m1, v.m2⟩
  have h2 : first y (m + 1) ≤ first y' m' := by
    rw [first_K, first_K]; exact firstK_le (by omega)
  have := v.d2
  have := v'.d1
  omega
theorem date_uniq {y m d y' m' d' : Int} (v : Valid y m d) (v' : Valid y' m' d') (h : first y m + d = first y' m' + d') : y = y' ∧ m = m' ∧ d = d' := by
  have := v.m1; have := v.m2; have := v'.m1; have := v'.m2
  by_cases h1 : 12 * y + m < 12 * y' + m'
  · have := date_lt v v' h1; omega
  · by_cases h2 : 12 * y' + m' < 12 * y + m
    · have := date_lt v' v h2; omega
    · have e : y = y' ∧ m = m' := by omega
      obtain ⟨rfl, rfl⟩ := e
      exact ⟨rfl, rfl, by omega⟩
end Mine.Internal
namespace Mine.Internal
theorem lp_parts {a b c e : Int} (hb : 0 ≤ b ∧ b ≤ 3) (hc : 0 ≤ c ∧ c ≤ 24) (he : 0 ≤ e ∧ e ≤ 3) : lp (a * 400 + 1 + (b * 100 + c * 4 + e)) = (if e = 3 ∧ (c ≠ 24 ∨ b = 3) then 1 else 0) := by
  rw [lp_steps]
  by_cases h3 : e = 3
  · subst h3
    rw [if_pos (show (a * 400 + 1 + (b * 100 + c * 4 + 3)) % 4 = 0 by omega)]
    by_cases h24 : c = 24
    · subst h24
      rw [if_pos (show (a * 400 + 1 + (b * 100 + 24 * 4 + 3)) % 100 = 0 by omega)]
      by_cases hb3 : b = 3
      · subst hb3
        rw [if_pos (show (a * 400 + 1 + (3 * 100 + 24 * 4 + 3)) % 400 = 0 by omega), if_pos ⟨rfl, .inr rfl⟩]; rfl
      · rw [if_neg (show ¬ (a * 400 + 1 + (b * 100 + 24 * 4 + 3)) % 400 = 0 by omega), if_neg (fun q => q.2.elim (fun z => z rfl) hb3)]; rfl
    · rw [if_neg (show ¬ (a * 400 + 1 + (b * 100 + c * 4 + 3)) % 100 = 0 by omega), if_neg (fun z => absurd (m400 z) (by omega)), if_pos ⟨rfl, .inl h24⟩]; rfl
  · have h4 : ¬ (a * 400 + 1 + (b * 100 + c * 4 + e)) % 4 = 0 := by omega
    rw [if_neg h4, if_neg (fun z => h4 (m100 z)), if_neg (fun z => h4 (m100 (m400 z))), if_neg (fun q => h3 q.1)]; rfl
end Mine.Internal
namespace Mine.Internal
structure DivMod (a b q r : Int) : Prop where
  q : a.fdiv b = q
  r : a.fmod b = r
theorem divmod_ex (x k : Int) (hk : 0 < k) : ∃ q r, DivMod x k q r ∧ x = k * q + r ∧ 0 ≤ r ∧ r < k := by
  refine ⟨x.fdiv k, x.fmod k, ⟨rfl, rfl⟩, ?_, ?_, ?_⟩
  · rw [Int.fdiv_eq_ediv_of_nonneg _ (Int.le_of_lt hk), Int.fmod_eq_emod_of_nonneg _ (Int.le_of_lt hk)]; exact (Int.mul_ediv_add_emod x k).symm
  · rw [Int.fmod_eq_emod_of_nonneg _ (Int.le_of_lt hk)]; exact Int.emod_nonneg _ (by omega)
  · rw [Int.fmod_eq_emod_of_nonneg _ (Int.le_of_lt hk)]; exact Int.emod_lt_of_pos _ hk
theorem ord_start (n : Int) : ∃ a b c e r r1 r2 r3 : Int, DivMod (n - 1) 146097 a r1 ∧ DivMod r1 36524 b r2 ∧ DivMod r2 1461 c r3 ∧ DivMod r3 365 e r ∧ n - 1 = 146097 * a + 36524 * b + 1461 * c + 365 * e + r ∧ 0 ≤ b ∧ b ≤ 4 ∧ 0 ≤ c ∧ c ≤ 24 ∧ 0 ≤ e ∧ e ≤ 4 ∧ 0 ≤ r ∧ r < 365 ∧ (b = 4 → c = 0 ∧ e = 0 ∧ r = 0) ∧ (e = 4 → r = 0 ∧ (c = 24 → b = 3)) := by
  obtain ⟨a, r1, D1, e1, l1, u1⟩ := divmod_ex (n - 1) 146097 (by decide)
  obtain ⟨b, r2, D2, e2, l2, u2⟩ := divmod_ex r1 36524 (by decide)
  obtain ⟨c, r3, D3, e3, l3, u3⟩ := divmod_ex r2 1461 (by decide)
  obtain ⟨e, r, D4, e4, l4, u4⟩ := divmod_ex r3 365 (by decide)
  refine ⟨a, b, c, e, r, r1, r2, r3, D1, D2, D3, D4, by omega, ?_, ?_, ?_, ?_, ?_, ?_, l4, u4, ?_, ?_⟩
  · clear e1 e3 e4 u1; omega
  · clear e1 e3 e4 l1; omega
  · clear e1 e2 e4; omega
  · clear e1 e2 e4; omega
  · clear e1 e2 e3; omega
  · clear e1 e2 e3; omega
  · intro h; clear e1; omega
  · intro h; clear e1 e2; omega
theorem leap_parts {a b c e : Int} (hb : 0 ≤ b ∧ b ≤ 4) (hc : 0 ≤ c ∧ c ≤ 24) (he : 0 ≤ e ∧ e ≤ 4) (h4 : b ≠ 4) (h5 : e ≠ 4) : leap (a * 400 + 1 + (b * 100 + c * 4 + e)) = (e == 3 && (c != 24 || b == 3)) := by
  have h := lp_parts (a := a) (b := b) (c := c) (e := e) (by omega) (by omega) (by omega)
  cases z : leap (a * 400 + 1 + (b * 100 + c * 4 + e)) with
  | true =>
    rw [lp_true z] at h
    have q : e = 3 ∧ (c ≠ 24 ∨ b = 3) := by
      by_cases q : e = 3 ∧ (c ≠ 24 ∨ b = 3)
      · exact q
      · rw [if_neg q] at h; cases h
    obtain ⟨rfl, q2⟩ := q
    rcases q2 with q2 | rfl
    · simp [bne, q2]
    · simp
  | false =>
    rw [lp_false z] at h
    have q : ¬ (e = 3 ∧ (c ≠ 24 ∨ b = 3)) := fun q => by rw [if_pos q] at h; cases h
    symm
    rw [Bool.and_eq_false_iff]
    by_cases q1 : e = 3
    · right
      rw [Bool.or_eq_false_iff]
      have : c = 24 ∧ b ≠ 3 := by omega
      exact ⟨by simp [bne, this.1], by simpa using this.2⟩
    · left; simpa using q1
end Mine.Internal
namespace Mine.Internal
end Mine.Internal
namespace Mine.Internal
structure Hid (P : Prop) : Prop where
  out : P
end Mine.Internal
namespace Mine.Internal
theorem divmod_by' {prog : Program} {w : World} {A : Around} {E : Value → Shared → Prop} {s : Shared} {a b q r : Int} {t u : Tok} {Q : Value → Shared → Prop} {h₀ : Heap} {L : Addr} {m : Str → Option Value} {news : List (Addr × Obj)} (D : DivMod a b q r) (F : Fr h₀ L s.heap m) (N : News h₀ L s.heap news) (hb : b ≠ 0) (hb' : b.natAbs < 1073741824)
    (h : ∀ h', Fr h₀ L h' m → News h₀ L h' ((s.heap.objs.size, { cls := .type "tuple", data := .seq #[.int q s.toks, .int r (s.toks + 1)] }) :: news) →
      Q (.ref s.heap.objs.size) { s with toks := s.toks + 1 + 1, heap := h' }) :
    wpAny (model prog w) A (call (.builtin "divmod") [.int a t, .int b u]) Q E s := by
  obtain ⟨rfl, rfl⟩ := D
  exact divmod_N F N hb h (.inl (PyProof.noPylong_small hb'))
theorem dby_parts {a b c e : Int} (hb : 0 ≤ b ∧ b ≤ 3) (hc : 0 ≤ c ∧ c ≤ 24) (he : 0 ≤ e ∧ e ≤ 3) : dby (a * 400 + 1 + (b * 100 + c * 4 + e)) = 146097 * a + 36524 * b + 1461 * c + 365 * e := by
  unfold dby; omega
theorem ord_last {n a b c e r : Int} (hb : 0 ≤ b ∧ b ≤ 4) (hc : 0 ≤ c ∧ c ≤ 24) (he : 0 ≤ e ∧ e ≤ 4) (h4 : b = 4 → c = 0 ∧ e = 0 ∧ r = 0) (h5 : e = 4 → r = 0 ∧ (c = 24 → b = 3)) (h : e = 4 ∨ b = 4)
    (hn : n - 1 = 146097 * a + 36524 * b + 1461 * c + 365 * e + r) : Valid (a * 400 + 1 + (b * 100 + c * 4 + e) - 1) 12 31 ∧ first (a * 400 + 1 + (b * 100 + c * 4 + e) - 1) 12 + 31 - 1 = n := by
  have q : ∃ a' b' c' : Int, (0 ≤ b' ∧ b' ≤ 3) ∧ (0 ≤ c' ∧ c' ≤ 24) ∧ a * 400 + 1 + (b * 100 + c * 4 + e) = a' * 400 + 1 + (b' * 100 + c' * 4 + 0) ∧ n = 146097 * a' + 36524 * b' + 1461 * c' + 365 * 0 := by
    by_cases hb4 : b = 4
    · obtain ⟨rfl, rfl, rfl⟩ := h4 hb4
      subst hb4
      clear h4 h5 h hb hc he
      exact ⟨a + 1, 0, 0, by decide, by decide, by omega, by omega⟩
    · have he4 : e = 4 := h.resolve_right hb4
      obtain ⟨rfl, hc24⟩ := h5 he4
      subst he4
      clear h4 h5 h he
      by_cases h24 : c = 24
      · obtain rfl := hc24 h24
        subst h24
        clear hb hc hb4 hc24
        exact ⟨a + 1, 0, 0, by decide, by decide, by omega, by omega⟩
      · clear hc24
        refine ⟨a, b, c + 1, ⟨hb.1, Int.le_of_lt_add_one (Int.lt_iff_le_and_ne.mpr ⟨hb.2, hb4⟩)⟩, ⟨?_, ?_⟩, ?_, ?_⟩
        · clear hn hb hb4 h24; omega
        · clear hn hb hb4; omega
        · clear hn hb hb4 hc h24; omega
        · clear hb hb4 hc h24; omega
  clear h4 h5 h hn hb hc he
  obtain ⟨a', b', c', hb, hc, q1, q2⟩ := q
  refine ⟨⟨by decide, by decide, by decide, by rw [dim_eq (by decide)]; exact Int.le_refl _⟩, ?_⟩
  have hd := dby_parts (a := a') (b := b') (c := c') (e := 0) hb hc (by decide)
  rw [← q1, dby_yrs, ← q2] at hd
  rw [first_hi (by decide) (by decide), hd]
  have eT : hiT 12 = -30 := by decide
  rw [eT]
  clear hd q1 q2 hb hc eT
  omega
open PyProof in
theorem add_ib {prog : Program} {w : World} {A : Around} {E : Value → Shared → Prop} {s : Shared} {x : Int} {b : Bool} {t : Tok} {Q : Value → Shared → Prop}
    (h : ∀ z : Int, 0 ≤ z → z ≤ 1 → Hid (z = if b = true then 1 else 0) → Q (.int (x + z) s.toks) { s with toks := s.toks + 1 }) :
    wpAny (model prog w) A (binaryOp .Add (.int x t) (.bool b)) Q E s := by
  refine add_int_bool ?_
  exact h _ (by split <;> omega) (by split <;> omega) ⟨rfl⟩
end Mine.Internal
namespace Mine.Internal
structure JoinB (X Y : Bool) : Prop where
  out : X = Y
theorem join_bool {M : Model} {A : Around} {t : Sem Value} {Q E : Value → Shared → Prop} {s : Shared} {X Y : Bool} (J : JoinB X Y)
    (h1 : wpAny M A t (fun v s' => v = .bool Y ∧ ∃ tk, s' = { s with toks := tk }) E s) (h2 : ∀ tk, Q (.bool X) { s with toks := tk }) : wpAny M A t Q E s := by
  obtain ⟨rfl⟩ := J
  refine wpAny_mono h1 (fun v s' h => ?_) fun _ _ h => h
  obtain ⟨rfl, tk, rfl⟩ := h
  exact h2 tk
end Mine.Internal
namespace Mine.Internal
theorem lp_is {y : Int} {X : Bool} (h : leap y = X) : lp y = if X = true then 1 else 0 := by rw [← lp_of, h]
end Mine.Internal
namespace Mine.Internal
end Mine.Internal
namespace Mine.Internal
end Mine.Internal
namespace Mine.Internal
theorem dim_facts2 (y m : Int) (h : 1 ≤ m ∧ m ≤ 12) : (m = 2 → dim y m = dimT m + lp y) ∧ (m ≠ 2 → dim y m = dimT m) :=
  ⟨fun e => by rw [dim_eq h, if_pos e], fun e => by rw [dim_eq h, if_neg e]; omega⟩
end Mine.Internal
namespace Mine.Internal
end Mine.Internal
namespace Mine.Internal
structure Row (y m d h mi sc : Int) : Prop where
  hm : 1 ≤ m ∧ m ≤ 12
  hy : 101 ≤ y ∧ y ≤ 9998
  hd : 0 ≤ d ∧ d ≤ 39
  hh : 0 ≤ h ∧ h ≤ 29
  hmi : 0 ≤ mi ∧ mi ≤ 69
  hs : 0 ≤ sc ∧ sc ≤ 69
structure Car (y m d h mi sc y2 m2 d2 h2 mi2 sc2 : Int) : Prop where
  v : Valid y2 m2 d2
  hy : 100 ≤ y2 ∧ y2 ≤ 9999
  hh : 0 ≤ h2 ∧ h2 ≤ 23
  hmi : 0 ≤ mi2 ∧ mi2 ≤ 59
  hs : 0 ≤ sc2 ∧ sc2 ≤ 59
  sum : (first y2 m2 + d2 - 1) * 86400 + h2 * 3600 + mi2 * 60 + sc2 = (first y m + d - 1) * 86400 + h * 3600 + mi * 60 + sc
end Mine.Internal
namespace Mine.Internal
theorem fmod_rng (a b : Int) (hb : 0 < b) : 0 ≤ a.fmod b ∧ a.fmod b < b := by
  rw [Int.fmod_eq_emod_of_nonneg _ (Int.le_of_lt hb)]
  exact ⟨Int.emod_nonneg _ (by omega), Int.emod_lt_of_pos _ hb⟩
end Mine.Internal
namespace Mine.Internal
theorem dim_rngT : ∀ k : Nat, k < 13 → 1 ≤ k → 28 ≤ dimT k ∧ dimT k ≤ 31 ∧ ((k : Int) = 2 → dimT k = 28) := by decide +kernel
theorem dim_rng {y m : Int} (h : 1 ≤ m ∧ m ≤ 12) : 28 ≤ dim y m ∧ dim y m ≤ 31 := by
  have hl := lp_or y
  have ht := monthN (P := fun m => 28 ≤ dimT m ∧ dimT m ≤ 31 ∧ (m = 2 → dimT m = 28)) dim_rngT h
  rw [dim_eq h]
  split <;> omega
section
variable {y m d h mi sc h2 mi2 sc2 day : Int} (r : Row y m d h mi sc) (e : day * 86400 + h2 * 3600 + mi2 * 60 + sc2 = d * 86400 + h * 3600 + mi * 60 + sc) (h1 : 0 ≤ h2 ∧ h2 ≤ 23) (h3 : 0 ≤ mi2 ∧ mi2 ≤ 59) (h4 : 0 ≤ sc2 ∧ sc2 ≤ 59) (h5 : 0 ≤ day ∧ day ≤ 40)
include r e h1 h3 h4 h5
end
end Mine.Internal
namespace Mine.Internal
noncomputable def OrdOk (r l M : Int) : Prop := 1 ≤ M ∧ M ≤ 12 ∧ (2 < M → dbmT M + l ≤ r → r - (dbmT M + l) < dimT M) ∧ (M ≤ 2 → dbmT M ≤ r → r - dbmT M < dimT M + (if M = 2 then l else 0)) ∧
  (2 < M → r < dbmT M + l → M - 1 = 2 → dbmT M + l - (dimT (M - 1) + l) = dbmT (M - 1) ∧ dbmT (M - 1) ≤ r ∧ dbmT M = dbmT (M - 1) + dimT (M - 1)) ∧
  (2 < M → r < dbmT M + l → M - 1 ≠ 2 → dbmT M + l - dimT (M - 1) = dbmT (M - 1) + l ∧ dbmT (M - 1) + l ≤ r) ∧
  (M ≤ 2 → r < dbmT M → M = 2 ∧ dbmT M - dimT (M - 1) = dbmT (M - 1) ∧ dbmT (M - 1) ≤ r)
noncomputable def okA (r l M : Int) : Prop := (1 ≤ M ∧ M ≤ 12) ∧ (2 < M → dbmT M + l ≤ r → r - (dbmT M + l) < dimT M) ∧ (M ≤ 2 → dbmT M ≤ r → r - dbmT M < dimT M + (if M = 2 then l else 0))
noncomputable def okAd (r l M : Int) : Decidable (okA r l M) := by unfold okA; infer_instance
noncomputable def okB (r l M : Int) : Prop := (2 < M → r < dbmT M + l → M - 1 = 2 → dbmT M + l - (dimT (M - 1) + l) = dbmT (M - 1) ∧ dbmT (M - 1) ≤ r ∧ dbmT M = dbmT (M - 1) + dimT (M - 1))
noncomputable def okBd (r l M : Int) : Decidable (okB r l M) := by unfold okB; infer_instance
noncomputable def okC (r l M : Int) : Prop := (2 < M → r < dbmT M + l → M - 1 ≠ 2 → dbmT M + l - dimT (M - 1) = dbmT (M - 1) + l ∧ dbmT (M - 1) + l ≤ r)
noncomputable def okCd (r l M : Int) : Decidable (okC r l M) := by unfold okC; infer_instance
noncomputable def okD (r l M : Int) : Prop := (M ≤ 2 → r < dbmT M → M = 2 ∧ dbmT M - dimT (M - 1) = dbmT (M - 1) ∧ dbmT (M - 1) ≤ r)
noncomputable def okDd (r l M : Int) : Decidable (okD r l M) := by unfold okD; infer_instance
noncomputable def ordOk (r l M : Int) : Bool := @decide _ (okAd r l M) && (@decide _ (okBd r l M) && (@decide _ (okCd r l M) && @decide _ (okDd r l M)))
theorem ordOk_to {r l M : Int} (h : ordOk r l M = true) : OrdOk r l M := by
  unfold ordOk at h
  rw [Bool.and_eq_true, Bool.and_eq_true, Bool.and_eq_true] at h
  have hA : okA r l M := @of_decide_eq_true _ (okAd r l M) h.1
  have hB : okB r l M := @of_decide_eq_true _ (okBd r l M) h.2.1
  have hC : okC r l M := @of_decide_eq_true _ (okCd r l M) h.2.2.1
  have hD : okD r l M := @of_decide_eq_true _ (okDd r l M) h.2.2.2
  exact ⟨hA.1.1, hA.1.2, hA.2.1, hA.2.2, hB, hC, hD⟩
theorem ordTab : ∀ k : Nat, k < 365 → ∀ l : Nat, l < 2 → ordOk k l (((k : Int) + 50) / 32) = true := by decide +kernel
theorem ord_tab {r l : Int} (h0 : 0 ≤ r) (h1 : r < 365) (hl : l = 0 ∨ l = 1) : OrdOk r l ((r + 50).fdiv (2 ^ Int.toNat 5)) := by
  rw [fd32]
  obtain ⟨k, rfl⟩ := Int.eq_ofNat_of_zero_le h0
  rcases hl with rfl | rfl
  · exact ordOk_to (ordTab k (by omega) 0 (by decide))
  · exact ordOk_to (ordTab k (by omega) 1 (by decide))
structure OrdFin (Y n r M P : Int) : Prop where
  lo : 0 ≤ r - P
  hi : r - P < dim Y M
  v : Valid Y M (r - P + 1) ∧ first Y M + (r - P + 1) - 1 = n
structure OrdCtx (Y n r : Int) (X : Bool) (M : Int) : Prop where
  yr : n - 1 = dby Y + r
  lpX : leap Y = X
  ok : OrdOk r (lp Y) M
theorem ordCtx {n a b c e r M : Int} {X : Bool} (hb : 0 ≤ b ∧ b ≤ 3) (hc : 0 ≤ c ∧ c ≤ 24) (he : 0 ≤ e ∧ e ≤ 3) (hn : n - 1 = 146097 * a + 36524 * b + 1461 * c + 365 * e + r)
    (hl : leap (a * 400 + 1 + (b * 100 + c * 4 + e)) = X) (ok : OrdOk r (lp (a * 400 + 1 + (b * 100 + c * 4 + e))) M) : OrdCtx (a * 400 + 1 + (b * 100 + c * 4 + e)) n r X M :=
  ⟨by rw [dby_parts hb hc he]; exact hn, hl, ok⟩
theorem ord_put {Y n r M P : Int} {X : Bool} {M0 : Int} (C : OrdCtx Y n r X M0) (hM : 1 ≤ M ∧ M ≤ 12) (hP : P = dbmT M + (if 2 < M then lp Y else 0)) (h0 : P ≤ r) (h1 : r - P < dim Y M) : OrdFin Y n r M P := by
  refine ⟨Int.sub_nonneg_of_le h0, h1, ⟨hM.1, hM.2, Int.le_add_of_nonneg_left (Int.sub_nonneg_of_le h0), h1⟩, ?_⟩
  have hn := C.yr
  rw [first_eq hM, dbm_eq hM, ← hP]
  clear hP h0 h1 hM C
  omega
theorem ord_w1 {Y n r M z z' : Int} {X : Bool} (C : OrdCtx Y n r X M) (h : 2 < M) (hz : Hid (z = if X = true then 1 else 0)) (hr : r < dbmT M + z) (h2 : M - 1 = 2) (hz' : Hid (z' = if X = true then 1 else 0)) :
    OrdFin Y n r (M - 1) (dbmT M + z - (dimT (M - 1) + z')) := by
  obtain rfl := hz.out.trans (lp_is C.lpX).symm
  obtain rfl := hz'.out.trans (lp_is C.lpX).symm
  obtain ⟨T1, T2, T3, T4, T5, T6, T7⟩ := C.ok
  obtain ⟨q1, q2, q3⟩ := T5 h hr h2
  rw [q1]
  refine ord_put C (by rw [h2]; decide) (by rw [if_neg (by rw [h2]; decide), Int.add_zero]) q2 ?_
  rw [(dim_facts2 Y (M - 1) (by rw [h2]; decide)).1 h2]
  clear T1 T2 T3 T4 T5 T6 T7 q1 q2 h h2 C hz hz'
  omega
theorem ord_w2 {Y n r M z z' : Int} {X : Bool} (C : OrdCtx Y n r X M) (h : 2 < M) (hz : Hid (z = if X = true then 1 else 0)) (hr : r < dbmT M + z) (h2 : M - 1 ≠ 2) (hz' : z' = 0) :
    OrdFin Y n r (M - 1) (dbmT M + z - (dimT (M - 1) + z')) := by
  obtain rfl := hz.out.trans (lp_is C.lpX).symm
  subst hz'
  obtain ⟨T1, T2, T3, T4, T5, T6, T7⟩ := C.ok
  obtain ⟨q1, q2⟩ := T6 h hr h2
  have hM : 1 ≤ M - 1 ∧ M - 1 ≤ 12 ∧ 2 < M - 1 := by clear T3 T4 T5 T6 T7 q1 q2 hr C hz; omega
  rw [Int.add_zero, q1]
  refine ord_put C ⟨hM.1, hM.2.1⟩ (by rw [if_pos hM.2.2]) q2 ?_
  rw [(dim_facts2 Y (M - 1) ⟨hM.1, hM.2.1⟩).2 h2]
  clear T1 T2 T3 T4 T5 T6 T7 q2 h h2 C hz hM
  omega
theorem ord_w3 {Y n r M z : Int} {X : Bool} (C : OrdCtx Y n r X M) (h : 2 < M) (hz : Hid (z = if X = true then 1 else 0)) (hr : ¬ r < dbmT M + z) : OrdFin Y n r M (dbmT M + z) := by
  obtain rfl := hz.out.trans (lp_is C.lpX).symm
  obtain ⟨T1, T2, T3, T4, T5, T6, T7⟩ := C.ok
  refine ord_put C ⟨T1, T2⟩ (by rw [if_pos h]) (Int.not_lt.mp hr) ?_
  rw [(dim_facts2 Y M ⟨T1, T2⟩).2 (Ne.symm (Int.ne_of_lt h))]
  exact T3 h (Int.not_lt.mp hr)
theorem ord_w5 {Y n r M z z' : Int} {X : Bool} (C : OrdCtx Y n r X M) (h : ¬ 2 < M) (hz : z = 0) (hr : r < dbmT M + z) (hz' : z' = 0) : OrdFin Y n r (M - 1) (dbmT M + z - (dimT (M - 1) + z')) := by
  subst hz hz'
  obtain ⟨T1, T2, T3, T4, T5, T6, T7⟩ := C.ok
  rw [Int.add_zero] at hr
  obtain ⟨rfl, q1, q2⟩ := T7 (Int.not_lt.mp h) hr
  have e1 : (2 : Int) - 1 = 1 := by decide
  rw [e1] at q1 q2 ⊢
  rw [Int.add_zero, Int.add_zero, q1]
  refine ord_put C (by decide) (by rw [if_neg (by decide), Int.add_zero]) q2 ?_
  rw [(dim_facts2 Y 1 (by decide)).2 (by decide)]
  clear T1 T2 T3 T4 T5 T6 T7 q2 h C
  omega
theorem ord_w6 {Y n r M z : Int} {X : Bool} (C : OrdCtx Y n r X M) (h : ¬ 2 < M) (hz : z = 0) (hr : ¬ r < dbmT M + z) : OrdFin Y n r M (dbmT M + z) := by
  subst hz
  obtain ⟨T1, T2, T3, T4, T5, T6, T7⟩ := C.ok
  have h' := Int.not_lt.mp h
  rw [Int.add_zero] at hr ⊢
  refine ord_put C ⟨T1, T2⟩ (by rw [if_neg h, Int.add_zero]) (Int.not_lt.mp hr) ?_
  rw [dim_eq ⟨T1, T2⟩]
  exact T4 h' (Int.not_lt.mp hr)
theorem ord_w4 {M : Int} (h : ¬ 2 < M) (h2 : M - 1 = 2) : False := by omega
theorem ord_n4 {b c e r : Int} (h4 : b = 4 → c = 0 ∧ e = 0 ∧ r = 0) (h5 : e = 4 → r = 0 ∧ (c = 24 → b = 3)) (h : e = 4 ∨ b = 4) : r = 0 := h.elim (fun q => (h5 q).1) fun q => (h4 q).2.2
end Mine.Internal

end
section
open PySem PySem.W PyProof.Rows PySem.Calls PySem.Spec
set_option maxRecDepth 100000
namespace Mine.Internal
noncomputable abbrev frs (l : List Env) : List Addr := l.filterMap (·.frame)
theorem frs_mem {env : Env} {outer : List Env} {L b : Addr} (hf : env.frame = some L) (hm : b ∈ frs (env :: outer)) : b = L ∨ b ∈ frs outer := by
  obtain ⟨e, he, h⟩ := List.mem_filterMap.mp hm
  rcases List.mem_cons.mp he with rfl | he
  · exact .inl (Option.some.inj (hf.symm.trans h)).symm
  · exact .inr (List.mem_filterMap.mpr ⟨e, he, h⟩)
noncomputable def LeaveT (fs : List Addr) (g : Heap) (s : Shared) (args : List (Addr × Obj)) (ok : Value → List (Addr × Obj) → Prop) (v : Value) (s' : Shared) : Prop :=
  s' = { s with heap := s'.heap, toks := s'.toks } ∧ ∃ g' L' m' news' new, KtsTurn fs g g' ∧ Fr g' L' s'.heap m' ∧ News g' L' s'.heap news' ∧ (∀ q ∈ args, q ∈ news') ∧ (∀ q ∈ new, q ∈ news') ∧ (∀ q ∈ new, ∀ p ∈ args, q.1 ≠ p.1) ∧ ok v new
theorem leaveT_intro {fs : List Addr} {g g' h : Heap} {s : Shared} {args : List (Addr × Obj)} {ok : Value → List (Addr × Obj) → Prop} {v : Value} {tk : Nat} {L' : Addr} {m' : Str → Option Value} {news' : List (Addr × Obj)}
    (T : KtsTurn fs g g') (F : Fr g' L' h m') (N : News g' L' h news') (ha : ∀ q ∈ args, q ∈ news') (new : List (Addr × Obj)) (hn : ∀ q ∈ new, q ∈ news') (hne : ∀ q ∈ new, ∀ p ∈ args, q.1 ≠ p.1) (ho : ok v new) :
    LeaveT fs g s args ok v { s with heap := h, toks := tk } := ⟨rfl, g', L', m', news', new, T, F, N, ha, hn, hne, ho⟩
section
variable {prog : Program} {w : World} {A₀ A : Around} {E : Value → Shared → Prop} {s : Shared} {base h₀ : Heap} {outer : List Env} {L : Addr} {m : Str → Option Value} {env : Env} {args : List (Addr × Obj)} {K : Frag}
  {name qual : Str} {params : Arguments} {body : List Stmt} {scope : Scope} {dV kV doc pm cdv ct oc : Value} {an od : Option Addr} {osl : Array (Option Value)} {f : Addr} {vals : List Value} {binds : List (Str × Value)}
  {p : Program} {loose : List Str} {mean : ExcName → Option Value} {mg mb : Str → Option Value} {Q : Value → Shared → Prop} {news : List (Addr × Obj)} {ok : Value → List (Addr × Obj) → Prop}
theorem fnT_enter (B : Below A₀ base outer h₀) (F : Fr h₀ L s.heap m) (X₀ : K.In h₀) (N : News h₀ L s.heap news) (T : Top p loose mean mg mb h₀) (XB : K.In base) (TB : Top p loose mean mg mb base) (D : KtsDicts (frs outer) h₀)
    (hargs : ∀ q ∈ args, q ∈ news) (hA : A.frames = some (env :: outer)) (hf : env.frame = some L) (hke : env.scope.kind = .function)
    (ret : ∀ h₀' v new h' tk', KtsTurn (frs outer) h₀ h₀' → Fr h₀' L h' m → News h₀' L h' (new ++ news) → Below A₀ base outer h₀' → K.In h₀' → Top p loose mean mg mb h₀' → KtsDicts (frs outer) h₀' → (∀ q ∈ new, ∀ p ∈ news, p.1 ≠ q.1) → ok v new → Q v { s with heap := h', toks := tk' })
    (ho : K.lookup f = some ⟨oc, od, .func (fnOf name qual params body scope dV kV doc pm an cdv ct), osl⟩) (hcd : codeIn K cdv qual = true) (hroom : A.depth < recursionLimit)
    (hbind : BindsTo s (fnOf name qual params body scope dV kV doc pm an cdv ct) ⟨vals, []⟩ binds) (hloc : ∀ y ∈ binds, scope.names.lookup y.1 = some .local)
    (h : ∀ g L' h₁, Fr h₀ L g m → Fr g L' h₁ (fun y => binds.reverse.lookup y) → News g L' h₁ args → Below A base (env :: outer) g → K.In g → Top p loose mean mg mb g → K.In base → Top p loose mean mg mb base → KtsDicts (frs (env :: outer)) g →
      wpAny (model prog w) (A.deeper (envOf qual scope L' f cdv)) (execs body (envOf qual scope L' f cdv))
        (fun fl s' => LeaveT (frs (env :: outer)) g s args ok (match fl with | .ret v => v | _ => .none) s')
        (fun e s' => wpAny (model prog w) (A.deeper (envOf qual scope L' f cdv)) (leaving (envOf qual scope L' f cdv) e) (fun _ s'' => E e s'') (fun e' s'' => E e' s'') s')
        { s with heap := h₁, toks := s.toks + binds.length })
    (hco : scope.isCoroutine = false) (hgen : scope.isGenerator = false) (hk : scope.kind = .function)
    (hcell : ∀ x ∈ scope.names, x.2 ≠ .cell) : wpAny (model prog w) A (call (.ref f) vals) Q E s := by
  refine wpAny_call ?_
  have N₁ : News h₀ L s.heap args := fun q hq => N q (hargs q hq)
  obtain ⟨FG, BG, st, lv⟩ := groundX (R := fun _ _ => True) B F N₁ hA hf hke
  obtain ⟨oL, es, ep, hL, hLd, hLk, hLf⟩ := F.ns
  have nL : L ∉ args.map (·.1) := fun q => by
    obtain ⟨p, hp, e⟩ := List.mem_map.mp q
    exact (N₁ p hp).2.1 e
  have hLg := hideAll_get (args.map (·.1)) hL nL
  have nL₀ : h₀.get? L = none := kts_self F
  refine codeAny_call_def (fd := fnOf name qual params body scope dV kV doc pm an cdv ct) (body := body) (binds := binds) hroom ((X₀.keeps F.keep) _ _ ho) rfl (T.nolimit.keeps F.keep) (codeRec_of (X₀.keeps F.keep) hcd) rfl hbind hcell hloc (fun h₁ hns hk₁ => ?_) hco hgen hk
  refine wpAny_mono (h _ s.heap.objs.size h₁ FG ⟨hns, fun b o e => hk₁ b o (of_hideAll _ e), Nat.le_of_eq (hideAll_size _ _)⟩
    (fun q hq => ⟨hk₁ _ _ (N₁ q hq).1, Nat.ne_of_lt (Heap.lt_size (N₁ q hq).1), hideAll_none _ (List.mem_map_of_mem hq)⟩) BG (X₀.keeps st) (T.keeps st) XB TB (fun b hb => by
      rcases frs_mem hf hb with rfl | hb
      · exact ⟨oL, es, ep, hLg, hLd⟩
      · obtain ⟨o, es', n', ho', hd'⟩ := D b hb
        exact ⟨o, es', n', st b o ho', hd'⟩)) (fun fl s' hl => ?_) fun _ _ y => y
  obtain ⟨hs, g', L', m', news', new, T', F', N', ha, hn, hne, hok⟩ := hl
  rw [hs]
  obtain ⟨sl, hsl⟩ := T'.up hLg
  have nfr : ∀ b, h₀.get? b = none → b ≠ L → b ∉ frs (env :: outer) := fun b e n hm => by
    rcases frs_mem hf hm with z | z
    · exact n z
    · obtain ⟨o, _, _, ho', _⟩ := D b z
      rw [e] at ho'; cases ho'
  have hgo : ∀ q ∈ news, q.1 ∉ args.map (·.1) → g'.get? q.1 = some q.2 := fun q hq hm => T'.other _ _ (hideAll_get _ (N q hq).1 hm) (nfr _ (N q hq).2.2 (N q hq).2.1)
  have hold : ∀ q ∈ news, s'.heap.get? q.1 = some q.2 := fun q hq => by
    by_cases hm : q.1 ∈ args.map (·.1)
    · obtain ⟨q', hq', e⟩ := List.mem_map.mp hm
      have h1 := (N' q' (ha q' hq')).1
      have h2 := (N₁ q' hq').1
      rw [e] at h1 h2
      have h3 := (N q hq).1
      rw [h2] at h3
      rw [h1, h3]
    · exact F'.keep _ _ (hgo q hq hm)
  have hfresh : ∀ q ∈ new, ∀ p ∈ news, p.1 ≠ q.1 := fun q hq p hp e => by
    by_cases hm : p.1 ∈ args.map (·.1)
    · obtain ⟨p', hp', e'⟩ := List.mem_map.mp hm
      exact hne q hq p' hp' (by rw [e', e])
    · have := (N' q (hn q hq)).2.2
      rw [← e, hgo p hp hm] at this
      cases this
  obtain ⟨T₁, S₁⟩ := kts_turn_at (h := s'.heap) (fs := frs outer) (g := h₀)
    (fun b hb => by
      obtain ⟨o, _, _, ho', _⟩ := D b hb
      exact ⟨o, ho'⟩)
    (fun b o e nmem => F'.keep b o (T'.other b o (st b o e) (fun q => by
      rcases frs_mem hf q with z | z
      · rw [z, nL₀] at e
        cases e
      · exact nmem z)))
    (fun b o e hm => by
      obtain ⟨sl', hs'⟩ := T'.up (st b o e)
      exact ⟨sl', F'.keep _ _ hs'⟩)
  have B₃ : Below A₀ base outer (ktsHeap s'.heap (frs outer) h₀) := ⟨B.stack, fun b o e => T₁.other b o (B.stays b o e) (fun hm => by
    rw [(B.frames.mem hm).1] at e
    cases e), B.frames.of_keeps fun b o e _ => by
    obtain ⟨sl', hs'⟩ := T₁.up e
    exact ⟨_, hs', rfl⟩⟩
  refine ret _ _ new _ _ T₁ ⟨⟨_, es, ep, F'.keep _ _ hsl, hLd, hLk, hLf⟩, S₁, by rw [T₁.size]; exact F.above⟩ (fun q hq => ?_) B₃ (XB.keeps B₃.stays) (TB.keeps B₃.stays) (D.turn T₁) hfresh hok
  rcases List.mem_append.mp hq with hq | hq
  · refine ⟨(N' q (hn q hq)).1, fun z => ?_, T₁.none_ _ ?_⟩
    · have := (N' q (hn q hq)).2.2; rw [z, hsl] at this; cases this
    · cases z : h₀.get? q.1 with
      | none => rfl
      | some o =>
        obtain ⟨sl', hs'⟩ := T'.up (st _ _ z)
        have := (N' q (hn q hq)).2.2
        rw [hs'] at this
        cases this
  · exact ⟨hold q hq, (N q hq).2.1, T₁.none_ _ (N q hq).2.2⟩
end

noncomputable def FnT (prog : Program) (w : World) (K : Frag) (d : Nat) (f : Addr) (args : List (Addr × Obj)) (vs : List Value) (ok : Value → List (Addr × Obj) → Prop) : Prop :=
  ∀ (p : Program) (loose : List Str) (mean : ExcName → Option Value) (mg mb : Str → Option Value) (dp un : Nat) (gd : Option (List Code)) (cn : Str) (cs : Scope) (a : Addr) (ccd : Value) (cl : List (Str × Addr)) (outer : List Env) (A₀ : Around) (base h₀ : Heap) (L : Addr) (m : Str → Option Value) (s : Shared) (Q E : Value → Shared → Prop) (news : List (Addr × Obj)),
    Below A₀ base outer h₀ → Fr h₀ L s.heap m → K.In h₀ → News h₀ L s.heap news → Top p loose mean mg mb h₀ → K.In base → Top p loose mean mg mb base → KtsDicts (frs outer) h₀ → cs.kind = .function → (∀ q ∈ args, q ∈ news) → dp + d < recursionLimit → un + 12 * d < cLine →
    (∀ h₀' v new h' tk', KtsTurn (frs outer) h₀ h₀' → Fr h₀' L h' m → News h₀' L h' (new ++ news) → Below A₀ base outer h₀' → K.In h₀' → Top p loose mean mg mb h₀' → KtsDicts (frs outer) h₀' → (∀ q ∈ new, ∀ p ∈ news, p.1 ≠ q.1) → ok v new → Q v { s with heap := h', toks := tk' }) →
    wpAny (model prog w) (ktrTop dp un gd cn cs L a ccd cl outer) (call (.ref f) vs) Q E s
theorem turn_nil {h₀ h₀' : Heap} (T : KtsTurn [] h₀ h₀') : h₀.StaysIn h₀' := fun b o e => T.other b o e (fun h => nomatch h)
theorem FnT.top {prog : Program} {w : World} {K : Frag} {d : Nat} {f : Addr} {args : List (Addr × Obj)} {vs : List Value} {ok : Value → List (Addr × Obj) → Prop} (C : FnT prog w K d f args vs ok)
    {p : Program} {loose : List Str} {mean : ExcName → Option Value} {mg mb : Str → Option Value} {dp un : Nat} {gd : Option (List Code)} {cn : Str} {cs : Scope} {a : Addr} {ccd : Value} {cl : List (Str × Addr)} {A₀ : Around} {h₀ : Heap} {L : Addr} {m : Str → Option Value} {s : Shared} {Q E : Value → Shared → Prop} {news : List (Addr × Obj)}
    (B : Below A₀ h₀ [] h₀) (F : Fr h₀ L s.heap m) (X : K.In h₀) (N : News h₀ L s.heap news) (T : Top p loose mean mg mb h₀) (hk : cs.kind = .function) (ha : ∀ q ∈ args, q ∈ news) (hd : dp + d < recursionLimit) (hu : un + 12 * d < cLine)
    (ret : ∀ v new h' tk', Fr h₀ L h' m → News h₀ L h' (new ++ news) → (∀ q ∈ new, ∀ p ∈ news, p.1 ≠ q.1) → ok v new → Q v { s with heap := h', toks := tk' }) :
    wpAny (model prog w) (ktrTop dp un gd cn cs L a ccd cl []) (call (.ref f) vs) Q E s :=
  C p loose mean mg mb dp un gd cn cs a ccd cl [] A₀ h₀ h₀ L m s Q E news B F X N T X T ktsDicts_nil hk ha hd hu fun h₀' v new h' tk' T' F' N' B' X' P' D' hne hok =>
    ret v new h' tk' ⟨F'.ns, fun b o e => F'.keep b o (turn_nil T' b o e), by rw [← T'.size]; exact F'.above⟩ (fun q hq => ⟨(N' q hq).1, (N' q hq).2.1, by
      cases z : h₀.get? q.1 with
      | none => rfl
      | some o => have := (N' q hq).2.2; rw [turn_nil T' _ _ z] at this; cases this⟩) hne hok
end Mine.Internal

end
section
open PySem PySem.W PyProof.Rows PySem.Calls PySem.Spec
set_option maxRecDepth 100000
namespace Mine.Internal
section
variable {α β : Type} {M : Model} {A : Around} {E : Value → Shared → Prop} {s : Shared} {env : Env}
theorem wpC_keep {vs : List Value} {m : Sem α} {Q : α → Shared → Prop} (h : wpC M A m Q E s) : wpC M A (m.keep vs) Q E s :=
  fun Γ p hΓ hc => by rw [Sem.wp_keep]; exact h Γ p hΓ hc
theorem wpC_attempt {m : Sem α} {Q : Except Value α → Shared → Prop} (h : wpC M A m (fun a => Q (.ok a)) (fun e => Q (.error e)) s) :
    wpC M A m.attempt Q E s := fun Γ p hΓ hc => by rw [Sem.wp_attempt]; exact h Γ p hΓ hc
theorem wpC_nil {Q : Flow → Shared → Prop} (h : Q .next s) : wpC M A (execs [] env) Q E s := fun _ _ _ _ => h
theorem wpC_consC {st : Stmt} {rest : List Stmt} {Q : Flow → Shared → Prop}
    (h : wpC M A (exec st env) (fun f s' => match f with | .next => wpC M A (execs rest env) Q E s' | f => Q f s') E s) :
    wpC M A (execs (st :: rest) env) Q E s := by
  rw [execs_cons]
  refine wpC_bind (wpC_mono h (fun f s' h' => ?_) fun _ _ x => x)
  cases f <;> first | exact h' | exact wpC_pure h'
theorem wpC_cons {st : Stmt} {rest : List Stmt} {Q : Flow → Shared → Prop}
    (h : wpAny M A (exec st env) (fun f s' => match f with | .next => wpC M A (execs rest env) Q E s' | f => Q f s') E s) :
    wpC M A (execs (st :: rest) env) Q E s := wpC_consC (wpC_of h)
theorem wpC_If {test : PySem.Expr} {body orelse : List Stmt} {pos : Pos} {Q : Flow → Shared → Prop}
    (h : wpAny M A (isTrue test env (eval test env))
      (fun b s₂ => if b then wpC M A (execs body env) Q E s₂ else wpC M A (execs orelse env) Q E s₂) E s) :
    wpC M A (exec (.If test body orelse pos) env) Q E s := by
  rw [exec_If]
  refine wpC_bind (wpC_standAt (wpC_then (wpAny_mono h (fun b s₂ h₂ => ?_) fun _ _ x => x)))
  cases b <;> exact h₂
theorem wpC_IfC {test : PySem.Expr} {body orelse : List Stmt} {pos : Pos} {Q : Flow → Shared → Prop}
    (h : wpC M A (isTrue test env (eval test env))
      (fun b s₂ => if b then wpC M A (execs body env) Q E s₂ else wpC M A (execs orelse env) Q E s₂) E s) :
    wpC M A (exec (.If test body orelse pos) env) Q E s := by
  rw [exec_If]
  refine wpC_bind (wpC_standAt (wpC_bind (wpC_mono h (fun b s₂ h₂ => ?_) fun _ _ x => x)))
  cases b <;> exact h₂
theorem wpC_AssignName {x : Str} {pos' pos : Pos} {value : PySem.Expr} {Q : Flow → Shared → Prop}
    (h : wpC M A (eval value env) (fun v s₁ => wpAny M A (storeName env x v) (fun _ => Q .next) E s₁) E s)
    (hs : autoParam (swapsWith value (some (.Name x pos')) pos.line env = pure false) PySem.W.call_K._auto_4) :
    wpC M A (exec (.Assign [.Name x pos'] value pos) env) Q E s := by
  rw [exec_Assign_Name env x pos' value pos hs]
  refine wpC_bind (wpC_standAt (wpC_bind (wpC_mono h (fun v s₁ h₁ => ?_) fun _ _ x => x)))
  exact wpC_bind (wpC_standAt (wpC_then (wpAny_bindName (wpAny_mono h₁ (fun _ _ q => wpC_pure q) fun _ _ x => x))))
theorem wpC_tryStmt {body orelse : Sem Flow} {h₀ : ExceptHandler} {hs : List ExceptHandler} {Q : Flow → Shared → Prop}
    (h : wpC M A body (fun f s₁ => match f with | .next => wpC M A orelse Q E s₁ | f => Q f s₁)
      (fun e s₁ => wpAny M A (noteFrame e env) (fun _ s₂ => wpAny M A (setFlight e none) (fun _ s₃ => wpAny M A (handleBy e env (h₀ :: hs)) Q E s₃) E s₂) E s₁) s) :
    wpC M A (tryStmt false body (h₀ :: hs) orelse [] env) Q E s := by
  unfold tryStmt
  simp only [List.isEmpty_nil, if_true, List.isEmpty_cons, Bool.false_and, Bool.false_eq_true, if_false]
  refine wpC_bind (wpC_attempt (wpC_mono h (fun f s₁ h₁ => ?_) fun e s₁ h₁ => ?_))
  · cases f <;> first | exact h₁ | exact wpC_pure h₁
  · exact wpC_of (wpAny_bind (wpAny_mono h₁ (fun _ _ h₂ => wpAny_bind h₂) fun _ _ x => x))
theorem wpC_Try {body orelse : List Stmt} {h₀ : ExceptHandler} {hs : List ExceptHandler} {pos : Pos} {Q : Flow → Shared → Prop}
    (h : wpC M A (execs body env) (fun f s₁ => match f with | .next => wpC M A (execs orelse env) Q E s₁ | f => Q f s₁)
      (fun e s₁ => wpAny M A (noteFrame e env) (fun _ s₂ => wpAny M A (setFlight e none) (fun _ s₃ => wpAny M A (handleBy e env (h₀ :: hs)) Q E s₃) E s₂) E s₁) s) :
    wpC M A (exec (.Try body (h₀ :: hs) orelse [] pos) env) Q E s := by
  rw [arm_exec_Try]
  exact wpC_bind (wpC_standAt (wpC_tryStmt h))
theorem wpC_callWith {pos : Pos} {f : Value} {first : List Value} {P : Heap → Prop} {args : List (Bool × Sem Value)} {keywords : List (Option Str × Sem Value)} {Q : Value → Shared → Prop} (hplain : (args.any (·.1) || keywords.any (·.1.isNone)) = false)
    (hk : ∀ h, P h → ∃ k, (k = Keeper.frame ∨ k = Keeper.machine ∨ k = Keeper.boundFrame) ∧ Looks M h (keeperOf f) k)
    (h : wpAny M A (evalArgs f true args keywords) (fun a s₁ => P s₁.heap ∧ wpC M A (call f (first ++ a.pos) a.kw) Q E s₁) E s) : wpC M A (callWith pos f first args keywords) Q E s := by
  unfold callWith
  refine wpC_then (wpAny_holding (wpAny_mono h (fun a s₁ h₁ => wpC_bind (wpC_standAt ?_)) fun _ _ x => x))
  obtain ⟨k, hk', L⟩ := hk _ h₁.1
  simp only [hplain]
  refine wpC_then (L.here ?_)
  have tail : ∀ {t : Sem Value}, wpC M A t Q E s₁ → wpC M A (t >>= fun r => holding [r] point >>= fun _ => pure r) Q E s₁ :=
    fun ht => wpC_bind (wpC_mono ht (fun r s₂ hr => wpC_of (wpAny_bind (wpAny_holding (wpAny_point (wpAny_pure hr))))) fun _ _ x => x)
  have marked (mk : Value) : wpC M A (callMarked mk f (first ++ a.pos) a.kw) Q E s₁ := by unfold callMarked; exact wpC_keep h₁.2
  rcases hk' with rfl | rfl | rfl <;> dsimp only <;> first | exact tail h₁.2 | (split <;> first | exact tail h₁.2 | exact tail (marked _))
theorem wpC_Call {K : Frag} {func e : PySem.Expr} {rest : List PySem.Expr} {pos : Pos} {Q : Value → Shared → Prop}
    (h : wpAny M A (eval func env) (fun f s₁ => keepIn K f = true ∧ wpAny M A (spliced (backTo pos (starEach (e :: rest) env))) (fun vs s₂ => K.In s₂.heap ∧ wpC M A (call f vs) Q E s₂) E s₁) E s)
    (hc : autoParam (eval (.Call func (e :: rest) [] pos) env = (do callWith pos (← eval func env) [] (backTo pos (starEach (e :: rest) env)) (backToKw pos (keywordEach [] env)))) PySem.W.call_K._auto_4)
    (he : autoParam (starEach (e :: rest) env = (false, eval e env) :: starEach rest env) PySem.W.call_K._auto_4) (hplain : autoParam ((backTo pos (starEach rest env)).any (·.1) = false) PySem.W.call_K._auto_4) :
    wpC M A (eval (.Call func (e :: rest) [] pos) env) Q E s := by
  rw [hc]
  refine wpC_then (wpAny_mono h (fun f s₁ h₁ => ?_) fun _ _ x => x)
  obtain ⟨hk, h₁⟩ := h₁
  rw [he] at h₁ ⊢
  exact wpC_callWith (first := []) (P := K.In) (by show ((false || (backTo pos (starEach rest env)).any (·.1)) || false) = false; rw [hplain]; rfl) (keeps_K hk) (evalArgs_plain h₁)
theorem wpC_CallType {T : String} {func e : PySem.Expr} {rest : List PySem.Expr} {pos : Pos} {Q : Value → Shared → Prop}
    (h : wpAny M A (eval func env) (fun f s₁ => f = .type T ∧ wpAny M A (spliced (backTo pos (starEach (e :: rest) env))) (fun vs s₂ => wpC M A (call (.type T) vs) Q E s₂) E s₁) E s)
    (hc : autoParam (eval (.Call func (e :: rest) [] pos) env = (do callWith pos (← eval func env) [] (backTo pos (starEach (e :: rest) env)) (backToKw pos (keywordEach [] env)))) PySem.W.call_K._auto_4)
    (he : autoParam (starEach (e :: rest) env = (false, eval e env) :: starEach rest env) PySem.W.call_K._auto_4) (hplain : autoParam ((backTo pos (starEach rest env)).any (·.1) = false) PySem.W.call_K._auto_4) :
    wpC M A (eval (.Call func (e :: rest) [] pos) env) Q E s := by
  rw [hc]
  refine wpC_then (wpAny_mono h (fun f s₁ h₁ => ?_) fun _ _ x => x)
  obtain ⟨rfl, h₁⟩ := h₁
  rw [he] at h₁ ⊢
  exact wpC_callWith (first := []) (P := fun _ => True) (by show ((false || (backTo pos (starEach rest env)).any (·.1)) || false) = false; rw [hplain]; rfl) (fun _ _ => ⟨.machine, .inr (.inl rfl), Looks.of_pure rfl⟩) (evalArgs_plain (wpAny_mono h₁ (fun _ _ y => ⟨trivial, y⟩) fun _ _ x => x))
end
section
variable {prog : Program} {w : World} {A : Around} {E : Value → Shared → Prop} {s : Shared} {R : Result → Shared → Prop}
theorem codeC_func {body : List Stmt} {env : Env}
    (h : wpC (model prog w) (A.deeper env) (execs body env) (fun f s' => R (.ok (.ret (match f with | .ret v => v | _ => .none))) s')
      (fun e s' => wpAny (model prog w) (A.deeper env) (leaving env e) (fun _ s'' => R (.error e) s'') (fun e' s'' => R (.error e') s'') s') s) :
    codeC (model prog w) A (.func body env) R s := by
  refine codeC_of_tree ?_
  show wpC _ (A.deeper env) (do point; match ← (execs body env).onRaise (leaving env) with | .ret v => ret v | _ => ret .none) _ _ s
  refine wpC_then (wpAny_point (wpC_bind (wpC_onRaise (wpC_mono h (fun f s' h' => ?_) fun _ _ h' => wpC_of h'))))
  cases f <;> exact wpC_pure h'
theorem codeC_call_def {a : Addr} {o : Obj} {fd : FuncData} {body : List Stmt} {args : Args} {binds : List (Str × Value)}
    (hroom : A.depth < recursionLimit) (ho : s.heap.get? a = some o) (hdata : o.data = .func fd) (hlim : s.heap.NoLimit) (hcd : s.heap.CodeRec fd.code fd.qualname)
    (hbody : fd.body = .stmts body) (hbind : BindsTo s fd args binds)
    (hcell : ∀ x ∈ fd.scope.names, x.2 ≠ .cell) (hloc : ∀ x ∈ binds, fd.scope.names.lookup x.1 = some .local)
    (h : ∀ h₀, h₀.Ns s.heap.objs.size (fun x => binds.reverse.lookup x) → (∀ b o, s.heap.get? b = some o → h₀.get? b = some o) →
      wpC (model prog w) (A.deeper (callEnv fd s.heap.objs.size a)) (execs body (callEnv fd s.heap.objs.size a)) (fun f s' => R (.ok (.ret (match f with | .ret v => v | _ => .none))) s')
        (fun e s' => wpAny (model prog w) (A.deeper (callEnv fd s.heap.objs.size a)) (leaving (callEnv fd s.heap.objs.size a) e) (fun _ s'' => R (.error e) s'') (fun e' s'' => R (.error e') s'') s')
        { s with heap := h₀, toks := s.toks + binds.length })
    (hco : autoParam (fd.scope.isCoroutine = false) PySem.W.call_K._auto_4) (hgen : autoParam (fd.scope.isGenerator = false) PySem.W.call_K._auto_4) (hk : autoParam (fd.scope.kind = .function) PySem.W.call_K._auto_4) :
    codeC (model prog w) A (.call (.ref a) args) R s := by
  refine codeC_of_tree ?_
  show wpC _ A.in1 (callAny (.ref a) args) _ _ s
  simp only [callAny]
  refine wpC_then (wpAny_load ho ?_)
  have hcd' := hcd
  obtain ⟨c, oc, vs, tq, hc, hoc, hdc, hq⟩ := hcd
  simp only [hdata, callFunction, hco, hgen, hbody, hc]
  refine wpC_then (m := field (.ref c) 1) (wpAny_field hoc hdc hq (wpC_then (wpAny_pure ?_)))
  refine wpC_then (hbind _ _ _ _ ?_)
  refine wpC_then (wpAny_newFunctionEnv hcell hloc (fun h₀ hns₀ hsb₀ => ?_) hk)
  refine wpC_then (wpAny_enterFrame (hlim.fresh _ hsb₀) hroom (wpC_pure (And.intro rfl ?_)))
  have := codeC_func (R := R) (h h₀ hns₀ fun b o e => hsb₀.extBut b o (Nat.ne_of_lt (Heap.lt_size e)) (Heap.get?_push_of_some _ e))
  rw [show callEnv fd s.heap.objs.size a = newEnv fd.scope s.heap.objs.size fd.globals fd.closure (fd.qualname ++ ".<locals>.") (some a) (.ref c) none fd.builtins from by rw [← hc]; rfl] at this
  exact this
end
end Mine.Internal

end
section
open PySem PySem.W PyProof.Rows PySem.Calls PySem.Spec
set_option maxRecDepth 100000
namespace Mine.Internal
section
variable {prog : Program} {w : World} {A₀ A : Around} {E : Value → Shared → Prop} {s : Shared} {base h₀ : Heap} {outer : List Env} {L : Addr} {m : Str → Option Value} {env : Env} {args : List (Addr × Obj)} {K : Frag}
  {name qual : Str} {params : Arguments} {body : List Stmt} {scope : Scope} {dV kV doc pm cdv ct oc : Value} {an od : Option Addr} {osl : Array (Option Value)} {f : Addr} {vals : List Value} {binds : List (Str × Value)}
  {p : Program} {loose : List Str} {mean : ExcName → Option Value} {mg mb : Str → Option Value} {Q : Value → Shared → Prop} {news : List (Addr × Obj)} {ok : Value → List (Addr × Obj) → Prop}
theorem fnC_enter (B : Below A₀ base outer h₀) (F : Fr h₀ L s.heap m) (X₀ : K.In h₀) (N : News h₀ L s.heap news) (T : Top p loose mean mg mb h₀) (XB : K.In base) (TB : Top p loose mean mg mb base) (D : KtsDicts (frs outer) h₀)
    (hargs : ∀ q ∈ args, q ∈ news) (hA : A.frames = some (env :: outer)) (hf : env.frame = some L) (hke : env.scope.kind = .function)
    (ret : ∀ h₀' v new h' tk', KtsTurn (frs outer) h₀ h₀' → Fr h₀' L h' m → News h₀' L h' (new ++ news) → Below A₀ base outer h₀' → K.In h₀' → Top p loose mean mg mb h₀' → KtsDicts (frs outer) h₀' → (∀ q ∈ new, ∀ p ∈ news, p.1 ≠ q.1) → ok v new → Q v { s with heap := h', toks := tk' })
    (ho : K.lookup f = some ⟨oc, od, .func (fnOf name qual params body scope dV kV doc pm an cdv ct), osl⟩) (hcd : codeIn K cdv qual = true) (hroom : A.depth < recursionLimit)
    (hbind : BindsTo s (fnOf name qual params body scope dV kV doc pm an cdv ct) ⟨vals, []⟩ binds) (hloc : ∀ y ∈ binds, scope.names.lookup y.1 = some .local)
    (h : ∀ g L' h₁, Fr h₀ L g m → Fr g L' h₁ (fun y => binds.reverse.lookup y) → News g L' h₁ args → Below A base (env :: outer) g → K.In g → Top p loose mean mg mb g → K.In base → Top p loose mean mg mb base → KtsDicts (frs (env :: outer)) g →
      wpC (model prog w) (A.deeper (envOf qual scope L' f cdv)) (execs body (envOf qual scope L' f cdv))
        (fun fl s' => LeaveT (frs (env :: outer)) g s args ok (match fl with | .ret v => v | _ => .none) s')
        (fun e s' => wpAny (model prog w) (A.deeper (envOf qual scope L' f cdv)) (leaving (envOf qual scope L' f cdv) e) (fun _ s'' => E e s'') (fun e' s'' => E e' s'') s')
        { s with heap := h₁, toks := s.toks + binds.length })
    (hco : scope.isCoroutine = false) (hgen : scope.isGenerator = false) (hk : scope.kind = .function)
    (hcell : ∀ x ∈ scope.names, x.2 ≠ .cell) : wpC (model prog w) A (call (.ref f) vals) Q E s := by
  refine wpC_call ?_
  have N₁ : News h₀ L s.heap args := fun q hq => N q (hargs q hq)
  obtain ⟨FG, BG, st, lv⟩ := groundX (R := fun _ _ => True) B F N₁ hA hf hke
  obtain ⟨oL, es, ep, hL, hLd, hLk, hLf⟩ := F.ns
  have nL : L ∉ args.map (·.1) := fun q => by
    obtain ⟨p, hp, e⟩ := List.mem_map.mp q
    exact (N₁ p hp).2.1 e
  have hLg := hideAll_get (args.map (·.1)) hL nL
  have nL₀ : h₀.get? L = none := kts_self F
  refine codeC_call_def (fd := fnOf name qual params body scope dV kV doc pm an cdv ct) (body := body) (binds := binds) hroom ((X₀.keeps F.keep) _ _ ho) rfl (T.nolimit.keeps F.keep) (codeRec_of (X₀.keeps F.keep) hcd) rfl hbind hcell hloc (fun h₁ hns hk₁ => ?_) hco hgen hk
  refine wpC_mono (h _ s.heap.objs.size h₁ FG ⟨hns, fun b o e => hk₁ b o (of_hideAll _ e), Nat.le_of_eq (hideAll_size _ _)⟩
    (fun q hq => ⟨hk₁ _ _ (N₁ q hq).1, Nat.ne_of_lt (Heap.lt_size (N₁ q hq).1), hideAll_none _ (List.mem_map_of_mem hq)⟩) BG (X₀.keeps st) (T.keeps st) XB TB (fun b hb => by
      rcases frs_mem hf hb with rfl | hb
      · exact ⟨oL, es, ep, hLg, hLd⟩
      · obtain ⟨o, es', n', ho', hd'⟩ := D b hb
        exact ⟨o, es', n', st b o ho', hd'⟩)) (fun fl s' hl => ?_) fun _ _ y => y
  obtain ⟨hs, g', L', m', news', new, T', F', N', ha, hn, hne, hok⟩ := hl
  rw [hs]
  obtain ⟨sl, hsl⟩ := T'.up hLg
  have nfr : ∀ b, h₀.get? b = none → b ≠ L → b ∉ frs (env :: outer) := fun b e n hm => by
    rcases frs_mem hf hm with z | z
    · exact n z
    · obtain ⟨o, _, _, ho', _⟩ := D b z
      rw [e] at ho'; cases ho'
  have hgo : ∀ q ∈ news, q.1 ∉ args.map (·.1) → g'.get? q.1 = some q.2 := fun q hq hm => T'.other _ _ (hideAll_get _ (N q hq).1 hm) (nfr _ (N q hq).2.2 (N q hq).2.1)
  have hold : ∀ q ∈ news, s'.heap.get? q.1 = some q.2 := fun q hq => by
    by_cases hm : q.1 ∈ args.map (·.1)
    · obtain ⟨q', hq', e⟩ := List.mem_map.mp hm
      have h1 := (N' q' (ha q' hq')).1
      have h2 := (N₁ q' hq').1
      rw [e] at h1 h2
      have h3 := (N q hq).1
      rw [h2] at h3
      rw [h1, h3]
    · exact F'.keep _ _ (hgo q hq hm)
  have hfresh : ∀ q ∈ new, ∀ p ∈ news, p.1 ≠ q.1 := fun q hq p hp e => by
    by_cases hm : p.1 ∈ args.map (·.1)
    · obtain ⟨p', hp', e'⟩ := List.mem_map.mp hm
      exact hne q hq p' hp' (by rw [e', e])
    · have := (N' q (hn q hq)).2.2
      rw [← e, hgo p hp hm] at this
      cases this
  obtain ⟨T₁, S₁⟩ := kts_turn_at (h := s'.heap) (fs := frs outer) (g := h₀)
    (fun b hb => by
      obtain ⟨o, _, _, ho', _⟩ := D b hb
      exact ⟨o, ho'⟩)
    (fun b o e nmem => F'.keep b o (T'.other b o (st b o e) (fun q => by
      rcases frs_mem hf q with z | z
      · rw [z, nL₀] at e
        cases e
      · exact nmem z)))
    (fun b o e hm => by
      obtain ⟨sl', hs'⟩ := T'.up (st b o e)
      exact ⟨sl', F'.keep _ _ hs'⟩)
  have B₃ : Below A₀ base outer (ktsHeap s'.heap (frs outer) h₀) := ⟨B.stack, fun b o e => T₁.other b o (B.stays b o e) (fun hm => by
    rw [(B.frames.mem hm).1] at e
    cases e), B.frames.of_keeps fun b o e _ => by
    obtain ⟨sl', hs'⟩ := T₁.up e
    exact ⟨_, hs', rfl⟩⟩
  refine ret _ _ new _ _ T₁ ⟨⟨_, es, ep, F'.keep _ _ hsl, hLd, hLk, hLf⟩, S₁, by rw [T₁.size]; exact F.above⟩ (fun q hq => ?_) B₃ (XB.keeps B₃.stays) (TB.keeps B₃.stays) (D.turn T₁) hfresh hok
  rcases List.mem_append.mp hq with hq | hq
  · refine ⟨(N' q (hn q hq)).1, fun z => ?_, T₁.none_ _ ?_⟩
    · have := (N' q (hn q hq)).2.2; rw [z, hsl] at this; cases this
    · cases z : h₀.get? q.1 with
      | none => rfl
      | some o =>
        obtain ⟨sl', hs'⟩ := T'.up (st _ _ z)
        have := (N' q (hn q hq)).2.2
        rw [hs'] at this
        cases this
  · exact ⟨hold q hq, (N q hq).2.1, T₁.none_ _ (N q hq).2.2⟩
end


noncomputable def FnC (prog : Program) (w : World) (K : Frag) (d : Nat) (f : Addr) (args : List (Addr × Obj)) (vs : List Value) (ok : Value → List (Addr × Obj) → Prop) : Prop :=
  ∀ (p : Program) (loose : List Str) (mean : ExcName → Option Value) (mg mb : Str → Option Value) (dp un : Nat) (gd : Option (List Code)) (cn : Str) (cs : Scope) (a : Addr) (ccd : Value) (cl : List (Str × Addr)) (outer : List Env) (A₀ : Around) (base h₀ : Heap) (L : Addr) (m : Str → Option Value) (s : Shared) (Q E : Value → Shared → Prop) (news : List (Addr × Obj)),
    Below A₀ base outer h₀ → Fr h₀ L s.heap m → K.In h₀ → News h₀ L s.heap news → Top p loose mean mg mb h₀ → K.In base → Top p loose mean mg mb base → KtsDicts (frs outer) h₀ → cs.kind = .function → (∀ q ∈ args, q ∈ news) → dp + d < recursionLimit → un + 12 * d < cLine →
    (∀ h₀' v new h' tk', KtsTurn (frs outer) h₀ h₀' → Fr h₀' L h' m → News h₀' L h' (new ++ news) → Below A₀ base outer h₀' → K.In h₀' → Top p loose mean mg mb h₀' → KtsDicts (frs outer) h₀' → (∀ q ∈ new, ∀ p ∈ news, p.1 ≠ q.1) → ok v new → Q v { s with heap := h', toks := tk' }) →
    wpC (model prog w) (ktrTop dp un gd cn cs L a ccd cl outer) (call (.ref f) vs) Q E s
section
variable {prog : Program} {w : World} {K : Frag} {d : Nat} {f : Addr} {args : List (Addr × Obj)} {vs : List Value} {p : Program} {loose : List Str} {mean : ExcName → Option Value} {mg mb : Str → Option Value} {dp un : Nat} {gd : Option (List Code)} {cn : Str} {cs : Scope} {a : Addr} {ccd : Value} {cl : List (Str × Addr)} {outer : List Env} {A₀ : Around} {base h₀ : Heap} {L : Addr} {m : Str → Option Value} {s : Shared} {Q E : Value → Shared → Prop} {news : List (Addr × Obj)}
theorem FnC.useO {O : Obj → Prop} (C : FnC prog w K d f args vs (fun v new => ∃ D o, v = .ref D ∧ new = [(D, o)] ∧ O o)) (B : Below A₀ base outer h₀) (F : Fr h₀ L s.heap m) (X : K.In h₀) (N : News h₀ L s.heap news) (T : Top p loose mean mg mb h₀) (XB : K.In base) (TB : Top p loose mean mg mb base) (D : KtsDicts (frs outer) h₀) (hk : cs.kind = .function) (ha : ∀ q ∈ args, q ∈ news)
    (hd : dp + d < recursionLimit) (hu : un + 12 * d < cLine)
    (ret : ∀ h₀' D o h' tk', O o → KtsTurn (frs outer) h₀ h₀' → Fr h₀' L h' m → News h₀' L h' ((D, o) :: news) → Below A₀ base outer h₀' → K.In h₀' → Top p loose mean mg mb h₀' → KtsDicts (frs outer) h₀' → AllNe D news → Q (.ref D) { s with heap := h', toks := tk' }) :
    wpC (model prog w) (ktrTop dp un gd cn cs L a ccd cl outer) (call (.ref f) vs) Q E s := by
  refine C p loose mean mg mb dp un gd cn cs a ccd cl outer A₀ base h₀ L m s Q E news B F X N T XB TB D hk ha hd hu fun h₀' v new h' tk' T' F' N' B' X' P' D' hne ok => ?_
  obtain ⟨D₁, o, rfl, rfl, ho⟩ := ok
  exact ret h₀' D₁ o h' tk' ho T' F' N' B' X' P' D' (allNe_intro fun q hq => hne _ (.head _) q hq)
theorem FnC.topO {O : Obj → Prop} (C : FnC prog w K d f args vs (fun v new => ∃ D o, v = .ref D ∧ new = [(D, o)] ∧ O o)) (B : Below A₀ h₀ [] h₀) (F : Fr h₀ L s.heap m) (X : K.In h₀) (N : News h₀ L s.heap news) (T : Top p loose mean mg mb h₀) (hk : cs.kind = .function) (ha : ∀ q ∈ args, q ∈ news)
    (hd : dp + d < recursionLimit) (hu : un + 12 * d < cLine)
    (ret : ∀ D o h' tk', O o → Fr h₀ L h' m → News h₀ L h' ((D, o) :: news) → AllNe D news → Q (.ref D) { s with heap := h', toks := tk' }) :
    wpC (model prog w) (ktrTop dp un gd cn cs L a ccd cl []) (call (.ref f) vs) Q E s :=
  FnC.useO C B F X N T X T ktsDicts_nil hk ha hd hu fun h₀' D₁ o h' tk' ho T' F' N' B' X' P' D' hne =>
    ret D₁ o h' tk' ho ⟨F'.ns, fun b o e => F'.keep b o (turn_nil T' b o e), by rw [← T'.size]; exact F'.above⟩ (fun q hq => ⟨(N' q hq).1, (N' q hq).2.1, by
      cases z : h₀.get? q.1 with
      | none => rfl
      | some o => have := (N' q hq).2.2; rw [turn_nil T' _ _ z] at this; cases this⟩) hne
end
section
variable {g g' h : Heap} {s : Shared} {args : List (Addr × Obj)} {fs : List Addr} {tk : Nat} {L' : Addr} {m' : Str → Option Value} {news' : List (Addr × Obj)}
theorem leaveT_obj {D : Addr} {o : Obj} {O : Obj → Prop} (T : KtsTurn fs g g') (F : Fr g' L' h m') (N : News g' L' h news') (ha : ∀ q ∈ args, q ∈ news') (hm : (D, o) ∈ news') (hne : ∀ p ∈ args, p.1 ≠ D) (ho : O o) :
    LeaveT fs g s args (fun v new => ∃ D o, v = Value.ref D ∧ new = [(D, o)] ∧ O o) (.ref D) { s with heap := h, toks := tk } :=
  leaveT_intro T F N ha [(D, o)] (fun q hq => by rw [List.mem_singleton.mp hq]; exact hm) (fun q hq p hp => by rw [List.mem_singleton.mp hq]; exact (hne p hp).symm) ⟨D, o, rfl, rfl, ho⟩
end
end Mine.Internal

end
section
open PySem PySem.W PyProof.Rows PySem.Calls PySem.Spec
namespace Mine.Internal
structure Wrap (P : Prop) : Prop where
  out : P
noncomputable def sk {α : Type} [Nonempty α] (G : α → Prop) : α := Classical.epsilon fun x => ¬ G x
theorem sk_all {α : Type} [Nonempty α] {G : α → Prop} (h : G (sk G)) (x : α) : G x :=
  Classical.byContradiction fun n => (Classical.epsilon_spec (p := fun x => ¬ G x) ⟨x, n⟩) h
end Mine.Internal

end
section
open PySem PySem.W PyProof.Rows PySem.Calls PySem.Spec
set_option maxRecDepth 100000
namespace Mine.Internal
structure Dat where
  w : World
  p : Program
  loose : List Str
  mean : ExcName → Option Value
  mg : Str → Option Value
  mb : Str → Option Value
  dp : Nat
  un : Nat
  gd : Option (List Code)
  cn : Str
  cs : Scope
  a : Addr
  ccd : Value
  cl : List (Str × Addr)
  outer : List Env
  base : Heap
  L : Addr
  g : Heap
  L' : Addr
  h₁ : Heap
  s : Shared
  E : Value → Shared → Prop
theorem dat_some (p : Program) : Nonempty Dat :=
  ⟨{ w := { draws := fun _ _ => 0, params := { strHash := fun _ => 0, shareClass := fun _ => 0, mergeTok := id, idOf := fun _ => 0, idOfShared := fun _ _ => 0, followText := fun _ => false, idOfImm := fun _ => 0 } }, p := p, loose := [], mean := fun _ => none, mg := fun _ => none, mb := fun _ => none, dp := 0, un := 0, gd := none, cn := Str.empty, cs := { kind := .function, names := [], isGenerator := false, isCoroutine := false }, a := 0, ccd := .none, cl := [], outer := [], base := {}, L := 0, g := {}, L' := 0, h₁ := {}, s := {}, E := fun _ _ => True }⟩
section
variable {name qual : Str} {params : Arguments} {body : List Stmt} {scope : Scope} {dV kV doc pm cdv ct oc : Value} {an od : Option Addr} {osl : Array (Option Value)} {vals : List Value} {binds : List (Str × Value)}
noncomputable def FnB (z : Dat) (prog : Program) (K : Frag) (d : Nat) (f : Addr) (args : List (Addr × Obj)) (vals : List Value) (ok : Value → List (Addr × Obj) → Prop)
    (_ho : K.lookup f = some ⟨oc, od, .func (fnOf name qual params body scope dV kV doc pm an cdv ct), osl⟩) (_hb : BindsTo z.s (fnOf name qual params body scope dV kV doc pm an cdv ct) ⟨vals, []⟩ binds) : Prop := Wrap (
  Fr z.g z.L' z.h₁ (fun y => binds.reverse.lookup y) → News z.g z.L' z.h₁ args → Below (ktrTop z.dp z.un z.gd z.cn z.cs z.L z.a z.ccd z.cl z.outer) z.base (envX z.cn z.cs z.L z.a z.ccd z.cl :: z.outer) z.g → K.In z.g → Top z.p z.loose z.mean z.mg z.mb z.g → z.cs.kind = .function → z.dp + d < recursionLimit → z.un + 12 * d < cLine →
    wpAny (model prog z.w) ((ktrTop z.dp z.un z.gd z.cn z.cs z.L z.a z.ccd z.cl z.outer).deeper (envOf qual scope z.L' f cdv)) (execs body (envOf qual scope z.L' f cdv))
        (fun fl s' => LeaveF z.g z.s args ok (match fl with | .ret v => v | _ => .none) s')
        (fun e s' => wpAny (model prog z.w) ((ktrTop z.dp z.un z.gd z.cn z.cs z.L z.a z.ccd z.cl z.outer).deeper (envOf qual scope z.L' f cdv)) (leaving (envOf qual scope z.L' f cdv) e) (fun _ s'' => z.E e s'') (fun e' s'' => z.E e' s'') s')
        { z.s with heap := z.h₁, toks := z.s.toks + binds.length })
theorem Fn.of_B {prog : Program} {w : World} {K : Frag} {d : Nat} {f : Addr} {args : List (Addr × Obj)} {ok : Value → List (Addr × Obj) → Prop}
    (ho : K.lookup f = some ⟨oc, od, .func (fnOf name qual params body scope dV kV doc pm an cdv ct), osl⟩) (hb : ∀ s, BindsTo s (fnOf name qual params body scope dV kV doc pm an cdv ct) ⟨vals, []⟩ binds)
    (h : ∀ z : Dat, z.w = w → FnB z prog K d f args vals ok ho (hb z.s))
    (hcd : codeIn K cdv qual = true) (hloc : ∀ y ∈ binds, scope.names.lookup y.1 = some .local) (hd : 0 < d)
    (hco : scope.isCoroutine = false) (hgen : scope.isGenerator = false) (hk : scope.kind = .function) (hcell : ∀ x ∈ scope.names, x.2 ≠ .cell) : Fn prog w K d f args vals ok := by
  intro p loose mean mg mb dp un gd cn cs a ccd cl outer A₀ base h₀ L m s Q E news hB hF hK hN hT hkd ha hdp hun ret
  refine fn_enter hB hF hK hN hT ha rfl rfl hkd ret ho hcd (show dp < recursionLimit by omega) (hb s) hloc ?_ hco hgen hk hcell
  intro g L' h₁ _ F1 N1 B1 X1 T1
  exact Wrap.out (h { w := w, p := p, loose := loose, mean := mean, mg := mg, mb := mb, dp := dp, un := un, gd := gd, cn := cn, cs := cs, a := a, ccd := ccd, cl := cl, outer := outer, base := base, L := L, g := g, L' := L', h₁ := h₁, s := s, E := E } rfl) F1 N1 B1 X1 T1 hkd hdp hun
noncomputable def FnTB (z : Dat) (prog : Program) (K : Frag) (d : Nat) (f : Addr) (args : List (Addr × Obj)) (vals : List Value) (ok : Value → List (Addr × Obj) → Prop)
    (_ho : K.lookup f = some ⟨oc, od, .func (fnOf name qual params body scope dV kV doc pm an cdv ct), osl⟩) (_hb : BindsTo z.s (fnOf name qual params body scope dV kV doc pm an cdv ct) ⟨vals, []⟩ binds) : Prop := Wrap (
  Fr z.g z.L' z.h₁ (fun y => binds.reverse.lookup y) → News z.g z.L' z.h₁ args → Below (ktrTop z.dp z.un z.gd z.cn z.cs z.L z.a z.ccd z.cl z.outer) z.base (envX z.cn z.cs z.L z.a z.ccd z.cl :: z.outer) z.g → K.In z.g → Top z.p z.loose z.mean z.mg z.mb z.g → K.In z.base → Top z.p z.loose z.mean z.mg z.mb z.base → KtsDicts (frs (envX z.cn z.cs z.L z.a z.ccd z.cl :: z.outer)) z.g → z.cs.kind = .function → z.dp + d < recursionLimit → z.un + 12 * d < cLine →
    wpAny (model prog z.w) ((ktrTop z.dp z.un z.gd z.cn z.cs z.L z.a z.ccd z.cl z.outer).deeper (envOf qual scope z.L' f cdv)) (execs body (envOf qual scope z.L' f cdv))
        (fun fl s' => LeaveT (frs (envX z.cn z.cs z.L z.a z.ccd z.cl :: z.outer)) z.g z.s args ok (match fl with | .ret v => v | _ => .none) s')
        (fun e s' => wpAny (model prog z.w) ((ktrTop z.dp z.un z.gd z.cn z.cs z.L z.a z.ccd z.cl z.outer).deeper (envOf qual scope z.L' f cdv)) (leaving (envOf qual scope z.L' f cdv) e) (fun _ s'' => z.E e s'') (fun e' s'' => z.E e' s'') s')
        { z.s with heap := z.h₁, toks := z.s.toks + binds.length })
theorem FnT.of_B {prog : Program} {w : World} {K : Frag} {d : Nat} {f : Addr} {args : List (Addr × Obj)} {ok : Value → List (Addr × Obj) → Prop}
    (ho : K.lookup f = some ⟨oc, od, .func (fnOf name qual params body scope dV kV doc pm an cdv ct), osl⟩) (hb : ∀ s, BindsTo s (fnOf name qual params body scope dV kV doc pm an cdv ct) ⟨vals, []⟩ binds)
    (h : ∀ z : Dat, z.w = w → FnTB z prog K d f args vals ok ho (hb z.s))
    (hcd : codeIn K cdv qual = true) (hloc : ∀ y ∈ binds, scope.names.lookup y.1 = some .local) (hd : 0 < d)
    (hco : scope.isCoroutine = false) (hgen : scope.isGenerator = false) (hk : scope.kind = .function) (hcell : ∀ x ∈ scope.names, x.2 ≠ .cell) : FnT prog w K d f args vals ok := by
  intro p loose mean mg mb dp un gd cn cs a ccd cl outer A₀ base h₀ L m s Q E news hB hF hK hN hT hKB hTB hD hkd ha hdp hun ret
  refine fnT_enter hB hF hK hN hT hKB hTB hD ha rfl rfl hkd ret ho hcd (show dp < recursionLimit by omega) (hb s) hloc ?_ hco hgen hk hcell
  intro g L' h₁ _ F1 N1 B1 X1 T1 XB1 TB1 D1
  exact Wrap.out (h { w := w, p := p, loose := loose, mean := mean, mg := mg, mb := mb, dp := dp, un := un, gd := gd, cn := cn, cs := cs, a := a, ccd := ccd, cl := cl, outer := outer, base := base, L := L, g := g, L' := L', h₁ := h₁, s := s, E := E } rfl) F1 N1 B1 X1 T1 XB1 TB1 D1 hkd hdp hun
noncomputable def FnCB (z : Dat) (prog : Program) (K : Frag) (d : Nat) (f : Addr) (args : List (Addr × Obj)) (vals : List Value) (ok : Value → List (Addr × Obj) → Prop)
    (_ho : K.lookup f = some ⟨oc, od, .func (fnOf name qual params body scope dV kV doc pm an cdv ct), osl⟩) (_hb : BindsTo z.s (fnOf name qual params body scope dV kV doc pm an cdv ct) ⟨vals, []⟩ binds) : Prop := Wrap (
  Fr z.g z.L' z.h₁ (fun y => binds.reverse.lookup y) → News z.g z.L' z.h₁ args → Below (ktrTop z.dp z.un z.gd z.cn z.cs z.L z.a z.ccd z.cl z.outer) z.base (envX z.cn z.cs z.L z.a z.ccd z.cl :: z.outer) z.g → K.In z.g → Top z.p z.loose z.mean z.mg z.mb z.g → K.In z.base → Top z.p z.loose z.mean z.mg z.mb z.base → KtsDicts (frs (envX z.cn z.cs z.L z.a z.ccd z.cl :: z.outer)) z.g → z.cs.kind = .function → z.dp + d < recursionLimit → z.un + 12 * d < cLine →
    wpC (model prog z.w) ((ktrTop z.dp z.un z.gd z.cn z.cs z.L z.a z.ccd z.cl z.outer).deeper (envOf qual scope z.L' f cdv)) (execs body (envOf qual scope z.L' f cdv))
        (fun fl s' => LeaveT (frs (envX z.cn z.cs z.L z.a z.ccd z.cl :: z.outer)) z.g z.s args ok (match fl with | .ret v => v | _ => .none) s')
        (fun e s' => wpAny (model prog z.w) ((ktrTop z.dp z.un z.gd z.cn z.cs z.L z.a z.ccd z.cl z.outer).deeper (envOf qual scope z.L' f cdv)) (leaving (envOf qual scope z.L' f cdv) e) (fun _ s'' => z.E e s'') (fun e' s'' => z.E e' s'') s')
        { z.s with heap := z.h₁, toks := z.s.toks + binds.length })
theorem FnC.of_B {prog : Program} {w : World} {K : Frag} {d : Nat} {f : Addr} {args : List (Addr × Obj)} {ok : Value → List (Addr × Obj) → Prop}
    (ho : K.lookup f = some ⟨oc, od, .func (fnOf name qual params body scope dV kV doc pm an cdv ct), osl⟩) (hb : ∀ s, BindsTo s (fnOf name qual params body scope dV kV doc pm an cdv ct) ⟨vals, []⟩ binds)
    (h : ∀ z : Dat, z.w = w → FnCB z prog K d f args vals ok ho (hb z.s))
    (hcd : codeIn K cdv qual = true) (hloc : ∀ y ∈ binds, scope.names.lookup y.1 = some .local) (hd : 0 < d)
    (hco : scope.isCoroutine = false) (hgen : scope.isGenerator = false) (hk : scope.kind = .function) (hcell : ∀ x ∈ scope.names, x.2 ≠ .cell) : FnC prog w K d f args vals ok := by
  intro p loose mean mg mb dp un gd cn cs a ccd cl outer A₀ base h₀ L m s Q E news hB hF hK hN hT hKB hTB hD hkd ha hdp hun ret
  refine fnC_enter hB hF hK hN hT hKB hTB hD ha rfl rfl hkd ret ho hcd (show dp < recursionLimit by omega) (hb s) hloc ?_ hco hgen hk hcell
  intro g L' h₁ _ F1 N1 B1 X1 T1 XB1 TB1 D1
  exact Wrap.out (h { w := w, p := p, loose := loose, mean := mean, mg := mg, mb := mb, dp := dp, un := un, gd := gd, cn := cn, cs := cs, a := a, ccd := ccd, cl := cl, outer := outer, base := base, L := L, g := g, L' := L', h₁ := h₁, s := s, E := E } rfl) F1 N1 B1 X1 T1 XB1 TB1 D1 hkd hdp hun
end
end Mine.Internal

end
section
open PySem PySem.W PyProof.Rows PySem.Calls PySem.Spec
set_option maxRecDepth 100000
namespace Mine.Internal
section
variable {α : Type} {M : Model} {A : Around} {E : Value → Shared → Prop} {s : Shared} {env : Env}
theorem wpC_runOwn {c : Code} {h : Option Value} {Q : Flow → Shared → Prop}
    (hc : codeC M (A.mark h) c (fun r s' => match r with | .ok f => Q f s' | .error e => cameBackBy M A env E e s') s) (hnb : autoParam (h ≠ some byPass) PySem.wpAny_run._auto_3) :
    wpC M A (runOwn c env h) Q E s := by
  unfold runOwn
  exact wpC_onRaise (wpC_mono (wpC_run hc hnb) (fun _ _ x => x) fun _ _ x => wpC_of x)
theorem wpC_noted {m : Sem α} {Q : α → Shared → Prop} (h : wpC M A m Q (notedBy M A env E) s) : wpC M A (m.onRaise fun x => do noteFrame x env; theTreesLotGoes x) Q E s :=
  wpC_onRaise (wpC_mono h (fun _ _ q => q) fun _ _ hx => wpC_of (wpAny_bind (wpAny_mono hx (fun _ _ e => wpAny_theTreesLotGoes e) fun _ _ e => e)))
theorem codeC_loop {c : Code} {R : Result → Shared → Prop} (hq : c.quiet = true) (I : Nat → Shared → Prop)
    (turn : ∀ n s, I n s → wpC M (A.under c) (M.den c)
      (fun fin s' => match fin with
        | .done f => R (.ok f) s'
        | .again c' => (c' = c ∧ ∃ m, m < n ∧ I m s') ∨ (c'.quiet = true ∧ codeC M A c' R s')) (fun e s' => R (.error e) s') s)
    (n : Nat) (h : I n s) : codeC M A c R s := by
  induction n using Nat.strongRecOn generalizing s with
  | ind n ih =>
    refine codeC_of_tree (wpC_mono (turn n s h) (fun fin s' hf => ?_) fun _ _ h' => h')
    cases fin with
    | done f => exact hf
    | again c' =>
      rcases hf with ⟨rfl, m, hm, hI⟩ | hf
      · exact ⟨hq, ih m hm hI⟩
      · exact hf
end
section
variable {prog : Program} {w : World} {A : Around} {E : Value → Shared → Prop} {s : Shared}
theorem codeC_block {stmts : List Stmt} {env : Env} {R : Result → Shared → Prop}
    (h : wpC (model prog w) A (execs stmts env) (fun f s' => R (.ok f) s') (notedBy (model prog w) A env fun e s' => R (.error e) s') s) : codeC (model prog w) A (.block stmts env) R s := by
  refine codeC_of_tree ?_
  show wpC _ _ (do return Fin.done (← (execs stmts env).onRaise (fun x => do noteFrame x env; theTreesLotGoes x))) _ _ s
  exact wpC_bind (wpC_noted (wpC_mono h (fun f s' h' => wpC_pure h') fun _ _ h' => h'))
theorem codeC_forLoop {R : Result → Shared → Prop} {target it body orelse env} (I : Nat → Shared → Prop)
    (turn : ∀ n s, I n s → wpAny (model prog w) A (pyNext it) (fun r s₁ => match r with
      | none => wpC (model prog w) A (execs orelse env) (fun f s₃ => R (.ok f) s₃) (notedBy (model prog w) A env fun e s' => R (.error e) s') s₁
      | some v => wpAny (model prog w) A (assign target env v) (fun _ s₂ => wpC (model prog w) A (execs body env) (fun f s₃ => match f with
          | .next | .cont => ∃ m, m < n ∧ I m s₃
          | .brk => R (.ok .next) s₃
          | .ret v => R (.ok (.ret v)) s₃) (notedBy (model prog w) A env fun e s' => R (.error e) s') s₂) (notedBy (model prog w) A env fun e s' => R (.error e) s') s₁) (notedBy (model prog w) A env fun e s' => R (.error e) s') s)
    (n : Nat) (h : I n s) (ht : autoParam (∀ v, letOwnedTupleGo target it v = pure ()) PySem.wpAny_For._auto_3) : codeC (model prog w) A (.forLoop target it body orelse env) R s := by
  refine codeC_loop rfl I (fun n s hI => ?_) n h
  show wpC _ _ ((forTurn target it body orelse env).onRaise (fun x => do noteFrame x env; theTreesLotGoes x)) _ _ s
  refine wpC_noted ?_
  simp only [forTurn]
  refine wpC_then (wpAny_standAt (wpC_then (wpAny_onRaise (wpAny_mono (turn n s hI) (fun r s₁ h₁ => ?_) fun _ _ h' => wpAny_standAt h'))))
  cases r with
  | none => exact wpC_pure (.inr ⟨rfl, codeC_block h₁⟩)
  | some v =>
    refine wpC_then (wpAny_of_eq (ht v) ?_)
    refine wpC_then (wpAny_mono h₁ (fun _ s₂ h₂ => wpC_bind (wpC_mono h₂ (fun f s₃ h₃ => ?_) fun _ _ h' => h')) fun _ _ h' => h')
    cases f with
    | next => exact wpC_pure (.inl ⟨rfl, h₃⟩)
    | cont => exact wpC_pure (.inl ⟨rfl, h₃⟩)
    | brk => exact wpC_pure h₃
    | ret v => exact wpC_pure h₃
theorem wpC_For {target iter : PySem.Expr} {body orelse : List Stmt} {pos : Pos} {env : Env} {Q : Flow → Shared → Prop}
    (h : wpAny (model prog w) A (eval iter env) (fun x s₁ => wpAny (model prog w) A (pyIter x) (fun it s₂ =>
      codeC (model prog w) A (.forLoop target it body orelse env) (fun r s' => match r with | .ok f => Q f s' | .error e => cameBackBy (model prog w) A env E e s') s₂) E s₁) E s)
    (hs : autoParam (∀ x, foldedSetIterable iter env x = pure x) PySem.wpAny_For._auto_3) :
    wpC (model prog w) A (exec (.For target iter body orelse pos) env) Q E s := by
  rw [exec_For]
  exact wpC_then (wpAny_standAt (wpC_then (wpAny_mono h (fun x s₁ h₁ => wpC_then (wpAny_of_eq (hs x) (wpC_then (wpAny_standAt (wpC_then (wpAny_holding
    (wpAny_mono h₁ (fun it s₂ h₂ => wpC_runOwn h₂) fun _ _ h' => h'))))))) fun _ _ h' => h')))
end

section
variable {prog : Program} {w : World} {A : Around} {E : Value → Shared → Prop} {s : Shared} {env : Env} {h₀ : Heap} {body : List Stmt} {target : PySem.Expr} {Q : Flow → Shared → Prop}
noncomputable def TurnEnd (h₀ : Heap) (L : Addr) (J : (Str → Option Value) → List (Addr × Obj) → Prop) (I : Addr) (io : Obj) (s₂ s₃ : Shared) : Prop :=
  ∃ h' tk m' news', s₃ = { s₂ with heap := h', toks := tk } ∧ Fr h₀ L h' m' ∧ News h₀ L h' ((I, io) :: news') ∧ AllNe I news' ∧ J m' news'
noncomputable def TurnPost (h₀ : Heap) (L : Addr) (J : (Str → Option Value) → List (Addr × Obj) → Prop) (I : Addr) (io : Obj) (Q : Flow → Shared → Prop) (s₂ : Shared) (f : Flow) (s₃ : Shared) : Prop :=
  match f with
  | .ret v => Q (.ret v) s₃
  | .brk => Q .next s₃
  | _ => TurnEnd h₀ L J I io s₂ s₃
noncomputable abbrev LoopC (prog : Program) (w : World) (A : Around) (h₀ : Heap) (env : Env) (target : PySem.Expr) (body : List Stmt) (l : Addr) (vs : List Value) (news : List (Addr × Obj)) (Q : Flow → Shared → Prop) (E : Value → Shared → Prop) (m : Str → Option Value) (s : Shared) : Prop :=
  ∃ (lo : Obj) (J : Nat → (Str → Option Value) → List (Addr × Obj) → Prop), (∀ i m news, J i m news → (l, lo) ∈ news) ∧ J 0 m news ∧
    (∀ i v m₁ news₁ I io h tk, vs[i]? = some v → J i m₁ news₁ → AllNe I news₁ → Fr h₀ env.locals h m₁ → News h₀ env.locals h ((I, io) :: news₁) →
      wpAny (model prog w) A (assign target env v) (fun _ s₂ => wpC (model prog w) A (execs body env) (TurnPost h₀ env.locals (J (i + 1)) I io Q { s with heap := h, toks := tk }) E s₂) E { s with heap := h, toks := tk }) ∧
    (∀ m₁ news₁ h tk, J vs.length m₁ news₁ → Fr h₀ env.locals h m₁ → News h₀ env.locals h news₁ → Q .next { s with heap := h, toks := tk })
end

section
variable {prog : Program} {w : World} {A : Around} {s : Shared}
theorem enterC {f : Value} {pos : List Value} {kw : List (Str × Value)} {c : ClaimW} {cl : Str → Option Addr} {mean : ExcName → Option Value} {args : List WData} {s₁ : Shared}
    (h : codeC (model prog w) A (.call f ⟨pos, kw⟩) (GoodWG c cl mean args s₁) s) : wpC (model prog w) A (PySem.call f pos kw) (fun v s' => GoodWG c cl mean args s₁ (.ok (.ret v)) s') (fun e s' => GoodWG c cl mean args s₁ (.error e) s') s :=
  wpC_call (codeC_mono h fun res s' g => by rcases g.1 with ⟨v, _, _, rfl, _⟩ | ⟨e, _, _, rfl, _⟩ <;> exact g)
end
end Mine.Internal
namespace Mine.Internal
open PySem PySem.W PyProof.Rows PySem.Calls PySem.Spec
section
variable {prog : Program} {w : World} {K : Frag} {d : Nat} {f : Addr} {args : List (Addr × Obj)} {vs : List Value} {p : Program} {loose : List Str} {mean : ExcName → Option Value} {mg mb : Str → Option Value} {dp un : Nat} {gd : Option (List Code)} {cn : Str} {cs : Scope} {a : Addr} {ccd : Value} {cl : List (Str × Addr)} {outer : List Env} {A₀ : Around} {base h₀ : Heap} {L : Addr} {m : Str → Option Value} {s : Shared} {Q E : Value → Shared → Prop} {news : List (Addr × Obj)}
end
end Mine.Internal
namespace Mine.Internal
structure Stop (P : Prop) : Prop where
  out : P
end Mine.Internal
namespace Mine.Internal
open PySem PySem.W PyProof.Rows PySem.Calls PySem.Spec
theorem map_pin {m : Str → Option Value} {x : Str} {v : Value} (h : m x = some v) : m = fun y => if y = x then some v else m y := by
  funext y
  by_cases e : y = x
  · subst e; simp [h]
  · simp [e]
end Mine.Internal
namespace Mine.Internal
open PySem PySem.W PyProof.Rows PySem.Calls PySem.Spec
section
variable {prog : Program} {w : World} {A : Around} {E : Value → Shared → Prop} {s : Shared} {env : Env} {h₀ : Heap} {body : List Stmt} {target : PySem.Expr} {Q : Flow → Shared → Prop}
end
end Mine.Internal
namespace Mine.Internal
open PySem PySem.W PyProof.Rows PySem.Calls PySem.Spec
theorem pinR {h₀ h : Heap} {L R : Addr} {m : Str → Option Value} (_F : Fr h₀ L h m) (x : Str) (e : m x = some (.ref R)) : ∃ R', R' = R ∧ m x = some (.ref R') := ⟨R, rfl, e⟩
end Mine.Internal
namespace Mine.Internal
open PySem PySem.W PyProof.Rows PySem.Calls PySem.Spec
end Mine.Internal
namespace Mine.Internal
open PySem PySem.W PyProof.Rows PySem.Calls PySem.Spec
theorem news_dup {g h : Heap} {L : Addr} {a : Addr × Obj} {t : List (Addr × Obj)} (N : News g L h t) (hm : a ∈ t) : News g L h (a :: t) := fun p hp => N p (by
  rcases List.mem_cons.mp hp with rfl | hp
  · exact hm
  · exact hp)
end Mine.Internal
namespace Mine.Internal
open PySem PySem.W PyProof.Rows PySem.Calls PySem.Spec
section
variable {prog : Program} {w : World} {K : Frag} {d : Nat} {f : Addr} {vs : List Value} {p : Program} {loose : List Str} {mean : ExcName → Option Value} {mg mb : Str → Option Value} {dp un : Nat} {gd : Option (List Code)} {cn : Str} {cs : Scope} {a : Addr} {ccd : Value} {cl : List (Str × Addr)} {outer : List Env} {A₀ : Around} {base h₀ : Heap} {L : Addr} {m : Str → Option Value} {s : Shared} {Q E : Value → Shared → Prop} {news : List (Addr × Obj)} {q : Addr × Obj}
theorem mem_one {q : Addr × Obj} (hm : q ∈ news) : ∀ r ∈ [q], r ∈ news := fun r hr => by rw [List.mem_singleton.mp hr]; exact hm
theorem Fn.useVA {mk : Tok → Value} (N : News h₀ L s.heap news) (hm : q ∈ news) (C : Fn prog w K d f [q] vs (fun v new => new = [] ∧ ∃ t, v = mk t)) (B : Below A₀ base outer h₀) (F : Fr h₀ L s.heap m) (X : K.In h₀) (T : Top p loose mean mg mb h₀) (hk : cs.kind = .function)
    (hd : dp + d < recursionLimit) (hu : un + 12 * d < cLine)
    (ret : ∀ t h' tk', Fr h₀ L h' m → News h₀ L h' news → Q (mk t) { s with heap := h', toks := tk' }) :
    wpAny (model prog w) (ktrTop dp un gd cn cs L a ccd cl outer) (call (.ref f) vs) Q E s := Fn.useV C B F X N T hk (mem_one hm) hd hu ret
end
end Mine.Internal
namespace Mine.Internal
open PySem PySem.W PyProof.Rows PySem.Calls PySem.Spec
theorem wpC_CallK {M : Model} {A : Around} {E : Value → Shared → Prop} {s : Shared} {env : Env} {K : Frag} {hp : Heap} (_X : K.In hp) {func e : PySem.Expr} {rest : List PySem.Expr} {pos : Pos} {Q : Value → Shared → Prop}
    (h : wpAny M A (eval func env) (fun f s₁ => keepIn K f = true ∧ wpAny M A (spliced (backTo pos (starEach (e :: rest) env))) (fun vs s₂ => K.In s₂.heap ∧ wpC M A (call f vs) Q E s₂) E s₁) E s)
    (hc : autoParam (eval (.Call func (e :: rest) [] pos) env = (do callWith pos (← eval func env) [] (backTo pos (starEach (e :: rest) env)) (backToKw pos (keywordEach [] env)))) PySem.W.call_K._auto_4)
    (he : autoParam (starEach (e :: rest) env = (false, eval e env) :: starEach rest env) PySem.W.call_K._auto_4) (hplain : autoParam ((backTo pos (starEach rest env)).any (·.1) = false) PySem.W.call_K._auto_4) :
    wpC M A (eval (.Call func (e :: rest) [] pos) env) Q E s := wpC_Call h hc he hplain
end Mine.Internal

end
section
open PySem PySem.W PyProof.Rows PySem.Calls PySem.Spec
open PySem.Builtin PySem.Builtin.Str PySem.NumText
set_option maxRecDepth 100000
namespace Mine.Internal
theorem tx_ex : ∃ f : List Nat → PySem.Str, ∀ l, f l = ⟨l.toArray⟩ := ⟨_, fun _ => rfl⟩
noncomputable def tx : List Nat → PySem.Str := Classical.choose tx_ex
theorem tx_def (l : List Nat) : tx l = ⟨l.toArray⟩ := Classical.choose_spec tx_ex l
theorem tx_toList (l : List Nat) : (tx l).cps.toList = l := by simp [tx_def]
theorem tx_length (l : List Nat) : (tx l).length = l.length := by simp [tx_def, PySem.Str.length]
theorem tx_append (a b : List Nat) : tx a ++ tx b = tx (a ++ b) := by
  have e : (tx a ++ tx b).cps = (tx (a ++ b)).cps := by
    rw [PySem.Str.cps_append]; simp [tx_def]
  exact congrArg PySem.Str.mk e
theorem tx_inj {a b : List Nat} (h : tx a = tx b) : a = b := by
  have := congrArg (fun x => x.cps.toList) h
  simpa [tx_toList] using this
noncomputable def fig (n : Int) : Nat := 48 + (n % 10).toNat
noncomputable def dg2 (n : Int) : List Nat := [fig (n / 10), fig n]
noncomputable def dg3 (n : Int) : List Nat := [fig (n / 100), fig (n / 10), fig n]
noncomputable def dg4 (n : Int) : List Nat := [fig (n / 1000), fig (n / 100), fig (n / 10), fig n]
noncomputable def dgs (n : Int) : List Nat := if n < 10 then [fig n] else if n < 100 then dg2 n else if n < 1000 then dg3 n else dg4 n
theorem fig_lo (n : Int) : 48 ≤ fig n := Nat.le_add_right ..
theorem fig_hi (n : Int) : fig n ≤ 57 := by unfold fig; omega
theorem dgs_digits {n : Int} : AllDigits (dgs n) := by
  intro c hc
  unfold dgs dg2 dg3 dg4 at hc
  have key : ∀ k, c = fig k → 48 ≤ c ∧ c ≤ 57 := fun k e => e ▸ ⟨fig_lo k, fig_hi k⟩
  split at hc
  · simp only [List.mem_cons, List.not_mem_nil, or_false] at hc; exact key _ hc
  · split at hc
    · simp only [List.mem_cons, List.not_mem_nil, or_false] at hc; rcases hc with h | h <;> exact key _ h
    · split at hc <;> simp only [List.mem_cons, List.not_mem_nil, or_false] at hc
      · rcases hc with h | h | h <;> exact key _ h
      · rcases hc with h | h | h | h <;> exact key _ h
theorem fig_sub (n : Int) : fig n - 48 = (n % 10).toNat := Nat.add_sub_cancel_left ..
theorem val_last {n : Int} (h0 : 0 ≤ n) : (n / 10).toNat * 10 + (fig n - 48) = n.toNat := by
  rw [fig_sub]
  obtain ⟨k, rfl⟩ := Int.eq_ofNat_of_zero_le h0
  exact Nat.div_add_mod' k 10
theorem val_one {n : Int} (h0 : 0 ≤ n) (h1 : n < 10) : fig n - 48 = n.toNat := by rw [fig_sub, Int.emod_eq_of_lt h0 h1]
theorem div_div (n a b c : Int) (ha : 0 ≤ a) (e : a * b = c) : n / a / b = n / c := by rw [← e, Int.ediv_ediv_of_nonneg ha]
theorem val_two {n : Int} (h0 : 0 ≤ n) (h1 : n < 100) : (fig (n / 10) - 48) * 10 + (fig n - 48) = n.toNat := by
  rw [val_one (n := n / 10) (Int.ediv_nonneg h0 (by decide)) (by omega), val_last h0]
theorem val_three {n : Int} (h0 : 0 ≤ n) (h1 : n < 1000) : ((fig (n / 100) - 48) * 10 + (fig (n / 10) - 48)) * 10 + (fig n - 48) = n.toNat := by
  have := val_two (n := n / 10) (Int.ediv_nonneg h0 (by decide)) (by omega)
  rw [div_div n 10 10 100 (by decide) (by decide)] at this
  rw [this, val_last h0]
theorem val_four {n : Int} (h0 : 0 ≤ n) (h1 : n < 10000) : (((fig (n / 1000) - 48) * 10 + (fig (n / 100) - 48)) * 10 + (fig (n / 10) - 48)) * 10 + (fig n - 48) = n.toNat := by
  have := val_three (n := n / 10) (Int.ediv_nonneg h0 (by decide)) (by omega)
  rw [div_div n 10 100 1000 (by decide) (by decide), div_div n 10 10 100 (by decide) (by decide)] at this
  rw [this, val_last h0]
theorem dgs_val {n : Int} (h0 : 0 ≤ n) (h1 : n < 10000) : digitsVal (dgs n) = n.natAbs := by
  rw [show n.natAbs = n.toNat by omega]
  unfold dgs dg2 dg3 dg4 digitsVal
  split
  · simp only [List.foldl, Nat.zero_mul, Nat.zero_add]; exact val_one h0 (by assumption)
  · split
    · simp only [List.foldl, Nat.zero_mul, Nat.zero_add]; exact val_two h0 (by assumption)
    · split
      · simp only [List.foldl, Nat.zero_mul, Nat.zero_add]; exact val_three h0 (by assumption)
      · simp only [List.foldl, Nat.zero_mul, Nat.zero_add]; exact val_four h0 h1
theorem charsT : ∀ k : Nat, k < 10 → (Char.ofNat (48 + k)).toNat = 48 + k := by decide +kernel
theorem fig_char (n : Int) : (Char.ofNat (fig n)).toNat = fig n := charsT _ (by omega)
theorem dgs_chars (n : Int) : ((dgs n).map Char.ofNat).map Char.toNat = dgs n := by
  unfold dgs dg2 dg3 dg4
  split
  · simp only [List.map, fig_char]
  · split
    · simp only [List.map, fig_char]
    · split <;> simp only [List.map, fig_char]

theorem fig_ge {n : Int} (h : 1 ≤ n % 10) : 49 ≤ fig n := by unfold fig; omega
theorem dgs_toDigits {n : Int} (h0 : 0 ≤ n) (h1 : n < 10000) : (Nat.toDigits 10 n.natAbs).map Char.toNat = dgs n := by
  rw [← dgs_val h0 h1]
  have hd := dgs_digits (n := n)
  have key : ∀ k, (dgs n).length = k + 1 → (k = 0 ∨ ∃ c r, dgs n = c :: r ∧ 49 ≤ c) → (Nat.toDigits 10 (digitsVal (dgs n))).map Char.toNat = dgs n := fun k hk hc => by
    rw [toDigits_digitsVal k (dgs n) hk hd hc]
    exact dgs_chars n
  by_cases h10 : n < 10
  · exact key 0 (by simp [dgs, h10]) (.inl rfl)
  · by_cases h100 : n < 100
    · exact key 1 (by simp [dgs, dg2, h10, h100]) (.inr ⟨fig (n / 10), [fig n], by simp [dgs, dg2, h10, h100], fig_ge (by omega)⟩)
    · by_cases h1000 : n < 1000
      · exact key 2 (by simp [dgs, dg3, h10, h100, h1000]) (.inr ⟨fig (n / 100), [fig (n / 10), fig n], by simp [dgs, dg3, h10, h100, h1000], fig_ge (by omega)⟩)
      · exact key 3 (by simp [dgs, dg4, h10, h100, h1000]) (.inr ⟨fig (n / 1000), [fig (n / 100), fig (n / 10), fig n], by simp [dgs, dg4, h10, h100, h1000], fig_ge (by omega)⟩)
theorem dgs_text {n : Int} (h0 : 0 ≤ n) (h1 : n < 10000) : (PySem.Str.ofString (toString ((n.natAbs : Nat) : Int))).cps.toList = dgs n := by
  rw [KIN.signs_num, dgs_toDigits h0 h1]
theorem fig_zero {n : Int} (h0 : 0 ≤ n) (h : n < 10) (k : Int) (hk : n / k = 0) : fig (n / k) = 48 := by rw [hk]; rfl

theorem pad2 {f : Percent} (hf : f = { zero := true, width := some 2, type := 100 }) {n : Int} (h0 : 0 ≤ n) (h1 : n < 100) {d : List Nat} (hd : d = (PySem.Str.ofString (toString ((n.natAbs : Nat) : Int))).cps.toList) :
    (percentField f true (percentInt f (decide (n < 0)) d)).getD (percentInt f (decide (n < 0)) d) = dg2 n := by
  subst hf hd
  rw [dgs_text h0 (by omega)]
  have hn : decide (n < 0) = false := decide_eq_false (by omega)
  rw [hn]
  by_cases h10 : n < 10
  · have e : dgs n = [fig n] := by simp [dgs, h10]
    rw [e]
    have h2 := fig_hi n
    have h3 := fig_lo n
    have z : fig (n / 10) = 48 := fig_zero h0 h10 10 (by omega)
    have e1 : fig n ≠ 45 := by omega
    have e2 : fig n ≠ 43 := by omega
    simp [percentInt, percentField, dg2, z, e1, e2]
  · have e : dgs n = dg2 n := by simp [dgs, h10, h1]
    rw [e]
    simp [percentInt, percentField, dg2]
theorem pad4 {f : Percent} (hf : f = { zero := true, width := some 4, type := 100 }) {n : Int} (h0 : 0 ≤ n) (h1 : n < 10000) {d : List Nat} (hd : d = (PySem.Str.ofString (toString ((n.natAbs : Nat) : Int))).cps.toList) :
    (percentField f true (percentInt f (decide (n < 0)) d)).getD (percentInt f (decide (n < 0)) d) = dg4 n := by
  subst hf hd
  rw [dgs_text h0 (by omega)]
  have hn : decide (n < 0) = false := decide_eq_false (by omega)
  rw [hn]
  have hz : ∀ k : Int, n / k = 0 → fig (n / k) = 48 := fun k hk => by rw [hk]; rfl
  have ne : ∀ k : Int, fig k ≠ 45 ∧ fig k ≠ 43 := fun k => by have := fig_lo k; omega
  by_cases h10 : n < 10
  · have e : dgs n = [fig n] := by simp [dgs, h10]
    rw [e]
    simp [percentInt, percentField, dg4, hz 10 (by omega), hz 100 (by omega), hz 1000 (by omega), ne]
  · by_cases h100 : n < 100
    · have e : dgs n = dg2 n := by simp [dgs, h10, h100]
      rw [e]
      simp [percentInt, percentField, dg4, dg2, hz 100 (by omega), hz 1000 (by omega), ne]
    · by_cases h1000 : n < 1000
      · have e : dgs n = dg3 n := by simp [dgs, h10, h100, h1000]
        rw [e]
        simp [percentInt, percentField, dg4, dg3, hz 1000 (by omega), ne]
      · have e : dgs n = dg4 n := by simp [dgs, h10, h100, h1000]
        rw [e]
        simp [percentInt, percentField, dg4]
theorem pad0 {f : Percent} (hf : f = { type := 100 }) {n : Int} (h0 : 0 ≤ n) (h1 : n < 10000) {d : List Nat} (hd : d = (PySem.Str.ofString (toString ((n.natAbs : Nat) : Int))).cps.toList) :
    (percentField f true (percentInt f (decide (n < 0)) d)).getD (percentInt f (decide (n < 0)) d) = dgs n := by
  subst hf hd
  rw [dgs_text h0 (by omega)]
  have hn : decide (n < 0) = false := decide_eq_false (by omega)
  rw [hn]
  simp [percentInt, percentField]
end Mine.Internal

end
section
open PySem PySem.W PyProof.Rows PySem.Calls PySem.Spec
open PySem.Builtin PySem.Builtin.Str PySem.NumText
set_option maxRecDepth 100000
namespace Mine.Internal
section
variable {M : Model} {A : Around} {E : Value → Shared → Prop} {s : Shared} {l : List Nat} {p : List Value} {r : List Nat}
  {f : Nat → List Value × Writer × List Nat → Sem (ForInStep (List Value × Writer × List Nat))} {Q : List Value × Writer × List Nat → Shared → Prop}
  {w : Writer} {N K : Nat} {o : Option Value} {a b x : List Nat}
theorem fmt_start (h : ∀ w', KPc.Good w' (tx []) 0 → wpAny M A (forIn l (p, w', r) f) Q E s) : wpAny M A (forIn l (p, ({} : Writer), r) f) Q E s := KPc.start (by rw [tx_def] at h; exact h)
theorem fmt_add (K : Nat) (g : KPc.Good w (tx a) N) (hx : x = b) (hK : b.length ≤ K) (ho : KPc.Obj o (tx b)) (h : ∀ w', KPc.Good w' (tx (a ++ b)) (N + K) → wpAny M A (forIn l (p, w', r) f) Q E s) : wpAny M A (forIn l (p, w.add ⟨x.toArray⟩ o, r) f) Q E s := by
  subst hx
  have e : (⟨x.toArray⟩ : PySem.Str) = tx x := (tx_def x).symm
  rw [e]
  refine h _ ?_
  have := KPc.good_mono (KPc.good_add g ho) (K := N + K) (by rw [tx_length]; omega)
  rw [tx_append] at this
  exact this
theorem fmt_pad {β : Type} {k : List Nat → Option Value → Sem β} {Q' : β → Shared → Prop} {fd : Percent} {text laid : List Nat} {o : Option Value} (h : (percentField fd true text).getD text = laid) (ho : o = Option.none) (hk : wpAny M A (k laid Option.none) Q' E s) :
    wpAny M A (match percentField fd true text with | Option.none => k text o | some t => k t Option.none) Q' E s := by
  subst ho
  cases e : percentField fd true text with
  | none => rw [e] at h; cases h; exact hk
  | some t => rw [e] at h; cases h; exact hk
end
theorem str_obj {y : PySem.Str} {t : Tok} {c : Prop} [Decidable c] : KPc.Obj (if c then some (.str y t) else Option.none) y := by
  split
  · exact KPc.obj_some rfl
  · exact KPc.obj_none rfl
theorem dgs_len (n : Int) : (dgs n).length ≤ 4 := by
  unfold dgs dg2 dg3 dg4
  split
  · simp
  · split
    · simp
    · split <;> simp
theorem fmt_run {b : Addr} {its : Array Value} {F : PySem.Str} {T : PySem.Str} {t : Tok}
    (h : ∀ (prog : Program) (w : World) (A : Around) (s : Shared) (Q : Fin → Shared → Prop) (E : Value → Shared → Prop), IsTup s.heap b its → (∀ t' k, Q (.done (.ret (.str T t'))) { s with toks := k }) → wpAny (model prog w) A (percentFormat (.str F t) F (.ref b)) Q E s) :
    Meets («str.__mod__» ⟨[.str F t, .ref b], []⟩) (fun _ R s => IsTup s.heap b its ∧ ∀ t' k, R (.ok (.ret (.str T t'))) { s with toks := k }) := by
  apply KPt.meets_tup
  intro prog w A s Q E h1 h2
  rw [KPt.entry_is_r]
  exact h prog w A s Q E h1 h2
theorem fmt_run1 {F : PySem.Str} {T : PySem.Str} {t u : Tok} {n : Int}
    (h : ∀ (prog : Program) (w : World) (A : Around) (s : Shared) (Q : Fin → Shared → Prop) (E : Value → Shared → Prop), (∀ t' k, Q (.done (.ret (.str T t'))) { s with toks := k }) → wpAny (model prog w) A (percentFormat (.str F t) F (.int n u)) Q E s) :
    Meets («str.__mod__» ⟨[.str F t, .int n u], []⟩) (fun _ R s => ∀ t' k, R (.ok (.ret (.str T t'))) { s with toks := k }) := by
  apply KPc.meets_of
  intro prog w A s Q E h1
  rw [KPc.entry_is]
  exact h prog w A s Q E h1

noncomputable abbrev FBody := Nat → List Value × Writer × List Nat → Sem (ForInStep (List Value × Writer × List Nat))
structure LitOk (n : Nat) (cs : List Nat) : Prop where
  no : cs.all (· != 37) = true
  ne : cs.isEmpty = false
  le : cs.length ≤ 8
  whole : (cs.length == n) = false
theorem LitOk.of {n : Nat} {cs : List Nat} (h : (cs.all (· != 37) && (!cs.isEmpty && (decide (cs.length ≤ 8) && !(cs.length == n)))) = true) : LitOk n cs := by
  rw [Bool.and_eq_true, Bool.and_eq_true, Bool.and_eq_true] at h
  exact ⟨h.1, by simpa using h.2.1, of_decide_eq_true h.2.2.1, by simpa using h.2.2.2⟩
structure Turns (n : Nat) (M : Model) (A : Around) (E : Value → Shared → Prop) (s : Shared) (f : FBody) (Q : List Value × Writer × List Nat → Shared → Prop) (R : Fin → Shared → Prop) : Prop where
  lit : ∀ {cs r : List Nat} {p : List Value} {a : List Nat} {w : Writer} {N k x : Nat} {l : List Nat}, LitOk n cs → KPc.Good w (tx a) N → N ≤ 1000 →
    (∀ w' k, KPc.Good w' (tx (a ++ cs)) (N + 8) → wpAny M A (forIn l (p, w', 37 :: r) f) Q E { s with toks := k }) → wpAny M A (forIn (x :: l) (p, w, cs ++ 37 :: r) f) Q E { s with toks := k }
  lend : ∀ {cs : List Nat} {p : List Value} {a : List Nat} {w : Writer} {N k x : Nat} {l : List Nat}, LitOk n cs → KPc.Good w (tx a) N → N ≤ 1000 →
    (∀ w' k, KPc.Good w' (tx (a ++ cs)) (N + 8) → wpAny M A (forIn l (p, w', []) f) Q E { s with toks := k }) → wpAny M A (forIn (x :: l) (p, w, cs) f) Q E { s with toks := k }
  num4 : ∀ {n : Int} {t : Tok} {r : List Nat} {p : List Value} {a : List Nat} {w : Writer} {N k x : Nat} {l : List Nat}, 0 ≤ n → n < 10000 → KPc.Good w (tx a) N → N ≤ 1000 →
    (∀ w' k, KPc.Good w' (tx (a ++ dg4 n)) (N + 4) → wpAny M A (forIn l (p, w', r) f) Q E { s with toks := k }) → wpAny M A (forIn (x :: l) (.int n t :: p, w, 37 :: 48 :: 52 :: 100 :: r) f) Q E { s with toks := k }
  num2 : ∀ {n : Int} {t : Tok} {r : List Nat} {p : List Value} {a : List Nat} {w : Writer} {N k x : Nat} {l : List Nat}, 0 ≤ n → n < 100 → KPc.Good w (tx a) N → N ≤ 1000 →
    (∀ w' k, KPc.Good w' (tx (a ++ dg2 n)) (N + 2) → wpAny M A (forIn l (p, w', r) f) Q E { s with toks := k }) → wpAny M A (forIn (x :: l) (.int n t :: p, w, 37 :: 48 :: 50 :: 100 :: r) f) Q E { s with toks := k }
  num : ∀ {n : Int} {t : Tok} {r : List Nat} {p : List Value} {a : List Nat} {w : Writer} {N k x : Nat} {l : List Nat}, 0 ≤ n → n < 10000 → KPc.Good w (tx a) N → N ≤ 1000 →
    (∀ w' k, KPc.Good w' (tx (a ++ dgs n)) (N + 4) → wpAny M A (forIn l (p, w', r) f) Q E { s with toks := k }) → wpAny M A (forIn (x :: l) (.int n t :: p, w, 37 :: 100 :: r) f) Q E { s with toks := k }
  str : ∀ {b : List Nat} {t : Tok} {r : List Nat} {p : List Value} {a : List Nat} {w : Writer} {N k x : Nat} {l : List Nat}, b.length ≤ 40 → KPc.Good w (tx a) N → N ≤ 1000 →
    (∀ w' k, KPc.Good w' (tx (a ++ b)) (N + 40) → wpAny M A (forIn l (p, w', r) f) Q E { s with toks := k }) → wpAny M A (forIn (x :: l) (.str (tx b) t :: p, w, 37 :: 115 :: r) f) Q E { s with toks := k }
  fin : ∀ {a : List Nat} {w : Writer} {N k x : Nat} {l : List Nat}, KPc.Good w (tx a) N → N ≤ 1000 → (∀ t' k, R (.done (.ret (.str (tx a) t'))) { s with toks := k }) →
    wpAny M A (forIn (x :: l) ([], w, []) f) Q E { s with toks := k }
theorem words_Fmt_0 : True := by
  k_with_none
  w_top off
  k_with "fmt:chk" => ((
  refine KPc.turn ?_
  refine wpAny_ite (KPc.ite_no (KPc.short_good (by kpc_g) (by omega)) ?_)))
  k_with "fmt:num" => ((
  walk_at "fmt:chk"
  (repeat kpc_if)
  refine wpAny_bind ?_
  refine wpAny_holding ?_
  (repeat kpc_if)
  refine wpAny_bind (wpAny_of_eq (a := _) rfl ?_)
  (repeat kpc_if)
  refine wpAny_bind (wpAny_mkInt ?_)
  refine wpAny_bind (call_gives F.slot_int_repr (typeIs_int _ _ _) F.entry_int_repr (F.args_int_repr_1 _) (gives_int_repr _ _ (KPt.hd2 (by kpt_hd))) ⟨int_text_fits (KPt.hd2 (by kpt_hd)), ?_⟩)
  refine wpAny_bind (wpAny_of_eq (a := some _) rfl ?_)
  refine wpAny_pure ?_))
  trivial
theorem span_loop {r : List Nat} : ∀ (cs acc : List Nat), cs.all (· != 37) = true → List.span.loop (· != 37) (cs ++ 37 :: r) acc = (acc.reverse ++ cs, 37 :: r)
  | [], acc, _ => by simp [List.span.loop]
  | c :: cs, acc, h => by
    rw [List.all_cons, Bool.and_eq_true] at h
    show List.span.loop (· != 37) (c :: (cs ++ 37 :: r)) acc = _
    rw [List.span.loop]
    simp only [h.1]
    rw [span_loop cs (c :: acc) h.2]
    simp
theorem span_loop1 : ∀ (cs acc : List Nat), cs.all (· != 37) = true → List.span.loop (· != 37) cs acc = (acc.reverse ++ cs, [])
  | [], acc, _ => by simp [List.span.loop]
  | c :: cs, acc, h => by
    rw [List.all_cons, Bool.and_eq_true] at h
    rw [List.span.loop]
    simp only [h.1]
    rw [span_loop1 cs (c :: acc) h.2]
    simp
theorem lit_empty {cs r : List Nat} : (cs ++ 37 :: r).isEmpty = false := by cases cs <;> rfl
theorem lit_span {cs r : List Nat} (h : cs.all (· != 37) = true) : (cs ++ 37 :: r).span (· != 37) = (cs, 37 :: r) := span_loop cs [] h
theorem lit_span1 {cs : List Nat} (h : cs.all (· != 37) = true) : cs.span (· != 37) = (cs, []) := span_loop1 cs [] h
theorem fmt_turns {prog : Program} {wd : World} {A : Around} {E : Value → Shared → Prop} {s : Shared} {R : Fin → Shared → Prop} {Fm : PySem.Str} {t : Tok} {b : Addr} {its : Array Value} (hb : IsTup s.heap b its)
    (h : ∀ f Q k, Turns Fm.length (model prog wd) A E s f Q R → wpAny (model prog wd) A (forIn (List.range' 0 Fm.length) (its.toList, ({} : Writer), Fm.cps.toList) f) Q E { s with toks := k }) :
    wpAny (model prog wd) A (percentFormat (.str Fm t) Fm (.ref b)) R E s := by
  obtain ⟨kptO, kptG, kptC, kptN, kptD⟩ := hb
  unfold Builtin.Str.percentFormat
  refine wpAny_bind (wpAny_isInstance (T := "tuple") ⟨kptO, kptG, kptC⟩ KPt.sub_tt ?_)
  refine wpAny_bind (KPt.asStr_ref kptG kptD ?_)
  refine wpAny_bind (KPt.fills_ref ⟨kptO, kptG, kptC⟩ ?_)
  intro _
  kpc_if
  refine wpAny_bind (wpAny_seqItems kptG kptD ?_)
  refine wpAny_bind (wpAny_pure ?_)
  refine wpAny_bind ?_
  rw [KPc.range_list]
  refine h _ _ s.toks ⟨?_, ?_, ?_, ?_, ?_, ?_, ?_⟩
  · intro cs r p a w N k x l hc g hN hk
    walk_at "fmt:chk"
    refine wpAny_ite (KPc.ite_no (by rw [lit_empty]; exact Bool.false_ne_true) ?_)
    rw [lit_span hc.no]
    refine wpAny_ite (KPc.ite_yes (by rw [hc.ne]; rfl) ?_)
    refine wpAny_pure ?_
    exact fmt_add (b := cs) 8 (by kpc_g) rfl hc.le (KPc.obj_none (if_neg (by rw [hc.whole]; exact Bool.false_ne_true))) fun w' g' => hk w' _ g'
  · intro cs p a w N k x l hc g hN hk
    walk_at "fmt:chk"
    refine wpAny_ite (KPc.ite_no (by rw [hc.ne]; exact Bool.false_ne_true) ?_)
    rw [lit_span1 hc.no]
    refine wpAny_ite (KPc.ite_yes (by rw [hc.ne]; rfl) ?_)
    refine wpAny_pure ?_
    exact fmt_add (b := cs) 8 (by kpc_g) rfl hc.le (KPc.obj_none (if_neg (by rw [hc.whole]; exact Bool.false_ne_true))) fun w' g' => hk w' _ g'
  · intro n t r p a w N k x l h0 h1 g hN hk
    walk_at "fmt:num"
    refine fmt_pad (k := fun x o => pure (ForInStep.yield (_, Writer.add _ ⟨x.toArray⟩ o, _))) (pad4 rfl h0 h1 rfl) (ite_self _) ?_
    refine wpAny_pure ?_
    exact fmt_add 4 (by kpc_g) rfl (Nat.le_refl _) (KPc.obj_none rfl) fun w' g' => hk w' _ g'
  · intro n t r p a w N k x l h0 h1 g hN hk
    walk_at "fmt:num"
    refine fmt_pad (k := fun x o => pure (ForInStep.yield (_, Writer.add _ ⟨x.toArray⟩ o, _))) (pad2 rfl h0 h1 rfl) (ite_self _) ?_
    refine wpAny_pure ?_
    exact fmt_add 2 (by kpc_g) rfl (Nat.le_refl _) (KPc.obj_none rfl) fun w' g' => hk w' _ g'
  · intro n t r p a w N k x l h0 h1 g hN hk
    walk_at "fmt:num"
    refine fmt_pad (k := fun x o => pure (ForInStep.yield (_, Writer.add _ ⟨x.toArray⟩ o, _))) (pad0 rfl h0 h1 rfl) (ite_self _) ?_
    refine wpAny_pure ?_
    exact fmt_add 4 (by kpc_g) rfl (dgs_len _) (KPc.obj_none rfl) fun w' g' => hk w' _ g'
  · intro b t r p a w N k x l h0 g hN hk
    walk_at "fmt:chk"
    (repeat kpc_if)
    refine wpAny_bind ?_
    refine wpAny_holding ?_
    (repeat kpc_if)
    first
    | (refine wpAny_bind (wpAny_of_eq (KPc.strOf_str _ _) ?_); refine wpAny_bind (wpAny_of_eq (a := some _) rfl ?_))
    | (refine wpAny_bind ?_; kpc_if; refine wpAny_of_eq (KPc.strOf_str _ _) ?_; refine wpAny_bind (wpAny_of_eq (a := some _) rfl ?_))
    refine wpAny_pure ?_
    refine wpAny_pure ?_
    exact fmt_add 40 (by kpc_g) (tx_toList _) (by assumption) str_obj fun w' g' => hk w' _ g'
  · intro a w N k x l g hN hk
    walk_at "fmt:chk"
    (repeat kpc_if)
    refine wpAny_pure ?_
    kpc_if
    exact KPc.finish_ok (by kpc_g) (by omega) rfl hk
theorem words_Fmt_1 : True := by
  k_with "fmt:go1" => ((
  apply fmt_run1
  intro _ _ _ _ _ _ _
  unfold Builtin.Str.percentFormat
  refine wpAny_bind (wpAny_isInstance (typeIs_int _ _ _) F.sub_int_tuple ?_)
  refine wpAny_bind (wpAny_of_eq (a := none) rfl ?_)
  refine wpAny_bind (wpAny_of_eq (KPc.fills _ _) ?_)
  kpc_if
  refine wpAny_bind (wpAny_pure ?_)
  refine wpAny_bind ?_
  rw [KPc.range_list]
  refine fmt_start ?_
  intro _ _))
  k_with "fmt:lit" => ((
  refine KPc.turn ?_
  kpc_check
  (repeat kpc_if)
  refine wpAny_pure ?_
  refine fmt_add 40 (by kpc_g) rfl (by decide) (by kpc_obj) ?_
  intro _ _))
  k_with "fmt:num" => ((
  refine KPc.turn ?_
  kpc_check
  (repeat kpc_if)
  refine wpAny_bind ?_
  refine wpAny_holding ?_
  (repeat kpc_if)
  refine wpAny_bind (wpAny_of_eq (a := _) rfl ?_)
  (repeat kpc_if)
  refine wpAny_bind (wpAny_mkInt ?_)
  refine wpAny_bind (call_gives F.slot_int_repr (typeIs_int _ _ _) F.entry_int_repr (F.args_int_repr_1 _) (gives_int_repr _ _ (KPt.hd2 (by kpt_hd))) ⟨int_text_fits (KPt.hd2 (by kpt_hd)), ?_⟩)
  refine wpAny_bind (wpAny_of_eq (a := some _) rfl ?_)
  refine wpAny_pure ?_))
  k_with "fmt:d" => ((
  walk_at "fmt:num"
  refine fmt_pad (k := fun x o => pure (ForInStep.yield (_, Writer.add _ ⟨x.toArray⟩ o, _))) (pad0 rfl (by omega) (by omega) rfl) rfl ?_
  refine wpAny_pure ?_
  refine fmt_add 4 (by kpc_g) rfl (dgs_len _) (KPc.obj_none rfl) ?_
  intro _ _))
  k_with "fmt:end" => ((
  refine KPc.turn ?_
  kpc_check
  (repeat kpc_if)
  refine wpAny_pure ?_
  kpc_if
  refine KPc.finish_ok (by kpc_g) (by decide +kernel) rfl ?_
  assumption))
  trivial
section
variable (b : Addr) (t t1 t2 t3 t4 t5 t6 : Tok)
theorem fmt_stamp (y m d h mi sc : Int) (hy : 0 ≤ y) (hy' : y < 10000) (hm : 0 ≤ m) (hm' : m < 100) (hd : 0 ≤ d) (hd' : d < 100) (hh : 0 ≤ h) (hh' : h < 100) (hi : 0 ≤ mi) (hi' : mi < 100) (hs : 0 ≤ sc) (hs' : sc < 100) :
    Meets («str.__mod__» ⟨[.str ⟨#[37, 48, 52, 100, 45, 37, 48, 50, 100, 45, 37, 48, 50, 100, 84, 37, 48, 50, 100, 58, 37, 48, 50, 100, 58, 37, 48, 50, 100, 90]⟩ t, .ref b], []⟩)
      (fun _ R s => IsTup s.heap b #[.int y t1, .int m t2, .int d t3, .int h t4, .int mi t5, .int sc t6] ∧ ∀ t' k, R (.ok (.ret (.str (tx ([] ++ dg4 y ++ [45] ++ dg2 m ++ [45] ++ dg2 d ++ [84] ++ dg2 h ++ [58] ++ dg2 mi ++ [58] ++ dg2 sc ++ [90])) t'))) { s with toks := k }) :=
  by
  refine fmt_run fun prog w A s Q E hb hq => fmt_turns hb fun f Q' k T => ?_
  refine fmt_start fun w0 g0 => T.num4 hy hy' g0 (by omega) fun w1 k1 g1 => ?_
  refine T.lit (cs := [45]) (.of (by decide)) g1 (by omega) fun w2 k2 g2 => T.num2 hm hm' g2 (by omega) fun w3 k3 g3 => ?_
  refine T.lit (cs := [45]) (.of (by decide)) g3 (by omega) fun w4 k4 g4 => T.num2 hd hd' g4 (by omega) fun w5 k5 g5 => ?_
  refine T.lit (cs := [84]) (.of (by decide)) g5 (by omega) fun w6 k6 g6 => T.num2 hh hh' g6 (by omega) fun w7 k7 g7 => ?_
  refine T.lit (cs := [58]) (.of (by decide)) g7 (by omega) fun w8 k8 g8 => T.num2 hi hi' g8 (by omega) fun w9 k9 g9 => ?_
  refine T.lit (cs := [58]) (.of (by decide)) g9 (by omega) fun w10 k10 g10 => T.num2 hs hs' g10 (by omega) fun w11 k11 g11 => ?_
  exact T.lend (cs := [90]) (.of (by decide)) g11 (by omega) fun w12 k12 g12 => T.fin g12 (by omega) hq
end
section
variable (t u : Tok)
theorem log_small {n : Int} (h0 : 0 ≤ n) (h1 : n < 10000) : n.natAbs.log2 < 1920 := by
  by_cases h : n.natAbs = 0
  · rw [h]; decide
  · have : n.natAbs.log2 < 14 := (Nat.log2_lt h).mpr (by omega)
    omega
end
end Mine.Internal

end
section
open PySem.Sre PySem.Sre.M
set_option maxRecDepth 100000
namespace Mine.Internal
noncomputable abbrev SM := PySem.Sre.M
noncomputable def withT (t : Array Nat) (l : Nat) (m : SM) : SM := { m with text := t, lim := l }
structure Same (t1 t2 : Array Nat) : Prop where
  ok : ∀ i, i < t1.size → t1.getD i 0 = t2.getD i 0 ∨ (∃ a b, a < 10 ∧ b < 10 ∧ t1.getD i 0 = 48 + a ∧ t2.getD i 0 = 48 + b)
noncomputable def sameA : Except String (Bool × Seen) → Except String (Bool × Seen) → Bool
  | .ok (b, s), .ok (b', s') => b == b' && s.words == s'.words && s.others == s'.others
  | _, _ => false
theorem sameA_eq {x y : Except String (Bool × Seen)} (h : sameA x y = true) : x = y := by
  unfold sameA at h
  split at h
  · rename_i b s b' s'
    obtain ⟨w, o⟩ := s
    obtain ⟨w', o'⟩ := s'
    simp only [Bool.and_eq_true, beq_iff_eq] at h
    obtain ⟨⟨rfl, rfl⟩, rfl⟩ := h
    rfl
  · cases h
noncomputable def figs (code : Array Nat) (pc : Nat) (seen : Seen) : Bool := (List.range 10).all fun d => sameA (accepts code pc (48 + d) seen) (accepts code pc 48 seen)
theorem figs_eq {code : Array Nat} {pc : Nat} {seen : Seen} (h : figs code pc seen = true) {a b : Nat} (ha : a < 10) (hb : b < 10) : accepts code pc (48 + a) seen = accepts code pc (48 + b) seen := by
  have h' := List.all_eq_true.mp h
  rw [sameA_eq (h' a (List.mem_range.mpr ha)), sameA_eq (h' b (List.mem_range.mpr hb))]
noncomputable def okOp (m : SM) : Bool :=
  if m.code.getD m.pc 0 = 16 ∨ m.code.getD m.pc 0 = 13 then decide (m.pos < m.lim) && decide (m.pos < m.text.size) && figs m.code m.pc (m.seen.add (m.code.getD m.pc 0))
  else if m.code.getD m.pc 0 = 1 then !m.wholeText
  else decide (m.code.getD m.pc 0 = 17 ∨ m.code.getD m.pc 0 = 23 ∨ m.code.getD m.pc 0 = 18 ∨ m.code.getD m.pc 0 = 0 ∨ m.code.getD m.pc 0 = 14 ∨ m.code.getD m.pc 0 = 15)
noncomputable def okWait (m : SM) (f : PySem.Sre.Frame) (yes : Bool) : Bool := match f.wait with
  | .nextStart => yes || !decide (f.pos < m.lastStart)
  | .closeLoop | .maxBelow | .maxMore | .maxTail => true
  | _ => false
noncomputable def okStep (m : SM) : Bool := match m.outcome with
  | some _ => true
  | none => match m.answer, m.frames with
    | some _, [] => true
    | some yes, f :: _ => okWait m f yes
    | none, _ => okOp m
section
variable {m : SM} {t : Array Nat} {l : Nat}
theorem attempt_T (f : PySem.Sre.Frame) (a b : Nat) (o : Bool) : (withT t l m).attempt f a b o = withT t l (m.attempt f a b o) := by
  unfold M.attempt
  show (if m.weight + 1 + f.kept.marks.size > 16777216 then _ else _) = _
  split <;> rfl
theorem afterLoop_T (w : Wait) (i : Nat) (c : Int) (g : Option Nat → Bool) : (withT t l m).afterLoop w i c g = withT t l (m.afterLoop w i c g) := by
  unfold M.afterLoop
  exact attempt_T (m := { m with inner := (m.loopAt i).outer }) _ _ _ _
theorem round_T (w : Wait) (i : Nat) (c : Int) (g : Bool) (k : Kept) : (withT t l m).round w i c g k = withT t l (m.round w i c g k) := by
  unfold M.round
  exact attempt_T (m := m.setLoop i fun l => { l with count := c, began := if g then some m.pos else l.began }) _ _ _ _
theorem until_T : (withT t l m).until_ true = withT t l (m.until_ true) := by
  unfold M.until_
  show (match m.inner with | none => _ | some i => _) = _
  cases m.inner with
  | none => rfl
  | some i =>
    dsimp only
    show (if (m.loopAt i).count + 1 < (m.code.getD ((m.loopAt i).pc + 2) 0 : Nat) then _ else _) = _
    split
    · exact round_T _ _ _ _ _
    · simp only [Bool.not_true, Bool.false_eq_true, if_false]
      show (if (((m.loopAt i).count + 1 < (m.code.getD ((m.loopAt i).pc + 3) 0 : Nat) || m.code.getD ((m.loopAt i).pc + 3) 0 == maxRepeat) && (m.loopAt i).began != some m.pos) = true then _ else _) = _
      split
      · exact round_T _ _ _ _ _
      · exact afterLoop_T _ _ _ _
theorem resume_T {f : PySem.Sre.Frame} {yes : Bool} (h : okWait m f yes = true) : (withT t l m).resume f yes = withT t l (m.resume f yes) := by
  unfold okWait at h
  unfold M.resume
  cases hw : f.wait <;> rw [hw] at h <;> dsimp only at h ⊢ <;> first | cases h | skip
  · show (if yes = true then _ else if f.pos < m.lastStart then _ else _) = _
    cases yes with
    | true => rfl
    | false =>
      have : ¬ f.pos < m.lastStart := by simpa using h
      rw [if_neg (by decide), if_neg this, if_neg (by decide), if_neg this]
      rfl
  · rfl
  · cases yes <;> rfl
  · cases yes
    · simp only [Bool.false_eq_true, if_false]
      exact afterLoop_T (m := ((m.setLoop f.loop fun l => { l with began := f.began }).putBack f.kept).setLoop f.loop fun l => { l with count := f.count - 1 }) _ _ _ _
    · rfl
  · rfl
noncomputable def runLITERAL (m : SM) : { r : SM // ops[m.word 0]? = some .LITERAL → m.exec = r } := by
  refine ⟨?r, fun ho => ?p⟩
  case p =>
    unfold M.exec
    rw [ho]
noncomputable def runIN (m : SM) : { r : SM // ops[m.word 0]? = some .IN → m.exec = r } := by
  refine ⟨?r, fun ho => ?p⟩
  case p =>
    unfold M.exec
    rw [ho]
noncomputable def runSUCCESS (m : SM) : { r : SM // ops[m.word 0]? = some .SUCCESS → m.exec = r } := by
  refine ⟨?r, fun ho => ?p⟩
  case p =>
    unfold M.exec
    rw [ho]
noncomputable def runMARK (m : SM) : { r : SM // ops[m.word 0]? = some .MARK → m.exec = r } := by
  refine ⟨?r, fun ho => ?p⟩
  case p =>
    unfold M.exec
    rw [ho]
noncomputable def runREPEAT (m : SM) : { r : SM // ops[m.word 0]? = some .REPEAT → m.exec = r } := by
  refine ⟨?r, fun ho => ?p⟩
  case p =>
    unfold M.exec
    rw [ho]
noncomputable def runMAX_UNTIL (m : SM) : { r : SM // ops[m.word 0]? = some .MAX_UNTIL → m.exec = r } := by
  refine ⟨?r, fun ho => ?p⟩
  case p =>
    unfold M.exec
    rw [ho]
noncomputable def runFAILURE (m : SM) : { r : SM // ops[m.word 0]? = some .FAILURE → m.exec = r } := by
  refine ⟨?r, fun ho => ?p⟩
  case p =>
    unfold M.exec
    rw [ho]
noncomputable def runINFO (m : SM) : { r : SM // ops[m.word 0]? = some .INFO → m.exec = r } := by
  refine ⟨?r, fun ho => ?p⟩
  case p =>
    unfold M.exec
    rw [ho]
noncomputable def runJUMP (m : SM) : { r : SM // ops[m.word 0]? = some .JUMP → m.exec = r } := by
  refine ⟨?r, fun ho => ?p⟩
  case p =>
    unfold M.exec
    rw [ho]
theorem exec_T (hs : Same m.text t) (hl : m.lim ≤ l) (h : okOp m = true) : (withT t l m).exec = withT t l m.exec := by
  unfold okOp at h
  by_cases c1 : m.code.getD m.pc 0 = 16 ∨ m.code.getD m.pc 0 = 13
  · rw [if_pos c1] at h
    simp only [Bool.and_eq_true, decide_eq_true_eq] at h
    obtain ⟨⟨h1, h2⟩, h3⟩ := h
    have hacc : accepts m.code m.pc (t.getD m.pos 0) (m.seen.add (m.code.getD m.pc 0)) = accepts m.code m.pc (m.text.getD m.pos 0) (m.seen.add (m.code.getD m.pc 0)) := by
      rcases hs.ok m.pos h2 with e | ⟨a, b, ha, hb, e1, e2⟩
      · rw [e]
      · rw [e1, e2]; exact figs_eq h3 hb ha
    have key : (runLITERAL (withT t l m)).1 = withT t l (runLITERAL m).1 := by
      show (if m.pos ≥ l then _ else match accepts m.code m.pc (t.getD m.pos 0) (m.seen.add (m.code.getD m.pc 0)) with | .error why => _ | .ok (false, seen) => _ | .ok (true, seen) => _) =
        withT t l (if m.pos ≥ m.lim then _ else match accepts m.code m.pc (m.text.getD m.pos 0) (m.seen.add (m.code.getD m.pc 0)) with | .error why => _ | .ok (false, seen) => _ | .ok (true, seen) => _)
      rw [if_neg (by omega), if_neg (by omega), hacc]
      cases accepts m.code m.pc (m.text.getD m.pos 0) (m.seen.add (m.code.getD m.pc 0)) with
      | error why => rfl
      | ok x =>
        obtain ⟨b, s⟩ := x
        cases b <;> rfl
    rcases c1 with e | e
    · have ho : ops[m.word 0]? = some .LITERAL := by rw [show m.word 0 = 16 from e]; rfl
      rw [(runLITERAL (withT t l m)).2 ho, (runLITERAL m).2 ho]
      exact key
    · have ho : ops[m.word 0]? = some .IN := by rw [show m.word 0 = 13 from e]; rfl
      rw [(runIN (withT t l m)).2 ho, (runIN m).2 ho]
      exact key
  · rw [if_neg c1] at h
    clear c1
    by_cases c2 : m.code.getD m.pc 0 = 1
    · rw [if_pos c2] at h
      have ho : ops[m.word 0]? = some .SUCCESS := by rw [show m.word 0 = 1 from c2]; rfl
      have hwt : m.wholeText = false := by simpa using h
      rw [(runSUCCESS (withT t l m)).2 ho, (runSUCCESS m).2 ho]
      show (if (m.outermost && ((m.wholeText && m.pos != l) || (m.mustAdvance && m.pos == m.start))) = true then _ else _) = withT t l (if (m.outermost && ((m.wholeText && m.pos != m.lim) || (m.mustAdvance && m.pos == m.start))) = true then _ else _)
      have e1 : (m.wholeText && m.pos != l) = false := by rw [hwt]; rfl
      have e2 : (m.wholeText && m.pos != m.lim) = false := by rw [hwt]; rfl
      rw [e1, e2]
      by_cases c : (m.outermost && (false || (m.mustAdvance && m.pos == m.start))) = true
      · rw [if_pos c, if_pos c]; rfl
      · rw [if_neg c, if_neg c]; rfl
    · rw [if_neg c2] at h
      have h' := of_decide_eq_true h
      clear h c2
      rcases h' with e | e | e | e | e | e
      · have ho : ops[m.word 0]? = some .MARK := by rw [show m.word 0 = 17 from e]; rfl
        rw [(runMARK (withT t l m)).2 ho, (runMARK m).2 ho]
        rfl
      · have ho : ops[m.word 0]? = some .REPEAT := by rw [show m.word 0 = 23 from e]; rfl
        rw [(runREPEAT (withT t l m)).2 ho, (runREPEAT m).2 ho]
        exact attempt_T (m := { m with seen := m.seen.add (m.code.getD m.pc 0), loops := m.loops.push { pc := m.pc, outer := m.inner }, inner := some m.loops.size }) _ _ _ _
      · have ho : ops[m.word 0]? = some .MAX_UNTIL := by rw [show m.word 0 = 18 from e]; rfl
        rw [(runMAX_UNTIL (withT t l m)).2 ho, (runMAX_UNTIL m).2 ho]
        exact until_T (m := { m with seen := m.seen.add (m.code.getD m.pc 0), pc := m.pc + 1 })
      · have ho : ops[m.word 0]? = some .FAILURE := by rw [show m.word 0 = 0 from e]; rfl
        rw [(runFAILURE (withT t l m)).2 ho, (runFAILURE m).2 ho]
        rfl
      · have ho : ops[m.word 0]? = some .INFO := by rw [show m.word 0 = 14 from e]; rfl
        rw [(runINFO (withT t l m)).2 ho, (runINFO m).2 ho]
        rfl
      · have ho : ops[m.word 0]? = some .JUMP := by rw [show m.word 0 = 15 from e]; rfl
        rw [(runJUMP (withT t l m)).2 ho, (runJUMP m).2 ho]
        rfl
theorem step_run (ho : m.outcome = none) (ha : m.answer = none) : m.step = if m.pc < m.code.size then m.exec else m.stick "code:ran-off" := by
  cases m
  dsimp only at ho ha
  subst ho; subst ha; rfl
theorem step_end {yes : Bool} (ho : m.outcome = none) (ha : m.answer = some yes) (hf : m.frames = []) : m.step = { m with outcome := some (if yes then .matched else .failed) } := by
  cases m
  dsimp only at ho ha hf
  subst ho; subst ha; subst hf; rfl
theorem step_res {yes : Bool} {f : PySem.Sre.Frame} {rest : List PySem.Sre.Frame} (ho : m.outcome = none) (ha : m.answer = some yes) (hf : m.frames = f :: rest) : m.step = M.resume { m with answer := none, frames := rest, weight := m.weight - (1 + f.kept.marks.size), pc := f.pc, pos := f.pos, outermost := f.outermost } f yes := by
  cases m
  dsimp only at ho ha hf
  subst ho; subst ha; subst hf; rfl
theorem step_out {o : Outcome} (ho : m.outcome = some o) : m.step = m := by
  unfold M.step; rw [ho]; rfl
theorem step_T (hs : Same m.text t) (hl : m.lim ≤ l) (h : okStep m = true) : (withT t l m).step = withT t l m.step := by
  unfold okStep at h
  cases ho : m.outcome with
  | some o => rw [step_out ho, step_out (m := withT t l m) ho]
  | none =>
    rw [ho] at h
    cases ha : m.answer with
    | none =>
      rw [ha] at h
      rw [step_run ho ha, step_run (m := withT t l m) ho ha]
      show (if m.pc < m.code.size then _ else _) = _
      split
      · exact exec_T hs hl h
      · rfl
    | some yes =>
      rw [ha] at h
      cases hf : m.frames with
      | nil => rw [step_end ho ha hf, step_end (m := withT t l m) ho ha hf]; rfl
      | cons f rest =>
        rw [hf] at h
        rw [step_res ho ha hf, step_res (m := withT t l m) ho ha hf]
        exact resume_T (m := { m with answer := none, frames := rest, weight := m.weight - (1 + f.kept.marks.size), pc := f.pc, pos := f.pos, outermost := f.outermost }) h
end
end Mine.Internal

end
section
open PySem PySem.Sre PySem.Sre.M
set_option maxRecDepth 100000
namespace Mine.Internal
noncomputable def okRun : Nat → SM → Bool
  | 0, _ => true
  | n + 1, m => m.outcome.isSome || (okStep m && (m.step.text == m.text) && (m.step.lim == m.lim) && okRun n m.step)
theorem run_T {t : Array Nat} {l : Nat} : ∀ (n : Nat) (m : SM), Same m.text t → m.lim ≤ l → okRun n m = true → (withT t l m).runFor n = withT t l (m.runFor n)
  | 0, _, _, _, _ => rfl
  | n + 1, m, hs, hl, h => by
    unfold okRun at h
    unfold M.runFor
    show (if m.outcome.isSome = true then withT t l m else runFor n (withT t l m).step) = _
    by_cases ho : m.outcome.isSome = true
    · rw [if_pos ho, if_pos ho]
    · rw [if_neg ho, if_neg ho]
      simp only [Bool.or_eq_true, Bool.and_eq_true, beq_iff_eq] at h
      obtain ⟨⟨⟨h1, h2⟩, h3⟩, h4⟩ := h.resolve_left ho
      rw [step_T hs hl h1]
      exact run_T n m.step (h2 ▸ hs) (h3 ▸ hl) h4
noncomputable def goes : Nat → SM → Option SM
  | 0, _ => none
  | n + 1, m => if (m.runFor 4).outcome.isSome then some (m.runFor 4) else goes n (m.runFor 4)
noncomputable def okGoes : Nat → SM → Bool
  | 0, _ => true
  | n + 1, m => okRun 4 m && ((m.runFor 4).text == m.text) && ((m.runFor 4).lim == m.lim) && ((m.runFor 4).outcome.isSome || okGoes n (m.runFor 4))
theorem goes_T {t : Array Nat} {l : Nat} : ∀ (n : Nat) (m : SM), Same m.text t → m.lim ≤ l → okGoes n m = true → goes n (withT t l m) = (goes n m).map (withT t l)
  | 0, _, _, _, _ => rfl
  | n + 1, m, hs, hl, h => by
    unfold okGoes at h
    simp only [Bool.or_eq_true, Bool.and_eq_true, beq_iff_eq] at h
    obtain ⟨⟨⟨h1, h2⟩, h3⟩, h4⟩ := h
    unfold goes
    rw [run_T 4 m hs hl h1]
    show (if (m.runFor 4).outcome.isSome = true then _ else _) = _
    by_cases ho : (m.runFor 4).outcome.isSome = true
    · rw [if_pos ho, if_pos ho]; rfl
    · rw [if_neg ho, if_neg ho]
      exact goes_T n _ (h2 ▸ hs) (h3 ▸ hl) (h4.resolve_left ho)
noncomputable def CODE : Array Nat := #[14, 7, 4, 5, 20, 8, 0, 0, 17, 0, 13, 4, 8, 0, 0, 13, 4, 8, 0, 0, 13, 4, 8, 0, 0, 13, 4, 8, 0, 0, 17, 1, 23, 103, 0, 1, 16, 45, 17, 2, 13, 4, 8, 0, 0, 13, 4, 8, 0, 0, 17, 3, 23, 82, 0, 1, 16, 45, 17, 4, 13, 4, 8, 0, 0, 13, 4, 8, 0, 0, 17, 5, 23, 61, 0, 1, 16, 84, 17, 6, 13, 4, 8, 0, 0, 13, 4, 8, 0, 0, 17, 7, 23, 40, 0, 1, 16, 58, 17, 8, 13, 4, 8, 0, 0, 13, 4, 8, 0, 0, 17, 9, 23, 19, 0, 1, 16, 58, 17, 10, 13, 4, 8, 0, 0, 13, 4, 8, 0, 0, 17, 11, 18, 18, 18, 18, 18, 16, 90, 1]
noncomputable def T0 : Array Nat := #[48, 48, 48, 48, 45, 48, 48, 45, 48, 48, 84, 48, 48, 58, 48, 48, 58, 48, 48, 90]
noncomputable def M0 : SM := forMatch CODE T0 6 0 20 false false
noncomputable def MARKS : Array (Option Nat) := #[some 0, some 4, some 5, some 7, some 8, some 10, some 11, some 13, some 14, some 16, some 17, some 19]
noncomputable def chk : Option SM → Bool
  | some m => (match m.outcome with | some .matched => true | _ => false) && m.lastindex == 6 && m.start == 0 && m.handed == 20 && m.lastmark == 11 && m.marks == MARKS
  | none => false
end Mine.Internal
set_option maxHeartbeats 400000
theorem Mine.Internal.ok0 : Mine.Internal.okGoes 40 Mine.Internal.M0 = true := by decide +kernel
theorem Mine.Internal.chk0 : Mine.Internal.chk (Mine.Internal.goes 40 Mine.Internal.M0) = true := by decide +kernel

end
section
open PySem PySem.W PyProof.Rows PySem.Calls PySem.Spec PySem.Builtin.Re
set_option maxRecDepth 100000
namespace Mine.Internal
section
variable {α : Type} {M : Model} {A : Around} {E : Value → Shared → Prop} {s : Shared}
theorem drive_ {Q : SM → Shared → Prop} : ∀ (n turns : Nat) (m m' : SM), goes n m = some m' → n ≤ turns → Q m' s → wpAny M A (reDrive turns m) Q E s
  | 0, _, _, _, h, _, _ => by cases h
  | n + 1, 0, _, _, _, h, _ => absurd h (by omega)
  | n + 1, turns + 1, m, m', h, hn, hq => by
    unfold goes at h
    unfold reDrive
    show wpAny M A (if (m.runFor 4).outcome.isSome = true then pure (m.runFor 4) else _) Q E s
    by_cases ho : (m.runFor 4).outcome.isSome = true
    · rw [if_pos ho] at h ⊢
      cases h
      exact wpAny_pure hq
    · rw [if_neg ho] at h ⊢
      exact wpAny_bind (wpAny_rule (drive_ n turns _ m' h (Nat.le_of_succ_le_succ hn) hq))
theorem rules_ {f : Nat → Bool} {g : Nat → String} {Q : PUnit → Shared → Prop} (h : Q ⟨⟩ s) : ∀ (l : List Nat), wpAny M A (forIn l PUnit.unit fun i _ => if f i = true then (do rule (g i); pure (ForInStep.yield PUnit.unit)) else pure (ForInStep.yield PUnit.unit)) Q E s
  | [] => by rw [List.forIn_nil]; exact wpAny_pure h
  | i :: l => by
    rw [List.forIn_cons]
    by_cases hf : f i = true
    · rw [if_pos hf]; exact wpAny_bind (wpAny_bind (wpAny_rule (wpAny_pure (rules_ h l))))
    · rw [if_neg hf]; exact wpAny_bind (wpAny_pure (rules_ h l))
theorem runToEnd_ {m m' : SM} {n : Nat} {Q : Option SM → Shared → Prop} (hg : goes n m = some m') (hn : n ≤ 1000) (ho : m'.outcome = some .matched) (hq : Q (some m') s) : wpAny M A (reRunToEnd m) Q E s := by
  unfold reRunToEnd
  refine wpAny_bind (drive_ n (2 ^ 64) m m' hg (Nat.le_trans hn (by decide)) ?_)
  refine wpAny_bind ?_
  refine rules_ (f := fun i => m'.seen.has i) (g := fun i => PySem.Sre.names.getD i "") ?_ _
  rw [ho]
  exact wpAny_pure hq
end
noncomputable def CODEV : Array Value := CODE.map fun (n : Nat) => Value.int (n : Int) 0
theorem codev : (CODEV.map Builtin.Re.reRawOf).map (·.toNat) = CODE := by decide +kernel
structure PatAt (h : Heap) (P gi ct : Addr) : Prop where
  pat : ∃ dt sl src ts tf ix, h.get? P = some ⟨.type "re.Pattern", dt, .fields #[.str src ts, .int 256 tf, .int 6 0, .ref gi, ix, .ref ct, .int 0 0], sl⟩
  code : ∃ dt sl n, h.get? ct = some ⟨.type "tuple", dt, .seq CODEV n, sl⟩
noncomputable def stamped (l : List Nat) : Prop := Same T0 l.toArray
section
variable {prog : Program} {w : World} {A : Around} {E : Value → Shared → Prop} {s : Shared}
theorem wpAny_ifF {α : Type} {M : Model} {c : Prop} [Decidable c] {a b : Sem α} {Q : α → Shared → Prop} (hc : ¬ c) (h : wpAny M A b Q E s) : wpAny M A (if c then a else b) Q E s := by rw [if_neg hc]; exact h
theorem named1 (f id : String) (v : Value) : reNamed id f ["string", "pos", "endpos"] 1 [v] [] = pure [some v, none, none] := by with_unfolding_all rfl
theorem textOf_ (l : List Nat) (t : Tok) {Q : Array Nat × Nat → Shared → Prop} (h : Q (l.toArray, 0) s) : wpAny (model prog w) A (reTextOf (.str (tx l) t)) Q E s := by
  unfold reTextOf asStr?
  rw [tx_def]
  exact wpAny_bind (wpAny_pure (wpAny_pure h))
theorem rawItems_ {a : Addr} {o : Obj} {items : Array Value} {n : Nat} {Q : Array Int → Shared → Prop} (ho : s.heap.get? a = some o) (hd : o.data = .seq items n) (h : Q (items.map reRawOf) s) : wpAny (model prog w) A (reRawItems (.ref a)) Q E s := by
  unfold reRawItems
  exact wpAny_bind (wpAny_seqItems ho hd (wpAny_pure h))
theorem chk_of {o : Option SM} (h : chk o = true) : ∃ m, o = some m ∧ m.outcome = some .matched ∧ m.lastindex = 6 ∧ m.start = 0 ∧ m.handed = 20 ∧ m.lastmark = 11 ∧ m.marks = MARKS := by
  cases o with
  | none => cases h
  | some m =>
    unfold chk at h
    simp only [Bool.and_eq_true, beq_iff_eq] at h
    obtain ⟨⟨⟨⟨⟨h1, h2⟩, h3⟩, h4⟩, h5⟩, h6⟩ := h
    refine ⟨m, rfl, ?_, h2, h3, h4, h5, h6⟩
    split at h1
    · assumption
    · cases h1
noncomputable abbrev SPANS : Array Value := #[.int 0 0, .int 20 0, .int 0 0, .int 4 0, .int 5 0, .int 7 0, .int 8 0, .int 10 0, .int 11 0, .int 13 0, .int 14 0, .int 16 0, .int 17 0, .int 19 0]
end
end Mine.Internal

end
section
open PySem PySem.W PyProof.Rows PySem.Calls PySem.Spec PySem.Builtin.Re
set_option maxRecDepth 100000
namespace Mine.Internal
noncomputable abbrev nYear : Str := Str.ofString "year"
noncomputable abbrev nMonth : Str := Str.ofString "month"
noncomputable abbrev nDay : Str := Str.ofString "day"
noncomputable abbrev nHour : Str := Str.ofString "hour"
noncomputable abbrev nMinute : Str := Str.ofString "minute"
noncomputable abbrev nSecond : Str := Str.ofString "second"
structure NamesAt (w : World) (h : Heap) (gi : Addr) : Prop where
  mk ::
  at_ : ∃ ep a1 a2 a3 a4 a5 a6 b1 b2 b3 b4 b5 b6, h.get? gi = some ⟨.type "dict", none, .dict #[⟨hashStr w nYear, .str nYear a1, .int 1 b1⟩, ⟨hashStr w nMonth, .str nMonth a2, .int 2 b2⟩, ⟨hashStr w nDay, .str nDay a3, .int 3 b3⟩, ⟨hashStr w nHour, .str nHour a4, .int 4 b4⟩, ⟨hashStr w nMinute, .str nMinute a5, .int 5 b5⟩, ⟨hashStr w nSecond, .str nSecond a6, .int 6 b6⟩] ep, #[]⟩
theorem PatAt.keeps {h h' : Heap} {P gi ct : Addr} (x : PatAt h P gi ct) (hk : ∀ b o, h.get? b = some o → h'.get? b = some o) : PatAt h' P gi ct :=
  let ⟨⟨a, b, c, d, e, f, p⟩, ⟨a', b', c', q⟩⟩ := x
  ⟨⟨a, b, c, d, e, f, hk _ _ p⟩, ⟨a', b', c', hk _ _ q⟩⟩
section
variable {prog : Program} {w : World} {A : Around} {E : Value → Shared → Prop} {s : Shared}
theorem isStr (k : Str) (t : Tok) : (strKind prog w).is k (.str k t) = true := by
  show Value.isStrOf k (.str k t) = true
  unfold Value.isStrOf
  first | exact decide_eq_true rfl | simp
theorem names_map {h : Heap} {gi : Addr} (x : NamesAt w h gi) : ∃ b1 b2 b3 b4 b5 b6, h.DictOf (strKind prog w) gi [(nYear, .int 1 b1), (nMonth, .int 2 b2), (nDay, .int 3 b3), (nHour, .int 4 b4), (nMinute, .int 5 b5), (nSecond, .int 6 b6)] := by
  obtain ⟨ep, a1, a2, a3, a4, a5, a6, b1, b2, b3, b4, b5, b6, hg⟩ := x.at_
  refine ⟨b1, b2, b3, b4, b5, b6, _, _, _, hg, ⟨rfl, rfl, rfl⟩, rfl, ?_, ?_, ?_⟩
  · intro e he
    rw [← Array.mem_toList_iff] at he
    simp only [List.mem_cons, List.not_mem_nil, or_false] at he
    rcases he with rfl | rfl | rfl | rfl | rfl | rfl <;> exact ⟨_, isStr _ _, rfl⟩
  · exact .cons (isStr _ _) rfl (.cons (isStr _ _) rfl (.cons (isStr _ _) rfl (.cons (isStr _ _) rfl (.cons (isStr _ _) rfl (.cons (isStr _ _) rfl .nil)))))
  · show [nYear, nMonth, nDay, nHour, nMinute, nSecond].Nodup
    decide +kernel
variable {h₀ : Heap} {L : Addr} {m : Str → Option Value} {news : List (Addr × Obj)}
theorem groupNumber_ {P gi ct : Addr} {x : ReFound} {S r2 r3 r4 r5 : Value} {k : Str} {a b : Tok} {g : Nat} {kvs : List (Str × Value)} {Q : Nat → Shared → Prop} (hP : PatAt s.heap P gi ct) (hx : x.fields = #[S, .ref P, r2, r3, r4, r5]) (hsp : x.spans.size = 14) (hg : g < 7)
    (hD : s.heap.DictOf (strKind prog w) gi kvs) (hv : valueAt kvs k = some (.int g b)) (h : ∀ tk, Q g { s with toks := tk }) :
    wpAny (model prog w) A (reGroupNumber x (.str k a)) Q E s := by
  obtain ⟨⟨dt, sl, src, ts, tf, ix, hp⟩, _⟩ := hP
  unfold reGroupNumber
  refine wpAny_bind ?_
  refine wpAny_bind (wpAny_pure (wpAny_pure ?_))
  refine wpAny_ifF Bool.false_ne_true ?_
  refine wpAny_bind (wpAny_specialOf (T := "str") rfl KIN.str_idx ?_)
  refine wpAny_ifF Bool.false_ne_true ?_
  rw [hx]
  refine wpAny_bind (wpAny_fieldsOf hp rfl ?_)
  refine wpAny_bind (wpAny_dictGet_of (isStr k a) hD.mapOf ?_)
  rw [hv]
  refine wpAny_bind (wpAny_pure (wpAny_bind (wpAny_pure ?_)))
  have hno : ¬ ((decide ((g : Int) < 0) || decide (2 * (g : Int) ≥ (x.spans.size : Int))) = true) := by
    rw [hsp, Bool.or_eq_true, decide_eq_true_eq, decide_eq_true_eq]; omega
  refine wpAny_ifF ?_ (wpAny_pure ?_)
  · simpa using hno
  · exact h _
theorem groupText_ {x : ReFound} {l : List Nat} {t : Tok} {r1 r2 r3 r4 r5 d : Value} {g b e : Nat} {Q : Value → Shared → Prop} (hx : x.fields = #[.str (tx l) t, r1, r2, r3, r4, r5]) (hb : x.spans.getD (2 * g) (-1) = (b : Int)) (he : x.spans.getD (2 * g + 1) (-1) = (e : Int)) (hle : b ≤ e) (hz : e ≤ 100)
    (h : ∀ tk, Q (.str (tx ((l.drop b).take (e - b))) tk) { s with toks := s.toks + 1 }) :
    wpAny (model prog w) A (reGroupText x g d) Q E s := by
  unfold reGroupText
  rw [hb, he, hx]
  refine wpAny_ifF ?_ ?_
  · rw [Bool.or_eq_true, decide_eq_true_eq, decide_eq_true_eq]; omega
  refine wpAny_bind (textOf_ l t ?_)
  unfold reSlice
  show wpAny _ _ (mkStr ⟨l.toArray.extract ((b : Int)).toNat ((e : Int)).toNat⟩) _ _ s
  have e1 : (⟨l.toArray.extract ((b : Int)).toNat ((e : Int)).toNat⟩ : Str) = tx ((l.drop b).take (e - b)) := by
    rw [tx_def, Int.toNat_natCast, Int.toNat_natCast]
    simp [List.extract_toArray]
  rw [e1]
  refine wpAny_mkStr (h _) ?_
  rw [tx_length]
  have : ((l.drop b).take (e - b)).length ≤ e - b := List.length_take_le _ _
  show _ ≤ 2 ^ 24
  omega
theorem stored_new {kvs : List (Str × Value)} {k : Str} {v : Value} (h : (kvs.any fun kv => decide (kv.1 = k)) = false) : stored kvs k v = kvs ++ [(k, v)] := by
  unfold stored
  rw [if_neg (by rw [h]; exact Bool.false_ne_true)]
noncomputable def GroupV (prog : Program) (w : World) (A : Around) (x : ReFound) (g : Nat) (d : Value) (V : Value → Prop) : Prop :=
  ∀ (E : Value → Shared → Prop) (s : Shared) (Q : Value → Shared → Prop), (∀ v tk', V v → Q v { s with toks := tk' }) → wpAny (model prog w) A (reGroupText x g d) Q E s
theorem groupV_text {x : ReFound} {l : List Nat} {t : Tok} {r1 r2 r3 r4 r5 d : Value} {g b e : Nat} (hx : x.fields = #[.str (tx l) t, r1, r2, r3, r4, r5]) (hb : x.spans.getD (2 * g) (-1) = (b : Int)) (he : x.spans.getD (2 * g + 1) (-1) = (e : Int)) (hle : b ≤ e) (hz : e ≤ 100) :
    GroupV prog w A x g d (fun v => ∃ tk, v = .str (tx ((l.drop b).take (e - b))) tk) :=
  fun _ _ _ h => groupText_ hx hb he hle hz fun tk => h _ _ ⟨tk, rfl⟩
theorem entry_ {P gi ct D : Addr} {x : ReFound} {S r2 r3 r4 r5 d : Value} {k : Str} {a : Tok} {g : Nat} {bt : Tok} {ns kvs : List (Str × Value)} {o : Obj} {V : Value → Prop} {Q : Unit → Shared → Prop}
    (F : Fr h₀ L s.heap m) (N : News h₀ L s.heap ((D, o) :: news)) (hD : ∀ p ∈ news, p.1 ≠ D) (hd : o.IsDictOf (strKind prog w) kvs) (hsz : kvs.length ≤ 100) (hP : PatAt h₀ P gi ct) (hN : h₀.DictOf (strKind prog w) gi ns) (hv : valueAt ns k = some (.int g bt))
    (hx : x.fields = #[S, .ref P, r2, r3, r4, r5]) (hsp : x.spans.size = 14) (hg : g < 7)
    (ht : GroupV prog w A x g d V)
    (hnew : (kvs.any fun kv => decide (kv.1 = k)) = false)
    (h : ∀ h' o' v tk', V v → Fr h₀ L h' m → News h₀ L h' ((D, o') :: news) → o'.IsDictOf (strKind prog w) (kvs ++ [(k, v)]) → Q () { s with heap := h', toks := tk' }) :
    wpAny (model prog w) A (holding [.ref D] (do dictSet D (.str k a) (← reGroupText x (← reGroupNumber x (.str k a)) d))) Q E s := by
  have hN' : s.heap.DictOf (strKind prog w) gi ns := by
    obtain ⟨og, ho, hi⟩ := Heap.dictOf_iff.mp hN
    exact Heap.dictOf_iff.mpr ⟨og, F.keep _ _ ho, hi⟩
  refine wpAny_holding ?_
  refine wpAny_bind (groupNumber_ (hP.keeps F.keep) hx hsp hg hN' hv fun tk1 => ?_)
  refine wpAny_bind (ht _ { s with toks := tk1 } _ fun v tk hV => ?_)
  have hm := N (D, o) (.head _)
  refine wpAny_dictSet_pairs (s := { s with toks := tk }) (isStr k a) (Heap.dictOf_iff.mpr ⟨o, hm.1, hd⟩) (fun h' hmm hs => ?_) (Nat.le_trans hsz (by decide))
  obtain ⟨o', ho', hd'⟩ := Heap.dictOf_iff.mp hmm
  rw [stored_new hnew] at hd'
  exact h h' o' v _ hV (F.change hs hm.2.1 hm.2.2) (News.setIn (own := []) N (fun _ hp => by cases hp) hD hs ho') hd'
noncomputable abbrev FIELDS (l : List Nat) (t1 t2 t3 t4 t5 t6 : Tok) : List (Str × Value) :=
  [(nYear, .str (tx ((l.drop 0).take 4)) t1), (nMonth, .str (tx ((l.drop 5).take 2)) t2), (nDay, .str (tx ((l.drop 8).take 2)) t3), (nHour, .str (tx ((l.drop 11).take 2)) t4), (nMinute, .str (tx ((l.drop 14).take 2)) t5), (nSecond, .str (tx ((l.drop 17).take 2)) t6)]
theorem any_no {kvs : List (Str × Value)} {k : Str} (h : ((kvs.map (·.1)).any fun x => decide (x = k)) = false) : (kvs.any fun kv => decide (kv.1 = k)) = false := by
  rw [List.any_map] at h; exact h
theorem value_at {ns : List (Str × Value)} {k : Str} {v : Value} (i : Nat) (h : (ns.map (·.1)).findIdx? (fun x => decide (x = k)) = some i) (hi : (ns[i]?).map (·.2) = some v) : valueAt ns k = some v := by
  unfold valueAt
  rw [← hi]
  clear hi v
  induction ns generalizing i with
  | nil => cases h
  | cons a r ih =>
    rw [List.map_cons, List.findIdx?_cons] at h
    rw [List.find?_cons]
    by_cases ha : a.1 = k
    · simp only [ha, decide_true, if_true, Option.some.injEq] at h ⊢
      subst h; rfl
    · simp only [ha, decide_false, Bool.false_eq_true, if_false, Option.map_eq_some_iff] at h ⊢
      obtain ⟨j, hj, rfl⟩ := h
      rw [ih j hj]; rfl
theorem named0 (f id : String) : reNamed id f ["default"] 0 [] [] = pure [none] := by with_unfolding_all rfl
theorem withDefault_ {mt tt : Addr} {fs : Array Value} {r0 r1 r2 r3 r4 : Value} {Q : ReFound × Value → Shared → Prop} (hM : s.heap.get? mt = some { cls := .type "re.Match", data := .fields #[r0, r1, r2, r3, r4, .ref tt] }) (hT : s.heap.get? tt = some { cls := .type "tuple", data := .seq fs })
    (h : Q (⟨#[r0, r1, r2, r3, r4, .ref tt], fs.map reRawOf⟩, .none) s) : wpAny (model prog w) A (reWithDefault "re.Match.groupdict" "groupdict" ⟨[.ref mt], []⟩) Q E s := by
  unfold reWithDefault
  dsimp only
  rw [named0]
  refine wpAny_bind (wpAny_pure ?_)
  dsimp only
  unfold reFound
  exact wpAny_bind (wpAny_bind (wpAny_fieldsOf hM rfl (wpAny_bind (rawItems_ hT rfl (wpAny_pure (wpAny_pure h))))))
theorem groupdictG {P gi ct mt tt : Addr} {S p1 p2 p3 : Value} {sp : Array Value} {V1 V2 V3 V4 V5 V6 : Value → Prop} {Q : PySem.Fin → Shared → Prop} (F : Fr h₀ L s.heap m) (N : News h₀ L s.heap news) (hP : PatAt h₀ P gi ct) (hN : NamesAt w h₀ gi)
    (hM : s.heap.get? mt = some { cls := .type "re.Match", data := .fields #[S, .ref P, p1, p2, p3, .ref tt] }) (hT : s.heap.get? tt = some { cls := .type "tuple", data := .seq sp }) (qs : (sp.map reRawOf).size = 14)
    (g1 : GroupV prog w A ⟨#[S, .ref P, p1, p2, p3, .ref tt], sp.map reRawOf⟩ 1 .none V1) (g2 : GroupV prog w A ⟨#[S, .ref P, p1, p2, p3, .ref tt], sp.map reRawOf⟩ 2 .none V2) (g3 : GroupV prog w A ⟨#[S, .ref P, p1, p2, p3, .ref tt], sp.map reRawOf⟩ 3 .none V3)
    (g4 : GroupV prog w A ⟨#[S, .ref P, p1, p2, p3, .ref tt], sp.map reRawOf⟩ 4 .none V4) (g5 : GroupV prog w A ⟨#[S, .ref P, p1, p2, p3, .ref tt], sp.map reRawOf⟩ 5 .none V5) (g6 : GroupV prog w A ⟨#[S, .ref P, p1, p2, p3, .ref tt], sp.map reRawOf⟩ 6 .none V6)
    (h : ∀ h' o tk v1 v2 v3 v4 v5 v6, V1 v1 → V2 v2 → V3 v3 → V4 v4 → V5 v5 → V6 v6 → Fr h₀ L h' m → News h₀ L h' ((s.heap.objs.size, o) :: news) → o.IsDictOf (strKind prog w) [(nYear, v1), (nMonth, v2), (nDay, v3), (nHour, v4), (nMinute, v5), (nSecond, v6)] → Q (.done (.ret (.ref s.heap.objs.size))) { s with heap := h', toks := tk }) :
    wpAny (model prog w) A (Builtin.«re.Match.groupdict» ⟨[.ref mt], []⟩) Q E s := by
  obtain ⟨b1, b2, b3, b4, b5, b6, hND⟩ := names_map (prog := prog) hN
  obtain ⟨ep, a1, a2, a3, a4, a5, a6, c1, c2, c3, c4, c5, c6, hg⟩ := hN.at_
  obtain ⟨⟨dt, sl, src, ts, tf, ix, hp⟩, _⟩ := id hP
  unfold Builtin.«re.Match.groupdict»
  refine wpAny_bind (withDefault_ hM hT ?_)
  dsimp only
  unfold newDict
  refine wpAny_bind (wpAny_newObj_type ?_)
  have hp' := (F.push { cls := .type "dict", data := .dict #[] }).keep _ _ hp
  have hg' := (F.push { cls := .type "dict", data := .dict #[] }).keep _ _ hg
  refine wpAny_bind (wpAny_fieldsOf hp' rfl ?_)
  show wpAny _ _ (dictEntries gi >>= _) _ _ _
  refine wpAny_bind (wpAny_dictEntries hg' rfl ?_)
  rw [← Array.forIn_toList]
  have hD : ∀ p ∈ news, p.1 ≠ s.heap.objs.size := fun p hp => Nat.ne_of_lt (Heap.lt_size (N p hp).1)
  have F1 := F.push { cls := .type "dict", data := .dict #[] }
  have N1 := News.push F N { cls := .type "dict", data := .dict #[] }
  have I1 : Obj.IsDictOf (strKind prog w) { cls := .type "dict", data := .dict #[] } [] := by
    obtain ⟨o, ho, hi⟩ := Heap.dictOf_iff.mp (Heap.DictOf.new (knd := strKind prog w) s.heap)
    rw [Heap.get?_push_size _ rfl] at ho
    cases ho
    exact hi
  refine wpAny_bind ?_
  simp only [List.forIn_cons, List.forIn_nil]
  have v1 : valueAt [(nYear, Value.int 1 b1), (nMonth, .int 2 b2), (nDay, .int 3 b3), (nHour, .int 4 b4), (nMinute, .int 5 b5), (nSecond, .int 6 b6)] nYear = some (.int ((1 : Nat) : Int) b1) := value_at 0 (by show [nYear, nMonth, nDay, nHour, nMinute, nSecond].findIdx? _ = _; decide +kernel) rfl
  refine wpAny_bind (wpAny_bind (entry_ (g := 1) F1 N1 hD I1 ?_ hP hND v1 rfl qs (by decide) g1 ?_ fun h1 o1 t1 k1 W1 F2 N2 I2 => wpAny_pure ?_))
  · exact Nat.le_of_ble_eq_true rfl
  · rfl
  have v2 : valueAt [(nYear, Value.int 1 b1), (nMonth, .int 2 b2), (nDay, .int 3 b3), (nHour, .int 4 b4), (nMinute, .int 5 b5), (nSecond, .int 6 b6)] nMonth = some (.int ((2 : Nat) : Int) b2) := value_at 1 (by show [nYear, nMonth, nDay, nHour, nMinute, nSecond].findIdx? _ = _; decide +kernel) rfl
  refine wpAny_bind (wpAny_bind (entry_ (s := { s with heap := h1, toks := k1 }) (g := 2) F2 N2 hD I2 ?_ hP hND v2 rfl qs (by decide) g2 ?_ fun h2 o2 t2 k2 W2 F3 N3 I3 => wpAny_pure ?_))
  · exact Nat.le_of_ble_eq_true rfl
  · exact any_no (by show ([nYear].any _) = _; decide +kernel)
  have v3 : valueAt [(nYear, Value.int 1 b1), (nMonth, .int 2 b2), (nDay, .int 3 b3), (nHour, .int 4 b4), (nMinute, .int 5 b5), (nSecond, .int 6 b6)] nDay = some (.int ((3 : Nat) : Int) b3) := value_at 2 (by show [nYear, nMonth, nDay, nHour, nMinute, nSecond].findIdx? _ = _; decide +kernel) rfl
  refine wpAny_bind (wpAny_bind (entry_ (s := { s with heap := h2, toks := k2 }) (g := 3) F3 N3 hD I3 ?_ hP hND v3 rfl qs (by decide) g3 ?_ fun h3 o3 t3 k3 W3 F4 N4 I4 => wpAny_pure ?_))
  · exact Nat.le_of_ble_eq_true rfl
  · exact any_no (by show ([nYear, nMonth].any _) = _; decide +kernel)
  have v4 : valueAt [(nYear, Value.int 1 b1), (nMonth, .int 2 b2), (nDay, .int 3 b3), (nHour, .int 4 b4), (nMinute, .int 5 b5), (nSecond, .int 6 b6)] nHour = some (.int ((4 : Nat) : Int) b4) := value_at 3 (by show [nYear, nMonth, nDay, nHour, nMinute, nSecond].findIdx? _ = _; decide +kernel) rfl
  refine wpAny_bind (wpAny_bind (entry_ (s := { s with heap := h3, toks := k3 }) (g := 4) F4 N4 hD I4 ?_ hP hND v4 rfl qs (by decide) g4 ?_ fun h4 o4 t4 k4 W4 F5 N5 I5 => wpAny_pure ?_))
  · exact Nat.le_of_ble_eq_true rfl
  · exact any_no (by show ([nYear, nMonth, nDay].any _) = _; decide +kernel)
  have v5 : valueAt [(nYear, Value.int 1 b1), (nMonth, .int 2 b2), (nDay, .int 3 b3), (nHour, .int 4 b4), (nMinute, .int 5 b5), (nSecond, .int 6 b6)] nMinute = some (.int ((5 : Nat) : Int) b5) := value_at 4 (by show [nYear, nMonth, nDay, nHour, nMinute, nSecond].findIdx? _ = _; decide +kernel) rfl
  refine wpAny_bind (wpAny_bind (entry_ (s := { s with heap := h4, toks := k4 }) (g := 5) F5 N5 hD I5 ?_ hP hND v5 rfl qs (by decide) g5 ?_ fun h5 o5 t5 k5 W5 F6 N6 I6 => wpAny_pure ?_))
  · exact Nat.le_of_ble_eq_true rfl
  · exact any_no (by show ([nYear, nMonth, nDay, nHour].any _) = _; decide +kernel)
  have v6 : valueAt [(nYear, Value.int 1 b1), (nMonth, .int 2 b2), (nDay, .int 3 b3), (nHour, .int 4 b4), (nMinute, .int 5 b5), (nSecond, .int 6 b6)] nSecond = some (.int ((6 : Nat) : Int) b6) := value_at 5 (by show [nYear, nMonth, nDay, nHour, nMinute, nSecond].findIdx? _ = _; decide +kernel) rfl
  refine wpAny_bind (wpAny_bind (entry_ (s := { s with heap := h5, toks := k5 }) (g := 6) F6 N6 hD I6 ?_ hP hND v6 rfl qs (by decide) g6 ?_ fun h6 o6 t6 k6 W6 F7 N7 I7 => wpAny_pure ?_))
  · exact Nat.le_of_ble_eq_true rfl
  · exact any_no (by show ([nYear, nMonth, nDay, nHour, nMinute].any _) = _; decide +kernel)
  exact wpAny_pure (wpAny_pure (h _ _ _ _ _ _ _ _ _ W1 W2 W3 W4 W5 W6 F7 N7 I7))
end
end Mine.Internal

end
section
open PySem PySem.W PyProof.Rows PySem.Calls PySem.Spec PySem.Builtin.Re
set_option maxRecDepth 100000
set_option linter.unusedVariables false
namespace Mine.Internal
noncomputable def stampL (y m d h mi sc : Int) : List Nat := [] ++ dg4 y ++ [45] ++ dg2 m ++ [45] ++ dg2 d ++ [84] ++ dg2 h ++ [58] ++ dg2 mi ++ [58] ++ dg2 sc ++ [90]
theorem fig_dig (n : Int) : ∃ b, b < 10 ∧ fig n = 48 + b := ⟨(n % 10).toNat, by omega, rfl⟩
noncomputable def okc (x y : Nat) : Prop := x = y ∨ ∃ a b, a < 10 ∧ b < 10 ∧ x = 48 + a ∧ y = 48 + b
noncomputable def all2 : List Nat → List Nat → Prop
  | x :: a, y :: l => okc x y ∧ all2 a l
  | [], [] => True
  | _, _ => False
theorem all2_at : ∀ {a l : List Nat}, all2 a l → ∀ i, i < a.length → okc (a.getD i 0) (l.getD i 0)
  | [], _, _, i, hi => absurd hi (Nat.not_lt_zero _)
  | x :: a, [], h, _, _ => h.elim
  | x :: a, y :: l, h, 0, _ => h.1
  | x :: a, y :: l, h, i + 1, hi => all2_at h.2 i (Nat.lt_of_succ_lt_succ hi)
theorem same_of {a l : List Nat} (h : all2 a l) : Same a.toArray l.toArray := ⟨fun i hi => by
  have := all2_at h i (by simpa using hi)
  have e1 : a.toArray.getD i 0 = a.getD i 0 := by simp
  have e2 : l.toArray.getD i 0 = l.getD i 0 := by simp
  rw [e1, e2]; exact this⟩
theorem okd (n : Int) : okc 48 (fig n) := let ⟨b, hb, e⟩ := fig_dig n; .inr ⟨0, b, by decide, hb, rfl, e⟩
theorem oke (n : Nat) : okc n n := .inl rfl
theorem stampL_same (y m d h mi sc : Int) : stamped (stampL y m d h mi sc) := by
  show Same (List.toArray [48, 48, 48, 48, 45, 48, 48, 45, 48, 48, 84, 48, 48, 58, 48, 48, 58, 48, 48, 90]) (stampL y m d h mi sc).toArray
  refine same_of ?_
  show all2 _ [fig (y / 1000), fig (y / 100), fig (y / 10), fig y, 45, fig (m / 10), fig m, 45, fig (d / 10), fig d, 84, fig (h / 10), fig h, 58, fig (mi / 10), fig mi, 58, fig (sc / 10), fig sc, 90]
  exact ⟨okd _, okd _, okd _, okd _, oke _, okd _, okd _, oke _, okd _, okd _, oke _, okd _, okd _, oke _, okd _, okd _, oke _, okd _, okd _, oke _, trivial⟩
theorem pa_pat : PlainAttrs "re.Pattern" :=
  ⟨⟨"object.__getattribute__", by rw [typeLookup_type, builtinLookup_eq_fast]; kernel_rfl, by decide +kernel⟩, by rw [typeLookup_type, builtinLookup_eq_fast]; kernel_rfl⟩
theorem slot_match : Slot "re.Pattern" "match" "re.Pattern.match" :=
  .of (owner := "re.Pattern") (n := "match") (by rw [typeLookup_type, builtinLookup_eq_fast]; kernel_rfl) (by decide +kernel) (by decide +kernel) (by decide +kernel)
    (by first | exact .inl (by decide +kernel) | exact .inr (by decide +kernel)) (by rw [isSubtype_type]; kernel_rfl)
theorem type_match : typeOf (.builtin "re.Pattern.match") = pure (.type "method_descriptor") := by show builtinType _ = _; rw [builtinType_eq_fast]; kernel_rfl
theorem entry_match : entryFor table "re.Pattern.match" = some Builtin.«re.Pattern.match» := entryFor_of_tree (by kernel_rfl)
theorem pa_mat : PlainAttrs "re.Match" :=
  ⟨⟨"object.__getattribute__", by rw [typeLookup_type, builtinLookup_eq_fast]; kernel_rfl, by decide +kernel⟩, by rw [typeLookup_type, builtinLookup_eq_fast]; kernel_rfl⟩
theorem slot_groupdict : Slot "re.Match" "groupdict" "re.Match.groupdict" :=
  .of (owner := "re.Match") (n := "groupdict") (by rw [typeLookup_type, builtinLookup_eq_fast]; kernel_rfl) (by decide +kernel) (by decide +kernel) (by decide +kernel)
    (by first | exact .inl (by decide +kernel) | exact .inr (by decide +kernel)) (by rw [isSubtype_type]; kernel_rfl)
theorem type_groupdict : typeOf (.builtin "re.Match.groupdict") = pure (.type "method_descriptor") := by show builtinType _ = _; rw [builtinType_eq_fast]; kernel_rfl
theorem owner_pat : Manifest.owners.lookup (String.ofList ['n', 'r', 'e', 't', 't', 'a', 'P', '.', 'e', 'r'].reverse) = some Manifest.sig_re_Pattern := by kernel_rfl
theorem entry_groupdict : entryFor table "re.Match.groupdict" = some Builtin.«re.Match.groupdict» := entryFor_of_tree (by kernel_rfl)
theorem args_match (a b : Value) : argsOk "re.Pattern.match" ⟨[a, b], []⟩ := by
  unfold argsOk; rw [signature?_of (id := "re.Pattern.match") (n := ['h', 'c', 't', 'a', 'm']) (o := ['n', 'r', 'e', 't', 't', 'a', 'P', '.', 'e', 'r']) (by kernel_rfl) owner_pat]; kernel_rfl
theorem owner_mat : Manifest.owners.lookup (String.ofList ['h', 'c', 't', 'a', 'M', '.', 'e', 'r'].reverse) = some Manifest.sig_re_Match := by kernel_rfl
theorem args_groupdict (a : Value) : argsOk "re.Match.groupdict" ⟨[a], []⟩ := by
  unfold argsOk; rw [signature?_of (id := "re.Match.groupdict") (n := ['t', 'c', 'i', 'd', 'p', 'u', 'o', 'r', 'g']) (o := ['h', 'c', 't', 'a', 'M', '.', 'e', 'r']) (by kernel_rfl) owner_mat]; kernel_rfl
noncomputable abbrev matchObj (P : Addr) (l : List Nat) (t : Tok) (tt : Addr) : Obj := { cls := .type "re.Match", data := .fields #[.str (tx l) t, .ref P, .int 0 0, .int 20 0, .int 6 0, .ref tt] }
section
variable {prog : Program} {w : World} {A : Around} {E : Value → Shared → Prop} {s : Shared} {K : Frag} {h₀ : Heap} {L : Addr} {m : Str → Option Value} {news : List (Addr × Obj)} {P gi ct : Addr} {l : List Nat} {t : Tok}
structure PatK (w : World) (K : Frag) (P : Addr) : Prop where
  mk ::
  at_ : ∃ gi ct src ts tf ix, K.lookup P = some ⟨.type "re.Pattern", none, .fields #[.str src ts, .int 256 tf, .int 6 0, .ref gi, ix, .ref ct, .int 0 0], #[]⟩ ∧ (∃ n, K.lookup ct = some ⟨.type "tuple", none, .seq CODEV n, #[]⟩)
    ∧ ∃ ep a1 a2 a3 a4 a5 a6 b1 b2 b3 b4 b5 b6, K.lookup gi = some ⟨.type "dict", none, .dict #[⟨hashStr w nYear, .str nYear a1, .int 1 b1⟩, ⟨hashStr w nMonth, .str nMonth a2, .int 2 b2⟩, ⟨hashStr w nDay, .str nDay a3, .int 3 b3⟩, ⟨hashStr w nHour, .str nHour a4, .int 4 b4⟩, ⟨hashStr w nMinute, .str nMinute a5, .int 5 b5⟩, ⟨hashStr w nSecond, .str nSecond a6, .int 6 b6⟩] ep, #[]⟩
theorem PatK.pat (x : PatK w K P) (X : K.In h₀) : ∃ gi ct, PatAt h₀ P gi ct ∧ NamesAt w h₀ gi := by
  obtain ⟨gi, ct, src, ts, tf, ix, hp, ⟨n, hc⟩, ep, a1, a2, a3, a4, a5, a6, b1, b2, b3, b4, b5, b6, hg⟩ := x.at_
  exact ⟨gi, ct, ⟨⟨_, _, _, _, _, _, X _ _ hp⟩, ⟨_, _, _, X _ _ hc⟩⟩, ⟨ep, a1, a2, a3, a4, a5, a6, b1, b2, b3, b4, b5, b6, X _ _ hg⟩⟩
theorem match_method {pl : Sem Bool} {Q : Value × List Value → Shared → Prop} (F : Fr h₀ L s.heap m) (X : K.In h₀) (hK : PatK w K P) (h : Q (.builtin "re.Pattern.match", [.ref P]) s) : wpAny (model prog w) A (getMethod (.ref P) "match" pl) Q E s := by
  obtain ⟨gi, ct, src, ts, tf, ix, hp, _⟩ := hK.at_
  have hp' := F.keep _ _ (X _ _ hp)
  exact getMethod_builtin ⟨_, hp', rfl⟩ pa_pat slot_match type_match (fun a e => by cases e; exact ⟨_, hp', rfl⟩) h
end
end Mine.Internal

end
section
open PySem PySem.W PyProof.Rows PySem.Calls PySem.Spec
open PySem.Builtin PySem.Builtin.Str PySem.NumText
set_option maxRecDepth 100000
namespace Mine.Internal
theorem tx_nil : tx [] = PySem.Str.empty := tx_def _
theorem tx_of (x : PySem.Str) : x = tx x.cps.toList := by cases x; simp [tx_def]
noncomputable def Plain (l : List Nat) : Prop := l ≠ [] ∧ l.all (fun c => !Unicode.isSpace c) = true
theorem plain_of {l : List Nat} (h0 : l ≠ []) (h : ∀ c ∈ l, 33 ≤ c ∧ c ≤ 126) : Plain l :=
  ⟨h0, List.all_eq_true.mpr fun c hc => by rw [KWk.nosp (h c hc).1 (h c hc).2]; rfl⟩
noncomputable def joinSp : List (List Nat) → List Nat
  | [] => []
  | [p] => p
  | p :: q :: r => p ++ 32 :: joinSp (q :: r)
theorem scan_fold : ∀ (ps : List (List Nat)) (ws : List PySem.Str) (_ : ps ≠ []) (_ : ∀ p ∈ ps, Plain p), ∃ r : List Nat, r ≠ [] ∧ (joinSp ps).foldl KWd.step (ws, PySem.Str.empty) = (ws ++ (ps.dropLast.map tx), tx r) ∧ ps.getLast? = some r
  | [], _, h, _ => absurd rfl h
  | [p], ws, _, hp => by
    have h := hp p (.head _)
    refine ⟨p, h.1, ?_, rfl⟩
    show p.foldl KWd.step (ws, PySem.Str.empty) = _
    rw [KWk.fold_plain p _ h.2]
    simp [tx_def, PySem.Str.empty_append]
  | p :: q :: r, ws, _, hp => by
    have h := hp p (.head _)
    obtain ⟨x, hx, e, el⟩ := scan_fold (q :: r) (ws ++ [tx p]) (by simp) (fun a ha => hp a (.tail _ ha))
    refine ⟨x, hx, ?_, by rw [List.getLast?_cons_cons]; exact el⟩
    show (p ++ 32 :: joinSp (q :: r)).foldl KWd.step (ws, PySem.Str.empty) = _
    rw [List.foldl_append, KWk.fold_plain p _ h.2, List.foldl_cons]
    have e2 : KWd.step (ws, PySem.Str.empty ++ ⟨p.toArray⟩) 32 = (ws ++ [tx p], PySem.Str.empty) := by
      rw [PySem.Str.empty_append, ← tx_def]
      have hl : (tx p).length ≠ 0 := by rw [tx_length]; intro z; exact h.1 (List.eq_nil_of_length_eq_zero z)
      show (if Unicode.isSpace 32 = true then (if (tx p).length = 0 then _ else _) else _) = _
      rw [if_pos (by decide +kernel), if_neg hl]
    rw [e2, e]
    simp [List.dropLast]
theorem words_sp (ps : List (List Nat)) (h0 : ps ≠ []) (h : ∀ p ∈ ps, Plain p) : Txt.words (tx (joinSp ps)) = ps.map tx := by
  obtain ⟨r, hr, e, el⟩ := scan_fold ps [] h0 h
  have hs : KWd.scan (tx (joinSp ps)) = (ps.dropLast.map tx, tx r) := by
    unfold KWd.scan
    rw [tx_toList, e, List.nil_append]
  rw [KWd.words_of hs, if_neg (by rw [tx_length]; intro z; exact hr (List.eq_nil_of_length_eq_zero z))]
  obtain ⟨hne, hg⟩ : ∃ h : ps ≠ [], ps.getLast h = r := by
    rw [List.getLast?_eq_some_getLast h0] at el
    exact ⟨h0, Option.some.inj el⟩
  have hd := List.dropLast_concat_getLast hne
  rw [hg] at hd
  calc ps.dropLast.map tx ++ [tx r] = (ps.dropLast ++ [r]).map tx := by simp
    _ = ps.map tx := by rw [hd]

noncomputable def joinC (c : Nat) : List (List Nat) → List Nat
  | [] => []
  | [p] => p
  | p :: q :: r => p ++ c :: joinC c (q :: r)
theorem joinC_str (c : Nat) : ∀ ps : List (List Nat), PySem.Str.join ⟨#[c]⟩ (ps.map tx) = tx (joinC c ps)
  | [] => (tx_def _).symm
  | [p] => rfl
  | p :: q :: r => by
    have ih := joinC_str c (q :: r)
    show tx p ++ ⟨#[c]⟩ ++ PySem.Str.join ⟨#[c]⟩ ((q :: r).map tx) = _
    rw [ih]
    have e : (⟨#[c]⟩ : PySem.Str) = tx [c] := (tx_def _).symm
    rw [e, tx_append, tx_append]
    simp [joinC]
theorem first_c {c : Nat} : ∀ {a b x y : List Nat}, c ∉ a → c ∉ b → a ++ c :: x = b ++ c :: y → a = b ∧ x = y
  | [], [], x, y, _, _, h => ⟨rfl, by simpa using h⟩
  | [], d :: b, x, y, _, hb, h => by
    have : c = d := by simpa using (List.cons.inj h).1
    exact absurd (this ▸ .head _) hb
  | d :: a, [], x, y, ha, _, h => by
    have : d = c := by simpa using (List.cons.inj h).1
    exact absurd (this ▸ .head _) ha
  | d :: a, e :: b, x, y, ha, hb, h => by
    have h1 : d = e := (List.cons.inj h).1
    have h2 : a ++ c :: x = b ++ c :: y := (List.cons.inj h).2
    obtain ⟨rfl, r⟩ := first_c (fun m => ha (.tail _ m)) (fun m => hb (.tail _ m)) h2
    exact ⟨by rw [h1], r⟩
theorem joinC_uniq {c : Nat} : ∀ {ps qs : List (List Nat)}, ps ≠ [] → qs ≠ [] → (∀ p ∈ ps, c ∉ p) → (∀ q ∈ qs, c ∉ q) → joinC c ps = joinC c qs → ps = qs
  | [], _, h, _, _, _, _ => absurd rfl h
  | _, [], _, h, _, _, _ => absurd rfl h
  | [p], [q], _, _, _, _, h => by show [p] = [q]; rw [show p = q from h]
  | [p], q :: q' :: r, _, _, hp, _, h => by
    exfalso
    have e : p = q ++ c :: joinC c (q' :: r) := h
    exact hp p (.head _) (e ▸ List.mem_append_right _ (.head _))
  | p :: p' :: r, [q], _, _, _, hq, h => by
    exfalso
    have e : p ++ c :: joinC c (p' :: r) = q := h
    exact hq q (.head _) (e ▸ List.mem_append_right _ (.head _))
  | p :: p' :: r, q :: q' :: r', _, _, hp, hq, h => by
    have h' : p ++ c :: joinC c (p' :: r) = q ++ c :: joinC c (q' :: r') := h
    obtain ⟨rfl, h2⟩ := first_c (hp p (.head _)) (hq q (.head _)) h'
    rw [joinC_uniq (by simp) (by simp) (fun a ha => hp a (.tail _ ha)) (fun a ha => hq a (.tail _ ha)) h2]
theorem split_ne (x y : PySem.Str) : Txt.split x y ≠ [] ∨ x = PySem.Str.empty := by
  by_cases h : Txt.split x y = []
  · right
    have := StrLaws.join_split x y
    rw [h] at this
    exact this.symm
  · exact .inl h
theorem split_c (c : Nat) (ps : List (List Nat)) (h0 : ps ≠ []) (h1 : joinC c ps ≠ []) (h : ∀ p ∈ ps, c ∉ p) : Txt.split (tx (joinC c ps)) ⟨#[c]⟩ = ps.map tx := by
  have hne : Txt.split (tx (joinC c ps)) ⟨#[c]⟩ ≠ [] := by
    rcases split_ne (tx (joinC c ps)) ⟨#[c]⟩ with q | q
    · exact q
    · exact absurd (tx_inj (q.trans tx_nil.symm)) h1
  have hj := StrLaws.join_split (tx (joinC c ps)) ⟨#[c]⟩
  have hf := StrLaws.split_free (tx (joinC c ps)) c
  generalize Txt.split (tx (joinC c ps)) ⟨#[c]⟩ = ss at hne hj hf
  have e : ss = (ss.map fun x => x.cps.toList).map tx := by
    rw [List.map_map]
    exact (List.map_id' ss).symm.trans (List.map_congr_left fun x _ => tx_of x)
  rw [e, joinC_str] at hj
  have := joinC_uniq (c := c) (ps := ss.map fun x => x.cps.toList) (qs := ps) (by simpa using hne) h0 (fun p hp => by
    obtain ⟨x, hx, rfl⟩ := List.mem_map.mp hp
    exact hf x hx) h (tx_inj hj)
  rw [e, this]
theorem find_no {l : List Nat} {c : Nat} (h : c ∉ l) : Txt.find (tx l) ⟨#[c]⟩ = -1 := by
  have q := StrLaws.found_one (tx l) c
  rw [tx_toList, decide_eq_false h] at q
  have q' : (occurrences (tx l) ⟨#[c]⟩ 0 (tx l).length 1).isEmpty = true := by simpa using q
  unfold Txt.find
  rw [List.isEmpty_iff.mp q']
end Mine.Internal

end
section
open PySem PySem.W PyProof.Rows PySem.Calls PySem.Spec
open PySem.Builtin PySem.Builtin.Str PySem.NumText
set_option maxRecDepth 100000
namespace Mine.Internal
noncomputable def monTab : List (List Nat) := [[74, 97, 110], [70, 101, 98], [77, 97, 114], [65, 112, 114], [77, 97, 121], [74, 117, 110], [74, 117, 108], [65, 117, 103], [83, 101, 112], [79, 99, 116], [78, 111, 118], [68, 101, 99]]
noncomputable def mon (m : Int) : List Nat := monTab.getD (m - 1).toNat []
noncomputable def lmon (m : Int) : List Nat := (mon m).map fun c => if c < 97 then c + 32 else c
theorem mon_slice {m : Int} (h : 1 ≤ m ∧ m ≤ 12) : Txt.slice (PySem.Str.ofString "JanFebMarAprMayJunJulAugSepOctNovDec") (some (3 * m - 3)) (some (3 * m)) = tx (mon m) := by
  rcases months h with rfl | rfl | rfl | rfl | rfl | rfl | rfl | rfl | rfl | rfl | rfl | rfl <;> (rw [tx_def]; decide +kernel)
theorem mon_len {m : Int} (h : 1 ≤ m ∧ m ≤ 12) : (mon m).length = 3 := by
  rcases months h with rfl | rfl | rfl | rfl | rfl | rfl | rfl | rfl | rfl | rfl | rfl | rfl <;> rfl
theorem mon_mem {m : Int} (h : 1 ≤ m ∧ m ≤ 12) : ∀ c ∈ mon m, 65 ≤ c ∧ c ≤ 122 := by
  rcases months h with rfl | rfl | rfl | rfl | rfl | rfl | rfl | rfl | rfl | rfl | rfl | rfl <;> decide
theorem dg2_mem (n : Int) : ∀ c ∈ dg2 n, 48 ≤ c ∧ c ≤ 57 := by
  intro c hc
  simp only [dg2, List.mem_cons, List.not_mem_nil, or_false] at hc
  rcases hc with rfl | rfl <;> exact ⟨fig_lo _, fig_hi _⟩
theorem dg4_mem (n : Int) : ∀ c ∈ dg4 n, 48 ≤ c ∧ c ≤ 57 := by
  intro c hc
  simp only [dg4, List.mem_cons, List.not_mem_nil, or_false] at hc
  rcases hc with rfl | rfl | rfl | rfl <;> exact ⟨fig_lo _, fig_hi _⟩
theorem dgs_mem (n : Int) : ∀ c ∈ dgs n, 48 ≤ c ∧ c ≤ 57 := dgs_digits
theorem dgs_ne (n : Int) : dgs n ≠ [] := by
  unfold dgs dg2 dg3 dg4
  split
  · simp
  · split
    · simp
    · split <;> simp
noncomputable def clk (h mi sc : Int) : List Nat := joinC 58 [dg2 h, dg2 mi, dg2 sc]
theorem clk_eq (h mi sc : Int) : clk h mi sc = [fig (h / 10), fig h, 58, fig (mi / 10), fig mi, 58, fig (sc / 10), fig sc] := rfl
theorem clk_mem (h mi sc : Int) : ∀ c ∈ clk h mi sc, 48 ≤ c ∧ c ≤ 58 := by
  intro c hc
  rw [clk_eq] at hc
  have key : ∀ k, c = fig k → 48 ≤ c ∧ c ≤ 58 := fun k e => by have := fig_lo k; have := fig_hi k; omega
  simp only [List.mem_cons, List.not_mem_nil, or_false] at hc
  rcases hc with e | e | e | e | e | e | e | e <;> first | exact key _ e | omega
theorem plain_mem {l : List Nat} (h0 : l ≠ []) (h : ∀ c ∈ l, 48 ≤ c ∧ c ≤ 122) : Plain l := plain_of h0 fun c hc => by have := h c hc; omega
theorem plain_dgs (n : Int) : Plain (dgs n) := plain_mem (dgs_ne n) fun c hc => by have := dgs_mem n c hc; omega
theorem plain_dg4 (n : Int) : Plain (dg4 n) := plain_mem (by simp [dg4]) fun c hc => by have := dg4_mem n c hc; omega
theorem plain_dg2 (n : Int) : Plain (dg2 n) := plain_mem (by simp [dg2]) fun c hc => by have := dg2_mem n c hc; omega
theorem plain_clk (h mi sc : Int) : Plain (clk h mi sc) := plain_mem (by simp [clk_eq]) fun c hc => by have := clk_mem h mi sc c hc; omega
theorem plain_mon {m : Int} (h : 1 ≤ m ∧ m ≤ 12) : Plain (mon m) := plain_mem (by intro e; have := mon_len h; rw [e] at this; cases this) fun c hc => by have := mon_mem h c hc; omega
noncomputable def mailT (d m y h mi sc : Int) : List Nat := joinSp [dgs d, mon m, dg4 y, clk h mi sc]
theorem colon : PySem.Str.ofString ":" = ⟨#[58]⟩ := by decide
theorem comma : PySem.Str.ofString "," = ⟨#[44]⟩ := by decide
theorem minus : PySem.Str.ofString "-" = ⟨#[45]⟩ := by decide
theorem plus : PySem.Str.ofString "+" = ⟨#[43]⟩ := by decide
theorem split_clk (h mi sc : Int) : Txt.split (tx (clk h mi sc)) ⟨#[58]⟩ = [tx (dg2 h), tx (dg2 mi), tx (dg2 sc)] := by
  unfold clk
  rw [split_c 58 _ (by simp) (by simp [joinC, dg2]) (fun p hp => ?_)]
  · rfl
  · simp only [List.mem_cons, List.not_mem_nil, or_false] at hp
    rcases hp with rfl | rfl | rfl <;> exact fun hc => by have := dg2_mem _ _ hc; omega
end Mine.Internal

end
section
open PySem PySem.W PyProof.Rows PySem.Calls PySem.Spec
open PySem.Builtin PySem.Builtin.Str PySem.NumText
set_option maxRecDepth 100000
namespace Mine.Internal
noncomputable def Hi (l : List Nat) : Prop := ∀ c ∈ l, 48 ≤ c ∧ c ≤ 122
theorem hi_clk (h mi sc : Int) : Hi (clk h mi sc) := fun c hc => by have := clk_mem h mi sc c hc; omega
noncomputable def Len (l : List Nat) : Prop := 1 ≤ l.length ∧ l.length ≤ 40
theorem len_dgs (n : Int) : Len (dgs n) := ⟨List.length_pos_iff.mpr (dgs_ne n), Nat.le_trans (dgs_len n) (by decide)⟩
theorem len_dg4 (n : Int) : Len (dg4 n) := ⟨by simp [dg4], by simp [dg4]⟩
theorem len_dg2 (n : Int) : Len (dg2 n) := ⟨by simp [dg2], by simp [dg2]⟩
theorem len_clk (h mi sc : Int) : Len (clk h mi sc) := ⟨by simp [clk_eq], by simp [clk_eq]⟩
theorem len_mon {m : Int} (h : 1 ≤ m ∧ m ≤ 12) : Len (mon m) := by unfold Len; rw [mon_len h]; decide
theorem len_lmon {m : Int} (h : 1 ≤ m ∧ m ≤ 12) : Len (lmon m) := by unfold Len lmon; rw [List.length_map, mon_len h]; decide
theorem tr_pos {l : List Nat} (h : Len l) : 1 ≤ (tx l).length := by rw [tx_length]; exact h.1
theorem tr_len {l : List Nat} (h : Len l) : (tx l).length ≤ 40 := by rw [tx_length]; exact h.2
theorem fits_l {l : List Nat} (h : l.length ≤ 1000) : (tx l).length + 2 ≤ sizeLine := by rw [tx_length, sizeLine_eq]; omega

theorem find_c {l : List Nat} {c : Nat} {y : PySem.Str} (hy : y = ⟨#[c]⟩) (h : c ∉ l) : Txt.find (tx l) y = -1 := by rw [hy]; exact find_no h
theorem rfind_c {l : List Nat} {c : Nat} {y : PySem.Str} (hy : y = ⟨#[c]⟩) (h : c ∉ l) : Txt.rfind (tx l) y = -1 := by
  subst hy
  have q : ∀ i, ¬ StrLaws.At (tx l) ⟨#[c]⟩ (tx l).length i := fun i hi => by
    have := (StrLaws.subAt_one (tx l) c i).mp hi
    rw [tx_toList] at this
    exact h (List.mem_of_getElem? this)
  unfold Txt.rfind
  rcases StrLaws.last_spec (tx l) ⟨#[c]⟩ with ⟨e, _⟩ | ⟨i, _, hi, _⟩
  · rw [e]
  · exact absurd hi (q i)
theorem ends_c {l : List Nat} {c : Nat} {y : PySem.Str} (hy : y = ⟨#[c]⟩) (h : c ∉ l) : Txt.endswith (tx l) y = false := by
  subst hy
  unfold Txt.endswith
  by_cases hl : 1 ≤ (tx l).length
  · have q := StrLaws.subAt_one (tx l) c ((tx l).length - 1)
    rw [tx_toList] at q
    have e : (⟨#[c]⟩ : PySem.Str).length = 1 := rfl
    rw [e]
    cases z : subAt (tx l) ⟨#[c]⟩ ((tx l).length - 1) with
    | false => simp
    | true =>
      have := q.mp ⟨by rw [e]; omega, z⟩
      exact absurd (List.mem_of_getElem? this) h
  · have e : (⟨#[c]⟩ : PySem.Str).length = 1 := rfl
    rw [e]
    simp; omega
theorem hi_no {l : List Nat} {c : Nat} (h : Hi l) (hc : c < 48) : c ∉ l := fun m => by have := h c m; omega
theorem lower_hi {l : List Nat} (h : ∀ c ∈ l, c < 128) : Txt.lower (tx l) = tx (l.map lo1) := by
  rw [lower_ascii (by rw [tx_toList]; exact h)]
  simp [tx_def]
theorem upper_hi {l : List Nat} (h : ∀ c ∈ l, c < 128) : Txt.upper (tx l) = tx (l.map up1) := by
  rw [upper_ascii (by rw [tx_toList]; exact h)]
  simp [tx_def]
theorem lower_mon {m : Int} (h : 1 ≤ m ∧ m ≤ 12) : Txt.lower (tx (mon m)) = tx (lmon m) := by
  rcases months h with rfl | rfl | rfl | rfl | rfl | rfl | rfl | rfl | rfl | rfl | rfl | rfl <;> (rw [tx_def, tx_def]; decide +kernel)
theorem isdigit_T : ∀ k : Nat, k < 58 → 48 ≤ k → Txt.isdigit ⟨#[k]⟩ = true := by decide +kernel
theorem isdigit_fig (n : Int) : Txt.isdigit (tx [fig n]) = true := by
  rw [tx_def]
  exact isdigit_T (fig n) (Nat.lt_succ_of_le (fig_hi n)) (fig_lo n)
theorem val_dg2 {n : Int} (h0 : 0 ≤ n) (h1 : n < 100) : PySem.intText? (tx (dg2 n)) = some n := by
  rw [intText_digits (by rw [tx_toList]; exact dg2_mem n) (by rw [tx_toList]; simp [dg2]) (by rw [tx_length]; simp [dg2])]
  rw [tx_toList]
  congr 1
  simp only [dg2, digitsVal, List.foldl, Nat.zero_mul, Nat.zero_add]
  rw [val_two h0 h1, Int.toNat_of_nonneg h0]
theorem val_dg4 {n : Int} (h0 : 0 ≤ n) (h1 : n < 10000) : PySem.intText? (tx (dg4 n)) = some n := by
  rw [intText_digits (by rw [tx_toList]; exact dg4_mem n) (by rw [tx_toList]; simp [dg4]) (by rw [tx_length]; simp [dg4])]
  rw [tx_toList]
  congr 1
  simp only [dg4, digitsVal, List.foldl, Nat.zero_mul, Nat.zero_add]
  rw [val_four h0 h1, Int.toNat_of_nonneg h0]
theorem val_dgs {n : Int} (h0 : 0 ≤ n) (h1 : n < 10000) : PySem.intText? (tx (dgs n)) = some n := by
  have hl := dgs_len n
  rw [intText_digits (by rw [tx_toList]; exact dgs_mem n) (by rw [tx_toList]; exact dgs_ne n) (by rw [tx_length]; omega)]
  rw [tx_toList, dgs_val h0 h1]
  congr 1
  omega
end Mine.Internal
namespace Mine.Internal
open PySem PySem.W PyProof.Rows PySem.Calls PySem.Spec
theorem fit_l {x : PySem.Str} {l : List Nat} (e : x = tx l) (h : Len l) : Builtin.Str.tooLong x.length = false := by
  rw [e, tx_length]
  unfold Builtin.Str.tooLong
  exact decide_eq_false (by have := h.2; rw [sizeLine_eq]; omega)
end Mine.Internal

end
section
open PySem PySem.W PyProof.Rows PySem.Calls PySem.Spec
set_option maxRecDepth 100000
namespace Mine.Internal
noncomputable def strsOk : List Value → List (List Nat) → Bool
  | [], [] => true
  | .str x _ :: vs, y :: ys => x.cps == y.toArray && strsOk vs ys
  | _, _ => false
theorem strsOk_are : ∀ {vs : List Value} {ys : List (List Nat)}, strsOk vs ys = true → StrsAre vs (ys.map tx)
  | [], [], _ => .nil
  | .str x t :: vs, y :: ys, h => by
    rw [strsOk, Bool.and_eq_true] at h
    have e : x = tx y := by
      rw [tx_def, ← eq_of_beq h.1]
    subst e
    exact .cons _ t (strsOk_are h.2)
theorem any_tx (ys : List (List Nat)) (k : List Nat) : (ys.map tx).any (· == tx k) = ys.contains k := by
  induction ys with
  | nil => rfl
  | cons y r ih =>
    rw [List.map_cons, List.any_cons, ih, List.contains_cons]
    have e : (tx y == tx k) = (k == y) := by
      by_cases h : y = k
      · rw [h, beq_self_eq_true, beq_self_eq_true]
      · rw [beq_eq_false_iff_ne.mpr (fun e => h (tx_inj e)), beq_eq_false_iff_ne.mpr (Ne.symm h)]
    rw [e]
section
variable {prog : Program} {w : World} {A : Around} {E : Value → Shared → Prop} {s : Shared} {K : Frag} {h₀ : Heap} {L : Addr} {m : Str → Option Value} {l : Addr} {vs : List Value} {n0 : Nat} {k : List Nat} {t : Tok} {Q : Value → Shared → Prop} {ys : List (List Nat)} {b : Bool}
theorem in_strsK (ys : List (List Nat)) (F : Fr h₀ L s.heap m) (X : K.In h₀) (ho : K.lookup l = some ⟨.type "list", none, .seq vs.toArray n0, #[]⟩) (hs : strsOk vs ys = true) (hb : ys.contains k = b) (h : Q (.bool b) s) :
    wpAny (model prog w) A (compareOp .In (.str (tx k) t) (.ref l)) Q E s :=
  in_list_strs ⟨_, (X.keeps F.keep) _ _ ho, rfl, n0, rfl⟩ (strsOk_are hs) (by rw [any_tx, hb]; exact h)
theorem notin_strsK (ys : List (List Nat)) (F : Fr h₀ L s.heap m) (X : K.In h₀) (ho : K.lookup l = some ⟨.type "list", none, .seq vs.toArray n0, #[]⟩) (hs : strsOk vs ys = true) (hb : ys.contains k = b) (h : Q (.bool (!b)) s) :
    wpAny (model prog w) A (compareOp .NotIn (.str (tx k) t) (.ref l)) Q E s :=
  notin_list_strs ⟨_, (X.keeps F.keep) _ _ ho, rfl, n0, rfl⟩ (strsOk_are hs) (by rw [any_tx, hb]; exact h)
theorem strs_len : ∀ {vs : List Value} {ys : List Str}, StrsAre vs ys → vs.length = ys.length
  | _, _, .nil => rfl
  | _, _, .cons _ _ h => by rw [List.length_cons, List.length_cons, strs_len h]
theorem isStr_at (k : Str) : ∀ {vs : List Value} {ys : List Str} (_ : StrsAre vs ys) (j : Nat) (h1 : j < vs.length) (h2 : j < ys.length), isStrOf k vs[j] = (ys[j] == k)
  | _, _, .cons _ _ _, 0, _, _ => rfl
  | _, _, .cons _ _ h, j + 1, h1, h2 => isStr_at k h j (by simpa using h1) (by simpa using h2)
theorem index_strsK (ys : List (List Nat)) (F : Fr h₀ L s.heap m) (X : K.In h₀) (ho : K.lookup l = some ⟨.type "list", none, .seq vs.toArray n0, #[]⟩) (hs : strsOk vs ys = true) {j : Nat} (hj : ys.idxOf k = j) (hk : j < ys.length) (hz : ys.length ≤ 1000)
    (h : Q (.int (j : Nat) s.toks) { s with toks := s.toks + 1 }) :
    wpAny (model prog w) A (call (.builtin "list.index") [.ref l, .str (tx k) t]) Q E s := by
  have ho' := (X.keeps F.keep) _ _ ho
  have hi := strsOk_are hs
  have hl := strs_len hi
  rw [List.length_map] at hl
  refine call_meets PySem.F.slot_list_index ⟨_, ho', rfl⟩ PySem.F.entry_list_index (PySem.F.args_list_index_2 _ _)
    (MeetsSeq.list_index l vs.toArray n0 (.str (tx k) t) (isStrOf (tx k)) (fun y hy => eq_isStrOf (tx k) t hi y (by simpa using hy)) j (by simpa [hl] using hk) (by omega) ?_ ?_) ⟨ho', h⟩
  · show isStrOf (tx k) vs[j] = true
    rw [isStr_at (tx k) hi j (by omega) (by simpa using hk)]
    have : ys[j] = k := by
      subst hj
      exact List.getElem_idxOf hk
    simp [this]
  · intro i his hlt
    show isStrOf (tx k) vs[i] = false
    have hiy : i < ys.length := by omega
    rw [isStr_at (tx k) hi i (by simpa using his) (by simpa using hiy)]
    have : ys[i] ≠ k := by
      subst hj
      intro e
      have := List.not_of_lt_findIdx (p := (· == k)) (xs := ys) (i := i) hlt
      simp [e] at this
    have : tx ys[i] ≠ tx k := fun e => this (tx_inj e)
    simpa using this
end
noncomputable def mnTab : List (List Nat) := [[106, 97, 110], [102, 101, 98], [109, 97, 114], [97, 112, 114], [109, 97, 121], [106, 117, 110], [106, 117, 108], [97, 117, 103], [115, 101, 112], [111, 99, 116], [110, 111, 118], [100, 101, 99],
  [106, 97, 110, 117, 97, 114, 121], [102, 101, 98, 114, 117, 97, 114, 121], [109, 97, 114, 99, 104], [97, 112, 114, 105, 108], [109, 97, 121], [106, 117, 110, 101], [106, 117, 108, 121], [97, 117, 103, 117, 115, 116], [115, 101, 112, 116, 101, 109, 98, 101, 114], [111, 99, 116, 111, 98, 101, 114], [110, 111, 118, 101, 109, 98, 101, 114], [100, 101, 99, 101, 109, 98, 101, 114]]
noncomputable def dyTab : List (List Nat) := [[109, 111, 110], [116, 117, 101], [119, 101, 100], [116, 104, 117], [102, 114, 105], [115, 97, 116], [115, 117, 110]]
theorem lmon_in {m : Int} (h : 1 ≤ m ∧ m ≤ 12) : mnTab.contains (lmon m) = true := by
  rcases months h with rfl | rfl | rfl | rfl | rfl | rfl | rfl | rfl | rfl | rfl | rfl | rfl <;> decide
theorem lmon_idx {m : Int} (h : 1 ≤ m ∧ m ≤ 12) : mnTab.idxOf (lmon m) = (m - 1).toNat := by
  rcases months h with rfl | rfl | rfl | rfl | rfl | rfl | rfl | rfl | rfl | rfl | rfl | rfl <;> decide
theorem not_in_of_head {tab : List (List Nat)} (ht : tab.all (fun y => y.all (fun c => decide (97 ≤ c))) = true) {l : List Nat} {c : Nat} (hc : c ∈ l) (hl : c < 97) : tab.contains l = false := by
  cases q : tab.contains l with
  | false => rfl
  | true =>
    exfalso
    have hm : l ∈ tab := List.contains_iff_mem.mp q
    have h1 := List.all_eq_true.mp ht l hm
    have h2 := List.all_eq_true.mp h1 c hc
    have := of_decide_eq_true h2
    omega
theorem assign_list_eq (ts : List PySem.Expr) (p : Pos) (env : Env) (v : Value) : assign (.List ts p) env v = assign (.Tuple ts 0 p) env v := by
  conv => lhs; rw [assign.eq_def]
  conv => rhs; rw [assign.eq_def]
theorem Assign_List {M : Model} {A : Around} {E : Value → Shared → Prop} {s : Shared} {env : Env} {elts : List PySem.Expr} {tpos pos : Pos} {value : PySem.Expr} {Q : Flow → Shared → Prop}
    (h : wpAny M A (eval value env) (fun v s₁ => wpAny M A (assign (.Tuple elts 0 tpos) env v) (fun _ => Q .next) E s₁) E s)
    (hs : autoParam (swapsWithSole [.List elts tpos] value pos.line env = pure false) PySem.W.call_K._auto_4)
    (hw : autoParam (swappedStores [.List elts tpos] value env = pure none) PySem.W.call_K._auto_4) :
    wpAny M A (exec (.Assign [.List elts tpos] value pos) env) Q E s := by
  rw [exec_Assign]
  refine wpAny_bind (wpAny_standAt ?_)
  rw [hs]
  refine wpAny_bind (wpAny_pure ?_)
  rw [if_neg (by decide)]
  refine wpAny_bind (wpAny_mono h (fun v s₁ h₁ => ?_) fun _ _ x => x)
  rw [hw]
  refine wpAny_bind (wpAny_pure ?_)
  show wpAny M A (do assignAll v [assign (.List elts tpos) env]; pure .next) Q E s₁
  rw [show assign (.List elts tpos) env = assign (.Tuple elts 0 tpos) env from funext fun v => assign_list_eq elts tpos env v]
  exact wpAny_bind (wpAny_mono h₁ (fun _ _ x => wpAny_pure x) fun _ _ x => x)
theorem index_method {prog : Program} {w : World} {A : Around} {E : Value → Shared → Prop} {s : Shared} {K : Frag} {h₀ : Heap} {L : Addr} {m : Str → Option Value} {l : Addr} {vs : Array Value} {n0 : Nat} {pl : Sem Bool} {Q : Value × List Value → Shared → Prop}
    (F : Fr h₀ L s.heap m) (X : K.In h₀) (ho : K.lookup l = some ⟨.type "list", none, .seq vs n0, #[]⟩) (h : Q (.builtin "list.index", [.ref l]) s) : wpAny (model prog w) A (getMethod (.ref l) "index" pl) Q E s :=
  getMethod_builtin ⟨_, (X.keeps F.keep) _ _ ho, rfl⟩ PySem.F.plainAttrs_list PySem.F.slot_list_index PySem.F.type_list_index (fun a e => by cases e; exact ⟨_, (X.keeps F.keep) _ _ ho, rfl⟩) h
section
variable {prog : Program} {w : World} {A : Around} {E : Value → Shared → Prop} {s : Shared} {value slice : PySem.Expr} {l : List Nat} {t u : Tok} {Q : Value → Shared → Prop} {c : Nat}
theorem item_at_tx {i : Int} {j : Nat} (hi : seqIndex? i l.length = some j) (hc : l[j]? = some c) : Txt.item (tx l) i = tx [c] := by
  have hl : (tx l).length = l.length := tx_length l
  unfold Txt.item Txt.charAt
  rw [hl, hi]
  have hj : j < l.length := (List.getElem?_eq_some_iff.mp hc).1
  have hv : l[j] = c := (List.getElem?_eq_some_iff.mp hc).2
  simp [tx_def, hj, hv]
theorem item_last_tx (hl : l.getLast? = some c) (hz : l.length ≤ 1000) (h : ∀ t', Q (.str (tx [c]) t') { s with toks := s.toks + 1 })
    (hs : autoParam (subscripted slice false (.str (tx l) t) (.int (-1) u) = operate [.str (tx l) t, .int (-1) u] (getItem (.str (tx l) t) (.int (-1) u))) PySem.W.pickK._auto_1)
    (ht : autoParam (∀ r, letTemporaryGo value (.str (tx l) t) r = pure ()) PySem.W.kim_tup._auto_3) :
    wpAny (model prog w) A (subscriptTail value slice (.str (tx l) t) (.int (-1) u)) Q E s := by
  have h0 : l ≠ [] := by intro e; rw [e] at hl; cases hl
  have hlen : 0 < l.length := List.length_pos_iff.mpr h0
  refine item_str (by decide) (by rw [tx_length]; omega) (by rw [tx_length]; omega) (fun _ => ?_) hs ht
  rw [item_at_tx (j := l.length - 1) (c := c) ?_ ?_]
  · exact h _
  · unfold seqIndex?
    have e1 : (if (-1 : Int) < 0 then (-1 : Int) + (l.length : Int) else -1) = (l.length : Int) - 1 := by rw [if_pos (by decide)]; omega
    simp only [e1]
    rw [if_pos (by simp; omega)]
    congr 1
    omega
  · rw [← List.getLast?_eq_getElem?]; exact hl
theorem item_first_tx (hl : l.head? = some c) (hz : l.length ≤ 1000) (h : ∀ t', Q (.str (tx [c]) t') { s with toks := s.toks + 1 })
    (hs : autoParam (subscripted slice false (.str (tx l) t) (.int 0 u) = operate [.str (tx l) t, .int 0 u] (getItem (.str (tx l) t) (.int 0 u))) PySem.W.pickK._auto_1)
    (ht : autoParam (∀ r, letTemporaryGo value (.str (tx l) t) r = pure ()) PySem.W.kim_tup._auto_3) :
    wpAny (model prog w) A (subscriptTail value slice (.str (tx l) t) (.int 0 u)) Q E s := by
  have h0 : l ≠ [] := by intro e; rw [e] at hl; cases hl
  have hlen : 0 < l.length := List.length_pos_iff.mpr h0
  refine item_str (by decide) (by rw [tx_length]; omega) (by rw [tx_length]; omega) (fun _ => ?_) hs ht
  rw [item_at_tx (j := 0) (c := c) ?_ ?_]
  · exact h _
  · exact StrLaws.seqIndex_nonneg (by decide) (by omega)
  · rw [← List.head?_eq_getElem?]; exact hl
theorem tx_beq (l : List Nat) (y : Str) : (tx l == y) = (l == y.cps.toList) := by
  by_cases h : tx l = y
  · subst h; rw [tx_toList, beq_self_eq_true, beq_self_eq_true]
  · have : l ≠ y.cps.toList := fun e => h (by rw [e]; exact (tx_of y).symm)
    rw [beq_eq_false_iff_ne.mpr h, beq_eq_false_iff_ne.mpr this]
theorem eq_tx {l : List Nat} {y : Str} {b : Bool} (h : (l == y.cps.toList) = b) (hq : Q (.bool b) s) : wpAny (model prog w) A (compareOp .Eq (.str (tx l) t) (.str y u)) Q E s :=
  eq_str (by rw [tx_beq, h]; exact hq)
end
theorem fig_ne {n : Int} {c : Nat} {y : Str} (hy : y = ⟨#[c]⟩) (hc : c < 48 ∨ 57 < c) : ([fig n] == y.cps.toList) = false := by
  subst hy
  have h1 := fig_lo n; have h2 := fig_hi n
  have : fig n ≠ c := by omega
  simp [this]
theorem dgs_getLast (n : Int) : (dgs n).getLast? = some (fig n) := by
  unfold dgs dg2 dg3 dg4
  split
  · rfl
  · split
    · rfl
    · split <;> rfl
theorem len1000 {l : List Nat} (h : Len l) : l.length ≤ 1000 := Nat.le_trans h.2 (by decide)
theorem clk_last (h mi sc : Int) : (clk h mi sc).getLast? = some (fig sc) := rfl
theorem dg4_head (n : Int) : (dg4 n).head? = some (fig (n / 1000)) := rfl
theorem split_clk2 (h mi sc : Int) : Txt.split (tx (clk h mi sc)) (Str.ofString ":") = [tx (dg2 h), tx (dg2 mi), tx (dg2 sc)] := by
  rw [colon, split_clk]
theorem find_col4 (n : Int) : Txt.find (tx (dg4 n)) (Str.ofString ":") = -1 := find_c colon fun hc => by have := dg4_mem n _ hc; omega
theorem len1000' {l : List Nat} (h : Len l) : (tx l).length ≤ 40 := tr_len h
end Mine.Internal

end
section
open PySem PySem.W PyProof.Rows PySem.Calls PySem.Spec
set_option Elab.async false
set_option maxRecDepth 100000
namespace Mine.Internal
section
variable {α : Type} {M : Model} {A : Around} {E : Value → Shared → Prop} {s : Shared}
theorem wpC_ifF {c : Prop} [Decidable c] {a b : Sem α} {Q : α → Shared → Prop} (hc : ¬ c) (h : wpC M A b Q E s) : wpC M A (if c then a else b) Q E s := by rw [if_neg hc]; exact h
theorem python_no {own : List String} : ∀ {l : List (Code × Pos)}, l.any (fun x => Code.isCaller x.1) = true → pythonCodeMadeTheCall own (l.map (·.1)) = false := by
  intro l h
  unfold pythonCodeMadeTheCall
  refine Bool.and_eq_false_iff.mpr (.inl (Bool.and_eq_false_iff.mpr (.inl ?_)))
  rw [Bool.not_eq_false', List.any_map]
  exact h
theorem wpC_mark {own : List String} {e : Value} {Q : Unit → Shared → Prop} (h : Q () s) : wpC M A (markTheRefusal own e) Q E s := fun Γ p hΓ hc => by
  unfold markTheRefusal stack
  rw [Sem.wp_bind', Sem.wp_stack]
  have h1 : ((Γ.code, p) :: Γ.below).any (fun x => Code.isCaller x.1) = true := by
    rw [List.any_cons]
    rcases hc with hc | hc
    · rw [hc]; rfl
    · rw [hc]; exact Bool.or_true _
  rw [Sem.wp_pure, if_neg (by rw [python_no h1]; exact Bool.false_ne_true)]
  exact h
end
section
variable {prog : Program} {w : World} {A : Around} {E : Value → Shared → Prop} {s : Shared}
theorem tree_int (t : Tok) {Q : Fin → Shared → Prop} (h : wpC (model prog w) A (call (.builtin "int.__new__") [.type "int", .str (Str.ofString "") t]) (fun _ _ => False) E s) :
    wpC (model prog w) A (Builtin.«type.__call__» ⟨[.type "int", .str (Str.ofString "") t], []⟩) Q E s := by
  obtain ⟨c, tl, hmro⟩ := F.called_int.mro
  have hmade := F.called_int.made
  have h1 := F.called_int.notType
  have h2 := F.called_int.canCreate
  have h3 := F.typeCall_int_1 (.str (Str.ofString "") t)
  unfold Builtin.«type.__call__»
  dsimp only
  refine wpC_ifF (by rw [h1]; exact Bool.false_ne_true) ?_
  refine wpC_ifF (by rw [h2]; exact Bool.false_ne_true) ?_
  rw [h3]
  refine wpC_then (wpAny_pure ?_)
  rw [hmro]
  refine wpC_then (wpAny_pure ?_)
  refine wpC_ifF (by exact Bool.false_ne_true) ?_
  rw [hmade]
  refine wpC_then (wpAny_pure ?_)
  dsimp only
  refine wpC_then (wpAny_pure ?_)
  exact wpC_bind (wpC_holding (wpC_mono h (fun _ _ x => x.elim) fun _ _ x => x))
theorem tree_new (t : Tok) {Q : Fin → Shared → Prop} (hA : A.handled = none) (h : ∀ h' tk e, Heap.NewExc s.heap h' e "ValueError" → E (.ref e) { s with heap := h', toks := tk }) :
    wpC (model prog w) A (Builtin.«int.__new__» ⟨[.type "int", .str (Str.ofString "") t], []⟩) Q E s := by
  obtain ⟨hp, g, d, tk, os⟩ := s
  have f1 := F.conv_sub_int
  have f2 := F.madeHere_int
  have f3 := KIN.str_int
  have f4 := KIN.str_idx
  have f5 := KIN.str_trunc
  have f6 : typeOf (.str (Str.ofString "") t) = pure (.type "str") := rfl
  unfold Builtin.«int.__new__»
  dsimp only
  refine wpC_then ?_
  repeat (any_goals (first | assumption | wp_step))
  refine wpC_ifF (by decide) ?_
  rw [f1]
  refine wpC_then (wpAny_pure ?_)
  refine wpC_ifF (by decide) ?_
  rw [f2]
  refine wpC_then (wpAny_pure ?_)
  refine wpC_ifF (by simp) ?_
  refine wpC_ifF (by simp) ?_
  refine wpC_then (wpAny_of_eq (a := PUnit.unit) rfl ?_)
  dsimp only [List.head?, List.getElem?_cons_succ, List.getElem?_nil, Option.map]
  refine wpC_bind ?_
  refine wpC_then ?_
  repeat (any_goals (first | assumption | wp_step))
  all_goals (try dsimp only)
  refine wpC_then ?_
  repeat (any_goals (first | assumption | wp_step))
  all_goals (try dsimp only)
  refine wpC_ifF (by simp) ?_
  refine wpC_then ?_
  repeat (any_goals (first | assumption | wp_step))
  all_goals (try dsimp only)
  refine wpC_then ?_
  repeat (any_goals (first | assumption | wp_step))
  all_goals (try dsimp only)
  rw [show (if ((Str.ofString "").cps.all fun x => decide (x < 128)) = true then (Str.ofString "").cps.toList else Unicode.numberText (Str.ofString "").cps.toList) = [] from by kernel_rfl]
  refine wpC_then ?_
  repeat (any_goals (first | assumption | wp_step))
  all_goals (try dsimp only)
  rw [show (int_private% "readNumeral") 0 10 (List.takeWhile (fun x => x != 0) []) = (int_private% "Numeral.invalid") from rfl]
  all_goals (try dsimp only)
  refine wpC_then ?_
  repeat (any_goals (first | assumption | wp_step))
  all_goals (try dsimp only)
  refine wpC_ifF (by simp) ?_
  refine wpC_then ?_
  repeat (any_goals (first | assumption | wp_step))
  all_goals (try dsimp only)
  refine wpC_then ?_
  repeat (any_goals (first | assumption | wp_step))
  all_goals (try dsimp only)
  refine wpC_then ?_
  refine wpAny_pyRepr_str ?_ (Nat.le_of_ble_eq_true (by kernel_rfl))
  refine wpC_then ?_
  refine wpAny_mkStr ?_ (Nat.le_of_ble_eq_true (by kernel_rfl))
  refine wpC_then ?_
  refine wpAny_newExc_plain plainExc_ValueError ?_
  intro h9 e9 x9
  refine wpC_bind (wpC_mark ?_)
  refine wpC_of ?_
  refine wpAny_raiseNew_none hA ?_
  exact h _ _ _ (Heap.MadeExc.newExc x9)
theorem codeC_builtin {R : Result → Shared → Prop} {id : String} {args : Args} {b : Builtin} (hb : entryFor table id = some b)
    (h : wpC (model prog w) (A.under (.builtin id args)) (b args)
      (fun fin s' => match fin with | .done f => R (.ok f) s' | .again c' => c'.quiet = true ∧ codeC (model prog w) A c' R s') (fun e s' => R (.error e) s') s) :
    codeC (model prog w) A (.builtin id args) R s := by
  refine codeC_of_tree ?_
  show wpC _ _ (match entryFor table id with | some b => b args | none => unsupported ((withoutEnding? id "#data").getD id)) _ _ s
  rw [hb]; exact h
theorem codeC_call_builtin {R : Result → Shared → Prop} {id : String} {args : Args} {b : Builtin} (hq : plainId id = true) (hb : entryFor table id = some b) (hc : checkBuiltinCall id args = pure ())
    (h : wpC (model prog w) A.in1 (b args)
      (fun fin s' => match fin with | .done f => R (.ok f) s' | .again c' => c'.quiet = true ∧ codeC (model prog w) A c' R s') (fun e s' => R (.error e) s') s) : codeC (model prog w) A (.call (.builtin id) args) R s := by
  refine codeC_of_tree ?_
  show wpC _ A.in1 (do checkBuiltinCall id args; again (.builtin id args)) _ _ s
  refine wpC_then (wpAny_of_eq hc ?_)
  refine wpC_pure (And.intro (plainId_quiet hq args) (codeC_builtin hb ?_))
  rw [Around.under_plainId hq args]
  exact h
theorem codeC_type {T : String} {args : List Value} {R : Result → Shared → Prop}
    (h : wpC (model prog w) A.in1 (Builtin.«type.__call__» ⟨.type T :: args, []⟩)
      (fun fin s' => match fin with | .done f => R (.ok f) s' | .again c' => c'.quiet = true ∧ codeC (model prog w) A c' R s') (fun e s' => R (.error e) s') s) : codeC (model prog w) A (.call (.type T) ⟨args, []⟩) R s := by
  refine codeC_of_tree ?_
  show wpC _ _ (callAny (.type T) _) _ _ _
  refine wpC_pure ⟨Code.quiet_builtin _ (by decide +kernel), codeC_builtin F.entry_type_call ?_⟩
  rw [Around.under_plain (weight_type_call_type T args []) (units_type_call_type T args [])]
  exact h
theorem int_empty (t : Tok) {Q : Value → Shared → Prop} (hA : A.handled = none) (h : ∀ h' tk e, Heap.NewExc s.heap h' e "ValueError" → E (.ref e) { s with heap := h', toks := tk }) :
    wpC (model prog w) A (call (.type "int") [.str (Str.ofString "") t]) Q E s := by
  refine wpC_call (codeC_type ?_)
  refine tree_int t ?_
  refine wpC_call (codeC_call_builtin F.called_int.plain F.entry_int_new (F.newCall_int_1 (.str (Str.ofString "") t)) ?_)
  exact tree_new t hA h
end
end Mine.Internal

end
section
open PySem PySem.W PyProof.Rows PySem.Calls PySem.Spec PySem.Builtin._datetime
set_option maxRecDepth 100000
set_option linter.unusedVariables false
namespace Mine.Internal
section
variable {prog : Program} {w : World} {A : Around} {E : Value → Shared → Prop} {s : Shared}
theorem wpAny_ifT {α : Type} {M : Model} {c : Prop} [Decidable c] {a b : Sem α} {Q : α → Shared → Prop} (hc : c) (h : wpAny M A a Q E s) : wpAny M A (if c then a else b) Q E s := by rw [if_pos hc]; exact h
theorem cint_ {n : Int} {t : Tok} {Q : Int → Shared → Prop} (h0 : 0 ≤ n) (h1 : n < 10000) (hq : Q n s) : wpAny (model prog w) A (dtCInt (.int n t)) Q E s := by
  unfold dtCInt
  refine wpAny_bind ?_
  unfold asIndex
  refine wpAny_bind (wpAny_pure (wpAny_pure ?_))
  have a1 : ¬ ((decide (n ≥ 2 ^ 63) || decide (n < -(2 ^ 63 : Int))) = true) := by rw [Bool.or_eq_true, decide_eq_true_eq, decide_eq_true_eq]; omega
  refine wpAny_ifF a1 ?_
  refine wpAny_ifF (by omega) ?_
  refine wpAny_ifF (by omega) ?_
  exact wpAny_pure hq
theorem bindClock_ {y m d h mi sc : Int} {t1 t2 t3 t4 t5 t6 : Tok} {Q : List (Option Int) × Option Value × Option Int → Shared → Prop} (hy : 0 ≤ y ∧ y < 10000) (hm : 0 ≤ m ∧ m < 10000) (hd : 0 ≤ d ∧ d < 10000) (hh : 0 ≤ h ∧ h < 10000) (hi : 0 ≤ mi ∧ mi < 10000) (hs : 0 ≤ sc ∧ sc < 10000)
    (hq : Q ([some y, some m, some d, some h, some mi, some sc, none], none, none) s) :
    wpAny (model prog w) A (dtBindClock "datetime.datetime.__new__" "function" ["year", "month", "day"] 3 [.int y t1, .int m t2, .int d t3, .int h t4, .int mi t5, .int sc t6] []) Q E s := by
  unfold dtBindClock
  dsimp only
  refine wpAny_ifF (show ¬ (6 > 9) from by decide) ?_
  refine wpAny_ifF Bool.false_ne_true ?_
  show wpAny _ _ (forIn [(Str.ofString "year", 0), (Str.ofString "month", 1), (Str.ofString "day", 2), (Str.ofString "hour", 3), (Str.ofString "minute", 4), (Str.ofString "second", 5), (Str.ofString "microsecond", 6)] #[] _ >>= _) _ _ _
  refine wpAny_bind ?_
  rw [List.forIn_cons]
  refine wpAny_bind (wpAny_ifF Bool.false_ne_true (wpAny_bind (cint_ hy.1 hy.2 (wpAny_pure ?_))))
  dsimp only
  rw [List.forIn_cons]
  refine wpAny_bind (wpAny_ifF Bool.false_ne_true (wpAny_bind (cint_ hm.1 hm.2 (wpAny_pure ?_))))
  dsimp only
  rw [List.forIn_cons]
  refine wpAny_bind (wpAny_ifF Bool.false_ne_true (wpAny_bind (cint_ hd.1 hd.2 (wpAny_pure ?_))))
  dsimp only
  rw [List.forIn_cons]
  refine wpAny_bind (wpAny_ifF Bool.false_ne_true (wpAny_bind (cint_ hh.1 hh.2 (wpAny_pure ?_))))
  dsimp only
  rw [List.forIn_cons]
  refine wpAny_bind (wpAny_ifF Bool.false_ne_true (wpAny_bind (cint_ hi.1 hi.2 (wpAny_pure ?_))))
  dsimp only
  rw [List.forIn_cons]
  refine wpAny_bind (wpAny_ifF Bool.false_ne_true (wpAny_bind (cint_ hs.1 hs.2 (wpAny_pure ?_))))
  dsimp only
  rw [List.forIn_cons]
  refine wpAny_bind (wpAny_ifF (show ¬ (6 < 3) from by decide) (wpAny_pure ?_))
  dsimp only
  rw [List.forIn_nil]
  refine wpAny_pure ?_
  refine wpAny_bind (wpAny_ifF (show ¬ (6 > 8) from by decide) (wpAny_pure ?_))
  refine wpAny_bind (wpAny_pure ?_)
  refine wpAny_bind (m := dtBind _ _ _ _ _ _) (wpAny_of_eq (a := [some (.int y t1), some (.int m t2), some (.int d t3), some (.int h t4), some (.int mi t5), some (.int sc t6), none, none, none]) ?_ ?_)
  · with_unfolding_all rfl
  · exact wpAny_pure hq
theorem sub_dt : isSubtype (.type "datetime.datetime") (.type "datetime.datetime") = pure true := by rw [isSubtype_type]; kernel_rfl
theorem isType_dt : isType (.type "datetime.datetime") = pure true := by with_unfolding_all rfl
theorem newClass_ {args : List Value} {Q : Value × List Value → Shared → Prop} (hq : Q (.type "datetime.datetime", args) s) : wpAny (model prog w) A (dtNewClass "datetime.datetime" ⟨.type "datetime.datetime" :: args, []⟩) Q E s := by
  unfold dtNewClass
  dsimp only
  rw [isType_dt]
  refine wpAny_bind (wpAny_pure (wpAny_ifF Bool.false_ne_true ?_))
  rw [sub_dt]
  exact wpAny_bind (wpAny_pure (wpAny_ifF Bool.false_ne_true (wpAny_pure hq)))
theorem daysIn {y m : Int} (hm : 1 ≤ m ∧ m ≤ 12) : daysInMonth y m = dim y m := by
  have hl : Builtin.Time.timeIsLeap y = leap y := by
    unfold Builtin.Time.timeIsLeap leap
    rfl
  unfold daysInMonth
  rw [hl]
  unfold dim
  cases leap y with
  | true => exact monthN (P := fun m : Int => (if (m == 2 && true) = true then (29 : Int) else ([31, 28, 31, 30, 31, 30, 31, 31, 30, 31, 30, 31] : List Int)[(m - 1).toNat]?.getD 0) = if m = 2 then (if true = true then 29 else 28) else if m = 4 ∨ m = 6 ∨ m = 9 ∨ m = 11 then 30 else 31) (by decide +kernel) hm
  | false => exact monthN (P := fun m : Int => (if (m == 2 && false) = true then (29 : Int) else ([31, 28, 31, 30, 31, 30, 31, 31, 30, 31, 30, 31] : List Int)[(m - 1).toNat]?.getD 0) = if m = 2 then (if false = true then 29 else 28) else if m = 4 ∨ m = 6 ∨ m = 9 ∨ m = 11 then 30 else 31) (by decide +kernel) hm
noncomputable abbrev dtObj (y m d h mi sc : Int) : Obj := { cls := .type "datetime.datetime", data := .fields #[.int y 0, .int m 0, .int d 0, .int h 0, .int mi 0, .int sc 0, .int 0 0, .none, .int 0 0, .none] }
noncomputable def dtOk (y m d h mi sc : Int) : Prop := (1 ≤ d ∧ d ≤ dim y m) ∧ h ≤ 23 ∧ mi ≤ 59 ∧ sc ≤ 59
theorem dt_new_ {y m d h mi sc : Int} {t1 t2 t3 t4 t5 t6 : Tok} {Q : PySem.Fin → Shared → Prop} (hA : A.handled = none) (hy : 1 ≤ y ∧ y ≤ 9999) (hm : 1 ≤ m ∧ m ≤ 12) (hd : 0 ≤ d ∧ d < 100) (hh : 0 ≤ h ∧ h < 100) (hi : 0 ≤ mi ∧ mi < 100) (hs : 0 ≤ sc ∧ sc < 100)
    (hq : dtOk y m d h mi sc → Q (.done (.ret (.ref s.heap.objs.size))) { s with heap := s.heap.push (dtObj y m d h mi sc) })
    (he : ¬ dtOk y m d h mi sc → ∀ h' tk e, Heap.NewExc s.heap h' e "ValueError" → E (.ref e) { s with heap := h', toks := tk }) :
    wpAny (model prog w) A (Builtin.«datetime.datetime.__new__» ⟨[.type "datetime.datetime", .int y t1, .int m t2, .int d t3, .int h t4, .int mi t5, .int sc t6], []⟩) Q E s := by
  unfold Builtin.«datetime.datetime.__new__»
  refine wpAny_bind (newClass_ ?_)
  refine wpAny_ifF Bool.false_ne_true ?_
  refine wpAny_bind (bindClock_ (by omega) (by omega) (by omega) (by omega) (by omega) (by omega) ?_)
  dsimp only [Option.getD]
  refine wpAny_bind ?_
  unfold newStampRaw checkDate checkTime
  dsimp only
  refine wpAny_bind ?_
  rw [daysIn hm]
  refine wpAny_ifF (by rw [Bool.or_eq_true, decide_eq_true_eq, decide_eq_true_eq]; omega) ?_
  refine wpAny_ifF (by rw [Bool.or_eq_true, decide_eq_true_eq, decide_eq_true_eq]; omega) ?_
  have raise : ∀ {α : Type} {msg : String} {R : α → Shared → Prop}, ¬ dtOk y m d h mi sc → wpAny (model prog w) A (raiseErrorWords "ValueError" msg : Sem α) R E s := fun hn => wpAny_raiseErrorWords plainExc_ValueError hA (he hn)
  by_cases c1 : 1 ≤ d ∧ d ≤ dim y m
  · refine wpAny_ifF (by rw [Bool.or_eq_true, decide_eq_true_eq, decide_eq_true_eq]; omega) (wpAny_pure ?_)
    refine wpAny_bind ?_
    by_cases c2 : h ≤ 23
    · refine wpAny_ifF (by rw [Bool.or_eq_true, decide_eq_true_eq, decide_eq_true_eq]; omega) ?_
      by_cases c3 : mi ≤ 59
      · refine wpAny_ifF (by rw [Bool.or_eq_true, decide_eq_true_eq, decide_eq_true_eq]; omega) ?_
        by_cases c4 : sc ≤ 59
        · refine wpAny_ifF (by rw [Bool.or_eq_true, decide_eq_true_eq, decide_eq_true_eq]; omega) ?_
          refine wpAny_ifF Bool.false_ne_true (wpAny_ifF Bool.false_ne_true (wpAny_pure ?_))
          unfold checkTzinfo
          refine wpAny_bind (wpAny_ifF Bool.false_ne_true (wpAny_pure ?_))
          refine wpAny_newObj_type ?_ (Nat.le_of_ble_eq_true rfl)
          exact wpAny_pure (hq ⟨c1, c2, c3, c4⟩)
        · refine wpAny_ifT (by rw [Bool.or_eq_true, decide_eq_true_eq, decide_eq_true_eq]; omega) ?_
          exact wpAny_bind (wpAny_rule (wpAny_bind (raise fun x => c4 x.2.2.2)))
      · refine wpAny_ifT (by rw [Bool.or_eq_true, decide_eq_true_eq, decide_eq_true_eq]; omega) ?_
        exact wpAny_bind (wpAny_rule (wpAny_bind (raise fun x => c3 x.2.2.1)))
    · refine wpAny_ifT (by rw [Bool.or_eq_true, decide_eq_true_eq, decide_eq_true_eq]; omega) ?_
      exact wpAny_bind (wpAny_rule (wpAny_bind (raise fun x => c2 x.2.1)))
  · refine wpAny_ifT (by rw [Bool.or_eq_true, decide_eq_true_eq, decide_eq_true_eq]; omega) ?_
    exact wpAny_bind (wpAny_rule (raise fun x => c1 x.1))
end
end Mine.Internal

end
section
open PySem PySem.W PyProof.Rows PySem.Calls PySem.Spec
set_option maxRecDepth 100000
namespace Mine.Internal
theorem eqv_tup {xs ys : List PyData} (h : PyData.eqvAll xs ys = true) : PyData.eqv (.tuple xs) (.tuple ys) = true := by simp [PyData.eqv, h]
theorem eqv_list {xs ys : List PyData} (h : PyData.eqvAll xs ys = true) : PyData.eqv (.list xs) (.list ys) = true := by simp [PyData.eqv, h]
theorem eqvs_nil : PyData.eqvAll [] [] = true := by simp [PyData.eqvAll]
theorem eqvs_int {x y : Int} {xs ys : List PyData} (e : x = y) (h : PyData.eqvAll xs ys = true) : PyData.eqvAll (.int x :: xs) (.int y :: ys) = true := by simp [PyData.eqvAll, PyData.eqv, h, e]
section
variable {prog : Program} {w : World} {A : Around} {E : Value → Shared → Prop} {s : Shared} {a b : Value} {da db : PyData} {as bs : List Addr} {Q : Value → Shared → Prop}
theorem ne_same (ra : Reads s.heap a da as) (rb : Reads s.heap b db bs) (ha : SeqAt.shaped da = true) (hb : SeqAt.shaped db = true) (hu : A.units + 64 < cLine) (e : PyData.eqv da db = true)
    (h : Q (.bool false) s) : wpAny (model prog w) A (compareOp .NotEq a b) Q E s := ne_dataH ra rb ha hb hu (by rw [e]; exact h)
theorem nei_same {x y : Int} {t u : Tok} (e : x = y) (h : Q (.bool false) s) : wpAny (model prog w) A (compareOp .NotEq (.int x t) (.int y u)) Q E s := PyProof.Rows.ne_int (by rw [e, bne_self_eq_false]; exact h)
theorem nes_same {x y : Str} {t u : Tok} (e : x = y) (h : Q (.bool false) s) : wpAny (model prog w) A (compareOp .NotEq (.str x t) (.str y u)) Q E s := PyProof.Rows.ne_str (by rw [e, bne_self_eq_false]; exact h)
end
open Builtin in
theorem fmt_stampL (b : Addr) (t t1 t2 t3 t4 t5 t6 : Tok) (y m d h mi sc : Int) (hy : 0 ≤ y ∧ y < 10000) (hm : 0 ≤ m ∧ m < 100) (hd : 0 ≤ d ∧ d < 100) (hh : 0 ≤ h ∧ h < 100) (hi : 0 ≤ mi ∧ mi < 100) (hs : 0 ≤ sc ∧ sc < 100) :
    Meets («str.__mod__» ⟨[.str ⟨#[37, 48, 52, 100, 45, 37, 48, 50, 100, 45, 37, 48, 50, 100, 84, 37, 48, 50, 100, 58, 37, 48, 50, 100, 58, 37, 48, 50, 100, 90]⟩ t, .ref b], []⟩)
      (fun _ R s => IsTup s.heap b #[.int y t1, .int m t2, .int d t3, .int h t4, .int mi t5, .int sc t6] ∧ ∀ t' k, R (.ok (.ret (.str (tx (stampL y m d h mi sc)) t'))) { s with toks := k }) :=
  fmt_stamp b t t1 t2 t3 t4 t5 t6 y m d h mi sc hy.1 hy.2 hm.1 hm.2 hd.1 hd.2 hh.1 hh.2 hi.1 hi.2 hs.1 hs.2
end Mine.Internal

end
section
open PySem PySem.W PyProof.Rows PySem.Calls PySem.Spec
set_option maxRecDepth 100000
namespace Mine.Internal
section
variable {g h h₁ : Heap} {L I : Addr} {m : Str → Option Value} {io io' : Obj} {news : List (Addr × Obj)}
theorem iter_fr (F : Fr g L h m) (N : News g L h ((I, io) :: news)) (hs : Heap.SameBut I h h₁) : Fr g L h₁ m :=
  ⟨F.ns.at' fun o e => (hs.2 _ (N _ (.head _)).2.1.symm).trans e, fun b o e => (hs.2 b (fun q => by rw [q, (N _ (.head _)).2.2] at e; cases e)).trans (F.keep b o e), F.above⟩
theorem iter_news (N : News g L h ((I, io) :: news)) (hI : AllNe I news) (hs : Heap.SameBut I h h₁) (hi : h₁.get? I = some io') : News g L h₁ ((I, io') :: news) :=
  fun p hp => (List.mem_cons.mp hp).elim (fun e => by rw [e]; exact ⟨hi, (N _ (.head _)).2⟩) fun hp => ⟨(hs.2 _ (hI.mem p hp)).trans (N p (.tail _ hp)).1, (N p (.tail _ hp)).2⟩
theorem over_fr (F : Fr g L h m) (N : News g L h ((I, io) :: news)) (he : ∀ b o, b ≠ I → h.get? b = some o → h₁.get? b = some o) : Fr g L h₁ m :=
  ⟨F.ns.at' fun o e => he _ o (N _ (.head _)).2.1.symm e, fun b o e => he b o (fun q => by rw [q, (N _ (.head _)).2.2] at e; cases e) (F.keep b o e), F.above⟩
theorem over_news (N : News g L h ((I, io) :: news)) (hI : AllNe I news) (he : ∀ b o, b ≠ I → h.get? b = some o → h₁.get? b = some o) : News g L h₁ news :=
  fun p hp => ⟨he _ _ (hI.mem p hp) (N p (.tail _ hp)).1, (N p (.tail _ hp)).2⟩
end
end Mine.Internal

end
section
open PySem PySem.W PyProof.Rows PySem.Calls PySem.Spec
set_option maxRecDepth 100000
namespace Mine.Internal
noncomputable abbrev rangeO (a b c : Int) (t u v : Tok) : Obj := { cls := .type "range", dict := none, data := .fields #[.int a t, .int b u, .int c v], slots := #[] }
noncomputable def rangeI (a c : Int) (n i : Nat) : Obj := { cls := .type "range_iterator", dict := none, data := .fields #[rawInt (a + i * c), rawInt ((n : Int) - i), rawInt c], slots := #[] }
section
variable {prog : Program} {w : World} {A : Around} {E : Value → Shared → Prop} {s : Shared} {env : Env} {h₀ : Heap} {body : List Stmt} {target : PySem.Expr} {Q : Flow → Shared → Prop}
noncomputable def TurnEndT (Gd : Heap → Prop) (L : Addr) (J : (Str → Option Value) → List (Addr × Obj) → Prop) (I : Addr) (io : Obj) (s₂ s₃ : Shared) : Prop :=
  ∃ g h' tk m' news', Gd g ∧ s₃ = { s₂ with heap := h', toks := tk } ∧ Fr g L h' m' ∧ News g L h' ((I, io) :: news') ∧ AllNe I news' ∧ J m' news'
noncomputable def TurnPostT (Gd : Heap → Prop) (L : Addr) (J : (Str → Option Value) → List (Addr × Obj) → Prop) (I : Addr) (io : Obj) (Q : Flow → Shared → Prop) (s₂ : Shared) (f : Flow) (s₃ : Shared) : Prop :=
  match f with
  | .ret v => Q (.ret v) s₃
  | .brk => Q .next s₃
  | _ => TurnEndT Gd L J I io s₂ s₃
theorem range_e1 {a c : Int} {i : Nat} : a + (i : Int) * c + c = a + ((i + 1 : Nat) : Int) * c := by rw [Int.natCast_add, Int.add_mul, Int.add_assoc]; simp
theorem range_e2 {n i : Nat} : (n : Int) - i - 1 = (n : Int) - ((i + 1 : Nat) : Int) := by omega
inductive RanIt (Gd : Heap → Prop) (L I : Addr) (a c : Int) (n : Nat) (J : Nat → (Str → Option Value) → List (Addr × Obj) → Prop) (s : Shared) : Nat → Shared → Prop
  | mk {g h' : Heap} {tk : Nat} {m' : Str → Option Value} {news' : List (Addr × Obj)} {i : Nat} : Gd g → Fr g L h' m' → News g L h' ((I, rangeI a c n i) :: news') → AllNe I news' → J i m' news' → i ≤ n → RanIt Gd L I a c n J s (n + 1 - i) { s with heap := h', toks := tk }
theorem for_rangeT {Gd : Heap → Prop} {r : Addr} {a b c : Int} {t u v : Tok} {m : Str → Option Value} {news : List (Addr × Obj)} (n : Nat) (J : Nat → (Str → Option Value) → List (Addr × Obj) → Prop)
    (hh : A.handled = none) (hr : IsRange s.heap r a b c t u v) (hn : Builtin.Range.rangeSize a b c = n) (hs : Builtin.Range.small a b c = true)
    (G0 : Gd h₀) (F : Fr h₀ env.locals s.heap m) (N : News h₀ env.locals s.heap news) (h0 : J 0 m news)
    (turn : ∀ (Q' : Flow → Shared → Prop) (E' : Value → Shared → Prop) i g m₁ news₁ I h tk tv, i < n → Gd g → J i m₁ news₁ → AllNe I news₁ → Fr g env.locals h m₁ → News g env.locals h ((I, rangeI a c n (i + 1)) :: news₁) →
      wpAny (model prog w) A (assign target env (.int (a + i * c) tv)) (fun _ s₂ => wpC (model prog w) A (execs body env) (TurnPostT Gd env.locals (J (i + 1)) I (rangeI a c n (i + 1)) Q' { s with heap := h, toks := tk }) E' s₂) E' { s with heap := h, toks := tk })
    (done : ∀ g m₁ news₁ h tk, Gd g → J n m₁ news₁ → Fr g env.locals h m₁ → News g env.locals h news₁ → Q .next { s with heap := h, toks := tk })
    (ht : ∀ I v, letOwnedTupleGo target (.ref I) v = pure ())
    (hE : PassesOwn (model prog w) A env E) :
    wpAny (model prog w) A (pyIter (.ref r)) (fun it s₂ => codeC (model prog w) A (.forLoop target it body [] env) (fun r s' => match r with | .ok f => Q f s' | .error e => cameBackBy (model prog w) A env E e s') s₂) E s := by
  refine wpAny_pyIter_range hr hs ?_
  refine codeC_forLoop (RanIt Gd env.locals s.heap.objs.size a c n J s) ?_ (n + 1) (RanIt.mk (i := 0) G0 (F.push _) ?_ (allNe_intro fun p hp => Nat.ne_of_lt (Heap.lt_size (N p hp).1)) h0 (Nat.zero_le _)) (ht _)
  · rintro k s' ⟨G', F', N', hI, hJ, hi⟩
    rename_i g h' tk m' news' i
    have hit : IsRangeIter h' s.heap.objs.size (a + i * c) ((n : Int) - i) c := (N' _ (.head _)).1
    by_cases hlt : i < n
    · refine wpAny_pyNext_range_item hit (by omega) fun h₁ hit₁ hs₁ => ?_
      have hit₂ : h₁.get? s.heap.objs.size = some (rangeI a c n (i + 1)) := by
        rw [range_e1, range_e2] at hit₁; exact hit₁
      refine wpAny_passesOwn hE (wpAny_mono (turn Q E i g m' news' _ h₁ (tk + 1) tk hlt G' hJ hI (iter_fr F' N' hs₁) (iter_news N' hI hs₁ hit₂)) (fun _ s₂ h₂ => wpC_mono h₂ (fun f s₃ h₃ => ?_) hE) fun _ _ x => x)
      have fin : TurnEndT Gd env.locals (J (i + 1)) s.heap.objs.size (rangeI a c n (i + 1)) { s with heap := h₁, toks := tk + 1 } s₃ → ∃ m, m < n + 1 - i ∧ RanIt Gd env.locals s.heap.objs.size a c n J s m s₃ := by
        rintro ⟨g₄, h₄, tk₄, m₄, news₄, G₄, rfl, F₄, N₄, hI₄, hJ₄⟩
        exact ⟨n + 1 - (i + 1), by omega, RanIt.mk G₄ F₄ N₄ hI₄ hJ₄ hlt⟩
      cases f with
      | ret v => exact h₃
      | brk => exact h₃
      | next => exact fin h₃
      | cont => exact fin h₃
    · have hin : i = n := by omega
      subst hin
      refine wpAny_pyNext_range_end hh hit (by omega) fun h₁ he₁ => wpC_nil ?_
      exact done g m' news' h₁ tk G' hJ (over_fr F' N' fun b o hb e => he₁ b o hb e) (over_news N' hI fun b o hb e => he₁ b o hb e)
  · have e : ({ cls := .type "range_iterator", data := .fields #[rawInt a, rawInt (Builtin.Range.rangeSize a b c), rawInt c] } : Obj) = rangeI a c n 0 := by
      rw [hn]; simp [rangeI]
    rw [e]
    exact News.push F N _
end
end Mine.Internal

end
section
open PySem PySem.W PyProof.Rows PySem.Calls PySem.Spec
set_option maxRecDepth 100000
namespace Mine.Internal
structure Gd5 (p : Program) (loose : List Str) (mean : ExcName → Option Value) (mg mb : Str → Option Value) (K : Frag) (A₀ : Around) (base : Heap) (outer : List Env) (g₀ g : Heap) : Prop where
  T : KtsTurn (frs outer) g₀ g
  B : Below A₀ base outer g
  X : K.In g
  P : Top p loose mean mg mb g
  D : KtsDicts (frs outer) g
section
variable {fs : List Addr} {g g' h : Heap} {s : Shared} {args : List (Addr × Obj)} {tk : Nat} {L' : Addr} {m' : Str → Option Value} {news' : List (Addr × Obj)}
end
section
variable {prog : Program} {w : World} {K : Frag} {d : Nat} {f : Addr} {args : List (Addr × Obj)} {vs : List Value} {p : Program} {loose : List Str} {mean : ExcName → Option Value} {mg mb : Str → Option Value} {dp un : Nat} {gd : Option (List Code)} {cn : Str} {cs : Scope} {a : Addr} {ccd : Value} {cl : List (Str × Addr)} {outer : List Env} {A₀ : Around} {base g₀ h₀ : Heap} {L : Addr} {m : Str → Option Value} {s : Shared} {Q E : Value → Shared → Prop} {news : List (Addr × Obj)}
end
end Mine.Internal

end
section
open PySem PySem.W PyProof.Rows PySem.Calls PySem.Spec
open PySem.Builtin PySem.Builtin.Str PySem.NumText
set_option maxRecDepth 100000
namespace Mine.Internal
noncomputable def wdTab : List (List Nat) := [[83, 117, 110, 100, 97, 121], [77, 111, 110, 100, 97, 121], [84, 117, 101, 115, 100, 97, 121], [87, 101, 100, 110, 101, 115, 100, 97, 121], [84, 104, 117, 114, 115, 100, 97, 121], [70, 114, 105, 100, 97, 121], [83, 97, 116, 117, 114, 100, 97, 121]]
noncomputable def wdL (k : Int) : List Nat := wdTab.getD k.toNat []
noncomputable def wd3 (k : Int) : List Nat := (wdL k).take 3
noncomputable def lwd (k : Int) : List Nat := (wd3 k).map fun c => if c < 97 then c + 32 else c
theorem weekN {P : Int → Prop} (h : ∀ k : Nat, k < 7 → P k) {k : Int} (hk : 0 ≤ k ∧ k ≤ 6) : P k := by
  obtain ⟨j, rfl⟩ := Int.eq_ofNat_of_zero_le hk.1
  exact h j (by omega)
theorem wd3_lenT : ∀ k : Nat, k < 7 → (wd3 k).length = 3 := by decide
theorem wd3_len {k : Int} (h : 0 ≤ k ∧ k ≤ 6) : (wd3 k).length = 3 := weekN (P := fun k => (wd3 k).length = 3) wd3_lenT h
theorem wdL_memT : ∀ k : Nat, k < 7 → ∀ c ∈ wdL k, 65 ≤ c ∧ c ≤ 122 := by decide
theorem wdL_mem {k : Int} (h : 0 ≤ k ∧ k ≤ 6) : ∀ c ∈ wdL k, 65 ≤ c ∧ c ≤ 122 := weekN (P := fun k => ∀ c ∈ wdL k, 65 ≤ c ∧ c ≤ 122) wdL_memT h
theorem wd3_mem {k : Int} (h : 0 ≤ k ∧ k ≤ 6) : ∀ c ∈ wd3 k, 65 ≤ c ∧ c ≤ 122 := fun c hc => wdL_mem h c (List.mem_of_mem_take hc)
noncomputable def gmt : List Nat := [71, 77, 84]
theorem gmt_is : tx gmt = Str.ofString "GMT" := by rw [tx_def]; decide +kernel
noncomputable def mailA (k d m yy h mi sc : Int) : List Nat := joinSp [wd3 k ++ [44], dg2 d, mon m, dg2 yy, clk h mi sc, gmt]
noncomputable def dashed (d m yy : Int) : List Nat := joinC 45 [dg2 d, mon m, dg2 yy]
noncomputable def mailB (k d m yy h mi sc : Int) : List Nat := joinSp [wdL k ++ [44], dashed d m yy, clk h mi sc, gmt]
noncomputable def mailC (k d m yy h mi sc : Int) : List Nat := joinSp [wd3 k, mon m, dgs d, clk h mi sc, dg2 yy]
theorem ends_last {l : List Nat} {c : Nat} {y : PySem.Str} (hy : y = ⟨#[c]⟩) : Txt.endswith (tx (l ++ [c])) y = true := by
  subst hy
  unfold Txt.endswith
  have hl : (tx (l ++ [c])).length = l.length + 1 := by rw [tx_length]; simp
  have e : (⟨#[c]⟩ : PySem.Str).length = 1 := rfl
  have q := StrLaws.subAt_one (tx (l ++ [c])) c l.length
  rw [tx_toList] at q
  have := q.mpr (by simp)
  rw [hl, e]
  simp only [Nat.add_sub_cancel]
  simp [this.2]
noncomputable def cent (yy : Int) : Int := if 68 < yy then yy + 1900 else yy + 2000
noncomputable def Mail (T : List Nat) (k d m yy h mi sc : Int) : Prop := T = mailA k d m yy h mi sc ∨ T = mailB k d m yy h mi sc ∨ T = mailC k d m yy h mi sc
end Mine.Internal

end
section
open PySem PySem.W PyProof.Rows PySem.Calls PySem.Spec
set_option maxRecDepth 100000
namespace Mine.Internal
noncomputable def far4 (n : Int) : Int := (n - 645750) / 146097
noncomputable def dueN (n : Int) : Int := 645750 + (n - 645750) % 146097
structure There (n y m d y0 : Int) : Prop where
  v : Valid y0 m d
  num : first y0 m + d - 1 = dueN n
  yr : y = y0 + 400 * far4 n
  lo : 1769 ≤ y0
  hi : y0 ≤ 2168
end Mine.Internal

end
section
open PySem PySem.W PyProof.Rows PySem.Calls PySem.Spec
set_option maxRecDepth 100000
namespace Mine.Internal
theorem map_pin3 {m : Str → Option Value} {a b c : Str} {x y z : Value} (h1 : m a = some x) (h2 : m b = some y) (h3 : m c = some z) :
    m = fun u => if u = a then some x else if u = b then some y else if u = c then some z else m u := by
  funext u
  by_cases e1 : u = a
  · subst e1; simp [h1]
  · by_cases e2 : u = b
    · subst e2; simp [h2, e1]
    · by_cases e3 : u = c
      · subst e3; simp [h3, e1, e2]
      · simp [e1, e2, e3]
noncomputable abbrev tup9 (Y m d h mi sc : Int) (t1 t2 t3 t4 t5 t6 t7 t8 t9 : Tok) : Obj := { cls := .type "tuple", data := .seq #[.int Y t1, .int m t2, .int d t3, .int h t4, .int mi t5, .int sc t6, .int 0 t7, .int 1 t8, .int (-1) t9] }
noncomputable def Found (y0 m d h mi sc q : Int) (i : Nat) (its : Array Value) (tail : List (Addr × Obj)) : Prop :=
  ((i : Int) ≤ q ∧ its = #[]) ∨ (q < i ∧ ∃ (x y : Addr) (u1 u2 : Tok), its = #[.ref x] ∧ (x, ({ cls := .type "tuple", data := .seq #[.int y0 u1, .int (first y0 m + d - 1) u2, .ref y] } : Obj)) ∈ tail ∧ (y, dtObj y0 m d h mi sc) ∈ tail)
structure JD (R a0 : Addr) (T9 : Obj) (wk : Int) (tw : Tok) (y0 m d h mi sc q : Int) (i : Nat) (nm : Str → Option Value) (news : List (Addr × Obj)) : Prop where
  p1 : nm (PySem.Str.ofString "found") = some (.ref R)
  p2 : nm (PySem.Str.ofString "told") = some (.ref a0)
  p3 : nm (PySem.Str.ofString "weekday") = some (.int wk tw)
  led : ∃ (its : Array Value) (n0 : Nat) (tail : List (Addr × Obj)), news = (R, PySem.W.listOf its n0) :: (a0, T9) :: tail ∧ AllNe R ((a0, T9) :: tail) ∧ Found y0 m d h mi sc q i its tail
theorem ne_of_all {d a : Addr} {o : Obj} {l : List (Addr × Obj)} (h : AllNe d l) (m : (a, o) ∈ l) : a ≠ d := AllNe.mem h _ m
theorem en_of_all {d a : Addr} {o : Obj} {l : List (Addr × Obj)} (h : AllNe d l) (m : (a, o) ∈ l) : d ≠ a := (AllNe.mem h _ m).symm
section
variable {prog : Program} {w : World} {A : Around} {E : Value → Shared → Prop} {s : Shared} {Q : Value → Shared → Prop}
end
end Mine.Internal

end
section
open PySem PySem.W PyProof.Rows PySem.Calls PySem.Spec PySem.Builtin._datetime
set_option maxRecDepth 100000
set_option linter.unusedVariables false
namespace Mine.Internal
theorem mro_dt : mroOf (.type "datetime.datetime") = pure [.type "datetime.datetime", .type "datetime.date", .type "object"] := by rw [mroOf_type]; kernel_rfl
theorem lookup_dt_new : typeLookup (.type "datetime.datetime") "__new__" = pure (some (.builtin "datetime.datetime.__new__")) := by rw [typeLookup_type, builtinLookup_eq_fast]; kernel_rfl
theorem slot_dt_init : Slot "datetime.datetime" "__init__" "object.__init__" :=
  .of (owner := "object") (n := "__init__") (by rw [typeLookup_type, builtinLookup_eq_fast]; kernel_rfl) (by decide +kernel) (by decide +kernel) (by decide +kernel)
    (by first | exact .inl (by decide +kernel) | exact .inr (by decide +kernel)) (by rw [isSubtype_type]; kernel_rfl)
theorem called_dt : TypeCalled "datetime.datetime" "datetime.datetime.__new__" "object.__init__" :=
  ⟨by decide +kernel, by decide +kernel, ⟨_, _, mro_dt⟩, madeBy_type mro_dt lookup_dt_new (by decide +kernel), by decide +kernel, sub_dt, slot_dt_init⟩
theorem entry_dt_new : entryFor table "datetime.datetime.__new__" = some Builtin.«datetime.datetime.__new__» := entryFor_of_tree (by kernel_rfl)
theorem typeCall_dt (a b c d e f : Value) : checkTypeCall "datetime.datetime" ⟨[a, b, c, d, e, f], []⟩ = pure () := by kernel_rfl
theorem newCall_dt (a b c d e f : Value) : checkBuiltinCall "datetime.datetime.__new__" ⟨[.type "datetime.datetime", a, b, c, d, e, f], []⟩ = pure () := by kernel_rfl
theorem args_init_7 (o a b c d e f : Value) : argsOk "object.__init__" ⟨[o, a, b, c, d, e, f], []⟩ := by
  unfold argsOk; rw [signature?_of (id := "object.__init__") (n := ['_', '_', 't', 'i', 'n', 'i', '_', '_']) (o := ['t', 'c', 'e', 'j', 'b', 'o']) (by kernel_rfl) PySem.F.owner_object]; kernel_rfl
noncomputable def dtSpec (y m d h mi sc : Int) : PySem.Spec := fun A R s => A.handled = none ∧ (dtOk y m d h mi sc → R (.ok (.ret (.ref s.heap.objs.size))) { s with heap := s.heap.push (dtObj y m d h mi sc) }) ∧
  (¬ dtOk y m d h mi sc → ∀ h' tk e, Heap.NewExc s.heap h' e "ValueError" → R (.error (.ref e)) { s with heap := h', toks := tk })
theorem meets_dt {y m d h mi sc : Int} {t1 t2 t3 t4 t5 t6 : Tok} (hy : 1 ≤ y ∧ y ≤ 9999) (hm : 1 ≤ m ∧ m ≤ 12) (hd : 0 ≤ d ∧ d < 100) (hh : 0 ≤ h ∧ h < 100) (hi : 0 ≤ mi ∧ mi < 100) (hs : 0 ≤ sc ∧ sc < 100) :
    Meets (Builtin.«datetime.datetime.__new__» ⟨[.type "datetime.datetime", .int y t1, .int m t2, .int d t3, .int h t4, .int mi t5, .int sc t6], []⟩) (dtSpec y m d h mi sc) :=
  fun prog w A R s x => dt_new_ x.1 hy hm hd hh hi hs x.2.1 x.2.2
section
variable {prog : Program} {w : World} {A : Around} {E : Value → Shared → Prop} {s : Shared} {h₀ : Heap} {L : Addr} {mp : Str → Option Value} {news : List (Addr × Obj)}
theorem dt_call {y m d h mi sc : Int} {t1 t2 t3 t4 t5 t6 : Tok} {Q : Value → Shared → Prop} (hA : A.handled = none) (hy : 1 ≤ y ∧ y ≤ 9999) (hm : 1 ≤ m ∧ m ≤ 12) (hd : 0 ≤ d ∧ d < 100) (hh : 0 ≤ h ∧ h < 100) (hi : 0 ≤ mi ∧ mi < 100) (hs : 0 ≤ sc ∧ sc < 100)
    (hq : dtOk y m d h mi sc → Q (.ref s.heap.objs.size) { s with heap := s.heap.push (dtObj y m d h mi sc) })
    (he : ¬ dtOk y m d h mi sc → ∀ h' tk e, Heap.NewExc s.heap h' e "ValueError" → E (.ref e) { s with heap := h', toks := tk }) :
    wpAny (model prog w) A (call (.type "datetime.datetime") [.int y t1, .int m t2, .int d t3, .int h t4, .int mi t5, .int sc t6]) Q E s :=
  callType_new called_dt (by decide +kernel) (typeCall_dt _ _ _ _ _ _) (newCall_dt _ _ _ _ _ _) (fun obj => args_init_7 _ _ _ _ _ _ _) entry_dt_new (meets_dt hy hm hd hh hi hs)
    ⟨hA, fun ok => ⟨⟨_, Heap.get?_push_size _ rfl, rfl⟩, hq ok⟩, fun no h' tk e x => he no h' tk e x⟩
end
end Mine.Internal
namespace Mine.Internal
section
variable {prog : Program} {w : World} {A : Around} {E : Value → Shared → Prop} {s : Shared} {h₀ : Heap} {L : Addr} {mp : Str → Option Value} {news : List (Addr × Obj)}
theorem dt_okK {y m d h mi sc : Int} {t1 t2 t3 t4 t5 t6 : Tok} {Q : Value → Shared → Prop} (F : Fr h₀ L s.heap mp) (N : News h₀ L s.heap news) (hok : dtOk y m d h mi sc) (hA : A.handled = none) (hy : 1 ≤ y ∧ y ≤ 9999) (hm : 1 ≤ m ∧ m ≤ 12) (hd : 0 ≤ d ∧ d < 100) (hh : 0 ≤ h ∧ h < 100) (hi : 0 ≤ mi ∧ mi < 100) (hs : 0 ≤ sc ∧ sc < 100)
    (hq : ∀ D h', Fr h₀ L h' mp → News h₀ L h' ((D, dtObj y m d h mi sc) :: news) → (∀ p ∈ news, p.1 < D) → Q (.ref D) { s with heap := h' }) :
    wpAny (model prog w) A (call (.type "datetime.datetime") [.int y t1, .int m t2, .int d t3, .int h t4, .int mi t5, .int sc t6]) Q E s :=
  dt_call hA hy hm hd hh hi hs (fun _ => hq _ _ (F.push _) (News.push F N (dtObj y m d h mi sc)) fun p hp => Heap.lt_size (N p hp).1) fun no => absurd hok no
end
end Mine.Internal
namespace Mine.Internal
section
variable {M : Model} {A : Around} {E : Value → Shared → Prop} {s : Shared} {env : Env} {pos p : Pos} {Q : Value → Shared → Prop} {e : PySem.Expr}
theorem callWith_T {T : String} (h : wpAny M A (eval e env) (fun v s₁ => StarOf M A E v (fun vs s₂ => wpAny M A (call (.type T) vs) Q E s₂) s₁) E s)
    (he : autoParam (starEach [.Starred e p] env = [(true, eval e env)]) PySem.W.call_K._auto_4) :
    wpAny M A (callWith pos (.type T) [] (backTo pos (starEach [.Starred e p] env)) []) Q E s := by
  rw [he]
  unfold callWith
  refine wpAny_bind (wpAny_holding (wpAny_mono (ks_lone (Q := fun a s₁ => a.kw = [] ∧ wpAny M A (call (.type T) a.pos) Q E s₁) ?_) (fun a s₁ h₁ => wpAny_bind (wpAny_standAt ?_)) fun _ _ x => x))
  · refine wpAny_mono h (fun v s₁ h₁ => ?_) fun _ _ x => x
    unfold StarOf at h₁ ⊢
    exact wpAny_mono h₁ (fun b s₂ h₂ => ⟨h₂.1, wpAny_mono h₂.2 (fun vs s₃ h₃ => ⟨rfl, h₃⟩) fun _ _ x => x⟩) fun _ _ x => x
  · obtain ⟨pa, ka⟩ := a
    obtain ⟨rfl, h₁⟩ := h₁
    refine wpAny_bind (m := keeperOf (.type T)) (wpAny_pure ?_)
    exact wpAny_bind (wpAny_mono (wpAny_operating h₁) (fun r s₂ hr => wpAny_bind (wpAny_holding (wpAny_point (wpAny_pure hr)))) fun _ _ x => x)
end
end Mine.Internal
namespace Mine.Internal
section
variable {prog : Program} {w : World} {A : Around} {E : Value → Shared → Prop} {s : Shared}
end
end Mine.Internal

end
section
open PySem PySem.W PyProof.Rows PySem.Calls PySem.Spec
set_option maxRecDepth 100000
set_option linter.unusedVariables false
set_option Elab.async false
namespace Mine.Internal
theorem entry_dt_ga : entryFor table "object.__getattribute__" = some Builtin.«object.__getattribute__» := entryFor_of_tree (by kernel_rfl)
theorem slot_dt_ga : Slot "datetime.datetime" "__getattribute__" "object.__getattribute__" :=
  .of (owner := "object") (n := "__getattribute__") (by rw [typeLookup_type, builtinLookup_eq_fast]; kernel_rfl) (by decide +kernel) (by decide +kernel) (by decide +kernel)
    (by first | exact .inl (by decide +kernel) | exact .inr (by decide +kernel)) (by rw [isSubtype_type]; kernel_rfl)
theorem args_dt_ga (a b : Value) : argsOk "object.__getattribute__" ⟨[a, b], []⟩ := by
  unfold argsOk; rw [signature?_of (id := "object.__getattribute__") (n := ['_', '_', 'e', 't', 'u', 'b', 'i', 'r', 't', 't', 'a', 't', 'e', 'g', '_', '_']) (o := ['t', 'c', 'e', 'j', 'b', 'o']) (by kernel_rfl) PySem.F.owner_object]; kernel_rfl
theorem dt_noGa : typeLookup (.type "datetime.datetime") "__getattr__" = pure none := by rw [typeLookup_type, builtinLookup_eq_fast]; kernel_rfl
section
variable {prog : Program} {w : World} {A : Around} {E : Value → Shared → Prop} {hp : Heap} {g : Array GenState} {dr : Drawn} {t : Nat} {os : OsState} {a : Addr} {o : Obj} {idn : String} {nm : Str} {b : Builtin} {v : Value} {t' : Nat}
theorem get_gen {R : Result → Shared → Prop} (hx : hp.get? a = some o) (hc : o.cls = .type "datetime.datetime") (ty : typeOf (.builtin idn) = pure (.type "getset_descriptor")) (en : entryFor table idn = some b) (f8 : isSubtype (.type "datetime.datetime") (.type (".".intercalate (idn.cutAt '.').dropLast)) = pure true)
    (hqt : ∀ args, (Code.builtin idn args).quiet = true)
    (hb : ∀ (A : Around) (E : Value → Shared → Prop) (Q : PySem.Fin → Shared → Prop), Q (.done (.ret v)) ⟨hp, g, dr, t', os⟩ → wpAny (model prog w) A (b ⟨[.ref a], []⟩) Q E ⟨hp, g, dr, t, os⟩)
    (hq : R (.ok (.ret v)) ⟨hp, g, dr, t', os⟩) :
    codeAny (model prog w) A (.call (.builtin "getset_descriptor.__get__") ⟨[.builtin idn, .ref a, .type "datetime.datetime"], []⟩) R ⟨hp, g, dr, t, os⟩ := by
  have hT : (⟨hp, g, dr, t, os⟩ : Shared).TypeIs (.ref a) "datetime.datetime" := ⟨_, hx, hc⟩
  have hT5 : (⟨hp, g, dr, t, os⟩ : Shared).TypeIs (.builtin idn) "getset_descriptor" := ty
  refine codeAny_call_builtin F.slot_gs_get.plain F.entry_gs_get (F.slot_gs_get.check _ _ _ _ _ _ _ _ hT5 (F.args_gs_get _ _ _) ?_)
  repeat (any_goals (first | assumption | wp_step))
  refine ⟨hqt _, codeAny_builtin en ?_⟩
  exact hb _ _ _ hq
theorem entry_gen {tk : Tok} {Q : PySem.Fin → Shared → Prop} (hx : hp.get? a = some o) (hc : o.cls = .type "datetime.datetime") (f4 : typeLookup (.type "datetime.datetime") nm = pure (some (.builtin idn))) (ty : typeOf (.builtin idn) = pure (.type "getset_descriptor"))
    (hg : ∀ (A : Around) (R : Result → Shared → Prop), R (.ok (.ret v)) ⟨hp, g, dr, t', os⟩ → codeAny (model prog w) A (.call (.builtin "getset_descriptor.__get__") ⟨[.builtin idn, .ref a, .type "datetime.datetime"], []⟩) R ⟨hp, g, dr, t, os⟩)
    (hq : Q (.done (.ret v)) ⟨hp, g, dr, t', os⟩) :
    wpAny (model prog w) A (Builtin.«object.__getattribute__» ⟨[.ref a, .str nm tk], []⟩) Q E ⟨hp, g, dr, t, os⟩ := by
  have hT : (⟨hp, g, dr, t, os⟩ : Shared).TypeIs (.ref a) "datetime.datetime" := ⟨_, hx, hc⟩
  have hT5 : (⟨hp, g, dr, t, os⟩ : Shared).TypeIs (.builtin idn) "getset_descriptor" := ty
  have f5 := ty
  have f6 := F.slot_gs_get.lookup
  have f7 := F.slot_gs_set.lookup
  repeat (any_goals (first | assumption | wp_step))
  refine hg _ _ ?_
  repeat (any_goals (first | assumption | wp_step))
theorem attr_gen {ex : Bool} {Q : Value → Shared → Prop} (hx : hp.get? a = some o) (hc : o.cls = .type "datetime.datetime") (f4 : typeLookup (.type "datetime.datetime") nm = pure (some (.builtin idn))) (ty : typeOf (.builtin idn) = pure (.type "getset_descriptor"))
    (hg : ∀ (A : Around) (R : Result → Shared → Prop), R (.ok (.ret v)) ⟨hp, g, dr, t', os⟩ → codeAny (model prog w) A (.call (.builtin "getset_descriptor.__get__") ⟨[.builtin idn, .ref a, .type "datetime.datetime"], []⟩) R ⟨hp, g, dr, t + 1, os⟩)
    (hh : handedOut v = pure v) (hq : Q v ⟨hp, g, dr, t', os⟩) : wpAny (model prog w) A (getAttr (.ref a) nm ex) Q E ⟨hp, g, dr, t, os⟩ := by
  have hT : (⟨hp, g, dr, t, os⟩ : Shared).TypeIs (.ref a) "datetime.datetime" := ⟨_, hx, hc⟩
  have hT' : (⟨hp, g, dr, t + 1, os⟩ : Shared).TypeIs (.ref a) "datetime.datetime" := ⟨_, hx, hc⟩
  have f1 := dt_noGa
  have f2 := slot_dt_ga.lookup
  have f3 := slot_dt_ga.bind (.ref a)
  unfold getAttr
  cases ex
  all_goals (repeat (any_goals (first | assumption | wp_step)))
  all_goals (refine codeAny_call_builtin slot_dt_ga.plain entry_dt_ga (slot_dt_ga.check _ _ _ _ _ _ _ _ hT' (args_dt_ga _ _) (entry_gen hx hc f4 ty hg ?_)))
  all_goals (repeat (any_goals (first | assumption | wp_step)))
  all_goals exact (wpAny_of_eq hh hq : wpAny (model prog w) A (handedOut v) Q E _)
end
theorem lk_year : typeLookup (.type "datetime.datetime") "year" = pure (some (.builtin "datetime.date.year")) := by rw [typeLookup_type, builtinLookup_eq_fast]; kernel_rfl
theorem ty_year : typeOf (.builtin "datetime.date.year") = pure (.type "getset_descriptor") := by show builtinType _ = _; rw [builtinType_eq_fast]; kernel_rfl
theorem en_year : entryFor table "datetime.date.year" = some Builtin.«datetime.date.year» := entryFor_of_tree (by kernel_rfl)
theorem ow_year : (".".intercalate ("datetime.date.year".cutAt '.').dropLast) = "datetime.date" := by
  have e0 : "datetime.date.year".cutAt '.' = ["datetime", "date", "year"] := by first | rfl | decide +kernel
  rw [e0]; decide +kernel
theorem sb_year : isSubtype (.type "datetime.datetime") (.type (".".intercalate ("datetime.date.year".cutAt '.').dropLast)) = pure true := by
  rw [ow_year, isSubtype_type]; kernel_rfl
theorem attr_year {prog : Program} {w : World} {A : Around} {E : Value → Shared → Prop} {hp : Heap} {g : Array GenState} {dr : Drawn} {t : Nat} {os : OsState} {a : Addr} {y m d h mi sc : Int} {ex : Bool} {Q : Value → Shared → Prop} (hx : hp.get? a = some (dtObj y m d h mi sc)) (hq : Q (.int y (t + 1)) ⟨hp, g, dr, t + 1 + 1, os⟩) : wpAny (model prog w) A (getAttr (.ref a) "year" ex) Q E ⟨hp, g, dr, t, os⟩ :=
  attr_gen hx rfl lk_year ty_year (fun A R hr => get_gen hx rfl ty_year en_year sb_year (fun args => Code.quiet_builtin _ (by decide +kernel)) (fun A E Q hq => by
    unfold Builtin.«datetime.date.year»
    unfold Builtin._datetime.dtIntAt
    refine wpAny_bind (wpAny_field hx rfl (x := .int y 0) rfl ?_)
    exact wpAny_bind (wpAny_mkInt (wpAny_pure hq))) hr) rfl hq
theorem attrK_year {prog : Program} {w : World} {A : Around} {E : Value → Shared → Prop} {s : Shared} {h₀ : Heap} {L a : Addr} {news : List (Addr × Obj)} {y m d h mi sc : Int} {ex : Bool} {Q : Value → Shared → Prop} (N : News h₀ L s.heap news) (hm : (a, dtObj y m d h mi sc) ∈ news) (hq : ∀ (t' : Tok) (k : Nat), Q (.int y t') { s with toks := k }) : wpAny (model prog w) A (getAttr (.ref a) "year" ex) Q E s :=
  attr_year (N _ hm).1 (hq _ _)
theorem lk_month : typeLookup (.type "datetime.datetime") "month" = pure (some (.builtin "datetime.date.month")) := by rw [typeLookup_type, builtinLookup_eq_fast]; kernel_rfl
theorem ty_month : typeOf (.builtin "datetime.date.month") = pure (.type "getset_descriptor") := by show builtinType _ = _; rw [builtinType_eq_fast]; kernel_rfl
theorem en_month : entryFor table "datetime.date.month" = some Builtin.«datetime.date.month» := entryFor_of_tree (by kernel_rfl)
theorem ow_month : (".".intercalate ("datetime.date.month".cutAt '.').dropLast) = "datetime.date" := by
  have e0 : "datetime.date.month".cutAt '.' = ["datetime", "date", "month"] := by first | rfl | decide +kernel
  rw [e0]; decide +kernel
theorem sb_month : isSubtype (.type "datetime.datetime") (.type (".".intercalate ("datetime.date.month".cutAt '.').dropLast)) = pure true := by
  rw [ow_month, isSubtype_type]; kernel_rfl
theorem attr_month {prog : Program} {w : World} {A : Around} {E : Value → Shared → Prop} {hp : Heap} {g : Array GenState} {dr : Drawn} {t : Nat} {os : OsState} {a : Addr} {y m d h mi sc : Int} {ex : Bool} {Q : Value → Shared → Prop} (hx : hp.get? a = some (dtObj y m d h mi sc)) (hq : Q (.int m (t + 1)) ⟨hp, g, dr, t + 1 + 1, os⟩) : wpAny (model prog w) A (getAttr (.ref a) "month" ex) Q E ⟨hp, g, dr, t, os⟩ :=
  attr_gen hx rfl lk_month ty_month (fun A R hr => get_gen hx rfl ty_month en_month sb_month (fun args => Code.quiet_builtin _ (by decide +kernel)) (fun A E Q hq => by
    unfold Builtin.«datetime.date.month»
    unfold Builtin._datetime.dtIntAt
    refine wpAny_bind (wpAny_field hx rfl (x := .int m 0) rfl ?_)
    exact wpAny_bind (wpAny_mkInt (wpAny_pure hq))) hr) rfl hq
theorem attrK_month {prog : Program} {w : World} {A : Around} {E : Value → Shared → Prop} {s : Shared} {h₀ : Heap} {L a : Addr} {news : List (Addr × Obj)} {y m d h mi sc : Int} {ex : Bool} {Q : Value → Shared → Prop} (N : News h₀ L s.heap news) (hm : (a, dtObj y m d h mi sc) ∈ news) (hq : ∀ (t' : Tok) (k : Nat), Q (.int m t') { s with toks := k }) : wpAny (model prog w) A (getAttr (.ref a) "month" ex) Q E s :=
  attr_month (N _ hm).1 (hq _ _)
theorem lk_day : typeLookup (.type "datetime.datetime") "day" = pure (some (.builtin "datetime.date.day")) := by rw [typeLookup_type, builtinLookup_eq_fast]; kernel_rfl
theorem ty_day : typeOf (.builtin "datetime.date.day") = pure (.type "getset_descriptor") := by show builtinType _ = _; rw [builtinType_eq_fast]; kernel_rfl
theorem en_day : entryFor table "datetime.date.day" = some Builtin.«datetime.date.day» := entryFor_of_tree (by kernel_rfl)
theorem ow_day : (".".intercalate ("datetime.date.day".cutAt '.').dropLast) = "datetime.date" := by
  have e0 : "datetime.date.day".cutAt '.' = ["datetime", "date", "day"] := by first | rfl | decide +kernel
  rw [e0]; decide +kernel
theorem sb_day : isSubtype (.type "datetime.datetime") (.type (".".intercalate ("datetime.date.day".cutAt '.').dropLast)) = pure true := by
  rw [ow_day, isSubtype_type]; kernel_rfl
theorem attr_day {prog : Program} {w : World} {A : Around} {E : Value → Shared → Prop} {hp : Heap} {g : Array GenState} {dr : Drawn} {t : Nat} {os : OsState} {a : Addr} {y m d h mi sc : Int} {ex : Bool} {Q : Value → Shared → Prop} (hx : hp.get? a = some (dtObj y m d h mi sc)) (hq : Q (.int d (t + 1)) ⟨hp, g, dr, t + 1 + 1, os⟩) : wpAny (model prog w) A (getAttr (.ref a) "day" ex) Q E ⟨hp, g, dr, t, os⟩ :=
  attr_gen hx rfl lk_day ty_day (fun A R hr => get_gen hx rfl ty_day en_day sb_day (fun args => Code.quiet_builtin _ (by decide +kernel)) (fun A E Q hq => by
    unfold Builtin.«datetime.date.day»
    unfold Builtin._datetime.dtIntAt
    refine wpAny_bind (wpAny_field hx rfl (x := .int d 0) rfl ?_)
    exact wpAny_bind (wpAny_mkInt (wpAny_pure hq))) hr) rfl hq
theorem attrK_day {prog : Program} {w : World} {A : Around} {E : Value → Shared → Prop} {s : Shared} {h₀ : Heap} {L a : Addr} {news : List (Addr × Obj)} {y m d h mi sc : Int} {ex : Bool} {Q : Value → Shared → Prop} (N : News h₀ L s.heap news) (hm : (a, dtObj y m d h mi sc) ∈ news) (hq : ∀ (t' : Tok) (k : Nat), Q (.int d t') { s with toks := k }) : wpAny (model prog w) A (getAttr (.ref a) "day" ex) Q E s :=
  attr_day (N _ hm).1 (hq _ _)
theorem lk_hour : typeLookup (.type "datetime.datetime") "hour" = pure (some (.builtin "datetime.datetime.hour")) := by rw [typeLookup_type, builtinLookup_eq_fast]; kernel_rfl
theorem ty_hour : typeOf (.builtin "datetime.datetime.hour") = pure (.type "getset_descriptor") := by show builtinType _ = _; rw [builtinType_eq_fast]; kernel_rfl
theorem en_hour : entryFor table "datetime.datetime.hour" = some Builtin.«datetime.datetime.hour» := entryFor_of_tree (by kernel_rfl)
theorem ow_hour : (".".intercalate ("datetime.datetime.hour".cutAt '.').dropLast) = "datetime.datetime" := by
  have e0 : "datetime.datetime.hour".cutAt '.' = ["datetime", "datetime", "hour"] := by first | rfl | decide +kernel
  rw [e0]; decide +kernel
theorem sb_hour : isSubtype (.type "datetime.datetime") (.type (".".intercalate ("datetime.datetime.hour".cutAt '.').dropLast)) = pure true := by
  rw [ow_hour, isSubtype_type]; kernel_rfl
theorem attr_hour {prog : Program} {w : World} {A : Around} {E : Value → Shared → Prop} {hp : Heap} {g : Array GenState} {dr : Drawn} {t : Nat} {os : OsState} {a : Addr} {y m d h mi sc : Int} {ex : Bool} {Q : Value → Shared → Prop} (hx : hp.get? a = some (dtObj y m d h mi sc)) (hq : Q (.int h (t + 1)) ⟨hp, g, dr, t + 1 + 1, os⟩) : wpAny (model prog w) A (getAttr (.ref a) "hour" ex) Q E ⟨hp, g, dr, t, os⟩ :=
  attr_gen hx rfl lk_hour ty_hour (fun A R hr => get_gen hx rfl ty_hour en_hour sb_hour (fun args => Code.quiet_builtin _ (by decide +kernel)) (fun A E Q hq => by
    unfold Builtin.«datetime.datetime.hour»
    unfold Builtin._datetime.dtIntAt
    refine wpAny_bind (wpAny_field hx rfl (x := .int h 0) rfl ?_)
    exact wpAny_bind (wpAny_mkInt (wpAny_pure hq))) hr) rfl hq
theorem attrK_hour {prog : Program} {w : World} {A : Around} {E : Value → Shared → Prop} {s : Shared} {h₀ : Heap} {L a : Addr} {news : List (Addr × Obj)} {y m d h mi sc : Int} {ex : Bool} {Q : Value → Shared → Prop} (N : News h₀ L s.heap news) (hm : (a, dtObj y m d h mi sc) ∈ news) (hq : ∀ (t' : Tok) (k : Nat), Q (.int h t') { s with toks := k }) : wpAny (model prog w) A (getAttr (.ref a) "hour" ex) Q E s :=
  attr_hour (N _ hm).1 (hq _ _)
theorem lk_minute : typeLookup (.type "datetime.datetime") "minute" = pure (some (.builtin "datetime.datetime.minute")) := by rw [typeLookup_type, builtinLookup_eq_fast]; kernel_rfl
theorem ty_minute : typeOf (.builtin "datetime.datetime.minute") = pure (.type "getset_descriptor") := by show builtinType _ = _; rw [builtinType_eq_fast]; kernel_rfl
theorem en_minute : entryFor table "datetime.datetime.minute" = some Builtin.«datetime.datetime.minute» := entryFor_of_tree (by kernel_rfl)
theorem ow_minute : (".".intercalate ("datetime.datetime.minute".cutAt '.').dropLast) = "datetime.datetime" := by
  have e0 : "datetime.datetime.minute".cutAt '.' = ["datetime", "datetime", "minute"] := by first | rfl | decide +kernel
  rw [e0]; decide +kernel
theorem sb_minute : isSubtype (.type "datetime.datetime") (.type (".".intercalate ("datetime.datetime.minute".cutAt '.').dropLast)) = pure true := by
  rw [ow_minute, isSubtype_type]; kernel_rfl
theorem attr_minute {prog : Program} {w : World} {A : Around} {E : Value → Shared → Prop} {hp : Heap} {g : Array GenState} {dr : Drawn} {t : Nat} {os : OsState} {a : Addr} {y m d h mi sc : Int} {ex : Bool} {Q : Value → Shared → Prop} (hx : hp.get? a = some (dtObj y m d h mi sc)) (hq : Q (.int mi (t + 1)) ⟨hp, g, dr, t + 1 + 1, os⟩) : wpAny (model prog w) A (getAttr (.ref a) "minute" ex) Q E ⟨hp, g, dr, t, os⟩ :=
  attr_gen hx rfl lk_minute ty_minute (fun A R hr => get_gen hx rfl ty_minute en_minute sb_minute (fun args => Code.quiet_builtin _ (by decide +kernel)) (fun A E Q hq => by
    unfold Builtin.«datetime.datetime.minute»
    unfold Builtin._datetime.dtIntAt
    refine wpAny_bind (wpAny_field hx rfl (x := .int mi 0) rfl ?_)
    exact wpAny_bind (wpAny_mkInt (wpAny_pure hq))) hr) rfl hq
theorem attrK_minute {prog : Program} {w : World} {A : Around} {E : Value → Shared → Prop} {s : Shared} {h₀ : Heap} {L a : Addr} {news : List (Addr × Obj)} {y m d h mi sc : Int} {ex : Bool} {Q : Value → Shared → Prop} (N : News h₀ L s.heap news) (hm : (a, dtObj y m d h mi sc) ∈ news) (hq : ∀ (t' : Tok) (k : Nat), Q (.int mi t') { s with toks := k }) : wpAny (model prog w) A (getAttr (.ref a) "minute" ex) Q E s :=
  attr_minute (N _ hm).1 (hq _ _)
theorem lk_second : typeLookup (.type "datetime.datetime") "second" = pure (some (.builtin "datetime.datetime.second")) := by rw [typeLookup_type, builtinLookup_eq_fast]; kernel_rfl
theorem ty_second : typeOf (.builtin "datetime.datetime.second") = pure (.type "getset_descriptor") := by show builtinType _ = _; rw [builtinType_eq_fast]; kernel_rfl
theorem en_second : entryFor table "datetime.datetime.second" = some Builtin.«datetime.datetime.second» := entryFor_of_tree (by kernel_rfl)
theorem ow_second : (".".intercalate ("datetime.datetime.second".cutAt '.').dropLast) = "datetime.datetime" := by
  have e0 : "datetime.datetime.second".cutAt '.' = ["datetime", "datetime", "second"] := by first | rfl | decide +kernel
  rw [e0]; decide +kernel
theorem sb_second : isSubtype (.type "datetime.datetime") (.type (".".intercalate ("datetime.datetime.second".cutAt '.').dropLast)) = pure true := by
  rw [ow_second, isSubtype_type]; kernel_rfl
theorem attr_second {prog : Program} {w : World} {A : Around} {E : Value → Shared → Prop} {hp : Heap} {g : Array GenState} {dr : Drawn} {t : Nat} {os : OsState} {a : Addr} {y m d h mi sc : Int} {ex : Bool} {Q : Value → Shared → Prop} (hx : hp.get? a = some (dtObj y m d h mi sc)) (hq : Q (.int sc (t + 1)) ⟨hp, g, dr, t + 1 + 1, os⟩) : wpAny (model prog w) A (getAttr (.ref a) "second" ex) Q E ⟨hp, g, dr, t, os⟩ :=
  attr_gen hx rfl lk_second ty_second (fun A R hr => get_gen hx rfl ty_second en_second sb_second (fun args => Code.quiet_builtin _ (by decide +kernel)) (fun A E Q hq => by
    unfold Builtin.«datetime.datetime.second»
    unfold Builtin._datetime.dtIntAt
    refine wpAny_bind (wpAny_field hx rfl (x := .int sc 0) rfl ?_)
    exact wpAny_bind (wpAny_mkInt (wpAny_pure hq))) hr) rfl hq
theorem attrK_second {prog : Program} {w : World} {A : Around} {E : Value → Shared → Prop} {s : Shared} {h₀ : Heap} {L a : Addr} {news : List (Addr × Obj)} {y m d h mi sc : Int} {ex : Bool} {Q : Value → Shared → Prop} (N : News h₀ L s.heap news) (hm : (a, dtObj y m d h mi sc) ∈ news) (hq : ∀ (t' : Tok) (k : Nat), Q (.int sc t') { s with toks := k }) : wpAny (model prog w) A (getAttr (.ref a) "second" ex) Q E s :=
  attr_second (N _ hm).1 (hq _ _)
theorem lk_microsecond : typeLookup (.type "datetime.datetime") "microsecond" = pure (some (.builtin "datetime.datetime.microsecond")) := by rw [typeLookup_type, builtinLookup_eq_fast]; kernel_rfl
theorem ty_microsecond : typeOf (.builtin "datetime.datetime.microsecond") = pure (.type "getset_descriptor") := by show builtinType _ = _; rw [builtinType_eq_fast]; kernel_rfl
theorem en_microsecond : entryFor table "datetime.datetime.microsecond" = some Builtin.«datetime.datetime.microsecond» := entryFor_of_tree (by kernel_rfl)
theorem ow_microsecond : (".".intercalate ("datetime.datetime.microsecond".cutAt '.').dropLast) = "datetime.datetime" := by
  have e0 : "datetime.datetime.microsecond".cutAt '.' = ["datetime", "datetime", "microsecond"] := by first | rfl | decide +kernel
  rw [e0]; decide +kernel
theorem sb_microsecond : isSubtype (.type "datetime.datetime") (.type (".".intercalate ("datetime.datetime.microsecond".cutAt '.').dropLast)) = pure true := by
  rw [ow_microsecond, isSubtype_type]; kernel_rfl
theorem attr_microsecond {prog : Program} {w : World} {A : Around} {E : Value → Shared → Prop} {hp : Heap} {g : Array GenState} {dr : Drawn} {t : Nat} {os : OsState} {a : Addr} {y m d h mi sc : Int} {ex : Bool} {Q : Value → Shared → Prop} (hx : hp.get? a = some (dtObj y m d h mi sc)) (hq : Q (.int 0 (t + 1)) ⟨hp, g, dr, t + 1 + 1, os⟩) : wpAny (model prog w) A (getAttr (.ref a) "microsecond" ex) Q E ⟨hp, g, dr, t, os⟩ :=
  attr_gen hx rfl lk_microsecond ty_microsecond (fun A R hr => get_gen hx rfl ty_microsecond en_microsecond sb_microsecond (fun args => Code.quiet_builtin _ (by decide +kernel)) (fun A E Q hq => by
    unfold Builtin.«datetime.datetime.microsecond»
    unfold Builtin._datetime.dtIntAt
    refine wpAny_bind (wpAny_field hx rfl (x := .int 0 0) rfl ?_)
    exact wpAny_bind (wpAny_mkInt (wpAny_pure hq))) hr) rfl hq
theorem attrK_microsecond {prog : Program} {w : World} {A : Around} {E : Value → Shared → Prop} {s : Shared} {h₀ : Heap} {L a : Addr} {news : List (Addr × Obj)} {y m d h mi sc : Int} {ex : Bool} {Q : Value → Shared → Prop} (N : News h₀ L s.heap news) (hm : (a, dtObj y m d h mi sc) ∈ news) (hq : ∀ (t' : Tok) (k : Nat), Q (.int 0 t') { s with toks := k }) : wpAny (model prog w) A (getAttr (.ref a) "microsecond" ex) Q E s :=
  attr_microsecond (N _ hm).1 (hq _ _)
theorem lk_tzinfo : typeLookup (.type "datetime.datetime") "tzinfo" = pure (some (.builtin "datetime.datetime.tzinfo")) := by rw [typeLookup_type, builtinLookup_eq_fast]; kernel_rfl
theorem ty_tzinfo : typeOf (.builtin "datetime.datetime.tzinfo") = pure (.type "getset_descriptor") := by show builtinType _ = _; rw [builtinType_eq_fast]; kernel_rfl
theorem en_tzinfo : entryFor table "datetime.datetime.tzinfo" = some Builtin.«datetime.datetime.tzinfo» := entryFor_of_tree (by kernel_rfl)
theorem ow_tzinfo : (".".intercalate ("datetime.datetime.tzinfo".cutAt '.').dropLast) = "datetime.datetime" := by
  have e0 : "datetime.datetime.tzinfo".cutAt '.' = ["datetime", "datetime", "tzinfo"] := by first | rfl | decide +kernel
  rw [e0]; decide +kernel
theorem sb_tzinfo : isSubtype (.type "datetime.datetime") (.type (".".intercalate ("datetime.datetime.tzinfo".cutAt '.').dropLast)) = pure true := by
  rw [ow_tzinfo, isSubtype_type]; kernel_rfl
theorem attr_tzinfo {prog : Program} {w : World} {A : Around} {E : Value → Shared → Prop} {hp : Heap} {g : Array GenState} {dr : Drawn} {t : Nat} {os : OsState} {a : Addr} {y m d h mi sc : Int} {ex : Bool} {Q : Value → Shared → Prop} (hx : hp.get? a = some (dtObj y m d h mi sc)) (hq : Q (.none) ⟨hp, g, dr, t + 1, os⟩) : wpAny (model prog w) A (getAttr (.ref a) "tzinfo" ex) Q E ⟨hp, g, dr, t, os⟩ :=
  attr_gen hx rfl lk_tzinfo ty_tzinfo (fun A R hr => get_gen hx rfl ty_tzinfo en_tzinfo sb_tzinfo (fun args => Code.quiet_builtin _ (by decide +kernel)) (fun A E Q hq => by
    unfold Builtin.«datetime.datetime.tzinfo»
    skip
    refine wpAny_bind (wpAny_field hx rfl (x := .none) rfl ?_)
    exact wpAny_pure hq) hr) rfl hq
theorem attrK_tzinfo {prog : Program} {w : World} {A : Around} {E : Value → Shared → Prop} {s : Shared} {h₀ : Heap} {L a : Addr} {news : List (Addr × Obj)} {y m d h mi sc : Int} {ex : Bool} {Q : Value → Shared → Prop} (N : News h₀ L s.heap news) (hm : (a, dtObj y m d h mi sc) ∈ news) (hq : ∀ (t' : Tok) (k : Nat), Q (.none) { s with toks := k }) : wpAny (model prog w) A (getAttr (.ref a) "tzinfo" ex) Q E s :=
  attr_tzinfo (N _ hm).1 (hq 0 _)
end Mine.Internal

end
section
open PySem PySem.W PyProof.Rows PySem.Calls PySem.Spec
set_option maxRecDepth 100000
set_option linter.unusedVariables false
set_option Elab.async false
namespace Mine.Internal
theorem slot_ms_get : Slot "member_descriptor" "__get__" "member_descriptor.__get__" :=
  .of (owner := "member_descriptor") (n := "__get__") (by rw [typeLookup_type, builtinLookup_eq_fast]; kernel_rfl) (by decide +kernel) (by decide +kernel) (by decide +kernel)
    (by first | exact .inl (by decide +kernel) | exact .inr (by decide +kernel)) (by rw [isSubtype_type]; kernel_rfl)
theorem slot_ms_set : Slot "member_descriptor" "__set__" "member_descriptor.__set__" :=
  .of (owner := "member_descriptor") (n := "__set__") (by rw [typeLookup_type, builtinLookup_eq_fast]; kernel_rfl) (by decide +kernel) (by decide +kernel) (by decide +kernel)
    (by first | exact .inl (by decide +kernel) | exact .inr (by decide +kernel)) (by rw [isSubtype_type]; kernel_rfl)
theorem entry_ms_get : entryFor table "member_descriptor.__get__" = some Builtin.«member_descriptor.__get__» := entryFor_of_tree (by kernel_rfl)
theorem args_ms_get (a b c : Value) : argsOk "member_descriptor.__get__" ⟨[a, b, c], []⟩ := by unfold argsOk; kernel_rfl
noncomputable abbrev tdObj (d s : Int) : Obj := { cls := .type "datetime.timedelta", data := .fields #[.int d 0, .int s 0, .int 0 0] }
theorem slot_td_ga : Slot "datetime.timedelta" "__getattribute__" "object.__getattribute__" :=
  .of (owner := "object") (n := "__getattribute__") (by rw [typeLookup_type, builtinLookup_eq_fast]; kernel_rfl) (by decide +kernel) (by decide +kernel) (by decide +kernel)
    (by first | exact .inl (by decide +kernel) | exact .inr (by decide +kernel)) (by rw [isSubtype_type]; kernel_rfl)
theorem args_td_ga (a b : Value) : argsOk "object.__getattribute__" ⟨[a, b], []⟩ := by
  unfold argsOk; rw [signature?_of (id := "object.__getattribute__") (n := ['_', '_', 'e', 't', 'u', 'b', 'i', 'r', 't', 't', 'a', 't', 'e', 'g', '_', '_']) (o := ['t', 'c', 'e', 'j', 'b', 'o']) (by kernel_rfl) PySem.F.owner_object]; kernel_rfl
theorem td_noGa : typeLookup (.type "datetime.timedelta") "__getattr__" = pure none := by rw [typeLookup_type, builtinLookup_eq_fast]; kernel_rfl
section
variable {prog : Program} {w : World} {A : Around} {E : Value → Shared → Prop} {hp : Heap} {g : Array GenState} {dr : Drawn} {t : Nat} {os : OsState} {a : Addr} {o : Obj} {idn : String} {nm : Str} {b : Builtin} {v : Value} {t' : Nat}
theorem get_genD {R : Result → Shared → Prop} (hx : hp.get? a = some o) (hc : o.cls = .type "datetime.timedelta") (ty : typeOf (.builtin idn) = pure (.type "member_descriptor")) (en : entryFor table idn = some b) (f8 : isSubtype (.type "datetime.timedelta") (.type (".".intercalate (idn.cutAt '.').dropLast)) = pure true)
    (hqt : ∀ args, (Code.builtin idn args).quiet = true)
    (hb : ∀ (A : Around) (E : Value → Shared → Prop) (Q : PySem.Fin → Shared → Prop), Q (.done (.ret v)) ⟨hp, g, dr, t', os⟩ → wpAny (model prog w) A (b ⟨[.ref a], []⟩) Q E ⟨hp, g, dr, t, os⟩)
    (hq : R (.ok (.ret v)) ⟨hp, g, dr, t', os⟩) :
    codeAny (model prog w) A (.call (.builtin "member_descriptor.__get__") ⟨[.builtin idn, .ref a, .type "datetime.timedelta"], []⟩) R ⟨hp, g, dr, t, os⟩ := by
  have hT : (⟨hp, g, dr, t, os⟩ : Shared).TypeIs (.ref a) "datetime.timedelta" := ⟨_, hx, hc⟩
  have hT5 : (⟨hp, g, dr, t, os⟩ : Shared).TypeIs (.builtin idn) "member_descriptor" := ty
  refine codeAny_call_builtin slot_ms_get.plain entry_ms_get (slot_ms_get.check _ _ _ _ _ _ _ _ hT5 (args_ms_get _ _ _) ?_)
  repeat (any_goals (first | assumption | wp_step))
  refine ⟨hqt _, codeAny_builtin en ?_⟩
  exact hb _ _ _ hq
theorem entry_genD {tk : Tok} {Q : PySem.Fin → Shared → Prop} (hx : hp.get? a = some o) (hc : o.cls = .type "datetime.timedelta") (f4 : typeLookup (.type "datetime.timedelta") nm = pure (some (.builtin idn))) (ty : typeOf (.builtin idn) = pure (.type "member_descriptor"))
    (hg : ∀ (A : Around) (R : Result → Shared → Prop), R (.ok (.ret v)) ⟨hp, g, dr, t', os⟩ → codeAny (model prog w) A (.call (.builtin "member_descriptor.__get__") ⟨[.builtin idn, .ref a, .type "datetime.timedelta"], []⟩) R ⟨hp, g, dr, t, os⟩)
    (hq : Q (.done (.ret v)) ⟨hp, g, dr, t', os⟩) :
    wpAny (model prog w) A (Builtin.«object.__getattribute__» ⟨[.ref a, .str nm tk], []⟩) Q E ⟨hp, g, dr, t, os⟩ := by
  have hT : (⟨hp, g, dr, t, os⟩ : Shared).TypeIs (.ref a) "datetime.timedelta" := ⟨_, hx, hc⟩
  have hT5 : (⟨hp, g, dr, t, os⟩ : Shared).TypeIs (.builtin idn) "member_descriptor" := ty
  have f5 := ty
  have f6 := slot_ms_get.lookup
  have f7 := slot_ms_set.lookup
  repeat (any_goals (first | assumption | wp_step))
  refine hg _ _ ?_
  repeat (any_goals (first | assumption | wp_step))
theorem attr_genD {ex : Bool} {Q : Value → Shared → Prop} (hx : hp.get? a = some o) (hc : o.cls = .type "datetime.timedelta") (f4 : typeLookup (.type "datetime.timedelta") nm = pure (some (.builtin idn))) (ty : typeOf (.builtin idn) = pure (.type "member_descriptor"))
    (hg : ∀ (A : Around) (R : Result → Shared → Prop), R (.ok (.ret v)) ⟨hp, g, dr, t', os⟩ → codeAny (model prog w) A (.call (.builtin "member_descriptor.__get__") ⟨[.builtin idn, .ref a, .type "datetime.timedelta"], []⟩) R ⟨hp, g, dr, t + 1, os⟩)
    (hh : handedOut v = pure v) (hq : Q v ⟨hp, g, dr, t', os⟩) : wpAny (model prog w) A (getAttr (.ref a) nm ex) Q E ⟨hp, g, dr, t, os⟩ := by
  have hT : (⟨hp, g, dr, t, os⟩ : Shared).TypeIs (.ref a) "datetime.timedelta" := ⟨_, hx, hc⟩
  have hT' : (⟨hp, g, dr, t + 1, os⟩ : Shared).TypeIs (.ref a) "datetime.timedelta" := ⟨_, hx, hc⟩
  have f1 := td_noGa
  have f2 := slot_td_ga.lookup
  have f3 := slot_td_ga.bind (.ref a)
  unfold getAttr
  cases ex
  all_goals (repeat (any_goals (first | assumption | wp_step)))
  all_goals (refine codeAny_call_builtin slot_td_ga.plain entry_dt_ga (slot_td_ga.check _ _ _ _ _ _ _ _ hT' (args_td_ga _ _) (entry_genD hx hc f4 ty hg ?_)))
  all_goals (repeat (any_goals (first | assumption | wp_step)))
  all_goals exact (wpAny_of_eq hh hq : wpAny (model prog w) A (handedOut v) Q E _)
end
theorem lk_td_days : typeLookup (.type "datetime.timedelta") "days" = pure (some (.builtin "datetime.timedelta.days")) := by rw [typeLookup_type, builtinLookup_eq_fast]; kernel_rfl
theorem ty_td_days : typeOf (.builtin "datetime.timedelta.days") = pure (.type "member_descriptor") := by show builtinType _ = _; rw [builtinType_eq_fast]; kernel_rfl
theorem en_td_days : entryFor table "datetime.timedelta.days" = some Builtin.«datetime.timedelta.days» := entryFor_of_tree (by kernel_rfl)
theorem ow_td_days : (".".intercalate ("datetime.timedelta.days".cutAt '.').dropLast) = "datetime.timedelta" := by
  have e0 : "datetime.timedelta.days".cutAt '.' = ["datetime", "timedelta", "days"] := by first | rfl | decide +kernel
  rw [e0]; decide +kernel
theorem sb_td_days : isSubtype (.type "datetime.timedelta") (.type (".".intercalate ("datetime.timedelta.days".cutAt '.').dropLast)) = pure true := by
  rw [ow_td_days, isSubtype_type]; kernel_rfl
theorem attr_td_days {prog : Program} {w : World} {A : Around} {E : Value → Shared → Prop} {hp : Heap} {g : Array GenState} {dr : Drawn} {t : Nat} {os : OsState} {a : Addr} {d sc : Int} {ex : Bool} {Q : Value → Shared → Prop} (hx : hp.get? a = some (tdObj d sc)) (hq : Q (.int d (t + 1)) ⟨hp, g, dr, t + 1 + 1, os⟩) : wpAny (model prog w) A (getAttr (.ref a) "days" ex) Q E ⟨hp, g, dr, t, os⟩ :=
  attr_genD hx rfl lk_td_days ty_td_days (fun A R hr => get_genD hx rfl ty_td_days en_td_days sb_td_days (fun args => Code.quiet_builtin _ (by decide +kernel)) (fun A E Q hq => by
    unfold Builtin.«datetime.timedelta.days»
    unfold Builtin._datetime.dtIntAt
    refine wpAny_bind (wpAny_field hx rfl (x := .int d 0) rfl ?_)
    exact wpAny_bind (wpAny_mkInt (wpAny_pure hq))) hr) rfl hq
theorem attrK_td_days {prog : Program} {w : World} {A : Around} {E : Value → Shared → Prop} {s : Shared} {h₀ : Heap} {L a : Addr} {news : List (Addr × Obj)} {d sc : Int} {ex : Bool} {Q : Value → Shared → Prop} (N : News h₀ L s.heap news) (hm : (a, tdObj d sc) ∈ news) (hq : ∀ (t' : Tok) (k : Nat), Q (.int d t') { s with toks := k }) : wpAny (model prog w) A (getAttr (.ref a) "days" ex) Q E s :=
  attr_td_days (N _ hm).1 (hq _ _)
theorem lk_td_seconds : typeLookup (.type "datetime.timedelta") "seconds" = pure (some (.builtin "datetime.timedelta.seconds")) := by rw [typeLookup_type, builtinLookup_eq_fast]; kernel_rfl
theorem ty_td_seconds : typeOf (.builtin "datetime.timedelta.seconds") = pure (.type "member_descriptor") := by show builtinType _ = _; rw [builtinType_eq_fast]; kernel_rfl
theorem en_td_seconds : entryFor table "datetime.timedelta.seconds" = some Builtin.«datetime.timedelta.seconds» := entryFor_of_tree (by kernel_rfl)
theorem ow_td_seconds : (".".intercalate ("datetime.timedelta.seconds".cutAt '.').dropLast) = "datetime.timedelta" := by
  have e0 : "datetime.timedelta.seconds".cutAt '.' = ["datetime", "timedelta", "seconds"] := by first | rfl | decide +kernel
  rw [e0]; decide +kernel
theorem sb_td_seconds : isSubtype (.type "datetime.timedelta") (.type (".".intercalate ("datetime.timedelta.seconds".cutAt '.').dropLast)) = pure true := by
  rw [ow_td_seconds, isSubtype_type]; kernel_rfl
theorem attr_td_seconds {prog : Program} {w : World} {A : Around} {E : Value → Shared → Prop} {hp : Heap} {g : Array GenState} {dr : Drawn} {t : Nat} {os : OsState} {a : Addr} {d sc : Int} {ex : Bool} {Q : Value → Shared → Prop} (hx : hp.get? a = some (tdObj d sc)) (hq : Q (.int sc (t + 1)) ⟨hp, g, dr, t + 1 + 1, os⟩) : wpAny (model prog w) A (getAttr (.ref a) "seconds" ex) Q E ⟨hp, g, dr, t, os⟩ :=
  attr_genD hx rfl lk_td_seconds ty_td_seconds (fun A R hr => get_genD hx rfl ty_td_seconds en_td_seconds sb_td_seconds (fun args => Code.quiet_builtin _ (by decide +kernel)) (fun A E Q hq => by
    unfold Builtin.«datetime.timedelta.seconds»
    unfold Builtin._datetime.dtIntAt
    refine wpAny_bind (wpAny_field hx rfl (x := .int sc 0) rfl ?_)
    exact wpAny_bind (wpAny_mkInt (wpAny_pure hq))) hr) rfl hq
theorem attrK_td_seconds {prog : Program} {w : World} {A : Around} {E : Value → Shared → Prop} {s : Shared} {h₀ : Heap} {L a : Addr} {news : List (Addr × Obj)} {d sc : Int} {ex : Bool} {Q : Value → Shared → Prop} (N : News h₀ L s.heap news) (hm : (a, tdObj d sc) ∈ news) (hq : ∀ (t' : Tok) (k : Nat), Q (.int sc t') { s with toks := k }) : wpAny (model prog w) A (getAttr (.ref a) "seconds" ex) Q E s :=
  attr_td_seconds (N _ hm).1 (hq _ _)
end Mine.Internal

end
section
open PySem PySem.W PyProof.Rows PySem.Calls PySem.Spec PySem.Builtin._datetime
set_option maxRecDepth 100000
set_option linter.unusedVariables false
set_option Elab.async false
namespace Mine.Internal
section
variable {prog : Program} {w : World} {A : Around} {E : Value → Shared → Prop} {s : Shared} {a b : Addr} {y m d h mi sc y' m' d' h' mi' sc' : Int}
theorem stampOf_ {Q : Stamp → Shared → Prop} (hx : s.heap.get? a = some (dtObj y m d h mi sc)) (hq : Q { y := y, mo := m, d := d, c := { h := h, m := mi, s := sc, us := 0, tz := .none, fold := 0 } } s) : wpAny (model prog w) A (stampOf (.ref a)) Q E s := by
  have hT : s.TypeIs (.ref a) "datetime.datetime" := ⟨_, hx, rfl⟩
  have f1 := sub_dt
  repeat (any_goals (first | assumption | wp_step))
noncomputable def usOf (y m d h mi sc : Int) : Int := (toOrdinal y m d * 86400 + h * 3600 + mi * 60 + sc) * usPerSecond + 0
theorem sub_run {Q : PySem.Fin → Shared → Prop} (hx : s.heap.get? a = some (dtObj y m d h mi sc)) (hy : s.heap.get? b = some (dtObj y' m' d' h' mi' sc'))
    (hq : wpAny (model prog w) A (newDelta (usOf y m d h mi sc - usOf y' m' d' h' mi' sc')) (fun v s' => Q (.done (.ret v)) s') E s) :
    wpAny (model prog w) A (Builtin.«datetime.datetime.__sub__» ⟨[.ref a, .ref b], []⟩) Q E s := by
  have hT : s.TypeIs (.ref a) "datetime.datetime" := ⟨_, hx, rfl⟩
  have hT2 : s.TypeIs (.ref b) "datetime.datetime" := ⟨_, hy, rfl⟩
  have f1 := sub_dt
  refine wpAny_bind ?_
  refine wpAny_of_eq (a := (.ref a, [.ref b])) rfl ?_
  refine wpAny_bind ?_
  refine wpAny_bind ?_
  refine wpAny_isInstance (T := "datetime.datetime") hT f1 ?_
  refine wpAny_bind ?_
  refine wpAny_isInstance (T := "datetime.datetime") hT2 f1 ?_
  refine wpAny_bind (stampOf_ hx ?_)
  refine wpAny_bind (stampOf_ hy ?_)
  refine wpAny_ite (KPc.ite_yes rfl ?_)
  exact wpAny_mono hq (fun v s' q => wpAny_pure q) fun _ _ q => q
theorem newDelta_made {us : Int} {Q : Value → Shared → Prop} (h0 : us ≠ 0) (h1 : 0 ≤ us ∧ us < 86400000000 * 999999999) (hz : us % 86400000000 % 1000000 = 0)
    (hq : Q (.ref s.heap.objs.size) { s with heap := s.heap.push (tdObj (us / 86400000000) (us % 86400000000 / 1000000)) }) : wpAny (model prog w) A (newDelta us) Q E s := by
  have e1 : us.fdiv usPerDay = us / 86400000000 := Int.fdiv_eq_ediv_of_nonneg _ (by decide)
  have e2 : us.fmod usPerDay = us % 86400000000 := Int.fmod_eq_emod_of_nonneg _ (by decide)
  have hd : 0 ≤ us / 86400000000 ∧ us / 86400000000 < 999999999 := by omega
  unfold newDelta
  refine wpAny_ite (KPc.ite_no (by simp [h0]) ?_)
  rw [e1, e2]
  refine wpAny_ite (KPc.ite_no (by simp; omega) ?_)
  refine wpAny_ite (KPc.ite_no (by simp; omega) ?_)
  refine wpAny_newObj_type ?_ (Nat.le_of_ble_eq_true rfl)
  have e3 : us % 86400000000 % usPerSecond = 0 := hz
  rw [e3]
  exact hq
theorem slot_dt_sub : Slot "datetime.datetime" "__sub__" "datetime.datetime.__sub__" :=
  .of (owner := "datetime.datetime") (n := "__sub__") (by rw [typeLookup_type, builtinLookup_eq_fast]; kernel_rfl) (by decide +kernel) (by decide +kernel) (by decide +kernel)
    (by first | exact .inl (by decide +kernel) | exact .inr (by decide +kernel)) (by rw [isSubtype_type]; kernel_rfl)
theorem entry_dt_sub : entryFor table "datetime.datetime.__sub__" = some Builtin.«datetime.datetime.__sub__» := entryFor_of_tree (by kernel_rfl)
theorem args_dt_sub (a b : Value) : argsOk "datetime.datetime.__sub__" ⟨[a, b], []⟩ := by unfold argsOk; kernel_rfl
theorem fills_dt_sub : fillsNumberSlot (.type "datetime.datetime") "sub" = pure true := by kernel_rfl
theorem sub_dtK {Q : Value → Shared → Prop} (hx : s.heap.get? a = some (dtObj y m d h mi sc)) (hy : s.heap.get? b = some (dtObj y' m' d' h' mi' sc'))
    (hq : ∀ A, wpAny (model prog w) A (newDelta (usOf y m d h mi sc - usOf y' m' d' h' mi' sc')) (fun v s' => v ≠ .notImplemented ∧ Q v s') E s) :
    wpAny (model prog w) A (binaryOp .Sub (.ref a) (.ref b)) Q E s :=
  wpAny_binaryOp_same (T := "datetime.datetime") ⟨_, hx, rfl⟩ ⟨_, hy, rfl⟩ fills_dt_sub slot_dt_sub (by
    refine wpAny_call_entry slot_dt_sub ⟨_, hx, rfl⟩ entry_dt_sub ?_ (args_dt_sub _ _)
    exact sub_run hx hy (wpAny_mono (hq _) (fun v s' q => ⟨v, rfl, q⟩) fun _ _ q => q))
end
end Mine.Internal

end
section
open PySem PySem.W PyProof.Rows PySem.Calls PySem.Spec
set_option maxRecDepth 100000
namespace Mine.Internal
section
variable {prog : Program} {w : World} {A : Around} {E : Value → Shared → Prop} {s : Shared}
theorem places_ab (a b : Nat) (h : a ≤ b) : Builtin.Slice.slicePlaces (a : Int) (b : Int) 1 = b - a := by
  unfold Builtin.Slice.slicePlaces
  have h1 : (1 : Int) > 0 := by omega
  simp only [h1, if_true, Int.ediv_one]
  split <;> omega
theorem applied_to {sl : Addr} {b n : Nat} {v : Tok} {Q : Int × Int × Nat → Shared → Prop} (hs : s.heap.IsSliceOf sl .none (.int b v) .none) (hb : b ≤ n) (h : Q (((0 : Nat) : Int), 1, b - 0) s) :
    wpAny (model prog w) A (Builtin.Slice.sliceApplied (.ref sl) (pure (n : Int))) Q E s := by
  obtain ⟨os, hos, hcs, hds⟩ := id hs
  unfold Builtin.Slice.sliceApplied Builtin.Slice.sliceFields
  refine wpAny_bind (wpAny_bind (wpAny_field hos hds (x := .none) rfl (wpAny_bind (wpAny_field hos hds (x := .int b v) rfl (wpAny_bind (wpAny_field hos hds (x := .none) rfl (wpAny_pure ?_)))))))
  refine wpAny_bind (slicePart_none ?_)
  show wpAny _ _ (if ((1 : Int) == 0) = true then _ else _) _ _ s
  rw [if_neg (by decide)]
  refine wpAny_bind (slicePart_none (wpAny_bind (slicePart_int (wpAny_bind (wpAny_pure ?_)))))
  show wpAny _ _ (match Builtin.Slice.sliceAdjust none (some (b : Int)) 1 (n : Int) with | (lo, hi) => pure (lo, (1 : Int), Builtin.Slice.slicePlaces lo hi 1)) _ _ s
  rw [show Builtin.Slice.sliceAdjust none (some (b : Int)) 1 (n : Int) = (((0 : Nat) : Int), (b : Int)) from by
    unfold Builtin.Slice.sliceAdjust
    have h1 : ¬ ((1 : Int) < 0) := by omega
    have h2 : ¬ ((b : Int) < 0) := by omega
    simp only [h1, h2, if_false]
    congr 1
    omega]
  show wpAny _ _ (pure (((0 : Nat) : Int), (1 : Int), Builtin.Slice.slicePlaces ((0 : Nat) : Int) (b : Int) 1)) _ _ s
  rw [places_ab 0 b (Nat.zero_le _)]
  exact wpAny_pure h
theorem getItem_tup {t sl : Addr} {items : Array Value} {a b : Nat} {Q : Value → Shared → Prop} (ht : IsTup s.heap t items) {vl vu : Value} (hs : s.heap.IsSliceOf sl vl vu .none)
    (hap : ∀ (prog : Program) (w : World) (A : Around) (E : Value → Shared → Prop) (Q : Int × Int × Nat → Shared → Prop), Q ((a : Int), 1, b - a) s → wpAny (model prog w) A (Builtin.Slice.sliceApplied (.ref sl) (pure (items.size : Int))) Q E s)
    (hb : b - a < items.size)
    {its : List Value} (hi : ((List.range (b - a)).filterMap fun (k : Nat) => items[((a : Int) + (k : Int) * 1).toNat]?) = its)
    (h : Q (.ref s.heap.objs.size) { s with heap := s.heap.push { cls := .type "tuple", data := .seq its.toArray } })
    (hsz : autoParam (its.length ≤ sizeLine) PySem.SB.add._auto_1) : wpAny (model prog w) A (getItem (.ref t) (.ref sl)) Q E s := by
  have hdrop : sizeOk (.seq its.toArray) := by
    show its.toArray.size ≤ sizeLine
    rw [List.size_toArray]; exact hsz
  obtain ⟨os, hos, hcs, hds⟩ := id hs
  have hTs : s.TypeIs (.ref sl) "slice" := ⟨os, hos, hcs⟩
  unfold getItem
  try with_reducible refine wpAny_holding ?_
  first | refine wpAny_bind (wpAny_pure ?_) | skip
  refine wpAny_bind (wpAny_sequenceKey ht.typeIs (by decide) ?_)
  refine wpAny_bind (wpAny_callSpecial?_slot (name := Str.ofString "__getitem__") ht.typeIs slot_tuple_getitem
    (wpAny_call_entry slot_tuple_getitem ht.typeIs entry_tuple_getitem ?_ (args_tuple_getitem _ _)))
  show wpAny _ _ (Builtin.Tuple.tupleItemsOf (.ref t) >>= _) _ _ s
  refine wpAny_bind (tupleItemsOf_ ht ?_)
  refine wpAny_bind (wpAny_typeOf hTs ?_)
  rw [if_pos (by decide)]
  refine wpAny_bind (hap _ _ _ _ _ ?_)
  have hno : ¬ (((a : Int) == 0 && (1 : Int) == 1 && (b - a) == items.size) = true) := by
    have : ((b - a) == items.size) = false := by rw [beq_eq_false_iff_ne]; omega
    rw [this]; simp
  show wpAny _ _ (if ((a : Int) == 0 && (1 : Int) == 1 && (b - a) == items.size) = true then _ else _) _ _ s
  rw [if_neg hno, hi]
  first
    | exact wpAny_bind (m := Builtin.Tuple.tupleExact _) (wpAny_newObj_type (wpAny_pure ⟨_, rfl, wpAny_pure h⟩) hdrop)
    | exact wpAny_bind (m := Builtin.Tuple.tupleExact _) (wpAny_newObj_type (wpAny_bind (wpAny_pure (wpAny_pure ⟨_, rfl, wpAny_pure h⟩))) hdrop)
    | exact wpAny_bind (wpAny_bind (m := Builtin.Tuple.tupleExact _) (wpAny_newObj_type (wpAny_pure (wpAny_pure ⟨_, rfl, wpAny_pure h⟩)) hdrop))
    | exact wpAny_bind (wpAny_bind (m := Builtin.Tuple.tupleExact _) (wpAny_newObj_type (wpAny_pure ⟨_, rfl, wpAny_pure h⟩) hdrop))
end
section
variable {prog : Program} {w : World} {A : Around} {E : Value → Shared → Prop} {s : Shared} {h₀ : Heap} {L : Addr} {m : Str → Option Value} {news : List (Addr × Obj)} {value slice : PySem.Expr} {t : Addr} {items : Array Value} {a b : Nat} {u v : Tok} {Q : Value → Shared → Prop} {its : List Value}
theorem tup_to (F : Fr h₀ L s.heap m) (N : News h₀ L s.heap news) (ht : IsTup s.heap t items) (hb : b < items.size)
    (hi : ((List.range b).filterMap fun (k : Nat) => items[k]?) = its)
    (h : ∀ D h', Fr h₀ L h' m → News h₀ L h' ((D, { cls := .type "tuple", data := .seq its.toArray }) :: news) → (∀ p ∈ news, p.1 < D) → Q (.ref D) { s with heap := h' })
    (hs : subscripted slice false (.ref t) (.ref s.heap.objs.size) = operate [.ref s.heap.objs.size, .ref t] (getItem (.ref t) (.ref s.heap.objs.size)))
    (hg : ∀ r, letTemporaryGo value (.ref t) r = pure ())
    (hsz : its.length ≤ sizeLine) :
    wpAny (model prog w) A (subscriptTail value slice (.ref t) (.ref s.heap.objs.size)) Q E { s with heap := s.heap.push { cls := .type "slice", data := .fields #[.none, .int b v, .none] } } := by
  have ht' : IsTup (s.heap.push { cls := .type "slice", data := .fields #[.none, .int b v, .none] }) t items := ht.keeps fun _ _ e => Heap.get?_push_of_some _ e
  refine subscriptTail_ops (s := { s with heap := s.heap.push { cls := .type "slice", data := .fields #[.none, .int b v, .none] } }) ht'.typeIs slot_tuple_getitem.lookup
    (getItem_tup (a := 0) (b := b) (its := its) ht' (Heap.IsSliceOf.new ..) (fun _ _ _ _ _ hq => applied_to (Heap.IsSliceOf.new ..) (Nat.le_of_lt hb) hq) hb ?_ ?_ hsz) hs hg
  · rw [← hi, Nat.sub_zero]
    have e : (fun (k : Nat) => items[(((0 : Nat) : Int) + (k : Int) * 1).toNat]?) = fun k => items[k]? := by
      funext k
      have : (((0 : Nat) : Int) + (k : Int) * 1).toNat = k := by omega
      rw [this]
    rw [e]
  · have N1 := News.push (F.push { cls := .type "slice", data := .fields #[.none, .int b v, .none] }) (N.grown fun _ _ e => Heap.get?_push_of_some _ e) { cls := .type "tuple", data := .seq its.toArray }
    rw [Heap.size_push] at N1
    show Q (.ref (s.heap.push _).objs.size) _
    rw [Heap.size_push]
    exact h _ _ ((F.push _).push _) N1 fun p hp => Nat.lt_succ_of_lt (Heap.lt_size (N p hp).1)
end
end Mine.Internal

end
section
open PySem PySem.W PyProof.Rows PySem.Calls PySem.Spec PySem.Builtin._datetime
set_option maxRecDepth 100000
set_option linter.unusedVariables false
namespace Mine.Internal
theorem before_T : ∀ k : Nat, k < 13 → 1 ≤ k → (([0, 31, 59, 90, 120, 151, 181, 212, 243, 273, 304, 334] : List Int)[((k : Int) - 1).toNat]?).getD 0 = dbmT k := by decide +kernel
theorem ordinal_eq {y m d : Int} (h : 1 ≤ m ∧ m ≤ 12) : toOrdinal y m d = first y m + d - 1 := by
  have hl : Builtin.Time.timeIsLeap y = leap y := by
    unfold Builtin.Time.timeIsLeap leap
    rfl
  have e : Builtin.Time.timeDaysBefore (leap y) m = dbm y m := by
    rw [dbm_eq h]
    unfold Builtin.Time.timeDaysBefore
    rw [monthN (P := fun m => (([0, 31, 59, 90, 120, 151, 181, 212, 243, 273, 304, 334] : List Int)[(m - 1).toNat]?).getD 0 = dbmT m) before_T h]
    by_cases c : 2 < m
    · cases q : leap y with
      | true => rw [lp_true q]; simp [c]
      | false => rw [lp_false q]; simp
    · simp [c]
  unfold toOrdinal
  rw [hl, first_eq h]
  dsimp only
  rw [e]
  unfold dby
  omega
structure MainF (n y m d q y0 : Int) : Prop where
  mk ::
  hk : 0 ≤ n.fmod 7 ∧ n.fmod 7 ≤ 6
  hm : 1 ≤ m ∧ m ≤ 12
  hyy : 0 ≤ y.fmod 100 ∧ y.fmod 100 ≤ 99
  hd : 1 ≤ d ∧ d ≤ 31
  hY : 1969 ≤ cent (y.fmod 100) ∧ cent (y.fmod 100) ≤ 2068
  hq : 0 ≤ q ∧ q < 4
  h0 : y0 = cent (y.fmod 100) - 200 + q * 100
  hv : Valid y0 m d
  hw : (first y0 m + d - 1).fmod 7 = (3 * n.fmod 7).fdiv 3
  ho : ∀ i : Nat, i < 4 → (i : Int) ≠ q → (first (cent (y.fmod 100) - 200 + (i : Int) * 100) m + d - 1).fmod 7 ≠ (3 * n.fmod 7).fdiv 3
  due : first y0 m + d - 1 = 645750 + (n - 645750).fmod 146097
  yr : y = y0 + (n - (645750 + (n - 645750).fmod 146097)).fdiv 146097 * 400
structure ClockF (c : Int) : Prop where
  mk ::
  hh : 0 ≤ c.fdiv 3600 ∧ c.fdiv 3600 ≤ 23
  hmi : 0 ≤ (c.fdiv 60).fmod 60 ∧ (c.fdiv 60).fmod 60 ≤ 59
  hs : 0 ≤ c.fmod 60 ∧ c.fmod 60 ≤ 59
  sum : c.fdiv 3600 * 3600 + (c.fdiv 60).fmod 60 * 60 + c.fmod 60 = c
theorem clock_facts {c : Int} (h : 0 ≤ c ∧ c < 86400) : ClockF c := by
  have e1 := fd3600 c
  have e2 := fd60 c
  have e3 := fm60 c
  have e4 := fm60 (c.fdiv 60)
  rw [e2] at e4
  refine ⟨by rw [e1]; omega, by rw [e2, e4]; omega, by rw [e3]; omega, ?_⟩
  rw [e1, e2, e4, e3]
  omega
section
variable {prog : Program} {w : World} {A : Around} {E : Value → Shared → Prop} {s : Shared} {a b : Addr} {y m d h mi sc : Int} {K : Frag} {h₀ : Heap} {L : Addr} {mp : Str → Option Value} {news : List (Addr × Obj)}
structure ZeroK (K : Frag) : Prop where
  mk ::
  out : ∃ o2, K.lookup 2 = some o2 ∧ nsLook (Str.ofString "datetime.timedelta.zero") o2 = pure (some (.ref 49))
end
section
variable {prog : Program} {w : World} {K : Frag} {d : Nat} {f : Addr} {args : List (Addr × Obj)} {vs : List Value} {p : Program} {loose : List Str} {mean : ExcName → Option Value} {mg mb : Str → Option Value} {dp un : Nat} {gd : Option (List Code)} {cn : Str} {cs : Scope} {a : Addr} {ccd : Value} {cl : List (Str × Addr)} {outer : List Env} {A₀ : Around} {base h₀ : Heap} {L : Addr} {m : Str → Option Value} {s : Shared} {Q E : Value → Shared → Prop} {news : List (Addr × Obj)}
end
section
variable {prog : Program} {w : World} {A : Around} {E : Value → Shared → Prop} {s : Shared}
theorem applied_a {sl : Addr} {a n : Nat} {u : Tok} {Q : Int × Int × Nat → Shared → Prop} (hs : s.heap.IsSliceOf sl (.int a u) .none .none) (ha : a ≤ n) (h : Q ((a : Int), 1, n - a) s) :
    wpAny (model prog w) A (Builtin.Slice.sliceApplied (.ref sl) (pure (n : Int))) Q E s := by
  obtain ⟨os, hos, hcs, hds⟩ := id hs
  unfold Builtin.Slice.sliceApplied Builtin.Slice.sliceFields
  refine wpAny_bind (wpAny_bind (wpAny_field hos hds (x := .int a u) rfl (wpAny_bind (wpAny_field hos hds (x := .none) rfl (wpAny_bind (wpAny_field hos hds (x := .none) rfl (wpAny_pure ?_)))))))
  refine wpAny_bind (slicePart_none ?_)
  show wpAny _ _ (if ((1 : Int) == 0) = true then _ else _) _ _ s
  rw [if_neg (by decide)]
  refine wpAny_bind (slicePart_int (wpAny_bind (slicePart_none (wpAny_bind (wpAny_pure ?_)))))
  show wpAny _ _ (match Builtin.Slice.sliceAdjust (some (a : Int)) none 1 (n : Int) with | (lo, hi) => pure (lo, (1 : Int), Builtin.Slice.slicePlaces lo hi 1)) _ _ s
  rw [show Builtin.Slice.sliceAdjust (some (a : Int)) none 1 (n : Int) = ((a : Int), (n : Int)) from by
    unfold Builtin.Slice.sliceAdjust
    have h1 : ¬ ((1 : Int) < 0) := by omega
    have h2 : ¬ ((a : Int) < 0) := by omega
    simp only [h1, h2, if_false]
    congr 1 <;> omega]
  show wpAny _ _ (pure ((a : Int), (1 : Int), Builtin.Slice.slicePlaces (a : Int) (n : Int) 1)) _ _ s
  rw [places_ab a n ha]
  exact wpAny_pure h
variable {h₀ : Heap} {L : Addr} {m : Str → Option Value} {news : List (Addr × Obj)} {value slice : PySem.Expr} {t : Addr} {items : Array Value} {a : Nat} {u v : Tok} {Q : Value → Shared → Prop} {its : List Value}
theorem tup_a (F : Fr h₀ L s.heap m) (N : News h₀ L s.heap news) (ht : IsTup s.heap t items) (ha : a ≤ items.size) (hb' : items.size - a < items.size)
    (hi : ((List.range (items.size - a)).filterMap fun (k : Nat) => items[a + k]?) = its)
    (h : ∀ D h', Fr h₀ L h' m → News h₀ L h' ((D, { cls := .type "tuple", data := .seq its.toArray }) :: news) → (∀ p ∈ news, p.1 < D) → Q (.ref D) { s with heap := h' })
    (hs : subscripted slice false (.ref t) (.ref s.heap.objs.size) = operate [.ref s.heap.objs.size, .ref t] (getItem (.ref t) (.ref s.heap.objs.size)))
    (hg : ∀ r, letTemporaryGo value (.ref t) r = pure ())
    (hsz : its.length ≤ sizeLine) :
    wpAny (model prog w) A (subscriptTail value slice (.ref t) (.ref s.heap.objs.size)) Q E { s with heap := s.heap.push { cls := .type "slice", data := .fields #[.int a u, .none, .none] } } := by
  have ht' : IsTup (s.heap.push { cls := .type "slice", data := .fields #[.int a u, .none, .none] }) t items := ht.keeps fun _ _ e => Heap.get?_push_of_some _ e
  refine subscriptTail_ops (s := { s with heap := s.heap.push { cls := .type "slice", data := .fields #[.int a u, .none, .none] } }) ht'.typeIs slot_tuple_getitem.lookup
    (getItem_tup (a := a) (b := items.size) (its := its) ht' (Heap.IsSliceOf.new ..) (fun _ _ _ _ _ hq => applied_a (Heap.IsSliceOf.new ..) ha hq) hb' ?_ ?_ hsz) hs hg
  · rw [← hi]
    have e : (fun (k : Nat) => items[((a : Int) + (k : Int) * 1).toNat]?) = fun k => items[a + k]? := by
      funext k
      have : ((a : Int) + (k : Int) * 1).toNat = a + k := by omega
      rw [this]
    rw [e]
  · have N1 := News.push (F.push { cls := .type "slice", data := .fields #[.int a u, .none, .none] }) (N.grown fun _ _ e => Heap.get?_push_of_some _ e) { cls := .type "tuple", data := .seq its.toArray }
    rw [Heap.size_push] at N1
    show Q (.ref (s.heap.push _).objs.size) _
    rw [Heap.size_push]
    exact h _ _ ((F.push _).push _) N1 fun p hp => Nat.lt_succ_of_lt (Heap.lt_size (N p hp).1)
end
end Mine.Internal

end
section
open PySem PySem.W PyProof.Rows PySem.Calls PySem.Spec
set_option maxRecDepth 100000
namespace Mine.Internal
theorem day_up : ∀ k : Nat, ∃ y m d : Int, Valid y m d ∧ first y m + d - 1 = 1 + (k : Int)
  | 0 => ⟨1, 1, 1, ⟨by decide, by decide, by decide, by decide⟩, by decide⟩
  | k + 1 => by
    obtain ⟨y, m, d, v, e⟩ := day_up k
    have hm : 1 ≤ m ∧ m ≤ 12 := ⟨v.m1, v.m2⟩
    have hn := first_next (y := y) hm
    have v3 := v.d1
    have v4 := v.d2
    by_cases c : d + 1 ≤ dim y m
    · exact ⟨y, m, d + 1, ⟨v.m1, v.m2, by omega, c⟩, by omega⟩
    · by_cases c2 : m < 12
      · exact ⟨y, m + 1, 1, ⟨by omega, by omega, by decide, Int.le_trans (by decide) (dim_rng ⟨by omega, by omega⟩).1⟩, by omega⟩
      · have hm12 : m = 12 := by omega
        subst hm12
        refine ⟨y + 1, 1, 1, ⟨by decide, by decide, by decide, Int.le_trans (by decide) (dim_rng (by decide)).1⟩, ?_⟩
        have e2 : first (y + 1) 1 = first y (12 + 1) := by
          rw [first_K, first_K]
          congr 1
          omega
        omega
theorem day_ex {n : Int} (h : 1 ≤ n) : ∃ p : Int × Int × Int, Valid p.1 p.2.1 p.2.2 ∧ first p.1 p.2.1 + p.2.2 - 1 = n := by
  obtain ⟨y, m, d, v, e⟩ := day_up (n - 1).toNat
  exact ⟨(y, m, d), v, by show first y m + d - 1 = n; omega⟩
noncomputable def dateOf (n : Int) : Int × Int × Int := Classical.epsilon fun p => Valid p.1 p.2.1 p.2.2 ∧ first p.1 p.2.1 + p.2.2 - 1 = n
theorem dateOf_spec {n : Int} (h : 1 ≤ n) : Valid (dateOf n).1 (dateOf n).2.1 (dateOf n).2.2 ∧ first (dateOf n).1 (dateOf n).2.1 + (dateOf n).2.2 - 1 = n := Classical.epsilon_spec (day_ex h)
noncomputable def fY (x : Int) : Int := (dateOf (x.fdiv 86400 + 1)).1
noncomputable def fM (x : Int) : Int := (dateOf (x.fdiv 86400 + 1)).2.1
noncomputable def fD (x : Int) : Int := (dateOf (x.fdiv 86400 + 1)).2.2
noncomputable def fH (x : Int) : Int := (x.fmod 86400).fdiv 3600
noncomputable def fI (x : Int) : Int := ((x.fmod 86400).fdiv 60).fmod 60
noncomputable def fS (x : Int) : Int := (x.fmod 86400).fmod 60
structure Mo (x : Int) : Prop where
  lo : 3155311260 ≤ x
  hi : x < 315506723940
structure FF (x : Int) : Prop where
  v : Valid (fY x) (fM x) (fD x)
  hm : 1 ≤ fM x ∧ fM x ≤ 12
  hy : 100 ≤ fY x ∧ fY x ≤ 9999
  hd : 1 ≤ fD x ∧ fD x ≤ 31
  hh : 0 ≤ fH x ∧ fH x ≤ 23
  hi : 0 ≤ fI x ∧ fI x ≤ 59
  hs : 0 ≤ fS x ∧ fS x ≤ 59
  day : first (fY x) (fM x) + fD x - 1 = x.fdiv 86400 + 1
  sum : (first (fY x) (fM x) + fD x - 1 - 1) * 86400 + fH x * 3600 + fI x * 60 + fS x = x
theorem ff {x : Int} (h : Mo x) : FF x := by
  have e1 := fd86400 x
  have e2 := fm86400 x
  have hn : 1 ≤ x.fdiv 86400 + 1 := by have := h.lo; omega
  obtain ⟨v, f⟩ := dateOf_spec hn
  have hm : 1 ≤ (dateOf (x.fdiv 86400 + 1)).2.1 ∧ (dateOf (x.fdiv 86400 + 1)).2.1 ≤ 12 := ⟨v.m1, v.m2⟩
  have hdm := dim_rng (y := (dateOf (x.fdiv 86400 + 1)).1) hm
  have hc := clock_facts (c := x.fmod 86400) (by omega)
  have hlo := h.lo
  have hhi := h.hi
  refine ⟨v, hm, ?_, ⟨v.d1, Int.le_trans v.d2 hdm.2⟩, hc.hh, hc.hmi, hc.hs, f, ?_⟩
  · show 100 ≤ (dateOf (x.fdiv 86400 + 1)).1 ∧ (dateOf (x.fdiv 86400 + 1)).1 ≤ 9999
    generalize hp : dateOf (x.fdiv 86400 + 1) = p at v f hm
    constructor
    · refine Int.not_lt.mp fun c => ?_
      have := date_lt v (y' := 100) (m' := 1) (d' := 1) ⟨by decide, by decide, by decide, by decide⟩ (by omega)
      have e : first 100 1 = 36160 := by decide
      omega
    · refine Int.not_lt.mp fun c => ?_
      have := date_lt (y := 9999) (m := 12) (d := 31) ⟨by decide, by decide, by decide, by decide⟩ v (by omega)
      have e : first 9999 12 = 3652029 := by decide
      omega
  · have := hc.sum
    have e3 : first (fY x) (fM x) + fD x - 1 = x.fdiv 86400 + 1 := f
    have e4 : fH x * 3600 + fI x * 60 + fS x = x.fmod 86400 := hc.sum
    rw [e3]
    omega
noncomputable def stampM (x : Int) : List Nat := stampL (fY x) (fM x) (fD x) (fH x) (fI x) (fS x)
theorem stampM_len (x : Int) : (stampM x).length = 20 := rfl

theorem lt_app : ∀ {a b : List Nat} (x y : List Nat), a.length = b.length → a < b → a ++ x < b ++ y
  | [], [], _, _, _, h => absurd h (List.not_lt_nil _)
  | c :: a, d :: b, x, y, hl, h => by
    show c :: (a ++ x) < d :: (b ++ y)
    rw [List.cons_lt_cons_iff] at h ⊢
    rcases h with h | ⟨h1, h2⟩
    · exact .inl h
    · exact .inr ⟨h1, lt_app x y (Nat.succ.inj hl) h2⟩
theorem lt_same : ∀ (a : List Nat) {x y : List Nat}, x < y → a ++ x < a ++ y
  | [], _, _, h => h
  | c :: a, x, y, h => by
    show c :: (a ++ x) < c :: (a ++ y)
    rw [List.cons_lt_cons_iff]
    exact .inr ⟨rfl, lt_same a h⟩
theorem fig_lt {a b : Int} (h : a % 10 < b % 10) : fig a < fig b := by unfold fig; omega
theorem fig_lo_lt {a b : Int} (ha : 0 ≤ a) (hb : b < 10) (h : a < b) : [fig a] < [fig b] := by
  rw [List.cons_lt_cons_iff]
  exact .inl (fig_lt (by rw [Int.emod_eq_of_lt ha (Int.lt_trans h hb), Int.emod_eq_of_lt (Int.le_trans ha (Int.le_of_lt h)) hb]; exact h))
theorem dig_lt {a b : Int} (c : a / 10 = b / 10) (h : a < b) : a % 10 < b % 10 := by
  have e := Int.mul_ediv_add_emod a 10
  rw [← Int.mul_ediv_add_emod b 10, ← e, c] at h
  exact Int.lt_of_add_lt_add_left h
theorem snoc_lt {L : Int → List Nat} {q : Int} (hl : ∀ a b, (L a).length = (L b).length) (ih : ∀ {a b : Int}, 0 ≤ a → b < q → a < b → L a < L b) {a b : Int} (ha : 0 ≤ a) (hb : b < q * 10) (h : a < b) : L (a / 10) ++ [fig a] < L (b / 10) ++ [fig b] := by
  rcases Int.lt_or_eq_of_le (Int.ediv_le_ediv (c := 10) (by decide) (Int.le_of_lt h)) with c | c
  · exact lt_app _ _ (hl _ _) (ih (Int.ediv_nonneg ha (by decide)) (Int.ediv_lt_of_lt_mul (by decide) hb) c)
  · rw [c]
    refine lt_same _ ?_
    rw [List.cons_lt_cons_iff]
    exact .inl (fig_lt (dig_lt c h))
theorem dg2_lt {a b : Int} (ha : 0 ≤ a) (hb : b < 100) (h : a < b) : dg2 a < dg2 b := snoc_lt (L := fun a => [fig a]) (q := 10) (fun _ _ => rfl) fig_lo_lt ha hb h
theorem dg3_lt {a b : Int} (ha : 0 ≤ a) (hb : b < 1000) (h : a < b) : [fig (a / 10 / 10), fig (a / 10), fig a] < [fig (b / 10 / 10), fig (b / 10), fig b] := snoc_lt (L := dg2) (q := 100) (fun _ _ => rfl) dg2_lt ha hb h
theorem dg4_eq (a : Int) : dg4 a = [fig (a / 10 / 10 / 10), fig (a / 10 / 10), fig (a / 10), fig a] := by
  have e : ∀ q : Int, a / 10 / q = a / (10 * q) := fun q => Int.ediv_ediv_of_nonneg (by decide)
  have e2 : a / 10 / 10 = a / 100 := e 10
  have e3 : a / 100 / 10 = a / 1000 := Int.ediv_ediv_of_nonneg (by decide)
  rw [e2, e3]
  rfl
theorem dg4_lt {a b : Int} (ha : 0 ≤ a) (hb : b < 10000) (h : a < b) : dg4 a < dg4 b := by
  rw [dg4_eq, dg4_eq]
  exact snoc_lt (L := fun a => [fig (a / 10 / 10), fig (a / 10), fig a]) (q := 1000) (fun _ _ => rfl) dg3_lt ha hb h
theorem lt_part {a b : List Nat} {x y : List Nat} (hl : a.length = b.length) (h : a < b ∨ (a = b ∧ x < y)) : a ++ x < b ++ y := by
  rcases h with h | ⟨rfl, h⟩
  · exact lt_app x y hl h
  · exact lt_same a h
theorem stampL_eq (y m d h mi sc : Int) : stampL y m d h mi sc = dg4 y ++ ([45] ++ (dg2 m ++ ([45] ++ (dg2 d ++ ([84] ++ (dg2 h ++ ([58] ++ (dg2 mi ++ ([58] ++ (dg2 sc ++ [90])))))))))) := rfl
theorem two_way {a b : Int} {x y : List Nat} (ha : 0 ≤ a) (hb : b < 100) (h : a < b ∨ (a = b ∧ x < y)) : dg2 a ++ x < dg2 b ++ y :=
  lt_part rfl (h.elim (fun h => .inl (dg2_lt ha hb h)) fun h => .inr ⟨by rw [h.1], h.2⟩)
theorem lex_lt {A B a b q : Int} (hq : 0 ≤ q) (ha : 0 ≤ a) (hb : b < q) (h : A * q + a < B * q + b) : A < B ∨ (A = B ∧ a < b) := by
  rcases Int.lt_trichotomy A B with c | c | c
  · exact .inl c
  · subst c
    exact .inr ⟨rfl, Int.lt_of_add_lt_add_left h⟩
  · have e : (B + 1) * q ≤ A * q := Int.mul_le_mul_of_nonneg_right c hq
    rw [Int.add_mul, Int.one_mul] at e
    exact absurd (Int.lt_of_le_of_lt (Int.le_add_of_nonneg_right ha) h) (Int.not_lt.mpr (Int.le_trans (Int.le_of_lt (Int.add_lt_add_left hb _)) e))
theorem date_lex {y m d y' m' d' : Int} (v : Valid y m d) (v' : Valid y' m' d') (h : ¬ (first y' m' + d' < first y m + d)) (hn : first y m + d ≠ first y' m' + d' ∨ (y, m, d) ≠ (y', m', d')) : y < y' ∨ (y = y' ∧ (m < m' ∨ (m = m' ∧ d < d'))) := by
  have hdate : ¬ (12 * y' + m' < 12 * y + m) := fun c => h (date_lt v' v c)
  have a1 := v.m1
  have a2 := v.m2
  have b1 := v'.m1
  have b2 := v'.m2
  clear v v'
  rcases Int.lt_trichotomy y y' with c | c | c
  · exact .inl c
  · subst c
    refine .inr ⟨rfl, ?_⟩
    rcases Int.lt_trichotomy m m' with c | c | c
    · exact .inl c
    · subst c
      refine .inr ⟨rfl, ?_⟩
      rcases Int.lt_trichotomy d d' with c | c | c
      · exact c
      · subst c
        exact absurd rfl (hn.elim id fun k => absurd rfl k)
      · exact absurd (Int.add_lt_add_left c _) h
    · exact absurd (Int.add_lt_add_left c _) hdate
  · exact absurd (show 12 * y' + m' < 12 * y + m by omega) hdate
theorem date_same {y m d y' m' d' : Int} (v : Valid y m d) (v' : Valid y' m' d') (h : first y m + d = first y' m' + d') : (y, m, d) = (y', m', d') := by
  refine Classical.byContradiction fun c => ?_
  have l : ∀ {a b : Int}, a = b → ¬ b < a := fun e k => Int.lt_irrefl _ (e ▸ k)
  have k1 := date_lex v v' (l h) (.inr c)
  have k2 := date_lex v' v (l h.symm) (.inr (Ne.symm c))
  rcases k1 with k1 | ⟨e1, k1⟩
  · rcases k2 with k2 | ⟨e2, -⟩
    · exact Int.lt_asymm k1 k2
    · exact Int.lt_irrefl _ (e2 ▸ k1)
  · subst e1
    rcases k2 with k2 | ⟨-, k2⟩
    · exact Int.lt_irrefl _ k2
    · rcases k1 with k1 | ⟨e1, k1⟩
      · rcases k2 with k2 | ⟨e2, -⟩
        · exact Int.lt_asymm k1 k2
        · exact Int.lt_irrefl _ (e2 ▸ k1)
      · subst e1
        rcases k2 with k2 | ⟨-, k2⟩
        · exact Int.lt_irrefl _ k2
        · exact Int.lt_asymm k1 k2
theorem nest_lt {D D' h h' i i' s s' : Int} (a1 : 0 ≤ h) (a2 : 0 ≤ i) (a3 : 0 ≤ s) (b1 : h' ≤ 23) (b2 : i' ≤ 59) (b3 : s' ≤ 59) (k : D * 86400 + (h * 3600 + (i * 60 + s)) < D' * 86400 + (h' * 3600 + (i' * 60 + s'))) : D < D' ∨ (D = D' ∧ (h < h' ∨ (h = h' ∧ (i < i' ∨ (i = i' ∧ s < s'))))) := by
  have c : 0 ≤ i * 60 + s := by omega
  have c' : i' * 60 + s' < 3600 := by omega
  have e : 0 ≤ h * 3600 + (i * 60 + s) := by omega
  have e' : h' * 3600 + (i' * 60 + s') < 86400 := by omega
  exact (lex_lt (by decide) e e' k).imp_right fun k => ⟨k.1, (lex_lt (by decide) c c' k.2).imp_right fun k => ⟨k.1, lex_lt (by decide) a3 (Int.lt_add_one_of_le b3) k.2⟩⟩
theorem sub2_lt {u v : Int} (h : u - 1 - 1 < v - 1 - 1) : u < v := Int.lt_of_sub_lt_sub_right (Int.lt_of_sub_lt_sub_right h)
theorem sub2_eq {u v : Int} (h : u - 1 - 1 = v - 1 - 1) : u = v := by omega
theorem stampM_key {x x' : Int} (a : FF x) (b : FF x') (h : x < x') : fY x < fY x' ∨ (fY x = fY x' ∧ (fM x < fM x' ∨ (fM x = fM x' ∧ (fD x < fD x' ∨ (fD x = fD x' ∧ (fH x < fH x' ∨ (fH x = fH x' ∧ (fI x < fI x' ∨ (fI x = fI x' ∧ fS x < fS x'))))))))) := by
  rw [← a.sum, ← b.sum, Int.add_assoc, Int.add_assoc, Int.add_assoc, Int.add_assoc] at h
  rcases nest_lt a.hh.1 a.hi.1 a.hs.1 b.hh.2 b.hi.2 b.hs.2 h with e | ⟨e, k⟩
  · have e := sub2_lt e
    exact (date_lex a.v b.v (Int.lt_asymm e) (.inl (Int.ne_of_lt e))).imp_right fun k => ⟨k.1, k.2.imp_right fun k => ⟨k.1, .inl k.2⟩⟩
  · have q := date_same a.v b.v (sub2_eq e)
    exact .inr ⟨congrArg (·.1) q, .inr ⟨congrArg (·.2.1) q, .inr ⟨congrArg (·.2.2) q, k⟩⟩⟩
theorem stampM_lt {x x' : Int} (hx : Mo x) (hx' : Mo x') (h : x < x') (r r' : List Nat) : stampM x ++ r < stampM x' ++ r' := by
  refine lt_app _ _ rfl ?_
  have a := ff hx
  have b := ff hx'
  have nn : ∀ {u : Int}, 1 ≤ u → 0 ≤ u := fun k => Int.le_trans (by decide) k
  have nh : ∀ {u : Int}, 100 ≤ u → 0 ≤ u := fun k => Int.le_trans (by decide) k
  unfold stampM
  rw [stampL_eq, stampL_eq]
  have k := stampM_key a b h
  refine lt_part rfl (k.imp (dg4_lt (nh a.hy.1) (Int.lt_of_le_of_lt b.hy.2 (by decide))) fun k => ⟨congrArg dg4 k.1, lt_same _ (two_way (nn a.hm.1) (Int.lt_of_le_of_lt b.hm.2 (by decide)) ?_)⟩)
  refine k.2.imp_right fun k => ⟨k.1, lt_same _ (two_way (nn a.hd.1) (Int.lt_of_le_of_lt b.hd.2 (by decide)) ?_)⟩
  refine k.2.imp_right fun k => ⟨k.1, lt_same _ (two_way a.hh.1 (Int.lt_of_le_of_lt b.hh.2 (by decide)) ?_)⟩
  refine k.2.imp_right fun k => ⟨k.1, lt_same _ (two_way a.hi.1 (Int.lt_of_le_of_lt b.hi.2 (by decide)) ?_)⟩
  exact k.2.imp_right fun k => ⟨k.1, lt_same _ (two_way a.hs.1 (Int.lt_of_le_of_lt b.hs.2 (by decide)) (.inl k.2))⟩
theorem stampM_inj {x x' : Int} (hx : Mo x) (hx' : Mo x') (h : stampM x = stampM x') : x = x' := by
  have irr : ∀ l : List Nat, ¬ l < l := fun l => by
    have := List.lt_irrefl (α := Nat) l
    exact this
  rcases Int.lt_trichotomy x x' with c | c | c
  · have := stampM_lt hx hx' c [] []
    rw [h] at this
    exact absurd this (irr _)
  · exact c
  · have := stampM_lt hx' hx c [] []
    rw [h] at this
    exact absurd this (irr _)
theorem perm_map {α β : Type} (f : α → β) {l r : List β} (h : l.Perm r) : ∀ {ps : List α}, ps.map f = r → ∃ qs : List α, qs.Perm ps ∧ l = qs.map f := by
  induction h with
  | nil => intro ps e; exact ⟨ps, .refl _, e.symm⟩
  | cons x _ ih =>
    intro ps e
    cases ps with
    | nil => cases e
    | cons p ps =>
      rw [List.map_cons] at e
      obtain ⟨e1, e2⟩ := List.cons.inj e
      obtain ⟨qs, hq, e3⟩ := ih e2
      exact ⟨p :: qs, hq.cons p, by rw [List.map_cons, e1, e3]⟩
  | swap x y l =>
    intro ps e
    match ps, e with
    | p :: q :: ps, e =>
      rw [List.map_cons, List.map_cons] at e
      obtain ⟨e1, e2⟩ := List.cons.inj e
      obtain ⟨e3, e4⟩ := List.cons.inj e2
      exact ⟨q :: p :: ps, .swap .., by rw [List.map_cons, List.map_cons, e1, e3, e4]⟩
  | trans _ _ ih1 ih2 =>
    intro ps e
    obtain ⟨qs, hq, e2⟩ := ih2 e
    obtain ⟨rs, hr, e3⟩ := ih1 e2.symm
    exact ⟨rs, hr.trans hq, e3⟩
theorem rising_le : ∀ (qs : List (Int × List Nat)) (p : Int × List Nat), (∀ q ∈ p :: qs, Mo q.1) → risingS (tx (stampM p.1 ++ p.2)) (qs.map fun p => tx (stampM p.1 ++ p.2)) = true → ((p :: qs).map (·.1)).Pairwise (· ≤ ·)
  | [], p, _, _ => List.pairwise_singleton _ _
  | q :: qs, p, hM, h => by
    have h' : (!PySem.Spec.ltCps (tx (stampM q.1 ++ q.2)).cps.toList (tx (stampM p.1 ++ p.2)).cps.toList && risingS (tx (stampM q.1 ++ q.2)) (qs.map fun p => tx (stampM p.1 ++ p.2))) = true := h
    rw [Bool.and_eq_true, Bool.not_eq_true', ltCps_eq, decide_eq_false_iff_not, tx_toList, tx_toList] at h'
    have le : p.1 ≤ q.1 := Int.not_lt.mp fun c => h'.1 (stampM_lt (hM q (.tail _ (.head _))) (hM p (.head _)) c _ _)
    have ih := rising_le qs q (fun r hr => hM r (.tail _ hr)) h'.2
    rw [List.map_cons, List.pairwise_cons]
    refine ⟨fun x hx => ?_, ih⟩
    rw [List.map_cons] at hx ih
    rcases List.mem_cons.mp hx with e | hx
    · rw [e]; exact le
    · exact Int.le_trans le ((List.pairwise_cons.mp ih).1 x hx)
theorem sort_page {ps : List (Int × List Nat)} {ss : List PySem.Str} {ns : List Int} (h1 : ss.Perm (ps.map fun p => tx (stampM p.1 ++ p.2))) (h2 : sortedS ss = true) (h3 : ns.Perm (ps.map (·.1))) (h4 : ns.Pairwise (· ≤ ·)) (hM : ∀ p ∈ ps, Mo p.1) :
    ∃ qs : List (Int × List Nat), qs.Perm ps ∧ ss = qs.map (fun p => tx (stampM p.1 ++ p.2)) ∧ ns = qs.map (·.1) := by
  obtain ⟨qs, hq, rfl⟩ := perm_map _ h1 rfl
  refine ⟨qs, hq, rfl, ?_⟩
  have hp : ns.Perm (qs.map (·.1)) := h3.trans (hq.map _).symm
  have hs : (qs.map (·.1)).Pairwise (· ≤ ·) := by
    match qs, hq, h2 with
    | [], _, _ => exact .nil
    | q :: qs, hq, h2 => exact rising_le qs q (fun r hr => hM r (hq.mem_iff.mp hr)) h2
  exact ksm_same hp h4 hs
inductive Tup6 (x : Int) (o : Obj) : Prop
  | mk (t1 t2 t3 t4 t5 t6 : Tok) : o = ({ cls := .type "tuple", data := .seq #[.int (fY x) t1, .int (fM x) t2, .int (fD x) t3, .int (fH x) t4, .int (fI x) t5, .int (fS x) t6] } : Obj) → Tup6 x o
end Mine.Internal

end
section
open PySem PySem.W PyProof.Rows PySem.Calls PySem.Spec
set_option maxRecDepth 100000
namespace Mine.Internal
section
variable {prog : Program} {w : World} {A : Around} {E : Value → Shared → Prop} {s : Shared} {env : Env}
theorem test_int {x : Str} {p1 p2 p3 p4 p5 : Pos} {m mg mb : Str → Option Value} {n : Int} {t : Tok} {Q : Bool → Shared → Prop} (hk : env.scope.kind = .function) (hx : env.kindOf x = some .local) (hT : env.kindOf (Str.ofString "type") = some .globalImplicit) (hI : env.kindOf (Str.ofString "int") = some .globalImplicit)
    (hn : s.heap.Ns env.locals m) (hv : m x = some (.int n t)) (hg : s.heap.Ns env.globals mg) (hb : s.heap.Ns env.builtins mb) (g1 : mg (Str.ofString "type") = none) (g2 : mg (Str.ofString "int") = none) (b1 : mb (Str.ofString "type") = some (.type "type")) (b2 : mb (Str.ofString "int") = some (.type "int"))
    (hd : (x == ("__debug__" : Str)) = false) (h : Q false s) :
    wpAny (model prog w) A (isTrue (.Compare (.Call (.Name (Str.ofString "type") p1) [.Name x p2] [] p3) [.IsNot] [.Name (Str.ofString "int") p4] p5) env (eval (.Compare (.Call (.Name (Str.ofString "type") p1) [.Name x p2] [] p3) [.IsNot] [.Name (Str.ofString "int") p4] p5) env)) Q E s := by
  refine wpAny_isTrue_Compare1 ?_
  refine Call_Name1 ?_
  refine Calls.Name_function_global hk hT (Calls.loadGlobal_builtin hg g1 hb b1 ?_)
  refine PySem.callWith_type1 (wpAny_Name (wpAny_loadName_local hk hx hn hv ?_) hd)
  refine call_type_of (Tx := "int") rfl (by decide +kernel) ?_
  refine Calls.Name_function_global hk hI (Calls.loadGlobal_builtin hg g2 hb b2 ?_)
  refine wpAny_isNot_self rfl ?_
  exact wpAny_truthy_bool h

noncomputable def AllInt : List Value → Prop
  | [] => True
  | v :: r => (∃ n t, v = .int n t) ∧ AllInt r
theorem AllInt.at : ∀ {l : List Value}, AllInt l → ∀ v ∈ l, ∃ n t, v = .int n t
  | [], _, _, h => nomatch h
  | _ :: _, h, v, hv => by
    rcases List.mem_cons.mp hv with rfl | hv
    · exact h.1
    · exact AllInt.at h.2 v hv
noncomputable def CompI (h₀ : Heap) (L : Addr) (m : Str → Option Value) (Q : Value → Shared → Prop) (xv : Value) (s₁ : Shared) : Prop :=
  ∃ (a : Addr) (its : List Value) (news : List (Addr × Obj)), xv = .ref a ∧ Fr h₀ L s₁.heap m ∧ News h₀ L s₁.heap news ∧ (a, ({ cls := .type "tuple", data := .seq its.toArray } : Obj)) ∈ news ∧ AllInt its ∧ its.length ≤ sizeLine ∧
    ∀ D n0 h' tk, Fr h₀ L h' m → News h₀ L h' ((D, PySem.W.listOf #[] n0) :: news) → AllNe D news → Q (.ref D) { s₁ with heap := h', toks := tk }
theorem CompI.intro {h₀ : Heap} {L a : Addr} {m : Str → Option Value} {Q : Value → Shared → Prop} {s₁ : Shared} {its : List Value} {news : List (Addr × Obj)} (F : Fr h₀ L s₁.heap m) (N : News h₀ L s₁.heap news) (hm : (a, ({ cls := .type "tuple", data := .seq its.toArray } : Obj)) ∈ news) (hi : AllInt its) (hz : its.length ≤ sizeLine)
    (k : ∀ D n0 h' tk, Fr h₀ L h' m → News h₀ L h' ((D, PySem.W.listOf #[] n0) :: news) → AllNe D news → Q (.ref D) { s₁ with heap := h', toks := tk }) : CompI h₀ L m Q (.ref a) s₁ := ⟨a, its, news, rfl, F, N, hm, hi, hz, k⟩
variable {K : Frag} {h₀ : Heap} {L a : Addr} {m mg mb : Str → Option Value} {cn : Str} {cs : Scope} {ccd : Value} {p : Program} {loose : List Str} {mean : ExcName → Option Value}
end
end Mine.Internal
namespace Mine.Internal
section
variable {v1 v2 v3 v4 v5 v6 v7 v8 v9 v10 : PySem.Value}
theorem pick10_9 : ((List.range 9).filterMap fun (k : Nat) => #[v1, v2, v3, v4, v5, v6, v7, v8, v9, v10][k]?) = [v1, v2, v3, v4, v5, v6, v7, v8, v9] := rfl
end
end Mine.Internal
namespace Mine.Internal
section
variable {v1 v2 v3 v4 v5 v6 v7 v8 v9 v10 : PySem.Value}
theorem cat33 : (#[v1, v2, v3] : Array PySem.Value).toList ++ (#[v4, v5, v6] : Array PySem.Value).toList = [v1, v2, v3, v4, v5, v6] := rfl
end
end Mine.Internal

end
section
open PySem PySem.W PyProof.Rows PySem.Calls PySem.Spec
open PySem.Builtin PySem.Builtin.Str PySem.NumText
set_option maxRecDepth 100000
namespace Mine.Internal
theorem words_Fmt1_0 : True := by
  k_with_none
  w_top off
  k_with "fmt:go1" => ((
  apply fmt_run1
  intro _ _ _ _ _ _ _
  unfold Builtin.Str.percentFormat
  refine wpAny_bind (wpAny_isInstance (typeIs_int _ _ _) F.sub_int_tuple ?_)
  refine wpAny_bind (wpAny_of_eq (a := none) rfl ?_)
  refine wpAny_bind (wpAny_of_eq (KPc.fills _ _) ?_)
  kpc_if
  refine wpAny_bind (wpAny_pure ?_)
  refine wpAny_bind ?_
  rw [KPc.range_list]
  refine fmt_start ?_
  intro _ _))
  k_with "fmt:lit" => ((
  refine KPc.turn ?_
  kpc_check
  (repeat kpc_if)
  refine wpAny_pure ?_
  refine fmt_add 40 (by kpc_g) rfl (by decide) (by kpc_obj) ?_
  intro _ _))
  k_with "fmt:num" => ((
  refine KPc.turn ?_
  kpc_check
  (repeat kpc_if)
  refine wpAny_bind ?_
  refine wpAny_holding ?_
  (repeat kpc_if)
  refine wpAny_bind (wpAny_of_eq (a := _) rfl ?_)
  (repeat kpc_if)
  refine wpAny_bind (wpAny_mkInt ?_)
  refine wpAny_bind (call_gives F.slot_int_repr (typeIs_int _ _ _) F.entry_int_repr (F.args_int_repr_1 _) (gives_int_repr _ _ (KPt.hd2 (by kpt_hd))) ⟨int_text_fits (KPt.hd2 (by kpt_hd)), ?_⟩)
  refine wpAny_bind (wpAny_of_eq (a := some _) rfl ?_)
  refine wpAny_pure ?_))
  k_with "fmt:d" => ((
  walk_at "fmt:num"
  refine fmt_pad (k := fun x o => pure (ForInStep.yield (_, Writer.add _ ⟨x.toArray⟩ o, _))) (pad0 rfl (by omega) (by omega) rfl) rfl ?_
  refine wpAny_pure ?_
  refine fmt_add 4 (by kpc_g) rfl (dgs_len _) (KPc.obj_none rfl) ?_
  intro _ _))
  k_with "fmt:end" => ((
  refine KPc.turn ?_
  kpc_check
  (repeat kpc_if)
  refine wpAny_pure ?_
  kpc_if
  refine KPc.finish_ok (by kpc_g) (by decide +kernel) rfl ?_
  assumption))
  k_with "fmt:2" => ((
  walk_at "fmt:num"
  refine fmt_pad (k := fun x o => pure (ForInStep.yield (_, Writer.add _ ⟨x.toArray⟩ o, _))) (pad2 rfl (by omega) (by omega) rfl) rfl ?_
  refine wpAny_pure ?_
  refine fmt_add 2 (by kpc_g) rfl (Nat.le_refl _) (KPc.obj_none rfl) ?_
  intro _ _))
  trivial
section
variable (b : Addr) (t t1 t2 t3 t4 t5 u : Tok)
theorem fmt_hms (h mi sc : Int) (hh : 0 ≤ h) (hh' : h < 100) (hi : 0 ≤ mi) (hi' : mi < 100) (hs : 0 ≤ sc) (hs' : sc < 100) :
    Meets («str.__mod__» ⟨[.str ⟨#[37, 48, 50, 100, 58, 37, 48, 50, 100, 58, 37, 48, 50, 100]⟩ t, .ref b], []⟩)
      (fun _ R s => IsTup s.heap b #[.int h t1, .int mi t2, .int sc t3] ∧ ∀ t' k, R (.ok (.ret (.str (tx ([] ++ dg2 h ++ [58] ++ dg2 mi ++ [58] ++ dg2 sc)) t'))) { s with toks := k }) := by
  refine fmt_run fun prog w A s Q E hb hq => fmt_turns hb fun f Q' k T => ?_
  refine fmt_start fun w0 g0 => T.num2 hh hh' g0 (by omega) fun w1 k1 g1 => ?_
  refine T.lit (cs := [58]) (.of (by decide)) g1 (by omega) fun w2 k2 g2 => T.num2 hi hi' g2 (by omega) fun w3 k3 g3 => ?_
  refine T.lit (cs := [58]) (.of (by decide)) g3 (by omega) fun w4 k4 g4 => T.num2 hs hs' g4 (by omega) fun w5 k5 g5 => ?_
  exact T.fin g5 (by omega) hq
end
theorem strsOk_at : ∀ {vs : List Value} {ys : List (List Nat)} (_ : strsOk vs ys = true) (j : Nat), j < ys.length → ∃ t, vs[j]? = some (.str (tx (ys.getD j [])) t)
  | [], [], _, j, hj => absurd hj (by simp)
  | [], _ :: _, h, _, _ => by simp [strsOk] at h
  | .str x t :: vs, y :: ys, h, 0, _ => by
    rw [strsOk, Bool.and_eq_true] at h
    refine ⟨t, ?_⟩
    have e : x = tx y := by rw [tx_def, ← eq_of_beq h.1]
    rw [e]; rfl
  | .str x t :: vs, y :: ys, h, j + 1, hj => by
    rw [strsOk, Bool.and_eq_true] at h
    obtain ⟨t', e⟩ := strsOk_at h.2 j (by simpa using hj)
    exact ⟨t', by simpa using e⟩
theorem leaveF_val {g h : Heap} {s : Shared} {args : List (Addr × Obj)} {v : Value} {tk : Nat} {L' : Addr} {m' : Str → Option Value} {news' : List (Addr × Obj)} {P : Value → Prop}
    (F : Fr g L' h m') (N : News g L' h news') (ha : ∀ q ∈ args, q ∈ news') (hp : P v) : LeaveF g s args (fun v new => new = [] ∧ P v) v { s with heap := h, toks := tk } :=
  leaveF_intro F N ha [] (fun _ h => nomatch h) (fun _ h => nomatch h) ⟨rfl, hp⟩
end Mine.Internal

end
section
open PySem PySem.W PyProof.Rows PySem.Calls PySem.Spec
open PySem.Builtin PySem.Builtin.Str PySem.NumText
set_option maxRecDepth 100000
namespace Mine.Internal
theorem abs_goal {G : Prop} (h : ∀ P : Prop, (G → P) → P) : G := h G id
theorem numText_plus {x : PySem.Str} (h : ∀ c ∈ x.cps.toList, 43 ≤ c ∧ c ≤ 57) : numTextOf x = x.cps.toList ∧ numSeenOf x = x.cps.toList := by
  have e1 : numTextOf x = x.cps.toList := by
    refine if_pos ?_
    rw [← Array.all_toList, List.all_eq_true]
    exact fun c hc => decide_eq_true (by have := h c hc; omega)
  refine ⟨e1, ?_⟩
  show (numTextOf x).takeWhile _ = _
  rw [e1]
  exact takeWhile_all fun c hc => bne_iff_ne.mpr (by have := h c hc; omega)
theorem int_plus {cs : List Nat} (h : AllDigits cs) (h1 : cs ≠ []) (h2 : cs.length ≤ 100) : PySem.intText? (tx (43 :: cs)) = some ((digitsVal cs : Nat) : Int) := by
  have hs : ∀ c ∈ (tx (43 :: cs)).cps.toList, 43 ≤ c ∧ c ≤ 57 := by
    rw [tx_toList]
    intro c hc
    rcases List.mem_cons.mp hc with e | hc
    · omega
    · have := h c hc; omega
  obtain ⟨e1, e2⟩ := numText_plus hs
  unfold PySem.intText?
  rw [e1, e2, if_pos (beq_self_eq_true _), tx_toList]
  have es : sign ((43 :: cs).dropWhile blank) = (false, cs) := by rw [dropWhile_of (by decide)]; rfl
  have ec : core (43 :: cs) = cs := by
    unfold core
    rw [es]
    show (cs.reverse.dropWhile blank).reverse = cs
    rw [dropWhile_digits h.reverse, List.reverse_reverse]
  rw [ec, es, digits_of h h1]
  have hsz := push_size cs #[]
  have hv := push_foldl cs #[]
  show (if _ ≤ 4300 then some (worth false _) else none) = _
  rw [if_pos (by rw [hsz]; simp only [Array.size_empty]; omega)]
  unfold worth digitsVal
  rw [hv]
  rfl
theorem dg4_val {n : Int} (h0 : 0 ≤ n) (h1 : n < 10000) : ((digitsVal (dg4 n) : Nat) : Int) = n := by
  simp only [dg4, digitsVal, List.foldl, Nat.zero_mul, Nat.zero_add]
  rw [val_four h0 h1, Int.toNat_of_nonneg h0]
theorem val_plus {n : Int} (h0 : 0 ≤ n) (h1 : n < 10000) : PySem.intText? (tx (43 :: dg4 n)) = some n := by
  rw [int_plus (dg4_mem n) (by simp [dg4]) (by simp [dg4]), dg4_val h0 h1]
theorem val_minus {n : Int} (h0 : 0 ≤ n) (h1 : n < 10000) : PySem.intText? (tx (45 :: dg4 n)) = some (-n) := by
  rw [intText_neg (cs := dg4 n) (tx_toList _) (dg4_mem n) (by simp [dg4]) (by rw [tx_length]; simp [dg4]), dg4_val h0 h1]
noncomputable def zTab : List (List Nat) := [[71, 77, 84], [65, 83, 84], [69, 83, 84], [67, 83, 84], [77, 83, 84], [80, 83, 84], [65, 68, 84], [69, 68, 84], [67, 68, 84], [77, 68, 84], [80, 68, 84]]
noncomputable def zHrs : List Int := [0, 4, 5, 6, 7, 8, 3, 4, 5, 6, 7]
noncomputable def znm (k : Int) : List Nat := zTab.getD k.toNat []
noncomputable def zhr (k : Int) : Int := zHrs.getD k.toNat 0
theorem tenN {P : Int → Prop} (h : ∀ k : Nat, k < 11 → P k) {k : Int} (hk : 0 ≤ k ∧ k ≤ 10) : P k := by
  obtain ⟨j, rfl⟩ := Int.eq_ofNat_of_zero_le hk.1
  exact h j (by omega)
inductive ZoneT (W : List Nat) (z : Int) : Prop
  | plus (n : Int) : 0 ≤ n ∧ n < 10000 → W = 43 :: dg4 n → z = n.fdiv 100 * 3600 + n.fmod 100 * 60 → ZoneT W z
  | minus (n : Int) : 0 ≤ n ∧ n < 10000 → W = 45 :: dg4 n → z = -(n.fdiv 100 * 3600 + n.fmod 100 * 60) → ZoneT W z
  | name (k : Int) : 0 ≤ k ∧ k ≤ 10 → W = znm k → z = -3600 * zhr k → ZoneT W z
  | none : W = [] → z = 0 → ZoneT W z
theorem zhr_T : ∀ k : Nat, k < 11 → 0 ≤ zhr k ∧ zhr k ≤ 8 := by decide
theorem ZoneT.rng {W : List Nat} {z : Int} (h : ZoneT W z) : -362340 ≤ z ∧ z ≤ 362340 := by
  cases h with
  | plus n hn _ e => rw [fd100, fm100] at e; omega
  | minus n hn _ e => rw [fd100, fm100] at e; omega
  | name k hk _ e => have := tenN (P := fun k => 0 ≤ zhr k ∧ zhr k ≤ 8) zhr_T hk; omega
  | none _ e => omega
theorem znm_T : ∀ k : Nat, k < 11 → (znm k).length = 3 ∧ ∀ c ∈ znm k, 65 ≤ c ∧ c ≤ 90 := by decide
theorem znm_len {k : Int} (hk : 0 ≤ k ∧ k ≤ 10) : (znm k).length = 3 := (tenN (P := fun k => (znm k).length = 3 ∧ ∀ c ∈ znm k, 65 ≤ c ∧ c ≤ 90) znm_T hk).1
theorem znm_mem {k : Int} (hk : 0 ≤ k ∧ k ≤ 10) : ∀ c ∈ znm k, 65 ≤ c ∧ c ≤ 90 := (tenN (P := fun k => (znm k).length = 3 ∧ ∀ c ∈ znm k, 65 ≤ c ∧ c ≤ 90) znm_T hk).2
theorem ZoneT.mem {W : List Nat} {z : Int} (h : ZoneT W z) : W.length ≤ 5 ∧ ∀ c ∈ W, 43 ≤ c ∧ c ≤ 90 := by
  cases h with
  | plus n hn e _ =>
    subst e
    refine ⟨by simp [dg4], fun c hc => ?_⟩
    rcases List.mem_cons.mp hc with e | hc
    · omega
    · have := dg4_mem n c hc; omega
  | minus n hn e _ =>
    subst e
    refine ⟨by simp [dg4], fun c hc => ?_⟩
    rcases List.mem_cons.mp hc with e | hc
    · omega
    · have := dg4_mem n c hc; omega
  | name k hk e _ => subst e; exact ⟨by rw [znm_len hk]; decide, fun c hc => by have := znm_mem hk c hc; omega⟩
  | none e _ => subst e; exact ⟨by decide, fun _ h => nomatch h⟩
theorem ZoneT.upper {W : List Nat} {z : Int} (h : ZoneT W z) : Txt.upper (tx W) = tx W := by
  rw [upper_hi fun c hc => by have := h.mem.2 c hc; omega]
  congr 1
  conv => rhs; rw [← List.map_id W]
  refine List.map_congr_left fun c hc => ?_
  have := h.mem.2 c hc
  unfold up1
  rw [if_neg (by omega)]
  rfl
theorem zone_gmt : ZoneT gmt 0 := .name 0 (by decide) rfl (by decide)
theorem words_sp_tail (ps : List (List Nat)) (h0 : ps ≠ []) (h : ∀ p ∈ ps, Plain p) : Txt.words (tx (joinSp ps ++ [32])) = ps.map tx := by
  obtain ⟨r, hr, e, el⟩ := scan_fold ps [] h0 h
  have hl : (tx r).length ≠ 0 := by rw [tx_length]; intro z; exact hr (List.eq_nil_of_length_eq_zero z)
  have hs : KWd.scan (tx (joinSp ps ++ [32])) = (ps.dropLast.map tx ++ [tx r], PySem.Str.empty) := by
    unfold KWd.scan
    rw [tx_toList, List.foldl_append, e, List.nil_append, List.foldl_cons, List.foldl_nil]
    show (if Unicode.isSpace 32 = true then (if (tx r).length = 0 then _ else _) else _) = _
    rw [if_pos (by decide +kernel), if_neg hl]
  rw [KWd.words_of hs, if_pos (show PySem.Str.empty.length = 0 from rfl)]
  obtain ⟨hne, hg⟩ : ∃ h : ps ≠ [], ps.getLast h = r := by
    rw [List.getLast?_eq_some_getLast h0] at el
    exact ⟨h0, Option.some.inj el⟩
  have hd := List.dropLast_concat_getLast hne
  rw [hg] at hd
  calc ps.dropLast.map tx ++ [tx r] = (ps.dropLast ++ [r]).map tx := by simp
    _ = ps.map tx := by rw [hd]
structure DayT (D : List Nat) (d : Int) : Prop where
  len : Len D
  plain : Plain D
  last : D.getLast? = some (fig d)
  val : PySem.intText? (tx D) = some d
theorem dayT_dgs {d : Int} (h0 : 0 ≤ d) (h1 : d < 100) : DayT (dgs d) d := ⟨len_dgs d, plain_dgs d, dgs_getLast d, val_dgs h0 (by omega)⟩
theorem dayT_dg2 {d : Int} (h0 : 0 ≤ d) (h1 : d < 100) : DayT (dg2 d) d := ⟨len_dg2 d, plain_dg2 d, rfl, val_dg2 h0 h1⟩
noncomputable def YrT (Y : List Nat) (y : Int) : Prop := Y = dg4 y ∨ Y = dg4 y ++ [44]
noncomputable def dash4 (d m y : Int) : List Nat := joinC 45 [dg2 d, mon m, dg4 y]
noncomputable def LenX (l : List Nat) : Prop := 20 ≤ l.length ∧ l.length ≤ 100
inductive Told (X : List Nat) (y m d h mi sc z : Int) : Prop
  | comma (g D Y W : List Nat) : LenX X → g.length ≤ 30 → Txt.words (tx X) = [tx (g ++ [44]), tx D, tx (mon m), tx Y, tx (clk h mi sc), tx W] → DayT D d → YrT Y y → ZoneT W z → Told X y m d h mi sc z
  | bare (g D Y : List Nat) : LenX X → g.length ≤ 30 → Txt.words (tx X) = [tx (g ++ [44]), tx D, tx (mon m), tx Y, tx (clk h mi sc)] → DayT D d → YrT Y y → z = 0 → Told X y m d h mi sc z
  | glued (f W : List Nat) : LenX X → f.length = 24 → (∀ c ∈ f, c < 128) → Txt.words (tx X) = [tx (f ++ 44 :: dash4 d m y), tx (clk h mi sc), tx W] → 0 ≤ d ∧ d < 100 → ZoneT W z → Told X y m d h mi sc z
inductive TailT (R : List Nat) (k y m d h mi sc z : Int) : Prop
  | a (W : List Nat) : ZoneT W z → R = 32 :: (dgs d ++ 32 :: (mon m ++ 32 :: (dg4 y ++ 32 :: (clk h mi sc ++ 32 :: W)))) → TailT R k y m d h mi sc z
  | b (W : List Nat) : ZoneT W z → R = wd3 k ++ 44 :: 32 :: (dgs d ++ 32 :: (mon m ++ 32 :: (dg4 y ++ 44 :: 32 :: (clk h mi sc ++ 32 :: W)))) → TailT R k y m d h mi sc z
  | c (W : List Nat) : ZoneT W z → W ≠ [] → R = wd3 k ++ 44 :: (dash4 d m y ++ 32 :: (clk h mi sc ++ 32 :: W)) → TailT R k y m d h mi sc z
theorem plain_zone {W : List Nat} {z : Int} (h : ZoneT W z) (h0 : W ≠ []) : Plain W := plain_of h0 fun c hc => by have := h.mem.2 c hc; omega
theorem plain_yc (y : Int) : Plain (dg4 y ++ [44]) := plain_of (by simp) fun c hc => by
  rcases List.mem_append.mp hc with q | q
  · have := dg4_mem y c q; omega
  · rw [List.mem_singleton.mp q]; decide
theorem dash4_mem {d m y : Int} (hm : 1 ≤ m ∧ m ≤ 12) : ∀ c ∈ dash4 d m y, 45 ≤ c ∧ c ≤ 122 := by
  intro c hc
  simp only [dash4, joinC, List.mem_append, List.mem_cons] at hc
  rcases hc with q | rfl | q | rfl | q
  · have := dg2_mem _ _ q; omega
  · omega
  · have := mon_mem hm _ q; omega
  · omega
  · have := dg4_mem _ _ q; omega
theorem split_dash4 {d m y : Int} (hm : 1 ≤ m ∧ m ≤ 12) : Txt.split (tx (dash4 d m y)) (PySem.Str.ofString "-") = [tx (dg2 d), tx (mon m), tx (dg4 y)] := by
  rw [minus]
  unfold dash4
  rw [split_c 45 _ (by simp) (by simp [joinC, dg2]) (fun p hp => ?_)]
  · rfl
  · simp only [List.mem_cons, List.not_mem_nil, or_false] at hp
    rcases hp with rfl | rfl | rfl
    · exact fun hc => by have := dg2_mem _ _ hc; omega
    · exact fun hc => by have := mon_mem hm _ hc; omega
    · exact fun hc => by have := dg4_mem _ _ hc; omega
theorem len_dash4 {d m y : Int} (hm : 1 ≤ m ∧ m ≤ 12) : Len (dash4 d m y) := by unfold Len; simp [dash4, joinC, dg2, dg4, mon_len hm]
structure Front (S : List Nat) : Prop where
  len : S.length = 20
  mem : ∀ c ∈ S, 45 ≤ c ∧ c ≤ 90
theorem Front.cm {S : List Nat} (h : Front S) (r : List Nat) (hr : ∀ c ∈ r, 33 ≤ c ∧ c ≤ 122) : Plain (S ++ r) := plain_of (by intro e; have := congrArg List.length e; rw [List.length_append, h.len] at this; simp at this) fun c hc => by
  rcases List.mem_append.mp hc with q | q
  · have := h.mem c q; omega
  · have := hr c q; omega
theorem tellA {S R : List Nat} {k y m d h mi sc z : Int} (hS : Front S) (t : TailT R k y m d h mi sc z) (hk : 0 ≤ k ∧ k ≤ 6) (hm : 1 ≤ m ∧ m ≤ 12) (hd : 0 ≤ d ∧ d < 100) : Told (S ++ 44 :: R) y m d h mi sc z := by
  have hw := wd3_mem hk
  have hl := wd3_len hk
  have hml := mon_len hm
  have hdl := dgs_len d
  have hcl : (clk h mi sc).length = 8 := rfl
  have h4l : (dg4 y).length = 4 := rfl
  have h2l : (dg2 d).length = 2 := rfl
  have pc : Plain (S ++ [44]) := hS.cm [44] (by decide)
  have pk : Plain (S ++ 44 :: (wd3 k ++ [44])) := hS.cm _ fun c hc => by
    rcases List.mem_cons.mp hc with e | hc
    · omega
    · rcases List.mem_append.mp hc with q | q
      · have := hw c q; omega
      · rw [List.mem_singleton.mp q]; decide
  cases t with
  | a W hW e =>
    have hWl := hW.mem.1
    have lx : LenX (S ++ 44 :: R) := by
      subst e
      unfold LenX
      simp only [List.length_append, List.length_cons, hS.len, hml, hcl, h4l]
      omega
    by_cases h0 : W = []
    · have ex : S ++ 44 :: R = joinSp [S ++ [44], dgs d, mon m, dg4 y, clk h mi sc] ++ [32] := by subst e h0; simp [joinSp]
      have hz : z = 0 := by
        cases hW with
        | plus n _ e' _ => rw [h0] at e'; cases e'
        | minus n _ e' _ => rw [h0] at e'; cases e'
        | name k hk e' _ => have := znm_len hk; rw [← e', h0] at this; cases this
        | none _ e' => exact e'
      refine .bare S (dgs d) (dg4 y) lx (by rw [hS.len]; decide) ?_ (dayT_dgs hd.1 hd.2) (.inl rfl) hz
      rw [ex, words_sp_tail _ (by simp) fun p hp => ?_]
      · rfl
      · simp only [List.mem_cons, List.not_mem_nil, or_false] at hp
        rcases hp with rfl | rfl | rfl | rfl | rfl
        · exact pc
        · exact plain_dgs _
        · exact plain_mon hm
        · exact plain_dg4 _
        · exact plain_clk _ _ _
    · have ex : S ++ 44 :: R = joinSp [S ++ [44], dgs d, mon m, dg4 y, clk h mi sc, W] := by subst e; simp [joinSp]
      refine .comma S (dgs d) (dg4 y) W lx (by rw [hS.len]; decide) ?_ (dayT_dgs hd.1 hd.2) (.inl rfl) hW
      rw [ex, words_sp _ (by simp) fun p hp => ?_]
      · rfl
      · simp only [List.mem_cons, List.not_mem_nil, or_false] at hp
        rcases hp with rfl | rfl | rfl | rfl | rfl | rfl
        · exact pc
        · exact plain_dgs _
        · exact plain_mon hm
        · exact plain_dg4 _
        · exact plain_clk _ _ _
        · exact plain_zone hW h0
  | b W hW e =>
    have hWl := hW.mem.1
    have lx : LenX (S ++ 44 :: R) := by
      subst e
      unfold LenX
      simp only [List.length_append, List.length_cons, hS.len, hml, hcl, h4l, hl]
      omega
    have lg : (S ++ 44 :: wd3 k).length ≤ 30 := by simp only [List.length_append, List.length_cons, hS.len, hl]; decide
    by_cases h0 : W = []
    · have ex : S ++ 44 :: R = joinSp [S ++ 44 :: (wd3 k ++ [44]), dgs d, mon m, dg4 y ++ [44], clk h mi sc] ++ [32] := by subst e h0; simp [joinSp]
      have hz : z = 0 := by
        cases hW with
        | plus n _ e' _ => rw [h0] at e'; cases e'
        | minus n _ e' _ => rw [h0] at e'; cases e'
        | name k hk e' _ => have := znm_len hk; rw [← e', h0] at this; cases this
        | none _ e' => exact e'
      refine .bare (S ++ 44 :: wd3 k) (dgs d) (dg4 y ++ [44]) lx lg ?_ (dayT_dgs hd.1 hd.2) (.inr rfl) hz
      rw [ex, words_sp_tail _ (by simp) fun p hp => ?_]
      · simp
      · simp only [List.mem_cons, List.not_mem_nil, or_false] at hp
        rcases hp with rfl | rfl | rfl | rfl | rfl
        · exact pk
        · exact plain_dgs _
        · exact plain_mon hm
        · exact plain_yc _
        · exact plain_clk _ _ _
    · have ex : S ++ 44 :: R = joinSp [S ++ 44 :: (wd3 k ++ [44]), dgs d, mon m, dg4 y ++ [44], clk h mi sc, W] := by subst e; simp [joinSp]
      refine .comma (S ++ 44 :: wd3 k) (dgs d) (dg4 y ++ [44]) W lx lg ?_ (dayT_dgs hd.1 hd.2) (.inr rfl) hW
      rw [ex, words_sp _ (by simp) fun p hp => ?_]
      · simp
      · simp only [List.mem_cons, List.not_mem_nil, or_false] at hp
        rcases hp with rfl | rfl | rfl | rfl | rfl | rfl
        · exact pk
        · exact plain_dgs _
        · exact plain_mon hm
        · exact plain_yc _
        · exact plain_clk _ _ _
        · exact plain_zone hW h0
  | c W hW h0 e =>
    have hWl := hW.mem.1
    have lx : LenX (S ++ 44 :: R) := by
      subst e
      unfold LenX
      simp only [List.length_append, List.length_cons, hS.len, hcl, hl, dash4, joinC, h2l, h4l, hml]
      omega
    have ex : S ++ 44 :: R = joinSp [(S ++ 44 :: wd3 k) ++ 44 :: dash4 d m y, clk h mi sc, W] := by subst e; simp [joinSp]
    refine .glued (S ++ 44 :: wd3 k) W lx (by simp only [List.length_append, List.length_cons, hS.len, hl]) (fun c hc => ?_) ?_ hd hW
    · rcases List.mem_append.mp hc with q | q
      · have := hS.mem c q; omega
      · rcases List.mem_cons.mp q with e | q
        · omega
        · have := hw c q; omega
    · rw [ex, words_sp _ (by simp) fun p hp => ?_]
      · rfl
      · simp only [List.mem_cons, List.not_mem_nil, or_false] at hp
        rcases hp with rfl | rfl | rfl
        · rw [List.append_assoc]
          refine hS.cm _ fun c hc => ?_
          rcases List.mem_cons.mp hc with e | hc
          · omega
          · rcases List.mem_append.mp hc with q | q
            · have := hw c q; omega
            · rcases List.mem_cons.mp q with e | q
              · omega
              · have := dash4_mem hm c q; omega
        · exact plain_clk _ _ _
        · exact plain_zone hW h0
theorem glue_len {f : List Nat} {d m y : Int} (hf : f.length = 24) (hm : 1 ≤ m ∧ m ≤ 12) : Len (f ++ 44 :: dash4 d m y) := by
  unfold Len; simp [dash4, joinC, dg2, dg4, mon_len hm, hf]
theorem glue_ends {f : List Nat} {d m y : Int} : Txt.endswith (tx (f ++ 44 :: dash4 d m y)) (PySem.Str.ofString ",") = false := by
  have e : f ++ 44 :: dash4 d m y = (f ++ 44 :: (dg2 d ++ 45 :: (mon m ++ 45 :: [fig (y / 1000), fig (y / 100), fig (y / 10)]))) ++ [fig y] := by
    simp [dash4, joinC, dg4]
  rw [comma, e]
  generalize f ++ 44 :: (dg2 d ++ 45 :: (mon m ++ 45 :: [fig (y / 1000), fig (y / 100), fig (y / 10)])) = l
  unfold Txt.endswith
  have hl : (tx (l ++ [fig y])).length = l.length + 1 := by rw [tx_length]; simp
  have e1 : (⟨#[44]⟩ : PySem.Str).length = 1 := rfl
  have q := StrLaws.subAt_one (tx (l ++ [fig y])) 44 l.length
  rw [tx_toList] at q
  rw [hl, e1]
  simp only [Nat.add_sub_cancel]
  cases z : subAt (tx (l ++ [fig y])) ⟨#[44]⟩ l.length with
  | false => simp
  | true =>
    have := q.mp ⟨by rw [e1, hl]; exact Nat.le_refl _, z⟩
    have hc : fig y = 44 := by simpa using this
    have := fig_lo y
    omega
theorem glue_rfind {f : List Nat} {d m y : Int} (hf : f.length = 24) (hm : 1 ≤ m ∧ m ≤ 12) : Txt.rfind (tx (f ++ 44 :: dash4 d m y)) (PySem.Str.ofString ",") = 24 := by
  rw [comma]
  have key : ∀ j, StrLaws.At (tx (f ++ 44 :: dash4 d m y)) ⟨#[44]⟩ (tx (f ++ 44 :: dash4 d m y)).length j ↔ (f ++ 44 :: dash4 d m y)[j]? = some 44 := fun j => by
    have := StrLaws.subAt_one (tx (f ++ 44 :: dash4 d m y)) 44 j
    rw [tx_toList] at this
    exact this
  have at24 : (f ++ 44 :: dash4 d m y)[24]? = some 44 := by rw [List.getElem?_append_right (by omega), hf]; rfl
  have after : ∀ j, 24 < j → (f ++ 44 :: dash4 d m y)[j]? ≠ some 44 := fun j hj e => by
    rw [List.getElem?_append_right (by omega), hf] at e
    obtain ⟨i, hi⟩ : ∃ i, j - 24 = i + 1 := ⟨j - 25, by omega⟩
    rw [hi, List.getElem?_cons_succ] at e
    have := dash4_mem hm 44 (List.mem_of_getElem? e)
    omega
  unfold Txt.rfind
  rcases StrLaws.last_spec (tx (f ++ 44 :: dash4 d m y)) ⟨#[44]⟩ with ⟨_, q⟩ | ⟨i, e, hi, q⟩
  · exact absurd ((key 24).mpr at24) (q 24)
  · rw [e]
    have h1 := (key i).mp hi
    rcases Nat.lt_trichotomy i 24 with c | c | c
    · exact absurd ((key 24).mpr at24) (q 24 c)
    · rw [c]; rfl
    · exact absurd h1 (after i c)
theorem glue_lower {f : List Nat} {d m y : Int} (hm : 1 ≤ m ∧ m ≤ 12) (h : ∀ c ∈ f, c < 128) : Txt.lower (tx (f ++ 44 :: dash4 d m y)) = tx ((f ++ 44 :: dash4 d m y).map lo1) := by
  refine lower_hi fun c hc => ?_
  rcases List.mem_append.mp hc with q | q
  · exact h c q
  · rcases List.mem_cons.mp q with e | q
    · omega
    · have := dash4_mem hm c q; omega
theorem glue_not {f : List Nat} {d m y : Int} {tab : List (List Nat)} (ht : tab.all (fun y => y.all (fun c => decide (97 ≤ c))) = true) : tab.contains ((f ++ 44 :: dash4 d m y).map lo1) = false :=
  not_in_of_head ht (c := 44) (List.mem_map.mpr ⟨44, by simp, rfl⟩) (by decide)
theorem slice_to {l : List Nat} {n : Nat} (h : n ≤ l.length) : Txt.slice (tx l) none (some (n : Int)) = tx (l.take n) := by
  have e := StrLaws.sliceText_to (x := tx l) (j := (n : Int)) ⟨by omega, by rw [tx_toList]; omega⟩
  rw [tx_toList] at e
  refine Eq.trans ?_ (e.trans ?_)
  · rfl
  · rw [tx_def]; rfl
theorem slice_from {l : List Nat} {n : Nat} (h : n ≤ l.length) : Txt.slice (tx l) (some (n : Int)) none = tx (l.drop n) := by
  have e := StrLaws.sliceText_from (x := tx l) (i := (n : Int)) ⟨by omega, by rw [tx_toList]; omega⟩
  rw [tx_toList] at e
  refine Eq.trans ?_ (e.trans ?_)
  · rfl
  · rw [tx_def]; congr 2
    rw [List.take_of_length_le (by rw [List.length_drop]; omega)]
    congr 1
theorem glue_slice {f : List Nat} {d m y : Int} (hf : f.length = 24) : Txt.slice (tx (f ++ 44 :: dash4 d m y)) (some (24 + 1)) none = tx (dash4 d m y) := by
  refine (slice_from (n := 25) (by rw [List.length_append, hf, List.length_cons]; omega)).trans ?_
  rw [show f ++ 44 :: dash4 d m y = (f ++ [44]) ++ dash4 d m y by simp, List.drop_left' (by rw [List.length_append, hf]; rfl)]
theorem yc_slice (y : Int) : Txt.slice (tx (dg4 y ++ [44])) none (some (-1)) = tx (dg4 y) := by
  have e := StrLaws.sliceText_to_neg (x := tx (dg4 y ++ [44])) (j := -1) (by decide) (by rw [tx_length]; simp [dg4])
  rw [tx_toList, tx_length] at e
  refine Eq.trans ?_ (e.trans ?_)
  · rfl
  · rw [tx_def]
    rfl
end Mine.Internal

end
section
open PySem PySem.W PyProof.Rows PySem.Calls PySem.Spec
open PySem.Builtin PySem.Builtin.Str PySem.NumText
set_option maxRecDepth 100000
namespace Mine.Internal
theorem words_Fmt3_0 : True := by
  k_with_none
  w_top off
  k_with "fmt:go1" => ((
  apply fmt_run1
  intro _ _ _ _ _ _ _
  unfold Builtin.Str.percentFormat
  refine wpAny_bind (wpAny_isInstance (typeIs_int _ _ _) F.sub_int_tuple ?_)
  refine wpAny_bind (wpAny_of_eq (a := none) rfl ?_)
  refine wpAny_bind (wpAny_of_eq (KPc.fills _ _) ?_)
  kpc_if
  refine wpAny_bind (wpAny_pure ?_)
  refine wpAny_bind ?_
  rw [KPc.range_list]
  refine fmt_start ?_
  intro _ _))
  k_with "fmt:lit" => ((
  refine KPc.turn ?_
  kpc_check
  (repeat kpc_if)
  refine wpAny_pure ?_
  refine fmt_add 40 (by kpc_g) rfl (by decide) (by kpc_obj) ?_
  intro _ _))
  k_with "fmt:num" => ((
  refine KPc.turn ?_
  kpc_check
  (repeat kpc_if)
  refine wpAny_bind ?_
  refine wpAny_holding ?_
  (repeat kpc_if)
  refine wpAny_bind (wpAny_of_eq (a := _) rfl ?_)
  (repeat kpc_if)
  refine wpAny_bind (wpAny_mkInt ?_)
  refine wpAny_bind (call_gives F.slot_int_repr (typeIs_int _ _ _) F.entry_int_repr (F.args_int_repr_1 _) (gives_int_repr _ _ (KPt.hd2 (by kpt_hd))) ⟨int_text_fits (KPt.hd2 (by kpt_hd)), ?_⟩)
  refine wpAny_bind (wpAny_of_eq (a := some _) rfl ?_)
  refine wpAny_pure ?_))
  k_with "fmt:end" => ((
  refine KPc.turn ?_
  kpc_check
  (repeat kpc_if)
  refine wpAny_pure ?_
  kpc_if
  refine KPc.finish_ok (by kpc_g) (by decide +kernel) rfl ?_
  assumption))
  k_with "fmt:4" => ((
  walk_at "fmt:num"
  refine fmt_pad (k := fun x o => pure (ForInStep.yield (_, Writer.add _ ⟨x.toArray⟩ o, _))) (pad4 rfl (by omega) (by omega) rfl) rfl ?_
  refine wpAny_pure ?_
  refine fmt_add 4 (by kpc_g) rfl (Nat.le_refl _) (KPc.obj_none rfl) ?_
  intro _ _))
  trivial
section
variable (b : Addr) (t t1 t2 t3 t4 t5 t6 u : Tok)
theorem fmt_pl (n : Int) (h0 : 0 ≤ n) (h1 : n < 10000) :
    Meets («str.__mod__» ⟨[.str ⟨#[43, 37, 48, 52, 100]⟩ t, .int n u], []⟩) (fun _ R s => ∀ t' k, R (.ok (.ret (.str (tx ([] ++ [43] ++ dg4 n)) t'))) { s with toks := k }) := by
  walk_at "fmt:go1"
  walk_at "fmt:lit"
  walk_at "fmt:4"
  walk_at "fmt:end"
theorem fmt_mi (n : Int) (h0 : 0 ≤ n) (h1 : n < 10000) :
    Meets («str.__mod__» ⟨[.str ⟨#[45, 37, 48, 52, 100]⟩ t, .int n u], []⟩) (fun _ R s => ∀ t' k, R (.ok (.ret (.str (tx ([] ++ [45] ++ dg4 n)) t'))) { s with toks := k }) := by
  walk_at "fmt:go1"
  walk_at "fmt:lit"
  walk_at "fmt:4"
  walk_at "fmt:end"
theorem fmt_3A (d : Int) (x2 : List Nat) (y : Int) (x4 x5 : List Nat) (hd : 0 ≤ d) (hd' : d < 10000) (q2 : x2.length ≤ 40) (hy : 0 ≤ y) (hy' : y < 10000) (q4 : x4.length ≤ 40) (q5 : x5.length ≤ 40) :
    Meets («str.__mod__» ⟨[.str ⟨#[44, 32, 37, 100, 32, 37, 115, 32, 37, 48, 52, 100, 32, 37, 115, 32, 37, 115]⟩ t, .ref b], []⟩)
      (fun _ R s => IsTup s.heap b #[.int d t1, .str (tx x2) t2, .int y t3, .str (tx x4) t4, .str (tx x5) t5] ∧ ∀ t' k, R (.ok (.ret (.str (tx ([] ++ [44, 32] ++ dgs d ++ [32] ++ x2 ++ [32] ++ dg4 y ++ [32] ++ x4 ++ [32] ++ x5)) t'))) { s with toks := k }) := by
  refine fmt_run fun prog w A s Q E hb hq => fmt_turns hb fun f Q' k T => ?_
  refine fmt_start fun w0 g0 => T.lit (cs := [44, 32]) (.of (by decide)) g0 (by omega) fun w1 k1 g1 => T.num hd hd' g1 (by omega) fun w2 k2 g2 => ?_
  refine T.lit (cs := [32]) (.of (by decide)) g2 (by omega) fun w3 k3 g3 => T.str q2 g3 (by omega) fun w4 k4 g4 => ?_
  refine T.lit (cs := [32]) (.of (by decide)) g4 (by omega) fun w5 k5 g5 => T.num4 hy hy' g5 (by omega) fun w6 k6 g6 => ?_
  refine T.lit (cs := [32]) (.of (by decide)) g6 (by omega) fun w7 k7 g7 => T.str q4 g7 (by omega) fun w8 k8 g8 => ?_
  refine T.lit (cs := [32]) (.of (by decide)) g8 (by omega) fun w9 k9 g9 => T.str q5 g9 (by omega) fun w10 k10 g10 => ?_
  exact T.fin g10 (by omega) hq
theorem fmt_3B (x0 : List Nat) (d : Int) (x2 : List Nat) (y : Int) (x4 x5 : List Nat) (q0 : x0.length ≤ 40) (hd : 0 ≤ d) (hd' : d < 10000) (q2 : x2.length ≤ 40) (hy : 0 ≤ y) (hy' : y < 10000) (q4 : x4.length ≤ 40) (q5 : x5.length ≤ 40) :
    Meets («str.__mod__» ⟨[.str ⟨#[44, 37, 115, 44, 32, 37, 100, 32, 37, 115, 32, 37, 48, 52, 100, 44, 32, 37, 115, 32, 37, 115]⟩ t, .ref b], []⟩)
      (fun _ R s => IsTup s.heap b #[.str (tx x0) t1, .int d t2, .str (tx x2) t3, .int y t4, .str (tx x4) t5, .str (tx x5) t6] ∧ ∀ t' k, R (.ok (.ret (.str (tx ([] ++ [44] ++ x0 ++ [44, 32] ++ dgs d ++ [32] ++ x2 ++ [32] ++ dg4 y ++ [44, 32] ++ x4 ++ [32] ++ x5)) t'))) { s with toks := k }) := by
  refine fmt_run fun prog w A s Q E hb hq => fmt_turns hb fun f Q' k T => ?_
  refine fmt_start fun w0 g0 => T.lit (cs := [44]) (.of (by decide)) g0 (by omega) fun w1 k1 g1 => T.str q0 g1 (by omega) fun w2 k2 g2 => ?_
  refine T.lit (cs := [44, 32]) (.of (by decide)) g2 (by omega) fun w3 k3 g3 => T.num hd hd' g3 (by omega) fun w4 k4 g4 => ?_
  refine T.lit (cs := [32]) (.of (by decide)) g4 (by omega) fun w5 k5 g5 => T.str q2 g5 (by omega) fun w6 k6 g6 => ?_
  refine T.lit (cs := [32]) (.of (by decide)) g6 (by omega) fun w7 k7 g7 => T.num4 hy hy' g7 (by omega) fun w8 k8 g8 => ?_
  refine T.lit (cs := [44, 32]) (.of (by decide)) g8 (by omega) fun w9 k9 g9 => T.str q4 g9 (by omega) fun wa ka ga => ?_
  refine T.lit (cs := [32]) (.of (by decide)) ga (by omega) fun wb kb gb => T.str q5 gb (by omega) fun wc kc gc => ?_
  exact T.fin gc (by omega) hq
theorem fmt_3C (x0 : List Nat) (d : Int) (x2 : List Nat) (y : Int) (x4 x5 : List Nat) (q0 : x0.length ≤ 40) (hd : 0 ≤ d) (hd' : d < 100) (q2 : x2.length ≤ 40) (hy : 0 ≤ y) (hy' : y < 10000) (q4 : x4.length ≤ 40) (q5 : x5.length ≤ 40) :
    Meets («str.__mod__» ⟨[.str ⟨#[44, 37, 115, 44, 37, 48, 50, 100, 45, 37, 115, 45, 37, 48, 52, 100, 32, 37, 115, 32, 37, 115]⟩ t, .ref b], []⟩)
      (fun _ R s => IsTup s.heap b #[.str (tx x0) t1, .int d t2, .str (tx x2) t3, .int y t4, .str (tx x4) t5, .str (tx x5) t6] ∧ ∀ t' k, R (.ok (.ret (.str (tx ([] ++ [44] ++ x0 ++ [44] ++ dg2 d ++ [45] ++ x2 ++ [45] ++ dg4 y ++ [32] ++ x4 ++ [32] ++ x5)) t'))) { s with toks := k }) := by
  refine fmt_run fun prog w A s Q E hb hq => fmt_turns hb fun f Q' k T => ?_
  refine fmt_start fun w0 g0 => T.lit (cs := [44]) (.of (by decide)) g0 (by omega) fun w1 k1 g1 => T.str q0 g1 (by omega) fun w2 k2 g2 => ?_
  refine T.lit (cs := [44]) (.of (by decide)) g2 (by omega) fun w3 k3 g3 => T.num2 hd hd' g3 (by omega) fun w4 k4 g4 => ?_
  refine T.lit (cs := [45]) (.of (by decide)) g4 (by omega) fun w5 k5 g5 => T.str q2 g5 (by omega) fun w6 k6 g6 => ?_
  refine T.lit (cs := [45]) (.of (by decide)) g6 (by omega) fun w7 k7 g7 => T.num4 hy hy' g7 (by omega) fun w8 k8 g8 => ?_
  refine T.lit (cs := [32]) (.of (by decide)) g8 (by omega) fun w9 k9 g9 => T.str q4 g9 (by omega) fun wa ka ga => ?_
  refine T.lit (cs := [32]) (.of (by decide)) ga (by omega) fun wb kb gb => T.str q5 gb (by omega) fun wc kc gc => ?_
  exact T.fin gc (by omega) hq
end
theorem mod_pl {prog : Program} {w : World} {A : Around} {E : Value → Shared → Prop} {s : Shared} {n : Int} {Q : Value → Shared → Prop} {t u : Tok} (h0 : 0 ≤ n ∧ n < 10000)
    (h : ∀ t' k, Q (.str (tx (43 :: dg4 n)) t') { s with toks := k }) : wpAny (model prog w) A (binaryOp .Mod (.str (PySem.Str.ofString "+%04d") t) (.int n u)) Q E s :=
  KPc.mod_lit (by decide +kernel) (log_small h0.1 (by omega)) (fun _ _ => fmt_pl _ _ n h0.1 h0.2) h
theorem mod_mi {prog : Program} {w : World} {A : Around} {E : Value → Shared → Prop} {s : Shared} {n : Int} {Q : Value → Shared → Prop} {t u : Tok} (h0 : 0 ≤ n ∧ n < 10000)
    (h : ∀ t' k, Q (.str (tx (45 :: dg4 n)) t') { s with toks := k }) : wpAny (model prog w) A (binaryOp .Mod (.str (PySem.Str.ofString "-%04d") t) (.int n u)) Q E s :=
  KPc.mod_lit (by decide +kernel) (log_small h0.1 (by omega)) (fun _ _ => fmt_mi _ _ n h0.1 h0.2) h
end Mine.Internal

end
section
open PySem PySem.W PyProof.Rows PySem.Calls PySem.Spec
set_option maxRecDepth 100000
namespace Mine.Internal
noncomputable def intsOk : List Value → List Int → Bool
  | [], [] => true
  | .int x _ :: vs, y :: ys => x == y && intsOk vs ys
  | _, _ => false
section
variable {prog : Program} {w : World} {A : Around} {E : Value → Shared → Prop} {s : Shared} {h₀ : Heap} {L : Addr} {news : List (Addr × Obj)} {value slice : PySem.Expr} {l : Addr} {vs : List Value} {n0 : Nat} {k : Int} {u : Tok} {Q : Value → Shared → Prop}
theorem item_zn (N : News h₀ L s.heap news) (hm : (l, PySem.W.listOf vs.toArray n0) ∈ news) (ht : strsOk vs zTab = true) (hk : 0 ≤ k ∧ k ≤ 10)
    (h : ∀ t, Q (.str (tx (znm k)) t) s)
    (hs : autoParam (subscripted slice false (.ref l) (.int k u) = operate [.ref l, .int k u] (getItem (.ref l) (.int k u))) PySem.W.pickK._auto_1) :
    wpAny (model prog w) A (subscriptTail value slice (.ref l) (.int k u)) Q E s := by
  obtain ⟨t, hx⟩ := strsOk_at ht k.toNat (by show k.toNat < 11; omega)
  exact item_litK (News.isList N hm) (by omega) (by omega) hx (h t) hs
end
theorem zone_nil (t u : Tok) : ∃ (W : List Nat) (z : Int) (t1 t2 : Tok), ({ cls := .type "tuple", data := .seq #[.str (PySem.Str.ofString "") t, .int 0 u] } : Obj) = ({ cls := .type "tuple", data := .seq #[.str (tx W) t1, .int z t2] } : Obj) ∧ ZoneT W z :=
  ⟨[], 0, t, u, by rw [tx_nil]; rfl, .none rfl rfl⟩
end Mine.Internal

end
section
open PySem PySem.W PyProof.Rows PySem.Calls PySem.Spec
set_option maxRecDepth 100000
namespace Mine.Internal
section
variable {g h : Heap} {s : Shared} {args : List (Addr × Obj)} {tk : Nat} {L' : Addr} {m' : Str → Option Value} {news' : List (Addr × Obj)}
theorem leaveF_two {D x : Addr} {o o2 : Obj} {O : Addr → Obj → Addr → Obj → Prop} (F : Fr g L' h m') (N : News g L' h news') (ha : ∀ q ∈ args, q ∈ news') (hm : (D, o) ∈ news') (hm2 : (x, o2) ∈ news')
    (hne : ∀ p ∈ args, p.1 ≠ D) (hne2 : ∀ p ∈ args, p.1 ≠ x) (ho : O D o x o2) :
    LeaveF g s args (fun v new => ∃ D o x o2, v = Value.ref D ∧ new = [(D, o), (x, o2)] ∧ O D o x o2) (.ref D) { s with heap := h, toks := tk } :=
  leaveF_intro F N ha [(D, o), (x, o2)] (fun q hq => by
    rcases List.mem_cons.mp hq with rfl | hq
    · exact hm
    · rw [List.mem_singleton.mp hq]; exact hm2) (fun q hq p hp => by
    rcases List.mem_cons.mp hq with rfl | hq
    · exact (hne p hp).symm
    · rw [List.mem_singleton.mp hq]; exact (hne2 p hp).symm) ⟨D, o, x, o2, rfl, rfl, ho⟩
end
section
variable {prog : Program} {w : World} {K : Frag} {d : Nat} {f : Addr} {args : List (Addr × Obj)} {vs : List Value} {p : Program} {loose : List Str} {mean : ExcName → Option Value} {mg mb : Str → Option Value} {dp un : Nat} {gd : Option (List Code)} {cn : Str} {cs : Scope} {a : Addr} {ccd : Value} {cl : List (Str × Addr)} {outer : List Env} {A₀ : Around} {base h₀ : Heap} {L : Addr} {m : Str → Option Value} {s : Shared} {Q E : Value → Shared → Prop} {news : List (Addr × Obj)}
theorem Fn.useO2 {O : Addr → Obj → Addr → Obj → Prop} (C : Fn prog w K d f args vs (fun v new => ∃ D o x o2, v = .ref D ∧ new = [(D, o), (x, o2)] ∧ O D o x o2)) (B : Below A₀ base outer h₀) (F : Fr h₀ L s.heap m) (X : K.In h₀) (N : News h₀ L s.heap news) (T : Top p loose mean mg mb h₀) (hk : cs.kind = .function) (ha : ∀ q ∈ args, q ∈ news)
    (hd : dp + d < recursionLimit) (hu : un + 12 * d < cLine)
    (ret : ∀ D o x o2 h' tk', O D o x o2 → Fr h₀ L h' m → News h₀ L h' ((D, o) :: (x, o2) :: news) → AllNe D news → AllNe x news → Q (.ref D) { s with heap := h', toks := tk' }) :
    wpAny (model prog w) (ktrTop dp un gd cn cs L a ccd cl outer) (call (.ref f) vs) Q E s := by
  refine C p loose mean mg mb dp un gd cn cs a ccd cl outer A₀ base h₀ L m s Q E news B F X N T hk ha hd hu fun v new h' tk' F' N' hne ok => ?_
  obtain ⟨D₁, o, x, o2, rfl, rfl, ho⟩ := ok
  exact ret D₁ o x o2 h' tk' ho F' N' (allNe_intro fun q hq => hne _ (.head _) q hq) (allNe_intro fun q hq => hne _ (.tail _ (.head _)) q hq)
end
structure Mz (x : Int) : Prop where
  lo : 3155673600 ≤ x
  hi : x < 315506361600
theorem Mz.mo {x : Int} (h : Mz x) : Mo x := ⟨by have := h.lo; omega, by have := h.hi; omega⟩
theorem Mz.shift {x z : Int} {W : List Nat} (h : Mz x) (hz : ZoneT W z) : Mo (x + z) := by
  have := h.lo; have := h.hi; have := hz.rng
  exact ⟨by omega, by omega⟩
structure TailOf (x z : Int) (R : List Nat) : Prop where
  mk ::
  mo : Mo (x + z)
  k : ∃ k, (0 ≤ k ∧ k ≤ 6) ∧ TailT R k (fY (x + z)) (fM (x + z)) (fD (x + z)) (fH (x + z)) (fI (x + z)) (fS (x + z)) z
  rng : -362340 ≤ z ∧ z ≤ 362340
theorem zone_zero {z : Int} (h : ZoneT [] z) : z = 0 := by
  cases h with
  | plus n _ e _ => cases e
  | minus n _ e _ => cases e
  | name k hk e _ => have := znm_len hk; rw [← e] at this; cases this
  | none _ e => exact e
theorem zone_gmt' {W : List Nat} {z : Int} (h : ZoneT W z) (h0 : W = []) : ZoneT gmt z := by
  subst h0
  rw [zone_zero h]
  exact zone_gmt
section
variable {prog : Program} {w : World} {A : Around} {E : Value → Shared → Prop} {s : Shared}
theorem truthy_two {l : List Nat} {t : Tok} {Q : Bool → Shared → Prop} (hl : l.length ≤ 1000) (h1 : l ≠ [] → ∀ k, Q true { s with toks := k }) (h0 : l = [] → ∀ k, Q false { s with toks := k }) : wpAny (model prog w) A (PySem.truthy (.str (tx l) t)) Q E s := by
  by_cases h : l = []
  · refine KXt.truthy (b := false) ?_ (by rw [tx_length]; omega) (h0 h)
    rw [tx_length, h]; rfl
  · refine KXt.truthy (b := true) ?_ (by rw [tx_length]; omega) (h1 h)
    rw [tx_length]
    have := List.length_pos_iff.mpr h
    exact bne_iff_ne.mpr (by omega)
end
theorem pick6_3 {v1 v2 v3 v4 v5 v6 : Value} : ((List.range ((#[v1, v2, v3, v4, v5, v6] : Array Value).size - 3)).filterMap fun (k : Nat) => (#[v1, v2, v3, v4, v5, v6] : Array Value)[3 + k]?) = [v4, v5, v6] := rfl
theorem wd3_sliceT : ∀ k : Nat, k < 7 → Txt.slice (Str.ofString "SunMonTueWedThuFriSat") (some (3 * (k : Int))) (some (3 * (k : Int) + 3)) = ⟨(wd3 k).toArray⟩ := by decide +kernel
theorem wd3_slice {k : Int} (h : 0 ≤ k ∧ k ≤ 6) : Txt.slice (Str.ofString "SunMonTueWedThuFriSat") (some (3 * k)) (some (3 * k + 3)) = tx (wd3 k) := weekN (P := fun k => Txt.slice (Str.ofString "SunMonTueWedThuFriSat") (some (3 * k)) (some (3 * k + 3)) = tx (wd3 k)) (fun k hk => by rw [tx_def]; exact wd3_sliceT k hk) h
theorem cat64 {v1 v2 v3 v4 v5 v6 v7 v8 v9 v10 : Value} : (#[v1, v2, v3, v4, v5, v6] : Array Value).toList ++ (#[v7, v8, v9, v10] : Array Value).toList = [v1, v2, v3, v4, v5, v6, v7, v8, v9, v10] := rfl
structure TailX (x z : Int) (t : Str) : Prop where
  mk ::
  out : ∃ R, t = tx (44 :: R) ∧ TailOf x z R
section
variable {x z : Int} {W : List Nat} {k : Int} (hx : Mz x) (hW : ZoneT W z) (hk : 0 ≤ k ∧ k ≤ 6)
include hx hW hk
theorem tailX_A : TailX x z (tx (44 :: 32 :: (dgs (fD (x + z)) ++ 32 :: (mon (fM (x + z)) ++ 32 :: (dg4 (fY (x + z)) ++ 32 :: (dg2 (fH (x + z)) ++ 58 :: (dg2 (fI (x + z)) ++ 58 :: (dg2 (fS (x + z)) ++ 32 :: W)))))))) :=
  ⟨_, rfl, hx.shift hW, ⟨k, hk, .a W hW (by simp [clk, joinC])⟩, hW.rng⟩
theorem tailX_B : TailX x z (tx (44 :: (wd3 k ++ 44 :: 32 :: (dgs (fD (x + z)) ++ 32 :: (mon (fM (x + z)) ++ 32 :: (dg4 (fY (x + z)) ++ 44 :: 32 :: (dg2 (fH (x + z)) ++ 58 :: (dg2 (fI (x + z)) ++ 58 :: (dg2 (fS (x + z)) ++ 32 :: W))))))))) :=
  ⟨_, rfl, hx.shift hW, ⟨k, hk, .b W hW (by simp [clk, joinC])⟩, hW.rng⟩
theorem tailX_C (h0 : W ≠ []) : TailX x z (tx (44 :: (wd3 k ++ 44 :: (dg2 (fD (x + z)) ++ 45 :: (mon (fM (x + z)) ++ 45 :: (dg4 (fY (x + z)) ++ 32 :: (dg2 (fH (x + z)) ++ 58 :: (dg2 (fI (x + z)) ++ 58 :: (dg2 (fS (x + z)) ++ 32 :: W))))))))) :=
  ⟨_, rfl, hx.shift hW, ⟨k, hk, .c W hW h0 (by simp [clk, joinC, dash4])⟩, hW.rng⟩
end
end Mine.Internal
namespace Mine.Internal
theorem week7 (x : Int) {z : Int} (_h : Mo (x + z)) : 0 ≤ ((x + z).fdiv 86400 + 1).fmod 7 ∧ ((x + z).fdiv 86400 + 1).fmod 7 ≤ 6 := by
  have := fmod_rng ((x + z).fdiv 86400 + 1) 7 (by decide); omega
end Mine.Internal
namespace Mine.Internal
section
variable {g h : Heap} {s : Shared} {tk : Nat} {L' : Addr} {m' : Str → Option Value} {news' : List (Addr × Obj)}
inductive TailO (x : Int) (D : Addr) (o : Obj) (a : Addr) (o2 : Obj) : Prop
  | mk (z : Int) (R : List Nat) (tt t1 t2 t3 t4 t5 t6 t7 t8 t9 ta : Tok) : o = ({ cls := .type "tuple", data := .seq #[.str (tx (44 :: R)) tt, .ref a] } : Obj) → o2 = ({ cls := .type "tuple", data := .seq #[.int (fY (x + z)) t1, .int (fM (x + z)) t2, .int (fD (x + z)) t3, .int (fH (x + z)) t4, .int (fI (x + z)) t5, .int (fS (x + z)) t6, .int 0 t7, .int 1 t8, .int (-1) t9, .int z ta] } : Obj) → TailOf x z R → TailO x D o a o2
theorem leaveF_tail {x z : Int} {T : Str} {tt t1 t2 t3 t4 t5 t6 t7 t8 t9 ta : Tok} {D a : Addr} (F : Fr g L' h m') (N : News g L' h news')
    (hm : (D, ({ cls := .type "tuple", data := .seq #[.str T tt, .ref a] } : Obj)) ∈ news')
    (hm2 : (a, ({ cls := .type "tuple", data := .seq #[.int (fY (x + z)) t1, .int (fM (x + z)) t2, .int (fD (x + z)) t3, .int (fH (x + z)) t4, .int (fI (x + z)) t5, .int (fS (x + z)) t6, .int 0 t7, .int 1 t8, .int (-1) t9, .int z ta] } : Obj)) ∈ news')
    (e : TailX x z T) :
    LeaveF g s [] (fun v new => ∃ D o a o2, v = Value.ref D ∧ new = [(D, o), (a, o2)] ∧ TailO x D o a o2) (.ref D) { s with heap := h, toks := tk } := by
  obtain ⟨R, rfl, hR⟩ := e.out
  exact leaveF_two F N (fun _ h => nomatch h) hm hm2 (fun _ h => nomatch h) (fun _ h => nomatch h) (.mk _ _ _ _ _ _ _ _ _ _ _ _ _ rfl rfl hR)
end
end Mine.Internal

end
section
open PySem PySem.W PyProof.Rows PySem.Calls PySem.Spec PySem.Builtin.Re
set_option maxRecDepth 100000
set_option linter.unusedVariables false
namespace Mine.Internal
theorem start_n (t : Array Nat) {n : Nat} (h : 20 ≤ n) : Sre.forMatch CODE t 6 0 n false false = withT t n M0 := by
  have hd : Sre.header CODE = (5, 8) := by decide +kernel
  have hc : ¬ (((Sre.header CODE).1 != 0 && decide (0 ≤ n) && decide (n - 0 < (Sre.header CODE).1)) = true) := by
    rw [hd]
    simp
    omega
  unfold Sre.forMatch
  dsimp only
  rw [if_neg hc]
  rfl
noncomputable def failed (o : Option SM) : Bool := match o with
  | some m => (match m.outcome with | some .failed => true | _ => false)
  | none => false
theorem failed_of {o : Option SM} (h : failed o = true) : ∃ m, o = some m ∧ m.outcome = some .failed := by
  cases o with
  | none => cases h
  | some m =>
    refine ⟨m, rfl, ?_⟩
    unfold failed at h
    dsimp only at h
    split at h
    · assumption
    · cases h
noncomputable def TZ : Array Nat := #[48, 48, 48, 48, 45, 48, 48, 45, 48, 48, 84, 48, 48, 58, 48, 48, 58, 48, 48, 44]
theorem okz : okGoes 100 (withT TZ 20 M0) = true := by decide +kernel
theorem noz : failed (goes 100 (withT TZ 20 M0)) = true := by decide +kernel
noncomputable def noHead (c : Nat) : Bool := okGoes 10 (withT #[c] 1 M0) && failed (goes 10 (withT #[c] 1 M0))
theorem noHeads : ([32, 83, 77, 84, 87, 70].all noHead) = true := by decide +kernel
structure Refused (l : List Nat) : Prop where
  mk ::
  len : 20 ≤ l.length
  top : l.length ≤ 1000
  run : ∃ m, goes 100 (withT l.toArray l.length M0) = some m ∧ m.outcome = some .failed
theorem withT_T (t t' : Array Nat) (n n' : Nat) (m : SM) : withT t n (withT t' n' m) = withT t n m := rfl
theorem goes_more : ∀ {n k : Nat} {m m' : SM}, n ≤ k → goes n m = some m' → goes k m = some m'
  | 0, _, _, _, _, h => by cases h
  | n + 1, 0, _, _, h, _ => absurd h (by omega)
  | n + 1, k + 1, m, m', h, e => by
    unfold goes at e ⊢
    by_cases ho : (m.runFor 4).outcome.isSome = true
    · rw [if_pos ho] at e ⊢; exact e
    · rw [if_neg ho] at e ⊢; exact goes_more (Nat.le_of_succ_le_succ h) e
theorem refused_z {l : List Nat} (hs : Same TZ l.toArray) (h1 : 20 ≤ l.length) (h2 : l.length ≤ 1000) : Refused l := by
  obtain ⟨m, hm, ho⟩ := failed_of noz
  refine ⟨h1, h2, withT l.toArray l.length m, ?_, ho⟩
  have e := goes_T (t := l.toArray) (l := l.length) 100 (withT TZ 20 M0) hs h1 okz
  rw [withT_T] at e
  rw [e, hm]
  rfl
theorem refused_c {l : List Nat} {c : Nat} (hc : noHead c = true) (hs : l.head? = some c) (h1 : 20 ≤ l.length) (h2 : l.length ≤ 1000) : Refused l := by
  unfold noHead at hc
  rw [Bool.and_eq_true] at hc
  obtain ⟨m, hm, ho⟩ := failed_of hc.2
  refine ⟨h1, h2, withT l.toArray l.length m, ?_, ho⟩
  have same : Same #[c] l.toArray := ⟨fun i hi => by
    have : i = 0 := by simpa using hi
    subst this
    left
    cases l with
    | nil => cases hs
    | cons x r => cases hs; rfl⟩
  have e := goes_T (t := l.toArray) (l := l.length) 10 (withT #[c] 1 M0) same (Nat.le_trans (show 1 ≤ 20 from by decide) h1) hc.1
  rw [withT_T] at e
  refine goes_more (n := 10) (by decide) ?_
  rw [e, hm]
  rfl
section
variable {prog : Program} {w : World} {A : Around} {E : Value → Shared → Prop} {s : Shared}
theorem targetN_ {P gi ct : Addr} {l : List Nat} {t : Tok} {Q : ReTarget → Shared → Prop} (hP : PatAt s.heap P gi ct) (hl : l.length ≤ 1000)
    (hq : Q { pattern := .ref P, string := .str (tx l) t, code := CODE, text := l.toArray, kind := 0, groups := 6, pos := 0, lim := l.length } s) :
    wpAny (model prog w) A (reTarget "re.Pattern.match" "match" ⟨[.ref P, .str (tx l) t], []⟩) Q E s := by
  obtain ⟨⟨dt, sl, src, ts, tf, ix, hp⟩, ⟨dt', sl', n, hc⟩⟩ := hP
  unfold reTarget
  dsimp only
  rw [named1]
  refine wpAny_bind (wpAny_pure ?_)
  dsimp only
  refine wpAny_bind (wpAny_pure ?_)
  refine wpAny_bind (wpAny_pure ?_)
  refine wpAny_bind (wpAny_fieldsOf hp rfl ?_)
  refine wpAny_bind (textOf_ l t ?_)
  refine wpAny_ifF Bool.false_ne_true ?_
  refine wpAny_ifF Bool.false_ne_true ?_
  refine wpAny_bind (wpAny_ifF Bool.false_ne_true (wpAny_pure ?_))
  refine wpAny_bind (rawItems_ hc rfl (wpAny_pure ?_))
  have e1 : min (Int.toNat 0) l.toArray.size = 0 := Nat.zero_min _
  have e2 : min (2 ^ 63 - 1 : Int).toNat l.toArray.size = l.length := by
    rw [List.size_toArray]
    exact Nat.min_eq_right (Nat.le_trans hl (by decide))
  dsimp only
  rw [e1, e2, codev]
  exact hq
theorem newMatchN_ {P S : Value} {m : SM} {n : Nat} {Q : Value → Shared → Prop} (h2 : m.lastindex = 6) (h3 : m.start = 0) (h4 : m.handed = 20) (h5 : m.lastmark = 11) (h6 : m.marks = MARKS)
    (hq : Q (.ref (s.heap.objs.size + 1)) { s with heap := (s.heap.push { cls := .type "tuple", data := .seq SPANS }).push { cls := .type "re.Match", data := .fields #[S, P, .int 0 0, .int n 0, .int 6 0, .ref s.heap.objs.size] } }) :
    wpAny (model prog w) A (reNewMatch P S 6 0 n m) Q E s := by
  unfold reNewMatch
  rw [h2, h3, h4, h5, h6]
  refine wpAny_ifF Bool.false_ne_true ?_
  unfold newTuple newFields
  refine wpAny_bind (wpAny_newObj_type (data := .seq SPANS) (wpAny_newObj_type (data := .fields #[S, P, .int 0 0, .int n 0, .int 6 0, .ref s.heap.objs.size]) ?_ (Nat.le_of_ble_eq_true rfl)) (Nat.le_of_ble_eq_true rfl))
  rw [Heap.size_push]
  exact hq
theorem matchN_ {P gi ct : Addr} {l : List Nat} {t : Tok} {Q : PySem.Fin → Shared → Prop} (hP : PatAt s.heap P gi ct) (h1 : 20 ≤ l.length) (hl : l.length ≤ 1000) (hs : stamped l)
    (hq : Q (.done (.ret (.ref (s.heap.objs.size + 1)))) { s with heap := (s.heap.push { cls := .type "tuple", data := .seq SPANS }).push { cls := .type "re.Match", data := .fields #[.str (tx l) t, .ref P, .int 0 0, .int l.length 0, .int 6 0, .ref s.heap.objs.size] } }) :
    wpAny (model prog w) A (Builtin.«re.Pattern.match» ⟨[.ref P, .str (tx l) t], []⟩) Q E s := by
  unfold Builtin.«re.Pattern.match»
  refine wpAny_bind (targetN_ hP hl ?_)
  unfold reAnswer
  dsimp only
  rw [start_n _ h1]
  obtain ⟨m, hm, q1, q2, q3, q4, q5, q6⟩ := chk_of chk0
  refine wpAny_bind (runToEnd_ (m' := withT l.toArray l.length m) (n := 40) ?_ (by decide) q1 ?_)
  · rw [goes_T 40 M0 hs h1 ok0, hm]; rfl
  · exact wpAny_bind (newMatchN_ q2 q3 q4 q5 q6 (wpAny_pure hq))
theorem runToNo_ {m m' : SM} {n : Nat} {Q : Option SM → Shared → Prop} (hg : goes n m = some m') (hn : n ≤ 1000) (ho : m'.outcome = some .failed) (hq : Q none s) : wpAny (model prog w) A (reRunToEnd m) Q E s := by
  unfold reRunToEnd
  refine wpAny_bind (drive_ n (2 ^ 64) m m' hg (Nat.le_trans hn (by decide)) ?_)
  refine wpAny_bind ?_
  refine rules_ (f := fun i => m'.seen.has i) (g := fun i => PySem.Sre.names.getD i "") ?_ _
  rw [ho]
  exact wpAny_pure hq
theorem noMatch_ {P gi ct : Addr} {l : List Nat} {t : Tok} {Q : PySem.Fin → Shared → Prop} (hP : PatAt s.heap P gi ct) (R : Refused l) (hq : Q (.done (.ret .none)) s) :
    wpAny (model prog w) A (Builtin.«re.Pattern.match» ⟨[.ref P, .str (tx l) t], []⟩) Q E s := by
  unfold Builtin.«re.Pattern.match»
  refine wpAny_bind (targetN_ hP R.top ?_)
  unfold reAnswer
  dsimp only
  rw [start_n _ R.len]
  obtain ⟨m, hm, ho⟩ := R.run
  exact wpAny_bind (runToNo_ hm (by decide) ho (wpAny_pure hq))
variable {K : Frag} {h₀ : Heap} {L : Addr} {m : Str → Option Value} {news : List (Addr × Obj)} {P gi ct : Addr} {l : List Nat} {t : Tok}
theorem groupdictN_ {mt tt : Addr} {n : Nat} {Q : PySem.Fin → Shared → Prop} (F : Fr h₀ L s.heap m) (N : News h₀ L s.heap news) (hP : PatAt h₀ P gi ct) (hN : NamesAt w h₀ gi)
    (hM : s.heap.get? mt = some { cls := .type "re.Match", data := .fields #[.str (tx l) t, .ref P, .int 0 0, .int n 0, .int 6 0, .ref tt] }) (hT : s.heap.get? tt = some { cls := .type "tuple", data := .seq SPANS })
    (h : ∀ h' o tk t1 t2 t3 t4 t5 t6, Fr h₀ L h' m → News h₀ L h' ((s.heap.objs.size, o) :: news) → o.IsDictOf (strKind prog w) (FIELDS l t1 t2 t3 t4 t5 t6) → Q (.done (.ret (.ref s.heap.objs.size))) { s with heap := h', toks := tk }) :
    wpAny (model prog w) A (Builtin.«re.Match.groupdict» ⟨[.ref mt], []⟩) Q E s := by
  have q : ∀ i v, (SPANS.map reRawOf).getD i (-1) = v ↔ (#[0, 20, 0, 4, 5, 7, 8, 10, 11, 13, 14, 16, 17, 19] : Array Int).getD i (-1) = v := fun i v => by
    rw [show SPANS.map reRawOf = #[0, 20, 0, 4, 5, 7, 8, 10, 11, 13, 14, 16, 17, 19] from by decide +kernel]
  refine groupdictG F N hP hN hM hT (by decide +kernel) (groupV_text (b := 0) (e := 4) rfl ((q _ _).mpr rfl) ((q _ _).mpr rfl) (by decide) (by decide)) (groupV_text (b := 5) (e := 7) rfl ((q _ _).mpr rfl) ((q _ _).mpr rfl) (by decide) (by decide)) (groupV_text (b := 8) (e := 10) rfl ((q _ _).mpr rfl) ((q _ _).mpr rfl) (by decide) (by decide))
    (groupV_text (b := 11) (e := 13) rfl ((q _ _).mpr rfl) ((q _ _).mpr rfl) (by decide) (by decide)) (groupV_text (b := 14) (e := 16) rfl ((q _ _).mpr rfl) ((q _ _).mpr rfl) (by decide) (by decide)) (groupV_text (b := 17) (e := 19) rfl ((q _ _).mpr rfl) ((q _ _).mpr rfl) (by decide) (by decide)) ?_
  rintro h' o tk v1 v2 v3 v4 v5 v6 ⟨t1, rfl⟩ ⟨t2, rfl⟩ ⟨t3, rfl⟩ ⟨t4, rfl⟩ ⟨t5, rfl⟩ ⟨t6, rfl⟩ F' N' I'
  exact h h' o tk t1 t2 t3 t4 t5 t6 F' N' I'
noncomputable abbrev matchObjN (P : Addr) (l : List Nat) (t : Tok) (tt : Addr) : Obj := { cls := .type "re.Match", data := .fields #[.str (tx l) t, .ref P, .int 0 0, .int l.length 0, .int 6 0, .ref tt] }
theorem matchN_call {Q : Value → Shared → Prop} (F : Fr h₀ L s.heap m) (N : News h₀ L s.heap news) (X : K.In h₀) (hK : PatK w K P) (h1 : 20 ≤ l.length) (hl : l.length ≤ 1000) (hs : stamped l)
    (h : ∀ tt D h', Fr h₀ L h' m → News h₀ L h' ((D, matchObjN P l t tt) :: (tt, { cls := .type "tuple", data := .seq SPANS }) :: news) → (∀ p ∈ news, p.1 < tt) → tt < D → Q (.ref D) { s with heap := h' }) :
    wpAny (model prog w) A (call (.builtin "re.Pattern.match") [.ref P, .str (tx l) t]) Q E s := by
  obtain ⟨gi, ct, hP, hN⟩ := hK.pat X
  obtain ⟨_, _, src, ts, tf, ix, hp, _⟩ := hK.at_
  have F1 := F.push { cls := .type "tuple", data := .seq SPANS }
  have N1 := News.push F N { cls := .type "tuple", data := .seq SPANS }
  have N2 := News.push F1 N1 (matchObjN P l t s.heap.objs.size)
  rw [Heap.size_push] at N2
  exact wpAny_call_entry slot_match ⟨_, F.keep _ _ (X _ _ hp), rfl⟩ entry_match (matchN_ (hP.keeps F.keep) h1 hl hs ⟨_, rfl, h _ _ _ (F1.push _) N2 (fun p hp => Heap.lt_size (N p hp).1) (Nat.lt_succ_self _)⟩) (args_match _ _)
theorem noMatch_call {Q : Value → Shared → Prop} (F : Fr h₀ L s.heap m) (X : K.In h₀) (hK : PatK w K P) (R : Refused l) (h : Q .none s) :
    wpAny (model prog w) A (call (.builtin "re.Pattern.match") [.ref P, .str (tx l) t]) Q E s := by
  obtain ⟨gi, ct, hP, hN⟩ := hK.pat X
  obtain ⟨_, _, src, ts, tf, ix, hp, _⟩ := hK.at_
  exact wpAny_call_entry slot_match ⟨_, F.keep _ _ (X _ _ hp), rfl⟩ entry_match (noMatch_ (hP.keeps F.keep) R ⟨_, rfl, h⟩) (args_match _ _)
theorem groupdictN_method {D tt : Addr} {pl : Sem Bool} {Q : Value × List Value → Shared → Prop} (N : News h₀ L s.heap news) (hm : (D, matchObjN P l t tt) ∈ news) (h : Q (.builtin "re.Match.groupdict", [.ref D]) s) : wpAny (model prog w) A (getMethod (.ref D) "groupdict" pl) Q E s :=
  getMethod_builtin ⟨_, (N _ hm).1, rfl⟩ pa_mat slot_groupdict type_groupdict (fun a e => by cases e; exact ⟨_, (N _ hm).1, rfl⟩) h
theorem piecesN (y m d h mi sc : Int) (r : List Nat) (t1 t2 t3 t4 t5 t6 : Tok) : FIELDS (stampL y m d h mi sc ++ r) t1 t2 t3 t4 t5 t6 = [(nYear, .str (tx (dg4 y)) t1), (nMonth, .str (tx (dg2 m)) t2), (nDay, .str (tx (dg2 d)) t3), (nHour, .str (tx (dg2 h)) t4), (nMinute, .str (tx (dg2 mi)) t5), (nSecond, .str (tx (dg2 sc)) t6)] := rfl
theorem groupdictN_call {D tt : Addr} {y mo d hr mi sc : Int} {r : List Nat} {Q : Value → Shared → Prop} (F : Fr h₀ L s.heap m) (N : News h₀ L s.heap news) (X : K.In h₀) (hK : PatK w K P) (hm : (D, matchObjN P (stampL y mo d hr mi sc ++ r) t tt) ∈ news) (ht : (tt, { cls := .type "tuple", data := .seq SPANS }) ∈ news)
    (h : ∀ G o h' tk t1 t2 t3 t4 t5 t6, Fr h₀ L h' m → News h₀ L h' ((G, o) :: news) → (∀ p ∈ news, p.1 < G) → (G == sysModules) = (s.heap.objs.size == sysModules) → o.IsDictOf (strKind prog w) [(nYear, .str (tx (dg4 y)) t1), (nMonth, .str (tx (dg2 mo)) t2), (nDay, .str (tx (dg2 d)) t3), (nHour, .str (tx (dg2 hr)) t4), (nMinute, .str (tx (dg2 mi)) t5), (nSecond, .str (tx (dg2 sc)) t6)] → Q (.ref G) { s with heap := h', toks := tk }) :
    wpAny (model prog w) A (call (.builtin "re.Match.groupdict") [.ref D]) Q E s := by
  obtain ⟨gi, ct, hP, hN⟩ := hK.pat X
  exact wpAny_call_entry slot_groupdict ⟨_, (N _ hm).1, rfl⟩ entry_groupdict (groupdictN_ F N hP hN (N _ hm).1 (N _ ht).1 fun h' o tk t1 t2 t3 t4 t5 t6 F' N' I' => ⟨_, rfl, h _ o h' tk t1 t2 t3 t4 t5 t6 F' N' (fun p hp => Heap.lt_size (N p hp).1) rfl (piecesN y mo d hr mi sc r t1 t2 t3 t4 t5 t6 ▸ I')⟩) (args_groupdict _)
end
theorem stampL_sameR (y m d h mi sc : Int) (r : List Nat) : stamped (stampL y m d h mi sc ++ r) := by
  have q := stampL_same y m d h mi sc
  refine ⟨fun i hi => ?_⟩
  have hi20 : i < 20 := hi
  have e : (stampL y m d h mi sc ++ r).toArray.getD i 0 = (stampL y m d h mi sc).toArray.getD i 0 := by
    simp only [Array.getD_eq_getD_getElem?, List.getElem?_toArray]
    rw [List.getElem?_append_left (by rw [show (stampL y m d h mi sc).length = 20 from rfl]; exact hi20)]
  rw [e]
  exact q.ok i hi
theorem line_ge (y m d h mi sc : Int) (r : List Nat) : 20 ≤ (stampL y m d h mi sc ++ r).length := by rw [List.length_append, show (stampL y m d h mi sc).length = 20 from rfl]; omega
theorem line_le (y m d h mi sc : Int) {r : List Nat} (hr : r.length ≤ 900) : (stampL y m d h mi sc ++ r).length ≤ 1000 := by rw [List.length_append, show (stampL y m d h mi sc).length = 20 from rfl]; omega
end Mine.Internal

end
section
open PySem PySem.W PyProof.Rows PySem.Calls PySem.Spec PySem.Builtin.Re
set_option maxRecDepth 100000
set_option linter.unusedVariables false
namespace Mine.Internal
noncomputable def ORI : List Nat := dg4 1 ++ [45] ++ dg2 1 ++ [45] ++ dg2 1 ++ [90]
noncomputable def T1 : Array Nat := #[48, 48, 48, 49, 45, 48, 49, 45, 48, 49, 90]
theorem ori_T1 : ORI.toArray = T1 := by decide +kernel
theorem ori_len : ORI.length = 11 := rfl
@[irreducible] noncomputable def M1 : SM := Sre.forMatch CODE T1 6 0 11 false false
noncomputable def MARKS1 : Array (Option Nat) := #[some 0, some 4, some 5, some 7, some 8, some 10, none, none, none, none, none, none]
noncomputable def chk1 : Option SM → Bool
  | some m => (match m.outcome with | some .matched => true | _ => false) && m.lastindex == 3 && m.start == 0 && m.handed == 11 && m.lastmark == 5 && m.marks == MARKS1
  | none => false
theorem start1_ : Sre.forMatch CODE T1 6 0 11 false false = M1 := by with_unfolding_all rfl
theorem chk10 : chk1 (goes 40 M1) = true := by decide +kernel
theorem chk1_of {o : Option SM} (h : chk1 o = true) : ∃ m, o = some m ∧ m.outcome = some .matched ∧ m.lastindex = 3 ∧ m.start = 0 ∧ m.handed = 11 ∧ m.lastmark = 5 ∧ m.marks = MARKS1 := by
  cases o with
  | none => cases h
  | some m =>
    unfold chk1 at h
    simp only [Bool.and_eq_true, beq_iff_eq] at h
    obtain ⟨⟨⟨⟨⟨h1, h2⟩, h3⟩, h4⟩, h5⟩, h6⟩ := h
    refine ⟨m, rfl, ?_, h2, h3, h4, h5, h6⟩
    split at h1
    · assumption
    · cases h1
noncomputable abbrev SPANS1 : Array Value := #[.int 0 0, .int 11 0, .int 0 0, .int 4 0, .int 5 0, .int 7 0, .int 8 0, .int 10 0, .int (-1) 0, .int (-1) 0, .int (-1) 0, .int (-1) 0, .int (-1) 0, .int (-1) 0]
noncomputable abbrev matchObj1 (P : Addr) (t : Tok) (tt : Addr) : Obj := { cls := .type "re.Match", data := .fields #[.str (tx ORI) t, .ref P, .int 0 0, .int 11 0, .int 3 0, .ref tt] }
section
variable {prog : Program} {w : World} {A : Around} {E : Value → Shared → Prop} {s : Shared}
theorem target1_ {P gi ct : Addr} {t : Tok} {Q : ReTarget → Shared → Prop} (hP : PatAt s.heap P gi ct)
    (hq : Q { pattern := .ref P, string := .str (tx ORI) t, code := CODE, text := ORI.toArray, kind := 0, groups := 6, pos := 0, lim := 11 } s) :
    wpAny (model prog w) A (reTarget "re.Pattern.match" "match" ⟨[.ref P, .str (tx ORI) t], []⟩) Q E s := by
  obtain ⟨⟨dt, sl, src, ts, tf, ix, hp⟩, ⟨dt', sl', n, hc⟩⟩ := hP
  unfold reTarget
  dsimp only
  rw [named1]
  refine wpAny_bind (wpAny_pure ?_)
  dsimp only
  refine wpAny_bind (wpAny_pure ?_)
  refine wpAny_bind (wpAny_pure ?_)
  refine wpAny_bind (wpAny_fieldsOf hp rfl ?_)
  refine wpAny_bind (textOf_ ORI t ?_)
  refine wpAny_ifF Bool.false_ne_true ?_
  refine wpAny_ifF Bool.false_ne_true ?_
  refine wpAny_bind (wpAny_ifF Bool.false_ne_true (wpAny_pure ?_))
  refine wpAny_bind (rawItems_ hc rfl (wpAny_pure ?_))
  have e1 : min (Int.toNat 0) ORI.toArray.size = 0 := Nat.zero_min _
  have e2 : min (2 ^ 63 - 1 : Int).toNat ORI.toArray.size = 11 := by rw [List.size_toArray, ori_len]; decide
  dsimp only
  rw [e1, e2, codev]
  exact hq
theorem newMatch1_ {P S : Value} {m : SM} {Q : Value → Shared → Prop} (h2 : m.lastindex = 3) (h3 : m.start = 0) (h4 : m.handed = 11) (h5 : m.lastmark = 5) (h6 : m.marks = MARKS1)
    (hq : Q (.ref (s.heap.objs.size + 1)) { s with heap := (s.heap.push { cls := .type "tuple", data := .seq SPANS1 }).push { cls := .type "re.Match", data := .fields #[S, P, .int 0 0, .int 11 0, .int 3 0, .ref s.heap.objs.size] } }) :
    wpAny (model prog w) A (reNewMatch P S 6 0 11 m) Q E s := by
  unfold reNewMatch
  rw [h2, h3, h4, h5, h6]
  refine wpAny_ifF Bool.false_ne_true ?_
  unfold newTuple newFields
  refine wpAny_bind (wpAny_newObj_type (data := .seq SPANS1) (wpAny_newObj_type (data := .fields #[S, P, .int 0 0, .int 11 0, .int 3 0, .ref s.heap.objs.size]) ?_ (Nat.le_of_ble_eq_true rfl)) (Nat.le_of_ble_eq_true rfl))
  rw [Heap.size_push]
  exact hq
theorem match1_ {P gi ct : Addr} {t : Tok} {Q : PySem.Fin → Shared → Prop} (hP : PatAt s.heap P gi ct)
    (hq : Q (.done (.ret (.ref (s.heap.objs.size + 1)))) { s with heap := (s.heap.push { cls := .type "tuple", data := .seq SPANS1 }).push (matchObj1 P t s.heap.objs.size) }) :
    wpAny (model prog w) A (Builtin.«re.Pattern.match» ⟨[.ref P, .str (tx ORI) t], []⟩) Q E s := by
  unfold Builtin.«re.Pattern.match»
  refine wpAny_bind (target1_ hP ?_)
  unfold reAnswer
  dsimp only
  rw [ori_T1, start1_]
  obtain ⟨m, hm, h1, h2, h3, h4, h5, h6⟩ := chk1_of chk10
  have k := fun Q => runToEnd_ (M := model prog w) (A := A) (E := E) (s := s) (Q := Q) hm (by decide) h1
  refine wpAny_bind (k _ ?_)
  dsimp only
  exact wpAny_bind (newMatch1_ h2 h3 h4 h5 h6 (wpAny_pure hq))
noncomputable abbrev FIELDS1 (t1 t2 t3 : Tok) : List (Str × Value) :=
  [(nYear, .str (tx (dg4 1)) t1), (nMonth, .str (tx (dg2 1)) t2), (nDay, .str (tx (dg2 1)) t3), (nHour, .none), (nMinute, .none), (nSecond, .none)]
theorem groupNone_ {x : ReFound} {d : Value} {g : Nat} {Q : Value → Shared → Prop} (hb : x.spans.getD (2 * g) (-1) = (-1 : Int)) (h : Q d s) :
    wpAny (model prog w) A (reGroupText x g d) Q E s := by
  unfold reGroupText
  rw [hb]
  refine wpAny_ifT ?_ (wpAny_pure h)
  rw [Bool.or_eq_true]; exact .inl rfl
variable {h₀ : Heap} {L : Addr} {m : Str → Option Value} {news : List (Addr × Obj)}
theorem groupV_none {x : ReFound} {g : Nat} (hb : x.spans.getD (2 * g) (-1) = (-1 : Int)) : GroupV prog w A x g .none (fun v => v = .none) :=
  fun _ _ _ h => groupNone_ hb (h _ _ rfl)
theorem groupdict1_ {P gi ct mt tt : Addr} {t : Tok} {Q : PySem.Fin → Shared → Prop} (F : Fr h₀ L s.heap m) (N : News h₀ L s.heap news) (hP : PatAt h₀ P gi ct) (hN : NamesAt w h₀ gi)
    (hM : s.heap.get? mt = some (matchObj1 P t tt)) (hT : s.heap.get? tt = some { cls := .type "tuple", data := .seq SPANS1 })
    (h : ∀ h' o tk t1 t2 t3, Fr h₀ L h' m → News h₀ L h' ((s.heap.objs.size, o) :: news) → o.IsDictOf (strKind prog w) (FIELDS1 t1 t2 t3) → Q (.done (.ret (.ref s.heap.objs.size))) { s with heap := h', toks := tk }) :
    wpAny (model prog w) A (Builtin.«re.Match.groupdict» ⟨[.ref mt], []⟩) Q E s := by
  have q : ∀ i v, (SPANS1.map reRawOf).getD i (-1) = v ↔ (#[0, 11, 0, 4, 5, 7, 8, 10, -1, -1, -1, -1, -1, -1] : Array Int).getD i (-1) = v := fun i v => by
    rw [show SPANS1.map reRawOf = #[0, 11, 0, 4, 5, 7, 8, 10, -1, -1, -1, -1, -1, -1] from by decide +kernel]
  refine groupdictG F N hP hN hM hT (by decide +kernel) (groupV_text (b := 0) (e := 4) rfl ((q _ _).mpr rfl) ((q _ _).mpr rfl) (by decide) (by decide)) (groupV_text (b := 5) (e := 7) rfl ((q _ _).mpr rfl) ((q _ _).mpr rfl) (by decide) (by decide)) (groupV_text (b := 8) (e := 10) rfl ((q _ _).mpr rfl) ((q _ _).mpr rfl) (by decide) (by decide))
    (groupV_none ((q _ _).mpr rfl)) (groupV_none ((q _ _).mpr rfl)) (groupV_none ((q _ _).mpr rfl)) ?_
  rintro h' o tk v1 v2 v3 v4 v5 v6 ⟨t1, rfl⟩ ⟨t2, rfl⟩ ⟨t3, rfl⟩ rfl rfl rfl F' N' I'
  exact h h' o tk t1 t2 t3 F' N' I'
end
section
variable {prog : Program} {w : World} {A : Around} {E : Value → Shared → Prop} {s : Shared} {K : Frag} {h₀ : Heap} {L : Addr} {m : Str → Option Value} {news : List (Addr × Obj)} {P gi ct : Addr} {t : Tok}
theorem match1_call {Q : Value → Shared → Prop} (F : Fr h₀ L s.heap m) (N : News h₀ L s.heap news) (X : K.In h₀) (hK : PatK w K P)
    (h : ∀ tt D h', Fr h₀ L h' m → News h₀ L h' ((D, matchObj1 P t tt) :: (tt, { cls := .type "tuple", data := .seq SPANS1 }) :: news) → (∀ p ∈ news, p.1 < tt) → tt < D → Q (.ref D) { s with heap := h' }) :
    wpAny (model prog w) A (call (.builtin "re.Pattern.match") [.ref P, .str (tx ORI) t]) Q E s := by
  obtain ⟨gi, ct, hP, hN⟩ := hK.pat X
  obtain ⟨_, _, src, ts, tf, ix, hp, _⟩ := hK.at_
  have F1 := F.push { cls := .type "tuple", data := .seq SPANS1 }
  have N1 := News.push F N { cls := .type "tuple", data := .seq SPANS1 }
  have N2 := News.push F1 N1 (matchObj1 P t s.heap.objs.size)
  rw [Heap.size_push] at N2
  exact wpAny_call_entry slot_match ⟨_, F.keep _ _ (X _ _ hp), rfl⟩ entry_match (match1_ (hP.keeps F.keep) ⟨_, rfl, h _ _ _ (F1.push _) N2 (fun p hp => Heap.lt_size (N p hp).1) (Nat.lt_succ_self _)⟩) (args_match _ _)
theorem groupdict1_method {D tt : Addr} {pl : Sem Bool} {Q : Value × List Value → Shared → Prop} (N : News h₀ L s.heap news) (hm : (D, matchObj1 P t tt) ∈ news) (h : Q (.builtin "re.Match.groupdict", [.ref D]) s) : wpAny (model prog w) A (getMethod (.ref D) "groupdict" pl) Q E s :=
  getMethod_builtin ⟨_, (N _ hm).1, rfl⟩ pa_mat slot_groupdict type_groupdict (fun a e => by cases e; exact ⟨_, (N _ hm).1, rfl⟩) h
theorem groupdict1_call {D tt : Addr} {Q : Value → Shared → Prop} (F : Fr h₀ L s.heap m) (N : News h₀ L s.heap news) (X : K.In h₀) (hK : PatK w K P) (hm : (D, matchObj1 P t tt) ∈ news) (ht : (tt, { cls := .type "tuple", data := .seq SPANS1 }) ∈ news)
    (h : ∀ G o h' tk t1 t2 t3, Fr h₀ L h' m → News h₀ L h' ((G, o) :: news) → (∀ p ∈ news, p.1 < G) → (G == sysModules) = (s.heap.objs.size == sysModules) → o.IsDictOf (strKind prog w) (FIELDS1 t1 t2 t3) → Q (.ref G) { s with heap := h', toks := tk }) :
    wpAny (model prog w) A (call (.builtin "re.Match.groupdict") [.ref D]) Q E s := by
  obtain ⟨gi, ct, hP, hN⟩ := hK.pat X
  exact wpAny_call_entry slot_groupdict ⟨_, (N _ hm).1, rfl⟩ entry_groupdict (groupdict1_ F N hP hN (N _ hm).1 (N _ ht).1 fun h' o tk t1 t2 t3 F' N' I' => ⟨_, rfl, h _ o h' tk t1 t2 t3 F' N' (fun p hp => Heap.lt_size (N p hp).1) rfl I'⟩) (args_groupdict _)
end
end Mine.Internal

end
section
open PySem PySem.W PyProof.Rows PySem.Calls PySem.Spec PySem.Builtin._datetime
set_option maxRecDepth 100000
set_option linter.unusedVariables false
namespace Mine.Internal
section
variable {prog : Program} {w : World} {A : Around} {E : Value → Shared → Prop} {s : Shared}
theorem bindClock3_ {y m d : Int} {t1 t2 t3 : Tok} {Q : List (Option Int) × Option Value × Option Int → Shared → Prop} (hy : 0 ≤ y ∧ y < 10000) (hm : 0 ≤ m ∧ m < 10000) (hd : 0 ≤ d ∧ d < 10000)
    (hq : Q ([some y, some m, some d, none, none, none, none], none, none) s) :
    wpAny (model prog w) A (dtBindClock "datetime.datetime.__new__" "function" ["year", "month", "day"] 3 [.int y t1, .int m t2, .int d t3] []) Q E s := by
  unfold dtBindClock
  dsimp only
  refine wpAny_ifF (show ¬ (3 > 9) from by decide) ?_
  refine wpAny_ifF Bool.false_ne_true ?_
  show wpAny _ _ (forIn [(Str.ofString "year", 0), (Str.ofString "month", 1), (Str.ofString "day", 2), (Str.ofString "hour", 3), (Str.ofString "minute", 4), (Str.ofString "second", 5), (Str.ofString "microsecond", 6)] #[] _ >>= _) _ _ _
  refine wpAny_bind ?_
  rw [List.forIn_cons]
  refine wpAny_bind (wpAny_ifF Bool.false_ne_true (wpAny_bind (cint_ hy.1 hy.2 (wpAny_pure ?_))))
  dsimp only
  rw [List.forIn_cons]
  refine wpAny_bind (wpAny_ifF Bool.false_ne_true (wpAny_bind (cint_ hm.1 hm.2 (wpAny_pure ?_))))
  dsimp only
  rw [List.forIn_cons]
  refine wpAny_bind (wpAny_ifF Bool.false_ne_true (wpAny_bind (cint_ hd.1 hd.2 (wpAny_pure ?_))))
  dsimp only
  rw [List.forIn_cons]
  refine wpAny_bind (wpAny_ifF (show ¬ (3 < 3) from by decide) (wpAny_pure ?_))
  dsimp only
  rw [List.forIn_cons]
  refine wpAny_bind (wpAny_ifF (show ¬ (4 < 3) from by decide) (wpAny_pure ?_))
  dsimp only
  rw [List.forIn_cons]
  refine wpAny_bind (wpAny_ifF (show ¬ (5 < 3) from by decide) (wpAny_pure ?_))
  dsimp only
  rw [List.forIn_cons]
  refine wpAny_bind (wpAny_ifF (show ¬ (6 < 3) from by decide) (wpAny_pure ?_))
  dsimp only
  rw [List.forIn_nil]
  refine wpAny_pure ?_
  refine wpAny_bind (wpAny_ifF (show ¬ (3 > 8) from by decide) (wpAny_pure ?_))
  refine wpAny_bind (wpAny_pure ?_)
  refine wpAny_bind (m := dtBind _ _ _ _ _ _) (wpAny_of_eq (a := [some (.int y t1), some (.int m t2), some (.int d t3), none, none, none, none, none, none]) ?_ ?_)
  · with_unfolding_all rfl
  · exact wpAny_pure hq
theorem dt_new3_ {t1 t2 t3 : Tok} {Q : PySem.Fin → Shared → Prop}
    (hq : Q (.done (.ret (.ref s.heap.objs.size))) { s with heap := s.heap.push (dtObj 1 1 1 0 0 0) }) :
    wpAny (model prog w) A (Builtin.«datetime.datetime.__new__» ⟨[.type "datetime.datetime", .int 1 t1, .int 1 t2, .int 1 t3], []⟩) Q E s := by
  unfold Builtin.«datetime.datetime.__new__»
  refine wpAny_bind (newClass_ ?_)
  refine wpAny_ifF Bool.false_ne_true ?_
  refine wpAny_bind (bindClock3_ (by omega) (by omega) (by omega) ?_)
  dsimp only [Option.getD]
  refine wpAny_bind ?_
  unfold newStampRaw checkDate checkTime
  dsimp only
  refine wpAny_bind ?_
  rw [daysIn (by omega)]
  refine wpAny_ifF (by decide) ?_
  refine wpAny_ifF (by decide) ?_
  refine wpAny_ifF (by decide) (wpAny_pure ?_)
  refine wpAny_bind ?_
  refine wpAny_ifF (by decide) ?_
  refine wpAny_ifF (by decide) ?_
  refine wpAny_ifF (by decide) ?_
  refine wpAny_ifF (by decide) (wpAny_ifF (by decide) (wpAny_pure ?_))
  unfold checkTzinfo
  refine wpAny_bind (wpAny_ifF Bool.false_ne_true (wpAny_pure ?_))
  refine wpAny_newObj_type ?_ (Nat.le_of_ble_eq_true rfl)
  exact wpAny_pure hq
theorem typeCall_dt3 (a b c : Value) : checkTypeCall "datetime.datetime" ⟨[a, b, c], []⟩ = pure () := by kernel_rfl
theorem newCall_dt3 (a b c : Value) : checkBuiltinCall "datetime.datetime.__new__" ⟨[.type "datetime.datetime", a, b, c], []⟩ = pure () := by kernel_rfl
theorem args_init_4 (o a b c : Value) : argsOk "object.__init__" ⟨[o, a, b, c], []⟩ := by
  unfold argsOk; rw [signature?_of (id := "object.__init__") (n := ['_', '_', 't', 'i', 'n', 'i', '_', '_']) (o := ['t', 'c', 'e', 'j', 'b', 'o']) (by kernel_rfl) PySem.F.owner_object]; kernel_rfl
noncomputable def dtSpec3 : PySem.Spec := fun A R s => R (.ok (.ret (.ref s.heap.objs.size))) { s with heap := s.heap.push (dtObj 1 1 1 0 0 0) }
theorem meets_dt3 {t1 t2 t3 : Tok} :
    Meets (Builtin.«datetime.datetime.__new__» ⟨[.type "datetime.datetime", .int 1 t1, .int 1 t2, .int 1 t3], []⟩) dtSpec3 :=
  fun prog w A R s x => dt_new3_ x
variable {h₀ : Heap} {L : Addr} {mp : Str → Option Value} {news : List (Addr × Obj)}
theorem dt_3K {t1 t2 t3 : Tok} {Q : Value → Shared → Prop} (F : Fr h₀ L s.heap mp) (N : News h₀ L s.heap news)
    (hq : ∀ D h', Fr h₀ L h' mp → News h₀ L h' ((D, dtObj 1 1 1 0 0 0) :: news) → (∀ p ∈ news, p.1 < D) → Q (.ref D) { s with heap := h' }) :
    wpAny (model prog w) A (call (.type "datetime.datetime") [.int 1 t1, .int 1 t2, .int 1 t3]) Q E s :=
  callType_new called_dt (by decide +kernel) (typeCall_dt3 _ _ _) (newCall_dt3 _ _ _) (fun obj => args_init_4 _ _ _ _) entry_dt_new meets_dt3
    ⟨⟨_, Heap.get?_push_size _ rfl, rfl⟩, hq _ _ (F.push _) (News.push F N (dtObj 1 1 1 0 0 0)) fun p hp => Heap.lt_size (N p hp).1⟩
end
theorem ori_str : Str.ofString "0001-01-01Z" = tx ORI := by rw [tx_def]; decide +kernel
theorem match1_call' {prog : Program} {w : World} {A : Around} {E : Value → Shared → Prop} {s : Shared} {K : Frag} {h₀ : Heap} {L : Addr} {m : Str → Option Value} {news : List (Addr × Obj)} {P : Addr} {t : Tok} {Q : Value → Shared → Prop} (F : Fr h₀ L s.heap m) (N : News h₀ L s.heap news) (X : K.In h₀) (hK : PatK w K P)
    (h : ∀ tt D h', Fr h₀ L h' m → News h₀ L h' ((D, matchObj1 P t tt) :: (tt, { cls := .type "tuple", data := .seq SPANS1 }) :: news) → (∀ p ∈ news, p.1 < tt) → tt < D → Q (.ref D) { s with heap := h' }) :
    wpAny (model prog w) A (call (.builtin "re.Pattern.match") [.ref P, .str (Str.ofString "0001-01-01Z") t]) Q E s := by
  rw [ori_str]; exact match1_call F N X hK h
end Mine.Internal

end
section
open PySem PySem.W PyProof.Rows PySem.Calls PySem.Spec
set_option maxRecDepth 100000
namespace Mine.Internal
theorem isExc_Attr : isSubtype (.type "AttributeError") (.type "BaseException") = pure true := by rw [isSubtype_type]; kernel_rfl
theorem notTuple_Attr : isSubtype (.type ((Manifest.find? "AttributeError").elim "type" fun x => x.metatype)) (.type "tuple") = pure false := by
  rw [show ((Manifest.find? "AttributeError").elim "type" fun x => x.metatype) = "type" from by kernel_rfl, isSubtype_type]; kernel_rfl
theorem boot_Attr : bootBuiltins (Str.ofString "AttributeError") = some (.type "AttributeError") := by kernel_rfl
theorem none_groupdict : typeLookup (.type "NoneType") "groupdict" = pure none := by rw [typeLookup_type, builtinLookup_eq_fast]; kernel_rfl
theorem none_ga : typeLookup (.type "NoneType") "__getattribute__" = pure (some (.builtin "object.__getattribute__")) := PySem.F.slot_NoneType_getattribute.lookup
section
variable {prog : Program} {w : World} {A : Around} {E : Value → Shared → Prop} {s : Shared}
theorem getAttr_noneF {name : Str} {Q : Value → Shared → Prop} (hm : typeLookup (.type "NoneType") name = pure none) (hz : name.length + 100 ≤ sizeLine) (hA : A.handled = none)
    (h : ∀ h' tk e, Heap.NewExcOf s.heap h' e "AttributeError" → E (.ref e) { s with heap := h', toks := tk }) : wpAny (model prog w) A (getAttr (.none) name) Q E s := by
  have fT : ∀ s' : Shared, s'.TypeIs (.none) "NoneType" := fun _ => rfl
  have fS := sub_AttributeError
  have fL := PySem.F.slot_NoneType_getattribute.lookup
  have fB := PySem.F.slot_NoneType_getattribute.bind (.none)
  have fN := am_none_getattr_none
  obtain ⟨hp, gn, dr, tk, os⟩ := s
  unfold getAttr getAttrBy
  repeat (any_goals (first
    | assumption
    | ((with_reducible show wpAny _ _ (call (Value.builtin "object.__getattribute__") _ _) _ _ _)
       refine call_meets PySem.F.slot_NoneType_getattribute (fT _) PySem.F.entry_object_getattribute (PySem.F.args_object_getattribute_2 _ _) (meets_getattribute_miss_none name _ hm hz) ⟨hA, fun h' tk' e hx => ?_⟩)
    | wp_step))
  obtain ⟨t', u', he⟩ := hx.there
  show wpAny _ _ (getattributeRaised _ _ _ _ _ _ _) _ _ _
  unfold getattributeRaised
  repeat (any_goals (first | assumption | wp_step))
  exact h _ _ _ hx.of
theorem getMethod_noneG {nm : Str} {pl : Sem Bool} {Q : Value × List Value → Shared → Prop} (hm : typeLookup (.type "NoneType") nm = pure none) (hz : nm.length + 100 ≤ sizeLine) (hA : A.handled = none) (h : ∀ h' tk e, Heap.NewExcOf s.heap h' e "AttributeError" → E (.ref e) { s with heap := h', toks := tk }) :
    wpAny (model prog w) A (getMethod .none nm pl) Q E s := by
  have hT : s.TypeIs (.none) "NoneType" := rfl
  unfold getMethod
  refine wpAny_bind (wpAny_specialOf hT none_ga ?_)
  refine wpAny_ifF (by decide +kernel) ?_
  refine wpAny_bind (wpAny_specialOf hT am_none_getattr_none ?_)
  refine wpAny_ifF Bool.false_ne_true ?_
  refine wpAny_bind (wpAny_specialOf hT hm ?_)
  exact wpAny_bind (getAttr_noneF hm hz hA h)
theorem getMethod_none {pl : Sem Bool} {Q : Value × List Value → Shared → Prop} (hA : A.handled = none) (h : ∀ h' tk e, Heap.NewExcOf s.heap h' e "AttributeError" → E (.ref e) { s with heap := h', toks := tk }) :
    wpAny (model prog w) A (getMethod .none (Str.ofString "groupdict") pl) Q E s :=
  getMethod_noneG none_groupdict (by rw [sizeLine_eq]; decide +kernel) hA h
end
section
variable {M : Model} {A : Around} {E : Value → Shared → Prop} {s' : Shared} {base g h : Heap} {outer : List Env} {L a e : Addr} {m : Str → Option Value} {name : Str} {scope : Scope} {cd : Value} {Q : Unit → Shared → Prop} {news : List (Addr × Obj)} {cls : String}
theorem fs_of {env : Env} {l : List Env} (he : env ∈ l) {b : Addr} (hb : env.frame = some b) : b ∈ frs l := List.mem_filterMap.mpr ⟨env, he, hb⟩
theorem leave_ofS (K : Below A base outer g) (hx : Heap.NewExcOf h s'.heap e cls) (F : Fr g L h m) (N : News g L h news)
    (hQ : ∀ h', RaisedSN base g outer e (.type cls) news h' → RaisedN base outer e (.type cls) news h' → g.UpToSlots h' → Q () { s' with heap := h' }) (hk : autoParam (scope.kind = .function) PySem.W.call_K._auto_4) :
    wpAny M (A.deeper (envOf name scope L a cd)) (leaving (envOf name scope L a cd) (.ref e)) Q E s' := by
  have K' := K.push (name := name) (a := a) (cd := cd) F hk
  generalize hl : envOf name scope L a cd :: outer = l at K'
  have own : ∀ {b}, b ∈ frs l → b = L ∨ b ∈ frs outer := fun {b} hb => kts_mem (by rw [hl]; exact hb)
  have stay : ∀ {b o}, h.get? b = some o → b ∉ frs l → (hideAll h (frs l)).get? b = some o := fun q n => hideAll_get _ q n
  have old : ∀ {b o}, base.get? b = some o → b ∉ frs l := fun {b o} q hb => by
    rw [(K'.frames.mem hb).1] at q; cases q
  have notL : ∀ {b o}, g.get? b = some o → b ≠ L := fun q z => by rw [z, kts_self F] at q; cases q
  have mine : ∀ q ∈ news, q.1 ∉ frs l := fun q hq hb => by
    rcases own hb with z | z
    · exact (N q hq).2.1 z
    · obtain ⟨o, ho, _⟩ := (K.frames.mem z).2
      rw [(N q hq).2.2] at ho; cases ho
  have gone : (hideAll h (frs l)).get? e = none := by
    cases q : (hideAll h (frs l)).get? e with
    | none => rfl
    | some o => have := of_hideAll _ q; rw [hx.new] at this; cases this
  obtain ⟨ob, vs, he, hcls, hd, h1⟩ := hx.there
  obtain ⟨v0, h0⟩ : ∃ v0, vs[0]? = some v0 := by
    have := (Array.getElem?_eq_some_iff.mp h1).1
    exact ⟨vs[0]'(by omega), by simp⟩
  have fr : s'.heap.FunFrames (hideAll h (frs l)) l := (funFrames_hide K'.frames fun env he b hb => fs_of he hb).of_keeps fun b o hb _ => ⟨o, hx.keeps b o hb, rfl⟩
  subst hl
  refine wpAny_leaving_firstW (a0 := v0) K'.stack fr rfl he (fun b o hb => hx.keeps b o (of_hideAll _ hb)) gone hd h1 h0 fun h' hL => ?_
  obtain ⟨k1, ⟨_, _, k2⟩, k3, k4⟩ := hL
  have R : RaisedSN base g outer e (.type cls) news h' := ⟨_, v0, fun b o q => stay (K'.stays b o q) (old q), fun b o q n => stay (F.keep b o q) fun hb => (own hb).elim (notL q) n,
    fun q hq => ⟨stay (N q hq).1 (mine q hq), (N q hq).2.2, fresh_of_stays K.stays (N q hq).2.2⟩, k1, gone, k2, by rw [← hcls]; exact k3⟩
  exact hQ h' R R.toN (((Heap.UpToSlots.of_keeps F.keep).trans (Heap.UpToSlots.of_keeps hx.keeps)).trans k4)
end
section
variable {prog : Program} {w : World} {K : Frag} {d : Nat} {f : Addr} {args : List (Addr × Obj)} {vs : List Value} {p : Program} {loose : List Str} {mean : ExcName → Option Value} {mg mb : Str → Option Value} {dp un : Nat} {gd : Option (List Code)} {cn : Str} {cs : Scope} {a : Addr} {ccd : Value} {cl : List (Str × Addr)} {outer : List Env} {A₀ : Around} {base h₀ : Heap} {L : Addr} {m : Str → Option Value} {s : Shared} {Q E : Value → Shared → Prop} {news : List (Addr × Obj)}
theorem FnT.topV {v : Value} (C : FnT prog w K d f args vs (fun u new => new = [] ∧ u = v)) (B : Below A₀ h₀ [] h₀) (F : Fr h₀ L s.heap m) (X : K.In h₀) (N : News h₀ L s.heap news) (T : Top p loose mean mg mb h₀) (hk : cs.kind = .function) (ha : ∀ q ∈ args, q ∈ news)
    (hd : dp + d < recursionLimit) (hu : un + 12 * d < cLine)
    (ret : ∀ h' tk', Fr h₀ L h' m → News h₀ L h' news → Q v { s with heap := h', toks := tk' }) :
    wpAny (model prog w) (ktrTop dp un gd cn cs L a ccd cl []) (call (.ref f) vs) Q E s :=
  FnT.top C B F X N T hk ha hd hu fun u new h' tk' F' N' hne ok => by
    obtain ⟨rfl, rfl⟩ := ok
    exact ret h' tk' F' N'
end
section
variable {g g' h : Heap} {s : Shared} {args : List (Addr × Obj)} {fs : List Addr} {tk : Nat} {L' : Addr} {m' : Str → Option Value} {news' : List (Addr × Obj)}
theorem leaveT_val {v : Value} (T : KtsTurn fs g g') (F : Fr g' L' h m') (N : News g' L' h news') (ha : ∀ q ∈ args, q ∈ news') :
    LeaveT fs g s args (fun u new => new = [] ∧ u = v) v { s with heap := h, toks := tk } :=
  leaveT_intro T F N ha [] (fun _ h => nomatch h) (fun _ h => nomatch h) ⟨rfl, rfl⟩
end
end Mine.Internal

end
section
open PySem PySem.W PyProof.Rows PySem.Calls PySem.Spec
set_option maxRecDepth 100000
namespace Mine.Internal
section
variable {M : Model} {A : Around} {E : Value → Shared → Prop} {s : Shared}
theorem note_firstW {base : Heap} {env : Env} {outer : List Env} {L e : Addr} {oe : Obj} {vs : Array Value} {a0 : Value} {Q : Unit → Shared → Prop}
    (hfr : A.frames = some (env :: outer)) (hl : s.heap.FunFrames base (env :: outer)) (hf : env.frame = some L)
    (he : s.heap.get? e = some oe) (hkb : base.StaysIn s.heap) (hen : base.get? e = none) (hd : oe.data = .fields vs) (h1 : vs[1]? = some .none) (h0 : vs[0]? = some a0)
    (h : ∀ h', Heap.NotedW base (env :: outer) e oe.cls a0 (rawInt L) s.heap h' → Q () { s with heap := h' }) : wpAny M A (noteFrame (.ref e) env) Q E s := by
  unfold noteFrame
  simp only [hf]
  refine wpAny_bind (wpAny_field he hd h1 ?_)
  rw [if_neg (by decide)]
  exact wpAny_entryW hfr hl hf he hkb hen hd (Array.getElem?_eq_some_iff.mp h1).1 h0 h
end
section
variable {prog : Program} {w : World} {A₀ : Around} {E : Value → Shared → Prop} {s' : Shared} {base g g₀ h : Heap} {outer : List Env} {L a e : Addr} {m : Str → Option Value} {name : Str} {scope : Scope} {cd : Value}
  {b₀ : Stmt} {suite : List Stmt} {pos np : Pos} {rest : List ExceptHandler} {Q : Flow → Shared → Prop} {news : List (Addr × Obj)} {KF : Frag}
  {p : Program} {loose : List Str} {mean : ExcName → Option Value} {mg mb : Str → Option Value} {x : Str} {X T' : String}
theorem caught_own (hx : Heap.NewExc h s'.heap e X) (F : Fr g L h m) (N : News g L h news) (K : Below A₀ base outer g) (XB : KF.In base) (TB : Top p loose mean mg mb base)
    (D : KtsDicts (outer.filterMap (·.frame)) g) (T0 : KtsTurn (outer.filterMap (·.frame)) g₀ g)
    (ex : nsIn KF mainGlobals x = some none) (hv : bootBuiltins x = some (.type T')) (hn' : x ≠ "__name__")
    (hexc : isSubtype (.type T') (.type "BaseException") = pure true) (hnt : isSubtype (.type ((Manifest.find? T').elim "type" fun y => y.metatype)) (.type "tuple") = pure false) (hsub : isSubtype (.type X) (.type T') = pure true)
    (k : ∀ h' g', KtsTurn (outer.filterMap (·.frame)) g₀ g' → Fr g' L h' m → News g' L h' news → Below A₀ base outer g' → KF.In g' → Top p loose mean mg mb g' → KtsDicts (outer.filterMap (·.frame)) g' →
      wpAny (model prog w) ((A₀.deeper (envOf name scope L a cd)).mark (some (.ref e))) (execs (b₀ :: suite) (envOf name scope L a cd)) Q E { s' with heap := h' })
    (hk : autoParam (scope.kind = .function) PySem.W.call_K._auto_4) (hxx : autoParam ((envOf name scope L a cd).kindOf x = some .globalImplicit) PySem.W.call_K._auto_4) (hd : autoParam ((x == ("__debug__" : Str)) = false) PySem.ldc._auto_1)
    (hE : autoParam (PassesOwnAt (model prog w) ((A₀.deeper (envOf name scope L a cd)).mark (some (.ref e))) (A₀.deeper (envOf name scope L a cd)) (envOf name scope L a cd) E) PySem.addAnyI._auto_1) :
    wpAny (model prog w) (A₀.deeper (envOf name scope L a cd)) (noteFrame (.ref e) (envOf name scope L a cd))
      (fun _ s₂ => wpAny (model prog w) (A₀.deeper (envOf name scope L a cd)) (setFlight (.ref e) none) (fun _ s₃ =>
        wpAny (model prog w) (A₀.deeper (envOf name scope L a cd)) (handleBy (.ref e) (envOf name scope L a cd) (.ExceptHandler (some (.Name x np)) none (b₀ :: suite) pos :: rest)) Q E s₃) E s₂) E s' := by
  have K' := K.push (name := name) (a := a) (cd := cd) F hk
  have hin : ∀ env ∈ (envOf name scope L a cd :: outer), ∀ b, env.frame = some b → b ∈ (envOf name scope L a cd :: outer).filterMap (·.frame) := fun env he b hb => List.mem_filterMap.mpr ⟨env, he, hb⟩
  have st : base.StaysIn (hideAll h ((envOf name scope L a cd :: outer).filterMap (·.frame))) := fun b o q => hideAll_get _ (K'.stays b o q) fun hm => by
    rw [(K'.frames.mem hm).1] at q; cases q
  have hBG : ∀ b o, h.get? b = some o → b ∉ (envOf name scope L a cd :: outer).filterMap (·.frame) → (hideAll h ((envOf name scope L a cd :: outer).filterMap (·.frame))).get? b = some o := fun b o q nm => hideAll_get _ q nm
  have hl : ∀ q ∈ news, (hideAll h ((envOf name scope L a cd :: outer).filterMap (·.frame))).get? q.1 = some q.2 := fun q hq => by
    refine hideAll_get _ (N q hq).1 fun hm => ?_
    obtain ⟨env, he, hf⟩ := List.mem_filterMap.mp hm
    rcases List.mem_cons.mp he with rfl | he
    · exact (N q hq).2.1 (Option.some.inj hf).symm
    · obtain ⟨o, ho, _⟩ := (K.frames.mem (List.mem_filterMap.mpr ⟨env, he, hf⟩)).2
      rw [(N q hq).2.2] at ho; cases ho
  have hL : (hideAll h ((envOf name scope L a cd :: outer).filterMap (·.frame))).get? L = none := hideAll_none _ (hin _ (.head _) L rfl)
  obtain ⟨ob, tp, he, hcls, hdd⟩ := hx.there
  have hen : (hideAll h ((envOf name scope L a cd :: outer).filterMap (·.frame))).get? e = none := by
    cases q : (hideAll h ((envOf name scope L a cd :: outer).filterMap (·.frame))).get? e with
    | none => rfl
    | some o => have := of_hideAll _ q; rw [hx.new] at this; cases this
  refine note_firstW (a0 := tp) (Around.frames_deeper K.stack) ((funFrames_hide K'.frames hin).of_keeps fun b o hb _ => ⟨o, hx.keeps b o hb, rfl⟩) rfl he (fun b o hb => hx.keeps b o (of_hideAll _ hb)) hen hdd rfl rfl fun h₄ hN => ?_
  obtain ⟨k1, k2, k3, k4⟩ := hN
  rw [hcls] at k3
  have hheld₄ : Heap.HeldW (hideAll h ((envOf name scope L a cd :: outer).filterMap (·.frame))) (envOf name scope L a cd :: outer) e (.type X) tp L h₄ := ⟨k1, hen, k2, k3⟩
  have hsm₄ : h.UpToSlots h₄ := (Heap.UpToSlots.of_keeps hx.keeps).trans k4
  refine wpAny_landsW hheld₄ fun h₅ hheld hsm₅' => ?_
  have hsm₅ := hsm₄.trans hsm₅'
  obtain ⟨g₅, T₅, F₅, K₅⟩ := kts_ground K F hBG hheld.1 hsm₅
  have X₅ : KF.In g₅ := XB.keeps K₅.stays
  have P₅ : TopRead p loose mg mb g₅ := topRead_of (TB.keeps K₅.stays)
  obtain ⟨ob, hob, hobc⟩ := hheld.there
  refine wpAny_handleBy_builtin (X := X) (T := T') (b := true) hexc hnt hsub (name_B F₅ X₅ P₅ ex hv hn' ⟨rfl, ⟨ob, hob, hobc⟩, ?_⟩ hk hxx hd)
  refine lands_againW hheld fun h₆ hfl₆ hsm₆ => ?_
  obtain ⟨g₆, T₆, F₆, K₆⟩ := kts_ground K F hBG hfl₆.1 (hsm₅.trans hsm₆)
  have Nl : News g₆ L h₆ news := fun q hq => ⟨hfl₆.1 _ _ (hl q hq), (fun z => by have := hl q hq; rw [z, hL] at this; cases this), T₆.none_ _ (N q hq).2.2⟩
  have X₆ : KF.In g₆ := XB.keeps K₆.stays
  have P₆ : Top p loose mean mg mb g₆ := TB.keeps K₆.stays
  have D₆ : KtsDicts (outer.filterMap (·.frame)) g₆ := D.turn T₆
  exact wpAny_passesOwnAt hE (k h₆ g₆ (T0.trans T₆) F₆ Nl K₆ X₆ P₆ D₆)
end
end Mine.Internal

end
section
open PySem PySem.W PyProof.Rows PySem.Calls PySem.Spec
set_option maxRecDepth 100000
namespace Mine.Internal
section
variable {M : Model} {A : Around} {E : Value → Shared → Prop} {s : Shared} {env : Env} {Q : Flow → Shared → Prop}
theorem wp_append {Γ : PySem.Ctx} (hΓ : Γ.In A) (hc : HasC Γ) {l2 : List Stmt} : ∀ (l1 : List Stmt) (p : Pos) (s : Shared), Sem.wp M Γ (execs l1 env) (fun f _ s' => match f with | .next => wpC M A (execs l2 env) Q E s' | f => Q f s') (fun e _ s' => E e s') p s → Sem.wp M Γ (execs (l1 ++ l2) env) (fun a _ s' => Q a s') (fun e _ s' => E e s') p s
  | [], p, s, h => h Γ p hΓ hc
  | a :: l1, p, s, h => by
    rw [List.cons_append]
    rw [execs_cons, Sem.wp_bind'] at h ⊢
    refine Sem.wp_mono M Γ _ (fun f p' s' h' => ?_) (fun _ _ _ x => x) p s h
    cases f with
    | next => exact wp_append hΓ hc l1 p' s' h'
    | ret v => exact h'
    | brk => exact h'
    | cont => exact h'
structure MidF (Gd : Heap → Prop) (L : Addr) (J : (Str → Option Value) → List (Addr × Obj) → Prop) (s : Shared) (f : Flow) (s' : Shared) : Prop where
  mk ::
  e : f = .next
  m : ∃ g h tk m news, Gd g ∧ s' = { s with heap := h, toks := tk } ∧ Fr g L h m ∧ News g L h news ∧ J m news
theorem MidF.intro {Gd : Heap → Prop} {L : Addr} {J : (Str → Option Value) → List (Addr × Obj) → Prop} {g h : Heap} {tk : Nat} {m : Str → Option Value} {led news : List (Addr × Obj)} (G : Gd g) (F : Fr g L h m) (N : News g L h led) (hJ : J m news) (sub : ∀ p ∈ news, p ∈ led) : MidF Gd L J s .next { s with heap := h, toks := tk } :=
  ⟨rfl, g, h, tk, m, news, G, rfl, F, fun p hp => N p (sub p hp), hJ⟩
theorem wpC_cutN (n : Nat) {l : List Stmt} (Gd : Heap → Prop) (L : Addr) (J : (Str → Option Value) → List (Addr × Obj) → Prop) (h1 : wpC M A (execs (l.take n) env) (fun f s' => MidF Gd L J s f s') E s)
    (h2 : ∀ g h tk m news, Gd g → Fr g L h m → News g L h news → J m news → wpC M A (execs (l.drop n) env) Q E { s with heap := h, toks := tk }) : wpC M A (execs l env) Q E s := fun Γ p hΓ hc => by
  rw [← List.take_append_drop n l]
  refine wp_append hΓ hc _ p s (Sem.wp_mono M Γ _ (fun f p' s' h' => ?_) (fun _ _ _ x => x) p s (h1 Γ p hΓ hc))
  obtain ⟨rfl, g, h, tk, m, news, G, rfl, F, N, hJ⟩ := h'
  exact h2 g h tk m news G F N hJ
end
end Mine.Internal

end
section
open PySem PySem.W PyProof.Rows PySem.Calls PySem.Spec
set_option maxRecDepth 100000
namespace Mine.Internal
noncomputable def tzAll : List (PySem.Str × Int) := [(PySem.Str.ofString "UT", 0), (PySem.Str.ofString "UTC", 0), (PySem.Str.ofString "GMT", 0), (PySem.Str.ofString "Z", 0), (PySem.Str.ofString "AST", -400), (PySem.Str.ofString "ADT", -300), (PySem.Str.ofString "EST", -500), (PySem.Str.ofString "EDT", -400), (PySem.Str.ofString "CST", -600), (PySem.Str.ofString "CDT", -500), (PySem.Str.ofString "MST", -700), (PySem.Str.ofString "MDT", -600), (PySem.Str.ofString "PST", -800), (PySem.Str.ofString "PDT", -700)]
noncomputable def tzEs (w : World) (l : List (PySem.Str × Int)) (ts : List (Tok × Tok)) : List DictEntry := (l.zip ts).map fun p => ⟨hashStr w p.1.1, .str p.1.1 p.2.1, .int p.1.2 p.2.2⟩
noncomputable def tzKv (l : List (PySem.Str × Int)) (ts : List (Tok × Tok)) : List (PySem.Str × Value) := (l.zip ts).map fun p => (p.1.1, .int p.1.2 p.2.2)
structure TzK (w : World) (K : Frag) (a : Addr) : Prop where
  mk ::
  at_ : ∃ ts ep, ts.length = 14 ∧ K.lookup a = some ⟨.type "dict", none, .dict (tzEs w tzAll ts).toArray ep, #[]⟩
section
variable {prog : Program} {w : World} {A : Around} {E : Value → Shared → Prop} {s : Shared}
theorem tz_keys {l : List (PySem.Str × Int)} {ts : List (Tok × Tok)} : KeysOf (strKind prog w) (tzEs w l ts).toArray := by
  intro e he
  rw [List.mem_toArray] at he
  obtain ⟨p, hp, rfl⟩ := List.mem_map.mp he
  exact ⟨_, isStr _ _, rfl⟩
theorem tz_pairs : ∀ (l : List (PySem.Str × Int)) (ts : List (Tok × Tok)), Pairs (strKind prog w) (tzEs w l ts) (tzKv l ts)
  | [], _ => .nil
  | _ :: _, [] => .nil
  | _ :: l, _ :: ts => .cons (isStr _ _) rfl (tz_pairs l ts)
theorem tz_fst : ∀ (l : List (PySem.Str × Int)) (ts : List (Tok × Tok)), l.length = ts.length → (tzKv l ts).map (·.1) = l.map (·.1)
  | [], [], _ => rfl
  | p :: l, t :: ts, h => by
    show p.1 :: (tzKv l ts).map (·.1) = _
    rw [tz_fst l ts (Nat.succ.inj h)]; rfl
theorem tz_at (k : PySem.Str) : ∀ (l : List (PySem.Str × Int)) (ts : List (Tok × Tok)), l.length = ts.length → match l.find? (fun p => decide (p.1 = k)) with
    | some p => ∃ t, valueAt (tzKv l ts) k = some (.int p.2 t)
    | none => valueAt (tzKv l ts) k = none
  | [], [], _ => rfl
  | p :: l, t :: ts, h => by
    have ih := tz_at k l ts (Nat.succ.inj h)
    rw [List.find?_cons]
    have e : valueAt (tzKv (p :: l) (t :: ts)) k = if p.1 = k then some (.int p.2 t.2) else valueAt (tzKv l ts) k := by
      show (List.find? (fun kv => decide (kv.1 = k)) ((p.1, Value.int p.2 t.2) :: tzKv l ts)).map (·.2) = _
      rw [List.find?_cons]
      by_cases c : p.1 = k <;> simp [c, valueAt]
    rw [e]
    by_cases c : p.1 = k
    · simp [c]
    · simp only [c, decide_false, if_false]
      exact ih
theorem tz_nodup : (tzAll.map (·.1)).Nodup := by decide +kernel
variable {K : Frag} {h₀ : Heap} {L a : Addr} {m : Str → Option Value}
theorem TzK.dict (x : TzK w K a) (F : Fr h₀ L s.heap m) (X : K.In h₀) : ∃ ts, ts.length = 14 ∧ s.heap.DictOf (strKind prog w) a (tzKv tzAll ts) := by
  obtain ⟨ts, ep, hl, ho⟩ := x.at_
  refine ⟨ts, hl, _, _, _, (X.keeps F.keep) _ _ ho, ⟨rfl, rfl, rfl⟩, rfl, tz_keys, tz_pairs _ _, ?_⟩
  rw [tz_fst _ _ (by rw [hl]; rfl)]
  exact tz_nodup
theorem names_T : ∀ k : Nat, k < 11 → (tzAll.find? (fun p => decide (p.1 = ⟨(znm k).toArray⟩))).map (·.2) = some (-100 * zhr k) := by decide +kernel
theorem heads_T : tzAll.all (fun p => match p.1.cps.toList.head? with | some c => decide (65 ≤ c) | none => false) = true := by decide +kernel
theorem tz_name {k : Int} (hk : 0 ≤ k ∧ k ≤ 10) {ts : List (Tok × Tok)} (hl : ts.length = 14) : ∃ t, valueAt (tzKv tzAll ts) (tx (znm k)) = some (.int (-100 * zhr k) t) := by
  have q := tz_at (tx (znm k)) tzAll ts (by rw [hl]; rfl)
  have e := tenN (P := fun k => (tzAll.find? (fun p => decide (p.1 = tx (znm k)))).map (·.2) = some (-100 * zhr k)) (fun k hk => by rw [tx_def]; exact names_T k hk) hk
  generalize hf : tzAll.find? (fun p => decide (p.1 = tx (znm k))) = r at q e
  cases r with
  | none => cases e
  | some p =>
    obtain ⟨t, ht⟩ := q
    have : p.2 = -100 * zhr k := Option.some.inj e
    exact ⟨t, by rw [ht, this]⟩
theorem tz_no {W : List Nat} (h : ∀ c ∈ W.head?, c < 65) {ts : List (Tok × Tok)} (hl : ts.length = 14) : valueAt (tzKv tzAll ts) (tx W) = none := by
  have q := tz_at (tx W) tzAll ts (by rw [hl]; rfl)
  have e : tzAll.find? (fun p => decide (p.1 = tx W)) = none := by
    refine List.find?_eq_none.mpr fun p hp hq => ?_
    have hd := List.all_eq_true.mp heads_T p hp
    have ep : p.1 = tx W := of_decide_eq_true hq
    rw [ep, tx_toList] at hd
    cases hw : W.head? with
    | none => rw [hw] at hd; cases hd
    | some c =>
      rw [hw] at hd
      have := h c (by rw [hw]; rfl)
      have := of_decide_eq_true hd
      omega
  rw [e] at q
  exact q
theorem tz_in {W : List Nat} {z : Int} {t : Tok} {Q : Value → Shared → Prop} (F : Fr h₀ L s.heap m) (X : K.In h₀) (T : TzK w K a) (ha : (a == sysModules) = false) (hW : ZoneT W z)
    (h1 : ∀ k, 0 ≤ k ∧ k ≤ 10 → W = znm k → z = -3600 * zhr k → Q (.bool true) { s with toks := s.toks + 1 })
    (h2 : ∀ n, 0 ≤ n ∧ n < 10000 → W = 43 :: dg4 n → z = n.fdiv 100 * 3600 + n.fmod 100 * 60 → Q (.bool false) { s with toks := s.toks + 1 })
    (h3 : ∀ n, 0 ≤ n ∧ n < 10000 → W = 45 :: dg4 n → z = -(n.fdiv 100 * 3600 + n.fmod 100 * 60) → Q (.bool false) { s with toks := s.toks + 1 })
    (h4 : W = [] → z = 0 → Q (.bool false) { s with toks := s.toks + 1 }) :
    wpAny (model prog w) A (compareOp .In (.str (tx W) t) (.ref a)) Q E s := by
  obtain ⟨ts, hl, hD⟩ := T.dict (prog := prog) F X
  refine wpAny_in_of (knd := strKind prog w) (isStr _ _) ha hD.mapOf ?_
  cases hW with
  | plus n hn e ez =>
    rw [tz_no (by rw [e]; intro c hc; cases hc; decide) hl]
    exact h2 n hn e ez
  | minus n hn e ez =>
    rw [tz_no (by rw [e]; intro c hc; cases hc; decide) hl]
    exact h3 n hn e ez
  | name k hk e ez =>
    obtain ⟨t', ht⟩ := tz_name hk hl
    rw [e, ht]
    exact h1 k hk e ez
  | none e ez =>
    rw [tz_no (by rw [e]; intro c hc; cases hc) hl]
    exact h4 e ez
theorem tz_item {k : Int} {t : Tok} {value slice : PySem.Expr} {Q : Value → Shared → Prop} (F : Fr h₀ L s.heap m) (X : K.In h₀) (T : TzK w K a) (hk : 0 ≤ k ∧ k ≤ 10) (h : ∀ u, Q (.int (-100 * zhr k) u) { s with toks := s.toks + 1 })
    (hs : subscripted slice false (.ref a) (.str (tx (znm k)) t) = operate [.ref a, .str (tx (znm k)) t] (getItem (.ref a) (.str (tx (znm k)) t))) (hg : ∀ r, letTemporaryGo value (.ref a) r = pure ()) :
    wpAny (model prog w) A (subscriptTail value slice (.ref a) (.str (tx (znm k)) t)) Q E s := by
  obtain ⟨ts, hl, hD⟩ := T.dict (prog := prog) F X
  obtain ⟨u, hu⟩ := tz_name hk hl
  exact subscriptTail_builtin hD.typeIs slot_dict_getitem.lookup (wpAny_getItem_of (knd := strKind prog w) (isStr _ _) hD.mapOf hu (h u)) hs hg
end
inductive Off (ov : Value) (z : Int) : Prop
  | none : ov = .none → z = 0 → Off ov z
  | int (n : Int) (t : Tok) : ov = .int n t → (-10000 < n ∧ n < 10000) → (0 ≤ n → z = n.fdiv 100 * 3600 + n.fmod 100 * 60) → (n < 0 → z = -((-n).fdiv 100 * 3600 + (-n).fmod 100 * 60)) → Off ov z
theorem off_name {k z : Int} {t : Tok} (hk : 0 ≤ k ∧ k ≤ 10) (e : z = -3600 * zhr k) : Off (.int (-100 * zhr k) t) z := by
  have := tenN (P := fun k => 0 ≤ zhr k ∧ zhr k ≤ 8) zhr_T hk
  refine .int _ t rfl (by omega) (fun h => ?_) (fun h => ?_)
  · rw [fd100, fm100]; omega
  · rw [fd100, fm100]; omega
theorem off_plus {n z : Int} {t : Tok} (hn : 0 ≤ n ∧ n < 10000) (e : z = n.fdiv 100 * 3600 + n.fmod 100 * 60) : Off (.int n t) z := .int _ t rfl (by omega) (fun _ => e) (fun h => by omega)
theorem off_minus {n z : Int} {t : Tok} (hn : 0 ≤ n ∧ n < 10000) (h0 : ¬ (-n = 0)) (e : z = -(n.fdiv 100 * 3600 + n.fmod 100 * 60)) : Off (.int (-n) t) z := .int _ t rfl (by omega) (fun h => by omega) (fun _ => by rw [Int.neg_neg]; exact e)
theorem off_zero {n z : Int} (h0 : -n = 0) (e : z = -(n.fdiv 100 * 3600 + n.fmod 100 * 60)) : Off .none z := by
  have : n = 0 := by omega
  subst this
  exact .none rfl e
noncomputable def Ans (zv : Value) (z : Int) : Prop := (zv = .none ∧ z = 0) ∨ ∃ t, zv = .int z t
inductive J1 (y m d h mi sc z : Int) (mm : Str → Option Value) (news : List (Addr × Obj)) : Prop
  | mk (C : Addr) (n0 : Nat) (D Y W : List Nat) (t1 t2 t3 t4 t5 : Tok) : mm (Str.ofString "data") = some (.ref C) → news = [(C, PySem.W.listOf #[.str (tx D) t1, .str (tx (mon m)) t2, .str (tx Y) t3, .str (tx (clk h mi sc)) t4, .str (tx W) t5] n0)] → DayT D d → YrT Y y → ZoneT W z → J1 y m d h mi sc z mm news
inductive J2 (y m d h mi sc z : Int) (mm : Str → Option Value) (news : List (Addr × Obj)) : Prop
  | mk (D W Y : List Nat) (t1 t2 t3 t4 t5 : Tok) : news = [] → mm (Str.ofString "dd") = some (.str (tx D) t1) → mm (Str.ofString "mm") = some (.int (((m - 1).toNat : Int) + 1) t2) → mm (Str.ofString "yy") = some (.str (tx Y) t3) → mm (Str.ofString "tm") = some (.str (tx (clk h mi sc)) t4) → mm (Str.ofString "tz") = some (.str (tx W) t5) → DayT D d → ZoneT W z → Y = dg4 y → J2 y m d h mi sc z mm news
inductive J3 (y m d h mi sc : Int) (P : Value → Prop) (mm : Str → Option Value) (news : List (Addr × Obj)) : Prop
  | mk (ov : Value) (t1 t2 t3 t4 t5 t6 : Tok) : news = [] → mm (Str.ofString "yy") = some (.int y t1) → mm (Str.ofString "mm") = some (.int m t2) → mm (Str.ofString "dd") = some (.int d t3) → mm (Str.ofString "thh") = some (.int h t4) → mm (Str.ofString "tmm") = some (.int mi t5) → mm (Str.ofString "tss") = some (.int sc t6) → mm (Str.ofString "tzoffset") = some ov → P ov → J3 y m d h mi sc P mm news
theorem map_pin5 {m : Str → Option Value} {a b c d e : Str} {x y z u v : Value} (h1 : m a = some x) (h2 : m b = some y) (h3 : m c = some z) (h4 : m d = some u) (h5 : m e = some v) :
    m = fun q => if q = a then some x else if q = b then some y else if q = c then some z else if q = d then some u else if q = e then some v else m q := by
  funext q
  by_cases e1 : q = a
  · subst e1; simp [h1]
  · by_cases e2 : q = b
    · subst e2; simp [h2, e1]
    · by_cases e3 : q = c
      · subst e3; simp [h3, e1, e2]
      · by_cases e4 : q = d
        · subst e4; simp [h4, e1, e2, e3]
        · by_cases e5 : q = e
          · subst e5; simp [h5, e1, e2, e3, e4]
          · simp [e1, e2, e3, e4, e5]
end Mine.Internal
namespace Mine.Internal
open PySem PySem.W PyProof.Rows PySem.Calls PySem.Spec
open PySem.Builtin PySem.Builtin.Str
theorem Told.lenX {X : List Nat} {y m d h mi sc z : Int} (t : Told X y m d h mi sc z) : LenX X := by
  cases t with
  | comma g D Y W l => exact l
  | bare g D Y l => exact l
  | glued f W l => exact l
theorem trX_pos {l : List Nat} (h : LenX l) : 1 ≤ (tx l).length := by rw [tx_length]; have := h.1; omega
theorem trX_len {l : List Nat} (h : LenX l) : (tx l).length ≤ 100 := by rw [tx_length]; exact h.2
theorem fitsX {l : List Nat} (h : LenX l) : (tx l).length + 2 ≤ sizeLine := by rw [tx_length, sizeLine_eq]; have := h.2; omega
theorem YrT.len {Y : List Nat} {y : Int} (h : YrT Y y) : Len Y := by
  rcases h with rfl | rfl
  · exact len_dg4 y
  · exact ⟨by simp [dg4], by simp [dg4]⟩
theorem YrT.find {Y : List Nat} {y : Int} (h : YrT Y y) : Txt.find (tx Y) (PySem.Str.ofString ":") = -1 := by
  rcases h with rfl | rfl
  · exact find_col4 y
  · refine find_c colon fun hc => ?_
    rcases List.mem_append.mp hc with q | q
    · have := dg4_mem y _ q; omega
    · have := List.mem_singleton.mp q; omega
theorem empty_is : PySem.Str.ofString "" = tx [] := by rw [tx_nil]; rfl
theorem zone_fit {W : List Nat} {z : Int} (h : ZoneT W z) : Builtin.Str.tooLong (Txt.upper (tx W)).length = false := by
  rw [h.upper, tx_length]
  unfold Builtin.Str.tooLong
  exact decide_eq_false (by have := h.mem.1; rw [sizeLine_eq]; omega)
theorem starts_plus {W : List Nat} {n : Int} (e : W = 43 :: dg4 n) : Txt.startswith (tx W) (PySem.Str.ofString "-") = false := by
  rw [minus, e]
  unfold Txt.startswith
  cases q : subAt (tx (43 :: dg4 n)) ⟨#[45]⟩ 0 with
  | false => simp
  | true =>
    have := (StrLaws.subAt_one (tx (43 :: dg4 n)) 45 0).mp ⟨by rw [tx_length, show (⟨#[45]⟩ : PySem.Str).length = 1 from rfl]; simp, q⟩
    rw [tx_toList] at this
    cases this
theorem starts_minus {W : List Nat} {n : Int} (e : W = 45 :: dg4 n) : Txt.startswith (tx W) (PySem.Str.ofString "-") = true := by
  rw [minus, e]
  unfold Txt.startswith
  have := (StrLaws.subAt_one (tx (45 :: dg4 n)) 45 0).mpr (by rw [tx_toList]; rfl)
  rw [this.2, tx_length, show (⟨#[45]⟩ : PySem.Str).length = 1 from rfl]
  simp
theorem len_yc {Y : List Nat} {y : Int} (e : Y = dg4 y ++ [44]) : Y.getLast? = some 44 := by rw [e]; simp
theorem last_y {Y : List Nat} {y : Int} (e : Y = dg4 y) : Y.getLast? = some (fig y) := by rw [e]; rfl
theorem yc_sliceE {Y : List Nat} {y : Int} (e : Y = dg4 y ++ [44]) : Txt.slice (tx Y) none (some (-1)) = tx (dg4 y) := by rw [e, yc_slice]
section
variable {prog : Program} {w : World} {A : Around} {E : Value → Shared → Prop} {s : Shared} {K : Frag} {h₀ : Heap} {L a : Addr} {m : Str → Option Value} {news : List (Addr × Obj)}
theorem tz_itemE {W : List Nat} {k : Int} {t : Tok} {value slice : PySem.Expr} {Q : Value → Shared → Prop} (F : Fr h₀ L s.heap m) (X : K.In h₀) (T : TzK w K a) (hk : 0 ≤ k ∧ k ≤ 10) (e : W = znm k) (h : ∀ u, Q (.int (-100 * zhr k) u) { s with toks := s.toks + 1 })
    (hs : subscripted slice false (.ref a) (.str (tx W) t) = operate [.ref a, .str (tx W) t] (getItem (.ref a) (.str (tx W) t))) (hg : ∀ r, letTemporaryGo value (.ref a) r = pure ()) :
    wpAny (model prog w) A (subscriptTail value slice (.ref a) (.str (tx W) t)) Q E s := by
  subst e
  exact tz_item F X T hk h hs hg
variable {x : PySem.Str} {l : List Nat} {t : Tok} {value slice : PySem.Expr} {Q : Value → Shared → Prop}
theorem slice_sn {i : Int} {ui : Tok} (e : Txt.slice x (some i) none = tx l) (hF : Fr h₀ L s.heap m) (hN : News h₀ L s.heap news) (hsz : x.length ≤ sizeLine) (h : ∀ h' t' k, Fr h₀ L h' m → News h₀ L h' news → Q (.str (tx l) t') { s with heap := h', toks := k })
    (hs : subscripted slice false (.str x t) (.ref s.heap.objs.size) = operate [.ref s.heap.objs.size, .str x t] (getItem (.str x t) (.ref s.heap.objs.size)))
    (ht : ∀ r, letTemporaryGo value (.str x t) r = pure ()) :
    wpAny (model prog w) A (subscriptTail value slice (.str x t) (.ref s.heap.objs.size)) Q E { s with heap := s.heap.push { cls := .type "slice", data := .fields #[.int i ui, .none, .none] } } :=
  slice_strN_sn hF hN (fun h' t' k F' N' => e ▸ h h' t' k F' N') hs ht hsz
theorem slice_ns {i : Int} {ui : Tok} (e : Txt.slice x none (some i) = tx l) (hF : Fr h₀ L s.heap m) (hN : News h₀ L s.heap news) (hsz : x.length ≤ sizeLine) (h : ∀ h' t' k, Fr h₀ L h' m → News h₀ L h' news → Q (.str (tx l) t') { s with heap := h', toks := k })
    (hs : subscripted slice false (.str x t) (.ref s.heap.objs.size) = operate [.ref s.heap.objs.size, .str x t] (getItem (.str x t) (.ref s.heap.objs.size)))
    (ht : ∀ r, letTemporaryGo value (.str x t) r = pure ()) :
    wpAny (model prog w) A (subscriptTail value slice (.str x t) (.ref s.heap.objs.size)) Q E { s with heap := s.heap.push { cls := .type "slice", data := .fields #[.none, .int i ui, .none] } } :=
  slice_strN_ns hF hN (fun h' t' k F' N' => e ▸ h h' t' k F' N') hs ht hsz
theorem int_textE {n : Int} {W : List Nat} (e : PySem.intText? (tx W) = some n) (hl : W.length ≤ 5) (h : Q (.int n s.toks) { s with toks := s.toks + 1 }) : wpAny (model prog w) A (call (.type "int") [.str (tx W) t]) Q E s :=
  KIN.call_text e (by rw [tx_length]; omega) h
theorem int_emptyE {W : List Nat} (e : W = []) (hA : A.handled = none) (h : ∀ h' tk e, Heap.NewExc s.heap h' e "ValueError" → E (.ref e) { s with heap := h', toks := tk }) :
    wpC (model prog w) A (call (.type "int") [.str (tx W) t]) Q E s := by
  subst e
  rw [← empty_is]
  exact int_empty _ hA h
end
theorem val_plusE {W : List Nat} {n : Int} (hn : 0 ≤ n ∧ n < 10000) (e : W = 43 :: dg4 n) : PySem.intText? (tx W) = some n := by rw [e]; exact val_plus hn.1 hn.2
theorem val_minusE {W : List Nat} {n : Int} (hn : 0 ≤ n ∧ n < 10000) (e : W = 45 :: dg4 n) : PySem.intText? (tx W) = some (-n) := by rw [e]; exact val_minus hn.1 hn.2
theorem j1_intro {Gd : Heap → Prop} {L : Addr} {y m d h mi sc z : Int} {g hp : Heap} {tk : Nat} {mm : Str → Option Value} {led : List (Addr × Obj)} {s : Shared} {C : Addr} {n0 : Nat} {D Y W : List Nat} {t1 t2 t3 t4 t5 : Tok}
    (G : Gd g) (F : Fr g L hp mm) (N : News g L hp led) (hm : (C, PySem.W.listOf #[.str (tx D) t1, .str (tx (mon m)) t2, .str (tx Y) t3, .str (tx (clk h mi sc)) t4, .str (tx W) t5] n0) ∈ led) (p : mm (Str.ofString "data") = some (.ref C)) (hD : DayT D d) (hY : YrT Y y) (hW : ZoneT W z) :
    MidF Gd L (J1 y m d h mi sc z) s .next { s with heap := hp, toks := tk } :=
  MidF.intro G F N (.mk C n0 D Y W t1 t2 t3 t4 t5 p rfl hD hY hW) fun p hp => by rw [List.mem_singleton.mp hp]; exact hm
theorem zone_none {z : Int} (e : z = 0) : ZoneT [] z := .none rfl e
theorem yrT_dg4 (y : Int) : YrT (dg4 y) y := .inl rfl
end Mine.Internal
namespace Mine.Internal
theorem glue_lenL {f : List Nat} {d m y : Int} (hf : f.length = 24) (hm : 1 ≤ m ∧ m ≤ 12) : Len ((f ++ 44 :: dash4 d m y).map lo1) := by
  unfold Len
  rw [List.length_map]
  exact glue_len hf hm
end Mine.Internal
namespace Mine.Internal
open PySem PySem.W PyProof.Rows PySem.Calls PySem.Spec
theorem pin_cons {m m' : Str → Option Value} {a : Str} {x : Value} (h1 : m a = some x) (h : m = m') : m = fun q => if q = a then some x else m' q := by
  subst h
  exact map_pin h1
theorem map_pin7 {m : Str → Option Value} {a b c d e f g : Str} {x y z u v s t : Value} (h1 : m a = some x) (h2 : m b = some y) (h3 : m c = some z) (h4 : m d = some u) (h5 : m e = some v) (h6 : m f = some s) (h7 : m g = some t) :
    m = fun q => if q = a then some x else if q = b then some y else if q = c then some z else if q = d then some u else if q = e then some v else if q = f then some s else if q = g then some t else m q :=
  pin_cons h1 (pin_cons h2 (pin_cons h3 (pin_cons h4 (pin_cons h5 (pin_cons h6 (pin_cons h7 rfl))))))
end Mine.Internal
namespace Mine.Internal
open PySem PySem.W PyProof.Rows PySem.Calls PySem.Spec
theorem item_last_yr {prog : Program} {w : World} {A : Around} {E : Value → Shared → Prop} {s : Shared} {value slice : PySem.Expr} {Y : List Nat} {y : Int} {t u : Tok} {Q : Value → Shared → Prop} (hY : YrT Y y) (h1 : Y = dg4 y → ∀ t', Q (.str (tx [fig y]) t') { s with toks := s.toks + 1 }) (h2 : Y = dg4 y ++ [44] → ∀ t', Q (.str (tx [44]) t') { s with toks := s.toks + 1 })
    (hs : subscripted slice false (.str (tx Y) t) (.int (-1) u) = operate [.str (tx Y) t, .int (-1) u] (getItem (.str (tx Y) t) (.int (-1) u)))
    (ht : ∀ r, letTemporaryGo value (.str (tx Y) t) r = pure ()) :
    wpAny (model prog w) A (subscriptTail value slice (.str (tx Y) t) (.int (-1) u)) Q E s := by
  have hl := hY.len
  rcases hY with e | e
  · exact item_last_tx (last_y e) (len1000 hl) (h1 e) hs ht
  · exact item_last_tx (len_yc e) (len1000 hl) (h2 e) hs ht
theorem eq_comma : ([44] == (PySem.Str.ofString ",").cps.toList) = true := by rw [comma]; rfl
end Mine.Internal
namespace Mine.Internal
open PySem PySem.W PyProof.Rows PySem.Calls PySem.Spec
theorem ans_none {z : Int} (e : z = 0) : Ans .none z := .inl ⟨rfl, e⟩
theorem ans_zero {n z : Int} {t : Tok} (h : n = 0) (hp : 0 ≤ n → z = n.fdiv 100 * 3600 + n.fmod 100 * 60) : Ans (.int n t) z := by
  subst h
  rw [hp (by decide)]
  exact .inr ⟨t, rfl⟩
theorem ans_neg {n z : Int} {t : Tok} (h : n < 0) (hn : n < 0 → z = -((-n).fdiv 100 * 3600 + (-n).fmod 100 * 60)) : Ans (.int (-1 * ((-n).fdiv 100 * 3600 + (-n).fmod 100 * 60)) t) z := by
  rw [hn h, Int.neg_one_mul]
  exact .inr ⟨t, rfl⟩
theorem ans_pos {n z : Int} {t : Tok} (h : ¬ n < 0) (hp : 0 ≤ n → z = n.fdiv 100 * 3600 + n.fmod 100 * 60) : Ans (.int (1 * (n.fdiv 100 * 3600 + n.fmod 100 * 60)) t) z := by
  rw [hp (by omega), Int.one_mul]
  exact .inr ⟨t, rfl⟩
inductive Tup10 (y m d h mi sc zo : Int) (o : Obj) : Prop
  | mk (t1 t2 t3 t4 t5 t6 t7 t8 t9 t10 : Tok) : o = ({ cls := .type "tuple", data := .seq #[.int y t1, .int m t2, .int d t3, .int h t4, .int mi t5, .int sc t6, .int 0 t7, .int 1 t8, .int (-1) t9, .int zo t10] } : Obj) → Tup10 y m d h mi sc zo o
inductive Tup9 (y m d h mi sc : Int) (o : Obj) : Prop
  | mk (t1 t2 t3 t4 t5 t6 t7 t8 t9 : Tok) : o = ({ cls := .type "tuple", data := .seq #[.int y t1, .int m t2, .int d t3, .int h t4, .int mi t5, .int sc t6, .int 0 t7, .int 1 t8, .int (-1) t9] } : Obj) → Tup9 y m d h mi sc o
end Mine.Internal

end
section
open PySem PySem.W PyProof.Rows PySem.Calls PySem.Spec
set_option maxRecDepth 100000
namespace Mine.Internal
theorem front_M (x : Int) : Front (stampM x) := ⟨rfl, by
  have key : ∀ n, 45 ≤ fig n ∧ fig n ≤ 90 := fun n => by have := fig_lo n; have := fig_hi n; omega
  intro c hc
  have hc' : c ∈ [fig (fY x / 1000), fig (fY x / 100), fig (fY x / 10), fig (fY x), 45, fig (fM x / 10), fig (fM x), 45, fig (fD x / 10), fig (fD x), 84, fig (fH x / 10), fig (fH x), 58, fig (fI x / 10), fig (fI x), 58, fig (fS x / 10), fig (fS x), 90] := hc
  simp only [List.mem_cons, List.not_mem_nil, or_false] at hc'
  rcases hc' with e | e | e | e | e | e | e | e | e | e | e | e | e | e | e | e | e | e | e | e
  all_goals first | (rw [e]; exact key _) | omega⟩
section
variable {S : List Nat} (h : Front S)
include h
theorem Front.len3 : Len S := ⟨by rw [h.len]; decide, by rw [h.len]; decide⟩
theorem Front.words : PySem.Txt.words (tx S) = [tx S] := by
  have e : Txt.words (tx (joinSp [S])) = [S].map tx := words_sp [S] (by simp) fun p hp => by
    rw [List.mem_singleton.mp hp]
    have := h.cm [] (fun _ hc => nomatch hc)
    rwa [List.append_nil] at this
  exact e
theorem Front.noc : 44 ∉ S := fun m => by have := h.mem 44 m; omega
theorem Front.ends : Txt.endswith (tx S) (PySem.Str.ofString ",") = false := ends_c comma h.noc
theorem Front.rfind : Txt.rfind (tx S) (PySem.Str.ofString ",") = -1 := rfind_c comma h.noc
theorem Front.lower : Txt.lower (tx S) = tx (S.map lo1) := lower_hi fun c hc => by have := h.mem c hc; omega
theorem Front.lenL : Len (S.map lo1) := ⟨by rw [List.length_map, h.len]; decide, by rw [List.length_map, h.len]; decide⟩
theorem Front.notin : dyTab.contains (S.map lo1) = false := by
  cases q : dyTab.contains (S.map lo1) with
  | false => rfl
  | true =>
    exfalso
    have hm := List.contains_iff_mem.mp q
    have h3 : ∀ y ∈ dyTab, y.length = 3 := by decide
    have := h3 _ hm
    rw [List.length_map, h.len] at this
    omega
end
end Mine.Internal

end
section
open PySem PySem.W PyProof.Rows PySem.Calls PySem.Spec PySem.Builtin._datetime
set_option maxRecDepth 100000
set_option linter.unusedVariables false
namespace Mine.Internal
noncomputable def lineOf (p : Int × List Nat) : List Nat := stampM p.1 ++ p.2
noncomputable def lineS (p : Int × List Nat) : PySem.Str := tx (stampM p.1 ++ p.2)
theorem intsAt : ∀ {vs : List Value} {ns : List Int} (_ : IntsAre vs ns) {i : Nat} {n : Int}, ns[i]? = some n → ∃ t, vs[i]? = some (.int n t)
  | _, _, .nil, _, _, h => by simp at h
  | _, _, .cons n t _, 0, _, h => by cases h; exact ⟨t, rfl⟩
  | _, _, .cons _ _ h', i + 1, n, h => intsAt h' (i := i) (by simpa using h)
structure Pairs3 (ps : List (Int × List Nat)) : Prop where
  mk ::
  mz : ∀ p ∈ ps, Mz p.1
  len : ∀ p ∈ ps, p.2.length ≤ 900
  nd : (ps.map (·.1)).Nodup
  n8 : ps.length ≤ 8
structure PgI (qs : List (Int × List Nat)) (i : Nat) (kvs : List (PySem.Str × Value)) : Prop where
  mk ::
  len : kvs.length ≤ i
  at_ : ∀ j q, j < i → qs[j]? = some q → ∃ t, valueAt kvs (tx (stampM q.1)) = some (.str (tx (stampM q.1 ++ q.2)) t)
theorem stored_len {α : Type} [DecidableEq α] (kvs : List (α × Value)) (k : α) (v : Value) : (stored kvs k v).length ≤ kvs.length + 1 := by
  unfold stored
  split
  · simp
  · simp
theorem va_cons {α : Type} [DecidableEq α] (a : α × Value) (r : List (α × Value)) (k : α) : valueAt (a :: r) k = if a.1 = k then some a.2 else valueAt r k := by
  unfold valueAt
  rw [List.find?_cons]
  by_cases c : a.1 = k <;> simp [c]
theorem va_put {α : Type} [DecidableEq α] (k k' : α) (v : Value) : ∀ kvs : List (α × Value), valueAt (kvs.map fun kv => if kv.1 = k then (kv.1, v) else kv) k' = if k = k' then (valueAt kvs k').map (fun _ => v) else valueAt kvs k'
  | [] => by simp [valueAt]
  | a :: r => by
    rw [List.map_cons, va_cons, va_cons, va_put k k' v r]
    by_cases c : k = k'
    · subst c
      by_cases d : a.1 = k <;> simp [d]
    · by_cases d : a.1 = k
      · have e : ¬ a.1 = k' := fun z => c (d.symm.trans z)
        have e' : ¬ k = k' := c
        simp [d, e']
      · simp [d, c]
theorem va_any {α : Type} [DecidableEq α] (k : α) : ∀ kvs : List (α × Value), (kvs.any fun kv => decide (kv.1 = k)) = (valueAt kvs k).isSome
  | [] => rfl
  | a :: r => by
    rw [List.any_cons, va_cons, va_any k r]
    by_cases d : a.1 = k <;> simp [d]
theorem va_app {α : Type} [DecidableEq α] (k k' : α) (v : Value) : ∀ kvs : List (α × Value), valueAt kvs k = none → valueAt (kvs ++ [(k, v)]) k' = if k = k' then some v else valueAt kvs k'
  | [], _ => by rw [List.nil_append, va_cons]
  | a :: r, h => by
    rw [va_cons] at h
    have d : ¬ a.1 = k := fun z => by rw [if_pos z] at h; cases h
    rw [if_neg d] at h
    rw [List.cons_append, va_cons, va_cons, va_app k k' v r h]
    by_cases c : k = k'
    · subst c; simp [d]
    · simp [c]
theorem stored_at {α : Type} [DecidableEq α] (kvs : List (α × Value)) (k k' : α) (v : Value) : valueAt (stored kvs k v) k' = if k = k' then some v else valueAt kvs k' := by
  unfold stored
  rw [va_any]
  cases h : valueAt kvs k with
  | none => simp only [Option.isSome_none, Bool.false_eq_true, if_false]; exact va_app k k' v kvs h
  | some u =>
    simp only [Option.isSome_some, if_true]
    rw [va_put]
    by_cases c : k = k'
    · subst c; simp [h]
    · simp [c]
theorem PgI.start (qs : List (Int × List Nat)) : PgI qs 0 [] := ⟨Nat.le_refl _, fun j q h _ => by omega⟩
theorem PgI.next {ps qs : List (Int × List Nat)} {i : Nat} {kvs : List (PySem.Str × Value)} {x : Int} {r : List Nat} {t : Tok} (h : PgI qs i kvs) (P : Pairs3 ps) (hp : qs.Perm ps) (hi : qs[i]? = some (x, r)) :
    PgI qs (i + 1) (stored kvs (tx (stampM x)) (.str (tx (stampM x ++ r)) t)) := by
  refine ⟨Nat.le_trans (stored_len _ _ _) (Nat.succ_le_succ h.len), fun j q hj hq => ?_⟩
  rw [stored_at]
  by_cases c : tx (stampM x) = tx (stampM q.1)
  · rw [if_pos c]
    have mq : q ∈ ps := hp.mem_iff.mp (List.mem_of_getElem? hq)
    have mx : (x, r) ∈ ps := hp.mem_iff.mp (List.mem_of_getElem? hi)
    have e := stampM_inj (P.mz _ mx).mo (P.mz _ mq).mo (tx_inj c)
    have nd : (qs.map (·.1)).Nodup := (hp.map _).nodup_iff.mpr P.nd
    have e1 : (qs.map (·.1))[i]? = some x := by rw [List.getElem?_map, hi]; rfl
    have e2 : (qs.map (·.1))[j]? = some x := by rw [List.getElem?_map, hq, show x = q.1 from e]; rfl
    have hlt : i < (qs.map (·.1)).length := (List.getElem?_eq_some_iff.mp e1).1
    have : i = j := (List.getElem?_inj hlt nd).mp (e1.trans e2.symm)
    subst this
    rw [hi] at hq
    cases hq
    exact ⟨t, rfl⟩
  · rw [if_neg c]
    by_cases hji : j = i
    · subst hji
      rw [hi] at hq
      cases hq
      exact absurd rfl c
    · exact h.at_ j q (by omega) hq
theorem PgI.all {ps qs : List (Int × List Nat)} {kvs : List (PySem.Str × Value)} {n : Nat} (h : PgI qs n kvs) (hn : n = qs.length) (hp : qs.Perm ps) : ∀ p ∈ ps, ∃ t, valueAt kvs (tx (stampM p.1)) = some (.str (tx (stampM p.1 ++ p.2)) t) := fun p hm => by
  obtain ⟨j, hj⟩ := List.getElem?_of_mem (hp.mem_iff.mpr hm)
  exact h.at_ j p (by rw [hn]; exact (List.getElem?_eq_some_iff.mp hj).1) hj
theorem pg_row {ps qs : List (Int × List Nat)} {vs us : List Value} {i : Nat} (P : Pairs3 ps) (hp : qs.Perm ps) (hS : StrsAre vs (qs.map lineS)) (hU : IntsAre us (qs.map (·.1))) (hi : i < qs.length) :
    ∃ x r t u, qs[i]? = some (x, r) ∧ vs[i]? = some (.str (tx (stampM x ++ r)) t) ∧ us[i]? = some (.int x u) ∧ Mz x ∧ r.length ≤ 900 := by
  obtain ⟨⟨x, r⟩, hq⟩ : ∃ q, qs[i]? = some q := ⟨qs[i], by simp [hi]⟩
  have mq : (x, r) ∈ ps := hp.mem_iff.mp (List.mem_of_getElem? hq)
  obtain ⟨t, ht⟩ := hS.at (j := i) (y := lineS (x, r)) (by rw [List.getElem?_map, hq]; rfl)
  obtain ⟨u, hu⟩ := intsAt hU (i := i) (n := x) (by rw [List.getElem?_map, hq]; rfl)
  exact ⟨x, r, t, u, hq, ht, hu, P.mz _ mq, P.len _ mq⟩
theorem page_sort {ps : List (Int × List Nat)} {ss : List PySem.Str} {ns : List Int} (P : Pairs3 ps) (h1 : ss.Perm (ps.map lineS)) (h2 : sortedS ss = true) (h3 : ns.Perm (ps.map (·.1))) (h4 : ns.Pairwise (· ≤ ·)) :
    ∃ qs : List (Int × List Nat), qs.Perm ps ∧ ss = qs.map lineS ∧ ns = qs.map (·.1) := sort_page h1 h2 h3 h4 fun p hp => (P.mz p hp).mo
theorem us_M {x : Int} (h : Mo x) : usOf (fY x) (fM x) (fD x) (fH x) (fI x) (fS x) - usOf 1 1 1 0 0 0 = x * 1000000 := by
  have f := ff h
  have e0 : usOf 1 1 1 0 0 0 = 86400000000 := by decide +kernel
  have e1 : usPerSecond = 1000000 := rfl
  have e2 := f.sum
  rw [e0]
  unfold usOf
  rw [ordinal_eq f.hm, e1]
  omega
theorem gap_sum (x : Int) : x.fdiv 86400 * 86400 + x.fmod 86400 = x := by rw [fd86400, fm86400]; omega
section
variable {prog : Program} {w : World} {A : Around} {E : Value → Shared → Prop} {s : Shared} {a b l : Addr} {h₀ : Heap} {L : Addr} {mp : Str → Option Value} {news : List (Addr × Obj)} {value slice : PySem.Expr} {vs : List Value} {v : Value} {n0 : Nat} {u : Tok}
theorem gapM {x : Int} {Q : Value → Shared → Prop} (F : Fr h₀ L s.heap mp) (N : News h₀ L s.heap news) (hx : Mo x) (ha : (a, dtObj (fY x) (fM x) (fD x) (fH x) (fI x) (fS x)) ∈ news) (hb : (b, dtObj 1 1 1 0 0 0) ∈ news)
    (q1 : ∀ l h', Fr h₀ L h' mp → News h₀ L h' ((l, tdObj (x.fdiv 86400) (x.fmod 86400)) :: news) → (∀ p ∈ news, p.1 < l) → Q (.ref l) { s with heap := h' }) :
    wpAny (model prog w) A (binaryOp .Sub (.ref a) (.ref b)) Q E s := by
  refine sub_dtK (N _ ha).1 (N _ hb).1 fun A => ?_
  rw [us_M hx]
  have h1 := hx.lo
  have h2 := hx.hi
  refine newDelta_made (by omega) (by omega) (by omega) ⟨(fun z => by cases z), ?_⟩
  have e1 : x * 1000000 / 86400000000 = x.fdiv 86400 := by rw [fd86400]; omega
  have e2 : x * 1000000 % 86400000000 / 1000000 = x.fmod 86400 := by rw [fm86400]; omega
  rw [e1, e2]
  exact q1 _ _ (F.push _) (News.push F N (tdObj (x.fdiv 86400) (x.fmod 86400))) fun p hp => Heap.lt_size (N p hp).1
theorem item_nat {i : Nat} {Q : Value → Shared → Prop} (N : News h₀ L s.heap news) (hm : (l, PySem.W.listOf vs.toArray n0) ∈ news) (hv : vs[i]? = some v) (hi : i ≤ 1000) (h : Q v s)
    (hs : subscripted slice false (.ref l) (.int (i : Nat) u) = operate [.ref l, .int (i : Nat) u] (getItem (.ref l) (.int (i : Nat) u))) (hg : ∀ r, letTemporaryGo value (.ref l) r = pure ()) :
    wpAny (model prog w) A (subscriptTail value slice (.ref l) (.int (i : Nat) u)) Q E s :=
  item_listL (News.isList N hm) (by omega) (by omega) (by simpa using hv) h hs hg
theorem sorted_rows {ps : List (Int × List Nat)} {Q : Value → Shared → Prop} (F : Fr h₀ L s.heap mp) (N : News h₀ L s.heap news) (hm : (l, PySem.W.listOf vs.toArray n0) ∈ news) (hS : StrsAre vs (ps.map lineS)) (P : Pairs3 ps)
    (h : ∀ D h' vs' ss' e, Fr h₀ L h' mp → News h₀ L h' ((D, PySem.W.listOf vs'.toArray e) :: news) → (∀ p ∈ news, p.1 < D) → StrsAre vs' ss' → ss'.Perm (ps.map lineS) → sortedS ss' = true → Q (.ref D) { s with heap := h' }) :
    wpAny (model prog w) A (call (.builtin "sorted") [.ref l]) Q E s :=
  sorted_N_str F N (News.isList N hm) hS (by rw [StrsAre.length hS, List.length_map]; have := P.n8; omega) fun h' vs' ss' e F' N' S' p' o' =>
    h _ h' vs' ss' e F' N' (fun p hp => Nat.lt_succ_of_lt (Heap.lt_size (N p hp).1)) S' p' o'
theorem sorted_order {ps : List (Int × List Nat)} {ns : List Int} {Q : Value → Shared → Prop} (F : Fr h₀ L s.heap mp) (N : News h₀ L s.heap news) (hm : (l, PySem.W.listOf vs.toArray n0) ∈ news) (hI : IntsAre vs ns) (hN : ns.Perm (ps.map (·.1))) (P : Pairs3 ps)
    (h : ∀ D h' vs' ns' e, Fr h₀ L h' mp → News h₀ L h' ((D, PySem.W.listOf vs'.toArray e) :: news) → (∀ p ∈ news, p.1 < D) → IntsAre vs' ns' → ns'.Perm (ps.map (·.1)) → ns'.Pairwise (· ≤ ·) → Q (.ref D) { s with heap := h' }) :
    wpAny (model prog w) A (call (.builtin "sorted") [.ref l]) Q E s :=
  kso_sorted F N (News.isList N hm) hI (by rw [hN.length_eq, List.length_map]; have := P.n8; omega) fun D vs' ns' c h' F' N' l1 I' _ p' o' _ =>
    h D h' vs' ns' c F' N' l1 I' (p'.trans hN) o'
end
end Mine.Internal
namespace Mine.Internal
open PySem PySem.W PyProof.Rows PySem.Calls PySem.Spec PySem.Builtin._datetime
inductive JPg (prog : Program) (w : World) (PA R O G : Addr) (qs : List (Int × List Nat)) (tail : List (Addr × Obj)) (i : Nat) (m : Str → Option Value) (news : List (Addr × Obj)) : Prop
  | mk (o : Obj) (kvs : List (PySem.Str × Value)) : m (PySem.Str.ofString "page") = some (.ref PA) → m (PySem.Str.ofString "rows") = some (.ref R) → m (PySem.Str.ofString "order") = some (.ref O) → m (PySem.Str.ofString "origin") = some (.ref G) →
      news = (PA, o) :: tail → o.IsDictOf (strKind prog w) kvs → PgI qs i kvs → JPg prog w PA R O G qs tail i m news
theorem map_pin4 {m : Str → Option Value} {a b c d : Str} {x y z u : Value} (h1 : m a = some x) (h2 : m b = some y) (h3 : m c = some z) (h4 : m d = some u) :
    m = fun q => if q = a then some x else if q = b then some y else if q = c then some z else if q = d then some u else m q := pin_cons h1 (pin_cons h2 (pin_cons h3 (pin_cons h4 rfl)))
theorem range1 {n : Int} {k : Nat} (h : n = (k : Int)) : Builtin.Range.rangeSize 0 n 1 = k := by
  unfold Builtin.Range.rangeSize
  subst h
  rcases Nat.eq_zero_or_pos k with e | e
  · subst e; rfl
  · rw [if_pos (by decide), if_pos (by omega)]
    omega
theorem small1 {n : Int} {k : Nat} (h : n = (k : Int)) (hk : k ≤ 8) : Builtin.Range.small 0 n 1 = true := by
  unfold Builtin.Range.small
  rw [range1 h]
  simp [Builtin.Range.rangeFitsLong]
  omega
noncomputable def PageOk (prog : Program) (w : World) (ps : List (Int × List Nat)) (D : Addr) (o : Obj) : Prop := (D == sysModules) = false ∧ ∃ kvs, o.IsDictOf (strKind prog w) kvs ∧ ∀ p ∈ ps, ∃ t, valueAt kvs (tx (stampM p.1)) = some (.str (tx (stampM p.1 ++ p.2)) t)
theorem leaveT_page {prog : Program} {w : World} {ps qs : List (Int × List Nat)} {fs : List Addr} {g g' h : Heap} {s : Shared} {args : List (Addr × Obj)} {tk : Nat} {L' : Addr} {m' : Str → Option Value} {news' : List (Addr × Obj)} {D : Addr} {o : Obj} {kvs : List (PySem.Str × Value)}
    (T : KtsTurn fs g g') (F : Fr g' L' h m') (N : News g' L' h news') (ha : ∀ q ∈ args, q ∈ news') (hm : (D, o) ∈ news') (hne : ∀ p ∈ args, p.1 ≠ D) (lo : (D == sysModules) = false) (hd : o.IsDictOf (strKind prog w) kvs) (hp : PgI qs qs.length kvs) (hq : qs.Perm ps) :
    LeaveT fs g s args (fun v new => ∃ D o, v = Value.ref D ∧ new = [(D, o)] ∧ PageOk prog w ps D o) (.ref D) { s with heap := h, toks := tk } :=
  leaveT_intro T F N ha [(D, o)] (fun q hq => by rw [List.mem_singleton.mp hq]; exact hm) (fun q hq p hp' => by rw [List.mem_singleton.mp hq]; exact (hne p hp').symm) ⟨D, o, rfl, rfl, lo, kvs, hd, hp.all rfl hq⟩
section
variable {prog : Program} {w : World} {K : Frag} {d : Nat} {f : Addr} {args : List (Addr × Obj)} {vs : List Value} {p : Program} {loose : List Str} {mean : ExcName → Option Value} {mg mb : Str → Option Value} {dp un : Nat} {gd : Option (List Code)} {cn : Str} {cs : Scope} {a : Addr} {ccd : Value} {cl : List (Str × Addr)} {outer : List Env} {A₀ : Around} {base h₀ : Heap} {L : Addr} {m : Str → Option Value} {s : Shared} {Q E : Value → Shared → Prop} {news : List (Addr × Obj)}
theorem FnC.topD {O : Addr → Obj → Prop} (C : FnC prog w K d f args vs (fun v new => ∃ D o, v = .ref D ∧ new = [(D, o)] ∧ O D o)) (B : Below A₀ h₀ [] h₀) (F : Fr h₀ L s.heap m) (X : K.In h₀) (N : News h₀ L s.heap news) (T : Top p loose mean mg mb h₀) (hk : cs.kind = .function) (ha : ∀ q ∈ args, q ∈ news)
    (hd : dp + d < recursionLimit) (hu : un + 12 * d < cLine)
    (ret : ∀ D o h' tk', O D o → Fr h₀ L h' m → News h₀ L h' ((D, o) :: news) → AllNe D news → Q (.ref D) { s with heap := h', toks := tk' }) :
    wpC (model prog w) (ktrTop dp un gd cn cs L a ccd cl []) (call (.ref f) vs) Q E s := by
  refine C p loose mean mg mb dp un gd cn cs a ccd cl [] A₀ h₀ h₀ L m s Q E news B F X N T X T ktsDicts_nil hk ha hd hu fun h₀' v new h' tk' T' F' N' B' X' P' D' hne ok => ?_
  obtain ⟨D₁, o, rfl, rfl, ho⟩ := ok
  exact ret D₁ o h' tk' ho ⟨F'.ns, fun b o e => F'.keep b o (turn_nil T' b o e), by rw [← T'.size]; exact F'.above⟩ (fun q hq => ⟨(N' q hq).1, (N' q hq).2.1, by
      cases z : h₀.get? q.1 with
      | none => rfl
      | some o => have := (N' q hq).2.2; rw [turn_nil T' _ _ z] at this; cases this⟩) (allNe_intro fun q hq => hne _ (.head _) q hq)
end
end Mine.Internal
namespace Mine.Internal
open PySem PySem.W PyProof.Rows PySem.Calls PySem.Spec
theorem len_nat {prog : Program} {w : World} {A : Around} {E : Value → Shared → Prop} {s : Shared} {l : Addr} {h₀ : Heap} {L : Addr} {news : List (Addr × Obj)} {vs : List Value} {n0 n : Nat} {Q : Value → Shared → Prop} (N : News h₀ L s.heap news) (hm : (l, PySem.W.listOf vs.toArray n0) ∈ news) (hn : vs.length = n) (hi : n ≤ 1000)
    (h : ∀ t k, Q (.int (n : Nat) t) { s with toks := k }) : wpAny (model prog w) A (call (.builtin "len") [.ref l]) Q E s := by
  subst hn
  refine len_list (News.isList N hm) ?_ ?_
  · rw [List.size_toArray]; omega
  · rw [List.size_toArray]; exact h _ _
theorem len_rows {ps : List (Int × List Nat)} {vs : List Value} {ss : List PySem.Str} (hS : StrsAre vs ss) (hp : ss.Perm (ps.map lineS)) : vs.length = ps.length := by rw [StrsAre.length hS, hp.length_eq, List.length_map]
theorem Pairs3.n1000 {ps : List (Int × List Nat)} (P : Pairs3 ps) : ps.length ≤ 1000 := Nat.le_trans P.n8 (by decide)
end Mine.Internal
namespace Mine.Internal
open PySem PySem.W PyProof.Rows PySem.Calls PySem.Spec
theorem pin_tail {g h : Heap} {L : Addr} {q : Addr × Obj} {tl : List (Addr × Obj)} (N : News g L h (q :: tl)) : ∃ tl', tl' = tl ∧ News g L h (q :: tl') := ⟨tl, rfl, N⟩
end Mine.Internal
namespace Mine.Internal
open PySem PySem.W PyProof.Rows PySem.Calls PySem.Spec
theorem TurnEndT.pg {Gd : Heap → Prop} {prog : Program} {w : World} {L PA R O G : Addr} {qs : List (Int × List Nat)} {tl led : List (Addr × Obj)} {i : Nat} {I : Addr} {io o o' : Obj} {s₂ : Shared} {g h' : Heap} {tk : Nat} {m' : Str → Option Value} {kvs : List (PySem.Str × Value)}
    (Gg : Gd g) (F : Fr g L h' m') (N : News g L h' led) (hI : AllNe I ((PA, o) :: tl)) (mI : (I, io) ∈ led) (mP : (PA, o') ∈ led) (mt : ∀ p ∈ tl, p ∈ led)
    (p1 : m' (PySem.Str.ofString "page") = some (.ref PA)) (p2 : m' (PySem.Str.ofString "rows") = some (.ref R)) (p3 : m' (PySem.Str.ofString "order") = some (.ref O)) (p4 : m' (PySem.Str.ofString "origin") = some (.ref G))
    (hd : o'.IsDictOf (strKind prog w) kvs) (hg : PgI qs (i + 1) kvs) :
    TurnEndT Gd L (JPg prog w PA R O G qs tl (i + 1)) I io s₂ { s₂ with heap := h', toks := tk } :=
  ⟨g, h', tk, m', (PA, o') :: tl, Gg, rfl, F, fun p hp => N p (List.forall_mem_cons.mpr ⟨mI, List.forall_mem_cons.mpr ⟨mP, mt⟩⟩ p hp), ⟨hI.1, hI.2⟩, .mk o' kvs p1 p2 p3 p4 rfl hd hg⟩
end Mine.Internal

end
section
open PySem PySem.W PyProof.Rows PySem.Calls PySem.Spec
set_option maxRecDepth 100000
namespace Mine.Internal
section
variable {prog : Program} {w : World} {A : Around} {E : Value → Shared → Prop} {s : Shared}
theorem codeC_forLoop2 {R : Result → Shared → Prop} {target it body orelse env} (I : Nat → Shared → Prop)
    (turn : ∀ n s, I n s → wpAny (model prog w) A (pyNext it) (fun r s₁ => match r with
      | none => wpC (model prog w) A (execs orelse env) (fun f s₃ => R (.ok f) s₃) (notedBy (model prog w) A env fun e s' => R (.error e) s') s₁
      | some v => wpAny (model prog w) A (letOwnedTupleGo target it v) (fun _ s₀ => wpAny (model prog w) A (assign target env v) (fun _ s₂ => wpC (model prog w) A (execs body env) (fun f s₃ => match f with
          | .next | .cont => ∃ m, m < n ∧ I m s₃
          | .brk => R (.ok .next) s₃
          | .ret v => R (.ok (.ret v)) s₃) (notedBy (model prog w) A env fun e s' => R (.error e) s') s₂) (notedBy (model prog w) A env fun e s' => R (.error e) s') s₀) (notedBy (model prog w) A env fun e s' => R (.error e) s') s₁) (notedBy (model prog w) A env fun e s' => R (.error e) s') s)
    (n : Nat) (h : I n s) : codeC (model prog w) A (.forLoop target it body orelse env) R s := by
  refine codeC_loop rfl I (fun n s hI => ?_) n h
  show wpC _ _ ((forTurn target it body orelse env).onRaise (fun x => do noteFrame x env; theTreesLotGoes x)) _ _ s
  refine wpC_noted ?_
  simp only [forTurn]
  refine wpC_then (wpAny_standAt (wpC_then (wpAny_onRaise (wpAny_mono (turn n s hI) (fun r s₁ h₁ => ?_) fun _ _ h' => wpAny_standAt h'))))
  cases r with
  | none => exact wpC_pure (.inr ⟨rfl, codeC_block h₁⟩)
  | some v =>
    refine wpC_then (wpAny_mono h₁ (fun _ s₀ h₀ => ?_) fun _ _ h' => h')
    refine wpC_then (wpAny_mono h₀ (fun _ s₂ h₂ => wpC_bind (wpC_mono h₂ (fun f s₃ h₃ => ?_) fun _ _ h' => h')) fun _ _ h' => h')
    cases f with
    | next => exact wpC_pure (.inl ⟨rfl, h₃⟩)
    | cont => exact wpC_pure (.inl ⟨rfl, h₃⟩)
    | brk => exact wpC_pure h₃
    | ret v => exact wpC_pure h₃
end
section
variable {prog : Program} {w : World} {A : Around} {E : Value → Shared → Prop} {s : Shared} {env : Env} {h₀ : Heap} {body : List Stmt} {elts : List PySem.Expr} {xc : Nat} {tp : Pos} {Q : Flow → Shared → Prop}
inductive LedIt (h₀ : Heap) (L l I : Addr) (n : Nat) (J : Nat → (Str → Option Value) → List (Addr × Obj) → Prop) (s : Shared) : Nat → Shared → Prop
  | mk {h' : Heap} {tk : Nat} {m' : Str → Option Value} {news' : List (Addr × Obj)} {io : Obj} {i : Nat} : h'.IsListIter I l i → Fr h₀ L h' m' → News h₀ L h' ((I, io) :: news') → AllNe I news' → J i m' news' → i ≤ n → LedIt h₀ L l I n J s (n + 1 - i) { s with heap := h', toks := tk }
theorem for_ledP {l : Addr} {vs : List Value} {lo : Obj} {m : Str → Option Value} {news : List (Addr × Obj)} (J : Nat → (Str → Option Value) → List (Addr × Obj) → Prop)
    (hh : A.handled = none) (hlo : ∃ n0, lo = PySem.W.listOf vs.toArray n0) (hJl : ∀ i m news, J i m news → (l, lo) ∈ news) (F : Fr h₀ env.locals s.heap m) (N : News h₀ env.locals s.heap news) (h0 : J 0 m news)
    (turn : ∀ i v m₁ news₁ I io h tk, vs[i]? = some v → J i m₁ news₁ → AllNe I news₁ → Fr h₀ env.locals h m₁ → News h₀ env.locals h ((I, io) :: news₁) →
      wpAny (model prog w) A (assign (.Tuple elts xc tp) env v) (fun _ s₂ => wpC (model prog w) A (execs body env) (TurnPost h₀ env.locals (J (i + 1)) I io Q { s with heap := h, toks := tk }) E s₂) E { s with heap := h, toks := tk })
    (done : ∀ m₁ news₁ h tk, J vs.length m₁ news₁ → Fr h₀ env.locals h m₁ → News h₀ env.locals h news₁ → Q .next { s with heap := h, toks := tk })
    (hrefs : ∀ v ∈ vs, ∃ T, v = Value.ref T)
    (hE : PassesOwn (model prog w) A env E) :
    wpAny (model prog w) A (pyIter (.ref l)) (fun it s₂ => codeC (model prog w) A (.forLoop (.Tuple elts xc tp) it body [] env) (fun r s' => match r with | .ok f => Q f s' | .error e => cameBackBy (model prog w) A env E e s') s₂) E s := by
  obtain ⟨n0, rfl⟩ := hlo
  have hl : ∀ {h : Heap} {I : Addr} {io : Obj} {i : Nat} {m₁ : Str → Option Value} {news₁ : List (Addr × Obj)}, J i m₁ news₁ → News h₀ env.locals h ((I, io) :: news₁) → h.IsList l vs.toArray := fun hj hN => News.isList hN (List.mem_cons_of_mem _ (hJl _ _ _ hj))
  have hls : s.heap.IsList l vs.toArray := News.isList N (hJl _ _ _ h0)
  refine wpAny_pyIter_list hls ?_
  refine codeC_forLoop2 (LedIt h₀ env.locals l s.heap.objs.size vs.length J s) ?_ (vs.length + 1)
    (LedIt.mk (i := 0) ⟨_, Heap.get?_push_size _ rfl, rfl, rfl⟩ (F.push _) (News.push F N _) (allNe_intro fun p hp => Nat.ne_of_lt (Heap.lt_size (N p hp).1)) h0 (Nat.zero_le _))
  rintro k s' ⟨hit, F', N', hI, hJ, hi⟩
  rename_i h' tk m' news' io i
  by_cases hlt : i < vs.length
  · refine wpAny_pyNext_list_item hit (hl hJ N') (x := vs[i]) (by simp [hlt]) fun h₁ hit₁ hs₁ => ?_
    obtain ⟨io₁, hio₁, _⟩ := id hit₁
    obtain ⟨T, hT⟩ := hrefs vs[i] (List.getElem_mem hlt)
    dsimp only
    rw [hT]
    refine wpAny_letOwnedTupleGo_listiter hit₁ ?_
    rw [← hT]
    refine wpAny_passesOwn hE (wpAny_mono (turn i vs[i] m' news' _ io₁ h₁ tk (by simp [hlt]) hJ hI (iter_fr F' N' hs₁) (iter_news N' hI hs₁ hio₁)) (fun _ s₂ h₂ => wpC_mono h₂ (fun f s₃ h₃ => ?_) hE) fun _ _ x => x)
    have fin : TurnEnd h₀ env.locals (J (i + 1)) s.heap.objs.size io₁ { s with heap := h₁, toks := tk } s₃ → ∃ m, m < vs.length + 1 - i ∧ LedIt h₀ env.locals l s.heap.objs.size vs.length J s m s₃ := by
      rintro ⟨h₄, tk₄, m₄, news₄, rfl, F₄, N₄, hI₄, hJ₄⟩
      refine ⟨vs.length + 1 - (i + 1), by omega, LedIt.mk (hit₁.at fun o e => ?_) F₄ N₄ hI₄ hJ₄ hlt⟩
      rw [hio₁] at e
      obtain rfl := Option.some.inj e
      exact (N₄ _ (.head _)).1
    cases f with
    | ret v => exact h₃
    | brk => exact h₃
    | next => exact fin h₃
    | cont => exact fin h₃
  · have hin : i = vs.length := by omega
    subst hin
    refine wpAny_pyNext_list_end hh hit (hl hJ N') (by simp) fun h₁ he₁ => wpC_nil ?_
    exact done m' news' h₁ tk hJ (over_fr F' N' fun b o hb e => he₁ b o hb e) (over_news N' hI fun b o hb e => he₁ b o hb e)
theorem for_headP {l : Addr} {vs : List Value} {n0 : Nat} {m : Str → Option Value} {news : List (Addr × Obj)} (J : Nat → (Str → Option Value) → List (Addr × Obj) → Prop)
    (F : Fr h₀ env.locals s.heap m) (N : News h₀ env.locals s.heap ((l, PySem.W.listOf vs.toArray n0) :: news)) (hh : A.handled = none) (h0 : J 0 m news)
    (turn : ∀ (Q' : Flow → Shared → Prop) (E' : Value → Shared → Prop) i v m₁ news₁ I io h tk, vs[i]? = some v → J i m₁ news₁ → AllNe I ((l, PySem.W.listOf vs.toArray n0) :: news₁) → Fr h₀ env.locals h m₁ → News h₀ env.locals h ((I, io) :: (l, PySem.W.listOf vs.toArray n0) :: news₁) →
      wpAny (model prog w) A (assign (.Tuple elts xc tp) env v) (fun _ s₂ => wpC (model prog w) A (execs body env) (TurnPost h₀ env.locals (fun m' n' => ∃ n1, n' = (l, PySem.W.listOf vs.toArray n0) :: n1 ∧ J (i + 1) m' n1) I io Q' { s with heap := h, toks := tk }) E' s₂) E' { s with heap := h, toks := tk })
    (done : ∀ m₁ news₁ h tk, J vs.length m₁ news₁ → Fr h₀ env.locals h m₁ → News h₀ env.locals h ((l, PySem.W.listOf vs.toArray n0) :: news₁) → Q .next { s with heap := h, toks := tk })
    (hrefs : ∀ v ∈ vs, ∃ T, v = Value.ref T)
    (hE : PassesOwn (model prog w) A env E) :
    wpAny (model prog w) A (pyIter (.ref l)) (fun it s₂ => codeC (model prog w) A (.forLoop (.Tuple elts xc tp) it body [] env) (fun r s' => match r with | .ok f => Q f s' | .error e => cameBackBy (model prog w) A env E e s') s₂) E s := by
  refine for_ledP (vs := vs) (lo := PySem.W.listOf vs.toArray n0) (fun i m' n' => ∃ n1, n' = (l, PySem.W.listOf vs.toArray n0) :: n1 ∧ J i m' n1) hh ⟨n0, rfl⟩ (fun i m' n' h => ?_) F N ⟨_, rfl, h0⟩ (fun i v m₁ news₁ I io h tk hv hJ hI F₁ N₁ => ?_) (fun m₁ news₁ h tk hJ F₁ N₁ => ?_) hrefs hE
  · obtain ⟨n1, rfl, _⟩ := h; exact .head _
  · obtain ⟨n1, rfl, hJ⟩ := hJ
    exact turn Q E i v m₁ n1 I io h tk hv hJ hI F₁ N₁
  · obtain ⟨n1, rfl, hJ⟩ := hJ
    exact done m₁ n1 h tk hJ F₁ N₁
end
end Mine.Internal

end
section
open PySem PySem.W PyProof.Rows PySem.Calls PySem.Spec
set_option maxRecDepth 100000
namespace Mine.Internal
section
variable {prog : Program} {w : World} {A : Around} {s : Shared}
theorem call_cells2C {R : Result → Shared → Prop} {name : Str} {params : Arguments} {body : List Stmt} {scope : Scope}
    {dV kV pm cd doc : Value} {a : Addr} {o : Obj} {args : Args} {n n1 n2 : Str} {v : Value}
    (hroom : A.depth < recursionLimit) (ho : s.heap.get? a = some o) (hdata : o.data = .func { docDef name params body scope pm cd doc with defaults := dV, kwdefaults := kV }) (hlim : s.heap.NoLimit) (hcd : s.heap.CodeRec cd name)
    (hbind : BindsTo s { docDef name params body scope pm cd doc with defaults := dV, kwdefaults := kV } args [(n, v)])
    (hloc : scope.names.lookup n = some .local) (hc : ∀ k, cellsFrom k scope.names [] = [(n2, k + 1), (n1, k)])
    (h : ∀ h₁ tk c1 c2 o1 o2, NeA c1 c2 → Fr s.heap s.heap.objs.size h₁ (fun y => if y = n then some v else none) → News s.heap s.heap.objs.size h₁ [(c2, o2), (c1, o1)] → o2.data = .cell none → o1.data = .cell none →
      wpC (model prog w) (A.deeper (envX name scope s.heap.objs.size a cd [(n2, c2), (n1, c1)])) (execs body (envX name scope s.heap.objs.size a cd [(n2, c2), (n1, c1)]))
        (fun f s' => R (.ok (.ret (match f with | .ret v => v | _ => .none))) s')
        (fun e s' => wpAny (model prog w) (A.deeper (envX name scope s.heap.objs.size a cd [(n2, c2), (n1, c1)])) (leaving (envX name scope s.heap.objs.size a cd [(n2, c2), (n1, c1)]) e)
          (fun _ s'' => R (.error e) s'') (fun e' s'' => R (.error e') s'') s')
        { s with heap := h₁, toks := tk })
    (hne : n1 ≠ n2) (hkl : (envOfC name scope s.heap.objs.size a cd).kindOf n = some .local)
    (hco : autoParam (scope.isCoroutine = false) PySem.W.call_K._auto_4) (hgen : autoParam (scope.isGenerator = false) PySem.W.call_K._auto_4) (hk : autoParam (scope.kind = .function) PySem.W.call_K._auto_4) :
    codeC (model prog w) A (.call (.ref a) args) R s := by
  refine codeC_of_tree ?_
  show wpC _ A.in1 (callAny (.ref a) args) _ _ s
  simp only [callAny]
  refine wpC_then (wpAny_load ho ?_)
  obtain ⟨c, oc, vs, tq, hcc, hoc, hdc, hq⟩ := hcd
  subst hcc
  simp only [hdata, callFunction, docDef, hco, hgen]
  refine wpC_then (m := field (.ref c) 1) (wpAny_field hoc hdc hq (wpC_then (wpAny_pure ?_)))
  refine wpC_then (hbind _ _ _ _ ?_)
  refine wpC_then (wpAny_newFunctionEnv_cells hk (fun x hx => .inl (by rw [List.mem_singleton.mp hx]; exact hloc)) fun env' he s' x => ?_)
  subst he
  have y := x.toInCall
  refine wpC_then (wpAny_enterFrame (hlim.keeps y.keep) hroom (wpC_pure (And.intro rfl ?_)))
  refine codeC_func (R := R) ?_
  obtain ⟨h₁, tk, rfl, _⟩ := x.done
  have hk₁ := y.keep
  have hn : h₁.Ns s.heap.objs.size (bindL (envOfC name scope s.heap.objs.size a (.ref c)).kindOf [(n, v)] fun _ => none) := y.ns
  have eL : bindL (envOfC name scope s.heap.objs.size a (.ref c)).kindOf [(n, v)] (fun _ => none) = fun z => if z = n then some v else none := if_pos hkl
  have eC : bindC (envOfC name scope s.heap.objs.size a (.ref c)).kindOf [(n, v)] (fun _ => none) = fun _ => none := if_pos hkl
  rw [eL] at hn
  obtain ⟨cells, NC, Y⟩ := Cl.news (h₀ := s.heap) (h := h₁) (L := s.heap.objs.size) (cm := fun _ => none) (Nat.le_refl _) (cs := cellsFrom (s.heap.objs.size + 1) scope.names []) fun k d hm => by
    have hd : (cellsFrom (s.heap.objs.size + 1) scope.names []).lookup k = some d := by
      rw [hc] at hm ⊢
      rcases List.mem_cons.mp hm with e | hm
      · cases e; exact List.lookup_cons_self
      · cases List.mem_singleton.mp hm
        rw [List.lookup_cons, show (n1 == n2) = false from beq_eq_false_iff_ne.mpr hne]
        exact List.lookup_cons_self
    have q := x.cell k d hd
    refine ⟨?_, x.above k d hm⟩
    have e2 := congrFun eC k
    exact e2 ▸ q
  rw [hc] at Y
  obtain ⟨o2, o1, rfl, d2, d1⟩ := Y.two
  have q := h h₁ tk _ _ o1 o2 ⟨Nat.ne_of_lt (Nat.lt_succ_self (s.heap.objs.size + 1))⟩ ⟨hn, hk₁, Nat.le_refl _⟩ NC d2 d1
  rw [← hc] at q
  exact q
end
end Mine.Internal

end
section
open PySem PySem.W PyProof.Rows PySem.Calls PySem.Spec
set_option maxRecDepth 100000
set_option linter.unusedVariables false
namespace Mine.Internal
noncomputable abbrev Rec : Type := Int × Int × List Nat
noncomputable def pv (ms : List Int) : Nat → Int
  | 0 => ms.getLastD 0
  | k + 1 => ms.getD k 0
noncomputable def psOf (recs : List Rec) : List (Int × List Nat) := (List.range recs.length).map fun i => (pv (recs.map (·.1)) i, 44 :: (recs.getD i (0, 0, [])).2.2)
structure RecOk (recs : List Rec) : Prop where
  mk ::
  nd : (recs.map (·.1)).Nodup
  mz : ∀ r ∈ recs, Mz r.1
  tl : ∀ r ∈ recs, TailOf r.1 r.2.1 r.2.2
  n8 : recs.length ≤ 8
theorem psOf_len (recs : List Rec) : (psOf recs).length = recs.length := by unfold psOf; rw [List.length_map, List.length_range]
theorem psOf_at {recs : List Rec} {i : Nat} {r : Rec} (h : recs[i]? = some r) : (psOf recs)[i]? = some (pv (recs.map (·.1)) i, 44 :: r.2.2) := by
  have hi := (List.getElem?_eq_some_iff.mp h).1
  unfold psOf
  rw [List.getElem?_map, List.getElem?_range hi]
  simp [h]
theorem pv_range : ∀ (ms : List Int), ms ≠ [] → (List.range ms.length).map (pv ms) = ms.getLastD 0 :: ms.dropLast := by
  intro ms hne
  obtain ⟨n, hn⟩ : ∃ n, ms.length = n + 1 := ⟨ms.length - 1, by have := List.length_pos_iff.mpr hne; omega⟩
  rw [hn, List.range_succ_eq_map, List.map_cons, List.map_map]
  congr 1
  refine List.ext_getElem? fun i => ?_
  rw [List.getElem?_map, List.getElem?_dropLast, hn]
  by_cases hi : i < n
  · rw [List.getElem?_range hi, if_pos (by omega)]
    show some (pv ms (i + 1)) = ms[i]?
    have hl : i < ms.length := by omega
    simp [pv, hl]
  · rw [List.getElem?_eq_none (by simp; omega), if_neg (by omega)]
    rfl
theorem psOf_perm {recs : List Rec} (h : recs ≠ []) : ((psOf recs).map (·.1)).Perm (recs.map (·.1)) := by
  have hm : recs.map (·.1) ≠ [] := fun e => h (List.map_eq_nil_iff.mp e)
  have e : (psOf recs).map (·.1) = (List.range (recs.map (·.1)).length).map (pv (recs.map (·.1))) := by
    unfold psOf
    rw [List.map_map, List.length_map]
    rfl
  rw [e, pv_range _ hm]
  have hl : (recs.map (·.1)).getLastD 0 = (recs.map (·.1)).getLast hm := by rw [List.getLastD_eq_getLast?, List.getLast?_eq_some_getLast hm]; rfl
  rw [hl]
  exact (List.perm_append_singleton _ _).symm.trans (by rw [List.dropLast_concat_getLast hm])
theorem TailT.bounds {R : List Nat} {k y m d h mi sc z : Int} (t : TailT R k y m d h mi sc z) (hk : 0 ≤ k ∧ k ≤ 6) (hm : 1 ≤ m ∧ m ≤ 12) : (1 ≤ R.length ∧ R.length ≤ 80) ∧ ∃ c, R.head? = some c ∧ noHead c = true := by
  have hh : ∀ c ∈ [32, 83, 77, 84, 87, 70], noHead c = true := List.all_eq_true.mp noHeads
  have hw : ∀ r : List Nat, ∃ c, (wd3 k ++ r).head? = some c ∧ noHead c = true := fun r =>
    weekN (P := fun k => ∃ c, (wd3 k ++ r).head? = some c ∧ noHead c = true) (fun j hj => by
      match j, hj with
      | 0, _ => exact ⟨83, rfl, hh _ (by decide)⟩
      | 1, _ => exact ⟨77, rfl, hh _ (by decide)⟩
      | 2, _ => exact ⟨84, rfl, hh _ (by decide)⟩
      | 3, _ => exact ⟨87, rfl, hh _ (by decide)⟩
      | 4, _ => exact ⟨84, rfl, hh _ (by decide)⟩
      | 5, _ => exact ⟨70, rfl, hh _ (by decide)⟩
      | 6, _ => exact ⟨83, rfl, hh _ (by decide)⟩) hk
  have hl := wd3_len hk
  have hml := mon_len hm
  have hdl := dgs_len d
  have hcl : (clk h mi sc).length = 8 := rfl
  have h4l : (dg4 y).length = 4 := rfl
  have h2l : (dg2 d).length = 2 := rfl
  cases t with
  | a W hW e =>
    subst e
    refine ⟨?_, 32, rfl, hh _ (by decide)⟩
    have := hW.mem.1
    simp only [List.length_append, List.length_cons, hml, hcl, h4l]
    omega
  | b W hW e =>
    subst e
    refine ⟨?_, hw _⟩
    have := hW.mem.1
    simp only [List.length_append, List.length_cons, hml, hcl, h4l, hl]
    omega
  | c W hW h0 e =>
    subst e
    refine ⟨?_, hw _⟩
    have := hW.mem.1
    simp only [List.length_append, List.length_cons, hcl, hl, dash4, joinC, h2l, h4l, hml]
    omega
theorem TailOf.bounds {x z : Int} {R : List Nat} (t : TailOf x z R) : (1 ≤ R.length ∧ R.length ≤ 80) ∧ ∃ c, R.head? = some c ∧ noHead c = true := by
  obtain ⟨k, hk, h⟩ := t.k
  exact h.bounds hk (ff t.mo).hm
theorem TailOf.told {x z p : Int} {R : List Nat} (t : TailOf x z R) : Told (stampM p ++ 44 :: R) (fY (x + z)) (fM (x + z)) (fD (x + z)) (fH (x + z)) (fI (x + z)) (fS (x + z)) z := by
  obtain ⟨k, hk, h⟩ := t.k
  have f := ff t.mo
  exact tellA (front_M p) h hk f.hm (by have := f.hd; omega)
theorem RecOk.pairs {recs : List Rec} (h : RecOk recs) (h0 : recs ≠ []) : Pairs3 (psOf recs) := by
  have hp := psOf_perm h0
  refine ⟨fun p hm => ?_, fun p hm => ?_, hp.nodup_iff.mpr h.nd, by rw [psOf_len]; exact h.n8⟩
  · obtain ⟨r, hr, e⟩ := List.mem_map.mp (hp.mem_iff.mp (List.mem_map_of_mem hm))
    rw [← e]; exact h.mz r hr
  · obtain ⟨i, hi⟩ := List.getElem?_of_mem hm
    have hlt : i < recs.length := by rw [← psOf_len]; exact (List.getElem?_eq_some_iff.mp hi).1
    have e := psOf_at (List.getElem?_eq_getElem hlt)
    rw [hi] at e
    cases e
    have := (h.tl _ (List.getElem_mem hlt)).bounds.1.2
    show (44 :: (recs[i]).2.2).length ≤ 900
    rw [List.length_cons]; omega
theorem ref_one {R : List Nat} {p : Int} {x z : Int} (t : TailOf x z R) : Refused (R ++ [32] ++ stampM p) := by
  obtain ⟨⟨h1, h2⟩, c, hc, hn⟩ := t.bounds
  refine refused_c hn ?_ ?_ ?_
  · rw [List.append_assoc]
    cases R with
    | nil => cases hc
    | cons a r => exact hc
  · simp only [List.length_append, stampM_len]; omega
  · simp only [List.length_append, List.length_cons, List.length_nil, stampM_len]; omega
theorem ref_two {R : List Nat} {p : Int} {x z : Int} (t : TailOf x z R) : Refused ((stampM p).take 19 ++ 44 :: R) := by
  obtain ⟨⟨h1, h2⟩, _⟩ := t.bounds
  have hl : ((stampM p).take 19).length = 19 := rfl
  refine refused_z ⟨fun i hi => ?_⟩ ?_ ?_
  · have hi20 : i < 20 := hi
    have q := (stampL_same (fY p) (fM p) (fD p) (fH p) (fI p) (fS p)).ok i hi
    by_cases c : i < 19
    · have e : ((stampM p).take 19 ++ 44 :: R).toArray.getD i 0 = (stampM p).toArray.getD i 0 := by
        simp only [Array.getD_eq_getD_getElem?, List.getElem?_toArray]
        rw [List.getElem?_append_left (by rw [hl]; exact c), List.getElem?_take_of_lt c]
      have e' : TZ.getD i 0 = T0.getD i 0 := (show ∀ i : Nat, i < 19 → TZ.getD i 0 = T0.getD i 0 by decide) i c
      rw [e, e']
      exact q
    · have : i = 19 := by omega
      subst this
      left
      simp only [Array.getD_eq_getD_getElem?, List.getElem?_toArray]
      rw [List.getElem?_append_right (by rw [hl]; exact Nat.le_refl _), hl]
      rfl
  · rw [List.length_append, hl, List.length_cons]; omega
  · rw [List.length_append, hl, List.length_cons]; omega
theorem line_len {p : Int} {R : List Nat} : (stampM p ++ 44 :: R).length = 21 + R.length := by rw [List.length_append, stampM_len, List.length_cons]; omega
theorem cut_20 (p : Int) (R : List Nat) : Txt.slice (tx (stampM p ++ 44 :: R)) none (some 20) = tx (stampM p) := by
  refine (slice_to (n := 20) (by rw [line_len]; omega)).trans ?_
  rw [List.take_left' (stampM_len p)]
theorem cut_19 (p : Int) (R : List Nat) : Txt.slice (tx (stampM p ++ 44 :: R)) none (some 19) = tx ((stampM p).take 19) := by
  refine (slice_to (n := 19) (by rw [line_len]; omega)).trans ?_
  rw [List.take_append_of_le_length (by rw [stampM_len]; decide)]
theorem cut_21 (p : Int) (R : List Nat) : Txt.slice (tx (stampM p ++ 44 :: R)) (some 21) none = tx R := by
  refine (slice_from (n := 21) (by rw [line_len]; omega)).trans ?_
  rw [show stampM p ++ 44 :: R = (stampM p ++ [44]) ++ R by simp, List.drop_left' (by rw [List.length_append, stampM_len]; rfl)]
theorem cut_20' (p : Int) (R : List Nat) : Txt.slice (tx (stampM p ++ 44 :: R)) (some 20) none = tx (44 :: R) := by
  refine (slice_from (n := 20) (by rw [line_len]; omega)).trans ?_
  rw [List.drop_left' (stampM_len p)]
end Mine.Internal

end
section
open PySem PySem.W PyProof.Rows PySem.Calls PySem.Spec
set_option maxRecDepth 100000
set_option linter.unusedVariables false
namespace Mine.Internal
noncomputable def RowQ (tail : List (Addr × Obj)) (v : Value) : Prop := ∃ (t : Addr) (x y : Int) (t1 t2 : Tok), v = .ref t ∧ (t, ({ cls := .type "tuple", data := .seq #[.int x t1, .int y t2] } : Obj)) ∈ tail
theorem RowQ.more {tail : List (Addr × Obj)} {v : Value} {q : Addr × Obj} (h : RowQ tail v) : RowQ (q :: tail) v := by
  obtain ⟨t, x, y, t1, t2, e, hm⟩ := h
  exact ⟨t, x, y, t1, t2, e, .tail _ hm⟩
theorem par_odd {n : Nat} (h : ((n : Nat) : Int).fmod 2 = 1) : n % 2 = 1 := by rw [Int.fmod_eq_emod_of_nonneg _ (by decide)] at h; omega
theorem par_even {n : Nat} (h : ¬ ((n : Nat) : Int).fmod 2 = 1) : n % 2 = 0 := by rw [Int.fmod_eq_emod_of_nonneg _ (by decide)] at h; omega
theorem par_app {l : List Int} {x : Int} (h : ((l.length : Nat) : Int).fmod 2 = 1) : (l ++ [x]).length % 2 = 0 := by have := par_odd h; rw [List.length_append]; simp; omega
theorem par_app10 {l : List Int} {x : Int} (h : (((l.take 10).length : Nat) : Int).fmod 2 = 1) : (l.take 10 ++ [x]).length ≤ 10 := by
  have := par_odd h
  rw [List.length_append]
  rw [List.length_take] at *
  simp
  omega
theorem take10_le (l : List Int) : (l.take 10).length ≤ 10 := Nat.le_trans (Nat.le_of_eq List.length_take) (Nat.min_le_left _ _)
inductive JA (c1 c2 : Addr) (m : Str → Option Value) (news : List (Addr × Obj)) : Prop
  | mk (C : Addr) (vs : List Value) (xs : List Int) (n0 k : Nat) (o1 o2 : Obj) : m (PySem.Str.ofString "cells") = some (.ref C) → news = [(C, PySem.W.listOf vs.toArray n0), (c2, o2), (c1, o1)] → o1.data = .cell none → o2.data = .cell none → IntsAre vs xs → xs.length = 2 * k → k ≤ 5 → NeA C c1 → NeA C c2 → JA c1 c2 m news
theorem jA_intro {Gd : Heap → Prop} {L c1 c2 : Addr} {g hp : Heap} {tk : Nat} {m : Str → Option Value} {led : List (Addr × Obj)} {s : Shared} {C : Addr} {n0 : Nat} {vs : List Value} {xs : List Int} {o1 o2 : Obj}
    (G : Gd g) (F : Fr g L hp m) (N : News g L hp led) (hm : (C, PySem.W.listOf vs.toArray n0) ∈ led) (h1 : (c1, o1) ∈ led) (h2 : (c2, o2) ∈ led) (n1 : C ≠ c1) (n2 : C ≠ c2) (p : m (PySem.Str.ofString "cells") = some (.ref C)) (d1 : o1.data = .cell none) (d2 : o2.data = .cell none) (hI : IntsAre vs xs) (hk : xs.length % 2 = 0) (hl : xs.length ≤ 10) :
    MidF Gd L (JA c1 c2) s .next { s with heap := hp, toks := tk } :=
  MidF.intro G F N (.mk C vs xs n0 (xs.length / 2) o1 o2 p rfl d1 d2 hI (by omega) (by omega) ⟨n1⟩ ⟨n2⟩) (List.forall_mem_cons.mpr ⟨hm, List.forall_mem_cons.mpr ⟨h2, List.forall_mem_cons.mpr ⟨h1, List.forall_mem_nil _⟩⟩⟩)
inductive JP3 (R C c1 c2 : Addr) (vs : List Value) (n0 : Nat) (o1 o2 : Obj) (i : Nat) (m : Str → Option Value) (news : List (Addr × Obj)) : Prop
  | mk (rs : List Value) (n1 : Nat) (tail : List (Addr × Obj)) : m (PySem.Str.ofString "pairs") = some (.ref R) → m (PySem.Str.ofString "cells") = some (.ref C) → news = (R, PySem.W.listOf rs.toArray n1) :: tail → (C, PySem.W.listOf vs.toArray n0) ∈ tail → (c1, o1) ∈ tail → (c2, o2) ∈ tail → rs.length = 3 + i → (∀ v ∈ rs, RowQ tail v) → AllNe R tail → JP3 R C c1 c2 vs n0 o1 o2 i m news
theorem TurnEndT.row3 {Gd : Heap → Prop} {L R C c1 c2 D : Addr} {vs rs : List Value} {n0 n1 i : Nat} {x y : Int} {u1 u2 : Tok} {I : Addr} {io oo o1 o2 : Obj} {s₂ : Shared} {g h' : Heap} {tk : Nat} {m' : Str → Option Value} {led tail : List (Addr × Obj)}
    (G : Gd g) (F : Fr g L h' m') (N : News g L h' led) (hI : AllNe I ((R, oo) :: tail)) (hC : (C, PySem.W.listOf vs.toArray n0) ∈ tail) (h1 : (c1, o1) ∈ tail) (h2 : (c2, o2) ∈ tail) (hlen : rs.length = 3 + i) (hrow : ∀ v ∈ rs, RowQ tail v) (hR : AllNe R tail)
    (mI : (I, io) ∈ led) (mR : (R, PySem.W.listOf (rs.toArray.push (.ref D)) (n1 + 1)) ∈ led) (mD : (D, ({ cls := .type "tuple", data := .seq #[.int x u1, .int y u2] } : Obj)) ∈ led) (mt : ∀ p ∈ tail, p ∈ led)
    (nDR : D ≠ R) (nDI : D ≠ I)
    (p1 : m' (PySem.Str.ofString "pairs") = some (.ref R)) (p2 : m' (PySem.Str.ofString "cells") = some (.ref C)) :
    TurnEndT Gd L (JP3 R C c1 c2 vs n0 o1 o2 (i + 1)) I io s₂ { s₂ with heap := h', toks := tk } :=
  ⟨g, h', tk, m', (R, PySem.W.listOf (rs ++ [Value.ref D]).toArray (n1 + 1)) :: (D, { cls := .type "tuple", data := .seq #[.int x u1, .int y u2] }) :: tail, G, rfl, F,
    fun p hp => N p (List.forall_mem_cons.mpr ⟨mI, List.forall_mem_cons.mpr ⟨by rw [← List.push_toArray]; exact mR, List.forall_mem_cons.mpr ⟨mD, mt⟩⟩⟩ p hp),
    ⟨hI.1, ⟨nDI⟩, hI.2⟩, .mk _ _ _ p1 p2 rfl (.tail _ hC) (.tail _ h1) (.tail _ h2) (by rw [List.length_append, hlen]; rfl) (fun v h => by
      rcases List.mem_append.mp h with h | h
      · exact (hrow v h).more
      · rw [List.mem_singleton.mp h]; exact ⟨D, x, y, u1, u2, rfl, .head _⟩) ⟨⟨nDR⟩, hR⟩⟩
theorem range2 {n : Int} {k : Nat} (h : n = 2 * (k : Int)) : Builtin.Range.rangeSize 0 n 2 = k := by
  unfold Builtin.Range.rangeSize
  subst h
  rcases Nat.eq_zero_or_pos k with e | e
  · subst e; rfl
  · rw [if_pos (by decide), if_pos (by omega)]
    omega
theorem small2 {n : Int} {k : Nat} (h : n = 2 * (k : Int)) (hk : k ≤ 5) : Builtin.Range.small 0 n 2 = true := by
  unfold Builtin.Range.small
  rw [range2 h]
  simp [Builtin.Range.rangeFitsLong]
  omega
inductive JB (c1 c2 : Addr) (m : Str → Option Value) (news : List (Addr × Obj)) : Prop
  | mk (P : Addr) (rs : List Value) (n1 : Nat) (o1 o2 : Obj) (tail : List (Addr × Obj)) : m (PySem.Str.ofString "pairs") = some (.ref P) → news = (P, PySem.W.listOf rs.toArray n1) :: (c2, o2) :: (c1, o1) :: tail → o1.data = .cell none → o2.data = .cell none → rs.length ≤ 8 → 3 ≤ rs.length → (∀ v ∈ rs, RowQ tail v) → AllNe c1 tail → AllNe c2 tail → NeA P c1 → NeA P c2 → JB c1 c2 m news
inductive TRow (tail : List (Addr × Obj)) (r : Rec) (v : Value) : Prop
  | mk (D a : Addr) (tt t1 t2 t3 t4 t5 t6 t7 t8 t9 ta : Tok) : v = .ref D → (D, ({ cls := .type "tuple", data := .seq #[.str (tx (44 :: r.2.2)) tt, .ref a] } : Obj)) ∈ tail → (a, ({ cls := .type "tuple", data := .seq #[.int (fY (r.1 + r.2.1)) t1, .int (fM (r.1 + r.2.1)) t2, .int (fD (r.1 + r.2.1)) t3, .int (fH (r.1 + r.2.1)) t4, .int (fI (r.1 + r.2.1)) t5, .int (fS (r.1 + r.2.1)) t6, .int 0 t7, .int 1 t8, .int (-1) t9, .int r.2.1 ta] } : Obj)) ∈ tail → TRow tail r v
theorem TRow.sub {tail tail' : List (Addr × Obj)} {r : Rec} {v : Value} (h : TRow tail r v) (hs : ∀ p ∈ tail, p ∈ tail') : TRow tail' r v := by
  cases h with
  | mk D a tt t1 t2 t3 t4 t5 t6 t7 t8 t9 ta e h1 h2 => exact .mk D a tt t1 t2 t3 t4 t5 t6 t7 t8 t9 ta e (hs _ h1) (hs _ h2)
structure RowsT (tail : List (Addr × Obj)) (recs : List Rec) (rs : List Value) : Prop where
  mk ::
  len : rs.length = recs.length
  at_ : ∀ (i : Nat) (r : Rec), recs[i]? = some r → ∃ v, rs[i]? = some v ∧ TRow tail r v
theorem RowsT.nil {tail : List (Addr × Obj)} : RowsT tail [] [] := ⟨rfl, fun _ _ h => by simp at h⟩
theorem RowsT.snoc {tail tail' : List (Addr × Obj)} {recs : List Rec} {rs : List Value} {r : Rec} {v : Value} (h : RowsT tail recs rs) (hs : ∀ p ∈ tail, p ∈ tail') (hr : TRow tail' r v) : RowsT tail' (recs ++ [r]) (rs ++ [v]) := by
  refine ⟨by rw [List.length_append, List.length_append, h.len]; rfl, fun i q hq => ?_⟩
  by_cases c : i < recs.length
  · rw [List.getElem?_append_left c] at hq
    obtain ⟨u, hu, ht⟩ := h.at_ i q hq
    exact ⟨u, by rw [List.getElem?_append_left (by rw [h.len]; exact c)]; exact hu, ht.sub hs⟩
  · rw [List.getElem?_append_right (by omega)] at hq
    have : i - recs.length = 0 := by
      refine Nat.le_zero.mp (Nat.le_of_lt_succ ?_)
      exact (List.getElem?_eq_some_iff.mp hq).1
    rw [this] at hq
    cases hq
    exact ⟨v, by rw [List.getElem?_append_right (by rw [h.len]; omega), h.len, this]; rfl, hr⟩
structure RecPre (recs : List Rec) : Prop where
  mk ::
  nd : (recs.map (·.1)).Nodup
  mz : ∀ r ∈ recs, Mz r.1
  tl : ∀ r ∈ recs, TailOf r.1 r.2.1 r.2.2
theorem RecPre.nil : RecPre [] := ⟨List.nodup_nil, (fun _ h => nomatch h), (fun _ h => nomatch h)⟩
theorem RecPre.snoc {recs : List Rec} {x z : Int} {R : List Nat} (h : RecPre recs) (hn : x ∉ recs.map (·.1)) (hx : Mz x) (ht : TailOf x z R) : RecPre (recs ++ [(x, z, R)]) := by
  refine ⟨?_, fun r hr => ?_, fun r hr => ?_⟩
  · rw [List.map_append, List.nodup_append]
    refine ⟨h.nd, List.pairwise_singleton _ _, fun a ha b hb => ?_⟩
    rw [List.mem_singleton.mp hb]
    intro e
    subst e
    exact hn ha
  · rcases List.mem_append.mp hr with hr | hr
    · exact h.mz r hr
    · rw [List.mem_singleton.mp hr]; exact hx
  · rcases List.mem_append.mp hr with hr | hr
    · exact h.tl r hr
    · rw [List.mem_singleton.mp hr]; exact ht
theorem intsSnoc {us : List Value} {recs : List Rec} {x z : Int} {R : List Nat} {t : Tok} (h : IntsAre us (recs.map (·.1))) : IntsAre (us ++ [.int x t]) ((recs ++ [(x, z, R)]).map (·.1)) := by
  rw [List.map_append]
  exact h.append (.cons x t .nil)
inductive JT (c1 c2 M T : Addr) (tail0 : List (Addr × Obj)) (o1 o2 : Obj) (i : Nat) (m : Str → Option Value) (news : List (Addr × Obj)) : Prop
  | mk (us rs : List Value) (n1 n2 : Nat) (recs : List Rec) (tail : List (Addr × Obj)) : news = (M, PySem.W.listOf us.toArray n1) :: (T, PySem.W.listOf rs.toArray n2) :: (c2, o2) :: (c1, o1) :: tail → IntsAre us (recs.map (·.1)) → RowsT tail recs rs → RecPre recs → recs.length ≤ i → (0 < i → recs ≠ []) → AllNe M tail → AllNe T tail → (∀ p ∈ tail0, p ∈ tail) → JT c1 c2 M T tail0 o1 o2 i m news
inductive JC (c1 c2 : Addr) (m : Str → Option Value) (news : List (Addr × Obj)) : Prop
  | mk (M T : Addr) (us rs : List Value) (n1 n2 : Nat) (o1 o2 : Obj) (recs : List Rec) (tail : List (Addr × Obj)) : news = (M, PySem.W.listOf us.toArray n1) :: (T, PySem.W.listOf rs.toArray n2) :: (c2, o2) :: (c1, o1) :: tail → o1.data = .cell (some (.ref M)) → o2.data = .cell (some (.ref T)) → IntsAre us (recs.map (·.1)) → RowsT tail recs rs → RecOk recs → recs ≠ [] → JC c1 c2 m news
section
variable {prog : Program} {w : World} {A : Around} {E : Value → Shared → Prop} {s : Shared} {l : Addr} {h₀ : Heap} {L : Addr} {news : List (Addr × Obj)} {vs : List Value} {n0 : Nat}
theorem notin_split {ns : List Int} {k : Int} {t : Tok} {Q : Value → Shared → Prop} (N : News h₀ L s.heap news) (hm : (l, PySem.W.listOf vs.toArray n0) ∈ news) (hi : IntsAre vs ns) (h1 : k ∉ ns → Q (.bool true) s) (h2 : k ∈ ns → Q (.bool false) s) :
    wpAny (model prog w) A (compareOp .NotIn (.int k t) (.ref l)) Q E s := by
  refine notin_list_ints (News.isList N hm) hi ?_
  cases e : ns.any (· == k) with
  | true =>
    obtain ⟨x, hx, hk⟩ := List.any_eq_true.mp e
    exact h2 (eq_of_beq hk ▸ hx)
  | false =>
    refine h1 fun hk => ?_
    have := List.any_eq_false.mp e k hk
    simp at this
end
theorem TurnEnd.jt0 {h₀ : Heap} {L P c1 c2 M T : Addr} {oP : Obj} {tail0 tail led : List (Addr × Obj)} {us rs : List Value} {n1 n2 i : Nat} {o1 o2 : Obj} {recs : List Rec} {I : Addr} {io oM oT o2' o1' : Obj} {s₂ : Shared} {h' : Heap} {tk : Nat} {m' : Str → Option Value} {k : Int}
    (F : Fr h₀ L h' m') (N : News h₀ L h' led) (hI : AllNe I ((P, oP) :: (M, oM) :: (T, oT) :: (c2, o2') :: (c1, o1') :: tail)) (mI : (I, io) ∈ led) (mP : (P, oP) ∈ led) (mM : (M, PySem.W.listOf us.toArray n1) ∈ led) (mT : (T, PySem.W.listOf rs.toArray n2) ∈ led) (m2 : (c2, o2) ∈ led) (m1 : (c1, o1) ∈ led) (mt : ∀ p ∈ tail, p ∈ led)
    (hU : IntsAre us (recs.map (·.1))) (hR : RowsT tail recs rs) (hp : RecPre recs) (hl : recs.length ≤ i) (hin : k ∈ recs.map (·.1)) (hM : AllNe M tail) (hT : AllNe T tail) (h0 : ∀ p ∈ tail0, p ∈ tail) :
    TurnEnd h₀ L (fun m' n' => ∃ n1, n' = (P, oP) :: n1 ∧ JT c1 c2 M T tail0 o1 o2 (i + 1) m' n1) I io s₂ { s₂ with heap := h', toks := tk } :=
  ⟨h', tk, m', (P, oP) :: (M, PySem.W.listOf us.toArray n1) :: (T, PySem.W.listOf rs.toArray n2) :: (c2, o2) :: (c1, o1) :: tail, rfl, F,
    fun p hp => N p (List.forall_mem_cons.mpr ⟨mI, List.forall_mem_cons.mpr ⟨mP, List.forall_mem_cons.mpr ⟨mM, List.forall_mem_cons.mpr ⟨mT, List.forall_mem_cons.mpr ⟨m2, List.forall_mem_cons.mpr ⟨m1, mt⟩⟩⟩⟩⟩⟩ p hp),
    ⟨hI.1, hI.2.1, hI.2.2.1, hI.2.2.2.1, hI.2.2.2.2.1, hI.2.2.2.2.2⟩, _, rfl, .mk us rs n1 n2 recs tail rfl hU hR hp (by omega) (fun _ e => by rw [e] at hin; cases hin) hM hT h0⟩
theorem TurnEnd.jt1 {h₀ : Heap} {L P c1 c2 M T D a : Addr} {oP : Obj} {tail0 tail led : List (Addr × Obj)} {us rs : List Value} {n1 n2 i : Nat} {o1 o2 : Obj} {recs : List Rec} {I : Addr} {io oM oT o2' o1' : Obj} {s₂ : Shared} {h' : Heap} {tk : Nat} {m' : Str → Option Value} {x z : Int} {R : List Nat} {u tt t1 t2 t3 t4 t5 t6 t7 t8 t9 ta : Tok}
    (F : Fr h₀ L h' m') (N : News h₀ L h' led) (hI : AllNe I ((P, oP) :: (M, oM) :: (T, oT) :: (c2, o2') :: (c1, o1') :: tail)) (mI : (I, io) ∈ led) (mP : (P, oP) ∈ led) (mM : (M, PySem.W.listOf (us.toArray.push (.int x u)) (n1 + 1)) ∈ led) (mT : (T, PySem.W.listOf (rs.toArray.push (.ref D)) (n2 + 1)) ∈ led) (m2 : (c2, o2) ∈ led) (m1 : (c1, o1) ∈ led) (mt : ∀ p ∈ tail, p ∈ led)
    (mD : (D, ({ cls := .type "tuple", data := .seq #[.str (tx (44 :: R)) tt, .ref a] } : Obj)) ∈ led)
    (ma : (a, ({ cls := .type "tuple", data := .seq #[.int (fY (x + z)) t1, .int (fM (x + z)) t2, .int (fD (x + z)) t3, .int (fH (x + z)) t4, .int (fI (x + z)) t5, .int (fS (x + z)) t6, .int 0 t7, .int 1 t8, .int (-1) t9, .int z ta] } : Obj)) ∈ led)
    (hU : IntsAre us (recs.map (·.1))) (hR : RowsT tail recs rs) (hp : RecPre recs) (hl : recs.length ≤ i) (hin : x ∉ recs.map (·.1)) (hx : Mz x) (ht : TailOf x z R) (hM : AllNe M tail) (hT : AllNe T tail) (h0 : ∀ p ∈ tail0, p ∈ tail)
    (d1 : D ≠ I) (d2 : D ≠ M) (d3 : D ≠ T) (a1 : a ≠ I) (a2 : a ≠ M) (a3 : a ≠ T) :
    TurnEnd h₀ L (fun m' n' => ∃ n1, n' = (P, oP) :: n1 ∧ JT c1 c2 M T tail0 o1 o2 (i + 1) m' n1) I io s₂ { s₂ with heap := h', toks := tk } :=
  ⟨h', tk, m', (P, oP) :: (M, PySem.W.listOf (us ++ [Value.int x u]).toArray (n1 + 1)) :: (T, PySem.W.listOf (rs ++ [Value.ref D]).toArray (n2 + 1)) :: (c2, o2) :: (c1, o1) :: (D, ({ cls := .type "tuple", data := .seq #[.str (tx (44 :: R)) tt, .ref a] } : Obj)) :: (a, ({ cls := .type "tuple", data := .seq #[.int (fY (x + z)) t1, .int (fM (x + z)) t2, .int (fD (x + z)) t3, .int (fH (x + z)) t4, .int (fI (x + z)) t5, .int (fS (x + z)) t6, .int 0 t7, .int 1 t8, .int (-1) t9, .int z ta] } : Obj)) :: tail, rfl, F,
    fun p hp => N p (List.forall_mem_cons.mpr ⟨mI, List.forall_mem_cons.mpr ⟨mP, List.forall_mem_cons.mpr ⟨by rw [← List.push_toArray]; exact mM, List.forall_mem_cons.mpr ⟨by rw [← List.push_toArray]; exact mT, List.forall_mem_cons.mpr ⟨m2, List.forall_mem_cons.mpr ⟨m1, List.forall_mem_cons.mpr ⟨mD, List.forall_mem_cons.mpr ⟨ma, mt⟩⟩⟩⟩⟩⟩⟩⟩ p hp),
    ⟨hI.1, hI.2.1, hI.2.2.1, hI.2.2.2.1, hI.2.2.2.2.1, ⟨d1⟩, ⟨a1⟩, hI.2.2.2.2.2⟩, _, rfl,
    .mk _ _ _ _ (recs ++ [(x, z, R)]) _ rfl (intsSnoc hU) (hR.snoc (fun p hp => .tail _ (.tail _ hp)) ⟨D, a, tt, t1, t2, t3, t4, t5, t6, t7, t8, t9, ta, rfl, .head _, .tail _ (.head _)⟩) (hp.snoc hin hx ht) (by rw [List.length_append]; exact Nat.succ_le_succ hl) (fun _ e => by simp at e) ⟨⟨d2⟩, ⟨a2⟩, hM⟩ ⟨⟨d3⟩, ⟨a3⟩, hT⟩ fun p hp => .tail _ (.tail _ (h0 p hp))⟩
end Mine.Internal

end
section
open PySem PySem.W PyProof.Rows PySem.Calls PySem.Spec
set_option maxRecDepth 100000
set_option linter.unusedVariables false
namespace Mine.Internal
section
variable {M : Model} {A : Around} {E : Value → Shared → Prop} {s : Shared} {env : Env} {Q : Flow → Shared → Prop}
theorem wpC_cutF (n : Nat) {l : List Stmt} {g : Heap} {L : Addr} {m : Str → Option Value} (F : Fr g L s.heap m) (J : (Str → Option Value) → List (Addr × Obj) → Prop) (h1 : wpC M A (execs (l.take n) env) (fun f s' => MidF (fun g' => g' = g) L J s f s') E s)
    (h2 : ∀ h tk m news, Fr g L h m → News g L h news → J m news → wpC M A (execs (l.drop n) env) Q E { s with heap := h, toks := tk }) : wpC M A (execs l env) Q E s :=
  wpC_cutN n (fun g' => g' = g) L J h1 fun g' h tk m news G F' N' hJ => by subst G; exact h2 h tk m news F' N' hJ
end
theorem map_pin2 {m : Str → Option Value} {a b : Str} {x y : Value} (h1 : m a = some x) (h2 : m b = some y) : m = fun q => if q = a then some x else if q = b then some y else m q := pin_cons h1 (pin_cons h2 rfl)
theorem led_apart {g h : Heap} {L : Addr} {led : List (Addr × Obj)} (N : News g L h led) {a b : Addr} {o o' : Obj} (h1 : (a, o) ∈ led) (h2 : (b, o') ∈ led) (hne : o.data ≠ o'.data) : a ≠ b := by
  intro e
  subst e
  have := (N _ h1).1.symm.trans (N _ h2).1
  cases this
  exact hne rfl
noncomputable def butTwo (c1 c2 : Addr) (l : List (Addr × Obj)) : List (Addr × Obj) := l.filter fun p => !(p.1 == c1) && !(p.1 == c2)
theorem butTwo_mem {c1 c2 : Addr} {l : List (Addr × Obj)} {p : Addr × Obj} : p ∈ butTwo c1 c2 l ↔ p ∈ l ∧ p.1 ≠ c1 ∧ p.1 ≠ c2 := by
  unfold butTwo
  rw [List.mem_filter]
  constructor
  · rintro ⟨h1, h2⟩
    simp only [Bool.and_eq_true, Bool.not_eq_true', beq_eq_false_iff_ne] at h2
    exact ⟨h1, h2.1, h2.2⟩
  · rintro ⟨h1, h2, h3⟩
    refine ⟨h1, ?_⟩
    simp only [Bool.and_eq_true, Bool.not_eq_true', beq_eq_false_iff_ne]
    exact ⟨h2, h3⟩
theorem jB_intro {Gd : Heap → Prop} {L c1 c2 R : Addr} {g hp : Heap} {tk nn k : Nat} {m : Str → Option Value} {led tail : List (Addr × Obj)} {s : Shared} {rs : List Value} {o1 o2 : Obj}
    (G : Gd g) (F : Fr g L hp m) (N : News g L hp led) (mR : (R, PySem.W.listOf rs.toArray nn) ∈ led) (m1 : (c1, o1) ∈ led) (m2 : (c2, o2) ∈ led) (mt : ∀ p ∈ tail, p ∈ led) (p : m (PySem.Str.ofString "pairs") = some (.ref R)) (d1 : o1.data = .cell none) (d2 : o2.data = .cell none) (hrow : ∀ v ∈ rs, RowQ tail v) (hlen : rs.length = 3 + k) (hk : k ≤ 5) :
    MidF Gd L (JB c1 c2) s .next { s with heap := hp, toks := tk } := by
  have n1 : NeA R c1 := ⟨led_apart N mR m1 (by rw [d1]; intro e; cases e)⟩
  have n2 : NeA R c2 := ⟨led_apart N mR m2 (by rw [d2]; intro e; cases e)⟩
  refine MidF.intro G F N (.mk R rs nn o1 o2 (butTwo c1 c2 tail) p rfl d1 d2 (by omega) (by omega) (fun v hv => ?_) (allNe_intro fun q hq => (butTwo_mem.mp hq).2.1) (allNe_intro fun q hq => (butTwo_mem.mp hq).2.2) n1 n2) ?_
  · obtain ⟨t, x, y, t1, t2, e, hm⟩ := hrow v hv
    exact ⟨t, x, y, t1, t2, e, butTwo_mem.mpr ⟨hm, led_apart N (mt _ hm) m1 (by rw [d1]; intro e; cases e), led_apart N (mt _ hm) m2 (by rw [d2]; intro e; cases e)⟩⟩
  · exact List.forall_mem_cons.mpr ⟨mR, List.forall_mem_cons.mpr ⟨m2, List.forall_mem_cons.mpr ⟨m1, fun q hq => mt q (butTwo_mem.mp hq).1⟩⟩⟩
theorem startC {g h : Heap} {L P M T c1 c2 : Addr} {led tail : List (Addr × Obj)} {oP o1 o2 : Obj} {k1 k2 : Nat} (N : News g L h led) (e1 : o1.data = .cell (some (.ref M))) (e2 : o2.data = .cell (some (.ref T))) (mP : (P, oP) ∈ led) (mM : (M, PySem.W.listOf #[] k1) ∈ led) (mT : (T, PySem.W.listOf #[] k2) ∈ led) (m2 : (c2, o2) ∈ led) (m1 : (c1, o1) ∈ led) (mt : ∀ p ∈ tail, p ∈ led)
    (q1 : M ≠ T) (q2 : M ≠ P) (q3 : T ≠ P) (q4 : AllNe M tail) (q5 : AllNe T tail) :
    ∃ M' T' o1' o2' k1' k2', o1'.data = .cell (some (.ref M')) ∧ o2'.data = .cell (some (.ref T')) ∧ News g L h ((P, oP) :: (M', PySem.W.listOf ([] : List Value).toArray k1') :: (T', PySem.W.listOf ([] : List Value).toArray k2') :: (c2, o2') :: (c1, o1') :: tail) ∧ NeA M' T' ∧ NeA M' P ∧ NeA T' P ∧ NeA M' c1 ∧ NeA M' c2 ∧ NeA T' c1 ∧ NeA T' c2 ∧ AllNe M' tail ∧ AllNe T' tail :=
  ⟨M, T, o1, o2, k1, k2, e1, e2, fun p hp => N p (List.forall_mem_cons.mpr ⟨mP, List.forall_mem_cons.mpr ⟨mM, List.forall_mem_cons.mpr ⟨mT, List.forall_mem_cons.mpr ⟨m2, List.forall_mem_cons.mpr ⟨m1, mt⟩⟩⟩⟩⟩ p hp), ⟨q1⟩, ⟨q2⟩, ⟨q3⟩, ⟨led_apart N mM m1 (by rw [e1]; intro e; cases e)⟩, ⟨led_apart N mM m2 (by rw [e2]; intro e; cases e)⟩, ⟨led_apart N mT m1 (by rw [e1]; intro e; cases e)⟩, ⟨led_apart N mT m2 (by rw [e2]; intro e; cases e)⟩, q4, q5⟩
theorem mz_of (x : Int) : Mz (3155673600 + x.fmod 312350688000) := ⟨by rw [Int.fmod_eq_emod_of_nonneg _ (by decide)]; omega, by rw [Int.fmod_eq_emod_of_nonneg _ (by decide)]; omega⟩
theorem jC_intro {Gd : Heap → Prop} {L c1 c2 M T : Addr} {g hp : Heap} {tk n1 n2 n : Nat} {m : Str → Option Value} {led tail : List (Addr × Obj)} {s : Shared} {us rs : List Value} {o1 o2 : Obj} {recs : List Rec}
    (G : Gd g) (F : Fr g L hp m) (N : News g L hp led) (sub : ∀ p ∈ (M, PySem.W.listOf us.toArray n1) :: (T, PySem.W.listOf rs.toArray n2) :: (c2, o2) :: (c1, o1) :: tail, p ∈ led) (e1 : o1.data = .cell (some (.ref M))) (e2 : o2.data = .cell (some (.ref T))) (hU : IntsAre us (recs.map (·.1))) (hR : RowsT tail recs rs) (h : RecPre recs) (hl : recs.length ≤ n) (hn : n ≤ 8) (h0 : 0 < n) (hpos : 0 < n → recs ≠ []) :
    MidF Gd L (JC c1 c2) s .next { s with heap := hp, toks := tk } :=
  MidF.intro G F N (.mk M T us rs n1 n2 o1 o2 recs tail rfl e1 e2 hU hR ⟨h.nd, h.mz, h.tl, Nat.le_trans hl hn⟩ (hpos h0)) sub
theorem strs_snoc {y : PySem.Str} {t : Tok} : ∀ {vs : List Value} {ys : List PySem.Str}, StrsAre vs ys → StrsAre (vs ++ [.str y t]) (ys ++ [y])
  | _, _, .nil => .cons y t .nil
  | _, _, .cons z u r => .cons z u (strs_snoc r)
section
variable {prog : Program} {w : World} {A : Around} {E : Value → Shared → Prop} {s : Shared} {l : Addr} {h₀ : Heap} {L : Addr} {news : List (Addr × Obj)} {vs : List Value} {n0 : Nat} {value slice : PySem.Expr} {u : Tok}
theorem item_prev {i : Nat} {ns : List Int} {Q : Value → Shared → Prop} (N : News h₀ L s.heap news) (hm : (l, PySem.W.listOf vs.toArray n0) ∈ news) (hI : IntsAre vs ns) (hi : i < ns.length) (hn : ns.length ≤ 8) (h : ∀ t, Q (.int (pv ns i) t) s)
    (hs : subscripted slice false (.ref l) (.int ((i : Int) - 1) u) = operate [.ref l, .int ((i : Int) - 1) u] (getItem (.ref l) (.int ((i : Int) - 1) u))) (hg : ∀ r, letTemporaryGo value (.ref l) r = pure ()) :
    wpAny (model prog w) A (subscriptTail value slice (.ref l) (.int ((i : Int) - 1) u)) Q E s := by
  cases i with
  | zero =>
    refine item_list_ints_neg (News.isList N hm) hI (by omega) (by omega) (by omega) (fun t => ?_) hs hg
    have e : ns.getD (((0 : Nat) : Int) - 1 + ns.length).toNat 0 = pv ns 0 := by
      have hl : (((0 : Nat) : Int) - 1 + ns.length).toNat = ns.length - 1 := by omega
      rw [hl]
      show _ = ns.getLastD 0
      rw [List.getLastD_eq_getLast?, List.getLast?_eq_getElem?, List.getD_eq_getElem?_getD]
    rw [e]; exact h t
  | succ j =>
    have hj : (((j + 1 : Nat) : Int) - 1).toNat = j := by omega
    have hx : ns[j]? = some (pv ns (j + 1)) := by
      have : j < ns.length := by omega
      simp [pv, this]
    obtain ⟨t, ht⟩ := intsAt hI hx
    exact item_listL (News.isList N hm) (by omega) (by omega) (by rw [hj]; exact ht) (h t) hs hg
end
section
variable {prog : Program} {w : World} {A : Around} {h₀ : Heap} {L : Addr} {m : Str → Option Value} {env : Env} {elt : PySem.Expr} {x : Str} {scope : Scope} {cl : List (Str × Addr)} {s : Shared} {Fin : List Value → List (Addr × Obj) → Prop} {news : List (Addr × Obj)}
noncomputable def LineEl (news : List (Addr × Obj)) (p : Int) (R : List Nat) (y : Value) (news' : List (Addr × Obj)) : Prop := news' = news ∧ ∃ t : Tok, y = .str (tx (stampM p ++ 44 :: R)) t
theorem lines_rest {recs : List Rec} {n : Nat} (hn : n = recs.length)
    (turn : ∀ (i : Nat) (r : Rec) t I oI C oC D m₂ ys h tk (E' : Value → Shared → Prop), recs[i]? = some r → LCg.NsObj oC m₂ → m₂ x = some (.int ((i : Nat) : Int) t) → Fr h₀ L h m → News h₀ L h ((I, oI) :: (C, oC) :: (D, LCg.lst ys) :: news) → LCg.Off3 I C D news →
      wpAny (model prog w) A (eval elt (compEnvC scope cl C env)) (LCg.CompEnd h₀ L m { s with heap := h, toks := tk } I oI C oC D (LCg.lst ys) (fun _ => True) (fun y news' => LineEl news (pv (recs.map (·.1)) i) r.2.2 y news')) E' { s with heap := h, toks := tk })
    (fin : ∀ ys, StrsAre ys ((psOf recs).map lineS) → Fin ys news) : LCg.CompRest prog w A h₀ L m env elt x scope cl s (fun _ => True) (fun i v => ∃ t, v = .int (0 + (i : Int)) t) Fin n 0 [] news := by
  have key : ∀ (j i : Nat) (ys : List Value), i + j = recs.length → StrsAre ys (((psOf recs).take i).map lineS) → LCg.CompRest prog w A h₀ L m env elt x scope cl s (fun _ => True) (fun i v => ∃ t, v = .int (0 + (i : Int)) t) Fin j i ys news := by
    intro j
    induction j with
    | zero =>
      intro i ys hi hy
      have e : (psOf recs).take i = psOf recs := List.take_of_length_le (by rw [psOf_len]; omega)
      rw [e] at hy
      exact LCg.CompRest.zero (fin ys hy)
    | succ j ih =>
      intro i ys hi hy
      refine LCg.CompRest.succ ?_
      intro v I oI C oC D m₂ h tk E' hv hC hx F N off ne
      obtain ⟨t, rfl⟩ := hv
      rw [Int.zero_add] at hx
      have hlt : i < recs.length := by omega
      have hr := List.getElem?_eq_getElem hlt
      refine wpAny_mono (turn i _ t I oI C oC D m₂ ys h tk E' hr hC hx F N off) (fun y s₂ hq => ?_) fun _ _ e => e
      obtain ⟨h', tk', nw, e, F', N', off', hS, rfl, t', rfl⟩ := hq
      refine ⟨h', tk', nw, e, F', N', off', hS, ih (i + 1) _ (by omega) ?_⟩
      rw [List.take_add_one, psOf_at hr, List.map_append]
      exact strs_snoc hy
  subst hn
  exact key recs.length 0 [] (by omega) .nil
theorem lineEnd {I C D : Addr} {oI oC oD : Obj} {s₁ : Shared} {h' : Heap} {tk : Nat} {led : List (Addr × Obj)} {y : Value} {p : Int} {R : List Nat} (F : Fr h₀ L h' m) (N : News h₀ L h' led) (sub : ∀ q ∈ (I, oI) :: (C, oC) :: (D, oD) :: news, q ∈ led) (off : LCg.Off3 I C D news) {t : Tok} (e : y = .str (tx (stampM p ++ 44 :: R)) t) :
    LCg.CompEnd h₀ L m s₁ I oI C oC D oD (fun _ => True) (fun y news' => LineEl news p R y news') y { s₁ with heap := h', toks := tk } :=
  LCg.CompEnd.intro F N news sub off trivial ⟨rfl, t, e⟩
end
inductive JLn (c1 c2 : Addr) (m : Str → Option Value) (news : List (Addr × Obj)) : Prop
  | mk (Ln M T : Addr) (ls us rs : List Value) (nl n1 n2 : Nat) (o1 o2 : Obj) (recs : List Rec) (tail : List (Addr × Obj)) : m (PySem.Str.ofString "lines") = some (.ref Ln) → news = (Ln, PySem.W.listOf ls.toArray nl) :: (M, PySem.W.listOf us.toArray n1) :: (T, PySem.W.listOf rs.toArray n2) :: (c2, o2) :: (c1, o1) :: tail → o1.data = .cell (some (.ref M)) → o2.data = .cell (some (.ref T)) → IntsAre us (recs.map (·.1)) → RowsT tail recs rs → RecOk recs → recs ≠ [] → StrsAre ls ((psOf recs).map lineS) → JLn c1 c2 m news
theorem jD_intro {Gd : Heap → Prop} {L c1 c2 Ln M T : Addr} {g hp : Heap} {tk n1 n2 : Nat} {m : Str → Option Value} {tail : List (Addr × Obj)} {s : Shared} {us rs ls : List Value} {o1 o2 : Obj} {recs : List Rec}
    (G : Gd g) (F : Fr g L hp m) (N : News g L hp ((Ln, LCg.lst ls) :: (M, PySem.W.listOf us.toArray n1) :: (T, PySem.W.listOf rs.toArray n2) :: (c2, o2) :: (c1, o1) :: tail)) (p : m (PySem.Str.ofString "lines") = some (.ref Ln)) (e1 : o1.data = .cell (some (.ref M))) (e2 : o2.data = .cell (some (.ref T))) (hU : IntsAre us (recs.map (·.1))) (hR : RowsT tail recs rs) (h : RecOk recs) (h0 : recs ≠ []) (hS : StrsAre ls ((psOf recs).map lineS)) :
    MidF Gd L (JLn c1 c2) s .next { s with heap := hp, toks := tk } :=
  MidF.intro G F N (.mk Ln M T ls us rs _ n1 n2 o1 o2 recs tail p rfl e1 e2 hU hR h h0 hS) fun p hp => hp
theorem RecOk.mp {recs : List Rec} (h : RecOk recs) (h0 : recs ≠ []) {i : Nat} {r : Rec} (hi : recs[i]? = some r) : Mz (pv (recs.map (·.1)) i) := by
  have hm := (h.pairs h0).mz _ (List.mem_of_getElem? (psOf_at hi))
  exact hm
theorem RecOk.tl' {recs : List Rec} (h : RecOk recs) {i : Nat} {r : Rec} (hi : recs[i]? = some r) : TailOf r.1 r.2.1 r.2.2 := h.tl _ (List.mem_of_getElem? hi)
section
variable {prog : Program} {w : World} {A : Around} {E : Value → Shared → Prop} {s : Shared} {a b : List Nat} {t u : Tok} {Q : Value → Shared → Prop}
theorem add_tx (h1 : a.length ≤ 300) (h2 : b.length ≤ 300) (h : ∀ t' k, Q (.str (tx (a ++ b)) t') { s with toks := k }) : wpAny (model prog w) A (binaryOp .Add (.str (tx a) t) (.str (tx b) u)) Q E s :=
  PyProof.Rows.add_str (fun t' k => by rw [tx_append]; exact h t' k) (by rw [tx_length, tx_length, sizeLine_eq]; omega)
theorem sp_is : PySem.Str.ofString " " = tx [32] := by rw [tx_def]; decide +kernel
theorem add_sp (h1 : a.length ≤ 300) (h : ∀ t' k, Q (.str (tx (a ++ [32])) t') { s with toks := k }) : wpAny (model prog w) A (binaryOp .Add (.str (tx a) t) (.str (PySem.Str.ofString " ") u)) Q E s := by
  rw [sp_is]; exact add_tx h1 (by decide) h
end
section
variable {prog : Program} {w : World} {A : Around} {E : Value → Shared → Prop} {s : Shared} {h₀ : Heap} {L : Addr} {m : Str → Option Value} {news : List (Addr × Obj)} {value slice : PySem.Expr} {p : Int} {R : List Nat} {t uj : Tok} {Q : Value → Shared → Prop}
theorem line_fits (hR : R.length ≤ 80) : (tx (stampM p ++ 44 :: R)).length ≤ sizeLine := by rw [tx_length, sizeLine_eq, line_len]; omega
theorem sl_to20 (hF : Fr h₀ L s.heap m) (hN : News h₀ L s.heap news) (hR : R.length ≤ 80) (h : ∀ h' t' k, Fr h₀ L h' m → News h₀ L h' news → Q (.str (tx (stampM p)) t') { s with heap := h', toks := k })
    (hs : subscripted slice false (.str (tx (stampM p ++ 44 :: R)) t) (.ref s.heap.objs.size) = operate [.ref s.heap.objs.size, .str (tx (stampM p ++ 44 :: R)) t] (getItem (.str (tx (stampM p ++ 44 :: R)) t) (.ref s.heap.objs.size))) (ht : ∀ r, letTemporaryGo value (.str (tx (stampM p ++ 44 :: R)) t) r = pure ()) :
    wpAny (model prog w) A (subscriptTail value slice (.str (tx (stampM p ++ 44 :: R)) t) (.ref s.heap.objs.size)) Q E { s with heap := s.heap.push { cls := .type "slice", data := .fields #[.none, .int 20 uj, .none] } } :=
  slice_strN_ns hF hN (fun h' t' k a b => by rw [cut_20]; exact h h' t' k a b) hs ht (line_fits hR)
theorem sl_to19 (hF : Fr h₀ L s.heap m) (hN : News h₀ L s.heap news) (hR : R.length ≤ 80) (h : ∀ h' t' k, Fr h₀ L h' m → News h₀ L h' news → Q (.str (tx ((stampM p).take 19)) t') { s with heap := h', toks := k })
    (hs : subscripted slice false (.str (tx (stampM p ++ 44 :: R)) t) (.ref s.heap.objs.size) = operate [.ref s.heap.objs.size, .str (tx (stampM p ++ 44 :: R)) t] (getItem (.str (tx (stampM p ++ 44 :: R)) t) (.ref s.heap.objs.size))) (ht : ∀ r, letTemporaryGo value (.str (tx (stampM p ++ 44 :: R)) t) r = pure ()) :
    wpAny (model prog w) A (subscriptTail value slice (.str (tx (stampM p ++ 44 :: R)) t) (.ref s.heap.objs.size)) Q E { s with heap := s.heap.push { cls := .type "slice", data := .fields #[.none, .int 19 uj, .none] } } :=
  slice_strN_ns hF hN (fun h' t' k a b => by rw [cut_19]; exact h h' t' k a b) hs ht (line_fits hR)
theorem sl_fr21 (hF : Fr h₀ L s.heap m) (hN : News h₀ L s.heap news) (hR : R.length ≤ 80) (h : ∀ h' t' k, Fr h₀ L h' m → News h₀ L h' news → Q (.str (tx R) t') { s with heap := h', toks := k })
    (hs : subscripted slice false (.str (tx (stampM p ++ 44 :: R)) t) (.ref s.heap.objs.size) = operate [.ref s.heap.objs.size, .str (tx (stampM p ++ 44 :: R)) t] (getItem (.str (tx (stampM p ++ 44 :: R)) t) (.ref s.heap.objs.size))) (ht : ∀ r, letTemporaryGo value (.str (tx (stampM p ++ 44 :: R)) t) r = pure ()) :
    wpAny (model prog w) A (subscriptTail value slice (.str (tx (stampM p ++ 44 :: R)) t) (.ref s.heap.objs.size)) Q E { s with heap := s.heap.push { cls := .type "slice", data := .fields #[.int 21 uj, .none, .none] } } :=
  slice_strN_sn hF hN (fun h' t' k a b => by rw [cut_21]; exact h h' t' k a b) hs ht (line_fits hR)
theorem sl_fr20 (hF : Fr h₀ L s.heap m) (hN : News h₀ L s.heap news) (hR : R.length ≤ 80) (h : ∀ h' t' k, Fr h₀ L h' m → News h₀ L h' news → Q (.str (tx (44 :: R)) t') { s with heap := h', toks := k })
    (hs : subscripted slice false (.str (tx (stampM p ++ 44 :: R)) t) (.ref s.heap.objs.size) = operate [.ref s.heap.objs.size, .str (tx (stampM p ++ 44 :: R)) t] (getItem (.str (tx (stampM p ++ 44 :: R)) t) (.ref s.heap.objs.size))) (ht : ∀ r, letTemporaryGo value (.str (tx (stampM p ++ 44 :: R)) t) r = pure ()) :
    wpAny (model prog w) A (subscriptTail value slice (.str (tx (stampM p ++ 44 :: R)) t) (.ref s.heap.objs.size)) Q E { s with heap := s.heap.push { cls := .type "slice", data := .fields #[.int 20 uj, .none, .none] } } :=
  slice_strN_sn hF hN (fun h' t' k a b => by rw [cut_20']; exact h h' t' k a b) hs ht (line_fits hR)
theorem item_zero {l : Addr} {vs : List Value} {n0 : Nat} {v : Value} {u : Tok} (N : News h₀ L s.heap news) (hm : (l, PySem.W.listOf vs.toArray n0) ∈ news) (hv : vs[0]? = some v) (h : Q v s)
    (hs : subscripted slice false (.ref l) (.int 0 u) = operate [.ref l, .int 0 u] (getItem (.ref l) (.int 0 u))) (hg : ∀ r, letTemporaryGo value (.ref l) r = pure ()) :
    wpAny (model prog w) A (subscriptTail value slice (.ref l) (.int 0 u)) Q E s :=
  item_listL (News.isList N hm) (by decide) (by decide) (by simpa using hv) h hs hg
end
section
variable {M : Model} {A : Around} {E : Value → Shared → Prop} {s : Shared} {env : Env}
theorem wpC_isTrue_Compare1 {l : PySem.Expr} {op : CmpOp} {r : PySem.Expr} {pos : Pos} {whole : Sem Value} {Q : Bool → Shared → Prop}
    (h : wpC M A (eval l env) (fun a s₁ => wpAny M A (eval r env) (fun b s₂ => wpAny M A (compareOp op a b)
      (fun c s₃ => wpAny M A (truthy c) Q E s₃) E s₂) E s₁) E s)
    (hm : autoParam (behindInMarks op r = false) PySem.W.pickK._auto_1) : wpC M A (isTrue (.Compare l [op] [r] pos) env whole) Q E s := fun Γ p hΓ hc => by
  simp only [isTrue_Compare1, markedBehindIn_of_false hm, Sem.wp_bind', Sem.wp_holding, Sem.wp_cmd_standAt, Sem.wp_operate]
  exact Sem.wp_mono M Γ _ (fun a p₁ s₁ h₁ => Sem.wp_mono M Γ _ (fun b _ s₂ h₂ => Sem.wp_mono M Γ _ (fun c p₃ s₃ h₃ => h₃ Γ p₃ hΓ)
    (fun _ _ _ h' => h') _ _ (h₂ Γ _ hΓ)) (fun _ _ _ h' => h') _ _ (h₁ Γ p₁ hΓ)) (fun _ _ _ h' => h') _ _ (h Γ p hΓ hc)
end
section
variable {v1 v2 v3 v4 v5 v6 v7 v8 v9 v10 u1 u2 u3 u4 u5 u6 u7 u8 u9 u10 : PySem.Value}
theorem cat1010 : (#[v1, v2, v3, v4, v5, v6, v7, v8, v9, v10] : Array PySem.Value).toList ++ (#[u1, u2, u3, u4, u5, u6, u7, u8, u9, u10] : Array PySem.Value).toList = [v1, v2, v3, v4, v5, v6, v7, v8, v9, v10, u1, u2, u3, u4, u5, u6, u7, u8, u9, u10] := rfl
end
theorem len_lines {ls : List Value} {recs : List Rec} (h : StrsAre ls ((psOf recs).map lineS)) : ls.length = recs.length := by rw [StrsAre.length h, List.length_map, psOf_len]
theorem line_at {ls : List Value} {recs : List Rec} (h : StrsAre ls ((psOf recs).map lineS)) {i : Nat} {r : Rec} (hi : recs[i]? = some r) : ∃ t, ls[i]? = some (.str (tx (stampM (pv (recs.map (·.1)) i) ++ 44 :: r.2.2)) t) := by
  refine StrsAre.at h ?_
  rw [List.getElem?_map, psOf_at hi]
  rfl
theorem pv_wrap {recs : List Rec} (h : recs ≠ []) : pv (recs.map (·.1)) recs.length = pv (recs.map (·.1)) 0 := by
  obtain ⟨n, hn⟩ : ∃ n, recs.length = n + 1 := ⟨recs.length - 1, by have := List.length_pos_iff.mpr h; omega⟩
  rw [hn]
  show (recs.map (·.1)).getD n 0 = (recs.map (·.1)).getLastD 0
  rw [List.getLastD_eq_getLast?, List.getLast?_eq_getElem?, List.getD_eq_getElem?_getD, List.length_map, hn]
  rfl
theorem pv_next {recs : List Rec} {i : Nat} {r : Rec} (hi : recs[i]? = some r) : pv (recs.map (·.1)) (i + 1) = r.1 := by
  show (recs.map (·.1)).getD i 0 = r.1
  rw [List.getD_eq_getElem?_getD, List.getElem?_map, hi]
  rfl
inductive JPage (prog : Program) (w : World) (c1 c2 : Addr) (m : Str → Option Value) (news : List (Addr × Obj)) : Prop
  | mk (PA Ln M T : Addr) (oP : Obj) (ls us rs : List Value) (nl n1 n2 : Nat) (o1 o2 : Obj) (recs : List Rec) (tail : List (Addr × Obj)) (t : Tok) : m (PySem.Str.ofString "page") = some (.ref PA) → m (PySem.Str.ofString "lines") = some (.ref Ln) → m (PySem.Str.ofString "stamp") = some (.str (tx (stampM (pv (recs.map (·.1)) 0))) t) →
      news = (PA, oP) :: (Ln, PySem.W.listOf ls.toArray nl) :: (M, PySem.W.listOf us.toArray n1) :: (T, PySem.W.listOf rs.toArray n2) :: (c2, o2) :: (c1, o1) :: tail → o1.data = .cell (some (.ref M)) → o2.data = .cell (some (.ref T)) → IntsAre us (recs.map (·.1)) → RowsT tail recs rs → RecOk recs → recs ≠ [] → StrsAre ls ((psOf recs).map lineS) → PageOk prog w (psOf recs) PA oP → JPage prog w c1 c2 m news
theorem jP_intro {prog : Program} {w : World} {Gd : Heap → Prop} {L c1 c2 PA Ln M T : Addr} {g hp : Heap} {tk nl n1 n2 : Nat} {m : Str → Option Value} {led tail : List (Addr × Obj)} {s : Shared} {us rs ls : List Value} {oP o1 o2 : Obj} {recs : List Rec} {t : Tok}
    (G : Gd g) (F : Fr g L hp m) (N : News g L hp led) (mP : (PA, oP) ∈ led) (sub : ∀ p ∈ (Ln, PySem.W.listOf ls.toArray nl) :: (M, PySem.W.listOf us.toArray n1) :: (T, PySem.W.listOf rs.toArray n2) :: (c2, o2) :: (c1, o1) :: tail, p ∈ led) (p1 : m (PySem.Str.ofString "page") = some (.ref PA)) (p2 : m (PySem.Str.ofString "lines") = some (.ref Ln)) (p3 : m (PySem.Str.ofString "stamp") = some (.str (tx (stampM (pv (recs.map (·.1)) 0))) t)) (e1 : o1.data = .cell (some (.ref M))) (e2 : o2.data = .cell (some (.ref T))) (hU : IntsAre us (recs.map (·.1))) (hR : RowsT tail recs rs) (h : RecOk recs) (h0 : recs ≠ []) (hS : StrsAre ls ((psOf recs).map lineS)) (hP : PageOk prog w (psOf recs) PA oP) :
    MidF Gd L (JPage prog w c1 c2) s .next { s with heap := hp, toks := tk } :=
  MidF.intro G F N (.mk PA Ln M T oP ls us rs nl n1 n2 o1 o2 recs tail t p1 p2 p3 rfl e1 e2 hU hR h h0 hS hP) (List.forall_mem_cons.mpr ⟨mP, sub⟩)
noncomputable def JLp (fixed : List (Addr × Obj)) (PA Ln : Addr) (ms : List Int) (i : Nat) (m : Str → Option Value) (news : List (Addr × Obj)) : Prop := ∃ t : Tok, m (PySem.Str.ofString "page") = some (.ref PA) ∧ m (PySem.Str.ofString "lines") = some (.ref Ln) ∧ m (PySem.Str.ofString "stamp") = some (.str (tx (stampM (pv ms i))) t) ∧ news = fixed
theorem TurnEndT.line {Gd : Heap → Prop} {L PA Ln I : Addr} {fixed led : List (Addr × Obj)} {ms : List Int} {i : Nat} {x : Int} {io : Obj} {s₂ : Shared} {g h' : Heap} {tk : Nat} {m' : Str → Option Value} {t : Tok} (G : Gd g) (F : Fr g L h' m') (N : News g L h' led) (hI : AllNe I fixed) (mI : (I, io) ∈ led) (sub : ∀ p ∈ fixed, p ∈ led) (hx : pv ms (i + 1) = x)
    (p1 : m' (PySem.Str.ofString "page") = some (.ref PA)) (p2 : m' (PySem.Str.ofString "lines") = some (.ref Ln)) (p3 : m' (PySem.Str.ofString "stamp") = some (.str (tx (stampM x)) t)) :
    TurnEndT Gd L (JLp fixed PA Ln ms (i + 1)) I io s₂ { s₂ with heap := h', toks := tk } :=
  ⟨g, h', tk, m', fixed, G, rfl, F, fun p hp => N p (List.forall_mem_cons.mpr ⟨mI, sub⟩ p hp), hI, ⟨t, p1, p2, hx ▸ p3, rfl⟩⟩
section
variable {prog : Program} {w : World} {A : Around} {E : Value → Shared → Prop} {s : Shared} {env : Env}
variable {K : Frag} {h₀ : Heap} {L a : Addr} {m mg mb : Str → Option Value} {cn : Str} {cs : Scope} {ccd : Value} {p : Program} {loose : List Str} {mean : ExcName → Option Value}
theorem comp_intsE {cl : List (Str × Addr)} {x : Str} {px p0 p1 p2 p3 p4 p5 pos : Pos} {iter : PySem.Expr} {scope : Scope} {Q : Value → Shared → Prop} (_F : Fr h₀ L s.heap m) (hh : A.handled = none) (X : K.In h₀) (T : Top p loose mean mg mb h₀) (e1 : nsIn K mainGlobals (Str.ofString "type") = some none) (e2 : nsIn K mainGlobals (Str.ofString "int") = some none)
    (hfree : ∀ y ∈ scope.names, y.2 ≠ .free) (hcell : ∀ y ∈ scope.names, y.2 ≠ .cell) (hkind : scope.kind = .function)
    (hnames : ∀ y ∈ scope.names, y.2 = .local → scope.names.lookup y.1 = some .local) (hx : scope.names.lookup x = some .local)
    (hX : ∀ C, (compEnv scope C (envX cn cs L a ccd cl)).kindOf x = some .local) (hT : ∀ C, (compEnv scope C (envX cn cs L a ccd cl)).kindOf (Str.ofString "type") = some .globalImplicit) (hI : ∀ C, (compEnv scope C (envX cn cs L a ccd cl)).kindOf (Str.ofString "int") = some .globalImplicit)
    (hd : (x == ("__debug__" : Str)) = false)
    (h : wpAny (model prog w) A (eval iter (envX cn cs L a ccd cl)) (CompI h₀ L m Q) E s)
    (hs : ∀ x, foldedSetIterable iter (envX cn cs L a ccd cl) x = pure x) :
    wpAny (model prog w) A (eval (.ListComp (.Name x p0) [⟨.Name x px, iter, [.Compare (.Call (.Name (Str.ofString "type") p1) [.Name x p2] [] p3) [.IsNot] [.Name (Str.ofString "int") p4] p5], 0⟩] scope pos) (envX cn cs L a ccd cl)) Q E s := by
  refine wpAny_ListComp_walk (fun _ => false) (fun _ _ => False) hfree hcell hkind hnames hx (wpAny_mono h (fun xv s₁ h₁ => ?_) fun _ _ e => e) hs
  obtain ⟨t, its, news, rfl, F, N, hm, hi, hz, k⟩ := h₁
  have ht : s₁.heap.IsTuple t its.toArray := ⟨_, (N _ hm).1, rfl, _, rfl⟩
  have hlt : t < s₁.heap.objs.size := Heap.lt_size (N _ hm).1
  refine wpAny_pyIter_tuple ht ?_
  have up : ∀ b o, s₁.heap.get? b = some o → (s₁.heap.push { cls := .type "tuple_iterator", data := .fields #[.ref t, .int 0 0] }).get? b = some o := fun b o e => Heap.get?_push_of_some _ e
  refine ⟨_, _, _, _, _, _, rfl, Walks.tuple hh s₁.heap.objs.size t (Nat.ne_of_lt hlt) its.toArray, by rw [List.size_toArray]; exact hz, ⟨⟨_, Heap.get?_push_size _ rfl, rfl, rfl⟩, ?_⟩, fun b hb => ?_, ⟨fun C i v s₃ m₃ E' hP hn hv hk _ => ?_, fun C i v s₃ m₃ E' hP hp => ?_⟩, ?_⟩
  · exact let ⟨o, e, r⟩ := ht; ⟨o, up _ _ e, r⟩
  · show b < (s₁.heap.push _).objs.size
    rw [Heap.size_push]
    rcases List.mem_cons.mp hb with rfl | hb
    · exact Nat.lt_succ_self _
    · rw [List.mem_singleton.mp hb]; exact Nat.lt_succ_of_lt hlt
  · obtain ⟨n, u, rfl⟩ := hi.at v (List.mem_of_getElem? (by simpa using hP))
    have st : ∀ b o, h₀.get? b = some o → s₃.heap.get? b = some o := fun b o e => hk b o (fun q => by
      rw [List.mem_singleton.mp q] at e
      exact absurd (Heap.lt_size (F.keep _ _ e)) (Nat.lt_irrefl _)) (up b o (F.keep b o e))
    rw [List.forIn_cons]
    refine wpAny_bind (wpAny_bind ?_)
    refine test_int (env := compEnv scope C (envX cn cs L a ccd cl)) hkind (hX C) (hT C) (hI C) hn hv (T.g.keeps st) (T.b.keeps st) (mg_none_of X T.g e1) (mg_none_of X T.g e2) ((T.builtins _ (by decide)).trans Boot.«type») ((T.builtins _ (by decide)).trans Boot.«int») hd ?_
    refine wpAny_pure ?_
    exact wpAny_pure ⟨rfl, _, _, rfl, fun _ _ e => e⟩
  · cases hp
  · intro D h' tk ys vs hD hl hpl hlen hP hpair hk
    have hnil : vs.filter (fun _ => false) = [] := by simp
    rw [hnil] at hpair
    have hys : ys = #[] := by
      cases hy : ys.toList with
      | nil => exact Array.toList_eq_nil_iff.mp hy
      | cons q r => rw [hy] at hpair; cases hpair
    subst hys
    obtain ⟨n0, ho⟩ := hpl
    have kp : ∀ b o, s₁.heap.get? b = some o → h'.get? b = some o := fun b o e => hk b o (fun q => by
      rw [List.mem_singleton.mp q] at e
      exact absurd (Heap.lt_size e) (Nat.lt_irrefl _)) (up b o e)
    have off : ∀ b o, s₁.heap.get? b = some o → b ≠ D := fun b o e q => by
      rw [← q, up b o e] at hD; cases hD
    refine k D n0 h' tk (F.keeps kp) (fun q hq => ?_) (allNe_intro fun q hq => off _ _ (N q hq).1)
    rcases List.mem_cons.mp hq with rfl | hq
    · refine ⟨ho, fun z => ?_, ?_⟩
      · obtain ⟨oL, _, _, e, _⟩ := F.ns
        exact off _ _ e z.symm
      · cases z : h₀.get? D with
        | none => rfl
        | some o => exact absurd rfl (off _ _ (F.keep _ _ z))
    · exact ⟨kp _ _ (N q hq).1, (N q hq).2⟩
end
theorem lastled {g h : Heap} {L : Addr} {led tail : List (Addr × Obj)} {a b c d e f : Addr × Obj} {ρ : List (Addr × Obj)} (N : News g L h led) (eρ : ρ = e :: f :: tail) (sub : ∀ p ∈ a :: b :: e :: c :: d :: f :: tail, p ∈ led) : News g L h (a :: b :: c :: d :: ρ) := fun p hp => N p (sub p (by
  rw [eρ] at hp
  simp only [List.mem_cons] at hp ⊢
  rcases hp with h | h | h | h | h | h | h
  · exact .inl h
  · exact .inr (.inl h)
  · exact .inr (.inr (.inr (.inl h)))
  · exact .inr (.inr (.inr (.inr (.inl h))))
  · exact .inr (.inr (.inl h))
  · exact .inr (.inr (.inr (.inr (.inr (.inl h)))))
  · exact .inr (.inr (.inr (.inr (.inr (.inr h)))))))
theorem mem2 {α : Type} {l t : List α} {a b q : α} (e : l = a :: b :: t) (h : q ∈ t) : q ∈ l := e ▸ .tail _ (.tail _ h)
end Mine.Internal

end
section
open PySem PySem.W PyProof.Rows PySem.Calls PySem.Spec
set_option maxRecDepth 100000
set_option linter.unusedVariables false
namespace Mine.Internal
section
variable {name qual : Str} {params : Arguments} {body : List Stmt} {scope : Scope} {dV kV doc pm cdv ct oc : Value} {an od : Option Addr} {osl : Array (Option Value)}
noncomputable def LawB (z : Dat) (prog : Program) (K : Frag) (f : Addr) (n n1 n2 : Str) (c1 c2 : Addr) (o1 o2 : Obj) (tk : Nat) (l : Addr) (vs : List Value) (xs : List Int) (Q : Flow → Shared → Prop) (E : Value → Shared → Prop)
    (_ho : K.lookup f = some ⟨oc, od, .func (fnOf name qual params body scope dV kV doc pm an cdv ct), osl⟩) : Prop := Wrap (
  Fr z.g z.L z.h₁ (fun y => if y = n then some (.ref l) else none) → News z.g z.L z.h₁ [(c2, o2), (c1, o1)] → NeA c1 c2 → o2.data = .cell none → o1.data = .cell none → Below callerA z.g [] z.g → K.In z.g → Top z.p z.loose z.mean z.mg z.mb z.g → z.g.IsList l vs.toArray → IntsAre vs xs → (PyData.list (List.map PyData.int xs)).layable0 = true → xs.length ≤ 63 →
    PassesOwn (model prog z.w) (callerA.deeper (envX qual scope z.L z.a z.ccd [(n2, c2), (n1, c1)])) (envX qual scope z.L z.a z.ccd [(n2, c2), (n1, c1)]) E →
    (∀ h tk m, Fr z.g z.L h m → Q (.ret (.bool true)) { z.s with heap := h, toks := tk }) →
    wpC (model prog z.w) (callerA.deeper (envX qual scope z.L z.a z.ccd [(n2, c2), (n1, c1)])) (execs body (envX qual scope z.L z.a z.ccd [(n2, c2), (n1, c1)])) Q E { z.s with heap := z.h₁, toks := tk })
theorem obj_some : Nonempty Obj := ⟨{ cls := .type "list", data := .seq #[] }⟩
end
end Mine.Internal

end
local macro_rules | `(tactic| k_all) => `(tactic| k_extra "all")
local macro_rules | `(tactic| k_ne) => `(tactic| k_extra "ne")

section
open PySem PySem.W PyProof.Rows PySem.Calls PySem.Spec
set_option Elab.async false
namespace Mine.Internal
section
set_option maxRecDepth 100000
set_option maxHeartbeats 8000000
theorem filled_CalC : PySem.Challenge.rw_kl0450_03 = PySem.Challenge.rw_kl0450_03 ∧ ∀ P, Mine.Internal.hd.heap_1 P = Mine.Internal.hd.heap_1 P := by
  k_fill
  exact ⟨rfl, fun _ => rfl⟩
theorem words_CalC_03_0 : True := by
  k_with_none
  w_top off
  k_with "all" => (first
  | (with_reducible refine allNe_of_lt ?_; with_reducible assumption)
  | (with_reducible refine allNe_of_allLt ?_; with_reducible assumption)
  | (with_reducible refine AllNe.mem ?_; with_reducible assumption)
  | exact List.forall_mem_nil _
  | (refine' List.forall_mem_cons.mpr ⟨(by k_ne), (by k_all)⟩))
  k_with "ne" => ((refine neN ?_; (try dsimp only); first | (with_reducible refine NeA.out ?_; with_reducible assumption) | (with_reducible refine Ne.symm (NeA.out ?_); with_reducible assumption) | omega))
  k_with "body" => ((
  refine Wrap.mk ?_
  intro zzF' zzN' zzB' zzX' zzT' zzhk zzhd zzhu
  (try dsimp only)
  (try k_lift zzB')
  (try k_fold)))
  k_with "fn:args" => (exact SubL.mem (by k_subL))
  k_with "fn:end" => ((repeat (first | k_unfold | dsimp only)))
  k_with "idx" => (first | omega | (simp only [fm12]; omega) | (simp only [fd32, fd4, fd100, fd400, fd365, fd1461, fd36524, fd146097, fm365, fm1461, fm36524, fm146097, dbmT]; omega) | (rename ((_ : Int) < dbmT _ + _) => hx9; simp only [dbmT, fd32] at hx9 ⊢; omega))
  k_with "fn:int" => ((walk_at "fn:end"; k_dflt (refine' leaveF_int (by k_asm) (by k_asm) (by walk_at "fn:args") ?_)))
  k_with "fn:bool" => ((walk_at "fn:end"; k_dflt (refine' leaveF_bool (by k_asm) (by k_asm) (by walk_at "fn:args") ?_)))
  k_with "fn:str" => ((walk_at "fn:end"; k_dflt (refine' leaveF_str (by k_asm) (by k_asm) (by walk_at "fn:args") ?_)))
  k_with "fn:obj" => ((walk_at "fn:end"; k_dflt (refine' leaveF_obj (by k_asm) (by k_asm) (by walk_at "fn:args") (by k_mem) (by k_all) ?_)))
  k_with "ediv" => (simp only [fd4, fd5, fd7, fd12, fd60, fd100, fd400, fd365, fd1461, fd3600, fd36524, fd86400, fd146097, fm4, fm7, fm12, fm60, fm100, fm365, fm400, fm1461, fm36524, fm86400, fm146097] at *)
  k_with "fnC:obj" => ((walk_at "fn:end"; k_dflt (refine' leaveT_obj (by first | assumption | exact KtsTurn.refl) (by k_asm) (by k_asm) (by walk_at "fn:args") (by k_mem) (by k_all) ?_)))
  k_with "wpC" => (first
  | with_reducible refine wpC_cons ?_
  | with_reducible refine wpC_nil ?_)
  k_with "ite" => ((k_here; first
  | (k_closed; k_dflt (first | refine ite_pos (by decide) ?_ | refine ite_neg (by decide) ?_))
  | refine ite_pos (by with_reducible assumption) ?_
  | refine ite_neg (by with_reducible assumption) ?_
  | refine ite_isFalse (by with_reducible assumption) ?_
  | refine ite_pos (by k_dec) ?_
  | refine ite_neg (by k_dec) ?_))
  k_with "step" => (first | (k_unfold; (try dsimp only)) | (k_end; wrow_close) | ((with_reducible guard_target = wpAny _ _ (newTuple _) _ _ _); dsimp only; walk1) | walk1 | (dsimp only; walk1) | (leave1; try dsimp only))
  k_with "bodyT" => ((
  refine Wrap.mk ?_
  intro zzF' zzN' zzB' zzX' zzT' zzXB' zzTB' zzD' zzhk zzhd zzhu
  (try dsimp only)
  (try k_lift zzB')
  (try k_fold)))
  k_with "bodyC" => ((
  refine Wrap.mk ?_
  intro zzF' zzN' zzB' zzX' zzT' zzXB' zzTB' zzD' zzhk zzhd zzhu
  (try dsimp only)
  (try k_lift zzB')))
  trivial
noncomputable def G_leap (z : Dat) (y : Int) (ty : Tok) : Prop := Wrap (FnB z PySem.Challenge.rw_kl0450_03.row.prog (Mine.Internal.hd.heap_1 z.w.params) 1 87 [] [.int y ty] (fun v new => new = [] ∧ ∃ _t : Tok, v = .bool (leap y)) (by k_is) (by exact BindsTo.of_eq rfl))
namespace D_leap
noncomputable def zG (zt : Dat × Int × Tok) : Prop := G_leap (zt.1) (zt.2.1) (zt.2.2)
noncomputable def zt : Dat × Int × Tok := haveI : Nonempty Dat := dat_some PySem.Challenge.rw_kl0450_03.row.prog; sk zG
@[irreducible] noncomputable def z : Dat := zt.1
@[irreducible] noncomputable def y : Int := zt.2.1
@[irreducible] noncomputable def ty : Tok := zt.2.2
theorem main : G_leap z y ty := by
  refine Wrap.mk ?_
  walk_at "body"
  k_with "run:c_leap" => (
    (try dsimp +zetaDelta only)
    as_aux_lemma =>
      walk_at "step"
      all_goals (repeat' ((fail_if_success (with_reducible guard_target = wpAny _ _ (execs (List.cons _ _) _) _ _ _)); walk_at "step"))
      all_goals (first | ((with_reducible guard_target = wpAny _ _ (execs (List.cons _ _) _) _ _ _); k_extra "run:c_leap") | k_extra "tail:c_leap"))
  k_with "tail:c_leap" => (
  all_goals walk_at "fn:bool"
  all_goals (unfold leap; walk_at "ediv"; simp_all; try rfl))
  all_goals (first | ((with_reducible guard_target = wpAny _ _ (execs (List.cons _ _) _) _ _ _); k_extra "run:c_leap") | k_extra "tail:c_leap")
theorem main' : zG zt := by with_unfolding_all exact main
theorem all (z : Dat) (y : Int) (ty : Tok) : G_leap z y ty := haveI : Nonempty Dat := dat_some PySem.Challenge.rw_kl0450_03.row.prog; sk_all (G := zG) main' (z, y, ty)
end D_leap
theorem c_leap (w : World) (y : Int) (ty : Tok) : Fn PySem.Challenge.rw_kl0450_03.row.prog w (Mine.Internal.hd.heap_1 w.params) 1 87 [] [.int y ty] (fun v new => new = [] ∧ ∃ _t : Tok, v = .bool (leap y)) := by
  refine' Fn.of_B ?ho ?hb ?h ?hcd ?hl ?h0 ?h1 ?h2 ?h3 ?h4
  case ho => k_is
  case hb => exact fun _ => BindsTo.of_eq rfl
  case hcd => k_is
  case hl => exact locs rfl
  case h0 => decide
  case h1 => exact rfl
  case h2 => exact rfl
  case h3 => exact rfl
  case h4 => decide
  case h =>
    intro z hz
    subst hz
    exact Wrap.out (D_leap.all z y ty) 
noncomputable def G_dby (z : Dat) (y : Int) (ty : Tok) : Prop := Wrap (FnB z PySem.Challenge.rw_kl0450_03.row.prog (Mine.Internal.hd.heap_1 z.w.params) 1 94 [] [.int y ty] (fun v new => new = [] ∧ ∃ t : Tok, v = .int (dby y) t) (by k_is) (by exact BindsTo.of_eq rfl))
namespace D_dby
noncomputable def zG (zt : Dat × Int × Tok) : Prop := G_dby (zt.1) (zt.2.1) (zt.2.2)
noncomputable def zt : Dat × Int × Tok := haveI : Nonempty Dat := dat_some PySem.Challenge.rw_kl0450_03.row.prog; sk zG
@[irreducible] noncomputable def z : Dat := zt.1
@[irreducible] noncomputable def y : Int := zt.2.1
@[irreducible] noncomputable def ty : Tok := zt.2.2
theorem main : G_dby z y ty := by
  refine Wrap.mk ?_
  walk_at "body"
  k_with "run:c_dby" => (
    (try dsimp +zetaDelta only)
    as_aux_lemma =>
      walk_at "step"
      all_goals (repeat' ((fail_if_success (with_reducible guard_target = wpAny _ _ (execs (List.cons _ _) _) _ _ _)); walk_at "step"))
      all_goals (first | ((with_reducible guard_target = wpAny _ _ (execs (List.cons _ _) _) _ _ _); k_extra "run:c_dby") | k_extra "tail:c_dby"))
  k_with "tail:c_dby" => (
  all_goals walk_at "fn:int"
  all_goals (unfold dby; walk_at "ediv"))
  all_goals (first | ((with_reducible guard_target = wpAny _ _ (execs (List.cons _ _) _) _ _ _); k_extra "run:c_dby") | k_extra "tail:c_dby")
theorem main' : zG zt := by with_unfolding_all exact main
theorem all (z : Dat) (y : Int) (ty : Tok) : G_dby z y ty := haveI : Nonempty Dat := dat_some PySem.Challenge.rw_kl0450_03.row.prog; sk_all (G := zG) main' (z, y, ty)
end D_dby
theorem c_dby (w : World) (y : Int) (ty : Tok) : Fn PySem.Challenge.rw_kl0450_03.row.prog w (Mine.Internal.hd.heap_1 w.params) 1 94 [] [.int y ty] (fun v new => new = [] ∧ ∃ t : Tok, v = .int (dby y) t) := by
  refine' Fn.of_B ?ho ?hb ?h ?hcd ?hl ?h0 ?h1 ?h2 ?h3 ?h4
  case ho => k_is
  case hb => exact fun _ => BindsTo.of_eq rfl
  case hcd => k_is
  case hl => exact locs rfl
  case h0 => decide
  case h1 => exact rfl
  case h2 => exact rfl
  case h3 => exact rfl
  case h4 => decide
  case h =>
    intro z hz
    subst hz
    exact Wrap.out (D_dby.all z y ty) 
noncomputable def G_first (z : Dat) (y : Int) (m : Int) (ty : Tok) (tm : Tok) : Prop := Wrap (FnB z PySem.Challenge.rw_kl0450_03.row.prog (Mine.Internal.hd.heap_1 z.w.params) 1 156 [] [.int y ty, .int m tm] (fun v new => new = [] ∧ ∃ t : Tok, v = .int (first y m) t) (by k_is) (by exact BindsTo.of_eq rfl))
namespace D_first
noncomputable def zG (zt : Dat × Int × Int × Tok × Tok) : Prop := G_first (zt.1) (zt.2.1) (zt.2.2.1) (zt.2.2.2.1) (zt.2.2.2.2)
noncomputable def zt : Dat × Int × Int × Tok × Tok := haveI : Nonempty Dat := dat_some PySem.Challenge.rw_kl0450_03.row.prog; sk zG
@[irreducible] noncomputable def z : Dat := zt.1
@[irreducible] noncomputable def y : Int := zt.2.1
@[irreducible] noncomputable def m : Int := zt.2.2.1
@[irreducible] noncomputable def ty : Tok := zt.2.2.2.1
@[irreducible] noncomputable def tm : Tok := zt.2.2.2.2
theorem main : G_first z y m ty tm := by
  refine Wrap.mk ?_
  walk_at "body"
  k_with "run:c_first" => (
    (try dsimp +zetaDelta only)
    as_aux_lemma =>
      walk_at "step"
      all_goals (repeat' ((fail_if_success (with_reducible guard_target = wpAny _ _ (execs (List.cons _ _) _) _ _ _)); walk_at "step"))
      all_goals (first | ((with_reducible guard_target = wpAny _ _ (execs (List.cons _ _) _) _ _ _); k_extra "run:c_first") | k_extra "tail:c_first"))
  k_with "tail:c_first" => (
  all_goals walk_at "fn:int"
  all_goals (unfold first; walk_at "ediv"))
  all_goals (first | ((with_reducible guard_target = wpAny _ _ (execs (List.cons _ _) _) _ _ _); k_extra "run:c_first") | k_extra "tail:c_first")
theorem main' : zG zt := by with_unfolding_all exact main
theorem all (z : Dat) (y : Int) (m : Int) (ty : Tok) (tm : Tok) : G_first z y m ty tm := haveI : Nonempty Dat := dat_some PySem.Challenge.rw_kl0450_03.row.prog; sk_all (G := zG) main' (z, y, m, ty, tm)
end D_first
theorem c_first (w : World) (y m : Int) (ty tm : Tok) : Fn PySem.Challenge.rw_kl0450_03.row.prog w (Mine.Internal.hd.heap_1 w.params) 1 156 [] [.int y ty, .int m tm] (fun v new => new = [] ∧ ∃ t : Tok, v = .int (first y m) t) := by
  refine' Fn.of_B ?ho ?hb ?h ?hcd ?hl ?h0 ?h1 ?h2 ?h3 ?h4
  case ho => k_is
  case hb => exact fun _ => BindsTo.of_eq rfl
  case hcd => k_is
  case hl => exact locs rfl
  case h0 => decide
  case h1 => exact rfl
  case h2 => exact rfl
  case h3 => exact rfl
  case h4 => decide
  case h =>
    intro z hz
    subst hz
    exact Wrap.out (D_first.all z y m ty tm) 
theorem words_CalC_03_1 : True := by
  k_with "call ref" => ((k_here; (with_reducible show wpAny _ _ (call (Value.ref 87) _) _ _ _); k_dflt (refine' Fn.useV (c_leap _ _ _) (by k_asm) (by k_asm) (by k_asm) (by k_asm) (by k_asm) (by first | exact rfl | assumption) (by walk_at "fn:args") (by ktr_room) (by ktr_units) ?_); intro t9 h9 tk9 F9 N9; (try dsimp only); (try k_fold)))
  k_with "call ref" => ((k_here; (with_reducible show wpAny _ _ (call (Value.ref 94) _) _ _ _); k_dflt (refine' Fn.useV (c_dby _ _ _) (by k_asm) (by k_asm) (by k_asm) (by k_asm) (by k_asm) (by first | exact rfl | assumption) (by walk_at "fn:args") (by ktr_room) (by ktr_units) ?_); intro t9 h9 tk9 F9 N9; (try dsimp only); (try k_fold)))
  k_with "subscriptTail" => ((k_here; (with_reducible show wpAny _ _ (subscriptTail _ _ (Value.ref 74) (Value.int _ _)) _ _ _); k_dflt (refine' item_tabK dimT 1 12 (by k_asm) (by k_asm) (by k_is) (by decide +kernel) (by decide) (by walk_at "idx") (by walk_at "idx") (by decide) ?_ (by with_unfolding_all rfl); k_whole; intro t9; (try dsimp only); (try k_fold))))
  k_with "subscriptTail" => ((k_here; (with_reducible show wpAny _ _ (subscriptTail _ _ (Value.ref 75) (Value.int _ _)) _ _ _); k_dflt (refine' item_tabK dbmT 1 12 (by k_asm) (by k_asm) (by k_is) (by decide +kernel) (by decide) (by walk_at "idx") (by walk_at "idx") (by decide) ?_ (by with_unfolding_all rfl); k_whole; intro t9; (try dsimp only); (try k_fold))))
  trivial
noncomputable def G_dim (z : Dat) (y : Int) (m : Int) (ty : Tok) (tm : Tok) : Prop := Wrap ((1 ≤ m ∧ m ≤ 12) → FnB z PySem.Challenge.rw_kl0450_03.row.prog (Mine.Internal.hd.heap_1 z.w.params) 2 101 [] [.int y ty, .int m tm] (fun v new => new = [] ∧ ∃ t : Tok, v = .int (dim y m) t) (by k_is) (by exact BindsTo.of_eq rfl))
namespace D_dim
noncomputable def zG (zt : Dat × Int × Int × Tok × Tok) : Prop := G_dim (zt.1) (zt.2.1) (zt.2.2.1) (zt.2.2.2.1) (zt.2.2.2.2)
noncomputable def zt : Dat × Int × Int × Tok × Tok := haveI : Nonempty Dat := dat_some PySem.Challenge.rw_kl0450_03.row.prog; sk zG
@[irreducible] noncomputable def z : Dat := zt.1
@[irreducible] noncomputable def y : Int := zt.2.1
@[irreducible] noncomputable def m : Int := zt.2.2.1
@[irreducible] noncomputable def ty : Tok := zt.2.2.2.1
@[irreducible] noncomputable def tm : Tok := zt.2.2.2.2
theorem main : G_dim z y m ty tm := by
  refine Wrap.mk ?_
  intro hm
  walk_at "body"
  k_with "run:c_dim" => (
    (try dsimp +zetaDelta only)
    as_aux_lemma =>
      walk_at "step"
      all_goals (repeat' ((fail_if_success (with_reducible guard_target = wpAny _ _ (execs (List.cons _ _) _) _ _ _)); walk_at "step"))
      all_goals (first | ((with_reducible guard_target = wpAny _ _ (execs (List.cons _ _) _) _ _ _); k_extra "run:c_dim") | k_extra "tail:c_dim"))
  k_with "tail:c_dim" => (
  all_goals walk_at "fn:int"
  all_goals (rw [dim_eq hm])
  all_goals (first | (rw [lp_true (by assumption)]; simp [*, dimT]; done) | (rw [lp_false (by assumption)]; simp [*, dimT]; done) | (simp [*]; done)))
  all_goals (first | ((with_reducible guard_target = wpAny _ _ (execs (List.cons _ _) _) _ _ _); k_extra "run:c_dim") | k_extra "tail:c_dim")
theorem main' : zG zt := by with_unfolding_all exact main
theorem all (z : Dat) (y : Int) (m : Int) (ty : Tok) (tm : Tok) : G_dim z y m ty tm := haveI : Nonempty Dat := dat_some PySem.Challenge.rw_kl0450_03.row.prog; sk_all (G := zG) main' (z, y, m, ty, tm)
end D_dim
theorem c_dim (w : World) (y m : Int) (ty tm : Tok) (hm : 1 ≤ m ∧ m ≤ 12) : Fn PySem.Challenge.rw_kl0450_03.row.prog w (Mine.Internal.hd.heap_1 w.params) 2 101 [] [.int y ty, .int m tm] (fun v new => new = [] ∧ ∃ t : Tok, v = .int (dim y m) t) := by
  refine' Fn.of_B ?ho ?hb ?h ?hcd ?hl ?h0 ?h1 ?h2 ?h3 ?h4
  case ho => k_is
  case hb => exact fun _ => BindsTo.of_eq rfl
  case hcd => k_is
  case hl => exact locs rfl
  case h0 => decide
  case h1 => exact rfl
  case h2 => exact rfl
  case h3 => exact rfl
  case h4 => decide
  case h =>
    intro z hz
    subst hz
    exact Wrap.out (D_dim.all z y m ty tm) hm
noncomputable def G_dbm (z : Dat) (y : Int) (m : Int) (ty : Tok) (tm : Tok) : Prop := Wrap ((1 ≤ m ∧ m ≤ 12) → FnB z PySem.Challenge.rw_kl0450_03.row.prog (Mine.Internal.hd.heap_1 z.w.params) 2 108 [] [.int y ty, .int m tm] (fun v new => new = [] ∧ ∃ t : Tok, v = .int (dbm y m) t) (by k_is) (by exact BindsTo.of_eq rfl))
namespace D_dbm
noncomputable def zG (zt : Dat × Int × Int × Tok × Tok) : Prop := G_dbm (zt.1) (zt.2.1) (zt.2.2.1) (zt.2.2.2.1) (zt.2.2.2.2)
noncomputable def zt : Dat × Int × Int × Tok × Tok := haveI : Nonempty Dat := dat_some PySem.Challenge.rw_kl0450_03.row.prog; sk zG
@[irreducible] noncomputable def z : Dat := zt.1
@[irreducible] noncomputable def y : Int := zt.2.1
@[irreducible] noncomputable def m : Int := zt.2.2.1
@[irreducible] noncomputable def ty : Tok := zt.2.2.2.1
@[irreducible] noncomputable def tm : Tok := zt.2.2.2.2
theorem main : G_dbm z y m ty tm := by
  refine Wrap.mk ?_
  intro hm
  walk_at "body"
  k_with "run:c_dbm" => (
    (try dsimp +zetaDelta only)
    as_aux_lemma =>
      walk_at "step"
      all_goals (repeat' ((fail_if_success (with_reducible guard_target = wpAny _ _ (execs (List.cons _ _) _) _ _ _)); walk_at "step"))
      all_goals (first | ((with_reducible guard_target = wpAny _ _ (execs (List.cons _ _) _) _ _ _); k_extra "run:c_dbm") | k_extra "tail:c_dbm"))
  k_with "tail:c_dbm" => (
  all_goals walk_at "fn:int"
  all_goals (rw [dbm_eq hm])
  all_goals (first | (rw [← lp_of]; simp [*]; done) | (simp [*]; done)))
  all_goals (first | ((with_reducible guard_target = wpAny _ _ (execs (List.cons _ _) _) _ _ _); k_extra "run:c_dbm") | k_extra "tail:c_dbm")
theorem main' : zG zt := by with_unfolding_all exact main
theorem all (z : Dat) (y : Int) (m : Int) (ty : Tok) (tm : Tok) : G_dbm z y m ty tm := haveI : Nonempty Dat := dat_some PySem.Challenge.rw_kl0450_03.row.prog; sk_all (G := zG) main' (z, y, m, ty, tm)
end D_dbm
theorem c_dbm (w : World) (y m : Int) (ty tm : Tok) (hm : 1 ≤ m ∧ m ≤ 12) : Fn PySem.Challenge.rw_kl0450_03.row.prog w (Mine.Internal.hd.heap_1 w.params) 2 108 [] [.int y ty, .int m tm] (fun v new => new = [] ∧ ∃ t : Tok, v = .int (dbm y m) t) := by
  refine' Fn.of_B ?ho ?hb ?h ?hcd ?hl ?h0 ?h1 ?h2 ?h3 ?h4
  case ho => k_is
  case hb => exact fun _ => BindsTo.of_eq rfl
  case hcd => k_is
  case hl => exact locs rfl
  case h0 => decide
  case h1 => exact rfl
  case h2 => exact rfl
  case h3 => exact rfl
  case h4 => decide
  case h =>
    intro z hz
    subst hz
    exact Wrap.out (D_dbm.all z y m ty tm) hm
theorem words_CalC_03_2 : True := by
  k_with "call ref" => ((k_here; (with_reducible show wpAny _ _ (call (Value.ref 101) _) _ _ _); k_dflt (refine' Fn.useV (c_dim _ _ _ _ _ (by exact ⟨by walk_at "idx", by walk_at "idx"⟩)) (by k_asm) (by k_asm) (by k_asm) (by k_asm) (by k_asm) (by first | exact rfl | assumption) (by walk_at "fn:args") (by ktr_room) (by ktr_units) ?_); intro t9 h9 tk9 F9 N9; (try dsimp only); (try k_fold)))
  k_with "call ref" => ((k_here; (with_reducible show wpAny _ _ (call (Value.ref 108) _) _ _ _); k_dflt (refine' Fn.useV (c_dbm _ _ _ _ _ (by exact ⟨by walk_at "idx", by walk_at "idx"⟩)) (by k_asm) (by k_asm) (by k_asm) (by k_asm) (by k_asm) (by first | exact rfl | assumption) (by walk_at "fn:args") (by ktr_room) (by ktr_units) ?_); intro t9 h9 tk9 F9 N9; (try dsimp only); (try k_fold)))
  trivial
noncomputable def G_ymd (z : Dat) (y : Int) (m : Int) (d : Int) (ty : Tok) (tm : Tok) (td : Tok) : Prop := Wrap ((Valid y m d) → FnB z PySem.Challenge.rw_kl0450_03.row.prog (Mine.Internal.hd.heap_1 z.w.params) 3 115 [] [.int y ty, .int m tm, .int d td] (fun v new => new = [] ∧ ∃ t : Tok, v = .int (first y m + d - 1) t) (by k_is) (by exact BindsTo.of_eq rfl))
namespace D_ymd
noncomputable def zG (zt : Dat × Int × Int × Int × Tok × Tok × Tok) : Prop := G_ymd (zt.1) (zt.2.1) (zt.2.2.1) (zt.2.2.2.1) (zt.2.2.2.2.1) (zt.2.2.2.2.2.1) (zt.2.2.2.2.2.2)
noncomputable def zt : Dat × Int × Int × Int × Tok × Tok × Tok := haveI : Nonempty Dat := dat_some PySem.Challenge.rw_kl0450_03.row.prog; sk zG
@[irreducible] noncomputable def z : Dat := zt.1
@[irreducible] noncomputable def y : Int := zt.2.1
@[irreducible] noncomputable def m : Int := zt.2.2.1
@[irreducible] noncomputable def d : Int := zt.2.2.2.1
@[irreducible] noncomputable def ty : Tok := zt.2.2.2.2.1
@[irreducible] noncomputable def tm : Tok := zt.2.2.2.2.2.1
@[irreducible] noncomputable def td : Tok := zt.2.2.2.2.2.2
theorem main : G_ymd z y m d ty tm td := by
  refine Wrap.mk ?_
  intro v
  have hv := v; obtain ⟨hv1, hv2, hv3, hv4⟩ := hv
  walk_at "body"
  k_with "run:c_ymd" => (
    (try dsimp +zetaDelta only)
    as_aux_lemma =>
      walk_at "step"
      all_goals (repeat' ((fail_if_success (with_reducible guard_target = wpAny _ _ (execs (List.cons _ _) _) _ _ _)); walk_at "step"))
      all_goals (first | ((with_reducible guard_target = wpAny _ _ (execs (List.cons _ _) _) _ _ _); k_extra "run:c_ymd") | k_extra "tail:c_ymd"))
  k_with "tail:c_ymd" => (
  all_goals walk_at "fn:int"
  all_goals (rw [first_eq ⟨v.m1, v.m2⟩]; omega))
  all_goals (first | ((with_reducible guard_target = wpAny _ _ (execs (List.cons _ _) _) _ _ _); k_extra "run:c_ymd") | k_extra "tail:c_ymd")
theorem main' : zG zt := by with_unfolding_all exact main
theorem all (z : Dat) (y : Int) (m : Int) (d : Int) (ty : Tok) (tm : Tok) (td : Tok) : G_ymd z y m d ty tm td := haveI : Nonempty Dat := dat_some PySem.Challenge.rw_kl0450_03.row.prog; sk_all (G := zG) main' (z, y, m, d, ty, tm, td)
end D_ymd
theorem c_ymd (w : World) (y m d : Int) (ty tm td : Tok) (v : Valid y m d) : Fn PySem.Challenge.rw_kl0450_03.row.prog w (Mine.Internal.hd.heap_1 w.params) 3 115 [] [.int y ty, .int m tm, .int d td] (fun v new => new = [] ∧ ∃ t : Tok, v = .int (first y m + d - 1) t) := by
  refine' Fn.of_B ?ho ?hb ?h ?hcd ?hl ?h0 ?h1 ?h2 ?h3 ?h4
  case ho => k_is
  case hb => exact fun _ => BindsTo.of_eq rfl
  case hcd => k_is
  case hl => exact locs rfl
  case h0 => decide
  case h1 => exact rfl
  case h2 => exact rfl
  case h3 => exact rfl
  case h4 => decide
  case h =>
    intro z hz
    subst hz
    exact Wrap.out (D_ymd.all z y m d ty tm td) v
end
end Mine.Internal

end
section
open PySem PySem.W PyProof.Rows PySem.Calls PySem.Spec
set_option Elab.async false
namespace Mine.Internal
section
set_option maxRecDepth 100000
set_option maxHeartbeats 8000000
theorem filled_OrdC : PySem.Challenge.rw_kl0450_03 = PySem.Challenge.rw_kl0450_03 ∧ ∀ P, Mine.Internal.hd.heap_1 P = Mine.Internal.hd.heap_1 P := by
  k_fill
  exact ⟨rfl, fun _ => rfl⟩
theorem words_OrdC_03_0 : True := by
  k_with_none
  w_top off
  k_with "all" => (first
  | (with_reducible refine allNe_of_lt ?_; with_reducible assumption)
  | (with_reducible refine allNe_of_allLt ?_; with_reducible assumption)
  | (with_reducible refine AllNe.mem ?_; with_reducible assumption)
  | exact List.forall_mem_nil _
  | (refine' List.forall_mem_cons.mpr ⟨(by k_ne), (by k_all)⟩))
  k_with "ne" => ((refine neN ?_; (try dsimp only); first | (with_reducible refine NeA.out ?_; with_reducible assumption) | (with_reducible refine Ne.symm (NeA.out ?_); with_reducible assumption) | omega))
  k_with "body" => ((
  refine Wrap.mk ?_
  intro zzF' zzN' zzB' zzX' zzT' zzhk zzhd zzhu
  (try dsimp only)
  (try k_lift zzB')
  (try k_fold)))
  k_with "fn:args" => (exact SubL.mem (by k_subL))
  k_with "fn:end" => ((repeat (first | k_unfold | dsimp only)))
  k_with "idx" => (first | omega | (simp only [fm12]; omega) | (simp only [fd32, fd4, fd100, fd400, fd365, fd1461, fd36524, fd146097, fm365, fm1461, fm36524, fm146097, dbmT]; omega) | (rename ((_ : Int) < dbmT _ + _) => hx9; simp only [dbmT, fd32] at hx9 ⊢; omega))
  k_with "fn:int" => ((walk_at "fn:end"; k_dflt (refine' leaveF_int (by k_asm) (by k_asm) (by walk_at "fn:args") ?_)))
  k_with "fn:bool" => ((walk_at "fn:end"; k_dflt (refine' leaveF_bool (by k_asm) (by k_asm) (by walk_at "fn:args") ?_)))
  k_with "fn:str" => ((walk_at "fn:end"; k_dflt (refine' leaveF_str (by k_asm) (by k_asm) (by walk_at "fn:args") ?_)))
  k_with "fn:obj" => ((walk_at "fn:end"; k_dflt (refine' leaveF_obj (by k_asm) (by k_asm) (by walk_at "fn:args") (by k_mem) (by k_all) ?_)))
  k_with "ediv" => (simp only [fd4, fd5, fd7, fd12, fd60, fd100, fd400, fd365, fd1461, fd3600, fd36524, fd86400, fd146097, fm4, fm7, fm12, fm60, fm100, fm365, fm400, fm1461, fm36524, fm86400, fm146097] at *)
  k_with "fnC:obj" => ((walk_at "fn:end"; k_dflt (refine' leaveT_obj (by first | assumption | exact KtsTurn.refl) (by k_asm) (by k_asm) (by walk_at "fn:args") (by k_mem) (by k_all) ?_)))
  k_with "wpC" => (first
  | with_reducible refine wpC_cons ?_
  | with_reducible refine wpC_nil ?_)
  k_with "ite" => ((k_here; first
  | (k_closed; k_dflt (first | refine ite_pos (by decide) ?_ | refine ite_neg (by decide) ?_))
  | refine ite_pos (by with_reducible assumption) ?_
  | refine ite_neg (by with_reducible assumption) ?_
  | refine ite_isFalse (by with_reducible assumption) ?_
  | refine ite_pos (by k_dec) ?_
  | refine ite_neg (by k_dec) ?_))
  k_with "step" => (first | (k_unfold; (try dsimp only)) | (k_end; wrow_close) | ((with_reducible guard_target = wpAny _ _ (newTuple _) _ _ _); dsimp only; walk1) | walk1 | (dsimp only; walk1) | (leave1; try dsimp only))
  k_with "bodyT" => ((
  refine Wrap.mk ?_
  intro zzF' zzN' zzB' zzX' zzT' zzXB' zzTB' zzD' zzhk zzhd zzhu
  (try dsimp only)
  (try k_lift zzB')
  (try k_fold)))
  k_with "bodyC" => ((
  refine Wrap.mk ?_
  intro zzF' zzN' zzB' zzX' zzT' zzXB' zzTB' zzD' zzhk zzhd zzhu
  (try dsimp only)
  (try k_lift zzB')))
  k_with "call ref" => ((k_here; (with_reducible show wpAny _ _ (call (Value.ref 87) _) _ _ _); k_dflt (refine' Fn.useV (c_leap _ _ _) (by k_asm) (by k_asm) (by k_asm) (by k_asm) (by k_asm) (by first | exact rfl | assumption) (by walk_at "fn:args") (by ktr_room) (by ktr_units) ?_); intro t9 h9 tk9 F9 N9; (try dsimp only); (try k_fold)))
  k_with "call ref" => ((k_here; (with_reducible show wpAny _ _ (call (Value.ref 94) _) _ _ _); k_dflt (refine' Fn.useV (c_dby _ _ _) (by k_asm) (by k_asm) (by k_asm) (by k_asm) (by k_asm) (by first | exact rfl | assumption) (by walk_at "fn:args") (by ktr_room) (by ktr_units) ?_); intro t9 h9 tk9 F9 N9; (try dsimp only); (try k_fold)))
  k_with "call ref" => ((k_here; (with_reducible show wpAny _ _ (call (Value.ref 156) _) _ _ _); k_dflt (refine' Fn.useV (c_first _ _ _ _ _) (by k_asm) (by k_asm) (by k_asm) (by k_asm) (by k_asm) (by first | exact rfl | assumption) (by walk_at "fn:args") (by ktr_room) (by ktr_units) ?_); intro t9 h9 tk9 F9 N9; (try dsimp only); (try k_fold)))
  k_with "subscriptTail" => ((k_here; (with_reducible show wpAny _ _ (subscriptTail _ _ (Value.ref 74) (Value.int _ _)) _ _ _); k_dflt (refine' item_tabK dimT 1 12 (by k_asm) (by k_asm) (by k_is) (by decide +kernel) (by decide) (by walk_at "idx") (by walk_at "idx") (by decide) ?_ (by with_unfolding_all rfl); k_whole; intro t9; (try dsimp only); (try k_fold))))
  k_with "subscriptTail" => ((k_here; (with_reducible show wpAny _ _ (subscriptTail _ _ (Value.ref 75) (Value.int _ _)) _ _ _); k_dflt (refine' item_tabK dbmT 1 12 (by k_asm) (by k_asm) (by k_is) (by decide +kernel) (by decide) (by walk_at "idx") (by walk_at "idx") (by decide) ?_ (by with_unfolding_all rfl); k_whole; intro t9; (try dsimp only); (try k_fold))))
  k_with "call ref" => ((k_here; (with_reducible show wpAny _ _ (call (Value.ref 101) _) _ _ _); k_dflt (refine' Fn.useV (c_dim _ _ _ _ _ (by exact ⟨by walk_at "idx", by walk_at "idx"⟩)) (by k_asm) (by k_asm) (by k_asm) (by k_asm) (by k_asm) (by first | exact rfl | assumption) (by walk_at "fn:args") (by ktr_room) (by ktr_units) ?_); intro t9 h9 tk9 F9 N9; (try dsimp only); (try k_fold)))
  k_with "call ref" => ((k_here; (with_reducible show wpAny _ _ (call (Value.ref 108) _) _ _ _); k_dflt (refine' Fn.useV (c_dbm _ _ _ _ _ (by exact ⟨by walk_at "idx", by walk_at "idx"⟩)) (by k_asm) (by k_asm) (by k_asm) (by k_asm) (by k_asm) (by first | exact rfl | assumption) (by walk_at "fn:args") (by ktr_room) (by ktr_units) ?_); intro t9 h9 tk9 F9 N9; (try dsimp only); (try k_fold)))
  trivial
theorem c_leap_by (w : World) (y : Int) (ty : Tok) (X : Bool) (h : leap y = X) : Fn PySem.Challenge.rw_kl0450_03.row.prog w (Mine.Internal.hd.heap_1 w.params) 1 87 [] [.int y ty] (fun v new => new = [] ∧ ∃ _t : Tok, v = .bool X) := h ▸ c_leap w y ty
theorem words_OrdC_03_1 : True := by
  k_with "call builtin:divmod" => ((k_here; (with_reducible show wpAny _ _ (call (Value.builtin _) [Value.int _ _, Value.int _ _]) _ _ _); k_dflt (refine divmod_by' (by assumption) (by k_asm) (by k_asm) (by decide) (by decide) ?_; intro h' F' N'; (try k_sweep); (try k_fold))))
  k_with "binaryOp Add int bool" => ((k_here; with_reducible refine add_ib ?_; intro z9 hz9 hz9' hz9''; (try (have hz0 : z9 = 0 := by (rw [hz9''.out]; exact if_neg (by simp only [decide_eq_true_eq, beq_iff_eq]; omega)))); (try k_fold)))
  k_with "eval BoolOp" => ((k_here; (with_reducible show wpAny _ _ (eval (Expr.BoolOp _ [_, Expr.BoolOp _ _ _] _) _) _ _ _); refine' join_bool (by assumption) (by with_reducible refine BoolOp_and ?_; k_steps; all_goals (repeat (first | k_unfold | dsimp only)); all_goals (first | exact ⟨_, rfl⟩ | (refine congrArg Value.bool ?_; simp [*]; done))) ?_; intro tk; (try dsimp only); (try k_fold)))
  k_with "compareOp Eq bool bool" => ((k_here; with_reducible refine eq_same ?_))
  k_with "call ref" => ((k_here; (with_reducible show wpAny _ _ (call (Value.ref 87) _) _ _ _); k_dflt (refine' Fn.useV (c_leap_by _ _ _ _ (Hid.out (by assumption) (by constructor <;> assumption))) (by k_asm) (by k_asm) (by k_asm) (by k_asm) (by k_asm) (by first | exact rfl | assumption) (by walk_at "fn:args") (by ktr_room) (by ktr_units) ?_); intro t9 h9 tk9 F9 N9; (try dsimp only); (try k_fold)))
  trivial
noncomputable def G_ordP (z : Dat) (n : Int) (a : Int) (b : Int) (c : Int) (e : Int) (r : Int) (r1 : Int) (r2 : Int) (r3 : Int) (tn : Tok) : Prop := Wrap ((DivMod (n - 1) 146097 a r1) → (DivMod r1 36524 b r2) → (DivMod r2 1461 c r3) → (DivMod r3 365 e r) → (Hid (n - 1 = 146097 * a + 36524 * b + 1461 * c + 365 * e + r)) → (Hid ((0 ≤ b ∧ b ≤ 4) ∧ (0 ≤ c ∧ c ≤ 24) ∧ (0 ≤ e ∧ e ≤ 4))) → (Hid (b = 4 → c = 0 ∧ e = 0 ∧ r = 0)) → (Hid (e = 4 → r = 0 ∧ (c = 24 → b = 3))) → (0 ≤ r) → (r < 365) → FnB z PySem.Challenge.rw_kl0450_03.row.prog (Mine.Internal.hd.heap_1 z.w.params) 3 125 [] [.int n tn] (fun v new => ∃ D o, v = .ref D ∧ new = [(D, o)] ∧ ∃ (y m d : Int) (t1 t2 t3 : Tok), o = { cls := .type "tuple", data := .seq #[.int y t1, .int m t2, .int d t3] } ∧ Valid y m d ∧ first y m + d - 1 = n) (by k_is) (by exact BindsTo.of_eq rfl))
namespace D_ordP
noncomputable def zG (zt : Dat × Int × Int × Int × Int × Int × Int × Int × Int × Int × Tok) : Prop := G_ordP (zt.1) (zt.2.1) (zt.2.2.1) (zt.2.2.2.1) (zt.2.2.2.2.1) (zt.2.2.2.2.2.1) (zt.2.2.2.2.2.2.1) (zt.2.2.2.2.2.2.2.1) (zt.2.2.2.2.2.2.2.2.1) (zt.2.2.2.2.2.2.2.2.2.1) (zt.2.2.2.2.2.2.2.2.2.2)
noncomputable def zt : Dat × Int × Int × Int × Int × Int × Int × Int × Int × Int × Tok := haveI : Nonempty Dat := dat_some PySem.Challenge.rw_kl0450_03.row.prog; sk zG
@[irreducible] noncomputable def z : Dat := zt.1
@[irreducible] noncomputable def n : Int := zt.2.1
@[irreducible] noncomputable def a : Int := zt.2.2.1
@[irreducible] noncomputable def b : Int := zt.2.2.2.1
@[irreducible] noncomputable def c : Int := zt.2.2.2.2.1
@[irreducible] noncomputable def e : Int := zt.2.2.2.2.2.1
@[irreducible] noncomputable def r : Int := zt.2.2.2.2.2.2.1
@[irreducible] noncomputable def r1 : Int := zt.2.2.2.2.2.2.2.1
@[irreducible] noncomputable def r2 : Int := zt.2.2.2.2.2.2.2.2.1
@[irreducible] noncomputable def r3 : Int := zt.2.2.2.2.2.2.2.2.2.1
@[irreducible] noncomputable def tn : Tok := zt.2.2.2.2.2.2.2.2.2.2
theorem main : G_ordP z n a b c e r r1 r2 r3 tn := by
  refine Wrap.mk ?_
  intro D1 D2 D3 D4 hid1 hid2 hid3 hid4 hr0 hr1
  obtain ⟨X, hX⟩ : ∃ X, JoinB X (e == 3 && (c != 24 || b == 3)) := ⟨_, ⟨rfl⟩⟩
  have hXL : Hid ((b ≠ 4 ∧ e ≠ 4) → leap (a * 400 + 1 + (b * 100 + c * 4 + e)) = X) := ⟨fun h => by rw [hX.out]; exact leap_parts hid2.out.1 hid2.out.2.1 hid2.out.2.2 h.1 h.2⟩
  walk_at "body"
  k_with "run:c_ordP" => (
    (try dsimp +zetaDelta only)
    as_aux_lemma =>
      walk_at "step"
      all_goals (repeat' ((fail_if_success (with_reducible guard_target = wpAny _ _ (execs (List.cons _ _) _) _ _ _)); walk_at "step"))
      all_goals (first | ((with_reducible guard_target = wpAny _ _ (execs (List.cons _ _) _) _ _ _); k_extra "run:c_ordP") | k_extra "tail:c_ordP"))
  k_with "tail:c_ordP" => (
  all_goals (
    have hn := hid1.out
    have hb := hid2.out.1
    have hc := hid2.out.2.1
    have he := hid2.out.2.2
    have h4 := hid3.out
    have h5 := hid4.out
    first
    | (have h45 : e = 4 ∨ b = 4 := by first | exact .inl (by assumption) | exact .inr (by assumption)
       first
       | (exfalso; rename r ≠ 0 => hq; exact hq (ord_n4 h4 h5 h45))
       | (walk_at "fn:obj"; exact ⟨_, _, _, _, _, _, rfl, ord_last hb hc he h4 h5 h45 hn⟩))
    | (have hb' : b ≠ 4 := by assumption
       have he' : e ≠ 4 := by assumption
       have hl := hXL.out ⟨hb', he'⟩
       first
       | (exfalso; rename ((_ == _) = false) => hq; rw [hl] at hq; simp at hq; done)
       | (have hbb : 0 ≤ b ∧ b ≤ 3 := ⟨hb.1, Int.le_of_lt_add_one (Int.lt_iff_le_and_ne.mpr ⟨hb.2, hb'⟩)⟩
          have hee : 0 ≤ e ∧ e ≤ 3 := ⟨he.1, Int.le_of_lt_add_one (Int.lt_iff_le_and_ne.mpr ⟨he.2, he'⟩)⟩
          have C := ordCtx hbb hc hee hn hl (ord_tab hr0 hr1 (lp_or _))
          clear h4 h5 hb he hb' he' hr0 hr1 hbb hee hc hn hl
          first
          | (walk_at "fn:obj"
             refine ⟨_, _, _, _, _, _, rfl, ?_⟩
             first
             | (refine (ord_w3 C ?_ ?_ ?_).v <;> with_reducible assumption)
             | (refine (ord_w6 C ?_ ?_ ?_).v <;> with_reducible assumption)
             | (refine (ord_w1 C ?_ ?_ ?_ ?_ ?_).v <;> with_reducible assumption)
             | (refine (ord_w2 C ?_ ?_ ?_ ?_ ?_).v <;> with_reducible assumption)
             | (refine (ord_w5 C ?_ ?_ ?_ ?_).v <;> with_reducible assumption)
             | (refine absurd (ord_w4 (M := (r + 50).fdiv (2 ^ Int.toNat 5)) ?_ ?_) not_false <;> with_reducible assumption))
          | (exfalso; refine ord_w4 (M := (r + 50).fdiv (2 ^ Int.toNat 5)) ?_ ?_ <;> with_reducible assumption)
          | (exfalso
             rename (¬ 0 ≤ _ - _) => hq
             refine hq ?_
             first
             | (refine (ord_w1 C ?_ ?_ ?_ ?_ ?_).lo <;> with_reducible assumption)
             | (refine (ord_w2 C ?_ ?_ ?_ ?_ ?_).lo <;> with_reducible assumption)
             | (refine (ord_w5 C ?_ ?_ ?_ ?_).lo <;> with_reducible assumption))
          | (exfalso
             rename (¬ _ - _ < _) => hq
             refine hq ?_
             first
             | (refine (ord_w3 C ?_ ?_ ?_).hi <;> with_reducible assumption)
             | (refine (ord_w6 C ?_ ?_ ?_).hi <;> with_reducible assumption)
             | (refine (ord_w1 C ?_ ?_ ?_ ?_ ?_).hi <;> with_reducible assumption)
             | (refine (ord_w2 C ?_ ?_ ?_ ?_ ?_).hi <;> with_reducible assumption)
             | (refine (ord_w5 C ?_ ?_ ?_ ?_).hi <;> with_reducible assumption))
          | fail "an end is left")))
)
  all_goals (first | ((with_reducible guard_target = wpAny _ _ (execs (List.cons _ _) _) _ _ _); k_extra "run:c_ordP") | k_extra "tail:c_ordP")
theorem main' : zG zt := by with_unfolding_all exact main
theorem all (z : Dat) (n : Int) (a : Int) (b : Int) (c : Int) (e : Int) (r : Int) (r1 : Int) (r2 : Int) (r3 : Int) (tn : Tok) : G_ordP z n a b c e r r1 r2 r3 tn := haveI : Nonempty Dat := dat_some PySem.Challenge.rw_kl0450_03.row.prog; sk_all (G := zG) main' (z, n, a, b, c, e, r, r1, r2, r3, tn)
end D_ordP
theorem c_ordP (w : World) (n a b c e r r1 r2 r3 : Int) (tn : Tok) (D1 : DivMod (n - 1) 146097 a r1) (D2 : DivMod r1 36524 b r2) (D3 : DivMod r2 1461 c r3) (D4 : DivMod r3 365 e r) (hid1 : Hid (n - 1 = 146097 * a + 36524 * b + 1461 * c + 365 * e + r)) (hid2 : Hid ((0 ≤ b ∧ b ≤ 4) ∧ (0 ≤ c ∧ c ≤ 24) ∧ (0 ≤ e ∧ e ≤ 4))) (hid3 : Hid (b = 4 → c = 0 ∧ e = 0 ∧ r = 0)) (hid4 : Hid (e = 4 → r = 0 ∧ (c = 24 → b = 3))) (hr0 : 0 ≤ r) (hr1 : r < 365) : Fn PySem.Challenge.rw_kl0450_03.row.prog w (Mine.Internal.hd.heap_1 w.params) 3 125 [] [.int n tn] (fun v new => ∃ D o, v = .ref D ∧ new = [(D, o)] ∧ ∃ (y m d : Int) (t1 t2 t3 : Tok), o = { cls := .type "tuple", data := .seq #[.int y t1, .int m t2, .int d t3] } ∧ Valid y m d ∧ first y m + d - 1 = n) := by
  refine' Fn.of_B ?ho ?hb ?h ?hcd ?hl ?h0 ?h1 ?h2 ?h3 ?h4
  case ho => k_is
  case hb => exact fun _ => BindsTo.of_eq rfl
  case hcd => k_is
  case hl => exact locs rfl
  case h0 => decide
  case h1 => exact rfl
  case h2 => exact rfl
  case h3 => exact rfl
  case h4 => decide
  case h =>
    intro z hz
    subst hz
    exact Wrap.out (D_ordP.all z n a b c e r r1 r2 r3 tn) D1 D2 D3 D4 hid1 hid2 hid3 hid4 hr0 hr1
theorem c_ord (w : World) (n : Int) (tn : Tok) : Fn PySem.Challenge.rw_kl0450_03.row.prog w (Mine.Internal.hd.heap_1 w.params) 3 125 [] [.int n tn] (fun v new => ∃ D o, v = .ref D ∧ new = [(D, o)] ∧ ∃ (y m d : Int) (t1 t2 t3 : Tok), o = { cls := .type "tuple", data := .seq #[.int y t1, .int m t2, .int d t3] } ∧ Valid y m d ∧ first y m + d - 1 = n) := by
  obtain ⟨a, b, c, e, r, r1, r2, r3, D1, D2, D3, D4, hn, hb0, hb4, hc0, hc4, he0, he4, hr0, hr1, hb, he⟩ := ord_start n
  exact c_ordP w n a b c e r r1 r2 r3 tn D1 D2 D3 D4 ⟨hn⟩ ⟨⟨hb0, hb4⟩, ⟨hc0, hc4⟩, ⟨he0, he4⟩⟩ ⟨hb⟩ ⟨he⟩ hr0 hr1
end
end Mine.Internal

end
section
open PySem PySem.W PyProof.Rows PySem.Calls PySem.Spec
set_option Elab.async false
namespace Mine.Internal
section
set_option maxRecDepth 100000
set_option maxHeartbeats 8000000
theorem filled_Fld3 : PySem.Challenge.rw_kl0450_03 = PySem.Challenge.rw_kl0450_03 ∧ ∀ P, Mine.Internal.hd.heap_1 P = Mine.Internal.hd.heap_1 P := by
  k_fill
  exact ⟨rfl, fun _ => rfl⟩
theorem words_Fld3_03_0 : True := by
  k_with_none
  w_top off
  k_with "all" => (first
  | (with_reducible refine allNe_of_lt ?_; with_reducible assumption)
  | (with_reducible refine allNe_of_allLt ?_; with_reducible assumption)
  | (with_reducible refine AllNe.mem ?_; with_reducible assumption)
  | exact List.forall_mem_nil _
  | (refine' List.forall_mem_cons.mpr ⟨(by k_ne), (by k_all)⟩))
  k_with "ne" => ((refine neN ?_; (try dsimp only); first | (with_reducible refine NeA.out ?_; with_reducible assumption) | (with_reducible refine Ne.symm (NeA.out ?_); with_reducible assumption) | omega))
  k_with "body" => ((
  refine Wrap.mk ?_
  intro zzF' zzN' zzB' zzX' zzT' zzhk zzhd zzhu
  (try dsimp only)
  (try k_lift zzB')
  (try k_fold)))
  k_with "fn:args" => (exact SubL.mem (by k_subL))
  k_with "fn:end" => ((repeat (first | k_unfold | dsimp only)))
  k_with "idx" => (first | omega | (simp only [fm12]; omega) | (simp only [fd32, fd4, fd100, fd400, fd365, fd1461, fd36524, fd146097, fm365, fm1461, fm36524, fm146097, dbmT]; omega) | (rename ((_ : Int) < dbmT _ + _) => hx9; simp only [dbmT, fd32] at hx9 ⊢; omega))
  k_with "fn:int" => ((walk_at "fn:end"; k_dflt (refine' leaveF_int (by k_asm) (by k_asm) (by walk_at "fn:args") ?_)))
  k_with "fn:bool" => ((walk_at "fn:end"; k_dflt (refine' leaveF_bool (by k_asm) (by k_asm) (by walk_at "fn:args") ?_)))
  k_with "fn:str" => ((walk_at "fn:end"; k_dflt (refine' leaveF_str (by k_asm) (by k_asm) (by walk_at "fn:args") ?_)))
  k_with "fn:obj" => ((walk_at "fn:end"; k_dflt (refine' leaveF_obj (by k_asm) (by k_asm) (by walk_at "fn:args") (by k_mem) (by k_all) ?_)))
  k_with "ediv" => (simp only [fd4, fd5, fd7, fd12, fd60, fd100, fd400, fd365, fd1461, fd3600, fd36524, fd86400, fd146097, fm4, fm7, fm12, fm60, fm100, fm365, fm400, fm1461, fm36524, fm86400, fm146097] at *)
  k_with "fnC:obj" => ((walk_at "fn:end"; k_dflt (refine' leaveT_obj (by first | assumption | exact KtsTurn.refl) (by k_asm) (by k_asm) (by walk_at "fn:args") (by k_mem) (by k_all) ?_)))
  k_with "wpC" => (first
  | with_reducible refine wpC_cons ?_
  | with_reducible refine wpC_nil ?_)
  k_with "ite" => ((k_here; first
  | (k_closed; k_dflt (first | refine ite_pos (by decide) ?_ | refine ite_neg (by decide) ?_))
  | refine ite_pos (by with_reducible assumption) ?_
  | refine ite_neg (by with_reducible assumption) ?_
  | refine ite_isFalse (by with_reducible assumption) ?_
  | refine ite_pos (by k_dec) ?_
  | refine ite_neg (by k_dec) ?_))
  k_with "step" => (first | (k_unfold; (try dsimp only)) | (k_end; wrow_close) | ((with_reducible guard_target = wpAny _ _ (newTuple _) _ _ _); dsimp only; walk1) | walk1 | (dsimp only; walk1) | (leave1; try dsimp only))
  k_with "bodyT" => ((
  refine Wrap.mk ?_
  intro zzF' zzN' zzB' zzX' zzT' zzXB' zzTB' zzD' zzhk zzhd zzhu
  (try dsimp only)
  (try k_lift zzB')
  (try k_fold)))
  k_with "bodyC" => ((
  refine Wrap.mk ?_
  intro zzF' zzN' zzB' zzX' zzT' zzXB' zzTB' zzD' zzhk zzhd zzhu
  (try dsimp only)
  (try k_lift zzB')))
  trivial
theorem Fn.mono {prog : Program} {w : World} {K : Frag} {d : Nat} {f : Addr} {args : List (Addr × Obj)} {vs : List Value} {ok ok' : Value → List (Addr × Obj) → Prop} (C : Fn prog w K d f args vs ok) (h : ∀ v new, ok v new → ok' v new) : Fn prog w K d f args vs ok' :=
  fun p loose mean mg mb dp un gd cn cs a ccd cl outer A₀ base h₀ L m s Q E news hB hF hK hN hT hk ha hd hu ret =>
    C p loose mean mg mb dp un gd cn cs a ccd cl outer A₀ base h₀ L m s Q E news hB hF hK hN hT hk ha hd hu fun v new h' tk' F' N' hne o => ret v new h' tk' F' N' hne (h v new o)
theorem c_ordM (w : World) (x : Int) (tn : Tok) (h : Mo x) : Fn PySem.Challenge.rw_kl0450_03.row.prog w (Mine.Internal.hd.heap_1 w.params) 3 125 [] [.int (x.fdiv 86400 + 1) tn] (fun v new => ∃ D o, v = .ref D ∧ new = [(D, o)] ∧ ∃ (t1 t2 t3 : Tok), o = { cls := .type "tuple", data := .seq #[.int (fY x) t1, .int (fM x) t2, .int (fD x) t3] }) :=
  Fn.mono (c_ord w (x.fdiv 86400 + 1) tn) (by
    rintro v9 new ⟨D, o, rfl, rfl, y', m', d', t1, t2, t3, rfl, v', h'⟩
    have f := ff h
    have e := f.day
    obtain ⟨rfl, rfl, rfl⟩ := date_uniq f.v v' (by omega)
    exact ⟨D, _, rfl, rfl, t1, t2, t3, rfl⟩)
theorem words_Fld3_03_1 : True := by
  k_with "call ref" => ((k_here; (with_reducible show wpAny _ _ (call (Value.ref 125) _) _ _ _); k_dflt (refine' Fn.useO (c_ordM _ _ _ (by assumption)) (by k_asm) (by k_asm) (by k_asm) (by k_asm) (by k_asm) (by first | exact rfl | assumption) (by walk_at "fn:args") (by ktr_room) (by ktr_units) ?_); intro D9 o9 h9 tk9 ho9 F9 N9 hne9; obtain ⟨_, _, _, e9⟩ := ho9; subst e9; (try dsimp only); (try k_fold)))
  k_with "binaryOp Add ref ref" => ((k_here; (with_reducible show wpAny _ _ (binaryOp _ (Value.ref _) (Value.ref _)) _ _ _); k_dflt (refine' kde_addT (by k_asm) (by k_asm) (by exact News.isTup (by k_asm) (by k_mem)) (by exact News.isTup (by k_asm) (by k_mem)) (by exact List.cons_ne_nil _ _) (by exact List.cons_ne_nil _ _) (by exact Nat.le_of_ble_eq_true rfl) (by exact cat33) ?_; k_whole); intro D' h' F' N' l1; (try k_lt l1); (try k_sweep); (try k_fold)))
  trivial
noncomputable def G_fields (z : Dat) (x : Int) (tx0 : Tok) : Prop := Wrap ((Mo x) → FnB z PySem.Challenge.rw_kl0450_03.row.prog (Mine.Internal.hd.heap_1 z.w.params) 4 163 [] [.int x tx0] (fun v new => ∃ D o, v = .ref D ∧ new = [(D, o)] ∧ Tup6 x o) (by k_is) (by exact BindsTo.of_eq rfl))
namespace D_fields
noncomputable def zG (zt : Dat × Int × Tok) : Prop := G_fields (zt.1) (zt.2.1) (zt.2.2)
noncomputable def zt : Dat × Int × Tok := haveI : Nonempty Dat := dat_some PySem.Challenge.rw_kl0450_03.row.prog; sk zG
@[irreducible] noncomputable def z : Dat := zt.1
@[irreducible] noncomputable def x : Int := zt.2.1
@[irreducible] noncomputable def tx0 : Tok := zt.2.2
theorem main : G_fields z x tx0 := by
  refine Wrap.mk ?_
  intro hx
  walk_at "body"
  k_with "run:c_fields" => (
    (try dsimp +zetaDelta only)
    as_aux_lemma =>
      walk_at "step"
      all_goals (repeat' ((fail_if_success (with_reducible guard_target = wpAny _ _ (execs (List.cons _ _) _) _ _ _)); walk_at "step"))
      all_goals (first | ((with_reducible guard_target = wpAny _ _ (execs (List.cons _ _) _) _ _ _); k_extra "run:c_fields") | k_extra "tail:c_fields"))
  k_with "tail:c_fields" => (
  all_goals walk_at "fn:obj"
  all_goals exact ⟨_, _, _, _, _, _, rfl⟩)
  all_goals (first | ((with_reducible guard_target = wpAny _ _ (execs (List.cons _ _) _) _ _ _); k_extra "run:c_fields") | k_extra "tail:c_fields")
theorem main' : zG zt := by with_unfolding_all exact main
theorem all (z : Dat) (x : Int) (tx0 : Tok) : G_fields z x tx0 := haveI : Nonempty Dat := dat_some PySem.Challenge.rw_kl0450_03.row.prog; sk_all (G := zG) main' (z, x, tx0)
end D_fields
theorem c_fields (w : World) (x : Int) (tx0 : Tok) (hx : Mo x) : Fn PySem.Challenge.rw_kl0450_03.row.prog w (Mine.Internal.hd.heap_1 w.params) 4 163 [] [.int x tx0] (fun v new => ∃ D o, v = .ref D ∧ new = [(D, o)] ∧ Tup6 x o) := by
  refine' Fn.of_B ?ho ?hb ?h ?hcd ?hl ?h0 ?h1 ?h2 ?h3 ?h4
  case ho => k_is
  case hb => exact fun _ => BindsTo.of_eq rfl
  case hcd => k_is
  case hl => exact locs rfl
  case h0 => decide
  case h1 => exact rfl
  case h2 => exact rfl
  case h3 => exact rfl
  case h4 => decide
  case h =>
    intro z hz
    subst hz
    exact Wrap.out (D_fields.all z x tx0) hx
theorem words_Fld3_03_2 : True := by
  k_with "call ref" => ((k_here; (with_reducible show wpAny _ _ (call (Value.ref 163) _) _ _ _); k_dflt (refine' Fn.useO (c_fields _ _ _ (by assumption)) (by k_asm) (by k_asm) (by k_asm) (by k_asm) (by k_asm) (by first | exact rfl | assumption) (by walk_at "fn:args") (by ktr_room) (by ktr_units) ?_); intro D9 o9 h9 tk9 ho9 F9 N9 hne9; obtain ⟨_, _, _, _, _, _, e9⟩ := ho9; subst e9; (try dsimp only); (try k_fold)))
  k_with "binaryOp Mod str ref" => ((k_here; (with_reducible show wpAny _ _ (binaryOp Operator.Mod (Value.str _ _) (Value.ref _)) _ _ _); k_dflt (refine' KPt.mod_tuple (by k_asm) (by k_mem) ?_ (by exact fmt_stampL _ _ _ _ _ _ _ _ _ _ _ _ _ _ (by assumption) (by assumption) (by assumption) (by assumption) (by assumption) (by assumption)) ?_; (decide +kernel)); intro t9 k9; (try k_fold)))
  trivial
noncomputable def G_stamp (z : Dat) (x : Int) (tx0 : Tok) : Prop := Wrap ((Mo x) → FnB z PySem.Challenge.rw_kl0450_03.row.prog (Mine.Internal.hd.heap_1 z.w.params) 5 170 [] [.int x tx0] (fun v new => new = [] ∧ ∃ t : Tok, v = .str (tx (stampM x)) t) (by k_is) (by exact BindsTo.of_eq rfl))
namespace D_stamp
noncomputable def zG (zt : Dat × Int × Tok) : Prop := G_stamp (zt.1) (zt.2.1) (zt.2.2)
noncomputable def zt : Dat × Int × Tok := haveI : Nonempty Dat := dat_some PySem.Challenge.rw_kl0450_03.row.prog; sk zG
@[irreducible] noncomputable def z : Dat := zt.1
@[irreducible] noncomputable def x : Int := zt.2.1
@[irreducible] noncomputable def tx0 : Tok := zt.2.2
theorem main : G_stamp z x tx0 := by
  refine Wrap.mk ?_
  intro hx
  have hf := ff hx; have g1 : 0 ≤ fY x ∧ fY x < 10000 := by have := hf.hy; omega
  have g2 : 0 ≤ fM x ∧ fM x < 100 := by have := hf.hm; omega
  have g3 : 0 ≤ fD x ∧ fD x < 100 := by have := hf.hd; omega
  have g4 : 0 ≤ fH x ∧ fH x < 100 := by have := hf.hh; omega
  have g5 : 0 ≤ fI x ∧ fI x < 100 := by have := hf.hi; omega
  have g6 : 0 ≤ fS x ∧ fS x < 100 := by have := hf.hs; omega
  walk_at "body"
  k_with "run:c_stamp" => (
    (try dsimp +zetaDelta only)
    as_aux_lemma =>
      walk_at "step"
      all_goals (repeat' ((fail_if_success (with_reducible guard_target = wpAny _ _ (execs (List.cons _ _) _) _ _ _)); walk_at "step"))
      all_goals (first | ((with_reducible guard_target = wpAny _ _ (execs (List.cons _ _) _) _ _ _); k_extra "run:c_stamp") | k_extra "tail:c_stamp"))
  k_with "tail:c_stamp" => (
  all_goals walk_at "fn:str"
  all_goals rfl)
  all_goals (first | ((with_reducible guard_target = wpAny _ _ (execs (List.cons _ _) _) _ _ _); k_extra "run:c_stamp") | k_extra "tail:c_stamp")
theorem main' : zG zt := by with_unfolding_all exact main
theorem all (z : Dat) (x : Int) (tx0 : Tok) : G_stamp z x tx0 := haveI : Nonempty Dat := dat_some PySem.Challenge.rw_kl0450_03.row.prog; sk_all (G := zG) main' (z, x, tx0)
end D_stamp
theorem c_stamp (w : World) (x : Int) (tx0 : Tok) (hx : Mo x) : Fn PySem.Challenge.rw_kl0450_03.row.prog w (Mine.Internal.hd.heap_1 w.params) 5 170 [] [.int x tx0] (fun v new => new = [] ∧ ∃ t : Tok, v = .str (tx (stampM x)) t) := by
  refine' Fn.of_B ?ho ?hb ?h ?hcd ?hl ?h0 ?h1 ?h2 ?h3 ?h4
  case ho => k_is
  case hb => exact fun _ => BindsTo.of_eq rfl
  case hcd => k_is
  case hl => exact locs rfl
  case h0 => decide
  case h1 => exact rfl
  case h2 => exact rfl
  case h3 => exact rfl
  case h4 => decide
  case h =>
    intro z hz
    subst hz
    exact Wrap.out (D_stamp.all z x tx0) hx
end
end Mine.Internal

end
section
open PySem PySem.W PyProof.Rows PySem.Calls PySem.Spec
set_option Elab.async false
namespace Mine.Internal
section
set_option maxRecDepth 100000
set_option maxHeartbeats 8000000
theorem filled_Zone3 : PySem.Challenge.rw_kl0450_03 = PySem.Challenge.rw_kl0450_03 ∧ ∀ P, Mine.Internal.hd.heap_1 P = Mine.Internal.hd.heap_1 P := by
  k_fill
  exact ⟨rfl, fun _ => rfl⟩
theorem words_Zone3_03_0 : True := by
  k_with_none
  w_top off
  k_with "all" => (first
  | (with_reducible refine allNe_of_lt ?_; with_reducible assumption)
  | (with_reducible refine allNe_of_allLt ?_; with_reducible assumption)
  | (with_reducible refine AllNe.mem ?_; with_reducible assumption)
  | exact List.forall_mem_nil _
  | (refine' List.forall_mem_cons.mpr ⟨(by k_ne), (by k_all)⟩))
  k_with "ne" => ((refine neN ?_; (try dsimp only); first | (with_reducible refine NeA.out ?_; with_reducible assumption) | (with_reducible refine Ne.symm (NeA.out ?_); with_reducible assumption) | omega))
  k_with "body" => ((
  refine Wrap.mk ?_
  intro zzF' zzN' zzB' zzX' zzT' zzhk zzhd zzhu
  (try dsimp only)
  (try k_lift zzB')
  (try k_fold)))
  k_with "fn:args" => (exact SubL.mem (by k_subL))
  k_with "fn:end" => ((repeat (first | k_unfold | dsimp only)))
  k_with "idx" => (first | omega | (simp only [fm12]; omega) | (simp only [fd32, fd4, fd100, fd400, fd365, fd1461, fd36524, fd146097, fm365, fm1461, fm36524, fm146097, dbmT]; omega) | (rename ((_ : Int) < dbmT _ + _) => hx9; simp only [dbmT, fd32] at hx9 ⊢; omega))
  k_with "fn:int" => ((walk_at "fn:end"; k_dflt (refine' leaveF_int (by k_asm) (by k_asm) (by walk_at "fn:args") ?_)))
  k_with "fn:bool" => ((walk_at "fn:end"; k_dflt (refine' leaveF_bool (by k_asm) (by k_asm) (by walk_at "fn:args") ?_)))
  k_with "fn:str" => ((walk_at "fn:end"; k_dflt (refine' leaveF_str (by k_asm) (by k_asm) (by walk_at "fn:args") ?_)))
  k_with "fn:obj" => ((walk_at "fn:end"; k_dflt (refine' leaveF_obj (by k_asm) (by k_asm) (by walk_at "fn:args") (by k_mem) (by k_all) ?_)))
  k_with "ediv" => (simp only [fd4, fd5, fd7, fd12, fd60, fd100, fd400, fd365, fd1461, fd3600, fd36524, fd86400, fd146097, fm4, fm7, fm12, fm60, fm100, fm365, fm400, fm1461, fm36524, fm86400, fm146097] at *)
  k_with "fnC:obj" => ((walk_at "fn:end"; k_dflt (refine' leaveT_obj (by first | assumption | exact KtsTurn.refl) (by k_asm) (by k_asm) (by walk_at "fn:args") (by k_mem) (by k_all) ?_)))
  k_with "wpC" => (first
  | with_reducible refine wpC_cons ?_
  | with_reducible refine wpC_nil ?_)
  k_with "ite" => ((k_here; first
  | (k_closed; k_dflt (first | refine ite_pos (by decide) ?_ | refine ite_neg (by decide) ?_))
  | refine ite_pos (by with_reducible assumption) ?_
  | refine ite_neg (by with_reducible assumption) ?_
  | refine ite_isFalse (by with_reducible assumption) ?_
  | refine ite_pos (by k_dec) ?_
  | refine ite_neg (by k_dec) ?_))
  k_with "step" => (first | (k_unfold; (try dsimp only)) | (k_end; wrow_close) | ((with_reducible guard_target = wpAny _ _ (newTuple _) _ _ _); dsimp only; walk1) | walk1 | (dsimp only; walk1) | (leave1; try dsimp only))
  k_with "bodyT" => ((
  refine Wrap.mk ?_
  intro zzF' zzN' zzB' zzX' zzT' zzXB' zzTB' zzD' zzhk zzhd zzhu
  (try dsimp only)
  (try k_lift zzB')
  (try k_fold)))
  k_with "bodyC" => ((
  refine Wrap.mk ?_
  intro zzF' zzN' zzB' zzX' zzT' zzXB' zzTB' zzD' zzhk zzhd zzhu
  (try dsimp only)
  (try k_lift zzB')))
  k_with "binaryOp Mod str int" => ((k_here; (with_reducible show wpAny _ _ (binaryOp Operator.Mod (Value.str (PySem.Str.ofString "+%04d") _) (Value.int _ _)) _ _ _); k_dflt (refine' mod_pl (by exact fmod_rng _ 10000 (by decide)) ?_); intro t9 k9; (try k_fold)))
  k_with "binaryOp Mod str int" => ((k_here; (with_reducible show wpAny _ _ (binaryOp Operator.Mod (Value.str (PySem.Str.ofString "-%04d") _) (Value.int _ _)) _ _ _); k_dflt (refine' mod_mi (by exact fmod_rng _ 10000 (by decide)) ?_); intro t9 k9; (try k_fold)))
  k_with "subscriptTail Name BinOp ref int" => ((k_here; (with_reducible show wpAny _ _ (subscriptTail _ _ (Value.ref _) (Value.int _ _)) _ _ _); k_dflt (refine' item_zn (by k_asm) (by k_mem) (by kernel_rfl) (by assumption) ?_ (by with_unfolding_all rfl); k_whole); intro t9; (try k_fold)))
  k_with "subscriptTail List BinOp ref int" => ((k_here; (with_reducible show wpAny _ _ (subscriptTail _ _ (Value.ref _) (Value.int _ _)) _ _ _); k_dflt (refine' item_zh (by k_asm) (by k_mem) (by kernel_rfl) (by assumption) ?_ (by with_unfolding_all rfl); k_whole); intro t9; (try k_fold)))
  trivial
noncomputable def G_zone (z : Dat) (x : Int) (tx0 : Tok) : Prop := Wrap (FnB z PySem.Challenge.rw_kl0450_03.row.prog (Mine.Internal.hd.heap_1 z.w.params) 1 177 [] [.int x tx0] (fun v new => ∃ D o, v = .ref D ∧ new = [(D, o)] ∧ ∃ (W : List Nat) (z : Int) (t1 t2 : Tok), o = ({ cls := .type "tuple", data := .seq #[.str (tx W) t1, .int z t2] } : Obj) ∧ ZoneT W z) (by k_is) (by exact BindsTo.of_eq rfl))
namespace D_zone
noncomputable def zG (zt : Dat × Int × Tok) : Prop := G_zone (zt.1) (zt.2.1) (zt.2.2)
noncomputable def zt : Dat × Int × Tok := haveI : Nonempty Dat := dat_some PySem.Challenge.rw_kl0450_03.row.prog; sk zG
@[irreducible] noncomputable def z : Dat := zt.1
@[irreducible] noncomputable def x : Int := zt.2.1
@[irreducible] noncomputable def tx0 : Tok := zt.2.2
theorem main : G_zone z x tx0 := by
  refine Wrap.mk ?_
  have hs := fmod_rng (x.fdiv 4) 10000 (by decide)
  have hk := fmod_rng ((x.fdiv 4).fmod 10000) 11 (by decide)
  have hk : 0 ≤ ((x.fdiv 4).fmod 10000).fmod 11 ∧ ((x.fdiv 4).fmod 10000).fmod 11 ≤ 10 := by omega
  walk_at "body"
  k_with "run:c_zone" => (
    (try dsimp +zetaDelta only)
    as_aux_lemma =>
      walk_at "step"
      all_goals (repeat' ((fail_if_success (with_reducible guard_target = wpAny _ _ (execs (List.cons _ _) _) _ _ _)); walk_at "step"))
      all_goals (first | ((with_reducible guard_target = wpAny _ _ (execs (List.cons _ _) _) _ _ _); k_extra "run:c_zone") | k_extra "tail:c_zone"))
  k_with "tail:c_zone" => (
  all_goals walk_at "fn:obj"
  all_goals first
    | with_reducible exact ⟨_, _, _, _, rfl, .plus _ (by assumption) rfl rfl⟩
    | with_reducible exact ⟨_, _, _, _, rfl, .minus _ (by assumption) rfl rfl⟩
    | with_reducible exact ⟨_, _, _, _, rfl, .name _ (by assumption) rfl rfl⟩
    | with_reducible exact zone_nil _ _)
  all_goals (first | ((with_reducible guard_target = wpAny _ _ (execs (List.cons _ _) _) _ _ _); k_extra "run:c_zone") | k_extra "tail:c_zone")
theorem main' : zG zt := by with_unfolding_all exact main
theorem all (z : Dat) (x : Int) (tx0 : Tok) : G_zone z x tx0 := haveI : Nonempty Dat := dat_some PySem.Challenge.rw_kl0450_03.row.prog; sk_all (G := zG) main' (z, x, tx0)
end D_zone
theorem c_zone (w : World) (x : Int) (tx0 : Tok) : Fn PySem.Challenge.rw_kl0450_03.row.prog w (Mine.Internal.hd.heap_1 w.params) 1 177 [] [.int x tx0] (fun v new => ∃ D o, v = .ref D ∧ new = [(D, o)] ∧ ∃ (W : List Nat) (z : Int) (t1 t2 : Tok), o = ({ cls := .type "tuple", data := .seq #[.str (tx W) t1, .int z t2] } : Obj) ∧ ZoneT W z) := by
  refine' Fn.of_B ?ho ?hb ?h ?hcd ?hl ?h0 ?h1 ?h2 ?h3 ?h4
  case ho => k_is
  case hb => exact fun _ => BindsTo.of_eq rfl
  case hcd => k_is
  case hl => exact locs rfl
  case h0 => decide
  case h1 => exact rfl
  case h2 => exact rfl
  case h3 => exact rfl
  case h4 => decide
  case h =>
    intro z hz
    subst hz
    exact Wrap.out (D_zone.all z x tx0) 
end
end Mine.Internal

end
section
open PySem PySem.W PyProof.Rows PySem.Calls PySem.Spec
set_option Elab.async false
namespace Mine.Internal
section
set_option maxRecDepth 100000
set_option maxHeartbeats 8000000
theorem filled_Tail3 : PySem.Challenge.rw_kl0450_03 = PySem.Challenge.rw_kl0450_03 ∧ ∀ P, Mine.Internal.hd.heap_1 P = Mine.Internal.hd.heap_1 P := by
  k_fill
  exact ⟨rfl, fun _ => rfl⟩
theorem words_Tail3_03_0 : True := by
  k_with_none
  w_top off
  k_with "all" => (first
  | (with_reducible refine allNe_of_lt ?_; with_reducible assumption)
  | (with_reducible refine allNe_of_allLt ?_; with_reducible assumption)
  | (with_reducible refine AllNe.mem ?_; with_reducible assumption)
  | exact List.forall_mem_nil _
  | (refine' List.forall_mem_cons.mpr ⟨(by k_ne), (by k_all)⟩))
  k_with "ne" => ((refine neN ?_; (try dsimp only); first | (with_reducible refine NeA.out ?_; with_reducible assumption) | (with_reducible refine Ne.symm (NeA.out ?_); with_reducible assumption) | omega))
  k_with "body" => ((
  refine Wrap.mk ?_
  intro zzF' zzN' zzB' zzX' zzT' zzhk zzhd zzhu
  (try dsimp only)
  (try k_lift zzB')
  (try k_fold)))
  k_with "fn:args" => (exact SubL.mem (by k_subL))
  k_with "fn:end" => ((repeat (first | k_unfold | dsimp only)))
  k_with "idx" => (first | omega | (simp only [fm12]; omega) | (simp only [fd32, fd4, fd100, fd400, fd365, fd1461, fd36524, fd146097, fm365, fm1461, fm36524, fm146097, dbmT]; omega) | (rename ((_ : Int) < dbmT _ + _) => hx9; simp only [dbmT, fd32] at hx9 ⊢; omega))
  k_with "fn:int" => ((walk_at "fn:end"; k_dflt (refine' leaveF_int (by k_asm) (by k_asm) (by walk_at "fn:args") ?_)))
  k_with "fn:bool" => ((walk_at "fn:end"; k_dflt (refine' leaveF_bool (by k_asm) (by k_asm) (by walk_at "fn:args") ?_)))
  k_with "fn:str" => ((walk_at "fn:end"; k_dflt (refine' leaveF_str (by k_asm) (by k_asm) (by walk_at "fn:args") ?_)))
  k_with "fn:obj" => ((walk_at "fn:end"; k_dflt (refine' leaveF_obj (by k_asm) (by k_asm) (by walk_at "fn:args") (by k_mem) (by k_all) ?_)))
  k_with "ediv" => (simp only [fd4, fd5, fd7, fd12, fd60, fd100, fd400, fd365, fd1461, fd3600, fd36524, fd86400, fd146097, fm4, fm7, fm12, fm60, fm100, fm365, fm400, fm1461, fm36524, fm86400, fm146097] at *)
  k_with "fnC:obj" => ((walk_at "fn:end"; k_dflt (refine' leaveT_obj (by first | assumption | exact KtsTurn.refl) (by k_asm) (by k_asm) (by walk_at "fn:args") (by k_mem) (by k_all) ?_)))
  k_with "wpC" => (first
  | with_reducible refine wpC_cons ?_
  | with_reducible refine wpC_nil ?_)
  k_with "ite" => ((k_here; first
  | (k_closed; k_dflt (first | refine ite_pos (by decide) ?_ | refine ite_neg (by decide) ?_))
  | refine ite_pos (by with_reducible assumption) ?_
  | refine ite_neg (by with_reducible assumption) ?_
  | refine ite_isFalse (by with_reducible assumption) ?_
  | refine ite_pos (by k_dec) ?_
  | refine ite_neg (by k_dec) ?_))
  k_with "step" => (first | (k_unfold; (try dsimp only)) | (k_end; wrow_close) | ((with_reducible guard_target = wpAny _ _ (newTuple _) _ _ _); dsimp only; walk1) | walk1 | (dsimp only; walk1) | (leave1; try dsimp only))
  k_with "bodyT" => ((
  refine Wrap.mk ?_
  intro zzF' zzN' zzB' zzX' zzT' zzXB' zzTB' zzD' zzhk zzhd zzhu
  (try dsimp only)
  (try k_lift zzB')
  (try k_fold)))
  k_with "bodyC" => ((
  refine Wrap.mk ?_
  intro zzF' zzN' zzB' zzX' zzT' zzXB' zzTB' zzD' zzhk zzhd zzhu
  (try dsimp only)
  (try k_lift zzB')))
  k_with "call ref" => ((k_here; (with_reducible show wpAny _ _ (call (Value.ref 177) _) _ _ _); k_dflt (refine' Fn.useO (c_zone _ _ _) (by k_asm) (by k_asm) (by k_asm) (by k_asm) (by k_asm) (by first | exact rfl | assumption) (by walk_at "fn:args") (by ktr_room) (by ktr_units) ?_); intro D9 o9 h9 tk9 ho9 F9 N9 hne9; obtain ⟨W9, z9, _, _, e9, hz9⟩ := ho9; subst e9; have hmo9 := Mz.shift (by assumption) hz9; have hf9 := ff hmo9; have q1 := hf9.hm; have q2 := hf9.hy; have q3 := hf9.hd; have q4 := hf9.hh; have q5 := hf9.hi; have q6 := hf9.hs;  (try dsimp only); (try k_fold)))
  k_with "call ref" => ((k_here; (with_reducible show wpAny _ _ (call (Value.ref 163) _) _ _ _); k_dflt (refine' Fn.useO (c_fields _ _ _ (by assumption)) (by k_asm) (by k_asm) (by k_asm) (by k_asm) (by k_asm) (by first | exact rfl | assumption) (by walk_at "fn:args") (by ktr_room) (by ktr_units) ?_); intro D9 o9 h9 tk9 ho9 F9 N9 hne9; obtain ⟨_, _, _, _, _, _, e9⟩ := ho9; subst e9; have q7 := week7 _ (by assumption);  (try dsimp only); (try k_fold)))
  k_with "subscriptTail Name Slice ref ref" => ((k_here; (with_reducible show wpAny _ _ (subscriptTail _ (PySem.Expr.Slice (some (PySem.Expr.Constant (PySem.Const.int 3) _ _)) none none _) (Value.ref _) (Value.ref _)) _ _ _); k_dflt (refine' tup_a (a := 3) (by k_asm) (by k_asm) (by exact News.isTup (by k_asm) (by k_mem)) (by exact Nat.le_of_ble_eq_true rfl) (by exact Nat.le_of_ble_eq_true rfl) (by exact pick6_3) ?_ (by with_unfolding_all rfl) (by intro _; with_unfolding_all rfl) (by exact Nat.le_of_ble_eq_true rfl); k_whole); intro D' h' F' N' l1; (try k_lt l1); (try k_sweep); (try k_fold)))
  k_with "truthy str" => ((k_here; (with_reducible show wpAny _ _ (PySem.truthy (Value.str (tx _) _)) _ _ _); refine truthy_two (Nat.le_trans (ZoneT.mem (by assumption)).1 (by decide)) ?_ ?_; all_goals (intro hw9 _; (try k_fold))))
  k_with "binaryOp Mod str ref" => ((k_here; (with_reducible show wpAny _ _ (binaryOp Operator.Mod (Value.str (PySem.Str.ofString "%02d:%02d:%02d") _) (Value.ref _)) _ _ _); (with_reducible rename News _ _ _ _ => N9); k_dflt (refine' KPt.mod_tuple (by exact N9) (by k_mem) ?_ (by exact fmt_hms _ _ _ _ _ _ _ _ (by omega) (by omega) (by omega) (by omega) (by omega) (by omega)) ?_; (decide +kernel)); intro t9 k9; (try k_fold)))
  k_with "binaryOp Mod str ref" => ((k_here; (with_reducible show wpAny _ _ (binaryOp Operator.Mod (Value.str (PySem.Str.ofString ", %d %s %04d %s %s") _) (Value.ref _)) _ _ _); (with_reducible rename News _ _ _ _ => N9); rw [mon_slice (by assumption)] at N9; k_dflt (refine' KPt.mod_tuple (by exact N9) (by k_mem) ?_ (by exact fmt_3A _ _ _ _ _ _ _ _ _ _ _ _ (by omega) (by omega) (by walk_at "t3len") (by omega) (by omega) (by walk_at "t3len") (by walk_at "t3len")) ?_; (decide +kernel)); intro t9 k9; (try k_fold)))
  k_with "binaryOp Mod str ref" => ((k_here; (with_reducible show wpAny _ _ (binaryOp Operator.Mod (Value.str (PySem.Str.ofString ",%s, %d %s %04d, %s %s") _) (Value.ref _)) _ _ _); (with_reducible rename News _ _ _ _ => N9); rw [mon_slice (by assumption)] at N9; rw [wd3_slice (by assumption)] at N9; k_dflt (refine' KPt.mod_tuple (by exact N9) (by k_mem) ?_ (by exact fmt_3B _ _ _ _ _ _ _ _ _ _ _ _ _ _ (by walk_at "t3len") (by omega) (by omega) (by walk_at "t3len") (by omega) (by omega) (by walk_at "t3len") (by walk_at "t3len")) ?_; (decide +kernel)); intro t9 k9; (try k_fold)))
  k_with "binaryOp Mod str ref" => ((k_here; (with_reducible show wpAny _ _ (binaryOp Operator.Mod (Value.str (PySem.Str.ofString ",%s,%02d-%s-%04d %s %s") _) (Value.ref _)) _ _ _); (with_reducible rename News _ _ _ _ => N9); rw [mon_slice (by assumption)] at N9; rw [wd3_slice (by assumption)] at N9; (try rw [← gmt_is] at N9); k_dflt (refine' KPt.mod_tuple (by exact N9) (by k_mem) ?_ (by exact fmt_3C _ _ _ _ _ _ _ _ _ _ _ _ _ _ (by walk_at "t3len") (by omega) (by omega) (by walk_at "t3len") (by omega) (by omega) (by walk_at "t3len") (by walk_at "t3len")) ?_; (decide +kernel)); intro t9 k9; (try k_fold)))
  k_with "t3len" => (first | (with_reducible exact Nat.le_trans (ZoneT.mem (by assumption)).1 (by decide)) | (rw [wd3_len (by assumption)]; decide) | (rw [mon_len (by assumption)]; decide) | exact (by decide : gmt.length ≤ 40) | (simp [dg2]; done))
  k_with "binaryOp Add ref ref" => ((k_here; (with_reducible show wpAny _ _ (binaryOp _ (Value.ref _) (Value.ref _)) _ _ _); k_dflt (refine' kde_addT (by k_asm) (by k_asm) (by exact News.isTup (by k_asm) (by k_mem)) (by exact News.isTup (by k_asm) (by k_mem)) (by exact List.cons_ne_nil _ _) (by exact List.cons_ne_nil _ _) (by exact Nat.le_of_ble_eq_true rfl) (by exact cat64) ?_; k_whole); intro D' h' F' N' l1; (try k_lt l1); (try k_sweep); (try k_fold)))
  k_with "fn:tail" => ((walk_at "fn:end"; k_dflt (refine' leaveF_tail (by k_asm) (by k_asm) (by k_mem) (by k_mem) (by walk_at "t3end"))))
  k_with "t3end" => ((simp only [List.nil_append, List.cons_append, List.append_assoc]; first
  | with_reducible exact tailX_A (by assumption) (by assumption) (by assumption)
  | with_reducible exact tailX_B (by assumption) (by assumption) (by assumption)
  | with_reducible exact tailX_C (by assumption) (by assumption) (by assumption) (by assumption)
  | with_reducible exact tailX_C (by assumption) (zone_gmt' (by assumption) (by assumption)) (by assumption) (by decide)))
  trivial
noncomputable def G_tail (z : Dat) (x : Int) (wy : Int) (tx0 : Tok) (tw : Tok) : Prop := Wrap ((Mz x) → FnB z PySem.Challenge.rw_kl0450_03.row.prog (Mine.Internal.hd.heap_1 z.w.params) 5 184 [] [.int x tx0, .int wy tw] (fun v new => ∃ D o a o2, v = .ref D ∧ new = [(D, o), (a, o2)] ∧ TailO x D o a o2) (by k_is) (by exact BindsTo.of_eq rfl))
namespace D_tail
noncomputable def zG (zt : Dat × Int × Int × Tok × Tok) : Prop := G_tail (zt.1) (zt.2.1) (zt.2.2.1) (zt.2.2.2.1) (zt.2.2.2.2)
noncomputable def zt : Dat × Int × Int × Tok × Tok := haveI : Nonempty Dat := dat_some PySem.Challenge.rw_kl0450_03.row.prog; sk zG
@[irreducible] noncomputable def z : Dat := zt.1
@[irreducible] noncomputable def x : Int := zt.2.1
@[irreducible] noncomputable def wy : Int := zt.2.2.1
@[irreducible] noncomputable def tx0 : Tok := zt.2.2.2.1
@[irreducible] noncomputable def tw : Tok := zt.2.2.2.2
theorem main : G_tail z x wy tx0 tw := by
  refine Wrap.mk ?_
  intro hx
  walk_at "body"
  k_with "run:c_tail" => (
    (try dsimp +zetaDelta only)
    as_aux_lemma =>
      walk_at "step"
      all_goals (repeat' ((fail_if_success (with_reducible guard_target = wpAny _ _ (execs (List.cons _ _) _) _ _ _)); walk_at "step"))
      all_goals (first | ((with_reducible guard_target = wpAny _ _ (execs (List.cons _ _) _) _ _ _); k_extra "run:c_tail") | k_extra "tail:c_tail"))
  k_with "tail:c_tail" => (
  all_goals walk_at "fn:tail")
  all_goals (first | ((with_reducible guard_target = wpAny _ _ (execs (List.cons _ _) _) _ _ _); k_extra "run:c_tail") | k_extra "tail:c_tail")
theorem main' : zG zt := by with_unfolding_all exact main
theorem all (z : Dat) (x : Int) (wy : Int) (tx0 : Tok) (tw : Tok) : G_tail z x wy tx0 tw := haveI : Nonempty Dat := dat_some PySem.Challenge.rw_kl0450_03.row.prog; sk_all (G := zG) main' (z, x, wy, tx0, tw)
end D_tail
theorem c_tail (w : World) (x wy : Int) (tx0 tw : Tok) (hx : Mz x) : Fn PySem.Challenge.rw_kl0450_03.row.prog w (Mine.Internal.hd.heap_1 w.params) 5 184 [] [.int x tx0, .int wy tw] (fun v new => ∃ D o a o2, v = .ref D ∧ new = [(D, o), (a, o2)] ∧ TailO x D o a o2) := by
  refine' Fn.of_B ?ho ?hb ?h ?hcd ?hl ?h0 ?h1 ?h2 ?h3 ?h4
  case ho => k_is
  case hb => exact fun _ => BindsTo.of_eq rfl
  case hcd => k_is
  case hl => exact locs rfl
  case h0 => decide
  case h1 => exact rfl
  case h2 => exact rfl
  case h3 => exact rfl
  case h4 => decide
  case h =>
    intro z hz
    subst hz
    exact Wrap.out (D_tail.all z x wy tx0 tw) hx
end
end Mine.Internal

end
section
open PySem PySem.W PyProof.Rows PySem.Calls PySem.Spec
set_option Elab.async false
namespace Mine.Internal
section
set_option maxRecDepth 100000
set_option maxHeartbeats 8000000
theorem filled_Dfs3 : PySem.Challenge.rw_kl0450_03 = PySem.Challenge.rw_kl0450_03 ∧ ∀ P, Mine.Internal.hd.heap_1 P = Mine.Internal.hd.heap_1 P := by
  k_fill
  exact ⟨rfl, fun _ => rfl⟩
theorem words_Dfs3_03_0 : True := by
  k_with_none
  w_top off
  k_with "all" => (first
  | (with_reducible refine allNe_of_lt ?_; with_reducible assumption)
  | (with_reducible refine allNe_of_allLt ?_; with_reducible assumption)
  | (with_reducible refine AllNe.mem ?_; with_reducible assumption)
  | exact List.forall_mem_nil _
  | (refine' List.forall_mem_cons.mpr ⟨(by k_ne), (by k_all)⟩))
  k_with "ne" => ((refine neN ?_; (try dsimp only); first | (with_reducible refine NeA.out ?_; with_reducible assumption) | (with_reducible refine Ne.symm (NeA.out ?_); with_reducible assumption) | omega))
  k_with "body" => ((
  refine Wrap.mk ?_
  intro zzF' zzN' zzB' zzX' zzT' zzhk zzhd zzhu
  (try dsimp only)
  (try k_lift zzB')
  (try k_fold)))
  k_with "fn:args" => (exact SubL.mem (by k_subL))
  k_with "fn:end" => ((repeat (first | k_unfold | dsimp only)))
  k_with "idx" => (first | omega | (simp only [fm12]; omega) | (simp only [fd32, fd4, fd100, fd400, fd365, fd1461, fd36524, fd146097, fm365, fm1461, fm36524, fm146097, dbmT]; omega) | (rename ((_ : Int) < dbmT _ + _) => hx9; simp only [dbmT, fd32] at hx9 ⊢; omega))
  k_with "fn:int" => ((walk_at "fn:end"; k_dflt (refine' leaveF_int (by k_asm) (by k_asm) (by walk_at "fn:args") ?_)))
  k_with "fn:bool" => ((walk_at "fn:end"; k_dflt (refine' leaveF_bool (by k_asm) (by k_asm) (by walk_at "fn:args") ?_)))
  k_with "fn:str" => ((walk_at "fn:end"; k_dflt (refine' leaveF_str (by k_asm) (by k_asm) (by walk_at "fn:args") ?_)))
  k_with "fn:obj" => ((walk_at "fn:end"; k_dflt (refine' leaveF_obj (by k_asm) (by k_asm) (by walk_at "fn:args") (by k_mem) (by k_all) ?_)))
  k_with "ediv" => (simp only [fd4, fd5, fd7, fd12, fd60, fd100, fd400, fd365, fd1461, fd3600, fd36524, fd86400, fd146097, fm4, fm7, fm12, fm60, fm100, fm365, fm400, fm1461, fm36524, fm86400, fm146097] at *)
  k_with "fnC:obj" => ((walk_at "fn:end"; k_dflt (refine' leaveT_obj (by first | assumption | exact KtsTurn.refl) (by k_asm) (by k_asm) (by walk_at "fn:args") (by k_mem) (by k_all) ?_)))
  k_with "wpC" => (first
  | with_reducible refine wpC_cons ?_
  | with_reducible refine wpC_nil ?_)
  k_with "ite" => ((k_here; first
  | (k_closed; k_dflt (first | refine ite_pos (by decide) ?_ | refine ite_neg (by decide) ?_))
  | refine ite_pos (by with_reducible assumption) ?_
  | refine ite_neg (by with_reducible assumption) ?_
  | refine ite_isFalse (by with_reducible assumption) ?_
  | refine ite_pos (by k_dec) ?_
  | refine ite_neg (by k_dec) ?_))
  k_with "step" => (first | (k_unfold; (try dsimp only)) | (k_end; wrow_close) | ((with_reducible guard_target = wpAny _ _ (newTuple _) _ _ _); dsimp only; walk1) | walk1 | (dsimp only; walk1) | (leave1; try dsimp only))
  k_with "bodyT" => ((
  refine Wrap.mk ?_
  intro zzF' zzN' zzB' zzX' zzT' zzXB' zzTB' zzD' zzhk zzhd zzhu
  (try dsimp only)
  (try k_lift zzB')
  (try k_fold)))
  k_with "bodyC" => ((
  refine Wrap.mk ?_
  intro zzF' zzN' zzB' zzX' zzT' zzXB' zzTB' zzD' zzhk zzhd zzhu
  (try dsimp only)
  (try k_lift zzB')))
  trivial
theorem patk (w : World) : PatK w (Mine.Internal.hd.heap_1 w.params) 59 := by
  refine ⟨56, 58, _, _, _, _, rfl, ⟨0, by kernel_rfl⟩, _, _, _, _, _, _, _, _, _, _, _, _, _, rfl⟩
theorem words_Dfs3_03_1 : True := by
  k_with "hi" => (first | with_reducible exact hi_dgs _ | with_reducible exact hi_dg4 _ | with_reducible exact hi_dg2 _ | with_reducible exact hi_clk _ _ _ | with_reducible exact hi_mon (by assumption) | with_reducible exact hi_lmon (by assumption))
  k_with "len" => (first | with_reducible exact len_dgs _ | with_reducible exact len_dg4 _ | with_reducible exact len_dg2 _ | with_reducible exact len_clk _ _ _ | with_reducible exact len_mon (by assumption) | with_reducible exact len_lmon (by assumption) | with_reducible exact len_mail (by assumption))
  k_with "isc" => (first | with_reducible exact comma | with_reducible exact colon | with_reducible exact minus | with_reducible exact plus | rfl)
  k_with "txt" => (first
  | with_reducible exact find_col4 _
  | with_reducible exact ends_c (by walk_at "isc") (hi_no (by walk_at "hi") (by decide))
  | with_reducible exact find_c (by walk_at "isc") (hi_no (by walk_at "hi") (by decide))
  | with_reducible exact rfind_c (by walk_at "isc") (hi_no (by walk_at "hi") (by decide))
  | with_reducible exact lower_dgs _
  | with_reducible exact lower_mon (by assumption)
  | with_reducible exact isdigit_fig _)
  k_with "call builtin:str.split" => ((k_here; (with_reducible show wpAny _ _ (call (Value.builtin "str.split") [Value.str (tx _) _]) _ _ _); k_dflt (
  (refine KSpl.split0 (by k_asm) (by k_asm) ?_ (Nat.le_trans (Nat.add_le_add_right (mailT_len (by assumption)).1 2) (by rw [sizeLine_eq]; decide)))
  intro D' l' h' k' e' a' F' N' l1
  rw [words_mail (by assumption)] at e'
  (try k_lt l1)
  kspl_open e'
  simp only [strValues, List.map_cons, List.map_nil] at N' a'
  (try k_sweep)
  (try k_fold))))
  k_with "truthy str" => ((k_here; (with_reducible show wpAny _ _ (PySem.truthy (Value.str (tx _) _)) _ _ _); k_dflt (refine KXt.truthy_pos (tr_pos (by walk_at "len")) (tr_len (by walk_at "len")) (by decide) ?_; intro _; (try k_fold))))
  k_with "call builtin:str.endswith" => ((k_here; (with_reducible show wpAny _ _ (call (Value.builtin "str.endswith") [Value.str (tx _) _, Value.str _ _]) _ _ _); (refine SC.endswith ?_); (rw [ends_c (by walk_at "isc") (hi_no (by walk_at "hi") (by decide))]); (try k_fold)))
  k_with "call builtin:str.find" => ((k_here; (with_reducible show wpAny _ _ (call (Value.builtin "str.find") [Value.str (tx _) _, Value.str _ _]) _ _ _); (refine KXw.find (by walk_at "txt") ?_); intro _ _; (try k_fold)))
  k_with "call builtin:str.rfind" => ((k_here; (with_reducible show wpAny _ _ (call (Value.builtin "str.rfind") [Value.str (tx _) _, Value.str _ _]) _ _ _); (refine KXw.rfind (by walk_at "txt") ?_); intro _ _; (try k_fold)))
  k_with "call builtin:str.isdigit" => ((k_here; (with_reducible show wpAny _ _ (call (Value.builtin "str.isdigit") [Value.str (tx _) _]) _ _ _); (with_reducible refine KXw.isdigit (isdigit_fig _) ?_); (try k_fold)))
  k_with "call builtin:str.lower" => ((k_here; (with_reducible show wpAny _ _ (call (Value.builtin "str.lower") [Value.str (tx _) _]) _ _ _); (first | with_reducible refine KXw.lower (lower_dgs _) (fit_l (lower_dgs _) (len_dgs _)) ?_ | with_reducible refine KXw.lower (lower_mon (by assumption)) (fit_l (lower_mon (by assumption)) (len_lmon (by assumption))) ?_); intro _ _; (try k_fold)))
  k_with "tabin" => (first | with_reducible exact dgs_not (by decide) _ | with_reducible exact lmon_in (by assumption))
  k_with "compareOp In str ref" => ((k_here; (with_reducible show wpAny _ _ (compareOp CmpOp.In (Value.str (tx _) _) (Value.ref 127)) _ _ _); k_dflt (refine' in_strsK dyTab (by k_asm) (by k_asm) (by k_is) (by decide +kernel) (by walk_at "tabin") ?_; k_whole; (try k_fold))))
  k_with "compareOp NotIn str ref" => ((k_here; (with_reducible show wpAny _ _ (compareOp CmpOp.NotIn (Value.str (tx _) _) (Value.ref 126)) _ _ _); k_dflt (refine' notin_strsK mnTab (by k_asm) (by k_asm) (by k_is) (by decide +kernel) (by walk_at "tabin") ?_; k_whole; (try k_fold))))
  k_with "call builtin:list.index" => ((k_here; k_dflt (refine' index_strsK mnTab (by k_asm) (by k_asm) (by k_is) (by decide +kernel) (by exact lmon_idx (by assumption)) (by (simp only [mnTab, List.length_cons, List.length_nil]; omega)) (by decide) ?_; k_whole; (try k_fold))))
  k_with "call builtin:list.append" => ((k_here; (with_reducible show wpAny _ _ (call (Value.builtin "list.append") [Value.ref _, _]) _ _ _); k_dflt (refine' append_K (by k_asm) (by k_asm) (by k_upd) ?_ (by exact Nat.le_of_ble_eq_true rfl); k_whole); intro h' F' N'; (try k_sweep); (try k_fold)))
  k_with "exec Assign" => (((with_reducible show wpAny _ _ (exec (Stmt.Assign [Expr.List _ _] _ _) _) _ _ _); refine Assign_List ?_))
  k_with "getMethod ref" => ((k_here; (with_reducible show wpAny _ _ (getMethod (Value.ref 126) (PySem.Str.ofString "index") _) _ _ _); k_dflt (refine' index_method (by k_asm) (by k_asm) (by k_is) ?_; k_whole)))
  k_with "lastc" => (first | with_reducible exact dgs_getLast _ | with_reducible exact dg4_last _ | with_reducible exact clk_last _ _ _ | with_reducible exact dg2_last _)
  k_with "headc" => (first | with_reducible exact dg4_head _ | with_reducible exact dg2_head _)
  k_with "subscriptTail Name UnaryOp str int" => ((k_here; (with_reducible show wpAny _ _ (subscriptTail _ _ (Value.str (tx _) _) (Value.int (-1) _)) _ _ _); k_dflt (refine' item_last_tx (by walk_at "lastc") (by exact len1000 (by walk_at "len")) ?_ (by with_unfolding_all rfl) (by intro _; with_unfolding_all rfl); k_whole; intro t9; (try k_fold))))
  k_with "subscriptTail Name Constant str int" => ((k_here; (with_reducible show wpAny _ _ (subscriptTail _ _ (Value.str (tx _) _) (Value.int 0 _)) _ _ _); k_dflt (refine' item_first_tx (by walk_at "headc") (by exact len1000 (by walk_at "len")) ?_ (by with_unfolding_all rfl) (by intro _; with_unfolding_all rfl); k_whole; intro t9; (try k_fold))))
  k_with "txteq" => (first | (refine' fig_ne (by walk_at "isc") (by decide)))
  k_with "compareOp Eq str str" => ((k_here; (with_reducible show wpAny _ _ (compareOp CmpOp.Eq (Value.str (tx _) _) (Value.str _ _)) _ _ _); k_dflt (refine' eq_tx (by walk_at "txteq") ?_; k_whole; (try k_fold))))
  k_with "call builtin:str.split" => ((k_here; (with_reducible show wpAny _ _ (call (Value.builtin "str.split") [Value.str (tx _) _, Value.str _ _]) _ _ _); k_dflt (
  (refine KSpl.split1 (by k_asm) (by k_asm) (by decide) ?_ (fits_l (len1000 (by walk_at "len"))))
  intro D' l' h' k' e' a' F' N' l1
  rw [split_clk2] at e'
  (try k_lt l1)
  kspl_open e'
  simp only [strValues, List.map_cons, List.map_nil] at N' a'
  (try k_sweep)
  (try k_fold))))
  k_with "val" => (first | with_reducible exact val_dg2 (by omega) (by omega) | with_reducible exact val_dg4 (by omega) (by omega) | with_reducible exact val_dgs (by omega) (by omega))
  k_with "call type:int" => ((k_here; (with_reducible show wpAny _ _ (call (Value.type "int") [Value.str (tx _) _]) _ _ _); k_dflt (refine KIN.call_text (by walk_at "val") (Nat.le_trans (len1000' (by walk_at "len")) (by decide)) ?_; (try k_fold))))
  k_with "getMethod ref" => ((k_here; (with_reducible show wpAny _ _ (getMethod (Value.ref 59) (PySem.Str.ofString "match") _) _ _ _); k_dflt (refine' match_method (by k_asm) (by k_asm) (by exact patk _) ?_; k_whole)))
  k_with "call builtin:re.Pattern.match" => ((k_here; k_dflt (refine' matchN_call (by k_asm) (by k_asm) (by k_asm) (by exact patk _) (by exact line_ge _ _ _ _ _ _ _) (by exact line_le _ _ _ _ _ _ (by assumption)) (by exact stampL_sameR _ _ _ _ _ _ _) ?_; k_whole); intro tt' D' h' F' N' l1 l2; (try k_lt l1); (try k_sweep); (try k_fold)))
  k_with "getMethod ref" => ((k_here; (with_reducible show wpAny _ _ (getMethod (Value.ref _) (PySem.Str.ofString "groupdict") _) _ _ _); k_dflt (refine' groupdictN_method (by k_asm) (by k_mem) ?_; k_whole)))
  k_with "call builtin:re.Match.groupdict" => ((k_here; k_dflt (refine' groupdictN_call (by k_asm) (by k_asm) (by k_asm) (by exact patk _) (by k_mem) (by k_mem) ?_; k_whole); intro D' o' h' tk' t1' t2' t3' t4' t5' t6' F' N' l1 l2 hd'; (try k_lt l1); (try k_sweep); (try k_fold)))
  k_with "call type:datetime.datetime" => ((k_here; k_dflt (refine' dt_okK (by k_asm) (by k_asm) (by assumption) (by exact rfl) (by assumption) (by assumption) (by assumption) (by assumption) (by assumption) (by assumption) ?_; k_whole); intro D' h' F' N' l1; (try k_lt l1); (try k_sweep); (try k_fold)))
  k_with "callWith type:datetime.datetime nil nil" => ((k_here; (with_reducible show wpAny _ _ (callWith _ (Value.type _) [] (backTo _ (starEach [Expr.Starred _ _] _)) []) _ _ _); k_dflt (refine' callWith_T ?_; k_whole)))
  k_with "pyIter ref" => ((k_here; (with_reducible show wpAny _ _ (pyIter (Value.ref _)) (fun it s₂ => LoopAtV _ _ _ _ _ _ _ _ _ it s₂) _ _); k_listUnr))
  trivial
noncomputable def G_dfs (z : Dat) (y : Int) (m : Int) (d : Int) (h : Int) (mi : Int) (sc : Int) (r : List Nat) (tx0 : Tok) : Prop := Wrap ((r.length ≤ 900) → (1 ≤ y ∧ y ≤ 9999) → (1 ≤ m ∧ m ≤ 12) → (0 ≤ d ∧ d < 100) → (0 ≤ h ∧ h < 100) → (0 ≤ mi ∧ mi < 100) → (0 ≤ sc ∧ sc < 100) → (dtOk y m d h mi sc) → FnB z PySem.Challenge.rw_kl0450_03.row.prog (Mine.Internal.hd.heap_1 z.w.params) 1 66 [] [.str (tx (stampL y m d h mi sc ++ r)) tx0, .bool false] (fun v new => ∃ D o, v = .ref D ∧ new = [(D, o)] ∧ o = dtObj y m d h mi sc) (by k_is) (by exact BindsTo.of_eq rfl))
namespace D_dfs
noncomputable def zG (zt : Dat × Int × Int × Int × Int × Int × Int × List Nat × Tok) : Prop := G_dfs (zt.1) (zt.2.1) (zt.2.2.1) (zt.2.2.2.1) (zt.2.2.2.2.1) (zt.2.2.2.2.2.1) (zt.2.2.2.2.2.2.1) (zt.2.2.2.2.2.2.2.1) (zt.2.2.2.2.2.2.2.2)
noncomputable def zt : Dat × Int × Int × Int × Int × Int × Int × List Nat × Tok := haveI : Nonempty Dat := dat_some PySem.Challenge.rw_kl0450_03.row.prog; sk zG
@[irreducible] noncomputable def z : Dat := zt.1
@[irreducible] noncomputable def y : Int := zt.2.1
@[irreducible] noncomputable def m : Int := zt.2.2.1
@[irreducible] noncomputable def d : Int := zt.2.2.2.1
@[irreducible] noncomputable def h : Int := zt.2.2.2.2.1
@[irreducible] noncomputable def mi : Int := zt.2.2.2.2.2.1
@[irreducible] noncomputable def sc : Int := zt.2.2.2.2.2.2.1
@[irreducible] noncomputable def r : List Nat := zt.2.2.2.2.2.2.2.1
@[irreducible] noncomputable def tx0 : Tok := zt.2.2.2.2.2.2.2.2
theorem main : G_dfs z y m d h mi sc r tx0 := by
  refine Wrap.mk ?_
  intro hr hy hm hd hh hmi hs hok
  walk_at "body"
  k_with "run:c_dfs" => (
    (try dsimp +zetaDelta only)
    as_aux_lemma =>
      walk_at "step"
      all_goals (repeat' ((fail_if_success (with_reducible guard_target = wpAny _ _ (execs (List.cons _ _) _) _ _ _)); walk_at "step"))
      all_goals (first | ((with_reducible guard_target = wpAny _ _ (execs (List.cons _ _) _) _ _ _); k_extra "run:c_dfs") | k_extra "tail:c_dfs"))
  k_with "tail:c_dfs" => (
  all_goals walk_at "fn:obj"
  all_goals rfl)
  all_goals (first | ((with_reducible guard_target = wpAny _ _ (execs (List.cons _ _) _) _ _ _); k_extra "run:c_dfs") | k_extra "tail:c_dfs")
theorem main' : zG zt := by with_unfolding_all exact main
theorem all (z : Dat) (y : Int) (m : Int) (d : Int) (h : Int) (mi : Int) (sc : Int) (r : List Nat) (tx0 : Tok) : G_dfs z y m d h mi sc r tx0 := haveI : Nonempty Dat := dat_some PySem.Challenge.rw_kl0450_03.row.prog; sk_all (G := zG) main' (z, y, m, d, h, mi, sc, r, tx0)
end D_dfs
theorem c_dfs (w : World) (y m d h mi sc : Int) (r : List Nat) (tx0 : Tok) (hr : r.length ≤ 900) (hy : 1 ≤ y ∧ y ≤ 9999) (hm : 1 ≤ m ∧ m ≤ 12) (hd : 0 ≤ d ∧ d < 100) (hh : 0 ≤ h ∧ h < 100) (hmi : 0 ≤ mi ∧ mi < 100) (hs : 0 ≤ sc ∧ sc < 100) (hok : dtOk y m d h mi sc) : Fn PySem.Challenge.rw_kl0450_03.row.prog w (Mine.Internal.hd.heap_1 w.params) 1 66 [] [.str (tx (stampL y m d h mi sc ++ r)) tx0, .bool false] (fun v new => ∃ D o, v = .ref D ∧ new = [(D, o)] ∧ o = dtObj y m d h mi sc) := by
  refine' Fn.of_B ?ho ?hb ?h ?hcd ?hl ?h0 ?h1 ?h2 ?h3 ?h4
  case ho => k_is
  case hb => exact fun _ => BindsTo.of_eq rfl
  case hcd => k_is
  case hl => exact locs rfl
  case h0 => decide
  case h1 => exact rfl
  case h2 => exact rfl
  case h3 => exact rfl
  case h4 => decide
  case h =>
    intro z hz
    subst hz
    exact Wrap.out (D_dfs.all z y m d h mi sc r tx0) hr hy hm hd hh hmi hs hok
theorem c_dfsM (w : World) (x : Int) (r : List Nat) (tx0 : Tok) (hr : r.length ≤ 900) (hx : Mo x) : Fn PySem.Challenge.rw_kl0450_03.row.prog w (Mine.Internal.hd.heap_1 w.params) 1 66 [] [.str (tx (stampM x ++ r)) tx0, .bool false] (fun v new => ∃ D o, v = .ref D ∧ new = [(D, o)] ∧ o = dtObj (fY x) (fM x) (fD x) (fH x) (fI x) (fS x)) :=
  have f := ff hx
  c_dfs w (fY x) (fM x) (fD x) (fH x) (fI x) (fS x) r tx0 hr (by have := f.hy; omega) f.hm (by have := f.hd; omega) (by have := f.hh; omega) (by have := f.hi; omega) (by have := f.hs; omega) ⟨⟨f.v.d1, f.v.d2⟩, f.hh.2, f.hi.2, f.hs.2⟩
end
end Mine.Internal

end
section
open PySem PySem.W PyProof.Rows PySem.Calls PySem.Spec
set_option Elab.async false
namespace Mine.Internal
section
set_option maxRecDepth 100000
set_option maxHeartbeats 8000000
theorem filled_Org3 : PySem.Challenge.rw_kl0450_03 = PySem.Challenge.rw_kl0450_03 ∧ ∀ P, Mine.Internal.hd.heap_1 P = Mine.Internal.hd.heap_1 P := by
  k_fill
  exact ⟨rfl, fun _ => rfl⟩
theorem words_Org3_03_0 : True := by
  k_with_none
  w_top off
  k_with "all" => (first
  | (with_reducible refine allNe_of_lt ?_; with_reducible assumption)
  | (with_reducible refine allNe_of_allLt ?_; with_reducible assumption)
  | (with_reducible refine AllNe.mem ?_; with_reducible assumption)
  | exact List.forall_mem_nil _
  | (refine' List.forall_mem_cons.mpr ⟨(by k_ne), (by k_all)⟩))
  k_with "ne" => ((refine neN ?_; (try dsimp only); first | (with_reducible refine NeA.out ?_; with_reducible assumption) | (with_reducible refine Ne.symm (NeA.out ?_); with_reducible assumption) | omega))
  k_with "body" => ((
  refine Wrap.mk ?_
  intro zzF' zzN' zzB' zzX' zzT' zzhk zzhd zzhu
  (try dsimp only)
  (try k_lift zzB')
  (try k_fold)))
  k_with "fn:args" => (exact SubL.mem (by k_subL))
  k_with "fn:end" => ((repeat (first | k_unfold | dsimp only)))
  k_with "idx" => (first | omega | (simp only [fm12]; omega) | (simp only [fd32, fd4, fd100, fd400, fd365, fd1461, fd36524, fd146097, fm365, fm1461, fm36524, fm146097, dbmT]; omega) | (rename ((_ : Int) < dbmT _ + _) => hx9; simp only [dbmT, fd32] at hx9 ⊢; omega))
  k_with "fn:int" => ((walk_at "fn:end"; k_dflt (refine' leaveF_int (by k_asm) (by k_asm) (by walk_at "fn:args") ?_)))
  k_with "fn:bool" => ((walk_at "fn:end"; k_dflt (refine' leaveF_bool (by k_asm) (by k_asm) (by walk_at "fn:args") ?_)))
  k_with "fn:str" => ((walk_at "fn:end"; k_dflt (refine' leaveF_str (by k_asm) (by k_asm) (by walk_at "fn:args") ?_)))
  k_with "fn:obj" => ((walk_at "fn:end"; k_dflt (refine' leaveF_obj (by k_asm) (by k_asm) (by walk_at "fn:args") (by k_mem) (by k_all) ?_)))
  k_with "ediv" => (simp only [fd4, fd5, fd7, fd12, fd60, fd100, fd400, fd365, fd1461, fd3600, fd36524, fd86400, fd146097, fm4, fm7, fm12, fm60, fm100, fm365, fm400, fm1461, fm36524, fm86400, fm146097] at *)
  k_with "fnC:obj" => ((walk_at "fn:end"; k_dflt (refine' leaveT_obj (by first | assumption | exact KtsTurn.refl) (by k_asm) (by k_asm) (by walk_at "fn:args") (by k_mem) (by k_all) ?_)))
  k_with "wpC" => (first
  | with_reducible refine wpC_cons ?_
  | with_reducible refine wpC_nil ?_)
  k_with "ite" => ((k_here; first
  | (k_closed; k_dflt (first | refine ite_pos (by decide) ?_ | refine ite_neg (by decide) ?_))
  | refine ite_pos (by with_reducible assumption) ?_
  | refine ite_neg (by with_reducible assumption) ?_
  | refine ite_isFalse (by with_reducible assumption) ?_
  | refine ite_pos (by k_dec) ?_
  | refine ite_neg (by k_dec) ?_))
  k_with "step" => (first | (k_unfold; (try dsimp only)) | (k_end; wrow_close) | ((with_reducible guard_target = wpAny _ _ (newTuple _) _ _ _); dsimp only; walk1) | walk1 | (dsimp only; walk1) | (leave1; try dsimp only))
  k_with "bodyT" => ((
  refine Wrap.mk ?_
  intro zzF' zzN' zzB' zzX' zzT' zzXB' zzTB' zzD' zzhk zzhd zzhu
  (try dsimp only)
  (try k_lift zzB')
  (try k_fold)))
  k_with "bodyC" => ((
  refine Wrap.mk ?_
  intro zzF' zzN' zzB' zzX' zzT' zzXB' zzTB' zzD' zzhk zzhd zzhu
  (try dsimp only)
  (try k_lift zzB')))
  k_with "hi" => (first | with_reducible exact hi_dgs _ | with_reducible exact hi_dg4 _ | with_reducible exact hi_dg2 _ | with_reducible exact hi_clk _ _ _ | with_reducible exact hi_mon (by assumption) | with_reducible exact hi_lmon (by assumption))
  k_with "len" => (first | with_reducible exact len_dgs _ | with_reducible exact len_dg4 _ | with_reducible exact len_dg2 _ | with_reducible exact len_clk _ _ _ | with_reducible exact len_mon (by assumption) | with_reducible exact len_lmon (by assumption) | with_reducible exact len_mail (by assumption))
  k_with "isc" => (first | with_reducible exact comma | with_reducible exact colon | with_reducible exact minus | with_reducible exact plus | rfl)
  k_with "txt" => (first
  | with_reducible exact find_col4 _
  | with_reducible exact ends_c (by walk_at "isc") (hi_no (by walk_at "hi") (by decide))
  | with_reducible exact find_c (by walk_at "isc") (hi_no (by walk_at "hi") (by decide))
  | with_reducible exact rfind_c (by walk_at "isc") (hi_no (by walk_at "hi") (by decide))
  | with_reducible exact lower_dgs _
  | with_reducible exact lower_mon (by assumption)
  | with_reducible exact isdigit_fig _)
  k_with "call builtin:str.split" => ((k_here; (with_reducible show wpAny _ _ (call (Value.builtin "str.split") [Value.str (tx _) _]) _ _ _); k_dflt (
  (refine KSpl.split0 (by k_asm) (by k_asm) ?_ (Nat.le_trans (Nat.add_le_add_right (mailT_len (by assumption)).1 2) (by rw [sizeLine_eq]; decide)))
  intro D' l' h' k' e' a' F' N' l1
  rw [words_mail (by assumption)] at e'
  (try k_lt l1)
  kspl_open e'
  simp only [strValues, List.map_cons, List.map_nil] at N' a'
  (try k_sweep)
  (try k_fold))))
  k_with "truthy str" => ((k_here; (with_reducible show wpAny _ _ (PySem.truthy (Value.str (tx _) _)) _ _ _); k_dflt (refine KXt.truthy_pos (tr_pos (by walk_at "len")) (tr_len (by walk_at "len")) (by decide) ?_; intro _; (try k_fold))))
  k_with "call builtin:str.endswith" => ((k_here; (with_reducible show wpAny _ _ (call (Value.builtin "str.endswith") [Value.str (tx _) _, Value.str _ _]) _ _ _); (refine SC.endswith ?_); (rw [ends_c (by walk_at "isc") (hi_no (by walk_at "hi") (by decide))]); (try k_fold)))
  k_with "call builtin:str.find" => ((k_here; (with_reducible show wpAny _ _ (call (Value.builtin "str.find") [Value.str (tx _) _, Value.str _ _]) _ _ _); (refine KXw.find (by walk_at "txt") ?_); intro _ _; (try k_fold)))
  k_with "call builtin:str.rfind" => ((k_here; (with_reducible show wpAny _ _ (call (Value.builtin "str.rfind") [Value.str (tx _) _, Value.str _ _]) _ _ _); (refine KXw.rfind (by walk_at "txt") ?_); intro _ _; (try k_fold)))
  k_with "call builtin:str.isdigit" => ((k_here; (with_reducible show wpAny _ _ (call (Value.builtin "str.isdigit") [Value.str (tx _) _]) _ _ _); (with_reducible refine KXw.isdigit (isdigit_fig _) ?_); (try k_fold)))
  k_with "call builtin:str.lower" => ((k_here; (with_reducible show wpAny _ _ (call (Value.builtin "str.lower") [Value.str (tx _) _]) _ _ _); (first | with_reducible refine KXw.lower (lower_dgs _) (fit_l (lower_dgs _) (len_dgs _)) ?_ | with_reducible refine KXw.lower (lower_mon (by assumption)) (fit_l (lower_mon (by assumption)) (len_lmon (by assumption))) ?_); intro _ _; (try k_fold)))
  k_with "tabin" => (first | with_reducible exact dgs_not (by decide) _ | with_reducible exact lmon_in (by assumption))
  k_with "compareOp In str ref" => ((k_here; (with_reducible show wpAny _ _ (compareOp CmpOp.In (Value.str (tx _) _) (Value.ref 127)) _ _ _); k_dflt (refine' in_strsK dyTab (by k_asm) (by k_asm) (by k_is) (by decide +kernel) (by walk_at "tabin") ?_; k_whole; (try k_fold))))
  k_with "compareOp NotIn str ref" => ((k_here; (with_reducible show wpAny _ _ (compareOp CmpOp.NotIn (Value.str (tx _) _) (Value.ref 126)) _ _ _); k_dflt (refine' notin_strsK mnTab (by k_asm) (by k_asm) (by k_is) (by decide +kernel) (by walk_at "tabin") ?_; k_whole; (try k_fold))))
  k_with "call builtin:list.index" => ((k_here; k_dflt (refine' index_strsK mnTab (by k_asm) (by k_asm) (by k_is) (by decide +kernel) (by exact lmon_idx (by assumption)) (by (simp only [mnTab, List.length_cons, List.length_nil]; omega)) (by decide) ?_; k_whole; (try k_fold))))
  k_with "call builtin:list.append" => ((k_here; (with_reducible show wpAny _ _ (call (Value.builtin "list.append") [Value.ref _, _]) _ _ _); k_dflt (refine' append_K (by k_asm) (by k_asm) (by k_upd) ?_ (by exact Nat.le_of_ble_eq_true rfl); k_whole); intro h' F' N'; (try k_sweep); (try k_fold)))
  k_with "exec Assign" => (((with_reducible show wpAny _ _ (exec (Stmt.Assign [Expr.List _ _] _ _) _) _ _ _); refine Assign_List ?_))
  k_with "getMethod ref" => ((k_here; (with_reducible show wpAny _ _ (getMethod (Value.ref 126) (PySem.Str.ofString "index") _) _ _ _); k_dflt (refine' index_method (by k_asm) (by k_asm) (by k_is) ?_; k_whole)))
  k_with "lastc" => (first | with_reducible exact dgs_getLast _ | with_reducible exact dg4_last _ | with_reducible exact clk_last _ _ _ | with_reducible exact dg2_last _)
  k_with "headc" => (first | with_reducible exact dg4_head _ | with_reducible exact dg2_head _)
  k_with "subscriptTail Name UnaryOp str int" => ((k_here; (with_reducible show wpAny _ _ (subscriptTail _ _ (Value.str (tx _) _) (Value.int (-1) _)) _ _ _); k_dflt (refine' item_last_tx (by walk_at "lastc") (by exact len1000 (by walk_at "len")) ?_ (by with_unfolding_all rfl) (by intro _; with_unfolding_all rfl); k_whole; intro t9; (try k_fold))))
  k_with "subscriptTail Name Constant str int" => ((k_here; (with_reducible show wpAny _ _ (subscriptTail _ _ (Value.str (tx _) _) (Value.int 0 _)) _ _ _); k_dflt (refine' item_first_tx (by walk_at "headc") (by exact len1000 (by walk_at "len")) ?_ (by with_unfolding_all rfl) (by intro _; with_unfolding_all rfl); k_whole; intro t9; (try k_fold))))
  k_with "txteq" => (first | (refine' fig_ne (by walk_at "isc") (by decide)))
  k_with "compareOp Eq str str" => ((k_here; (with_reducible show wpAny _ _ (compareOp CmpOp.Eq (Value.str (tx _) _) (Value.str _ _)) _ _ _); k_dflt (refine' eq_tx (by walk_at "txteq") ?_; k_whole; (try k_fold))))
  k_with "call builtin:str.split" => ((k_here; (with_reducible show wpAny _ _ (call (Value.builtin "str.split") [Value.str (tx _) _, Value.str _ _]) _ _ _); k_dflt (
  (refine KSpl.split1 (by k_asm) (by k_asm) (by decide) ?_ (fits_l (len1000 (by walk_at "len"))))
  intro D' l' h' k' e' a' F' N' l1
  rw [split_clk2] at e'
  (try k_lt l1)
  kspl_open e'
  simp only [strValues, List.map_cons, List.map_nil] at N' a'
  (try k_sweep)
  (try k_fold))))
  k_with "val" => (first | with_reducible exact val_dg2 (by omega) (by omega) | with_reducible exact val_dg4 (by omega) (by omega) | with_reducible exact val_dgs (by omega) (by omega))
  k_with "call type:int" => ((k_here; (with_reducible show wpAny _ _ (call (Value.type "int") [Value.str (tx _) _]) _ _ _); k_dflt (refine KIN.call_text (by walk_at "val") (Nat.le_trans (len1000' (by walk_at "len")) (by decide)) ?_; (try k_fold))))
  k_with "getMethod ref" => ((k_here; (with_reducible show wpAny _ _ (getMethod (Value.ref 59) (PySem.Str.ofString "match") _) _ _ _); k_dflt (refine' match_method (by k_asm) (by k_asm) (by exact patk _) ?_; k_whole)))
  k_with "call builtin:re.Pattern.match" => ((k_here; k_dflt (refine' match1_call' (by k_asm) (by k_asm) (by k_asm) (by exact patk _) ?_; k_whole); intro tt' D' h' F' N' l1 l2; (try k_lt l1); (try k_sweep); (try k_fold)))
  k_with "getMethod ref" => ((k_here; (with_reducible show wpAny _ _ (getMethod (Value.ref _) (PySem.Str.ofString "groupdict") _) _ _ _); k_dflt (refine' groupdict1_method (by k_asm) (by k_mem) ?_; k_whole)))
  k_with "call builtin:re.Match.groupdict" => ((k_here; k_dflt (refine' groupdict1_call (by k_asm) (by k_asm) (by k_asm) (by exact patk _) (by k_mem) (by k_mem) ?_; k_whole); intro D' o' h' tk' t1' t2' t3' F' N' l1 l2 hd'; (try k_lt l1); (try k_sweep); (try k_fold)))
  k_with "call type:datetime.datetime" => ((k_here; k_dflt (refine' dt_3K (by k_asm) (by k_asm) ?_; k_whole); intro D' h' F' N' l1; (try k_lt l1); (try k_sweep); (try k_fold)))
  k_with "callWith type:datetime.datetime nil nil" => ((k_here; (with_reducible show wpAny _ _ (callWith _ (Value.type _) [] (backTo _ (starEach [Expr.Starred _ _] _)) []) _ _ _); k_dflt (refine' callWith_T ?_; k_whole)))
  k_with "pyIter ref" => ((k_here; (with_reducible show wpAny _ _ (pyIter (Value.ref _)) (fun it s₂ => LoopAtV _ _ _ _ _ _ _ _ _ it s₂) _ _); k_listUnr))
  trivial
noncomputable def G_dfs0 (z : Dat) (tx0 : Tok) : Prop := Wrap (FnB z PySem.Challenge.rw_kl0450_03.row.prog (Mine.Internal.hd.heap_1 z.w.params) 1 66 [] [.str (PySem.Str.ofString "0001-01-01Z") tx0, .bool false] (fun v new => ∃ D o, v = .ref D ∧ new = [(D, o)] ∧ o = dtObj 1 1 1 0 0 0) (by k_is) (by exact BindsTo.of_eq rfl))
namespace D_dfs0
noncomputable def zG (zt : Dat × Tok) : Prop := G_dfs0 (zt.1) (zt.2)
noncomputable def zt : Dat × Tok := haveI : Nonempty Dat := dat_some PySem.Challenge.rw_kl0450_03.row.prog; sk zG
@[irreducible] noncomputable def z : Dat := zt.1
@[irreducible] noncomputable def tx0 : Tok := zt.2
theorem main : G_dfs0 z tx0 := by
  refine Wrap.mk ?_
  walk_at "body"
  k_with "run:c_dfs0" => (
    (try dsimp +zetaDelta only)
    as_aux_lemma =>
      walk_at "step"
      all_goals (repeat' ((fail_if_success (with_reducible guard_target = wpAny _ _ (execs (List.cons _ _) _) _ _ _)); walk_at "step"))
      all_goals (first | ((with_reducible guard_target = wpAny _ _ (execs (List.cons _ _) _) _ _ _); k_extra "run:c_dfs0") | k_extra "tail:c_dfs0"))
  k_with "tail:c_dfs0" => (
  all_goals walk_at "fn:obj"
  all_goals rfl)
  all_goals (first | ((with_reducible guard_target = wpAny _ _ (execs (List.cons _ _) _) _ _ _); k_extra "run:c_dfs0") | k_extra "tail:c_dfs0")
theorem main' : zG zt := by with_unfolding_all exact main
theorem all (z : Dat) (tx0 : Tok) : G_dfs0 z tx0 := haveI : Nonempty Dat := dat_some PySem.Challenge.rw_kl0450_03.row.prog; sk_all (G := zG) main' (z, tx0)
end D_dfs0
theorem c_dfs0 (w : World) (tx0 : Tok) : Fn PySem.Challenge.rw_kl0450_03.row.prog w (Mine.Internal.hd.heap_1 w.params) 1 66 [] [.str (PySem.Str.ofString "0001-01-01Z") tx0, .bool false] (fun v new => ∃ D o, v = .ref D ∧ new = [(D, o)] ∧ o = dtObj 1 1 1 0 0 0) := by
  refine' Fn.of_B ?ho ?hb ?h ?hcd ?hl ?h0 ?h1 ?h2 ?h3 ?h4
  case ho => k_is
  case hb => exact fun _ => BindsTo.of_eq rfl
  case hcd => k_is
  case hl => exact locs rfl
  case h0 => decide
  case h1 => exact rfl
  case h2 => exact rfl
  case h3 => exact rfl
  case h4 => decide
  case h =>
    intro z hz
    subst hz
    exact Wrap.out (D_dfs0.all z tx0) 
end
end Mine.Internal

end
section
open PySem PySem.W PyProof.Rows PySem.Calls PySem.Spec
set_option Elab.async false
namespace Mine.Internal
section
set_option maxRecDepth 100000
set_option maxHeartbeats 8000000
theorem filled_DtsC : PySem.Challenge.rw_kl0450_03 = PySem.Challenge.rw_kl0450_03 ∧ ∀ P, Mine.Internal.hd.heap_1 P = Mine.Internal.hd.heap_1 P := by
  k_fill
  exact ⟨rfl, fun _ => rfl⟩
theorem words_DtsC_03_0 : True := by
  k_with_none
  w_top off
  k_with "all" => (first
  | (with_reducible refine allNe_of_lt ?_; with_reducible assumption)
  | (with_reducible refine allNe_of_allLt ?_; with_reducible assumption)
  | (with_reducible refine AllNe.mem ?_; with_reducible assumption)
  | exact List.forall_mem_nil _
  | (refine' List.forall_mem_cons.mpr ⟨(by k_ne), (by k_all)⟩))
  k_with "ne" => ((refine neN ?_; (try dsimp only); first | (with_reducible refine NeA.out ?_; with_reducible assumption) | (with_reducible refine Ne.symm (NeA.out ?_); with_reducible assumption) | omega))
  k_with "body" => ((
  refine Wrap.mk ?_
  intro zzF' zzN' zzB' zzX' zzT' zzhk zzhd zzhu
  (try dsimp only)
  (try k_lift zzB')
  (try k_fold)))
  k_with "fn:args" => (exact SubL.mem (by k_subL))
  k_with "fn:end" => ((repeat (first | k_unfold | dsimp only)))
  k_with "idx" => (first | omega | (simp only [fm12]; omega) | (simp only [fd32, fd4, fd100, fd400, fd365, fd1461, fd36524, fd146097, fm365, fm1461, fm36524, fm146097, dbmT]; omega) | (rename ((_ : Int) < dbmT _ + _) => hx9; simp only [dbmT, fd32] at hx9 ⊢; omega))
  k_with "fn:int" => ((walk_at "fn:end"; k_dflt (refine' leaveF_int (by k_asm) (by k_asm) (by walk_at "fn:args") ?_)))
  k_with "fn:bool" => ((walk_at "fn:end"; k_dflt (refine' leaveF_bool (by k_asm) (by k_asm) (by walk_at "fn:args") ?_)))
  k_with "fn:str" => ((walk_at "fn:end"; k_dflt (refine' leaveF_str (by k_asm) (by k_asm) (by walk_at "fn:args") ?_)))
  k_with "fn:obj" => ((walk_at "fn:end"; k_dflt (refine' leaveF_obj (by k_asm) (by k_asm) (by walk_at "fn:args") (by k_mem) (by k_all) ?_)))
  k_with "ediv" => (simp only [fd4, fd5, fd7, fd12, fd60, fd100, fd400, fd365, fd1461, fd3600, fd36524, fd86400, fd146097, fm4, fm7, fm12, fm60, fm100, fm365, fm400, fm1461, fm36524, fm86400, fm146097] at *)
  k_with "fnC:obj" => ((walk_at "fn:end"; k_dflt (refine' leaveT_obj (by first | assumption | exact KtsTurn.refl) (by k_asm) (by k_asm) (by walk_at "fn:args") (by k_mem) (by k_all) ?_)))
  k_with "wpC" => (first
  | with_reducible refine wpC_cons ?_
  | with_reducible refine wpC_nil ?_)
  k_with "ite" => ((k_here; first
  | (k_closed; k_dflt (first | refine ite_pos (by decide) ?_ | refine ite_neg (by decide) ?_))
  | refine ite_pos (by with_reducible assumption) ?_
  | refine ite_neg (by with_reducible assumption) ?_
  | refine ite_isFalse (by with_reducible assumption) ?_
  | refine ite_pos (by k_dec) ?_
  | refine ite_neg (by k_dec) ?_))
  k_with "step" => (first | (k_unfold; (try dsimp only)) | (k_end; wrow_close) | ((with_reducible guard_target = wpAny _ _ (newTuple _) _ _ _); dsimp only; walk1) | walk1 | (dsimp only; walk1) | (leave1; try dsimp only))
  k_with "bodyT" => ((
  refine Wrap.mk ?_
  intro zzF' zzN' zzB' zzX' zzT' zzXB' zzTB' zzD' zzhk zzhd zzhu
  (try dsimp only)
  (try k_lift zzB')
  (try k_fold)))
  k_with "bodyC" => ((
  refine Wrap.mk ?_
  intro zzF' zzN' zzB' zzX' zzT' zzXB' zzTB' zzD' zzhk zzhd zzhu
  (try dsimp only)
  (try k_lift zzB')))
  k_with "getAttr ref" => ((k_here; (with_reducible show wpAny _ _ (getAttr (Value.ref _) (PySem.Str.ofString "year") _) _ _ _); k_dflt (refine' attrK_year (by k_asm) (by k_mem) ?_; k_whole); intro t9 k9; (try k_fold)))
  k_with "getAttr ref" => ((k_here; (with_reducible show wpAny _ _ (getAttr (Value.ref _) (PySem.Str.ofString "month") _) _ _ _); k_dflt (refine' attrK_month (by k_asm) (by k_mem) ?_; k_whole); intro t9 k9; (try k_fold)))
  k_with "getAttr ref" => ((k_here; (with_reducible show wpAny _ _ (getAttr (Value.ref _) (PySem.Str.ofString "day") _) _ _ _); k_dflt (refine' attrK_day (by k_asm) (by k_mem) ?_; k_whole); intro t9 k9; (try k_fold)))
  k_with "getAttr ref" => ((k_here; (with_reducible show wpAny _ _ (getAttr (Value.ref _) (PySem.Str.ofString "hour") _) _ _ _); k_dflt (refine' attrK_hour (by k_asm) (by k_mem) ?_; k_whole); intro t9 k9; (try k_fold)))
  k_with "getAttr ref" => ((k_here; (with_reducible show wpAny _ _ (getAttr (Value.ref _) (PySem.Str.ofString "minute") _) _ _ _); k_dflt (refine' attrK_minute (by k_asm) (by k_mem) ?_; k_whole); intro t9 k9; (try k_fold)))
  k_with "getAttr ref" => ((k_here; (with_reducible show wpAny _ _ (getAttr (Value.ref _) (PySem.Str.ofString "second") _) _ _ _); k_dflt (refine' attrK_second (by k_asm) (by k_mem) ?_; k_whole); intro t9 k9; (try k_fold)))
  k_with "getAttr ref" => ((k_here; (with_reducible show wpAny _ _ (getAttr (Value.ref _) (PySem.Str.ofString "microsecond") _) _ _ _); k_dflt (refine' attrK_microsecond (by k_asm) (by k_mem) ?_; k_whole); intro t9 k9; (try k_fold)))
  k_with "getAttr ref" => ((k_here; (with_reducible show wpAny _ _ (getAttr (Value.ref _) (PySem.Str.ofString "tzinfo") _) _ _ _); k_dflt (refine' attrK_tzinfo (by k_asm) (by k_mem) ?_; k_whole); intro t9 k9; (try k_fold)))
  k_with "binaryOp Mod str ref" => ((k_here; (with_reducible show wpAny _ _ (binaryOp Operator.Mod (Value.str _ _) (Value.ref _)) _ _ _); k_dflt (refine' KPt.mod_tuple (by k_asm) (by k_mem) ?_ (by exact fmt_stamp _ _ _ _ _ _ _ _ _ _ _ _ _ _ (by omega) (by omega) (by omega) (by omega) (by omega) (by omega) (by omega) (by omega) (by omega) (by omega) (by omega) (by omega)) ?_; (decide +kernel)); intro t9 k9; (try k_fold)))
  trivial
noncomputable def G_dts (z : Dat) (y : Int) (m : Int) (d : Int) (h : Int) (mi : Int) (sc : Int) (a0 : Addr) : Prop := Wrap ((0 ≤ y ∧ y < 10000) → (0 ≤ m ∧ m < 100) → (0 ≤ d ∧ d < 100) → (0 ≤ h ∧ h < 100) → (0 ≤ mi ∧ mi < 100) → (0 ≤ sc ∧ sc < 100) → FnB z PySem.Challenge.rw_kl0450_03.row.prog (Mine.Internal.hd.heap_1 z.w.params) 1 73 [(a0, dtObj y m d h mi sc)] [.ref a0, .bool false] (fun v new => new = [] ∧ ∃ t : Tok, v = .str (tx (stampL y m d h mi sc)) t) (by k_is) (by exact BindsTo.of_eq rfl))
namespace D_dts
noncomputable def zG (zt : Dat × Int × Int × Int × Int × Int × Int × Addr) : Prop := G_dts (zt.1) (zt.2.1) (zt.2.2.1) (zt.2.2.2.1) (zt.2.2.2.2.1) (zt.2.2.2.2.2.1) (zt.2.2.2.2.2.2.1) (zt.2.2.2.2.2.2.2)
noncomputable def zt : Dat × Int × Int × Int × Int × Int × Int × Addr := haveI : Nonempty Dat := dat_some PySem.Challenge.rw_kl0450_03.row.prog; sk zG
@[irreducible] noncomputable def z : Dat := zt.1
@[irreducible] noncomputable def y : Int := zt.2.1
@[irreducible] noncomputable def m : Int := zt.2.2.1
@[irreducible] noncomputable def d : Int := zt.2.2.2.1
@[irreducible] noncomputable def h : Int := zt.2.2.2.2.1
@[irreducible] noncomputable def mi : Int := zt.2.2.2.2.2.1
@[irreducible] noncomputable def sc : Int := zt.2.2.2.2.2.2.1
@[irreducible] noncomputable def a0 : Addr := zt.2.2.2.2.2.2.2
theorem main : G_dts z y m d h mi sc a0 := by
  refine Wrap.mk ?_
  intro hy hm hd hh hmi hs
  walk_at "body"
  k_with "run:c_dts" => (
    (try dsimp +zetaDelta only)
    as_aux_lemma =>
      walk_at "step"
      all_goals (repeat' ((fail_if_success (with_reducible guard_target = wpAny _ _ (execs (List.cons _ _) _) _ _ _)); walk_at "step"))
      all_goals (first | ((with_reducible guard_target = wpAny _ _ (execs (List.cons _ _) _) _ _ _); k_extra "run:c_dts") | k_extra "tail:c_dts"))
  k_with "tail:c_dts" => (
  all_goals walk_at "fn:str"
  all_goals rfl)
  all_goals (first | ((with_reducible guard_target = wpAny _ _ (execs (List.cons _ _) _) _ _ _); k_extra "run:c_dts") | k_extra "tail:c_dts")
theorem main' : zG zt := by with_unfolding_all exact main
theorem all (z : Dat) (y : Int) (m : Int) (d : Int) (h : Int) (mi : Int) (sc : Int) (a0 : Addr) : G_dts z y m d h mi sc a0 := haveI : Nonempty Dat := dat_some PySem.Challenge.rw_kl0450_03.row.prog; sk_all (G := zG) main' (z, y, m, d, h, mi, sc, a0)
end D_dts
theorem c_dts (w : World) (y m d h mi sc : Int) (a0 : Addr) (hy : 0 ≤ y ∧ y < 10000) (hm : 0 ≤ m ∧ m < 100) (hd : 0 ≤ d ∧ d < 100) (hh : 0 ≤ h ∧ h < 100) (hmi : 0 ≤ mi ∧ mi < 100) (hs : 0 ≤ sc ∧ sc < 100) : Fn PySem.Challenge.rw_kl0450_03.row.prog w (Mine.Internal.hd.heap_1 w.params) 1 73 [(a0, dtObj y m d h mi sc)] [.ref a0, .bool false] (fun v new => new = [] ∧ ∃ t : Tok, v = .str (tx (stampL y m d h mi sc)) t) := by
  refine' Fn.of_B ?ho ?hb ?h ?hcd ?hl ?h0 ?h1 ?h2 ?h3 ?h4
  case ho => k_is
  case hb => exact fun _ => BindsTo.of_eq rfl
  case hcd => k_is
  case hl => exact locs rfl
  case h0 => decide
  case h1 => exact rfl
  case h2 => exact rfl
  case h3 => exact rfl
  case h4 => decide
  case h =>
    intro z hz
    subst hz
    exact Wrap.out (D_dts.all z y m d h mi sc a0) hy hm hd hh hmi hs
end
end Mine.Internal

end
section
open PySem PySem.W PyProof.Rows PySem.Calls PySem.Spec
set_option Elab.async false
namespace Mine.Internal
section
set_option maxRecDepth 100000
set_option maxHeartbeats 8000000
theorem filled_RefC : PySem.Challenge.rw_kl0450_03 = PySem.Challenge.rw_kl0450_03 ∧ ∀ P, Mine.Internal.hd.heap_1 P = Mine.Internal.hd.heap_1 P := by
  k_fill
  exact ⟨rfl, fun _ => rfl⟩
theorem words_RefC_03_0 : True := by
  k_with_none
  w_top off
  k_with "all" => (first
  | (with_reducible refine allNe_of_lt ?_; with_reducible assumption)
  | (with_reducible refine allNe_of_allLt ?_; with_reducible assumption)
  | (with_reducible refine AllNe.mem ?_; with_reducible assumption)
  | exact List.forall_mem_nil _
  | (refine' List.forall_mem_cons.mpr ⟨(by k_ne), (by k_all)⟩))
  k_with "ne" => ((refine neN ?_; (try dsimp only); first | (with_reducible refine NeA.out ?_; with_reducible assumption) | (with_reducible refine Ne.symm (NeA.out ?_); with_reducible assumption) | omega))
  k_with "body" => ((
  refine Wrap.mk ?_
  intro zzF' zzN' zzB' zzX' zzT' zzhk zzhd zzhu
  (try dsimp only)
  (try k_lift zzB')
  (try k_fold)))
  k_with "fn:args" => (exact SubL.mem (by k_subL))
  k_with "fn:end" => ((repeat (first | k_unfold | dsimp only)))
  k_with "idx" => (first | omega | (simp only [fm12]; omega) | (simp only [fd32, fd4, fd100, fd400, fd365, fd1461, fd36524, fd146097, fm365, fm1461, fm36524, fm146097, dbmT]; omega) | (rename ((_ : Int) < dbmT _ + _) => hx9; simp only [dbmT, fd32] at hx9 ⊢; omega))
  k_with "fn:int" => ((walk_at "fn:end"; k_dflt (refine' leaveF_int (by k_asm) (by k_asm) (by walk_at "fn:args") ?_)))
  k_with "fn:bool" => ((walk_at "fn:end"; k_dflt (refine' leaveF_bool (by k_asm) (by k_asm) (by walk_at "fn:args") ?_)))
  k_with "fn:str" => ((walk_at "fn:end"; k_dflt (refine' leaveF_str (by k_asm) (by k_asm) (by walk_at "fn:args") ?_)))
  k_with "fn:obj" => ((walk_at "fn:end"; k_dflt (refine' leaveF_obj (by k_asm) (by k_asm) (by walk_at "fn:args") (by k_mem) (by k_all) ?_)))
  k_with "ediv" => (simp only [fd4, fd5, fd7, fd12, fd60, fd100, fd400, fd365, fd1461, fd3600, fd36524, fd86400, fd146097, fm4, fm7, fm12, fm60, fm100, fm365, fm400, fm1461, fm36524, fm86400, fm146097] at *)
  k_with "fnC:obj" => ((walk_at "fn:end"; k_dflt (refine' leaveT_obj (by first | assumption | exact KtsTurn.refl) (by k_asm) (by k_asm) (by walk_at "fn:args") (by k_mem) (by k_all) ?_)))
  k_with "wpC" => (first
  | with_reducible refine wpC_cons ?_
  | with_reducible refine wpC_nil ?_)
  k_with "ite" => ((k_here; first
  | (k_closed; k_dflt (first | refine ite_pos (by decide) ?_ | refine ite_neg (by decide) ?_))
  | refine ite_pos (by with_reducible assumption) ?_
  | refine ite_neg (by with_reducible assumption) ?_
  | refine ite_isFalse (by with_reducible assumption) ?_
  | refine ite_pos (by k_dec) ?_
  | refine ite_neg (by k_dec) ?_))
  k_with "step" => (first | (k_unfold; (try dsimp only)) | (k_end; wrow_close) | ((with_reducible guard_target = wpAny _ _ (newTuple _) _ _ _); dsimp only; walk1) | walk1 | (dsimp only; walk1) | (leave1; try dsimp only))
  k_with "bodyT" => ((
  refine Wrap.mk ?_
  intro zzF' zzN' zzB' zzX' zzT' zzXB' zzTB' zzD' zzhk zzhd zzhu
  (try dsimp only)
  (try k_lift zzB')
  (try k_fold)))
  k_with "bodyC" => ((
  refine Wrap.mk ?_
  intro zzF' zzN' zzB' zzX' zzT' zzXB' zzTB' zzD' zzhk zzhd zzhu
  (try dsimp only)
  (try k_lift zzB')))
  k_with "getMethod ref" => ((k_here; (with_reducible show wpAny _ _ (getMethod (Value.ref 59) (PySem.Str.ofString "match") _) _ _ _); k_dflt (refine' match_method (by k_asm) (by k_asm) (by exact patk _) ?_; k_whole)))
  k_with "call builtin:re.Pattern.match" => ((k_here; k_dflt (refine' noMatch_call (by k_asm) (by k_asm) (by exact patk _) (by assumption) ?_); (try k_sweep); (try k_fold)))
  k_with "getMethod none" => ((k_here; (with_reducible show wpAny _ _ (getMethod Value.none (PySem.Str.ofString "groupdict") _) _ _ _); k_dflt (refine getMethod_none rfl ?_); intro h9 tk9 e9 x9; (try dsimp only)))
  k_with "leaving ref" => ((k_here; (with_reducible rename KtsDicts _ _ => kdX); (refine' leave_ofS (by assumption) (by assumption) (by assumption) (by k_asm) ?_; k_whole; intro h' S' R' U'; (try dsimp only at S' R' U' ⊢))))
  k_with "noteFrame ref" => ((k_here; (rename RaisedSN _ _ _ _ _ _ _ => rsX); k_dflt (refine' caught_SN0 (T' := "AttributeError") (by assumption) (by assumption) (by assumption) (by assumption) (by assumption) (by assumption) (by assumption) (by first | assumption | exact KtsTurn.refl) (by k_is) boot_Attr (by decide) isExc_Attr notTuple_Attr (by kts_sub) ?_; k_whole); intro h' g' T' F' N' K' X' P' D'; (try k_lift K'); (try k_sweep)))
  k_with "fnT:val" => ((walk_at "fn:end"; k_dflt (refine' leaveT_val (by first | assumption | exact KtsTurn.refl) (by k_asm) (by k_asm) (by walk_at "fn:args"))))
  k_with "call ref" => ((k_here; (with_reducible show wpAny _ _ (call (Value.ref 66) _) _ _ _); k_dflt (refine wpAny_call ?_; refine' code_defS (by k_asm) (by k_asm) (by k_asm) (by k_asm) (by k_asm) (by assumption) (by assumption) (by assumption) (by first | assumption | exact KtsTurn.refl) (by exact rfl) (by k_is) (by k_is) (by ktr_room) (by first | exact binds_K (by k_in) rfl (by k_is) rfl rfl rfl | exact BindsTo.of_eq rfl) (by exact locs rfl) ?_ (by exact rfl) (by exact rfl) (by exact rfl) (by exact rfl) (by decide); k_whole; intro g' L' h' FG' F' N' B' X' T' D'; (try dsimp only); (try k_lift B'); (try k_fold))))
  trivial
noncomputable def G_ref (z : Dat) (l : List Nat) (tx0 : Tok) : Prop := Wrap ((Refused l) → FnTB z PySem.Challenge.rw_kl0450_03.row.prog (Mine.Internal.hd.heap_1 z.w.params) 2 191 [] [.str (tx l) tx0] (fun u new => new = [] ∧ u = .bool true) (by k_is) (by exact BindsTo.of_eq rfl))
namespace D_ref
noncomputable def zG (zt : Dat × List Nat × Tok) : Prop := G_ref (zt.1) (zt.2.1) (zt.2.2)
noncomputable def zt : Dat × List Nat × Tok := haveI : Nonempty Dat := dat_some PySem.Challenge.rw_kl0450_03.row.prog; sk zG
@[irreducible] noncomputable def z : Dat := zt.1
@[irreducible] noncomputable def l : List Nat := zt.2.1
@[irreducible] noncomputable def tx0 : Tok := zt.2.2
theorem main : G_ref z l tx0 := by
  refine Wrap.mk ?_
  intro hl
  walk_at "bodyT"
  k_with "run:c_ref" => (
    (try dsimp +zetaDelta only)
    as_aux_lemma =>
      walk_at "step"
      all_goals (repeat' ((fail_if_success (with_reducible guard_target = wpAny _ _ (execs (List.cons _ _) _) _ _ _)); walk_at "step"))
      all_goals (first | ((with_reducible guard_target = wpAny _ _ (execs (List.cons _ _) _) _ _ _); k_extra "run:c_ref") | k_extra "tail:c_ref"))
  k_with "tail:c_ref" => (
  all_goals walk_at "fnT:val")
  all_goals (first | ((with_reducible guard_target = wpAny _ _ (execs (List.cons _ _) _) _ _ _); k_extra "run:c_ref") | k_extra "tail:c_ref")
theorem main' : zG zt := by with_unfolding_all exact main
theorem all (z : Dat) (l : List Nat) (tx0 : Tok) : G_ref z l tx0 := haveI : Nonempty Dat := dat_some PySem.Challenge.rw_kl0450_03.row.prog; sk_all (G := zG) main' (z, l, tx0)
end D_ref
theorem c_ref (w : World) (l : List Nat) (tx0 : Tok) (hl : Refused l) : FnT PySem.Challenge.rw_kl0450_03.row.prog w (Mine.Internal.hd.heap_1 w.params) 2 191 [] [.str (tx l) tx0] (fun u new => new = [] ∧ u = .bool true) := by
  refine' FnT.of_B ?ho ?hb ?h ?hcd ?hl ?h0 ?h1 ?h2 ?h3 ?h4
  case ho => k_is
  case hb => exact fun _ => BindsTo.of_eq rfl
  case hcd => k_is
  case hl => exact locs rfl
  case h0 => decide
  case h1 => exact rfl
  case h2 => exact rfl
  case h3 => exact rfl
  case h4 => decide
  case h =>
    intro z hz
    subst hz
    exact Wrap.out (D_ref.all z l tx0) hl
end
end Mine.Internal

end
section
open PySem PySem.W PyProof.Rows PySem.Calls PySem.Spec
set_option Elab.async false
namespace Mine.Internal
section
set_option maxRecDepth 100000
set_option maxHeartbeats 8000000
theorem filled_Pt3 : PySem.Challenge.rw_kl0450_03 = PySem.Challenge.rw_kl0450_03 ∧ ∀ P, Mine.Internal.hd.heap_1 P = Mine.Internal.hd.heap_1 P := by
  k_fill
  exact ⟨rfl, fun _ => rfl⟩
theorem words_Pt3_03_0 : True := by
  k_with_none
  w_top off
  k_with "all" => (first
  | (with_reducible refine allNe_of_lt ?_; with_reducible assumption)
  | (with_reducible refine allNe_of_allLt ?_; with_reducible assumption)
  | (with_reducible refine AllNe.mem ?_; with_reducible assumption)
  | exact List.forall_mem_nil _
  | (refine' List.forall_mem_cons.mpr ⟨(by k_ne), (by k_all)⟩))
  k_with "ne" => ((refine neN ?_; (try dsimp only); first | (with_reducible refine NeA.out ?_; with_reducible assumption) | (with_reducible refine Ne.symm (NeA.out ?_); with_reducible assumption) | omega))
  k_with "body" => ((
  refine Wrap.mk ?_
  intro zzF' zzN' zzB' zzX' zzT' zzhk zzhd zzhu
  (try dsimp only)
  (try k_lift zzB')
  (try k_fold)))
  k_with "fn:args" => (exact SubL.mem (by k_subL))
  k_with "fn:end" => ((repeat (first | k_unfold | dsimp only)))
  k_with "idx" => (first | omega | (simp only [fm12]; omega) | (simp only [fd32, fd4, fd100, fd400, fd365, fd1461, fd36524, fd146097, fm365, fm1461, fm36524, fm146097, dbmT]; omega) | (rename ((_ : Int) < dbmT _ + _) => hx9; simp only [dbmT, fd32] at hx9 ⊢; omega))
  k_with "fn:int" => ((walk_at "fn:end"; k_dflt (refine' leaveF_int (by k_asm) (by k_asm) (by walk_at "fn:args") ?_)))
  k_with "fn:bool" => ((walk_at "fn:end"; k_dflt (refine' leaveF_bool (by k_asm) (by k_asm) (by walk_at "fn:args") ?_)))
  k_with "fn:str" => ((walk_at "fn:end"; k_dflt (refine' leaveF_str (by k_asm) (by k_asm) (by walk_at "fn:args") ?_)))
  k_with "fn:obj" => ((walk_at "fn:end"; k_dflt (refine' leaveF_obj (by k_asm) (by k_asm) (by walk_at "fn:args") (by k_mem) (by k_all) ?_)))
  k_with "ediv" => (simp only [fd4, fd5, fd7, fd12, fd60, fd100, fd400, fd365, fd1461, fd3600, fd36524, fd86400, fd146097, fm4, fm7, fm12, fm60, fm100, fm365, fm400, fm1461, fm36524, fm86400, fm146097] at *)
  k_with "fnC:obj" => ((walk_at "fn:end"; k_dflt (refine' leaveT_obj (by first | assumption | exact KtsTurn.refl) (by k_asm) (by k_asm) (by walk_at "fn:args") (by k_mem) (by k_all) ?_)))
  k_with "wpC" => (first
  | with_reducible refine wpC_cons ?_
  | with_reducible refine wpC_nil ?_)
  k_with "ite" => ((k_here; first
  | (k_closed; k_dflt (first | refine ite_pos (by decide) ?_ | refine ite_neg (by decide) ?_))
  | refine ite_pos (by with_reducible assumption) ?_
  | refine ite_neg (by with_reducible assumption) ?_
  | refine ite_isFalse (by with_reducible assumption) ?_
  | refine ite_pos (by k_dec) ?_
  | refine ite_neg (by k_dec) ?_))
  k_with "step" => (first | (k_unfold; (try dsimp only)) | (k_end; wrow_close) | ((with_reducible guard_target = wpAny _ _ (newTuple _) _ _ _); dsimp only; walk1) | walk1 | (dsimp only; walk1) | (leave1; try dsimp only))
  k_with "bodyT" => ((
  refine Wrap.mk ?_
  intro zzF' zzN' zzB' zzX' zzT' zzXB' zzTB' zzD' zzhk zzhd zzhu
  (try dsimp only)
  (try k_lift zzB')
  (try k_fold)))
  k_with "bodyC" => ((
  refine Wrap.mk ?_
  intro zzF' zzN' zzB' zzX' zzT' zzXB' zzTB' zzD' zzhk zzhd zzhu
  (try dsimp only)
  (try k_lift zzB')))
  trivial
theorem tzk (w : World) : TzK w (Mine.Internal.hd.heap_1 w.params) 128 := ⟨[(788, 789), (790, 791), (792, 793), (794, 795), (796, 798), (799, 801), (802, 804), (805, 807), (808, 810), (811, 813), (814, 816), (817, 819), (820, 822), (823, 825)], 14, rfl, by kernel_rfl⟩
theorem words_Pt3_03_1 : True := by
  k_with "hi" => (first | with_reducible exact hi_dgs _ | with_reducible exact hi_dg4 _ | with_reducible exact hi_dg2 _ | with_reducible exact hi_clk _ _ _ | with_reducible exact hi_mon (by assumption) | with_reducible exact hi_lmon (by assumption))
  k_with "len" => (first | with_reducible exact len_dgs _ | with_reducible exact len_dg4 _ | with_reducible exact len_dg2 _ | with_reducible exact len_clk _ _ _ | with_reducible exact len_mon (by assumption) | with_reducible exact len_lmon (by assumption) | with_reducible exact len_mail (by assumption))
  k_with "isc" => (first | with_reducible exact comma | with_reducible exact colon | with_reducible exact minus | with_reducible exact plus | rfl)
  k_with "txt" => (first
  | with_reducible exact find_col4 _
  | with_reducible exact ends_c (by walk_at "isc") (hi_no (by walk_at "hi") (by decide))
  | with_reducible exact find_c (by walk_at "isc") (hi_no (by walk_at "hi") (by decide))
  | with_reducible exact rfind_c (by walk_at "isc") (hi_no (by walk_at "hi") (by decide))
  | with_reducible exact lower_dgs _
  | with_reducible exact lower_mon (by assumption)
  | with_reducible exact isdigit_fig _)
  k_with "call builtin:str.split" => ((k_here; (with_reducible show wpAny _ _ (call (Value.builtin "str.split") [Value.str (tx _) _]) _ _ _); k_dflt (
  (refine KSpl.split0 (by k_asm) (by k_asm) ?_ (Nat.le_trans (Nat.add_le_add_right (mailT_len (by assumption)).1 2) (by rw [sizeLine_eq]; decide)))
  intro D' l' h' k' e' a' F' N' l1
  rw [words_mail (by assumption)] at e'
  (try k_lt l1)
  kspl_open e'
  simp only [strValues, List.map_cons, List.map_nil] at N' a'
  (try k_sweep)
  (try k_fold))))
  k_with "truthy str" => ((k_here; (with_reducible show wpAny _ _ (PySem.truthy (Value.str (tx _) _)) _ _ _); k_dflt (refine KXt.truthy_pos (tr_pos (by walk_at "len")) (tr_len (by walk_at "len")) (by decide) ?_; intro _; (try k_fold))))
  k_with "call builtin:str.endswith" => ((k_here; (with_reducible show wpAny _ _ (call (Value.builtin "str.endswith") [Value.str (tx _) _, Value.str _ _]) _ _ _); (refine SC.endswith ?_); (rw [ends_c (by walk_at "isc") (hi_no (by walk_at "hi") (by decide))]); (try k_fold)))
  k_with "call builtin:str.find" => ((k_here; (with_reducible show wpAny _ _ (call (Value.builtin "str.find") [Value.str (tx _) _, Value.str _ _]) _ _ _); (refine KXw.find (by walk_at "txt") ?_); intro _ _; (try k_fold)))
  k_with "call builtin:str.rfind" => ((k_here; (with_reducible show wpAny _ _ (call (Value.builtin "str.rfind") [Value.str (tx _) _, Value.str _ _]) _ _ _); (refine KXw.rfind (by walk_at "txt") ?_); intro _ _; (try k_fold)))
  k_with "call builtin:str.isdigit" => ((k_here; (with_reducible show wpAny _ _ (call (Value.builtin "str.isdigit") [Value.str (tx _) _]) _ _ _); (with_reducible refine KXw.isdigit (isdigit_fig _) ?_); (try k_fold)))
  k_with "call builtin:str.lower" => ((k_here; (with_reducible show wpAny _ _ (call (Value.builtin "str.lower") [Value.str (tx _) _]) _ _ _); (first | with_reducible refine KXw.lower (lower_dgs _) (fit_l (lower_dgs _) (len_dgs _)) ?_ | with_reducible refine KXw.lower (lower_mon (by assumption)) (fit_l (lower_mon (by assumption)) (len_lmon (by assumption))) ?_); intro _ _; (try k_fold)))
  k_with "tabin" => (first | with_reducible exact dgs_not (by decide) _ | with_reducible exact lmon_in (by assumption))
  k_with "compareOp In str ref" => ((k_here; (with_reducible show wpAny _ _ (compareOp CmpOp.In (Value.str (tx _) _) (Value.ref 127)) _ _ _); k_dflt (refine' in_strsK dyTab (by k_asm) (by k_asm) (by k_is) (by decide +kernel) (by walk_at "tabin") ?_; k_whole; (try k_fold))))
  k_with "compareOp NotIn str ref" => ((k_here; (with_reducible show wpAny _ _ (compareOp CmpOp.NotIn (Value.str (tx _) _) (Value.ref 126)) _ _ _); k_dflt (refine' notin_strsK mnTab (by k_asm) (by k_asm) (by k_is) (by decide +kernel) (by walk_at "tabin") ?_; k_whole; (try k_fold))))
  k_with "call builtin:list.index" => ((k_here; k_dflt (refine' index_strsK mnTab (by k_asm) (by k_asm) (by k_is) (by decide +kernel) (by exact lmon_idx (by assumption)) (by (simp only [mnTab, List.length_cons, List.length_nil]; omega)) (by decide) ?_; k_whole; (try k_fold))))
  k_with "call builtin:list.append" => ((k_here; (with_reducible show wpAny _ _ (call (Value.builtin "list.append") [Value.ref _, _]) _ _ _); k_dflt (refine' append_K (by k_asm) (by k_asm) (by k_upd) ?_ (by exact Nat.le_of_ble_eq_true rfl); k_whole); intro h' F' N'; (try k_sweep); (try k_fold)))
  k_with "exec Assign" => (((with_reducible show wpAny _ _ (exec (Stmt.Assign [Expr.List _ _] _ _) _) _ _ _); refine Assign_List ?_))
  k_with "getMethod ref" => ((k_here; (with_reducible show wpAny _ _ (getMethod (Value.ref 126) (PySem.Str.ofString "index") _) _ _ _); k_dflt (refine' index_method (by k_asm) (by k_asm) (by k_is) ?_; k_whole)))
  k_with "lastc" => (first | with_reducible exact dgs_getLast _ | with_reducible exact dg4_last _ | with_reducible exact clk_last _ _ _ | with_reducible exact dg2_last _)
  k_with "headc" => (first | with_reducible exact dg4_head _ | with_reducible exact dg2_head _)
  k_with "subscriptTail Name UnaryOp str int" => ((k_here; (with_reducible show wpAny _ _ (subscriptTail _ _ (Value.str (tx _) _) (Value.int (-1) _)) _ _ _); k_dflt (refine' item_last_tx (by walk_at "lastc") (by exact len1000 (by walk_at "len")) ?_ (by with_unfolding_all rfl) (by intro _; with_unfolding_all rfl); k_whole; intro t9; (try k_fold))))
  k_with "subscriptTail Name Constant str int" => ((k_here; (with_reducible show wpAny _ _ (subscriptTail _ _ (Value.str (tx _) _) (Value.int 0 _)) _ _ _); k_dflt (refine' item_first_tx (by walk_at "headc") (by exact len1000 (by walk_at "len")) ?_ (by with_unfolding_all rfl) (by intro _; with_unfolding_all rfl); k_whole; intro t9; (try k_fold))))
  k_with "txteq" => (first | (refine' fig_ne (by walk_at "isc") (by decide)))
  k_with "compareOp Eq str str" => ((k_here; (with_reducible show wpAny _ _ (compareOp CmpOp.Eq (Value.str (tx _) _) (Value.str _ _)) _ _ _); k_dflt (refine' eq_tx (by walk_at "txteq") ?_; k_whole; (try k_fold))))
  k_with "call builtin:str.split" => ((k_here; (with_reducible show wpAny _ _ (call (Value.builtin "str.split") [Value.str (tx _) _, Value.str _ _]) _ _ _); k_dflt (
  (refine KSpl.split1 (by k_asm) (by k_asm) (by decide) ?_ (fits_l (len1000 (by walk_at "len"))))
  intro D' l' h' k' e' a' F' N' l1
  rw [split_clk2] at e'
  (try k_lt l1)
  kspl_open e'
  simp only [strValues, List.map_cons, List.map_nil] at N' a'
  (try k_sweep)
  (try k_fold))))
  k_with "val" => (first | with_reducible exact val_dg2 (by omega) (by omega) | with_reducible exact val_dg4 (by omega) (by omega) | with_reducible exact val_dgs (by omega) (by omega))
  k_with "call type:int" => ((k_here; (with_reducible show wpAny _ _ (call (Value.type "int") [Value.str (tx _) _]) _ _ _); k_dflt (refine KIN.call_text (by walk_at "val") (Nat.le_trans (len1000' (by walk_at "len")) (by decide)) ?_; (try k_fold))))
  k_with "len" => (first | with_reducible exact DayT.len (by assumption) | with_reducible exact YrT.len (by assumption) | with_reducible exact len_dash4 (by assumption) | with_reducible exact glue_len (by assumption) (by assumption))
  k_with "truthy str" => ((k_here; (with_reducible show wpAny _ _ (PySem.truthy (Value.str (tx _) _)) _ _ _); (with_reducible rename LenX _ => lx9); k_dflt (refine KXt.truthy_pos (trX_pos lx9) (trX_len lx9) (by decide) ?_; intro _; (try k_fold))))
  k_with "truthy str" => ((k_here; (with_reducible show wpAny _ _ (PySem.truthy (Value.str (tx _) _)) _ _ _); k_dflt (refine KXt.truthy_pos (tr_pos (by walk_at "len")) (tr_len (by walk_at "len")) (by decide) ?_; intro _; (try k_fold))))
  k_with "call builtin:str.split" => ((k_here; (with_reducible show wpAny _ _ (call (Value.builtin "str.split") [Value.str (tx _) _]) _ _ _); k_dflt (
  (with_reducible rename LenX _ => lx9)
  (refine KSpl.split0 (by k_asm) (by k_asm) ?_ (fitsX lx9))
  intro D' l' h' k' e' a' F' N' l1
  (rename Told _ _ _ _ _ _ _ _ => hT9)
  refine abs_goal fun PP hPP => ?_
  rcases hT9 with ⟨g9, D9, Y9, W9, _, hg9, w9, hD9, hY9, hW9⟩ | ⟨g9, D9, Y9, _, hg9, w9, hD9, hY9, hW9⟩ | ⟨f9, W9, _, hf9, hF9, w9, hd9, hW9⟩
  all_goals (
    (rw [w9] at e'; clear w9)
    (try k_lt l1)
    kspl_open e'
    simp only [strValues, List.map_cons, List.map_nil] at N' a'
    refine hPP ?_
    (try k_sweep)
    (try k_fold)))))
  k_with "call builtin:str.split" => ((k_here; (with_reducible show wpAny _ _ (call (Value.builtin "str.split") [Value.str (tx (dash4 _ _ _)) _, Value.str _ _]) _ _ _); k_dflt (
  (refine KSpl.split1 (by k_asm) (by k_asm) (by decide) ?_ (fits_l (len1000 (by walk_at "len"))))
  intro D' l' h' k' e' a' F' N' l1
  rw [split_dash4 (by assumption)] at e'
  (try k_lt l1)
  kspl_open e'
  simp only [strValues, List.map_cons, List.map_nil] at N' a'
  (try k_sweep)
  (try k_fold))))
  k_with "call builtin:str.endswith" => ((k_here; (with_reducible show wpAny _ _ (call (Value.builtin "str.endswith") [Value.str (tx (_ ++ [44])) _, Value.str _ _]) _ _ _); (refine SC.endswith ?_); (rw [ends_last (by walk_at "isc")]); (try k_fold)))
  k_with "call builtin:str.endswith" => ((k_here; (with_reducible show wpAny _ _ (call (Value.builtin "str.endswith") [Value.str (tx (_ ++ 44 :: dash4 _ _ _)) _, Value.str _ _]) _ _ _); (refine SC.endswith ?_); (rw [glue_ends]); (try k_fold)))
  k_with "call builtin:str.lower" => ((k_here; (with_reducible show wpAny _ _ (call (Value.builtin "str.lower") [Value.str (tx (_ ++ 44 :: dash4 _ _ _)) _]) _ _ _); with_reducible refine KXw.lower (glue_lower (by assumption) (by assumption)) (fit_l (glue_lower (by assumption) (by assumption)) (glue_lenL (by assumption) (by assumption))) ?_; intro _ _; (try k_fold)))
  k_with "tabin" => (with_reducible exact glue_not (by decide))
  k_with "txt" => (first | with_reducible exact glue_rfind (by assumption) (by assumption) | with_reducible exact YrT.find (by assumption))
  k_with "subscriptTail Subscript Name Constant Slice str ref" => ((k_here; (with_reducible show wpAny _ _ (subscriptTail _ _ (Value.str (tx (_ ++ 44 :: dash4 _ _ _)) _) (Value.ref _)) _ _ _); k_dflt (refine' slice_sn (by exact glue_slice (by assumption)) (by k_asm) (by k_asm) (by exact Nat.le_trans (len1000' (by walk_at "len")) (by rw [sizeLine_eq]; decide)) ?_ (by with_unfolding_all rfl) (by intro _; with_unfolding_all rfl); k_whole); intro h9 t9 k9 F9 N9; (try k_sweep); (try k_fold)))
  k_with "lastc" => (first | with_reducible exact DayT.last (by assumption) | with_reducible exact last_y (by assumption) | with_reducible exact len_yc (by assumption))
  k_with "subscriptTail Name UnaryOp str int" => ((k_here; (with_reducible show wpAny _ _ (subscriptTail _ _ (Value.str (tx _) _) (Value.int (-1) _)) _ _ _); k_dflt (refine' item_last_yr (by with_reducible assumption) ?_ ?_ (by with_unfolding_all rfl) (by intro _; with_unfolding_all rfl); k_whole); all_goals (intro hY9 t9; (try k_fold))))
  k_with "txteq" => (with_reducible exact eq_comma)
  k_with "val" => (with_reducible exact DayT.val (by assumption))
  k_with "call builtin:str.upper" => ((k_here; (with_reducible show wpAny _ _ (call (Value.builtin "str.upper") [Value.str (tx _) _]) _ _ _); with_reducible refine KXw.upper (ZoneT.upper (by assumption)) (zone_fit (by assumption)) ?_; intro _ _; (try k_fold)))
  k_with "compareOp In str ref" => ((k_here; (with_reducible show wpAny _ _ (compareOp CmpOp.In (Value.str (tx _) _) (Value.ref 128)) _ _ _); k_dflt (refine' tz_in (by k_asm) (by k_asm) (by exact tzk _) (by decide) (by assumption) ?_ ?_ ?_ ?_; k_whole); all_goals (first | (intro n9 hn9 eW9 ez9; (try k_fold)) | (intro eW9 ez9; (try k_fold)))))
  k_with "subscriptTail Name Name ref str" => ((k_here; (with_reducible show wpAny _ _ (subscriptTail _ _ (Value.ref 128) (Value.str (tx _) _)) _ _ _); k_dflt (refine' tz_itemE (by k_asm) (by k_asm) (by exact tzk _) (by assumption) (by assumption) ?_ (by with_unfolding_all rfl) (by intro _; with_unfolding_all rfl); k_whole); intro t9; (try k_fold)))
  k_with "call type:int" => ((k_here; (with_reducible show wpAny _ _ (call (Value.type "int") [Value.str (tx _) _]) _ _ _); k_dflt (refine int_textE (by walk_at "valW") (ZoneT.mem (by assumption)).1 ?_; (try k_fold))))
  k_with "valW" => (first | with_reducible exact val_plusE (by assumption) (by assumption) | with_reducible exact val_minusE (by assumption) (by assumption))
  k_with "wpC" => ((k_here; (with_reducible show wpC _ _ (call (Value.type "int") [Value.str (tx _) _]) _ _ _); k_dflt (refine int_emptyE (by with_reducible assumption) rfl ?_); intro h9 tk9 e9 x9; (try dsimp only)))
  k_with "wpC" => ((k_here; (with_reducible show wpC _ _ (call (Value.type "int") [Value.str (tx _) _]) _ _ _); k_dflt (refine wpC_of (int_textE (by walk_at "valW") (ZoneT.mem (by assumption)).1 ?_)); (try k_fold)))
  k_with "call builtin:str.startswith" => ((k_here; (with_reducible show wpAny _ _ (call (Value.builtin "str.startswith") [Value.str (tx _) _, Value.str _ _]) _ _ _); (refine SC.startswith ?_); (first | (rw [starts_plus (by with_reducible assumption)]) | (rw [starts_minus (by with_reducible assumption)])); (try k_fold)))
  k_with "wpC" => ((k_here; (with_reducible show wpC _ _ (execs (Stmt.If _ _ (Stmt.Try _ _ _ _ _ :: _) _ :: _) _) _ _ _); k_dflt (refine wpC_consC ?_; refine wpC_If ?_); (try k_fold)))
  k_with "wpC" => ((k_here; (with_reducible show wpC _ _ (execs (Stmt.Try (Stmt.Assign [Expr.Name (PySem.Str.ofString "tzoffset") _] _ _ :: _) _ _ _ _ :: _) _) _ _ _); k_dflt (refine wpC_consC ?_; refine wpC_Try ?_; refine wpC_consC ?_; refine wpC_AssignName ?_; refine wpC_CallType (T := "int") ?_); (try k_fold)))
  k_with "noteFrame ref" => ((k_here; k_dflt (refine' caught_own (T' := "ValueError") (by assumption) (by k_asm) (by k_asm) (by assumption) (by assumption) (by assumption) (by assumption) (by first | assumption | exact KtsTurn.refl) (by k_is) PyProof.Rows.Boot.«ValueError» (by decide) PySem.F.isExc_ValueError PySem.F.notTuple_ValueError (by kts_sub) ?_; k_whole; intro h' g' T0' F' N' K' X' P' D'; (try k_lift K'); (try k_sweep))))
  k_with "exec If" => ((k_here; with_reducible refine wpAny_If ?_))
  k_with "And" => (((with_reducible show _ = Value.type "int" ∧ _); refine ⟨rfl, ?_⟩))
  k_with "subscriptTail Name Slice str ref" => ((k_here; (with_reducible show wpAny _ _ (subscriptTail _ (PySem.Expr.Slice none (some _) none _) (Value.str (tx _) _) (Value.ref _)) _ _ _); k_dflt (refine' slice_ns (by exact yc_sliceE (by with_reducible assumption)) (by k_asm) (by k_asm) (by exact Nat.le_trans (len1000' (by walk_at "len")) (by rw [sizeLine_eq]; decide)) ?_ (by with_unfolding_all rfl) (by intro _; with_unfolding_all rfl); k_whole); intro h9 t9 k9 F9 N9; (try k_sweep); (try k_fold)))
  k_with "off" => (first | with_reducible exact off_name (by assumption) (by assumption) | with_reducible exact off_plus (by assumption) (by assumption) | with_reducible exact off_minus (by assumption) (by assumption) (by assumption) | with_reducible exact off_zero (by assumption) (by assumption) | with_reducible exact Off.none rfl (by assumption))
  k_with "ans" => (first | with_reducible exact ans_none (by assumption) | with_reducible exact ans_zero (by assumption) (by assumption) | with_reducible exact ans_neg (by assumption) (by assumption) | with_reducible exact ans_pos (by first | assumption | omega) (by assumption))
  trivial
noncomputable def G_pt3 (z : Dat) (X : List Nat) (y : Int) (m : Int) (d : Int) (h : Int) (mi : Int) (sc : Int) (zo : Int) (tx0 : Tok) : Prop := Wrap ((Told X y m d h mi sc zo) → (1 ≤ m ∧ m ≤ 12) → (100 ≤ y ∧ y ≤ 9999) → (1 ≤ d ∧ d ≤ 31) → (0 ≤ h ∧ h ≤ 23) → (0 ≤ mi ∧ mi ≤ 59) → (0 ≤ sc ∧ sc ≤ 59) → FnCB z PySem.Challenge.rw_kl0450_03.row.prog (Mine.Internal.hd.heap_1 z.w.params) 1 142 [] [.str (tx X) tx0] (fun v new => ∃ D o, v = .ref D ∧ new = [(D, o)] ∧ ∃ (n0 : Nat) (t1 t2 t3 t4 t5 t6 t7 t8 t9 : Tok) (zv : Value), o = PySem.W.listOf #[.int y t1, .int m t2, .int d t3, .int h t4, .int mi t5, .int sc t6, .int 0 t7, .int 1 t8, .int (-1) t9, zv] n0 ∧ Ans zv zo) (by k_is) (by exact BindsTo.of_eq rfl))
namespace D_pt3
noncomputable def zG (zt : Dat × List Nat × Int × Int × Int × Int × Int × Int × Int × Tok) : Prop := G_pt3 (zt.1) (zt.2.1) (zt.2.2.1) (zt.2.2.2.1) (zt.2.2.2.2.1) (zt.2.2.2.2.2.1) (zt.2.2.2.2.2.2.1) (zt.2.2.2.2.2.2.2.1) (zt.2.2.2.2.2.2.2.2.1) (zt.2.2.2.2.2.2.2.2.2)
noncomputable def zt : Dat × List Nat × Int × Int × Int × Int × Int × Int × Int × Tok := haveI : Nonempty Dat := dat_some PySem.Challenge.rw_kl0450_03.row.prog; sk zG
@[irreducible] noncomputable def z : Dat := zt.1
@[irreducible] noncomputable def X : List Nat := zt.2.1
@[irreducible] noncomputable def y : Int := zt.2.2.1
@[irreducible] noncomputable def m : Int := zt.2.2.2.1
@[irreducible] noncomputable def d : Int := zt.2.2.2.2.1
@[irreducible] noncomputable def h : Int := zt.2.2.2.2.2.1
@[irreducible] noncomputable def mi : Int := zt.2.2.2.2.2.2.1
@[irreducible] noncomputable def sc : Int := zt.2.2.2.2.2.2.2.1
@[irreducible] noncomputable def zo : Int := zt.2.2.2.2.2.2.2.2.1
@[irreducible] noncomputable def tx0 : Tok := zt.2.2.2.2.2.2.2.2.2
theorem main : G_pt3 z X y m d h mi sc zo tx0 := by
  refine Wrap.mk ?_
  intro hX hm hy hd hh hmi hs
  walk_at "bodyC"
  rename Fr _ _ _ _ => F0
  rename News _ _ _ _ => N0
  have lx := hX.lenX
  refine wpC_cutN 6 (fun g => g = z.g) z.L' (J1 y m d h mi sc zo) ?h1 ?h2
  case h1 =>
    dsimp only [List.take]
    k_with "run:c1" => (
      (try dsimp +zetaDelta only)
      as_aux_lemma =>
        walk_at "step"
        all_goals (repeat' ((fail_if_success (first | (with_reducible guard_target = wpC _ _ (execs (List.cons _ _) _) _ _ _) | (with_reducible guard_target = wpAny _ _ (execs (List.cons _ _) _) _ _ _))); walk_at "step"))
        all_goals (first | ((first | (with_reducible guard_target = wpC _ _ (execs (List.cons _ _) _) _ _ _) | (with_reducible guard_target = wpAny _ _ (execs (List.cons _ _) _) _ _ _)); k_extra "run:c1") | k_extra "tail:c1"))
    k_with "tail:c1" => (
      (try dsimp only)
      rename Fr _ _ _ _ => F9
      rename News _ _ _ _ => N9
      (try rw [empty_is] at N9)
      k_dflt (refine' j1_intro rfl F9 N9 ?hm rfl ?hD ?hY ?hW; (case hm => k_mem); (case hD => first | assumption | exact dayT_dg2 (And.left (by assumption)) (And.right (by assumption))); (case hY => first | assumption | exact yrT_dg4 _); (case hW => first | assumption | exact zone_none (by assumption))))
    all_goals (repeat' ((fail_if_success (first | (with_reducible guard_target = wpC _ _ (execs (List.cons _ _) _) _ _ _) | (with_reducible guard_target = wpAny _ _ (execs (List.cons _ _) _) _ _ _))); walk_at "step"))
    all_goals (first | ((first | (with_reducible guard_target = wpC _ _ (execs (List.cons _ _) _) _ _ _) | (with_reducible guard_target = wpAny _ _ (execs (List.cons _ _) _) _ _ _)); k_extra "run:c1") | k_extra "tail:c1")
  case h2 =>
    intro g1 hp1 tk1 mm1 news1 G1 F1 N1 hJ1
    subst G1
    clear F0 N0 hX lx
    obtain ⟨C, n0, D, Y, W, t1, t2, t3, t4, t5, p1, rfl, hD, hY, hW⟩ := hJ1
    rw [map_pin p1] at F1
    clear p1
    dsimp only [List.drop]
    refine wpC_cutN 12 (fun g => g = z.g) z.L' (J2 y m d h mi sc zo) ?h1 ?h2
    case h1 =>
      dsimp only [List.take]
      k_with "run:c2" => (
        (try dsimp +zetaDelta only)
        as_aux_lemma =>
          walk_at "step"
          all_goals (repeat' ((fail_if_success (first | (with_reducible guard_target = wpC _ _ (execs (List.cons _ _) _) _ _ _) | (with_reducible guard_target = wpAny _ _ (execs (List.cons _ _) _) _ _ _))); walk_at "step"))
          all_goals (first | ((first | (with_reducible guard_target = wpC _ _ (execs (List.cons _ _) _) _ _ _) | (with_reducible guard_target = wpAny _ _ (execs (List.cons _ _) _) _ _ _)); k_extra "run:c2") | k_extra "tail:c2"))
      k_with "tail:c2" => (
        (try dsimp only)
        rename Fr _ _ _ _ => F9
        rename News _ _ _ _ => N9
        k_dflt (refine' MidF.intro rfl F9 N9 (J2.mk _ _ _ _ _ _ _ _ rfl rfl rfl rfl rfl rfl hD hW ?q2) ?q3; (case q2 => first | with_reducible assumption | exact rfl); (case q3 => exact fun _ h => nomatch h)))
      all_goals (repeat' ((fail_if_success (first | (with_reducible guard_target = wpC _ _ (execs (List.cons _ _) _) _ _ _) | (with_reducible guard_target = wpAny _ _ (execs (List.cons _ _) _) _ _ _))); walk_at "step"))
      all_goals (first | ((first | (with_reducible guard_target = wpC _ _ (execs (List.cons _ _) _) _ _ _) | (with_reducible guard_target = wpAny _ _ (execs (List.cons _ _) _) _ _ _)); k_extra "run:c2") | k_extra "tail:c2")
    case h2 =>
      intro g1 hp2 tk2 mm2 news2 G1 F2 N2 hJ2
      subst G1
      clear F1 N1 hY hD hW
      obtain ⟨D2, W2, Y2, u1, u2, u3, u4, u5, rfl, p1, p2, p3, p4, p5, hD2, hW2, eY2⟩ := hJ2
      subst eY2
      rw [show (((m - 1).toNat : Int) + 1) = m by omega] at p2
      rw [map_pin5 p1 p2 p3 p4 p5] at F2
      clear p1 p2 p3 p4 p5
      dsimp only [List.drop]
      refine wpC_cutN 9 (Gd5 z.p z.loose z.mean z.mg z.mb (Mine.Internal.hd.heap_1 z.w.params) (ktrTop z.dp z.un z.gd z.cn z.cs z.L z.a z.ccd z.cl z.outer) z.base (envX z.cn z.cs z.L z.a z.ccd z.cl :: z.outer) z.g) z.L' (J3 y m d h mi sc (fun ov => Off ov zo)) ?h1 ?h2
      case h1 =>
        dsimp only [List.take]
        k_with "run:c3" => (
          (try dsimp +zetaDelta only)
          as_aux_lemma =>
            walk_at "step"
            all_goals (repeat' ((fail_if_success (first | (with_reducible guard_target = wpC _ _ (execs (List.cons _ _) _) _ _ _) | (with_reducible guard_target = wpAny _ _ (execs (List.cons _ _) _) _ _ _))); walk_at "step"))
            all_goals (first | ((first | (with_reducible guard_target = wpC _ _ (execs (List.cons _ _) _) _ _ _) | (with_reducible guard_target = wpAny _ _ (execs (List.cons _ _) _) _ _ _)); k_extra "run:c3") | k_extra "tail:c3"))
        k_with "tail:c3" => (
          (try dsimp only)
          rename Fr _ _ _ _ => F9
          rename News _ _ _ _ => N9
          k_dflt (refine' MidF.intro ?G F9 N9 (J3.mk _ _ _ _ _ _ _ rfl rfl rfl rfl rfl rfl rfl rfl ?q2) ?q3; (case G => first | exact ⟨KtsTurn.refl, by assumption, by assumption, by assumption, by assumption⟩ | exact ⟨by assumption, by assumption, by assumption, by assumption, by assumption⟩); (case q2 => walk_at "off"); (case q3 => exact fun _ h => nomatch h)))
        all_goals (repeat' ((fail_if_success (first | (with_reducible guard_target = wpC _ _ (execs (List.cons _ _) _) _ _ _) | (with_reducible guard_target = wpAny _ _ (execs (List.cons _ _) _) _ _ _))); walk_at "step"))
        all_goals (first | ((first | (with_reducible guard_target = wpC _ _ (execs (List.cons _ _) _) _ _ _) | (with_reducible guard_target = wpAny _ _ (execs (List.cons _ _) _) _ _ _)); k_extra "run:c3") | k_extra "tail:c3")
      case h2 =>
        intro g3 hp3 tk3 mm3 news3 G3 F3 N3 hJ3
        clear F2 N2
        obtain ⟨ov, v1, v2, v3, v4, v5, v6, rfl, p1, p2, p3, p4, p5, p6, p7, hov⟩ := hJ3
        rw [map_pin7 p1 p2 p3 p4 p5 p6 p7] at F3
        clear p1 p2 p3 p4 p5 p6 p7
        have B9 := G3.B; have X9 := G3.X; have P9 := G3.P; have K9 := G3.D; have T9 := G3.T
        dsimp only [List.drop]
        refine wpC_cutN 1 (fun g => g = g3) z.L' (J3 y m d h mi sc (fun zv => Ans zv zo)) ?h1 ?h2
        case h1 =>
          dsimp only [List.take]
          rcases hov with ⟨eo, e0⟩ | ⟨n, tn, eo, hr, hp, hn⟩
          all_goals subst eo
          k_with "run:c4" => (
            (try dsimp +zetaDelta only)
            as_aux_lemma =>
              walk_at "step"
              all_goals (repeat' ((fail_if_success (first | (with_reducible guard_target = wpC _ _ (execs (List.cons _ _) _) _ _ _) | (with_reducible guard_target = wpAny _ _ (execs (List.cons _ _) _) _ _ _))); walk_at "step"))
              all_goals (first | ((first | (with_reducible guard_target = wpC _ _ (execs (List.cons _ _) _) _ _ _) | (with_reducible guard_target = wpAny _ _ (execs (List.cons _ _) _) _ _ _)); k_extra "run:c4") | k_extra "tail:c4"))
          k_with "tail:c4" => (
            (try dsimp only)
            rename Fr _ _ _ _ => F9
            rename News _ _ _ _ => N9
            k_dflt (refine' MidF.intro ?G F9 N9 (J3.mk _ _ _ _ _ _ _ rfl rfl rfl rfl rfl rfl rfl rfl ?q2) ?q3; (case G => rfl); (case q2 => walk_at "ans"); (case q3 => exact fun _ h => nomatch h)))
          all_goals (repeat' ((fail_if_success (first | (with_reducible guard_target = wpC _ _ (execs (List.cons _ _) _) _ _ _) | (with_reducible guard_target = wpAny _ _ (execs (List.cons _ _) _) _ _ _))); walk_at "step"))
          all_goals (first | ((first | (with_reducible guard_target = wpC _ _ (execs (List.cons _ _) _) _ _ _) | (with_reducible guard_target = wpAny _ _ (execs (List.cons _ _) _) _ _ _)); k_extra "run:c4") | k_extra "tail:c4")
        case h2 =>
          intro g4 hp4 tk4 mm4 news4 G4 F4 N4 hJ4
          subst G4
          clear F3 N3 hov
          obtain ⟨zv, v1, v2, v3, v4, v5, v6, rfl, p1, p2, p3, p4, p5, p6, p7, hzv⟩ := hJ4
          rw [map_pin7 p1 p2 p3 p4 p5 p6 p7] at F4
          clear p1 p2 p3 p4 p5 p6 p7
          dsimp only [List.drop]
          k_with "run:c5" => (
            (try dsimp +zetaDelta only)
            as_aux_lemma =>
              walk_at "step"
              all_goals (repeat' ((fail_if_success (first | (with_reducible guard_target = wpC _ _ (execs (List.cons _ _) _) _ _ _) | (with_reducible guard_target = wpAny _ _ (execs (List.cons _ _) _) _ _ _))); walk_at "step"))
              all_goals (first | ((first | (with_reducible guard_target = wpC _ _ (execs (List.cons _ _) _) _ _ _) | (with_reducible guard_target = wpAny _ _ (execs (List.cons _ _) _) _ _ _)); k_extra "run:c5") | k_extra "tail:c5"))
          k_with "tail:c5" => (
            walk_at "fnC:obj"
            exact ⟨_, _, _, _, _, _, _, _, _, _, _, rfl, by assumption⟩)
          all_goals (repeat' ((fail_if_success (first | (with_reducible guard_target = wpC _ _ (execs (List.cons _ _) _) _ _ _) | (with_reducible guard_target = wpAny _ _ (execs (List.cons _ _) _) _ _ _))); walk_at "step"))
          all_goals (first | ((first | (with_reducible guard_target = wpC _ _ (execs (List.cons _ _) _) _ _ _) | (with_reducible guard_target = wpAny _ _ (execs (List.cons _ _) _) _ _ _)); k_extra "run:c5") | k_extra "tail:c5")

theorem main' : zG zt := by with_unfolding_all exact main
theorem all (z : Dat) (X : List Nat) (y : Int) (m : Int) (d : Int) (h : Int) (mi : Int) (sc : Int) (zo : Int) (tx0 : Tok) : G_pt3 z X y m d h mi sc zo tx0 := haveI : Nonempty Dat := dat_some PySem.Challenge.rw_kl0450_03.row.prog; sk_all (G := zG) main' (z, X, y, m, d, h, mi, sc, zo, tx0)
end D_pt3
theorem c_pt3 (w : World) (X : List Nat) (y m d h mi sc zo : Int) (tx0 : Tok) (hX : Told X y m d h mi sc zo) (hm : 1 ≤ m ∧ m ≤ 12) (hy : 100 ≤ y ∧ y ≤ 9999) (hd : 1 ≤ d ∧ d ≤ 31) (hh : 0 ≤ h ∧ h ≤ 23) (hmi : 0 ≤ mi ∧ mi ≤ 59) (hs : 0 ≤ sc ∧ sc ≤ 59) : FnC PySem.Challenge.rw_kl0450_03.row.prog w (Mine.Internal.hd.heap_1 w.params) 1 142 [] [.str (tx X) tx0] (fun v new => ∃ D o, v = .ref D ∧ new = [(D, o)] ∧ ∃ (n0 : Nat) (t1 t2 t3 t4 t5 t6 t7 t8 t9 : Tok) (zv : Value), o = PySem.W.listOf #[.int y t1, .int m t2, .int d t3, .int h t4, .int mi t5, .int sc t6, .int 0 t7, .int 1 t8, .int (-1) t9, zv] n0 ∧ Ans zv zo) := by
  refine' FnC.of_B ?ho ?hb ?h ?hcd ?hl ?h0 ?h1 ?h2 ?h3 ?h4
  case ho => k_is
  case hb => exact fun _ => BindsTo.of_eq rfl
  case hcd => k_is
  case hl => exact locs rfl
  case h0 => decide
  case h1 => exact rfl
  case h2 => exact rfl
  case h3 => exact rfl
  case h4 => decide
  case h =>
    intro z hz
    subst hz
    exact Wrap.out (D_pt3.all z X y m d h mi sc zo tx0) hX hm hy hd hh hmi hs
end
end Mine.Internal

end
section
open PySem PySem.W PyProof.Rows PySem.Calls PySem.Spec
set_option Elab.async false
namespace Mine.Internal
section
set_option maxRecDepth 100000
set_option maxHeartbeats 8000000
theorem filled_PtE3 : PySem.Challenge.rw_kl0450_03 = PySem.Challenge.rw_kl0450_03 ∧ ∀ P, Mine.Internal.hd.heap_1 P = Mine.Internal.hd.heap_1 P := by
  k_fill
  exact ⟨rfl, fun _ => rfl⟩
theorem words_PtE3_03_0 : True := by
  k_with_none
  w_top off
  k_with "all" => (first
  | (with_reducible refine allNe_of_lt ?_; with_reducible assumption)
  | (with_reducible refine allNe_of_allLt ?_; with_reducible assumption)
  | (with_reducible refine AllNe.mem ?_; with_reducible assumption)
  | exact List.forall_mem_nil _
  | (refine' List.forall_mem_cons.mpr ⟨(by k_ne), (by k_all)⟩))
  k_with "ne" => ((refine neN ?_; (try dsimp only); first | (with_reducible refine NeA.out ?_; with_reducible assumption) | (with_reducible refine Ne.symm (NeA.out ?_); with_reducible assumption) | omega))
  k_with "body" => ((
  refine Wrap.mk ?_
  intro zzF' zzN' zzB' zzX' zzT' zzhk zzhd zzhu
  (try dsimp only)
  (try k_lift zzB')
  (try k_fold)))
  k_with "fn:args" => (exact SubL.mem (by k_subL))
  k_with "fn:end" => ((repeat (first | k_unfold | dsimp only)))
  k_with "idx" => (first | omega | (simp only [fm12]; omega) | (simp only [fd32, fd4, fd100, fd400, fd365, fd1461, fd36524, fd146097, fm365, fm1461, fm36524, fm146097, dbmT]; omega) | (rename ((_ : Int) < dbmT _ + _) => hx9; simp only [dbmT, fd32] at hx9 ⊢; omega))
  k_with "fn:int" => ((walk_at "fn:end"; k_dflt (refine' leaveF_int (by k_asm) (by k_asm) (by walk_at "fn:args") ?_)))
  k_with "fn:bool" => ((walk_at "fn:end"; k_dflt (refine' leaveF_bool (by k_asm) (by k_asm) (by walk_at "fn:args") ?_)))
  k_with "fn:str" => ((walk_at "fn:end"; k_dflt (refine' leaveF_str (by k_asm) (by k_asm) (by walk_at "fn:args") ?_)))
  k_with "fn:obj" => ((walk_at "fn:end"; k_dflt (refine' leaveF_obj (by k_asm) (by k_asm) (by walk_at "fn:args") (by k_mem) (by k_all) ?_)))
  k_with "ediv" => (simp only [fd4, fd5, fd7, fd12, fd60, fd100, fd400, fd365, fd1461, fd3600, fd36524, fd86400, fd146097, fm4, fm7, fm12, fm60, fm100, fm365, fm400, fm1461, fm36524, fm86400, fm146097] at *)
  k_with "fnC:obj" => ((walk_at "fn:end"; k_dflt (refine' leaveT_obj (by first | assumption | exact KtsTurn.refl) (by k_asm) (by k_asm) (by walk_at "fn:args") (by k_mem) (by k_all) ?_)))
  k_with "wpC" => (first
  | with_reducible refine wpC_cons ?_
  | with_reducible refine wpC_nil ?_)
  k_with "ite" => ((k_here; first
  | (k_closed; k_dflt (first | refine ite_pos (by decide) ?_ | refine ite_neg (by decide) ?_))
  | refine ite_pos (by with_reducible assumption) ?_
  | refine ite_neg (by with_reducible assumption) ?_
  | refine ite_isFalse (by with_reducible assumption) ?_
  | refine ite_pos (by k_dec) ?_
  | refine ite_neg (by k_dec) ?_))
  k_with "step" => (first | (k_unfold; (try dsimp only)) | (k_end; wrow_close) | ((with_reducible guard_target = wpAny _ _ (newTuple _) _ _ _); dsimp only; walk1) | walk1 | (dsimp only; walk1) | (leave1; try dsimp only))
  k_with "bodyT" => ((
  refine Wrap.mk ?_
  intro zzF' zzN' zzB' zzX' zzT' zzXB' zzTB' zzD' zzhk zzhd zzhu
  (try dsimp only)
  (try k_lift zzB')
  (try k_fold)))
  k_with "bodyC" => ((
  refine Wrap.mk ?_
  intro zzF' zzN' zzB' zzX' zzT' zzXB' zzTB' zzD' zzhk zzhd zzhu
  (try dsimp only)
  (try k_lift zzB')))
  k_with "wpC" => ((k_here; (with_reducible show wpC _ _ (execs (Stmt.Assign [Expr.Name _ _] (Expr.Call (Expr.Name (PySem.Str.ofString "_parsedate_tz") _) _ _ _) _ :: _) _) _ _ _); k_dflt (refine wpC_consC ?_; refine wpC_AssignName ?_; rename Frag.In _ _ => X9; refine wpC_CallK X9 ?_; skip); (try k_fold)))
  k_with "wpC" => ((k_here; (with_reducible show wpC _ _ (execs (Stmt.Assign [Expr.Name _ _] (Expr.Call (Expr.Name (PySem.Str.ofString "parsedate_tz") _) _ _ _) _ :: _) _) _ _ _); k_dflt (refine wpC_consC ?_; refine wpC_AssignName ?_; rename Frag.In _ _ => X9; refine wpC_CallK X9 ?_; skip); (try k_fold)))
  k_with "And" => (((with_reducible show keepIn _ _ = true ∧ _); refine ⟨by k_is, ?_⟩; (try dsimp only [List.nil_append, List.cons_append])))
  k_with "subscriptTail Name Slice ref ref" => ((k_here; (with_reducible show wpAny _ _ (subscriptTail _ (PySem.Expr.Slice none (some (PySem.Expr.Constant (PySem.Const.int 9) _ _)) none _) (Value.ref _) (Value.ref _)) _ _ _); k_dflt (refine' tup_to (b := 9) (by k_asm) (by k_asm) (by exact News.isTup (by k_asm) (by k_mem)) (by exact Nat.le_of_ble_eq_true rfl) (by rfl) ?_ (by with_unfolding_all rfl) (by intro _; with_unfolding_all rfl) (by exact Nat.le_of_ble_eq_true rfl); k_whole); intro D' h' F' N' l1; (try k_lt l1); (try k_sweep); (try k_fold)))
  k_with "subscriptTail Name Slice ref ref" => ((k_here; (with_reducible show wpAny _ _ (subscriptTail _ (PySem.Expr.Slice none (some (PySem.Expr.Constant (PySem.Const.int 6) _ _)) none _) (Value.ref _) (Value.ref _)) _ _ _); k_dflt (refine' tup_to (b := 6) (by k_asm) (by k_asm) (by exact News.isTup (by k_asm) (by k_mem)) (by exact Nat.le_of_ble_eq_true rfl) (by rfl) ?_ (by with_unfolding_all rfl) (by intro _; with_unfolding_all rfl) (by exact Nat.le_of_ble_eq_true rfl); k_whole); intro D' h' F' N' l1; (try k_lt l1); (try k_sweep); (try k_fold)))
  k_with "subscriptTail Name Slice ref ref" => ((k_here; (with_reducible show wpAny _ _ (subscriptTail _ (PySem.Expr.Slice none (some (PySem.Expr.Constant (PySem.Const.int 3) _ _)) none _) (Value.ref _) (Value.ref _)) _ _ _); k_dflt (refine' tup_to (b := 3) (by k_asm) (by k_asm) (by exact News.isTup (by k_asm) (by k_mem)) (by exact Nat.le_of_ble_eq_true rfl) (by rfl) ?_ (by with_unfolding_all rfl) (by intro _; with_unfolding_all rfl) (by exact Nat.le_of_ble_eq_true rfl); k_whole); intro D' h' F' N' l1; (try k_lt l1); (try k_sweep); (try k_fold)))
  k_with "wpC" => ((k_here; (with_reducible show wpC _ _ (call (Value.ref 142) _) _ _ _); k_dflt (refine' FnC.useO (c_pt3 _ _ _ _ _ _ _ _ _ _ (by assumption) (by assumption) (by assumption) (by assumption) (by assumption) (by assumption) (by assumption)) (by k_asm) (by k_asm) (by k_asm) (by k_asm) (by k_asm) (by assumption) (by assumption) (by assumption) (by first | exact rfl | assumption) (by walk_at "fn:args") (by ktr_room) (by ktr_units) ?_); intro g9 D9 o9 h9 tk9 ho9 T9 F9 N9 B9 X9 P9 D9 hne9; (try k_lift B9); obtain ⟨_, _, _, _, _, _, _, _, _, _, zv9, e9, (⟨c9, z9⟩ | ⟨u9, c9⟩)⟩ := ho9; all_goals (subst c9; subst e9; (try simp only [List.cons_append, List.nil_append] at N9); (try dsimp only))))
  trivial
noncomputable def G_ptz (z : Dat) (X : List Nat) (y : Int) (m : Int) (d : Int) (h : Int) (mi : Int) (sc : Int) (zo : Int) (tx0 : Tok) : Prop := Wrap ((Told X y m d h mi sc zo) → (1 ≤ m ∧ m ≤ 12) → (100 ≤ y ∧ y ≤ 9999) → (1 ≤ d ∧ d ≤ 31) → (0 ≤ h ∧ h ≤ 23) → (0 ≤ mi ∧ mi ≤ 59) → (0 ≤ sc ∧ sc ≤ 59) → FnCB z PySem.Challenge.rw_kl0450_03.row.prog (Mine.Internal.hd.heap_1 z.w.params) 2 135 [] [.str (tx X) tx0] (fun v new => ∃ D o, v = .ref D ∧ new = [(D, o)] ∧ Tup10 y m d h mi sc zo o) (by k_is) (by exact BindsTo.of_eq rfl))
namespace D_ptz
noncomputable def zG (zt : Dat × List Nat × Int × Int × Int × Int × Int × Int × Int × Tok) : Prop := G_ptz (zt.1) (zt.2.1) (zt.2.2.1) (zt.2.2.2.1) (zt.2.2.2.2.1) (zt.2.2.2.2.2.1) (zt.2.2.2.2.2.2.1) (zt.2.2.2.2.2.2.2.1) (zt.2.2.2.2.2.2.2.2.1) (zt.2.2.2.2.2.2.2.2.2)
noncomputable def zt : Dat × List Nat × Int × Int × Int × Int × Int × Int × Int × Tok := haveI : Nonempty Dat := dat_some PySem.Challenge.rw_kl0450_03.row.prog; sk zG
@[irreducible] noncomputable def z : Dat := zt.1
@[irreducible] noncomputable def X : List Nat := zt.2.1
@[irreducible] noncomputable def y : Int := zt.2.2.1
@[irreducible] noncomputable def m : Int := zt.2.2.2.1
@[irreducible] noncomputable def d : Int := zt.2.2.2.2.1
@[irreducible] noncomputable def h : Int := zt.2.2.2.2.2.1
@[irreducible] noncomputable def mi : Int := zt.2.2.2.2.2.2.1
@[irreducible] noncomputable def sc : Int := zt.2.2.2.2.2.2.2.1
@[irreducible] noncomputable def zo : Int := zt.2.2.2.2.2.2.2.2.1
@[irreducible] noncomputable def tx0 : Tok := zt.2.2.2.2.2.2.2.2.2
theorem main : G_ptz z X y m d h mi sc zo tx0 := by
  refine Wrap.mk ?_
  intro hX hm hy hd hh hmi hs
  walk_at "bodyC"
  k_with "run:c_ptz" => (
    (try dsimp +zetaDelta only)
    as_aux_lemma =>
      walk_at "step"
      all_goals (repeat' ((fail_if_success (first | (with_reducible guard_target = wpC _ _ (execs (List.cons _ _) _) _ _ _) | (with_reducible guard_target = wpAny _ _ (execs (List.cons _ _) _) _ _ _))); walk_at "step"))
      all_goals (first | ((first | (with_reducible guard_target = wpC _ _ (execs (List.cons _ _) _) _ _ _) | (with_reducible guard_target = wpAny _ _ (execs (List.cons _ _) _) _ _ _)); k_extra "run:c_ptz") | k_extra "tail:c_ptz"))
  k_with "tail:c_ptz" => (
  all_goals walk_at "fnC:obj"
  all_goals first
    | exact ⟨_, _, _, _, _, _, _, _, _, _, rfl⟩
    | exact ⟨_, _, _, _, _, _, _, _, _, _, by rw [show zo = 0 by assumption]⟩)
  all_goals (first | ((first | (with_reducible guard_target = wpC _ _ (execs (List.cons _ _) _) _ _ _) | (with_reducible guard_target = wpAny _ _ (execs (List.cons _ _) _) _ _ _)); k_extra "run:c_ptz") | k_extra "tail:c_ptz")
theorem main' : zG zt := by with_unfolding_all exact main
theorem all (z : Dat) (X : List Nat) (y : Int) (m : Int) (d : Int) (h : Int) (mi : Int) (sc : Int) (zo : Int) (tx0 : Tok) : G_ptz z X y m d h mi sc zo tx0 := haveI : Nonempty Dat := dat_some PySem.Challenge.rw_kl0450_03.row.prog; sk_all (G := zG) main' (z, X, y, m, d, h, mi, sc, zo, tx0)
end D_ptz
theorem c_ptz (w : World) (X : List Nat) (y m d h mi sc zo : Int) (tx0 : Tok) (hX : Told X y m d h mi sc zo) (hm : 1 ≤ m ∧ m ≤ 12) (hy : 100 ≤ y ∧ y ≤ 9999) (hd : 1 ≤ d ∧ d ≤ 31) (hh : 0 ≤ h ∧ h ≤ 23) (hmi : 0 ≤ mi ∧ mi ≤ 59) (hs : 0 ≤ sc ∧ sc ≤ 59) : FnC PySem.Challenge.rw_kl0450_03.row.prog w (Mine.Internal.hd.heap_1 w.params) 2 135 [] [.str (tx X) tx0] (fun v new => ∃ D o, v = .ref D ∧ new = [(D, o)] ∧ Tup10 y m d h mi sc zo o) := by
  refine' FnC.of_B ?ho ?hb ?h ?hcd ?hl ?h0 ?h1 ?h2 ?h3 ?h4
  case ho => k_is
  case hb => exact fun _ => BindsTo.of_eq rfl
  case hcd => k_is
  case hl => exact locs rfl
  case h0 => decide
  case h1 => exact rfl
  case h2 => exact rfl
  case h3 => exact rfl
  case h4 => decide
  case h =>
    intro z hz
    subst hz
    exact Wrap.out (D_ptz.all z X y m d h mi sc zo tx0) hX hm hy hd hh hmi hs
theorem words_PtE3_03_1 : True := by
  k_with "wpC" => ((k_here; (with_reducible show wpC _ _ (call (Value.ref 135) _) _ _ _); k_dflt (refine' FnC.useO (c_ptz _ _ _ _ _ _ _ _ _ _ (by assumption) (by assumption) (by assumption) (by assumption) (by assumption) (by assumption) (by assumption)) (by k_asm) (by k_asm) (by k_asm) (by k_asm) (by k_asm) (by assumption) (by assumption) (by assumption) (by first | exact rfl | assumption) (by walk_at "fn:args") (by ktr_room) (by ktr_units) ?_); intro g9 D9 o9 h9 tk9 ho9 T9 F9 N9 B9 X9 P9 D9 hne9; (try k_lift B9); obtain ⟨_, _, _, _, _, _, _, _, _, _, e9⟩ := ho9; subst e9; (try simp only [List.cons_append, List.nil_append] at N9); (try dsimp only)))
  trivial
noncomputable def G_pd (z : Dat) (X : List Nat) (y : Int) (m : Int) (d : Int) (h : Int) (mi : Int) (sc : Int) (zo : Int) (tx0 : Tok) : Prop := Wrap ((Told X y m d h mi sc zo) → (1 ≤ m ∧ m ≤ 12) → (100 ≤ y ∧ y ≤ 9999) → (1 ≤ d ∧ d ≤ 31) → (0 ≤ h ∧ h ≤ 23) → (0 ≤ mi ∧ mi ≤ 59) → (0 ≤ sc ∧ sc ≤ 59) → FnCB z PySem.Challenge.rw_kl0450_03.row.prog (Mine.Internal.hd.heap_1 z.w.params) 3 149 [] [.str (tx X) tx0] (fun v new => ∃ D o, v = .ref D ∧ new = [(D, o)] ∧ Tup9 y m d h mi sc o) (by k_is) (by exact BindsTo.of_eq rfl))
namespace D_pd
noncomputable def zG (zt : Dat × List Nat × Int × Int × Int × Int × Int × Int × Int × Tok) : Prop := G_pd (zt.1) (zt.2.1) (zt.2.2.1) (zt.2.2.2.1) (zt.2.2.2.2.1) (zt.2.2.2.2.2.1) (zt.2.2.2.2.2.2.1) (zt.2.2.2.2.2.2.2.1) (zt.2.2.2.2.2.2.2.2.1) (zt.2.2.2.2.2.2.2.2.2)
noncomputable def zt : Dat × List Nat × Int × Int × Int × Int × Int × Int × Int × Tok := haveI : Nonempty Dat := dat_some PySem.Challenge.rw_kl0450_03.row.prog; sk zG
@[irreducible] noncomputable def z : Dat := zt.1
@[irreducible] noncomputable def X : List Nat := zt.2.1
@[irreducible] noncomputable def y : Int := zt.2.2.1
@[irreducible] noncomputable def m : Int := zt.2.2.2.1
@[irreducible] noncomputable def d : Int := zt.2.2.2.2.1
@[irreducible] noncomputable def h : Int := zt.2.2.2.2.2.1
@[irreducible] noncomputable def mi : Int := zt.2.2.2.2.2.2.1
@[irreducible] noncomputable def sc : Int := zt.2.2.2.2.2.2.2.1
@[irreducible] noncomputable def zo : Int := zt.2.2.2.2.2.2.2.2.1
@[irreducible] noncomputable def tx0 : Tok := zt.2.2.2.2.2.2.2.2.2
theorem main : G_pd z X y m d h mi sc zo tx0 := by
  refine Wrap.mk ?_
  intro hX hm hy hd hh hmi hs
  walk_at "bodyC"
  k_with "run:c_pd" => (
    (try dsimp +zetaDelta only)
    as_aux_lemma =>
      walk_at "step"
      all_goals (repeat' ((fail_if_success (first | (with_reducible guard_target = wpC _ _ (execs (List.cons _ _) _) _ _ _) | (with_reducible guard_target = wpAny _ _ (execs (List.cons _ _) _) _ _ _))); walk_at "step"))
      all_goals (first | ((first | (with_reducible guard_target = wpC _ _ (execs (List.cons _ _) _) _ _ _) | (with_reducible guard_target = wpAny _ _ (execs (List.cons _ _) _) _ _ _)); k_extra "run:c_pd") | k_extra "tail:c_pd"))
  k_with "tail:c_pd" => (
  all_goals walk_at "fnC:obj"
  all_goals exact ⟨_, _, _, _, _, _, _, _, _, rfl⟩)
  all_goals (first | ((first | (with_reducible guard_target = wpC _ _ (execs (List.cons _ _) _) _ _ _) | (with_reducible guard_target = wpAny _ _ (execs (List.cons _ _) _) _ _ _)); k_extra "run:c_pd") | k_extra "tail:c_pd")
theorem main' : zG zt := by with_unfolding_all exact main
theorem all (z : Dat) (X : List Nat) (y : Int) (m : Int) (d : Int) (h : Int) (mi : Int) (sc : Int) (zo : Int) (tx0 : Tok) : G_pd z X y m d h mi sc zo tx0 := haveI : Nonempty Dat := dat_some PySem.Challenge.rw_kl0450_03.row.prog; sk_all (G := zG) main' (z, X, y, m, d, h, mi, sc, zo, tx0)
end D_pd
theorem c_pd (w : World) (X : List Nat) (y m d h mi sc zo : Int) (tx0 : Tok) (hX : Told X y m d h mi sc zo) (hm : 1 ≤ m ∧ m ≤ 12) (hy : 100 ≤ y ∧ y ≤ 9999) (hd : 1 ≤ d ∧ d ≤ 31) (hh : 0 ≤ h ∧ h ≤ 23) (hmi : 0 ≤ mi ∧ mi ≤ 59) (hs : 0 ≤ sc ∧ sc ≤ 59) : FnC PySem.Challenge.rw_kl0450_03.row.prog w (Mine.Internal.hd.heap_1 w.params) 3 149 [] [.str (tx X) tx0] (fun v new => ∃ D o, v = .ref D ∧ new = [(D, o)] ∧ Tup9 y m d h mi sc o) := by
  refine' FnC.of_B ?ho ?hb ?h ?hcd ?hl ?h0 ?h1 ?h2 ?h3 ?h4
  case ho => k_is
  case hb => exact fun _ => BindsTo.of_eq rfl
  case hcd => k_is
  case hl => exact locs rfl
  case h0 => decide
  case h1 => exact rfl
  case h2 => exact rfl
  case h3 => exact rfl
  case h4 => decide
  case h =>
    intro z hz
    subst hz
    exact Wrap.out (D_pd.all z X y m d h mi sc zo tx0) hX hm hy hd hh hmi hs
end
end Mine.Internal

end
section
open PySem PySem.W PyProof.Rows PySem.Calls PySem.Spec
set_option Elab.async false
namespace Mine.Internal
section
set_option maxRecDepth 100000
set_option maxHeartbeats 8000000
theorem filled_PtN3 : PySem.Challenge.rw_kl0450_03 = PySem.Challenge.rw_kl0450_03 ∧ ∀ P, Mine.Internal.hd.heap_1 P = Mine.Internal.hd.heap_1 P := by
  k_fill
  exact ⟨rfl, fun _ => rfl⟩
theorem words_PtN3_03_0 : True := by
  k_with_none
  w_top off
  k_with "all" => (first
  | (with_reducible refine allNe_of_lt ?_; with_reducible assumption)
  | (with_reducible refine allNe_of_allLt ?_; with_reducible assumption)
  | (with_reducible refine AllNe.mem ?_; with_reducible assumption)
  | exact List.forall_mem_nil _
  | (refine' List.forall_mem_cons.mpr ⟨(by k_ne), (by k_all)⟩))
  k_with "ne" => ((refine neN ?_; (try dsimp only); first | (with_reducible refine NeA.out ?_; with_reducible assumption) | (with_reducible refine Ne.symm (NeA.out ?_); with_reducible assumption) | omega))
  k_with "body" => ((
  refine Wrap.mk ?_
  intro zzF' zzN' zzB' zzX' zzT' zzhk zzhd zzhu
  (try dsimp only)
  (try k_lift zzB')
  (try k_fold)))
  k_with "fn:args" => (exact SubL.mem (by k_subL))
  k_with "fn:end" => ((repeat (first | k_unfold | dsimp only)))
  k_with "idx" => (first | omega | (simp only [fm12]; omega) | (simp only [fd32, fd4, fd100, fd400, fd365, fd1461, fd36524, fd146097, fm365, fm1461, fm36524, fm146097, dbmT]; omega) | (rename ((_ : Int) < dbmT _ + _) => hx9; simp only [dbmT, fd32] at hx9 ⊢; omega))
  k_with "fn:int" => ((walk_at "fn:end"; k_dflt (refine' leaveF_int (by k_asm) (by k_asm) (by walk_at "fn:args") ?_)))
  k_with "fn:bool" => ((walk_at "fn:end"; k_dflt (refine' leaveF_bool (by k_asm) (by k_asm) (by walk_at "fn:args") ?_)))
  k_with "fn:str" => ((walk_at "fn:end"; k_dflt (refine' leaveF_str (by k_asm) (by k_asm) (by walk_at "fn:args") ?_)))
  k_with "fn:obj" => ((walk_at "fn:end"; k_dflt (refine' leaveF_obj (by k_asm) (by k_asm) (by walk_at "fn:args") (by k_mem) (by k_all) ?_)))
  k_with "ediv" => (simp only [fd4, fd5, fd7, fd12, fd60, fd100, fd400, fd365, fd1461, fd3600, fd36524, fd86400, fd146097, fm4, fm7, fm12, fm60, fm100, fm365, fm400, fm1461, fm36524, fm86400, fm146097] at *)
  k_with "fnC:obj" => ((walk_at "fn:end"; k_dflt (refine' leaveT_obj (by first | assumption | exact KtsTurn.refl) (by k_asm) (by k_asm) (by walk_at "fn:args") (by k_mem) (by k_all) ?_)))
  k_with "wpC" => (first
  | with_reducible refine wpC_cons ?_
  | with_reducible refine wpC_nil ?_)
  k_with "ite" => ((k_here; first
  | (k_closed; k_dflt (first | refine ite_pos (by decide) ?_ | refine ite_neg (by decide) ?_))
  | refine ite_pos (by with_reducible assumption) ?_
  | refine ite_neg (by with_reducible assumption) ?_
  | refine ite_isFalse (by with_reducible assumption) ?_
  | refine ite_pos (by k_dec) ?_
  | refine ite_neg (by k_dec) ?_))
  k_with "step" => (first | (k_unfold; (try dsimp only)) | (k_end; wrow_close) | ((with_reducible guard_target = wpAny _ _ (newTuple _) _ _ _); dsimp only; walk1) | walk1 | (dsimp only; walk1) | (leave1; try dsimp only))
  k_with "bodyT" => ((
  refine Wrap.mk ?_
  intro zzF' zzN' zzB' zzX' zzT' zzXB' zzTB' zzD' zzhk zzhd zzhu
  (try dsimp only)
  (try k_lift zzB')
  (try k_fold)))
  k_with "bodyC" => ((
  refine Wrap.mk ?_
  intro zzF' zzN' zzB' zzX' zzT' zzXB' zzTB' zzD' zzhk zzhd zzhu
  (try dsimp only)
  (try k_lift zzB')))
  k_with "hi" => (first | with_reducible exact hi_dgs _ | with_reducible exact hi_dg4 _ | with_reducible exact hi_dg2 _ | with_reducible exact hi_clk _ _ _ | with_reducible exact hi_mon (by assumption) | with_reducible exact hi_lmon (by assumption))
  k_with "len" => (first | with_reducible exact len_dgs _ | with_reducible exact len_dg4 _ | with_reducible exact len_dg2 _ | with_reducible exact len_clk _ _ _ | with_reducible exact len_mon (by assumption) | with_reducible exact len_lmon (by assumption) | with_reducible exact len_mail (by assumption))
  k_with "isc" => (first | with_reducible exact comma | with_reducible exact colon | with_reducible exact minus | with_reducible exact plus | rfl)
  k_with "txt" => (first
  | with_reducible exact find_col4 _
  | with_reducible exact ends_c (by walk_at "isc") (hi_no (by walk_at "hi") (by decide))
  | with_reducible exact find_c (by walk_at "isc") (hi_no (by walk_at "hi") (by decide))
  | with_reducible exact rfind_c (by walk_at "isc") (hi_no (by walk_at "hi") (by decide))
  | with_reducible exact lower_dgs _
  | with_reducible exact lower_mon (by assumption)
  | with_reducible exact isdigit_fig _)
  k_with "call builtin:str.split" => ((k_here; (with_reducible show wpAny _ _ (call (Value.builtin "str.split") [Value.str (tx _) _]) _ _ _); k_dflt (
  (refine KSpl.split0 (by k_asm) (by k_asm) ?_ (Nat.le_trans (Nat.add_le_add_right (mailT_len (by assumption)).1 2) (by rw [sizeLine_eq]; decide)))
  intro D' l' h' k' e' a' F' N' l1
  rw [words_mail (by assumption)] at e'
  (try k_lt l1)
  kspl_open e'
  simp only [strValues, List.map_cons, List.map_nil] at N' a'
  (try k_sweep)
  (try k_fold))))
  k_with "truthy str" => ((k_here; (with_reducible show wpAny _ _ (PySem.truthy (Value.str (tx _) _)) _ _ _); k_dflt (refine KXt.truthy_pos (tr_pos (by walk_at "len")) (tr_len (by walk_at "len")) (by decide) ?_; intro _; (try k_fold))))
  k_with "call builtin:str.endswith" => ((k_here; (with_reducible show wpAny _ _ (call (Value.builtin "str.endswith") [Value.str (tx _) _, Value.str _ _]) _ _ _); (refine SC.endswith ?_); (rw [ends_c (by walk_at "isc") (hi_no (by walk_at "hi") (by decide))]); (try k_fold)))
  k_with "call builtin:str.find" => ((k_here; (with_reducible show wpAny _ _ (call (Value.builtin "str.find") [Value.str (tx _) _, Value.str _ _]) _ _ _); (refine KXw.find (by walk_at "txt") ?_); intro _ _; (try k_fold)))
  k_with "call builtin:str.rfind" => ((k_here; (with_reducible show wpAny _ _ (call (Value.builtin "str.rfind") [Value.str (tx _) _, Value.str _ _]) _ _ _); (refine KXw.rfind (by walk_at "txt") ?_); intro _ _; (try k_fold)))
  k_with "call builtin:str.isdigit" => ((k_here; (with_reducible show wpAny _ _ (call (Value.builtin "str.isdigit") [Value.str (tx _) _]) _ _ _); (with_reducible refine KXw.isdigit (isdigit_fig _) ?_); (try k_fold)))
  k_with "call builtin:str.lower" => ((k_here; (with_reducible show wpAny _ _ (call (Value.builtin "str.lower") [Value.str (tx _) _]) _ _ _); (first | with_reducible refine KXw.lower (lower_dgs _) (fit_l (lower_dgs _) (len_dgs _)) ?_ | with_reducible refine KXw.lower (lower_mon (by assumption)) (fit_l (lower_mon (by assumption)) (len_lmon (by assumption))) ?_); intro _ _; (try k_fold)))
  k_with "tabin" => (first | with_reducible exact dgs_not (by decide) _ | with_reducible exact lmon_in (by assumption))
  k_with "compareOp In str ref" => ((k_here; (with_reducible show wpAny _ _ (compareOp CmpOp.In (Value.str (tx _) _) (Value.ref 127)) _ _ _); k_dflt (refine' in_strsK dyTab (by k_asm) (by k_asm) (by k_is) (by decide +kernel) (by walk_at "tabin") ?_; k_whole; (try k_fold))))
  k_with "compareOp NotIn str ref" => ((k_here; (with_reducible show wpAny _ _ (compareOp CmpOp.NotIn (Value.str (tx _) _) (Value.ref 126)) _ _ _); k_dflt (refine' notin_strsK mnTab (by k_asm) (by k_asm) (by k_is) (by decide +kernel) (by walk_at "tabin") ?_; k_whole; (try k_fold))))
  k_with "call builtin:list.index" => ((k_here; k_dflt (refine' index_strsK mnTab (by k_asm) (by k_asm) (by k_is) (by decide +kernel) (by exact lmon_idx (by assumption)) (by (simp only [mnTab, List.length_cons, List.length_nil]; omega)) (by decide) ?_; k_whole; (try k_fold))))
  k_with "call builtin:list.append" => ((k_here; (with_reducible show wpAny _ _ (call (Value.builtin "list.append") [Value.ref _, _]) _ _ _); k_dflt (refine' append_K (by k_asm) (by k_asm) (by k_upd) ?_ (by exact Nat.le_of_ble_eq_true rfl); k_whole); intro h' F' N'; (try k_sweep); (try k_fold)))
  k_with "exec Assign" => (((with_reducible show wpAny _ _ (exec (Stmt.Assign [Expr.List _ _] _ _) _) _ _ _); refine Assign_List ?_))
  k_with "getMethod ref" => ((k_here; (with_reducible show wpAny _ _ (getMethod (Value.ref 126) (PySem.Str.ofString "index") _) _ _ _); k_dflt (refine' index_method (by k_asm) (by k_asm) (by k_is) ?_; k_whole)))
  k_with "lastc" => (first | with_reducible exact dgs_getLast _ | with_reducible exact dg4_last _ | with_reducible exact clk_last _ _ _ | with_reducible exact dg2_last _)
  k_with "headc" => (first | with_reducible exact dg4_head _ | with_reducible exact dg2_head _)
  k_with "subscriptTail Name UnaryOp str int" => ((k_here; (with_reducible show wpAny _ _ (subscriptTail _ _ (Value.str (tx _) _) (Value.int (-1) _)) _ _ _); k_dflt (refine' item_last_tx (by walk_at "lastc") (by exact len1000 (by walk_at "len")) ?_ (by with_unfolding_all rfl) (by intro _; with_unfolding_all rfl); k_whole; intro t9; (try k_fold))))
  k_with "subscriptTail Name Constant str int" => ((k_here; (with_reducible show wpAny _ _ (subscriptTail _ _ (Value.str (tx _) _) (Value.int 0 _)) _ _ _); k_dflt (refine' item_first_tx (by walk_at "headc") (by exact len1000 (by walk_at "len")) ?_ (by with_unfolding_all rfl) (by intro _; with_unfolding_all rfl); k_whole; intro t9; (try k_fold))))
  k_with "txteq" => (first | (refine' fig_ne (by walk_at "isc") (by decide)))
  k_with "compareOp Eq str str" => ((k_here; (with_reducible show wpAny _ _ (compareOp CmpOp.Eq (Value.str (tx _) _) (Value.str _ _)) _ _ _); k_dflt (refine' eq_tx (by walk_at "txteq") ?_; k_whole; (try k_fold))))
  k_with "call builtin:str.split" => ((k_here; (with_reducible show wpAny _ _ (call (Value.builtin "str.split") [Value.str (tx _) _, Value.str _ _]) _ _ _); k_dflt (
  (refine KSpl.split1 (by k_asm) (by k_asm) (by decide) ?_ (fits_l (len1000 (by walk_at "len"))))
  intro D' l' h' k' e' a' F' N' l1
  rw [split_clk2] at e'
  (try k_lt l1)
  kspl_open e'
  simp only [strValues, List.map_cons, List.map_nil] at N' a'
  (try k_sweep)
  (try k_fold))))
  k_with "val" => (first | with_reducible exact val_dg2 (by omega) (by omega) | with_reducible exact val_dg4 (by omega) (by omega) | with_reducible exact val_dgs (by omega) (by omega))
  k_with "call type:int" => ((k_here; (with_reducible show wpAny _ _ (call (Value.type "int") [Value.str (tx _) _]) _ _ _); k_dflt (refine KIN.call_text (by walk_at "val") (Nat.le_trans (len1000' (by walk_at "len")) (by decide)) ?_; (try k_fold))))
  k_with "len" => (with_reducible exact Front.len3 (by assumption))
  k_with "call builtin:str.split" => ((k_here; (with_reducible show wpAny _ _ (call (Value.builtin "str.split") [Value.str (tx _) _]) _ _ _); k_dflt (
  (refine KSpl.split0 (by k_asm) (by k_asm) ?_ (fits_l (len1000 (by walk_at "len"))))
  intro D' l' h' k' e' a' F' N' l1
  rw [Front.words (by assumption)] at e'
  (try k_lt l1)
  kspl_open e'
  simp only [strValues, List.map_cons, List.map_nil] at N' a'
  (try k_sweep)
  (try k_fold))))
  k_with "call builtin:str.endswith" => ((k_here; (with_reducible show wpAny _ _ (call (Value.builtin "str.endswith") [Value.str (tx _) _, Value.str _ _]) _ _ _); (refine SC.endswith ?_); (rw [Front.ends (by assumption)]); (try k_fold)))
  k_with "call builtin:str.rfind" => ((k_here; (with_reducible show wpAny _ _ (call (Value.builtin "str.rfind") [Value.str (tx _) _, Value.str _ _]) _ _ _); (refine KXw.rfind (Front.rfind (by assumption)) ?_); intro _ _; (try k_fold)))
  k_with "call builtin:str.lower" => ((k_here; (with_reducible show wpAny _ _ (call (Value.builtin "str.lower") [Value.str (tx _) _]) _ _ _); with_reducible refine KXw.lower (Front.lower (by assumption)) (fit_l (Front.lower (by assumption)) (Front.lenL (by assumption))) ?_; intro _ _; (try k_fold)))
  k_with "compareOp In str ref" => ((k_here; (with_reducible show wpAny _ _ (compareOp CmpOp.In (Value.str (tx _) _) (Value.ref 127)) _ _ _); k_dflt (refine' in_strsK dyTab (by k_asm) (by k_asm) (by k_is) (by decide +kernel) (by exact Front.notin (by assumption)) ?_; k_whole; (try k_fold))))
  k_with "fn:val" => ((walk_at "fn:end"; k_dflt (refine' leaveF_val (by k_asm) (by k_asm) (by walk_at "fn:args") ?_)))
  trivial
noncomputable def G_ptz0N (z : Dat) (S : List Nat) (tx0 : Tok) : Prop := Wrap ((Front S) → FnB z PySem.Challenge.rw_kl0450_03.row.prog (Mine.Internal.hd.heap_1 z.w.params) 1 142 [] [.str (tx S) tx0] (fun v new => new = [] ∧ ∃ _t : Tok, v = Value.none) (by k_is) (by exact BindsTo.of_eq rfl))
namespace D_ptz0N
noncomputable def zG (zt : Dat × List Nat × Tok) : Prop := G_ptz0N (zt.1) (zt.2.1) (zt.2.2)
noncomputable def zt : Dat × List Nat × Tok := haveI : Nonempty Dat := dat_some PySem.Challenge.rw_kl0450_03.row.prog; sk zG
@[irreducible] noncomputable def z : Dat := zt.1
@[irreducible] noncomputable def S : List Nat := zt.2.1
@[irreducible] noncomputable def tx0 : Tok := zt.2.2
theorem main : G_ptz0N z S tx0 := by
  refine Wrap.mk ?_
  intro hS
  walk_at "body"
  k_with "run:c_ptz0N" => (
    (try dsimp +zetaDelta only)
    as_aux_lemma =>
      walk_at "step"
      all_goals (repeat' ((fail_if_success (with_reducible guard_target = wpAny _ _ (execs (List.cons _ _) _) _ _ _)); walk_at "step"))
      all_goals (first | ((with_reducible guard_target = wpAny _ _ (execs (List.cons _ _) _) _ _ _); k_extra "run:c_ptz0N") | k_extra "tail:c_ptz0N"))
  k_with "tail:c_ptz0N" => (
  all_goals walk_at "fn:val"
  all_goals exact ⟨0, rfl⟩)
  all_goals (first | ((with_reducible guard_target = wpAny _ _ (execs (List.cons _ _) _) _ _ _); k_extra "run:c_ptz0N") | k_extra "tail:c_ptz0N")
theorem main' : zG zt := by with_unfolding_all exact main
theorem all (z : Dat) (S : List Nat) (tx0 : Tok) : G_ptz0N z S tx0 := haveI : Nonempty Dat := dat_some PySem.Challenge.rw_kl0450_03.row.prog; sk_all (G := zG) main' (z, S, tx0)
end D_ptz0N
theorem c_ptz0N (w : World) (S : List Nat) (tx0 : Tok) (hS : Front S) : Fn PySem.Challenge.rw_kl0450_03.row.prog w (Mine.Internal.hd.heap_1 w.params) 1 142 [] [.str (tx S) tx0] (fun v new => new = [] ∧ ∃ _t : Tok, v = Value.none) := by
  refine' Fn.of_B ?ho ?hb ?h ?hcd ?hl ?h0 ?h1 ?h2 ?h3 ?h4
  case ho => k_is
  case hb => exact fun _ => BindsTo.of_eq rfl
  case hcd => k_is
  case hl => exact locs rfl
  case h0 => decide
  case h1 => exact rfl
  case h2 => exact rfl
  case h3 => exact rfl
  case h4 => decide
  case h =>
    intro z hz
    subst hz
    exact Wrap.out (D_ptz0N.all z S tx0) hS
theorem words_PtN3_03_1 : True := by
  k_with "call ref" => ((k_here; (with_reducible show wpAny _ _ (call (Value.ref 142) _) _ _ _); k_dflt (refine' Fn.useV (c_ptz0N _ _ _ (by assumption)) (by k_asm) (by k_asm) (by k_asm) (by k_asm) (by k_asm) (by first | exact rfl | assumption) (by walk_at "fn:args") (by ktr_room) (by ktr_units) ?_); intro t9 h9 tk9 F9 N9; (try dsimp only); (try k_fold)))
  trivial
noncomputable def G_ptzN (z : Dat) (S : List Nat) (tx0 : Tok) : Prop := Wrap ((Front S) → FnB z PySem.Challenge.rw_kl0450_03.row.prog (Mine.Internal.hd.heap_1 z.w.params) 2 135 [] [.str (tx S) tx0] (fun v new => new = [] ∧ ∃ _t : Tok, v = Value.none) (by k_is) (by exact BindsTo.of_eq rfl))
namespace D_ptzN
noncomputable def zG (zt : Dat × List Nat × Tok) : Prop := G_ptzN (zt.1) (zt.2.1) (zt.2.2)
noncomputable def zt : Dat × List Nat × Tok := haveI : Nonempty Dat := dat_some PySem.Challenge.rw_kl0450_03.row.prog; sk zG
@[irreducible] noncomputable def z : Dat := zt.1
@[irreducible] noncomputable def S : List Nat := zt.2.1
@[irreducible] noncomputable def tx0 : Tok := zt.2.2
theorem main : G_ptzN z S tx0 := by
  refine Wrap.mk ?_
  intro hS
  walk_at "body"
  k_with "run:c_ptzN" => (
    (try dsimp +zetaDelta only)
    as_aux_lemma =>
      walk_at "step"
      all_goals (repeat' ((fail_if_success (with_reducible guard_target = wpAny _ _ (execs (List.cons _ _) _) _ _ _)); walk_at "step"))
      all_goals (first | ((with_reducible guard_target = wpAny _ _ (execs (List.cons _ _) _) _ _ _); k_extra "run:c_ptzN") | k_extra "tail:c_ptzN"))
  k_with "tail:c_ptzN" => (
  all_goals walk_at "fn:val"
  all_goals exact ⟨0, rfl⟩)
  all_goals (first | ((with_reducible guard_target = wpAny _ _ (execs (List.cons _ _) _) _ _ _); k_extra "run:c_ptzN") | k_extra "tail:c_ptzN")
theorem main' : zG zt := by with_unfolding_all exact main
theorem all (z : Dat) (S : List Nat) (tx0 : Tok) : G_ptzN z S tx0 := haveI : Nonempty Dat := dat_some PySem.Challenge.rw_kl0450_03.row.prog; sk_all (G := zG) main' (z, S, tx0)
end D_ptzN
theorem c_ptzN (w : World) (S : List Nat) (tx0 : Tok) (hS : Front S) : Fn PySem.Challenge.rw_kl0450_03.row.prog w (Mine.Internal.hd.heap_1 w.params) 2 135 [] [.str (tx S) tx0] (fun v new => new = [] ∧ ∃ _t : Tok, v = Value.none) := by
  refine' Fn.of_B ?ho ?hb ?h ?hcd ?hl ?h0 ?h1 ?h2 ?h3 ?h4
  case ho => k_is
  case hb => exact fun _ => BindsTo.of_eq rfl
  case hcd => k_is
  case hl => exact locs rfl
  case h0 => decide
  case h1 => exact rfl
  case h2 => exact rfl
  case h3 => exact rfl
  case h4 => decide
  case h =>
    intro z hz
    subst hz
    exact Wrap.out (D_ptzN.all z S tx0) hS
theorem words_PtN3_03_2 : True := by
  k_with "call ref" => ((k_here; (with_reducible show wpAny _ _ (call (Value.ref 135) _) _ _ _); k_dflt (refine' Fn.useV (c_ptzN _ _ _ (by assumption)) (by k_asm) (by k_asm) (by k_asm) (by k_asm) (by k_asm) (by first | exact rfl | assumption) (by walk_at "fn:args") (by ktr_room) (by ktr_units) ?_); intro t9 h9 tk9 F9 N9; (try dsimp only); (try k_fold)))
  trivial
noncomputable def G_pdN (z : Dat) (S : List Nat) (tx0 : Tok) : Prop := Wrap ((Front S) → FnB z PySem.Challenge.rw_kl0450_03.row.prog (Mine.Internal.hd.heap_1 z.w.params) 3 149 [] [.str (tx S) tx0] (fun v new => new = [] ∧ ∃ _t : Tok, v = Value.none) (by k_is) (by exact BindsTo.of_eq rfl))
namespace D_pdN
noncomputable def zG (zt : Dat × List Nat × Tok) : Prop := G_pdN (zt.1) (zt.2.1) (zt.2.2)
noncomputable def zt : Dat × List Nat × Tok := haveI : Nonempty Dat := dat_some PySem.Challenge.rw_kl0450_03.row.prog; sk zG
@[irreducible] noncomputable def z : Dat := zt.1
@[irreducible] noncomputable def S : List Nat := zt.2.1
@[irreducible] noncomputable def tx0 : Tok := zt.2.2
theorem main : G_pdN z S tx0 := by
  refine Wrap.mk ?_
  intro hS
  walk_at "body"
  k_with "run:c_pdN" => (
    (try dsimp +zetaDelta only)
    as_aux_lemma =>
      walk_at "step"
      all_goals (repeat' ((fail_if_success (with_reducible guard_target = wpAny _ _ (execs (List.cons _ _) _) _ _ _)); walk_at "step"))
      all_goals (first | ((with_reducible guard_target = wpAny _ _ (execs (List.cons _ _) _) _ _ _); k_extra "run:c_pdN") | k_extra "tail:c_pdN"))
  k_with "tail:c_pdN" => (
  all_goals walk_at "fn:val"
  all_goals exact ⟨0, rfl⟩)
  all_goals (first | ((with_reducible guard_target = wpAny _ _ (execs (List.cons _ _) _) _ _ _); k_extra "run:c_pdN") | k_extra "tail:c_pdN")
theorem main' : zG zt := by with_unfolding_all exact main
theorem all (z : Dat) (S : List Nat) (tx0 : Tok) : G_pdN z S tx0 := haveI : Nonempty Dat := dat_some PySem.Challenge.rw_kl0450_03.row.prog; sk_all (G := zG) main' (z, S, tx0)
end D_pdN
theorem c_pdN (w : World) (S : List Nat) (tx0 : Tok) (hS : Front S) : Fn PySem.Challenge.rw_kl0450_03.row.prog w (Mine.Internal.hd.heap_1 w.params) 3 149 [] [.str (tx S) tx0] (fun v new => new = [] ∧ ∃ _t : Tok, v = Value.none) := by
  refine' Fn.of_B ?ho ?hb ?h ?hcd ?hl ?h0 ?h1 ?h2 ?h3 ?h4
  case ho => k_is
  case hb => exact fun _ => BindsTo.of_eq rfl
  case hcd => k_is
  case hl => exact locs rfl
  case h0 => decide
  case h1 => exact rfl
  case h2 => exact rfl
  case h3 => exact rfl
  case h4 => decide
  case h =>
    intro z hz
    subst hz
    exact Wrap.out (D_pdN.all z S tx0) hS
end
end Mine.Internal

end
section
open PySem PySem.W PyProof.Rows PySem.Calls PySem.Spec
set_option Elab.async false
namespace Mine.Internal
section
set_option maxRecDepth 100000
set_option maxHeartbeats 8000000
theorem filled_PageC : PySem.Challenge.rw_kl0450_03 = PySem.Challenge.rw_kl0450_03 ∧ ∀ P, Mine.Internal.hd.heap_1 P = Mine.Internal.hd.heap_1 P := by
  k_fill
  exact ⟨rfl, fun _ => rfl⟩
theorem words_PageC_03_0 : True := by
  k_with_none
  w_top off
  k_with "all" => (first
  | (with_reducible refine allNe_of_lt ?_; with_reducible assumption)
  | (with_reducible refine allNe_of_allLt ?_; with_reducible assumption)
  | (with_reducible refine AllNe.mem ?_; with_reducible assumption)
  | exact List.forall_mem_nil _
  | (refine' List.forall_mem_cons.mpr ⟨(by k_ne), (by k_all)⟩))
  k_with "ne" => ((refine neN ?_; (try dsimp only); first | (with_reducible refine NeA.out ?_; with_reducible assumption) | (with_reducible refine Ne.symm (NeA.out ?_); with_reducible assumption) | omega))
  k_with "body" => ((
  refine Wrap.mk ?_
  intro zzF' zzN' zzB' zzX' zzT' zzhk zzhd zzhu
  (try dsimp only)
  (try k_lift zzB')
  (try k_fold)))
  k_with "fn:args" => (exact SubL.mem (by k_subL))
  k_with "fn:end" => ((repeat (first | k_unfold | dsimp only)))
  k_with "idx" => (first | omega | (simp only [fm12]; omega) | (simp only [fd32, fd4, fd100, fd400, fd365, fd1461, fd36524, fd146097, fm365, fm1461, fm36524, fm146097, dbmT]; omega) | (rename ((_ : Int) < dbmT _ + _) => hx9; simp only [dbmT, fd32] at hx9 ⊢; omega))
  k_with "fn:int" => ((walk_at "fn:end"; k_dflt (refine' leaveF_int (by k_asm) (by k_asm) (by walk_at "fn:args") ?_)))
  k_with "fn:bool" => ((walk_at "fn:end"; k_dflt (refine' leaveF_bool (by k_asm) (by k_asm) (by walk_at "fn:args") ?_)))
  k_with "fn:str" => ((walk_at "fn:end"; k_dflt (refine' leaveF_str (by k_asm) (by k_asm) (by walk_at "fn:args") ?_)))
  k_with "fn:obj" => ((walk_at "fn:end"; k_dflt (refine' leaveF_obj (by k_asm) (by k_asm) (by walk_at "fn:args") (by k_mem) (by k_all) ?_)))
  k_with "ediv" => (simp only [fd4, fd5, fd7, fd12, fd60, fd100, fd400, fd365, fd1461, fd3600, fd36524, fd86400, fd146097, fm4, fm7, fm12, fm60, fm100, fm365, fm400, fm1461, fm36524, fm86400, fm146097] at *)
  k_with "fnC:obj" => ((walk_at "fn:end"; k_dflt (refine' leaveT_obj (by first | assumption | exact KtsTurn.refl) (by k_asm) (by k_asm) (by walk_at "fn:args") (by k_mem) (by k_all) ?_)))
  k_with "wpC" => (first
  | with_reducible refine wpC_cons ?_
  | with_reducible refine wpC_nil ?_)
  k_with "ite" => ((k_here; first
  | (k_closed; k_dflt (first | refine ite_pos (by decide) ?_ | refine ite_neg (by decide) ?_))
  | refine ite_pos (by with_reducible assumption) ?_
  | refine ite_neg (by with_reducible assumption) ?_
  | refine ite_isFalse (by with_reducible assumption) ?_
  | refine ite_pos (by k_dec) ?_
  | refine ite_neg (by k_dec) ?_))
  k_with "step" => (first | (k_unfold; (try dsimp only)) | (k_end; wrow_close) | ((with_reducible guard_target = wpAny _ _ (newTuple _) _ _ _); dsimp only; walk1) | walk1 | (dsimp only; walk1) | (leave1; try dsimp only))
  k_with "bodyT" => ((
  refine Wrap.mk ?_
  intro zzF' zzN' zzB' zzX' zzT' zzXB' zzTB' zzD' zzhk zzhd zzhu
  (try dsimp only)
  (try k_lift zzB')
  (try k_fold)))
  k_with "bodyC" => ((
  refine Wrap.mk ?_
  intro zzF' zzN' zzB' zzX' zzT' zzXB' zzTB' zzD' zzhk zzhd zzhu
  (try dsimp only)
  (try k_lift zzB')))
  k_with "wpC" => ((k_here; (with_reducible show wpC _ _ (execs (Stmt.For _ _ _ _ _ :: _) _) _ _ _); k_dflt (refine wpC_consC ?_; refine wpC_For ?_); (try k_fold)))
  k_with "pyIter ref" => ((k_here; (with_reducible show wpAny _ _ (pyIter (Value.ref _)) (fun it s₂ => codeC _ _ _ _ s₂) _ _); refine Stop.out ?_))
  k_with "ieq" => (first | with_reducible rfl | with_reducible assumption | (with_reducible refine Eq.symm ?_; with_reducible assumption))
  k_with "compareOp NotEq int int" => ((k_here; (with_reducible show wpAny _ _ (compareOp CmpOp.NotEq (Value.int _ _) (Value.int _ _)) _ _ _); k_dflt (refine' nei_same (by walk_at "ieq") ?_; (try k_fold))))
  k_with "call builtin:sorted" => ((k_here; (with_reducible show wpAny _ _ (call (Value.builtin _) [Value.ref _]) _ _ _); k_dflt (refine' sorted_rows (by k_asm) (by k_asm) (by k_mem) (by with_reducible assumption) (by with_reducible assumption) ?_; k_whole); intro D9 h9 vs9 ss9 e9 F9 N9 l9 S9 p9 o9; (try k_lt l9); (try k_sweep); (try k_fold)))
  k_with "call builtin:sorted" => ((k_here; (with_reducible show wpAny _ _ (call (Value.builtin _) [Value.ref _]) _ _ _); k_dflt (refine' sorted_order (by k_asm) (by k_asm) (by k_mem) (by with_reducible assumption) (by with_reducible assumption) (by with_reducible assumption) ?_; k_whole); intro D9 h9 vs9 ss9 e9 F9 N9 l9 S9 p9 o9; (try k_lt l9); (try k_sweep); (try k_fold)))
  k_with "subscriptTail Name Name ref int" => ((k_here; (with_reducible show wpAny _ _ (subscriptTail _ _ (Value.ref _) (Value.int _ _)) _ _ _); k_dflt (refine' item_nat (by k_asm) (by k_mem) (by with_reducible assumption) (by omega) ?_ (by with_unfolding_all rfl) (by intro _; with_unfolding_all rfl); k_whole); (try k_fold)))
  k_with "binaryOp Sub ref ref" => ((k_here; (with_reducible show wpAny _ _ (binaryOp _ (Value.ref _) (Value.ref _)) _ _ _); k_dflt (refine' gapM (by k_asm) (by k_asm) (by with_reducible assumption) (by k_mem) (by k_mem) ?_; k_whole); intro l9 h9 F9 N9 q9; (try k_lt q9); (try k_sweep); (try k_fold)))
  k_with "getAttr ref" => ((k_here; (with_reducible show wpAny _ _ (getAttr (Value.ref _) (PySem.Str.ofString "days") _) _ _ _); k_dflt (refine' attrK_td_days (by k_asm) (by k_mem) ?_; k_whole); intro t9 k9; (try k_fold)))
  k_with "getAttr ref" => ((k_here; (with_reducible show wpAny _ _ (getAttr (Value.ref _) (PySem.Str.ofString "seconds") _) _ _ _); k_dflt (refine' attrK_td_seconds (by k_asm) (by k_mem) ?_; k_whole); intro t9 k9; (try k_fold)))
  k_with "getAttr ref" => ((k_here; (with_reducible show wpAny _ _ (getAttr (Value.ref _) (PySem.Str.ofString "microsecond") _) _ _ _); k_dflt (refine' attrK_microsecond (by k_asm) (by k_mem) ?_; k_whole); intro t9 k9; (try k_fold)))
  k_with "getAttr ref" => ((k_here; (with_reducible show wpAny _ _ (getAttr (Value.ref _) (PySem.Str.ofString "tzinfo") _) _ _ _); k_dflt (refine' attrK_tzinfo (by k_asm) (by k_mem) ?_; k_whole); intro t9 k9; (try k_fold)))
  k_with "setItem ref str str" => ((k_here; (with_reducible show wpAny _ _ (setItem (Value.ref _) (Value.str _ _) (Value.str _ _)) _ _ _); k_dflt (refine' kda_set (knd := PySem.strKind _ _) (by k_asm) (by k_asm) (by k_updF) (by k_asm) (strKind_is _ _ _ _) (by with_reducible assumption) ?_; k_whole); intro h9 o9 F9 N9 d9; (try k_sweep); (try k_fold)))
  k_with "eval Dict nil nil" => ((k_here; k_dflt (refine' newDict_K (by k_asm) (by k_asm) (by exact Top.nolimit (by assumption)) ?_; k_whole); intro d9 h9 o9 F9 N9 l1 lo9 hs9 fs9 hi9 fi9; clear fs9 hi9 fi9; (try k_lt l1); (try k_sweep); (try k_fold)))
  k_with "call builtin:len" => ((k_here; (with_reducible show wpAny _ _ (call (Value.builtin _) [Value.ref _]) _ _ _); k_dflt (refine' len_nat (by k_asm) (by k_mem) (by exact len_rows (by with_reducible assumption) (by with_reducible assumption)) (by exact Pairs3.n1000 (by with_reducible assumption)) ?_; k_whole); intro t9 k9; (try k_fold)))
  k_with "ne" => ((refine neN ?_; (try dsimp only); first | (with_reducible refine' ne_of_all (by with_reducible assumption) (by k_dflt k_mem)) | (with_reducible refine' en_of_all (by with_reducible assumption) (by k_dflt k_mem)) | fail "no"))
  k_with "call ref" => ((k_here; (with_reducible show wpAny _ _ (call (Value.ref 66) _) _ _ _); k_dflt (refine' Fn.useO (c_dfsM _ _ _ _ (by assumption) (by assumption)) (by k_asm) (by k_asm) (by k_asm) (by k_asm) (by k_asm) (by first | exact rfl | assumption) (by walk_at "fn:args") (by ktr_room) (by ktr_units) ?_); intro D9 o9 h9 tk9 ho9 F9 N9 hne9; have e9 : _ = _ := ho9; subst e9; (try dsimp only); (try k_fold)))
  k_with "call ref" => ((k_here; (with_reducible show wpAny _ _ (call (Value.ref 66) _) _ _ _); k_dflt (refine' Fn.useO (c_dfs0 _ _) (by k_asm) (by k_asm) (by k_asm) (by k_asm) (by k_asm) (by first | exact rfl | assumption) (by walk_at "fn:args") (by ktr_room) (by ktr_units) ?_); intro D9 o9 h9 tk9 ho9 F9 N9 hne9; have e9 : _ = _ := ho9; subst e9; (try dsimp only); (try k_fold)))
  k_with "call ref" => ((k_here; (with_reducible show wpAny _ _ (call (Value.ref 73) _) _ _ _); k_dflt (refine' Fn.useVA (by k_asm) (by k_mem) (c_dts _ _ _ _ _ _ _ _ (by assumption) (by assumption) (by assumption) (by assumption) (by assumption) (by assumption)) (by k_asm) (by k_asm) (by k_asm) (by k_asm) (by first | exact rfl | assumption) (by ktr_room) (by ktr_units) ?_; intro t9 h9 tk9 F9 N9; (try dsimp only); (try k_fold))))
  trivial
noncomputable def G_page (z : Dat) (ps : List (Int × List Nat)) (vs : List Value) (us : List Value) (ns : List Int) (a : Addr) (b : Addr) (n0 : Nat) (n1 : Nat) : Prop := Wrap ((Pairs3 ps) → (StrsAre vs (ps.map lineS)) → (IntsAre us ns) → (ns.Perm (ps.map (·.1))) → FnCB z PySem.Challenge.rw_kl0450_03.row.prog (Mine.Internal.hd.heap_1 z.w.params) 6 198 [(a, PySem.W.listOf vs.toArray n0), (b, PySem.W.listOf us.toArray n1)] [.ref a, .ref b] (fun v new => ∃ D o, v = .ref D ∧ new = [(D, o)] ∧ PageOk PySem.Challenge.rw_kl0450_03.row.prog z.w ps D o) (by k_is) (by exact BindsTo.of_eq rfl))
namespace D_page
noncomputable def zG (zt : Dat × List (Int × List Nat) × List Value × List Value × List Int × Addr × Addr × Nat × Nat) : Prop := G_page (zt.1) (zt.2.1) (zt.2.2.1) (zt.2.2.2.1) (zt.2.2.2.2.1) (zt.2.2.2.2.2.1) (zt.2.2.2.2.2.2.1) (zt.2.2.2.2.2.2.2.1) (zt.2.2.2.2.2.2.2.2)
noncomputable def zt : Dat × List (Int × List Nat) × List Value × List Value × List Int × Addr × Addr × Nat × Nat := haveI : Nonempty Dat := dat_some PySem.Challenge.rw_kl0450_03.row.prog; sk zG
@[irreducible] noncomputable def z : Dat := zt.1
@[irreducible] noncomputable def ps : List (Int × List Nat) := zt.2.1
@[irreducible] noncomputable def vs : List Value := zt.2.2.1
@[irreducible] noncomputable def us : List Value := zt.2.2.2.1
@[irreducible] noncomputable def ns : List Int := zt.2.2.2.2.1
@[irreducible] noncomputable def a : Addr := zt.2.2.2.2.2.1
@[irreducible] noncomputable def b : Addr := zt.2.2.2.2.2.2.1
@[irreducible] noncomputable def n0 : Nat := zt.2.2.2.2.2.2.2.1
@[irreducible] noncomputable def n1 : Nat := zt.2.2.2.2.2.2.2.2
theorem main : G_page z ps vs us ns a b n0 n1 := by
  refine Wrap.mk ?_
  intro P hS hI hN
  walk_at "bodyC"
  k_with "run:c_page" => (
    (try dsimp +zetaDelta only)
    as_aux_lemma =>
      walk_at "step"
      all_goals (repeat' ((fail_if_success (first | (with_reducible guard_target = wpC _ _ (execs (List.cons _ _) _) _ _ _) | (with_reducible guard_target = wpAny _ _ (execs (List.cons _ _) _) _ _ _))); walk_at "step"))
      all_goals (first | ((first | (with_reducible guard_target = wpC _ _ (execs (List.cons _ _) _) _ _ _) | (with_reducible guard_target = wpAny _ _ (execs (List.cons _ _) _) _ _ _)); k_extra "run:c_page") | k_extra "tail:c_page"))
  k_with "tail:c_page" => (
  refine ⟨?_⟩
  rename IsRange _ _ _ _ _ _ _ _ => R3
  rename Fr _ _ _ _ => F3
  rename News _ _ _ _ => N3
  rename sortedS _ = true => hsr
  rename List.Pairwise _ _ => hpw
  clear hN
  rename List.Perm _ (List.map lineS _) => hp1
  rename List.Perm _ (List.map _ _) => hp2
  rename Obj.IsDictOf _ _ _ => hd0
  rename (_ == sysModules) = false => lo0
  rename IntsAre _ _ => hU
  rename StrsAre _ _ => hT
  obtain ⟨qs, hq, eS, eN⟩ := page_sort P hp1 hsr hp2 hpw
  subst eS
  subst eN
  have hnq := hq.length_eq
  have hn8 := P.n8
  clear hp1 hsr hp2 hpw
  obtain ⟨PA, ePA, _⟩ := pinR F3 (PySem.Str.ofString "page") rfl
  subst ePA
  obtain ⟨R0, eR0, _⟩ := pinR F3 (PySem.Str.ofString "rows") rfl
  subst eR0
  obtain ⟨O0, eO0, _⟩ := pinR F3 (PySem.Str.ofString "order") rfl
  subst eO0
  obtain ⟨G0, eG0, _⟩ := pinR F3 (PySem.Str.ofString "origin") rfl
  subst eG0
  obtain ⟨tl, etl, N4⟩ := pin_tail N3
  refine for_rangeT (Gd := fun g => g = z.g) ps.length (JPg PySem.Challenge.rw_kl0450_03.row.prog z.w PA R0 O0 G0 qs tl) rfl R3 (range1 rfl) (small1 rfl P.n8) rfl F3 N4 ?h0 ?turn ?done ?ht ?hE
  case h0 => exact JPg.mk _ _ rfl rfl rfl rfl rfl hd0 (PgI.start _)
  case ht => intro I v; rfl
  case hE => with_unfolding_all passes_own
  case turn =>
    intro Q' E' i g m₁ news₁ I hp tk tv hlt G hJ hI F₁ N₁
    subst G
    obtain ⟨o1, kvs1, p1, p2, p3, p4, rfl, hd1, hg1⟩ := hJ
    rw [map_pin4 p1 p2 p3 p4] at F₁
    subst etl
    clear F3 N3 N4 R3 hd0 p1 p2 p3 p4
    have hiq : i < qs.length := by omega
    obtain ⟨x, r, t, u, hq1, hv1, hu1, hz1, hr1⟩ := pg_row P hq hT hU hiq
    have hm1 := hz1.mo
    have hgap := gap_sum x
    have hf := ff hm1
    have g1 : 0 ≤ fY x ∧ fY x < 10000 := by have := hf.hy; omega
    have g2 : 0 ≤ fM x ∧ fM x < 100 := by have := hf.hm; omega
    have g3 : 0 ≤ fD x ∧ fD x < 100 := by have := hf.hd; omega
    have g4 : 0 ≤ fH x ∧ fH x < 100 := by have := hf.hh; omega
    have g5 : 0 ≤ fI x ∧ fI x < 100 := by have := hf.hi; omega
    have g6 : 0 ≤ fS x ∧ fS x < 100 := by have := hf.hs; omega
    have hsz : kvs1.length ≤ sizeLine := by rw [sizeLine_eq]; have := hg1.len; omega
    have hIP : NeA PA I := hI.1
    simp only [Int.zero_add, Int.mul_one]
    k_with "run:pg" => (
      (try dsimp +zetaDelta only)
      as_aux_lemma =>
        walk_at "step"
        all_goals (repeat' ((fail_if_success (first | (with_reducible guard_target = wpC _ _ (execs (List.cons _ _) _) _ _ _) | (with_reducible guard_target = wpAny _ _ (execs (List.cons _ _) _) _ _ _))); walk_at "step"))
        all_goals (first | ((first | (with_reducible guard_target = wpC _ _ (execs (List.cons _ _) _) _ _ _) | (with_reducible guard_target = wpAny _ _ (execs (List.cons _ _) _) _ _ _)); k_extra "run:pg") | k_extra "tail:pg"))
    k_with "tail:pg" => (
      (try dsimp only)
      rename Fr _ _ _ _ => F2
      rename News _ _ _ _ => N2
      rename Obj.IsDictOf _ _ (stored _ _ _) => hd2
      k_dflt (refine' TurnEndT.pg rfl F2 N2 hI ?m1 ?m2 ?m3 rfl rfl rfl rfl hd2 (PgI.next hg1 P hq hq1); (case m1 => k_mem); (case m2 => k_mem); (case m3 => (intro p hp; repeat (first | exact hp | refine List.Mem.tail _ ?_)))))
    all_goals (repeat' ((fail_if_success (first | (with_reducible guard_target = wpC _ _ (execs (List.cons _ _) _) _ _ _) | (with_reducible guard_target = wpAny _ _ (execs (List.cons _ _) _) _ _ _))); walk_at "step"))
    all_goals (first | ((first | (with_reducible guard_target = wpC _ _ (execs (List.cons _ _) _) _ _ _) | (with_reducible guard_target = wpAny _ _ (execs (List.cons _ _) _) _ _ _)); k_extra "run:pg") | k_extra "tail:pg")
  case done =>
    intro g m₁ news₁ hp tk G hJ F₁ N₁
    subst G
    obtain ⟨o3, kvs3, p1, p2, p3, p4, rfl, hd3, hg3⟩ := hJ
    rw [map_pin4 p1 p2 p3 p4] at F₁
    subst etl
    clear F3 N3 N4 R3 hd0 p1 p2 p3 p4
    have n3 : qs.length = ps.length := hnq
    k_with "run:pn" => (
      (try dsimp +zetaDelta only)
      as_aux_lemma =>
        walk_at "step"
        all_goals (repeat' ((fail_if_success (first | (with_reducible guard_target = wpC _ _ (execs (List.cons _ _) _) _ _ _) | (with_reducible guard_target = wpAny _ _ (execs (List.cons _ _) _) _ _ _))); walk_at "step"))
        all_goals (first | ((first | (with_reducible guard_target = wpC _ _ (execs (List.cons _ _) _) _ _ _) | (with_reducible guard_target = wpAny _ _ (execs (List.cons _ _) _) _ _ _)); k_extra "run:pn") | k_extra "tail:pn"))
    k_with "tail:pn" => (
      walk_at "fn:end"
      refine leaveT_page KtsTurn.refl (by assumption) (by assumption) (by walk_at "fn:args") (by k_mem) (by k_all) lo0 hd3 (n3 ▸ hg3) hq)
    all_goals (repeat' ((fail_if_success (first | (with_reducible guard_target = wpC _ _ (execs (List.cons _ _) _) _ _ _) | (with_reducible guard_target = wpAny _ _ (execs (List.cons _ _) _) _ _ _))); walk_at "step"))
    all_goals (first | ((first | (with_reducible guard_target = wpC _ _ (execs (List.cons _ _) _) _ _ _) | (with_reducible guard_target = wpAny _ _ (execs (List.cons _ _) _) _ _ _)); k_extra "run:pn") | k_extra "tail:pn")
)
  all_goals (first | ((first | (with_reducible guard_target = wpC _ _ (execs (List.cons _ _) _) _ _ _) | (with_reducible guard_target = wpAny _ _ (execs (List.cons _ _) _) _ _ _)); k_extra "run:c_page") | k_extra "tail:c_page")
theorem main' : zG zt := by with_unfolding_all exact main
theorem all (z : Dat) (ps : List (Int × List Nat)) (vs : List Value) (us : List Value) (ns : List Int) (a : Addr) (b : Addr) (n0 : Nat) (n1 : Nat) : G_page z ps vs us ns a b n0 n1 := haveI : Nonempty Dat := dat_some PySem.Challenge.rw_kl0450_03.row.prog; sk_all (G := zG) main' (z, ps, vs, us, ns, a, b, n0, n1)
end D_page
theorem c_page (w : World) (ps : List (Int × List Nat)) (vs us : List Value) (ns : List Int) (a b : Addr) (n0 n1 : Nat) (P : Pairs3 ps) (hS : StrsAre vs (ps.map lineS)) (hI : IntsAre us ns) (hN : ns.Perm (ps.map (·.1))) : FnC PySem.Challenge.rw_kl0450_03.row.prog w (Mine.Internal.hd.heap_1 w.params) 6 198 [(a, PySem.W.listOf vs.toArray n0), (b, PySem.W.listOf us.toArray n1)] [.ref a, .ref b] (fun v new => ∃ D o, v = .ref D ∧ new = [(D, o)] ∧ PageOk PySem.Challenge.rw_kl0450_03.row.prog w ps D o) := by
  refine' FnC.of_B ?ho ?hb ?h ?hcd ?hl ?h0 ?h1 ?h2 ?h3 ?h4
  case ho => k_is
  case hb => exact fun _ => BindsTo.of_eq rfl
  case hcd => k_is
  case hl => exact locs rfl
  case h0 => decide
  case h1 => exact rfl
  case h2 => exact rfl
  case h3 => exact rfl
  case h4 => decide
  case h =>
    intro z hz
    subst hz
    exact Wrap.out (D_page.all z ps vs us ns a b n0 n1) P hS hI hN
end
end Mine.Internal

end
section
open PySem PySem.W PyProof.Rows PySem.Calls PySem.Spec
set_option Elab.async false
namespace Mine.Internal
section
set_option maxRecDepth 100000
set_option maxHeartbeats 8000000
theorem filled_LawW : PySem.Challenge.rw_kl0450_03 = PySem.Challenge.rw_kl0450_03 ∧ ∀ P, Mine.Internal.hd.heap_1 P = Mine.Internal.hd.heap_1 P := by
  k_fill
  exact ⟨rfl, fun _ => rfl⟩
theorem words_LawW_03_0 : True := by
  k_with_none
  w_top off
  k_with "all" => (first
  | (with_reducible refine allNe_of_lt ?_; with_reducible assumption)
  | (with_reducible refine allNe_of_allLt ?_; with_reducible assumption)
  | (with_reducible refine AllNe.mem ?_; with_reducible assumption)
  | exact List.forall_mem_nil _
  | (refine' List.forall_mem_cons.mpr ⟨(by k_ne), (by k_all)⟩))
  k_with "ne" => ((refine neN ?_; (try dsimp only); first | (with_reducible refine NeA.out ?_; with_reducible assumption) | (with_reducible refine Ne.symm (NeA.out ?_); with_reducible assumption) | omega))
  k_with "body" => ((
  refine Wrap.mk ?_
  intro zzF' zzN' zzB' zzX' zzT' zzhk zzhd zzhu
  (try dsimp only)
  (try k_lift zzB')
  (try k_fold)))
  k_with "fn:args" => (exact SubL.mem (by k_subL))
  k_with "fn:end" => ((repeat (first | k_unfold | dsimp only)))
  k_with "idx" => (first | omega | (simp only [fm12]; omega) | (simp only [fd32, fd4, fd100, fd400, fd365, fd1461, fd36524, fd146097, fm365, fm1461, fm36524, fm146097, dbmT]; omega) | (rename ((_ : Int) < dbmT _ + _) => hx9; simp only [dbmT, fd32] at hx9 ⊢; omega))
  k_with "fn:int" => ((walk_at "fn:end"; k_dflt (refine' leaveF_int (by k_asm) (by k_asm) (by walk_at "fn:args") ?_)))
  k_with "fn:bool" => ((walk_at "fn:end"; k_dflt (refine' leaveF_bool (by k_asm) (by k_asm) (by walk_at "fn:args") ?_)))
  k_with "fn:str" => ((walk_at "fn:end"; k_dflt (refine' leaveF_str (by k_asm) (by k_asm) (by walk_at "fn:args") ?_)))
  k_with "fn:obj" => ((walk_at "fn:end"; k_dflt (refine' leaveF_obj (by k_asm) (by k_asm) (by walk_at "fn:args") (by k_mem) (by k_all) ?_)))
  k_with "ediv" => (simp only [fd4, fd5, fd7, fd12, fd60, fd100, fd400, fd365, fd1461, fd3600, fd36524, fd86400, fd146097, fm4, fm7, fm12, fm60, fm100, fm365, fm400, fm1461, fm36524, fm86400, fm146097] at *)
  k_with "fnC:obj" => ((walk_at "fn:end"; k_dflt (refine' leaveT_obj (by first | assumption | exact KtsTurn.refl) (by k_asm) (by k_asm) (by walk_at "fn:args") (by k_mem) (by k_all) ?_)))
  k_with "wpC" => (first
  | with_reducible refine wpC_cons ?_
  | with_reducible refine wpC_nil ?_)
  k_with "ite" => ((k_here; first
  | (k_closed; k_dflt (first | refine ite_pos (by decide) ?_ | refine ite_neg (by decide) ?_))
  | refine ite_pos (by with_reducible assumption) ?_
  | refine ite_neg (by with_reducible assumption) ?_
  | refine ite_isFalse (by with_reducible assumption) ?_
  | refine ite_pos (by k_dec) ?_
  | refine ite_neg (by k_dec) ?_))
  k_with "step" => (first | (k_unfold; (try dsimp only)) | (k_end; wrow_close) | ((with_reducible guard_target = wpAny _ _ (newTuple _) _ _ _); dsimp only; walk1) | walk1 | (dsimp only; walk1) | (leave1; try dsimp only))
  k_with "bodyT" => ((
  refine Wrap.mk ?_
  intro zzF' zzN' zzB' zzX' zzT' zzXB' zzTB' zzD' zzhk zzhd zzhu
  (try dsimp only)
  (try k_lift zzB')
  (try k_fold)))
  k_with "bodyC" => ((
  refine Wrap.mk ?_
  intro zzF' zzN' zzB' zzX' zzT' zzXB' zzTB' zzD' zzhk zzhd zzhu
  (try dsimp only)
  (try k_lift zzB')))
  k_with "getAttr ref" => ((k_here; (with_reducible show wpAny _ _ (getAttr (Value.ref _) (PySem.Str.ofString "year") _) _ _ _); k_dflt (refine' attrK_year (by k_asm) (by k_mem) ?_; k_whole); intro t9 k9; (try k_fold)))
  k_with "getAttr ref" => ((k_here; (with_reducible show wpAny _ _ (getAttr (Value.ref _) (PySem.Str.ofString "month") _) _ _ _); k_dflt (refine' attrK_month (by k_asm) (by k_mem) ?_; k_whole); intro t9 k9; (try k_fold)))
  k_with "getAttr ref" => ((k_here; (with_reducible show wpAny _ _ (getAttr (Value.ref _) (PySem.Str.ofString "day") _) _ _ _); k_dflt (refine' attrK_day (by k_asm) (by k_mem) ?_; k_whole); intro t9 k9; (try k_fold)))
  k_with "getAttr ref" => ((k_here; (with_reducible show wpAny _ _ (getAttr (Value.ref _) (PySem.Str.ofString "hour") _) _ _ _); k_dflt (refine' attrK_hour (by k_asm) (by k_mem) ?_; k_whole); intro t9 k9; (try k_fold)))
  k_with "getAttr ref" => ((k_here; (with_reducible show wpAny _ _ (getAttr (Value.ref _) (PySem.Str.ofString "minute") _) _ _ _); k_dflt (refine' attrK_minute (by k_asm) (by k_mem) ?_; k_whole); intro t9 k9; (try k_fold)))
  k_with "getAttr ref" => ((k_here; (with_reducible show wpAny _ _ (getAttr (Value.ref _) (PySem.Str.ofString "second") _) _ _ _); k_dflt (refine' attrK_second (by k_asm) (by k_mem) ?_; k_whole); intro t9 k9; (try k_fold)))
  k_with "getAttr ref" => ((k_here; (with_reducible show wpAny _ _ (getAttr (Value.ref _) (PySem.Str.ofString "microsecond") _) _ _ _); k_dflt (refine' attrK_microsecond (by k_asm) (by k_mem) ?_; k_whole); intro t9 k9; (try k_fold)))
  k_with "getAttr ref" => ((k_here; (with_reducible show wpAny _ _ (getAttr (Value.ref _) (PySem.Str.ofString "tzinfo") _) _ _ _); k_dflt (refine' attrK_tzinfo (by k_asm) (by k_mem) ?_; k_whole); intro t9 k9; (try k_fold)))
  k_with "lawC:enter" => ((
  k_fill
  intro zzw zzs₀ zzs₁ zzmg zzmb zzG zzY zzfa zzo zzpm zzcd zzdoc zzdV zzkV zzho zzhd zzhcd zzhD zzhmg zzhg zzargs zzvals zzas zzhpre zzhlay zzhrd zzhwl zzhlo
  have zzKX := kIn_of zzY
  have zzX := (Ground.X zzG).1
  have zzV := (Ground.X zzG).2
  refine Ground.open zzG ?_
  intro zzT zzB zzD zzTE zzTW
  clear zzD
  wrow_args zzhpre zzhlay zzhrd zzhwl zzhlo
  refine enterC ?_
  w_top on
  refine codeC_mono ?_ (fun _ _ g => GoodW.toG g)
  have zzK0 := below_caller (Top.heap zzT)
  have zzhe := Dflts.none zzhD rfl; subst zzhe
  refine call_fullC (by decide) zzho zzhd (Top.nolimit zzT) zzhcd (BindsTo.of_eq rfl) (locs rfl) fun zzh₁ zzF => ?_
  w_binds zzF
  have zzN0 := (News.nil : News _ _ _ []).at zzF
  clear zzhd zzhmg
  k_drop))
  k_with "wpC" => ((k_here; (with_reducible show wpC _ _ (execs (Stmt.For _ _ _ _ _ :: _) _) _ _ _); k_dflt (refine wpC_consC ?_; refine wpC_For ?_); (try k_fold)))
  k_with "pyIter ref" => ((k_here; (with_reducible show wpAny _ _ (pyIter (Value.ref _)) (fun it s₂ => codeC _ _ _ _ s₂) _ _); refine Stop.out ?_))
  k_with "ieq" => (first | with_reducible rfl | with_reducible assumption | (with_reducible refine Eq.symm ?_; with_reducible assumption) | omega)
  k_with "eqvs" => (first | exact eqvs_nil | (refine eqvs_int (by walk_at "ieq") (by walk_at "eqvs")))
  k_with "eqv" => (first | (with_reducible refine eqv_tup ?_; walk_at "eqvs") | (with_reducible refine eqv_list ?_; walk_at "eqvs"))
  k_with "compareOp NotEq ref ref" => ((k_here; (with_reducible show wpAny _ _ (compareOp CmpOp.NotEq (Value.ref _) (Value.ref _)) _ _ _); k_dflt (refine' ne_same (by ke_read) (by ke_read) (by ke_shaped) (by ke_shaped) (by ke_room) (by walk_at "eqv") ?_; (try k_fold))))
  k_with "compareOp Eq ref ref" => ((k_here; (with_reducible show wpAny _ _ (compareOp CmpOp.Eq (Value.ref _) (Value.ref _)) _ _ _); k_dflt (refine' eqd_same (by ke_read) (by ke_read) (by ke_shaped) (by ke_shaped) (by ke_room) (by walk_at "eqv") ?_; (try k_fold))))
  k_with "compareOp NotEq int int" => ((k_here; (with_reducible show wpAny _ _ (compareOp CmpOp.NotEq (Value.int _ _) (Value.int _ _)) _ _ _); k_dflt (refine' nei_same (by walk_at "ieq") ?_; (try k_fold))))
  k_with "compareOp NotEq str str" => ((k_here; (with_reducible show wpAny _ _ (compareOp CmpOp.NotEq (Value.str _ _) (Value.str _ _)) _ _ _); k_dflt (refine' nes_same (by with_reducible rfl) ?_; (try k_fold))))
  k_with "binaryOp Mod str ref" => ((k_here; (with_reducible show wpAny _ _ (binaryOp Operator.Mod (Value.str _ _) (Value.ref _)) _ _ _); k_dflt (refine' KPt.mod_tuple (by k_asm) (by k_mem) ?_ (by exact fmt_stampL _ _ _ _ _ _ _ _ _ _ _ _ _ _ (by assumption) (by assumption) (by assumption) (by assumption) (by assumption) (by assumption)) ?_; (decide +kernel)); intro t9 k9; (try k_fold)))
  k_with "And" => (((with_reducible show keepIn _ _ = true ∧ _); refine ⟨by k_is, ?_⟩; (try dsimp only [List.nil_append, List.cons_append])))
  k_with "And" => (((with_reducible show Frag.In _ _ ∧ _); refine ⟨by k_in, ?_⟩; (try dsimp only [List.nil_append, List.cons_append])))
  k_with "wpC" => ((k_here; (with_reducible show wpC _ _ (execs (Stmt.Assign [Expr.Name _ _] (Expr.Call (Expr.Name (PySem.Str.ofString "parsedate") _) _ _ _) _ :: _) _) _ _ _); k_dflt (refine wpC_consC ?_; refine wpC_AssignName ?_; rename Frag.In _ _ => X9; refine wpC_CallK X9 ?_; skip); (try k_fold)))
  k_with "allint" => (first | exact True.intro | (refine And.intro ⟨_, _, rfl⟩ ?_; walk_at "allint"))
  k_with "CompI" => ((k_dflt (refine' CompI.intro (by k_asm) (by k_asm) (by k_mem) (by walk_at "allint") (by exact Nat.le_of_ble_eq_true rfl) ?_; k_whole); intro D' n' h' tk' F' N' hne'; (try k_sweep); (try k_fold)))
  k_with "eval ListComp" => ((k_here; (with_reducible show wpAny _ _ (eval (Expr.ListComp (Expr.Name _ _) [Comprehension.mk _ _ [Expr.Compare (Expr.Call (Expr.Name (Str.ofString "type") _) _ _ _) _ _ _] _] _ _) _) _ _ _); k_dflt (refine' comp_ints (by k_asm) (by exact rfl) (by k_asm) (by k_asm) (by k_is) (by k_is) (by decide) (by decide) (by exact rfl) (by decide) (by exact rfl) (by intro _; exact rfl) (by intro _; exact rfl) (by intro _; exact rfl) (by decide) ?_ (by intro _; exact rfl); (try k_fold))))
  k_with "subscriptTail Name Slice ref ref" => ((k_here; (with_reducible show wpAny _ _ (subscriptTail _ (PySem.Expr.Slice none (some (PySem.Expr.Constant (PySem.Const.int 9) _ _)) none _) (Value.ref _) (Value.ref _)) _ _ _); k_dflt (refine' tup_to (b := 9) (by k_asm) (by k_asm) (by exact News.isTup (by k_asm) (by k_mem)) (by exact Nat.le_of_ble_eq_true rfl) (by exact pick10_9) ?_ (by with_unfolding_all rfl) (by intro _; with_unfolding_all rfl) (by exact Nat.le_of_ble_eq_true rfl); k_whole); intro D' h' F' N' l1; (try k_lt l1); (try k_sweep); (try k_fold)))
  k_with "subscriptTail Name Slice ref ref" => ((k_here; (with_reducible show wpAny _ _ (subscriptTail _ (PySem.Expr.Slice none (some (PySem.Expr.Constant (PySem.Const.int 6) _ _)) none _) (Value.ref _) (Value.ref _)) _ _ _); k_dflt (refine' tup_to (b := 6) (by k_asm) (by k_asm) (by exact News.isTup (by k_asm) (by k_mem)) (by exact Nat.le_of_ble_eq_true rfl) (by exact pick9_6) ?_ (by with_unfolding_all rfl) (by intro _; with_unfolding_all rfl) (by exact Nat.le_of_ble_eq_true rfl); k_whole); intro D' h' F' N' l1; (try k_lt l1); (try k_sweep); (try k_fold)))
  k_with "subscriptTail Name Slice ref ref" => ((k_here; (with_reducible show wpAny _ _ (subscriptTail _ (PySem.Expr.Slice none (some (PySem.Expr.Constant (PySem.Const.int 3) _ _)) none _) (Value.ref _) (Value.ref _)) _ _ _); k_dflt (refine' tup_to (b := 3) (by k_asm) (by k_asm) (by exact News.isTup (by k_asm) (by k_mem)) (by exact Nat.le_of_ble_eq_true rfl) (by exact pick9_3) ?_ (by with_unfolding_all rfl) (by intro _; with_unfolding_all rfl) (by exact Nat.le_of_ble_eq_true rfl); k_whole); intro D' h' F' N' l1; (try k_lt l1); (try k_sweep); (try k_fold)))
  k_with "binaryOp Add ref ref" => ((k_here; (with_reducible show wpAny _ _ (binaryOp _ (Value.ref _) (Value.ref _)) _ _ _); k_dflt (refine' kde_addT (by k_asm) (by k_asm) (by exact News.isTup (by k_asm) (by k_mem)) (by exact News.isTup (by k_asm) (by k_mem)) (by exact List.cons_ne_nil _ _) (by exact List.cons_ne_nil _ _) (by exact Nat.le_of_ble_eq_true rfl) (by first | exact cat33 | exact cat63 | kun_lit) ?_; k_whole); intro D' h' F' N' l1; (try k_lt l1); (try k_sweep); (try k_fold)))
  k_with "compareOp Eq ref ref" => ((k_here; (with_reducible show wpAny _ _ (compareOp CmpOp.Eq (Value.ref _) (Value.ref _)) _ _ _); k_dflt (refine' eqd_other (by ke_read) (by ke_read) (by ke_shaped) (by ke_shaped) (by ke_room) (by exact eqv_no6 (by with_reducible assumption)) ?_; (try k_fold))))
  k_with "compareOp Eq ref ref" => ((k_here; (with_reducible show wpAny _ _ (compareOp CmpOp.Eq (Value.ref _) (Value.ref _)) _ _ _); k_dflt (refine' eqd_same (by ke_read) (by ke_read) (by ke_shaped) (by ke_shaped) (by ke_room) (by exact eqv_is6 (by with_reducible assumption)) ?_; (try k_fold))))
  k_with "call builtin:list.append" => ((k_here; (with_reducible show wpAny _ _ (call (Value.builtin "list.append") _) _ _ _); k_dflt (refine' append_K (by k_asm) (by k_asm) (by k_upd) ?_ (by first | with_reducible assumption | exact Nat.le_of_ble_eq_true rfl); k_whole); intro h' F' N'; (try k_sweep); (try k_fold)))
  k_with "ne" => ((refine neN ?_; (try dsimp only); first | (with_reducible refine' ne_of_all (by with_reducible assumption) (by k_dflt k_mem)) | (with_reducible refine' en_of_all (by with_reducible assumption) (by k_dflt k_mem)) | fail "no"))
  k_with "compareOp NotIn int ref" => ((k_here; (with_reducible show wpAny _ _ (compareOp CmpOp.NotIn (Value.int _ _) (Value.ref _)) _ _ _); k_dflt (refine' notin_split (by k_asm) (by k_mem) (by with_reducible assumption) ?_ ?_); all_goals (intro hin9; (try k_fold))))
  k_with "call ref" => ((k_here; (with_reducible show wpAny _ _ (call (Value.ref 184) _) _ _ _); k_dflt (refine' Fn.useO2 (c_tail _ _ _ _ _ (by assumption)) (by k_asm) (by k_asm) (by k_asm) (by k_asm) (by k_asm) (by first | exact rfl | assumption) (by walk_at "fn:args") (by ktr_room) (by ktr_units) ?_); intro D9 o9 x9 p9 h9 tk9 ho9 F9 N9 hne9 hne8; obtain ⟨z9, R9, _, _, _, _, _, _, _, _, _, _, _, e9, e8, hR9⟩ := ho9; subst e9; subst e8; (try dsimp only); (try k_fold)))
  k_with "CompSrc" => ((k_here; refine Stop.out ?_))
  k_with "call builtin:len" => ((k_here; (with_reducible show wpAny _ _ (call (Value.builtin _) [Value.ref _]) _ _ _); k_dflt (refine' len_nat (by k_asm) (by k_mem) (by with_reducible assumption) (by with_reducible assumption) ?_; k_whole); intro t9 k9; (try k_fold)))
  k_with "subscriptTail Name BinOp ref int" => ((k_here; (with_reducible show wpAny _ _ (subscriptTail _ _ (Value.ref _) (Value.int (HSub.hSub _ (1 : Int)) _)) _ _ _); k_dflt (refine' item_prev (by k_asm) (by k_mem) (by with_reducible assumption) (by with_reducible assumption) (by with_reducible assumption) ?_ (by with_unfolding_all rfl) (by intro _; with_unfolding_all rfl); k_whole); intro t9; (try k_fold)))
  k_with "subscriptTail Name Name ref int" => ((k_here; (with_reducible show wpAny _ _ (subscriptTail _ _ (Value.ref _) (Value.int _ _)) _ _ _); k_dflt (refine' item_nat (by k_asm) (by k_mem) (by with_reducible assumption) (by omega) ?_ (by with_unfolding_all rfl) (by intro _; with_unfolding_all rfl); k_whole); (try k_fold)))
  k_with "eval ListComp" => ((k_here; (with_reducible show wpAny _ _ (eval (Expr.ListComp (Expr.Name _ _) [Comprehension.mk _ _ [Expr.Compare (Expr.Call (Expr.Name (Str.ofString "type") _) _ _ _) _ _ _] _] _ _) _) _ _ _); k_dflt (refine' comp_intsE (by k_asm) (by exact rfl) (by k_asm) (by k_asm) (by k_is) (by k_is) (by decide) (by decide) (by exact rfl) (by decide) (by exact rfl) (by intro _; exact rfl) (by intro _; exact rfl) (by intro _; exact rfl) (by decide) ?_ (by intro _; exact rfl); (try k_fold))))
  k_with "wpC" => ((k_here; (with_reducible show wpC _ _ (execs (Stmt.Assign [Expr.Name _ _] (Expr.Call (Expr.Name (PySem.Str.ofString "parsedate_tz") _) _ _ _) _ :: _) _) _ _ _); k_dflt (refine wpC_consC ?_; refine wpC_AssignName ?_; rename Frag.In _ _ => X9; refine wpC_CallK X9 ?_; skip); (try k_fold)))
  k_with "binaryOp Add ref ref" => ((k_here; (with_reducible show wpAny _ _ (binaryOp _ (Value.ref _) (Value.ref _)) _ _ _); k_dflt (refine' kde_addT (by k_asm) (by k_asm) (by exact News.isTup (by k_asm) (by k_mem)) (by exact News.isTup (by k_asm) (by k_mem)) (by exact List.cons_ne_nil _ _) (by exact List.cons_ne_nil _ _) (by exact Nat.le_of_ble_eq_true rfl) (by exact cat1010) ?_; k_whole); intro D' h' F' N' l1; (try k_lt l1); (try k_sweep); (try k_fold)))
  k_with "txl" => (first | omega | (simp only [List.length_append, List.length_cons, List.length_nil, List.length_take, stampM_len]; omega))
  k_with "binaryOp Add str str" => ((k_here; (with_reducible show wpAny _ _ (binaryOp Operator.Add (Value.str (tx _) _) (Value.str (tx _) _)) _ _ _); refine add_tx (by walk_at "txl") (by walk_at "txl") ?_; intro t9 k9; (try k_fold)))
  k_with "binaryOp Add str str" => ((k_here; (with_reducible show wpAny _ _ (binaryOp Operator.Add (Value.str (tx _) _) (Value.str (PySem.Str.ofString " ") _)) _ _ _); refine add_sp (by walk_at "txl") ?_; intro t9 k9; (try k_fold)))
  trivial
theorem c_stampE (w : World) (e x : Int) (tx0 : Tok) (hx : Mo x) (he : e = x) : Fn PySem.Challenge.rw_kl0450_03.row.prog w (Mine.Internal.hd.heap_1 w.params) 5 170 [] [.int e tx0] (fun v new => new = [] ∧ ∃ t : Tok, v = .str (tx (stampM x)) t) := by subst he; exact c_stamp w e tx0 hx
theorem words_LawW_03_1 : True := by
  k_with "sum" => (first | with_reducible rfl | with_reducible assumption)
  k_with "wpC" => ((k_here; (with_reducible show wpC _ _ (execs (Stmt.Assign [Expr.Name _ _] (Expr.Call (Expr.Name (PySem.Str.ofString "_law_page") _) _ _ _) _ :: _) _) _ _ _); k_dflt (refine wpC_consC ?_; refine wpC_AssignName ?_; rename Frag.In _ _ => X9; refine wpC_CallK X9 ?_; skip); (try k_fold)))
  k_with "wpC" => ((k_here; (with_reducible show wpC _ _ (execs (Stmt.If (Expr.Compare (Expr.Call (Expr.Name (PySem.Str.ofString "parsedate") _) _ _ _) _ _ _) _ _ _ :: _) _) _ _ _); k_dflt (refine wpC_consC ?_; refine wpC_IfC ?_; refine wpC_isTrue_Compare1 ?_; rename Frag.In _ _ => X9; refine wpC_CallK X9 ?_; skip); (try k_fold)))
  k_with "wpC" => ((k_here; (with_reducible show wpC _ _ (call (Value.ref 198) _) _ _ _); k_dflt (refine' FnC.topD (c_page _ (psOf _) _ _ _ _ _ _ _ (by with_reducible assumption) (by with_reducible assumption) (by with_reducible assumption) (by with_reducible assumption)) (by k_asm) (by k_asm) (by k_asm) (by k_asm) (by k_asm) (by first | exact rfl | assumption) (by refine List.forall_mem_cons.mpr ⟨(by k_mem), List.forall_mem_cons.mpr ⟨(by k_mem), List.forall_mem_nil _⟩⟩) (by ktr_room) (by ktr_units) ?_); intro D9 o9 h9 tk9 ho9 F9 N9 hne9; (try dsimp only); (try k_fold)))
  k_with "subscriptTail Name Constant ref int" => ((k_here; (with_reducible show wpAny _ _ (subscriptTail _ _ (Value.ref _) (Value.int 0 _)) _ _ _); k_dflt (refine' item_zero (by k_asm) (by k_mem) (by with_reducible assumption) ?_ (by with_unfolding_all rfl) (by intro _; with_unfolding_all rfl); k_whole); (try k_fold)))
  k_with "slc" => (((with_reducible rename Fr _ _ _ _ => F9); (with_reducible rename News _ _ _ _ => N9); k_dflt (first
  | (refine' sl_to20 (s := ⟨_, _, _, _, _⟩) F9 N9 (by with_reducible assumption) ?_ (by with_unfolding_all rfl) (by intro _; with_unfolding_all rfl); k_whole)
  | (refine' sl_to19 (s := ⟨_, _, _, _, _⟩) F9 N9 (by with_reducible assumption) ?_ (by with_unfolding_all rfl) (by intro _; with_unfolding_all rfl); k_whole)
  | (refine' sl_fr21 (s := ⟨_, _, _, _, _⟩) F9 N9 (by with_reducible assumption) ?_ (by with_unfolding_all rfl) (by intro _; with_unfolding_all rfl); k_whole)
  | (refine' sl_fr20 (s := ⟨_, _, _, _, _⟩) F9 N9 (by with_reducible assumption) ?_ (by with_unfolding_all rfl) (by intro _; with_unfolding_all rfl); k_whole)); intro h9 t9 k9 F8 N8; (try k_sweep); (try k_fold)))
  k_with "subscriptTail Name Slice str ref" => ((k_here; (with_reducible show wpAny _ _ (subscriptTail _ _ (Value.str (tx _) _) (Value.ref _)) _ _ _); walk_at "slc"))
  k_with "subscriptTail Subscript Name Constant Slice str ref" => ((k_here; (with_reducible show wpAny _ _ (subscriptTail _ _ (Value.str (tx _) _) (Value.ref _)) _ _ _); walk_at "slc"))
  k_with "call builtin:dict.get" => ((k_here; (try dsimp only [List.cons_append, List.nil_append]); (with_reducible show wpAny _ _ (call (Value.builtin "dict.get") [Value.ref _, Value.str (tx _) _]) _ _ _); k_dflt (refine' kdg_get1 (knd := PySem.strKind _ _) (by k_asm) (by k_mem) (by k_asm) (by k_asm) (strKind_is _ _ _ _) (some _) (by with_reducible assumption) ?_; k_whole); (try dsimp only [Option.getD]); (try k_fold)))
  k_with "call ref" => ((k_here; (with_reducible show wpAny _ _ (call (Value.ref 191) _) _ _ _); k_dflt (refine' FnT.topV (c_ref _ _ _ (by first | exact ref_one (by with_reducible assumption) | exact ref_two (by with_reducible assumption))) (by k_asm) (by k_asm) (by k_asm) (by k_asm) (by k_asm) (by first | exact rfl | assumption) (by walk_at "fn:args") (by ktr_room) (by ktr_units) ?_); intro h9 tk9 F9 N9; (try dsimp only); (try k_fold)))
  k_with "call ref" => ((k_here; (with_reducible show wpAny _ _ (call (Value.ref 170) _) _ _ _); k_dflt (refine' Fn.useV (c_stampE _ _ _ _ (by assumption) (by walk_at "sum")) (by k_asm) (by k_asm) (by k_asm) (by k_asm) (by k_asm) (by first | exact rfl | assumption) (by walk_at "fn:args") (by ktr_room) (by ktr_units) ?_); intro t9 h9 tk9 F9 N9; (try dsimp only); (try k_fold)))
  k_with "call ref" => ((k_here; (with_reducible show wpAny _ _ (call (Value.ref 115) _) _ _ _); k_dflt (refine' Fn.useV (c_ymd _ _ _ _ _ _ _ (by assumption)) (by k_asm) (by k_asm) (by k_asm) (by k_asm) (by k_asm) (by first | exact rfl | assumption) (by walk_at "fn:args") (by ktr_room) (by ktr_units) ?_); intro t9 h9 tk9 F9 N9; (try dsimp only); (try k_fold)))
  k_with "call ref" => ((k_here; (with_reducible show wpAny _ _ (call (Value.ref 156) _) _ _ _); k_dflt (refine' Fn.useV (c_first _ _ _ _ _) (by k_asm) (by k_asm) (by k_asm) (by k_asm) (by k_asm) (by first | exact rfl | assumption) (by walk_at "fn:args") (by ktr_room) (by ktr_units) ?_); intro t9 h9 tk9 F9 N9; (try dsimp only); (try k_fold)))
  k_with "call ref" => ((k_here; (with_reducible show wpAny _ _ (call (Value.ref 149) _) _ _ _); k_dflt (refine' Fn.useV (c_pdN _ _ _ (by assumption)) (by k_asm) (by k_asm) (by k_asm) (by k_asm) (by k_asm) (by first | exact rfl | assumption) (by walk_at "fn:args") (by ktr_room) (by ktr_units) ?_); intro t9 h9 tk9 F9 N9; (try dsimp only); (try k_fold)))
  k_with "wpC" => ((k_here; (with_reducible show wpC _ _ (call (Value.ref 135) _) _ _ _); k_dflt (refine' FnC.topO (c_ptz _ _ _ _ _ _ _ _ _ _ (by assumption) (by assumption) (by assumption) (by assumption) (by assumption) (by assumption) (by assumption)) (by k_asm) (by k_asm) (by k_asm) (by k_asm) (by k_asm) (by first | exact rfl | assumption) (by walk_at "fn:args") (by ktr_room) (by ktr_units) ?_); intro D9 o9 h9 tk9 ho9 F9 N9 hne9; obtain ⟨_, _, _, _, _, _, _, _, _, _, e9⟩ := ho9; subst e9; (try dsimp only); (try k_fold)))
  k_with "wpC" => ((k_here; (with_reducible show wpC _ _ (call (Value.ref 149) _) _ _ _); k_dflt (refine' FnC.topO (c_pd _ _ _ _ _ _ _ _ _ _ (by assumption) (by assumption) (by assumption) (by assumption) (by assumption) (by assumption) (by assumption)) (by k_asm) (by k_asm) (by k_asm) (by k_asm) (by k_asm) (by first | exact rfl | assumption) (by walk_at "fn:args") (by ktr_room) (by ktr_units) ?_); intro D9 o9 h9 tk9 ho9 F9 N9 hne9; obtain ⟨_, _, _, _, _, _, _, _, _, e9⟩ := ho9; subst e9; (try dsimp only); (try k_fold)))
  trivial
noncomputable def G_law (z : Dat) (zzc1 : Addr) (zzc2 : Addr) (zzo1 : Obj) (zzo2 : Obj) (zztk : Nat) (zzl : Addr) (zzvs : List Value) (zzxs : List Int) (zzQ : Flow → Shared → Prop) (zzE : Value → Shared → Prop) : Prop := LawB z PySem.Challenge.rw_kl0450_03.row.prog (Mine.Internal.hd.heap_1 z.w.params) 203 (PySem.Str.ofString "script") (PySem.Str.ofString "moments") (PySem.Str.ofString "tails") zzc1 zzc2 zzo1 zzo2 zztk zzl zzvs zzxs zzQ zzE (by k_is)
namespace D_law
noncomputable def zG (zt : Dat × (Addr) × (Addr) × (Obj) × (Obj) × (Nat) × (Addr) × (List Value) × (List Int) × (Flow → Shared → Prop) × (Value → Shared → Prop)) : Prop := G_law (zt.1) (zt.2.1) (zt.2.2.1) (zt.2.2.2.1) (zt.2.2.2.2.1) (zt.2.2.2.2.2.1) (zt.2.2.2.2.2.2.1) (zt.2.2.2.2.2.2.2.1) (zt.2.2.2.2.2.2.2.2.1) (zt.2.2.2.2.2.2.2.2.2.1) (zt.2.2.2.2.2.2.2.2.2.2)
noncomputable def zt : Dat × (Addr) × (Addr) × (Obj) × (Obj) × (Nat) × (Addr) × (List Value) × (List Int) × (Flow → Shared → Prop) × (Value → Shared → Prop) := haveI : Nonempty Dat := dat_some PySem.Challenge.rw_kl0450_03.row.prog; haveI : Nonempty Obj := obj_some; sk zG
@[irreducible] noncomputable def z : Dat := zt.1
@[irreducible] noncomputable def zzc1 : Addr := zt.2.1
@[irreducible] noncomputable def zzc2 : Addr := zt.2.2.1
@[irreducible] noncomputable def zzo1 : Obj := zt.2.2.2.1
@[irreducible] noncomputable def zzo2 : Obj := zt.2.2.2.2.1
@[irreducible] noncomputable def zztk : Nat := zt.2.2.2.2.2.1
@[irreducible] noncomputable def zzl : Addr := zt.2.2.2.2.2.2.1
@[irreducible] noncomputable def zzvs : List Value := zt.2.2.2.2.2.2.2.1
@[irreducible] noncomputable def zzxs : List Int := zt.2.2.2.2.2.2.2.2.1
@[irreducible] noncomputable def zzQ : Flow → Shared → Prop := zt.2.2.2.2.2.2.2.2.2.1
@[irreducible] noncomputable def zzE : Value → Shared → Prop := zt.2.2.2.2.2.2.2.2.2.2
theorem main : G_law z zzc1 zzc2 zzo1 zzo2 zztk zzl zzvs zzxs zzQ zzE := by
  refine Wrap.mk ?_
  intro F0 zzN0 zzne zzd2 zzd1 zzK0 zzX zzT zzhl zzI zzlay zzlen zzpass hQ
  (try dsimp only)
  refine wpC_cutF 2 F0 (JA zzc1 zzc2) ?h1 ?h2
  case h1 =>
    dsimp only [List.take]
    k_with "run:A" => (
      (try dsimp +zetaDelta only)
      as_aux_lemma =>
        walk_at "step"
        all_goals (repeat' ((fail_if_success (first | (with_reducible guard_target = wpC _ _ (execs (List.cons _ _) _) _ _ _) | (with_reducible guard_target = wpAny _ _ (execs (List.cons _ _) _) _ _ _))); walk_at "step"))
        all_goals (first | ((first | (with_reducible guard_target = wpC _ _ (execs (List.cons _ _) _) _ _ _) | (with_reducible guard_target = wpAny _ _ (execs (List.cons _ _) _) _ _ _)); k_extra "run:A") | k_extra "tail:A"))
    k_with "tail:A" => (
      (try dsimp only)
      rename Fr _ _ _ _ => F9
      rename News _ _ _ _ => N9
      rename IntsAre _ _ => I9
      k_dflt (refine' jA_intro rfl F9 N9 ?hm ?w1 ?w2 ?n1 ?n2 rfl ?d1 ?d2 I9 ?zp ?zl; (case hm => k_mem); (case w1 => k_mem); (case w2 => k_mem); (case n1 => k_ne); (case n2 => k_ne); (case d1 => with_reducible assumption); (case d2 => with_reducible assumption); (case zp => first | exact par_even (by assumption) | exact par_app (by assumption)); (case zl => first | exact take10_le _ | exact par_app10 (by assumption))))
    all_goals (repeat' ((fail_if_success (first | (with_reducible guard_target = wpC _ _ (execs (List.cons _ _) _) _ _ _) | (with_reducible guard_target = wpAny _ _ (execs (List.cons _ _) _) _ _ _))); walk_at "step"))
    all_goals (first | ((first | (with_reducible guard_target = wpC _ _ (execs (List.cons _ _) _) _ _ _) | (with_reducible guard_target = wpAny _ _ (execs (List.cons _ _) _) _ _ _)); k_extra "run:A") | k_extra "tail:A")
  case h2 =>
    intro ha tka mma newsa Fa Na hJa
    clear F0
    refine abs_goal fun PP hPP => ?_
    obtain ⟨C, vs, xs, n0, k, o1, o2, p1, rfl, d1, d2, hI, hxs, hk, nC1, nC2⟩ := hJa
    rw [map_pin p1] at Fa
    clear p1
    refine hPP ?_
    dsimp only [List.drop]
    refine wpC_cutF 2 Fa (JB zzc1 zzc2) ?i1 ?i2
    case i1 =>
      dsimp only [List.take]
      k_with "run:B" => (
        (try dsimp +zetaDelta only)
        as_aux_lemma =>
          walk_at "step"
          all_goals (repeat' ((fail_if_success (first | (with_reducible guard_target = wpC _ _ (execs (List.cons _ _) _) _ _ _) | (with_reducible guard_target = wpAny _ _ (execs (List.cons _ _) _) _ _ _))); walk_at "step"))
          all_goals (first | ((first | (with_reducible guard_target = wpC _ _ (execs (List.cons _ _) _) _ _ _) | (with_reducible guard_target = wpAny _ _ (execs (List.cons _ _) _) _ _ _)); k_extra "run:B") | k_extra "tail:B"))
      k_with "tail:B" => (
        refine ⟨?_⟩
        rename IsRange _ _ _ _ _ _ _ _ => R3
        rename Fr _ _ _ _ => F3
        rename News _ _ _ _ => N3
        obtain ⟨P0, eP, hmP⟩ := pinR F3 (PySem.Str.ofString "pairs") rfl
        subst eP
        have hxs' : ((xs.length : Nat) : Int) = 2 * (k : Int) := by omega
        refine for_rangeT (Gd := fun g => g = _) k (JP3 P0 C zzc1 zzc2 vs n0 o1 o2) rfl R3 (range2 hxs') (small2 hxs' hk) rfl F3 N3 ?w0 ?turn ?done ?ht ?hE
        case w0 =>
          refine JP3.mk _ _ [_, _, _, _, _, _] rfl rfl rfl ?hc ?wa ?wb rfl ?hr (allNe_intro ?ha)
          case hc => k_mem
          case wa => k_mem
          case wb => k_mem
          case ha => k_all
          case hr =>
            intro v hv
            simp only [List.mem_cons, List.not_mem_nil, or_false] at hv
            rcases hv with rfl | rfl | rfl
            all_goals exact ⟨_, _, _, _, _, rfl, by k_mem⟩
        case ht => intro I v; rfl
        case hE => first | exact zzpass | with_unfolding_all passes_own
        case turn =>
          intro Q' E' i g m₁ news₁ I h tk tv hlt G hJ hIn F₁ N₁
          subst G
          clear F3 N3
          refine abs_goal fun PP hPP => ?_
          obtain ⟨rs, n1, tail, p1, p2, rfl, hC, hc1, hc2, hlen, hrow, hR⟩ := hJ
          rw [map_pin2 p1 p2] at F₁
          have hIR : NeA P0 I := hIn.1
          have hRC : NeA C P0 := ⟨ne_of_all hR hC⟩
          have N₂ := news_dup N₁ (.tail _ (.tail _ hC))
          have hsz : rs.toArray.size ≤ sizeLine := by
            rw [List.size_toArray, hlen, sizeLine_eq]
            omega
          clear N₁
          refine hPP ?_
          repeat' (walk_at "step")
          rename Fr _ _ _ _ => F2
          rename News _ _ _ _ => N2
          refine' TurnEndT.row3 rfl F2 N2 hIn hC hc1 hc2 hlen hrow hR ?m1 ?m2 ?m3 ?m4 ?v1 ?v2 rfl rfl
          case m1 => k_mem
          case m2 => k_mem
          case m3 => k_mem
          case m4 =>
            intro p hp
            repeat (first | exact hp | refine List.Mem.tail _ ?_)
          case v1 => k_ne
          case v2 => k_ne
        case done =>
          intro g m₁ news₁ h tk G hJ F₁ N₁
          subst G
          clear F3 N3
          refine abs_goal fun PP hPP => ?_
          obtain ⟨rs, n1, tail, p1, p2, rfl, hC, hc1, hc2, hlen, hrow, hR⟩ := hJ
          refine hPP ?_
          (repeat' (walk_at "step"))
          exact jB_intro rfl F₁ N₁ (.head _) (.tail _ hc1) (.tail _ hc2) (fun p hp => .tail _ hp) p1 d1 d2 hrow hlen hk)
      all_goals (repeat' ((fail_if_success (first | (with_reducible guard_target = wpC _ _ (execs (List.cons _ _) _) _ _ _) | (with_reducible guard_target = wpAny _ _ (execs (List.cons _ _) _) _ _ _))); walk_at "step"))
      all_goals (first | ((first | (with_reducible guard_target = wpC _ _ (execs (List.cons _ _) _) _ _ _) | (with_reducible guard_target = wpAny _ _ (execs (List.cons _ _) _) _ _ _)); k_extra "run:B") | k_extra "tail:B")
    case i2 =>
      intro hb tkb mmb newsb Fb Nb hJb
      clear Fa Na hI hxs hk nC1 nC2 d1 d2
      refine abs_goal fun PP hPP => ?_
      obtain ⟨P, rs, nr, o1, o2, tail, p1, rfl, d1, d2, hr8, hr3, hrow, ha1, ha2, nP1, nP2⟩ := hJb
      rw [map_pin p1] at Fb
      clear p1
      refine hPP ?_
      dsimp only [List.drop]
      refine wpC_cutF 3 Fb (JC zzc1 zzc2) ?j1 ?j2
      case j1 =>
        dsimp only [List.take]
        k_with "run:C" => (
          (try dsimp +zetaDelta only)
          as_aux_lemma =>
            walk_at "step"
            all_goals (repeat' ((fail_if_success (first | (with_reducible guard_target = wpC _ _ (execs (List.cons _ _) _) _ _ _) | (with_reducible guard_target = wpAny _ _ (execs (List.cons _ _) _) _ _ _))); walk_at "step"))
            all_goals (first | ((first | (with_reducible guard_target = wpC _ _ (execs (List.cons _ _) _) _ _ _) | (with_reducible guard_target = wpAny _ _ (execs (List.cons _ _) _) _ _ _)); k_extra "run:C") | k_extra "tail:C"))
        k_with "tail:C" => (
          refine ⟨?_⟩
          rename Fr _ _ _ _ => F5
          rename News _ _ _ _ => N5
          rename _ = Data.cell (some _) => e2
          revert e2
          rename _ = Data.cell (some _) => e1
          intro e2
          refine abs_goal fun PP hPP => ?_
          obtain ⟨M, T, o1', o2', k1, k2, f1, f2, N6, nMT, nMP, nTP, nM1, nM2, nT1, nT2, hM0, hT0⟩ := startC (P := P) (c1 := zzc1) (c2 := zzc2) (tail := tail) N5 e1 e2 (by k_mem) (by k_mem) (by k_mem) (by k_mem) (by k_mem) (fun p hp => by repeat (first | exact hp | refine List.Mem.tail _ ?_)) (by k_ne) (by k_ne) (by k_ne) (allNe_intro (by k_all)) (allNe_intro (by k_all))
          clear e1 e2 N5
          refine hPP ?_
          refine for_headP (JT zzc1 zzc2 M T tail o1' o2') F5 N6 rfl ?w0 ?turn ?done ?ht ?hE
          case w0 => exact JT.mk [] [] _ _ [] tail rfl .nil RowsT.nil RecPre.nil (Nat.le_refl _) (fun h => absurd h (Nat.lt_irrefl _)) hM0 hT0 (fun p hp => hp)
          case ht => intro v hv; obtain ⟨t, x, y, t1, t2, e, _⟩ := hrow v hv; exact ⟨t, e⟩
          case hE => first | exact zzpass | with_unfolding_all passes_own
          case done =>
            intro m₂ news₂ h₂ tk₂ hJ F₃ N₃
            refine abs_goal fun PP hPP => ?_
            obtain ⟨us, rs', n1, n2, recs, tl', rfl, hU, hR, hp, hl, hpos, hM', hT', h0⟩ := hJ
            refine hPP ?_
            (repeat' (walk_at "step"))
            exact jC_intro rfl F₃ N₃ (fun p hp => .tail _ hp) f1 f2 hU hR hp hl hr8 (by omega) hpos
          case turn =>
            intro Q' E' i v m₂ news₂ I io h₂ tk₂ hv hJ hIn F₃ N₃
            refine abs_goal fun PP hPP => ?_
            obtain ⟨us, rs', n1, n2, recs, tl', rfl, hU, hR, hp, hl, hpos, hM', hT', h0⟩ := hJ
            obtain ⟨t, x, y, t1, t2, rfl, hmem⟩ := hrow v (List.mem_of_getElem? hv)
            have N₄ := news_dup N₃ (.tail _ (.tail _ (.tail _ (.tail _ (.tail _ (.tail _ (h0 _ hmem)))))))
            have htM : NeA t M := ⟨ne_of_all hM' (h0 _ hmem)⟩
            have htT : NeA t T := ⟨ne_of_all hT' (h0 _ hmem)⟩
            have hIP : NeA P I := hIn.1
            have hIM : NeA M I := hIn.2.1
            have hIT : NeA T I := hIn.2.2.1
            have hx := mz_of x
            have hlu : us.toArray.size ≤ sizeLine := by
              have := IntsAre.length hU
              have := (List.getElem?_eq_some_iff.mp hv).1
              rw [List.length_map] at *
              rw [List.size_toArray, sizeLine_eq]; omega
            have hlr : rs'.toArray.size ≤ sizeLine := by
              have := hR.len
              have := (List.getElem?_eq_some_iff.mp hv).1
              rw [List.size_toArray, sizeLine_eq]; omega
            clear N₃ F5 N6
            refine hPP ?_
            k_with "run:Ct" => (
              (try dsimp +zetaDelta only)
              as_aux_lemma =>
                walk_at "step"
                all_goals (repeat' ((fail_if_success (first | (with_reducible guard_target = wpC _ _ (execs (List.cons _ _) _) _ _ _) | (with_reducible guard_target = wpAny _ _ (execs (List.cons _ _) _) _ _ _))); walk_at "step"))
                all_goals (first | ((first | (with_reducible guard_target = wpC _ _ (execs (List.cons _ _) _) _ _ _) | (with_reducible guard_target = wpAny _ _ (execs (List.cons _ _) _) _ _ _)); k_extra "run:Ct") | k_extra "tail:Ct"))
            k_with "tail:Ct" => (
              (try dsimp only)
              rename Fr _ _ _ _ => F9
              rename News _ _ _ _ => N9
              first
                | (rename ¬ ((_ : Int) ∈ List.map _ _) => hin9
                   rename TailOf _ _ _ => hR9
                   refine' TurnEnd.jt1 F9 N9 hIn ?m1 ?m2 ?m3 ?m4 ?m5 ?m6 ?mt ?mD ?ma hU hR hp hl hin9 hx hR9 hM' hT' h0 ?d1 ?d2 ?d3 ?a1 ?a2 ?a3
                   case m1 => k_mem
                   case m2 => k_mem
                   case m3 => k_mem
                   case m4 => k_mem
                   case m5 => k_mem
                   case m6 => k_mem
                   case mt => (intro p hp; repeat (first | exact hp | refine List.Mem.tail _ ?_))
                   case mD => k_mem
                   case ma => k_mem
                   case d1 => k_ne
                   case d2 => k_ne
                   case d3 => k_ne
                   case a1 => k_ne
                   case a2 => k_ne
                   case a3 => k_ne)
                | (rename (_ : Int) ∈ List.map _ _ => hin9
                   refine' TurnEnd.jt0 F9 N9 hIn ?m1 ?m2 ?m3 ?m4 ?m5 ?m6 ?mt hU hR hp hl hin9 hM' hT' h0
                   case m1 => k_mem
                   case m2 => k_mem
                   case m3 => k_mem
                   case m4 => k_mem
                   case m5 => k_mem
                   case m6 => k_mem
                   case mt => (intro p hp; repeat (first | exact hp | refine List.Mem.tail _ ?_))))
            all_goals (repeat' ((fail_if_success (first | (with_reducible guard_target = wpC _ _ (execs (List.cons _ _) _) _ _ _) | (with_reducible guard_target = wpAny _ _ (execs (List.cons _ _) _) _ _ _))); walk_at "step"))
            all_goals (first | ((first | (with_reducible guard_target = wpC _ _ (execs (List.cons _ _) _) _ _ _) | (with_reducible guard_target = wpAny _ _ (execs (List.cons _ _) _) _ _ _)); k_extra "run:Ct") | k_extra "tail:Ct"))
        all_goals (repeat' ((fail_if_success (first | (with_reducible guard_target = wpC _ _ (execs (List.cons _ _) _) _ _ _) | (with_reducible guard_target = wpAny _ _ (execs (List.cons _ _) _) _ _ _))); walk_at "step"))
        all_goals (first | ((first | (with_reducible guard_target = wpC _ _ (execs (List.cons _ _) _) _ _ _) | (with_reducible guard_target = wpAny _ _ (execs (List.cons _ _) _) _ _ _)); k_extra "run:C") | k_extra "tail:C")
      case j2 =>
        intro hc tkc mmc newsc Fc Nc hJc
        clear Fb
        refine abs_goal fun PP hPP => ?_
        obtain ⟨M, T, us, rsT, n1, n2, o1, o2, recs, tailC, rfl, e1, e2, hU, hR, hok, hne0⟩ := hJc
        clear Nb hr8 hr3 hrow ha1 ha2 nP1 nP2 d1 d2
        have hlu : us.length = recs.length := by rw [IntsAre.length hU, List.length_map]
        have hl8 : recs.length ≤ 1000 := Nat.le_trans hok.n8 (by decide)
        refine hPP ?_
        dsimp only [List.drop]
        refine wpC_cutF 1 Fc (JLn zzc1 zzc2) ?k1 ?k2
        case k1 =>
          dsimp only [List.take]
          k_with "run:D" => (
            (try dsimp +zetaDelta only)
            as_aux_lemma =>
              walk_at "step"
              all_goals (repeat' ((fail_if_success (first | (with_reducible guard_target = wpC _ _ (execs (List.cons _ _) _) _ _ _) | (with_reducible guard_target = wpAny _ _ (execs (List.cons _ _) _) _ _ _))); walk_at "step"))
              all_goals (first | ((first | (with_reducible guard_target = wpC _ _ (execs (List.cons _ _) _) _ _ _) | (with_reducible guard_target = wpAny _ _ (execs (List.cons _ _) _) _ _ _)); k_extra "run:D") | k_extra "tail:D"))
          k_with "tail:D" => (
            refine ⟨?_⟩
            rename IsRange _ _ _ _ _ _ _ _ => R3
            rename Fr _ _ _ _ => F5
            rename News _ _ _ _ => N5
            have N6 : News _ _ _ ((M, PySem.W.listOf us.toArray n1) :: (T, PySem.W.listOf rsT.toArray n2) :: (zzc2, o2) :: (zzc1, o1) :: tailC) := fun p hp => N5 p (by repeat (first | exact hp | refine List.Mem.tail _ ?_))
            refine LCg.CompSrc.range rfl F5 N6 R3 (small1 rfl hok.n8) (range1 rfl) (by have := hok.n8; rw [sizeLine_eq]; omega) fun g' => lines_rest rfl ?turn ?fin
            case fin =>
              intro ys hys
              unfold LCg.FinA
              intro D' h' tk' F' N' o1'
              (repeat' (walk_at "step"))
              exact jD_intro rfl F' N' rfl e1 e2 hU hR hok hne0 hys
            case turn =>
              intro i r t I oI C oC D m₂ ys h tk E' hr hC hx F N off
              clear F5 N5 N6 R3
              refine abs_goal fun PP hPP => ?_
              obtain ⟨v, hv, D0, a0, _, _, _, _, _, _, _, _, _, _, _, rfl, hD0, _⟩ := hR.at_ i r hr
              have N7 := news_dup N (.tail _ (.tail _ (.tail _ (.tail _ (.tail _ (.tail _ (.tail _ hD0)))))))
              clear N
              have hmz := hok.mp hne0 hr
              have hmo := hmz.mo
              have hR1 := (hok.tl' hr).bounds.1.2
              have hi8 := hok.n8
              have hil : i < recs.length := (List.getElem?_eq_some_iff.mp hr).1
              have hir : i < (recs.map (·.1)).length := by rw [List.length_map]; exact hil
              have hnr : (recs.map (·.1)).length ≤ 8 := by rw [List.length_map]; exact hi8
              refine hPP ?_
              k_with "run:Dt" => (
                (try dsimp +zetaDelta only)
                as_aux_lemma =>
                  walk_at "step"
                  all_goals (repeat' ((fail_if_success (first | (with_reducible guard_target = wpC _ _ (execs (List.cons _ _) _) _ _ _) | (with_reducible guard_target = wpAny _ _ (execs (List.cons _ _) _) _ _ _))); walk_at "step"))
                  all_goals (first | ((first | (with_reducible guard_target = wpC _ _ (execs (List.cons _ _) _) _ _ _) | (with_reducible guard_target = wpAny _ _ (execs (List.cons _ _) _) _ _ _)); k_extra "run:Dt") | k_extra "tail:Dt"))
              k_with "tail:Dt" => (
                (try dsimp only)
                rename Fr _ _ _ _ => F9
                rename News _ _ _ _ => N9
                exact lineEnd F9 N9 (fun p hp => by repeat (first | exact hp | refine List.Mem.tail _ ?_)) off rfl)
              all_goals (repeat' ((fail_if_success (first | (with_reducible guard_target = wpC _ _ (execs (List.cons _ _) _) _ _ _) | (with_reducible guard_target = wpAny _ _ (execs (List.cons _ _) _) _ _ _))); walk_at "step"))
              all_goals (first | ((first | (with_reducible guard_target = wpC _ _ (execs (List.cons _ _) _) _ _ _) | (with_reducible guard_target = wpAny _ _ (execs (List.cons _ _) _) _ _ _)); k_extra "run:Dt") | k_extra "tail:Dt"))
          all_goals (repeat' ((fail_if_success (first | (with_reducible guard_target = wpC _ _ (execs (List.cons _ _) _) _ _ _) | (with_reducible guard_target = wpAny _ _ (execs (List.cons _ _) _) _ _ _))); walk_at "step"))
          all_goals (first | ((first | (with_reducible guard_target = wpC _ _ (execs (List.cons _ _) _) _ _ _) | (with_reducible guard_target = wpAny _ _ (execs (List.cons _ _) _) _ _ _)); k_extra "run:D") | k_extra "tail:D")
        case k2 =>
          intro hd tkd mmd newsd Fd Nd hJd
          clear Fc Nc
          refine abs_goal fun PP hPP => ?_
          obtain ⟨Ln, M, T, ls, us, rsT, nl, n1, n2, o1, o2, recs, tailC, p1, rfl, e1, e2, hU, hR, hok, hne0, hS⟩ := hJd
          rw [map_pin p1] at Fd
          clear p1
          have hPS := hok.pairs hne0
          have hPm := (psOf_perm hne0).symm
          obtain ⟨⟨x0, z0, R0⟩, hr0⟩ : ∃ r, recs[0]? = some r := ⟨_, List.getElem?_eq_getElem (List.length_pos_iff.mpr hne0)⟩
          obtain ⟨tl0, hln0⟩ := line_at hS hr0
          have hR0 := (hok.tl' hr0).bounds.1.2
          dsimp only at hln0 hR0
          refine hPP ?_
          dsimp only [List.drop]
          refine wpC_cutF 2 Fd (JPage PySem.Challenge.rw_kl0450_03.row.prog z.w zzc1 zzc2) ?l1 ?l2
          case l1 =>
            dsimp only [List.take]
            k_with "run:E" => (
              (try dsimp +zetaDelta only)
              as_aux_lemma =>
                walk_at "step"
                all_goals (repeat' ((fail_if_success (first | (with_reducible guard_target = wpC _ _ (execs (List.cons _ _) _) _ _ _) | (with_reducible guard_target = wpAny _ _ (execs (List.cons _ _) _) _ _ _))); walk_at "step"))
                all_goals (first | ((first | (with_reducible guard_target = wpC _ _ (execs (List.cons _ _) _) _ _ _) | (with_reducible guard_target = wpAny _ _ (execs (List.cons _ _) _) _ _ _)); k_extra "run:E") | k_extra "tail:E"))
            k_with "tail:E" => (
              (try dsimp only)
              rename Fr _ _ _ _ => F9
              rename News _ _ _ _ => N9
              rename PageOk _ _ _ _ _ => P9
              k_dflt (refine' jP_intro rfl F9 N9 ?w1 ?w2 rfl rfl rfl e1 e2 hU hR hok hne0 hS P9; (case w1 => k_mem); (case w2 => (intro p hp; repeat (first | exact hp | refine List.Mem.tail _ ?_)))))
            all_goals (repeat' ((fail_if_success (first | (with_reducible guard_target = wpC _ _ (execs (List.cons _ _) _) _ _ _) | (with_reducible guard_target = wpAny _ _ (execs (List.cons _ _) _) _ _ _))); walk_at "step"))
            all_goals (first | ((first | (with_reducible guard_target = wpC _ _ (execs (List.cons _ _) _) _ _ _) | (with_reducible guard_target = wpAny _ _ (execs (List.cons _ _) _) _ _ _)); k_extra "run:E") | k_extra "tail:E")
          case l2 =>
            intro he tke mme newse Fe Ne hJe
            clear Fd Nd hPS hPm hr0 hln0 hR0 tl0 hok hne0 hU hR hS e1 e2
            refine abs_goal fun PP hPP => ?_
            obtain ⟨PA, Ln, M, T, oP, ls, us, rsT, nl, n1, n2, o1, o2, recs, tailC, t9, p1, p2, p3, rfl, e1, e2, hU, hR, hok, hne0, hS, hPk⟩ := hJe
            obtain ⟨hlo, kvs, hdk, hkv⟩ := hPk
            rw [map_pin3 p1 p2 p3] at Fe
            clear p1 p2 p3
            have hls := len_lines hS
            have hl8 : recs.length ≤ 1000 := Nat.le_trans hok.n8 (by decide)
            refine hPP ?_
            dsimp only [List.drop]
            k_with "run:F" => (
              (try dsimp +zetaDelta only)
              as_aux_lemma =>
                walk_at "step"
                all_goals (repeat' ((fail_if_success (first | (with_reducible guard_target = wpC _ _ (execs (List.cons _ _) _) _ _ _) | (with_reducible guard_target = wpAny _ _ (execs (List.cons _ _) _) _ _ _))); walk_at "step"))
                all_goals (first | ((first | (with_reducible guard_target = wpC _ _ (execs (List.cons _ _) _) _ _ _) | (with_reducible guard_target = wpAny _ _ (execs (List.cons _ _) _) _ _ _)); k_extra "run:F") | k_extra "tail:F"))
            k_with "tail:F" => (
              refine ⟨?_⟩
              rename IsRange _ _ _ _ _ _ _ _ => R3
              rename Fr _ _ _ _ => F3
              rename News _ _ _ _ => N3
              obtain ⟨ρ, eρ⟩ : ∃ ρ, ρ = (M, PySem.W.listOf us.toArray n1) :: (zzc1, o1) :: tailC := ⟨_, rfl⟩
              have N6 := lastled (a := (PA, oP)) (b := (Ln, PySem.W.listOf ls.toArray nl)) (c := (T, PySem.W.listOf rsT.toArray n2)) (d := (zzc2, o2)) N3 eρ (fun p hp => by repeat (first | exact hp | refine List.Mem.tail _ ?_))
              refine for_rangeT (Gd := fun g => g = _) recs.length (JLp ((PA, oP) :: (Ln, PySem.W.listOf ls.toArray nl) :: (T, PySem.W.listOf rsT.toArray n2) :: (zzc2, o2) :: ρ) PA Ln (recs.map (·.1))) rfl R3 (range1 rfl) (small1 rfl hok.n8) rfl F3 N6 ?w0 ?turn ?done ?ht ?hE
              case w0 => exact ⟨_, rfl, rfl, rfl, rfl⟩
              case ht => intro I v; rfl
              case hE => first | exact zzpass | with_unfolding_all passes_own
              case done =>
                intro g m₁ news₁ h tk G hJ F₁ N₁
                subst G
                clear F3 N3 N6
                refine abs_goal fun PP hPP => ?_
                obtain ⟨t9, p1, p2, p3, rfl⟩ := hJ
                rw [pv_wrap hne0] at p3
                rw [map_pin3 p1 p2 p3] at F₁
                clear p1 p2 p3
                obtain ⟨⟨x0, z0, R0⟩, hr0⟩ : ∃ r, recs[0]? = some r := ⟨_, List.getElem?_eq_getElem (List.length_pos_iff.mpr hne0)⟩
                obtain ⟨tl0, hln0⟩ := line_at hS hr0
                have hR0 := (hok.tl' hr0).bounds.1.2
                dsimp only at hln0 hR0
                refine hPP ?_
                k_with "run:G" => (
                  (try dsimp +zetaDelta only)
                  as_aux_lemma =>
                    walk_at "step"
                    all_goals (repeat' ((fail_if_success (first | (with_reducible guard_target = wpC _ _ (execs (List.cons _ _) _) _ _ _) | (with_reducible guard_target = wpAny _ _ (execs (List.cons _ _) _) _ _ _))); walk_at "step"))
                    all_goals (first | ((first | (with_reducible guard_target = wpC _ _ (execs (List.cons _ _) _) _ _ _) | (with_reducible guard_target = wpAny _ _ (execs (List.cons _ _) _) _ _ _)); k_extra "run:G") | k_extra "tail:G"))
                k_with "tail:G" => (
                  rename Fr _ _ _ _ => F9
                  rw [beq_self_eq_true]
                  exact hQ _ _ _ F9)
                all_goals (repeat' ((fail_if_success (first | (with_reducible guard_target = wpC _ _ (execs (List.cons _ _) _) _ _ _) | (with_reducible guard_target = wpAny _ _ (execs (List.cons _ _) _) _ _ _))); walk_at "step"))
                all_goals (first | ((first | (with_reducible guard_target = wpC _ _ (execs (List.cons _ _) _) _ _ _) | (with_reducible guard_target = wpAny _ _ (execs (List.cons _ _) _) _ _ _)); k_extra "run:G") | k_extra "tail:G")
              case turn =>
                intro Q' E' i g m₁ news₁ I h tk tv hlt G hJ hIn F₁ N₁
                subst G
                clear F3 N3 N6 R3
                refine abs_goal fun PP hPP => ?_
                obtain ⟨t0, p1, p2, p3, rfl⟩ := hJ
                rw [map_pin3 p1 p2 p3] at F₁
                clear p1 p2 p3
                obtain ⟨⟨x, z, R⟩, hr⟩ : ∃ r, recs[i]? = some r := ⟨_, List.getElem?_eq_getElem hlt⟩
                obtain ⟨tl, hln⟩ := line_at hS hr
                obtain ⟨tp, hpg⟩ := hkv _ (List.mem_of_getElem? (psOf_at hr))
                obtain ⟨v, hv, D0, a0, _, _, _, _, _, _, _, _, _, _, _, rfl, hD0, ha0⟩ := hR.at_ i _ hr
                have hnx := pv_next hr
                have htl := hok.tl' hr
                have hxm : Mo x := (hok.mz _ (List.mem_of_getElem? hr)).mo
                dsimp only at hln hpg hD0 ha0 hnx htl
                generalize pv (recs.map (·.1)) i = p at F₁ hln hpg
                have htd := TailOf.told (p := p) htl
                have hfr := front_M p
                have hR80 := htl.bounds.1.2
                have f := ff htl.mo
                have q1 := f.hm; have q2 := f.hy; have q3 := f.hd; have q4 := f.hh; have q5 := f.hi; have q6 := f.hs; have hvd := f.v
                have hbk : (first (fY (x + z)) (fM (x + z)) + fD (x + z) - 1 - 1) * 86400 + fH (x + z) * 3600 + fI (x + z) * 60 + fS (x + z) - z = x := by have := f.sum; omega
                clear f
                have hi8 := hok.n8
                generalize fY (x + z) = Y9 at ha0 htd q2 hvd hbk
                generalize fM (x + z) = M9 at ha0 htd q1 hvd hbk
                generalize fD (x + z) = D9 at ha0 htd q3 hvd hbk
                generalize fH (x + z) = H9 at ha0 htd q4 hbk
                generalize fI (x + z) = I9 at ha0 htd q5 hbk
                generalize fS (x + z) = S9 at ha0 htd q6 hbk
                have ha1 := mem2 eρ ha0
                have hD1 := mem2 eρ hD0
                have N₂ := news_dup (news_dup N₁ (.tail _ (.tail _ (.tail _ (.tail _ (.tail _ ha1)))))) (.tail _ (.tail _ (.tail _ (.tail _ (.tail _ (.tail _ hD1))))))
                clear ha1 hD1
                clear N₁ hD0 ha0 eρ
                refine hPP ?_
                simp only [Int.zero_add, Int.mul_one]
                k_with "run:Ft" => (
                  (try dsimp +zetaDelta only)
                  as_aux_lemma =>
                    walk_at "step"
                    all_goals (repeat' ((fail_if_success (first | (with_reducible guard_target = wpC _ _ (execs (List.cons _ _) _) _ _ _) | (with_reducible guard_target = wpAny _ _ (execs (List.cons _ _) _) _ _ _))); walk_at "step"))
                    all_goals (first | ((first | (with_reducible guard_target = wpC _ _ (execs (List.cons _ _) _) _ _ _) | (with_reducible guard_target = wpAny _ _ (execs (List.cons _ _) _) _ _ _)); k_extra "run:Ft") | k_extra "tail:Ft"))
                k_with "tail:Ft" => (
                  (try dsimp only)
                  rename Fr _ _ _ _ => F9
                  rename News _ _ _ _ => N9
                  refine' TurnEndT.line rfl F9 N9 hIn ?w1 ?w2 hnx rfl rfl rfl
                  case w1 => k_mem
                  case w2 => (intro p hp; repeat (first | exact hp | refine List.Mem.tail _ ?_)))
                all_goals (repeat' ((fail_if_success (first | (with_reducible guard_target = wpC _ _ (execs (List.cons _ _) _) _ _ _) | (with_reducible guard_target = wpAny _ _ (execs (List.cons _ _) _) _ _ _))); walk_at "step"))
                all_goals (first | ((first | (with_reducible guard_target = wpC _ _ (execs (List.cons _ _) _) _ _ _) | (with_reducible guard_target = wpAny _ _ (execs (List.cons _ _) _) _ _ _)); k_extra "run:Ft") | k_extra "tail:Ft"))
            all_goals (repeat' ((fail_if_success (first | (with_reducible guard_target = wpC _ _ (execs (List.cons _ _) _) _ _ _) | (with_reducible guard_target = wpAny _ _ (execs (List.cons _ _) _) _ _ _))); walk_at "step"))
            all_goals (first | ((first | (with_reducible guard_target = wpC _ _ (execs (List.cons _ _) _) _ _ _) | (with_reducible guard_target = wpAny _ _ (execs (List.cons _ _) _) _ _ _)); k_extra "run:F") | k_extra "tail:F")
theorem main' : zG zt := by with_unfolding_all exact main
theorem all (z : Dat) (zzc1 : Addr) (zzc2 : Addr) (zzo1 : Obj) (zzo2 : Obj) (zztk : Nat) (zzl : Addr) (zzvs : List Value) (zzxs : List Int) (zzQ : Flow → Shared → Prop) (zzE : Value → Shared → Prop) : G_law z zzc1 zzc2 zzo1 zzo2 zztk zzl zzvs zzxs zzQ zzE := haveI : Nonempty Dat := dat_some PySem.Challenge.rw_kl0450_03.row.prog; haveI : Nonempty Obj := obj_some; sk_all (G := zG) main' (z, zzc1, zzc2, zzo1, zzo2, zztk, zzl, zzvs, zzxs, zzQ, zzE)
end D_law
theorem law03 : PySem.Challenge.rw_kl0450_03.Holds := by
  have kf : PySem.Challenge.rw_kl0450_03 = PySem.Challenge.rw_kl0450_03 ∧ ∀ P, Mine.Internal.hd.heap_1 P = Mine.Internal.hd.heap_1 P := by k_fill; exact ⟨rfl, fun _ => rfl⟩
  clear kf
  refine hdQ rfl rfl rfl ?_
  k_fill
  intro zzw zzs₀ zzs₁ zzmg zzmb zzG zzY zzfa zzo zzpm zzcd zzdoc zzdV zzkV zzho zzhd zzhcd zzhD zzhmg zzhg zzargs zzvals zzas zzhpre zzhlay zzhrd zzhwl zzhlo
  have zzKX := kIn_of zzY
  have zzX := (Ground.X zzG).1
  have zzV := (Ground.X zzG).2
  refine Ground.open zzG ?_
  intro zzT zzB zzD zzTE zzTW
  clear zzD
  wrow_args zzhpre zzhlay zzhrd zzhwl zzhlo
  refine enterC ?_
  w_top on
  refine codeC_mono ?_ (fun _ _ g => GoodW.toG g)
  have zzK0 := below_caller (Top.heap zzT)
  have zzhe := Dflts.none zzhD rfl; subst zzhe
  refine call_cells2C (by decide) zzho zzhd (Top.nolimit zzT) zzhcd (BindsTo.of_eq rfl) rfl (fun _ => rfl) (fun zzh₁ zztk zzc1 zzc2 zzo1 zzo2 zzne zzF zzN0 zzd2 zzd1 => ?_) (by decide) rfl
  w_binds zzF
  clear zzhd zzhmg
  k_drop
  (try dsimp only)
  rename Fr _ _ _ _ => F0
  rename IntsAre _ _ => I0
  rename Heap.IsList _ _ _ => L0
  rename PyData.layable0 (PyData.list (List.map PyData.int _)) = true => Y0
  refine Wrap.out (D_law.all { w := zzw, p := viewQ, loose := looseW viewQ looseQ, mean := ExcName.means zzs₀.heap, mg := zzmg, mb := zzmb, dp := 0, un := 0, gd := none, cn := Str.empty, cs := { kind := .function, names := [], isGenerator := false, isCoroutine := false }, a := zzfa, ccd := zzcd, cl := [], outer := [], base := {}, L := zzs₁.heap.objs.size, g := zzs₁.heap, L' := 0, h₁ := zzh₁, s := zzs₁, E := fun _ _ => True } zzc1 zzc2 zzo1 zzo2 _ _ _ _ _ _) F0 zzN0 zzne zzd2 zzd1 zzK0 zzKX zzT L0 I0 Y0 (by omega) (by with_unfolding_all passes_own) ?_
  intro h9 tk9 m9 F9
  (repeat' (walk_at "step"))
end
end Mine.Internal

end
set_option maxRecDepth 100000 in
set_option maxHeartbeats 8000000 in
theorem PySem.Challenge.cw_kl0450_03_holds : PySem.Challenge.rw_kl0450_03.Holds := by
  exact Mine.Internal.law03
