import PyProof.Rows.All
import PySem.Sre
import PyProof.Rows.SetFrom
import KE.KLam
import Wide.FinOn
import OpenK.AllK
import Wide.All
import PySem.Challenge.RW_wy0011_01
open PySem PySem.W PyProof.Rows
set_option Elab.async false
set_option maxRecDepth 100000
set_option linter.all false
set_option compiler.extract_closed false
namespace Mine
section
open PySem PySem.W PySem.Calls PyProof.Rows
theorem hid {P : Prop} (h : ∀ G : Prop, (P → G) → G) : P := h P id
theorem wp_eq {α : Type} {M : Model} {A : Around} {E : Value → Shared → Prop} {s : Shared} {t t' : Sem α} {Q : α → Shared → Prop} (e : t = t') (h : wpAny M A t' Q E s) : wpAny M A t Q E s := e ▸ h
noncomputable def lendIds : List String := ["bytearray.__contains__", "bytearray.__mod__", "bytearray.__rmod__", "_struct.pack_into.held", "bytearray.find.held"] ++ Builtin.Bytes.decodersThatHold
noncomputable def fine : Code → Bool
  | .builtin id _ => !lendIds.contains id
  | _ => true
noncomputable def fineL (l : List (Code × Pos)) : Prop := ∀ c ∈ l, fine c.1 = true
theorem fineL.cons {c : Code} {p : Pos} {l : List (Code × Pos)} (h : fine c = true) (hl : fineL l) : fineL ((c, p) :: l) := fun x hx => by
  rcases List.mem_cons.mp hx with rfl | hx
  · exact h
  · exact hl x hx
noncomputable def wpD {α : Type} (M : Model) (A : Around) (t : Sem α) (Q : α → Shared → Prop) (E : Value → Shared → Prop) (s : Shared) : Prop :=
  ∀ Γ p, Γ.In A → fine Γ.code = true → fineL Γ.below → Sem.wp M Γ t (fun a _ s' => Q a s') (fun e _ s' => E e s') p s
noncomputable def codeD (M : Model) (A : Around) (c : Code) (R : Result → Shared → Prop) (s : Shared) : Prop :=
  ∀ Γ p, Γ.code = c → Γ.Below A → fineL Γ.below → wpCode M Γ R p s
section
variable {α β : Type} {M : Model} {A : Around} {E : Value → Shared → Prop} {s : Shared}
theorem wpD_of {t : Sem α} {Q : α → Shared → Prop} (h : wpAny M A t Q E s) : wpD M A t Q E s := fun Γ p hΓ _ _ => h Γ p hΓ
theorem codeD_of {c : Code} {R : Result → Shared → Prop} (h : codeAny M A c R s) : codeD M A c R s := fun Γ p hc hΓ _ => h Γ p hc hΓ
theorem wpD_mono {t : Sem α} {Q Q' : α → Shared → Prop} {E' : Value → Shared → Prop} (h : wpD M A t Q E s)
    (hQ : ∀ a s, Q a s → Q' a s) (hE : ∀ e s, E e s → E' e s) : wpD M A t Q' E' s :=
  fun Γ p hΓ h1 h2 => Sem.wp_mono M Γ t (fun a _ s => hQ a s) (fun e _ s => hE e s) p s (h Γ p hΓ h1 h2)
theorem wpD_bind {m : Sem α} {f : α → Sem β} {Q : β → Shared → Prop} (h : wpD M A m (fun a s' => wpD M A (f a) Q E s') E s) :
    wpD M A (m >>= f) Q E s := fun Γ p hΓ h1 h2 => by
  rw [Sem.wp_bind']
  exact Sem.wp_mono M Γ m (fun a p' s' h' => h' Γ p' hΓ h1 h2) (fun _ _ _ h' => h') p s (h Γ p hΓ h1 h2)
theorem wpD_bindL {m : Sem α} {f : α → Sem β} {Q : β → Shared → Prop} (h : wpAny M A m (fun a s' => wpD M A (f a) Q E s') E s) : wpD M A (m >>= f) Q E s := wpD_bind (wpD_of h)
theorem wpD_bindR {m : Sem α} {f : α → Sem β} {Q : β → Shared → Prop} (h : wpD M A m (fun a s' => wpAny M A (f a) Q E s') E s) : wpD M A (m >>= f) Q E s := wpD_bind (wpD_mono h (fun _ _ x => wpD_of x) fun _ _ x => x)
theorem wpD_holding {vs : List Value} {m : Sem α} {Q : α → Shared → Prop} (h : wpD M A m Q E s) : wpD M A (holding vs m) Q E s :=
  fun Γ p hΓ h1 h2 => by rw [Sem.wp_holding]; exact h Γ p hΓ h1 h2
theorem wpD_onRaise {m : Sem α} {k : Value → Sem Unit} {Q : α → Shared → Prop}
    (h : wpD M A m Q (fun e s' => wpAny M A (k e) (fun _ s'' => E e s'') E s') s) : wpD M A (m.onRaise k) Q E s := fun Γ p hΓ h1 h2 => by
  rw [Sem.wp_onRaise]
  exact Sem.wp_mono M Γ m (fun _ _ _ h' => h') (fun e p' s' h' => h' Γ p' hΓ) p s (h Γ p hΓ h1 h2)
theorem wpD_run {c : Code} {h : Option Value} {Q : Flow → Shared → Prop}
    (hc : codeD M (A.mark h) c (fun r s' => match r with | .ok f => Q f s' | .error e => E e s') s) (hnb : h ≠ some byPass := by intro x; cases x) :
    wpD M A (run c h) Q E s :=
  fun Γ p hΓ h1 h2 => by rw [Sem.wp_run]; exact hc _ p rfl (hΓ.enter c h p hnb) (.cons h1 h2)
theorem wpD_runValue {c : Code} {Q : Value → Shared → Prop}
    (hc : codeD M A c (fun r s' => match r with | .ok (.ret v) => Q v s' | .ok _ => False | .error e => E e s') s) :
    wpD M A (runValue c) Q E s := fun Γ p hΓ h1 h2 => by rw [Sem.wp_runValue]; exact hc _ p rfl (hΓ.enter c none p (by intro x; cases x)) (.cons h1 h2)
theorem wpD_call {f : Value} {pos : List Value} {kw : List (PySem.Str × Value)} {Q : Value → Shared → Prop}
    (hc : codeD M A (.call f ⟨pos, kw⟩) (fun r s' => match r with | .ok (.ret v) => Q v s' | .ok _ => False | .error e => E e s') s) :
    wpD M A (PySem.call f pos kw) Q E s := wpD_runValue hc
theorem codeD_of_tree {c : Code} {R : Result → Shared → Prop} (hf : fine c = true)
    (h : wpD M (A.under c) (M.den c) (fun fin s' => match fin with | .done f => R (.ok f) s' | .again c' => c'.quiet = true ∧ codeD M A c' R s')
      (fun e s' => R (.error e) s') s) : codeD M A c R s := fun Γ p hc hΓ h2 => by
  rw [wpCode_iff_wp, hc]
  refine Sem.wp_mono M Γ _ (fun fin p' s' h' => ?_) (fun _ _ _ h' => h') p s (h Γ p (hc ▸ hΓ.in) (hc ▸ hf) h2)
  cases fin with
  | done f => exact h'
  | again c' => exact ⟨h'.1, h'.2 (Γ.goto c') p' rfl (hΓ.goto c') h2⟩
theorem codeD_loop' {c : Code} {R : Result → Shared → Prop} (hf : fine c = true) (hq : c.quiet = true) (I : Nat → Shared → Prop)
    (turn : ∀ n s, I n s → wpD M (A.under c) (M.den c)
      (fun fin s' => match fin with
        | .done f => R (.ok f) s'
        | .again c' => (c' = c ∧ ∃ m, m < n ∧ I m s') ∨ (c'.quiet = true ∧ codeD M A c' R s')) (fun e s' => R (.error e) s') s)
    (n : Nat) (h : I n s) : codeD M A c R s := by
  induction n using Nat.strongRecOn generalizing s with
  | ind n ih =>
    refine codeD_of_tree hf (wpD_mono (turn n s h) (fun fin s' hf => ?_) fun _ _ h' => h')
    cases fin with
    | done f => exact hf
    | again c' =>
      rcases hf with ⟨rfl, m, hm, hI⟩ | hf
      · exact ⟨hq, ih m hm hI⟩
      · exact hf
theorem wpD_runOwn {c : Code} {env : Env} {h : Option Value} {Q : Flow → Shared → Prop}
    (hc : codeD M (A.mark h) c (fun r s' => match r with | .ok f => Q f s' | .error e => cameBackBy M A env E e s') s) (hnb : h ≠ some byPass := by intro x; cases x) :
    wpD M A (runOwn c env h) Q E s := by
  unfold runOwn
  exact wpD_onRaise (wpD_run hc hnb)
theorem wpD_noted {env : Env} {m : Sem α} {Q : α → Shared → Prop} (h : wpD M A m Q (notedBy M A env E) s) : wpD M A (m.onRaise fun x => do noteFrame x env; theTreesLotGoes x) Q E s :=
  wpD_onRaise (wpD_mono h (fun _ _ q => q) fun _ _ hx => wpAny_bind (wpAny_mono hx (fun _ _ e => wpAny_theTreesLotGoes e) fun _ _ e => e))
theorem wpD_exported {self : Value} {Q : Bool → Shared → Prop} (h : Q false s) : wpD M A (Builtin.Bytes.exported self) Q E s := fun Γ p hΓ h1 h2 => by
  have hall : fineL ((Γ.code, p) :: Γ.below) := .cons h1 h2
  have key : ∀ f : Code × Pos → Bool, (∀ id args q, fine (.builtin id args) = true → f (.builtin id args, q) = false) → (∀ c q, (∀ id args, c ≠ .builtin id args) → f (c, q) = false) → Q (((Γ.code, p) :: Γ.below).any f) s := fun f f1 f2 => by
    rw [List.any_eq_false.mpr fun c hc => ?_]
    · exact h
    · rw [Bool.not_eq_true]
      obtain ⟨c, q⟩ := c
      by_cases hb : ∃ id args, c = .builtin id args
      · obtain ⟨id, args, rfl⟩ := hb
        exact f1 id args q (hall _ hc)
      · exact f2 c q fun id args e => hb ⟨id, args, e⟩
  refine key _ (fun id args q hf => ?_) (fun c q hc => ?_)
  · have n : ∀ x, x ∈ lendIds → id ≠ x := fun x hx e => by
      subst e
      rw [fine, List.contains_iff_mem.mpr hx] at hf
      cases hf
    delta Builtin.Bytes.exported.match_1
    with_unfolding_all refine (dif_neg (n "bytearray.__contains__" (by decide +kernel))).trans ?_
    with_unfolding_all refine (dif_neg (n "bytearray.__mod__" (by decide +kernel))).trans ?_
    with_unfolding_all refine (dif_neg (n "bytearray.__rmod__" (by decide +kernel))).trans ?_
    with_unfolding_all refine (dif_neg (n "_struct.pack_into.held" (by decide +kernel))).trans ?_
    with_unfolding_all refine (dif_neg (n "bytearray.find.held" (by decide +kernel))).trans ?_
    obtain ⟨pos, kw⟩ := args
    cases pos with
    | nil => rfl
    | cons v r =>
      show (Builtin.Bytes.sameRef v self && Builtin.Bytes.decodersThatHold.contains id) = false
      rw [Bool.and_eq_false_iff]
      refine .inr (Bool.eq_false_iff.mpr fun hx => ?_)
      exact n id (List.mem_append_right _ (List.contains_iff_mem.mp hx)) rfl
  · cases c <;> first | rfl | exact absurd rfl (hc _ _)
end
end
end Mine
namespace MineTop
open PySem PySem.W PySem.Calls PyProof.Rows Mine
theorem ends_D {prog : Program} {w : World} {t : Sem Fin} {s : Shared} {R : Result → Shared → Prop} (hreg : s.asleep)
    (h : wpD (model prog w) callerA t (fun fin s' => ∃ f, fin = .done f ∧ (R (.ok f) s' ∧ leftWithCleanup s'.gens = false)) (fun e s' => R (.error e) s' ∧ leftWithCleanup s'.gens = false) s) :
    ∃ n r s' s'', runN (denote table) prog w n s ⟨t, .builtin "claim.caller" {}, default, []⟩ = .halted (outcomeOf r) s' ∧
      schedN (denote table) prog w n (.single s ⟨t, .builtin "claim.caller" {}, default, []⟩) = .halted (outcomeOf r) s' ∧ s'.forget = s''.forget ∧ R r s'' := by
  have h' : Sem.wp (model prog w) ⟨.builtin "claim.caller" {}, none, none, [], none⟩ t (Sem.finPost (model prog w) ⟨.builtin "claim.caller" {}, none, none, [], none⟩ fun r s' => R r s' ∧ leftWithCleanup s'.gens = false) (fun e _ s' => R (.error e) s' ∧ leftWithCleanup s'.gens = false) default s := by
    refine Sem.wp_mono _ _ t (fun fin p' s' h' => ?_) (fun _ _ _ h' => h') default s (h _ default caller_in (by decide +kernel) (fun c hc => by cases hc))
    obtain ⟨f, rfl, hf⟩ := h'
    exact hf
  refine hid fun G hG => ?_
  obtain ⟨n, r, s₁, s₂, hs, hn, hfo, hR⟩ := wp_halts_full (M := model prog w) (R := R) hreg h'
  refine hG ?_
  exact ⟨n, r, s₂, s₁, hn, hs, hfo, hR⟩
theorem callFrom_D {c : ClaimW} {tree : List Value → Sem Fin} {w : World} {s : Shared} {free : Addr → Prop} {gens : Prop} {kept : Heap → Prop} (hz : s.asleep) (hgens : s.gens = #[])
    (hspec : ∀ args, c.pre args = true → WData.layableAll args = true →
      ∀ ord : List DictEntry → List DictEntry, (∀ l, (ord l).Perm l) →
      ∃ vs s₁, layAllW c.records (classAt s.heap) w.params ord args s = some (vs, s₁) ∧
        wpD (model c.prog w) callerA (tree vs) (fun fin s' => ∃ f, fin = .done f ∧ (c.Ends s args vs s₁ (.ok f) s' ∧ s'.os = s.os ∧ AllBare s'.gens ∧ kept s'.heap))
          (fun e s' => c.Ends s args vs s₁ (.error e) s' ∧ s'.os = s.os ∧ AllBare s'.gens ∧ kept s'.heap) s₁) :
    c.CallFrom (fun vs => ⟨tree vs, .builtin "claim.caller" {}, default, []⟩) w free gens kept s := by
  intro args hpre hlay ord hord
  refine hid fun G hG => ?_
  obtain ⟨vs, s₁, hlaid, hcode⟩ := hspec args hpre hlay ord hord
  have hal := layAllW_rest _ _ _ hlaid
  obtain ⟨k, r, s', s'', hrun, hsched, hfo, hcase, hos, hkp⟩ := ends_D (prog := c.prog) (w := w) (t := tree vs) (s := s₁)
    (R := fun r s' => c.Ends s args vs s₁ r s' ∧ s'.os = s.os ∧ kept s'.heap)
    (Shared.asleep_of_life hal.2.2.2 hz)
    (wpD_mono hcode (by
      intro fin s' ⟨f, e, h⟩
      exact ⟨f, e, ⟨h.1, h.2.1, h.2.2.2⟩, leftWithCleanup_false_of_bare h.2.2.1⟩)
      fun e s' h => ⟨⟨h.1, h.2.1, h.2.2.2⟩, leftWithCleanup_false_of_bare h.2.2.1⟩)
  obtain ⟨eh, _, _, eo, _⟩ := Shared.forget_eq hfo
  have hcase := hcase.congr eh
  have hkp : kept s'.heap := by rw [eh]; exact hkp
  rw [← eo] at hos
  have hlife : s'.heap.life = s.heap.life := (runN_life _ _ _ hrun).trans hal.2.2.2
  refine hG ⟨vs, s₁, hlaid, k, _, s', hsched, ?_, (fun _ i x hx => by rw [hgens] at hx; simp at hx), hkp, by rw [hlife], Shared.rest_eq hos⟩
  refine hid fun G2 h2 => ?_
  rcases hcase with ⟨v, e1, d1, d2, d3, d4, d5⟩ | ⟨e, ob, cls, e1, d1, d2, d3, d4, d5⟩
  · exact h2 (.inl ⟨v, e1 ▸ rfl, d1, d2, d3, fun b o y _ => d4 b o y, d5⟩)
  · exact h2 (.inr ⟨e, ob, cls, e1 ▸ rfl, d1, d2, d3, d4, fun b o y _ => d5 b o y⟩)
theorem open_D {r : RowW} {run : Value → List Value → Sem Value} {tree : List Value → Sem Fin} {q : Program} {loose defs kps : List PySem.Str} {writes : Bool} {Xt : Shared → Bool} {XP : (PySem.Str → Option Value) → Heap → Prop} {α : Type} {Yf : Shared → α} {Ya : World → α} {YP : World → Heap → Prop} {N : Nat}
    (left : LeftO r.prog q loose Xt Yf Ya N) (hY : ∀ w s, Yf s = Ya w → YP w s.heap) (hYk : ∀ w h h', YP w h → (∀ b o, h.get? b = some o → h'.get? b = some o) → YP w h') (hX : ∀ s, Xt s = true → XP (s.heap.nsMap mainGlobals) s.heap) (hXk : ∀ mg h h', XP mg h → (∀ b o, h.get? b = some o → h'.get? b = some o) → XP mg h')
    (hRf : ∀ s, Xt s = true → RecFacts r.records s.heap) (hwr : (!writes || r.records.isEmpty) = true) (ok : (chainsOk q && opensWell r.prog && (frees r && r.within.isEmpty)) = true) (hb : r.prog.bare) (hw : r.promised)
    (ht : ∀ vs (w : World) (s : Shared) mg f (Q : Fin → Shared → Prop) (E : Value → Shared → Prop), s.heap.Ns mainGlobals mg → mg r.name = some f → wpD (model r.prog w) callerA (run f vs) (fun v s' => Q (.done (.ret v)) s') E s → wpD (model r.prog w) callerA (tree vs) Q E s)
    (pin : ∀ w s, s.heap.isNs mainGlobals = true → Ground q loose [] XP w s (s.heap.nsMap mainGlobals) (s.heap.nsMap builtinsNs) s.heap → ∀ n ∈ defs, isTheDefsW r.prog s.heap n)
    (call : ∀ (w : World) (s₀ s₁ : Shared) (mg mb : PySem.Str → Option Value), Ground q loose r.records XP w s₀ mg mb s₁.heap → YP w s₁.heap → ∀ (args : List WData) (vs : List Value) (as : List Addr),
      r.claim.pre args = true → WData.layableAll args = true → Laid r.records w s₀ s₁ args vs as → sysModules < s₀.heap.objs.size → ∃ f, mg r.name = some f ∧
        wpD (model r.prog w) callerA (run f vs) (fun v s' => GoodWG r.claim (classAt s₀.heap) (ExcName.means s₀.heap) args s₁ (.ok (.ret v)) s')
          (fun e s' => GoodWG r.claim (classAt s₀.heap) (ExcName.means s₀.heap) args s₁ (.error e) s') s₁) : r.claim.HoldsOpenBy (fun vs => ⟨tree vs, .builtin "claim.caller" {}, default, []⟩) defs kps writes := by
  refine hid fun G hG => ?_
  obtain ⟨ok, k5⟩ := Bool.and_eq_true_iff.mp ok
  obtain ⟨hch, o1⟩ := Bool.and_eq_true_iff.mp ok
  obtain ⟨k5, k6⟩ := Bool.and_eq_true_iff.mp k5
  obtain ⟨hsame, hu, ha, hap, hm⟩ := frees_parts k5
  refine hG ?_
  refine ⟨⟨hb, o1, by show r.makers.map _ = []; rw [hm]; rfl⟩, hw.witness, fun w => ⟨(left.behind hX hch w).1, fun s' hs' => ?_⟩⟩
  refine hid fun Go hGo => ?_
  obtain ⟨s₀, hf, hg0, s, hT, hz, hgens, hg, G00, y⟩ := (left.behind (XP := fun mg h => XP mg h ∧ RecFacts r.records h) (fun s hs => ⟨hX s hs, hRf s hs⟩) hch w).2 s' hs'
  have G0 : Ground q loose [] XP w s (s.heap.nsMap mainGlobals) (s.heap.nsMap builtinsNs) s.heap := ⟨G00.T, G00.B, G00.D, G00.TE, G00.TD, G00.W, G00.X.1, G00.cls, G00.has, G00.apart, G00.once, G00.K⟩
  have RF := G00.X.2
  have hT' := hT
  refine hGo ⟨s₀, hf, hg0, s, hT, pin w s hg G0, RF.1, RF.2.1, ?_⟩
  have hgens : s.gens = #[] := Array.eq_empty_of_size_eq_zero (beq_iff_eq.mp hgens)
  have G : Ground q loose r.records XP w s _ _ s.heap := RF.ground G0
  refine callFrom_D (c := r.claim) hz hgens fun args hpre hlay ord hord => ?_
  refine hid fun Gp hGp => ?_
  obtain ⟨⟨vs, s₁⟩, hlaid⟩ := Option.isSome_iff_exists.mp (layAllW_isSome (P := w.params) (ord := ord) G.has args r.args s (pre_splitW hpre).1)
  have keeps := layAllW_keeps _ _ _ hlaid
  have hal := layAllW_rest _ _ _ hlaid
  obtain ⟨as, hrd, hin, hold⟩ := reads_layAllW hord _ _ _ hlaid hlay s₁.heap (fun _ _ e => e)
  have L : Laid r.records w s s₁ args vs as := ⟨⟨ord, hord, hlaid⟩, hrd, hin, hold, keeps, hal.1.trans hgens, hal.2.2.1⟩
  have G₁ := G.keeps hXk keeps
  obtain ⟨f, hf, h⟩ := call w s s₁ _ _ G₁ (hYk _ _ _ (hY w s y) keeps) args vs as hpre hlay L G.low
  have hi := ident_freeW hu ha hap
  have hwi : r.claim.within = [] := List.isEmpty_iff.mp k6
  exact hGp ⟨vs, s₁, hlaid, ht vs w s₁ _ f _ _ G₁.T.g hf (wpD_mono h (fun v s' g => ⟨_, rfl, have z := g.laid (c := r.claim) hsame hwi hi L; ⟨z.1, z.2.1, z.2.2, fun q => ⟨namesKept_of hT' hg kps keeps g.2.1.old, noTable hwr q⟩⟩⟩) fun e s' g => have z := g.laid (c := r.claim) hsame hwi hi L; ⟨z.1, z.2.1, z.2.2, fun q => ⟨namesKept_of hT' hg kps keeps g.2.1.old, noTable hwr q⟩⟩)⟩
noncomputable abbrev WalkD (q : Program) (loose : List PySem.Str) (XP : (PySem.Str → Option Value) → Heap → Prop) (YP : World → Heap → Prop) (r : RowW) (d : DefRec) (kwd : List (PySem.Str × Expr)) (run : Value → List Value → Sem Value) : Prop :=
  ∀ (w : World) (s₀ s₁ : Shared) (mg mb : PySem.Str → Option Value), Ground q loose r.records XP w s₀ mg mb s₁.heap → YP w s₁.heap → ∀ (a : Addr) (o : Obj) (pm cd doc dV kV : Value), s₁.heap.get? a = some o →
    o.data = .func { docDef d.name d.params d.body d.scope pm cd doc with defaults := dV, kwdefaults := kV } → s₁.heap.CodeRec cd d.name → Dflts mg s₁.heap d.params kwd dV kV → mg d.name = some (.ref a) → s₁.gens = #[] →
    ∀ (args : List WData) (vals : List Value) (as : List Addr), r.claim.pre args = true → WData.layableAll args = true → ReadsAllW r.records (classAt s₀.heap) s₁.heap vals args as → WellAll w.params s₁.heap vals args → (∀ a ∈ as, (a == sysModules) = false) →
      wpD (model r.prog w) callerA (run (.ref a) vals) (fun v s' => GoodWG r.claim (classAt s₀.heap) (ExcName.means s₀.heap) args s₁ (.ok (.ret v)) s')
        (fun e s' => GoodWG r.claim (classAt s₀.heap) (ExcName.means s₀.heap) args s₁ (.error e) s') s₁
theorem PySem.W.holds_open {r : OpenRow} {q : Program} {loose : List PySem.Str} {Xt : Shared → Bool} {XP : (PySem.Str → Option Value) → Heap → Prop} {α : Type} {Yf : Shared → α} {Ya : World → α} {YP : World → Heap → Prop} {d : DefRec} {kwd : List (PySem.Str × Expr)} {N : Nat}
    (left : LeftO r.prog q loose Xt Yf Ya N) (hY : ∀ w s, Yf s = Ya w → YP w s.heap) (hYk : ∀ w h h', YP w h → (∀ b o, h.get? b = some o → h'.get? b = some o) → YP w h')
    (hX : ∀ s, Xt s = true → XP (s.heap.nsMap mainGlobals) s.heap) (hXk : ∀ mg h h', XP mg h → (∀ b o, h.get? b = some o → h'.get? b = some o) → XP mg h')
    (hdef : defOf q r.name = some (d, kwd)) (hp : r.prog.theDef r.name = some (d.params, d.body, d.scope)) (hk : kwWritten? d.params.kwonlyargs d.params.kw_defaults = some kwd) (hRf : ∀ s, Xt s = true → RecFacts r.records s.heap) (hwr : (!r.writes || r.records.isEmpty) = true)
    (k1 : r.wellSaid = true) (ok : (chainsOk q && opensWell r.prog && (frees r.toRowW && r.within.isEmpty)) = true) (hb : r.prog.bare) (hw : r.toRowW.promised)
    (call : WalkD q loose XP YP r.toRowW d kwd fun f vs => PySem.call f vs) : r.Holds := by
  refine ⟨k1, hw, open_D (r := r.toRowW) (run := fun f vs => PySem.call f vs) (tree := fun vs => do match ← nsGet mainNs r.name with
      | some f => do ret (← PySem.call f vs)
      | none => unsupported "claim.caller:no-such-global") left hY hYk hX hXk hRf hwr ok hb hw
    (fun vs w s mg f Q E hg hf h => wpD_bindL (wpAny_nsGet hg (by rw [hf]; exact wpD_bindR (wpD_mono h (fun _ _ x => wpAny_pure x) fun _ _ x => x))))
    (fun w s hg G n hn => ?_) fun w s₀ s₁ mg mb G Y args vs as hpre hlay L low => ?_⟩
  · obtain rfl : n = r.name := by split at hn <;> simp_all
    exact pinned_of_view hg G hdef hp hk
  · obtain ⟨a, o, pm, cd, doc, dV, kV, h1, h2, h3, h4, h5⟩ := G.fn hdef
    exact ⟨.ref a, h1, call w s₀ s₁ mg mb G Y a o pm cd doc dV kV h2 h3 h4 h5 (defOf_name hdef ▸ h1) L.gens args vs as hpre hlay L.reads L.well (L.low low)⟩
end MineTop
section
set_option maxHeartbeats 8000000
namespace MineTop
noncomputable def pre.tw11015304440979904950 : Program := PySem.Challenge.pw_wy0011_01
theorem pre.te11015304440979904950 : PySem.Challenge.pw_wy0011_01 = pre.tw11015304440979904950 := rfl
set_option Elab.async true in
theorem pre : (PySem.Challenge.pw_wy0011_01.modules.isEmpty) = true := by k_qdec
#print axioms pre
open_top hd for PySem.Challenge.rw_wy0011_01
end MineTop
end
namespace Mine
section
open PySem PySem.W PySem.Calls PyProof.Rows
noncomputable def ruleBody (P : Params) : List Stmt := match (MineTop.hd.heap_39 P).lookup 216 with
  | some ⟨_, _, .func fd, _⟩ => (match fd.body with | .stmts l => l | _ => [])
  | _ => []
noncomputable def lamOf : Option Stmt → Arguments × Expr × Scope
  | some (.Assign _ (.Lambda params body scope _) _) => (params, body, scope)
  | _ => (⟨[], [], none, [], [], none, []⟩, .Constant .none 0 default, default)
noncomputable abbrev lam1 (P : Params) := lamOf (ruleBody P)[2]?
noncomputable abbrev lam2 (P : Params) := lamOf (ruleBody P)[3]?
noncomputable abbrev tabA : Addr := 211
noncomputable abbrev entryA : Addr := 69
noncomputable abbrev View := Addr → Option Obj
noncomputable def VLe (V V' : View) : Prop := ∀ a o, V a = some o → V' a = some o
theorem VLe.refl (V : View) : VLe V V := fun _ _ e => e
theorem VLe.trans {V V' V'' : View} (h : VLe V V') (h' : VLe V' V'') : VLe V V'' := fun a o e => h' a o (h a o e)
inductive D where
  | none
  | bool (b : Bool)
  | int (i : Int)
  | str (s : PySem.Str)
  | strP (p : Nat → Prop) (s : PySem.Str)
  | bytes (b : Array UInt8)
  | list (xs : List D)
  | tup (xs : List D)
  | entry (agents rules delay rate : D)
  | rule (name side : PySem.Str) (verdict : D)
  | pat (k : Nat)
  | own (a : Addr)
  | typ (T : String)
noncomputable abbrev lamQual : PySem.Str := Str.ofString "_law_rule.<locals>.<lambda>"
noncomputable abbrev listO (vs : Array Value) (n : Nat) : Obj := { cls := .type "list", data := .seq vs n }
noncomputable abbrev tupO (vs : Array Value) (n : Nat) : Obj := { cls := .type "tuple", data := .seq vs n }
noncomputable def VList (V : View) (a : Addr) (vs : Array Value) : Prop := ∃ o, V a = some o ∧ o.cls = .type "list" ∧ ∃ n, o.data = .seq vs n
noncomputable def VTup (V : View) (a : Addr) (vs : Array Value) : Prop := ∃ o, V a = some o ∧ o.cls = .type "tuple" ∧ ∃ n, o.data = .seq vs n
theorem VList.mono {V V' : View} {a : Addr} {vs : Array Value} (h : VLe V V') (x : VList V a vs) : VList V' a vs := let ⟨o, e, r⟩ := x; ⟨o, h _ _ e, r⟩
theorem VTup.mono {V V' : View} {a : Addr} {vs : Array Value} (h : VLe V V') (x : VTup V a vs) : VTup V' a vs := let ⟨o, e, r⟩ := x; ⟨o, h _ _ e, r⟩
theorem VList.isSome {V : View} {a : Addr} {vs : Array Value} (x : VList V a vs) : (V a).isSome = true := let ⟨o, e, r⟩ := x; by rw [e]; rfl
theorem VTup.isSome {V : View} {a : Addr} {vs : Array Value} (x : VTup V a vs) : (V a).isSome = true := let ⟨o, e, r⟩ := x; by rw [e]; rfl
theorem VList.of {V : View} {a : Addr} {vs : Array Value} {n : Nat} (e : V a = some (listO vs n)) : VList V a vs := ⟨_, e, rfl, _, rfl⟩
theorem VTup.of {V : View} {a : Addr} {vs : Array Value} {n : Nat} (e : V a = some (tupO vs n)) : VTup V a vs := ⟨_, e, rfl, _, rfl⟩
noncomputable abbrev lamObj (l : Arguments × Expr × Scope) (clos : List (PySem.Str × Addr)) (pm : Value) (c : Addr) (ct : Value) (d : Option Addr) : Obj := { kla_obj (Str.ofString "<lambda>") lamQual l.1 l.2.1 l.2.2 clos pm c ct with dict := d }
noncomputable def CodeV (V : View) (v : Value) (q : PySem.Str) : Prop := ∃ c o vs t, v = .ref c ∧ V c = some o ∧ o.data = .fields vs ∧ vs[1]? = some (.str q t)
theorem CodeV.mono {V V' : View} (h : VLe V V') {v : Value} {q : PySem.Str} (x : CodeV V v q) : CodeV V' v q := let ⟨c, o, vs, t, a, b, r⟩ := x; ⟨c, o, vs, t, a, h _ _ b, r⟩
noncomputable def CellV (V : View) (c : Addr) (v : Value) : Prop := ∃ o, V c = some o ∧ o.data = .cell (some v)
theorem CellV.mono {V V' : View} (h : VLe V V') {c : Addr} {v : Value} (x : CellV V c v) : CellV V' c v := let ⟨o, a, r⟩ := x; ⟨o, h _ _ a, r⟩
inductive RuleAt (V : View) (v : Value) (name : PySem.Str) (ga : Addr) (u : Value) : Prop where
  | mk (P : Params) (f dx g c1 c2 : Addr) (es : List DictEntry) (n : Nat) (pm1 ct1 pm2 ct2 : Value) (k1 k2 : Addr) (clos : List (PySem.Str × Addr)) (t : Tok) (h1 : v = .ref f) (h2 : V f = some (lamObj (lam1 P) [] pm1 k1 ct1 (some dx)))
    (h3 : V dx = some (dictOf es n)) (h4 : getL (Str.ofString "applies_to") es = some (some (.ref g))) (h5 : getL (Str.ofString "allowance") es = some (some u)) (h6 : V g = some (lamObj (lam2 P) clos pm2 k2 ct2 none)) (h7 : CodeV V (.ref k2) lamQual)
    (h8 : clos.lookup (Str.ofString "name") = some c1) (h9 : clos.lookup (Str.ofString "guard") = some c2) (h10 : c1 ≠ c2) (h11 : ∀ x c, clos.lookup x = some c → x = Str.ofString "name" ∨ x = Str.ofString "guard") (h12 : CellV V c1 (.str name t)) (h13 : CellV V c2 (.ref ga)) : RuleAt V v name ga u
theorem RuleAt.mono {V V' : View} {v u : Value} {name : PySem.Str} {ga : Addr} (x : RuleAt V v name ga u) (h : VLe V V') : RuleAt V' v name ga u := by
  obtain ⟨P, f, dx, g, c1, c2, es, n, pm1, ct1, pm2, ct2, k1, k2, clos, t, h1, h2, h3, h4, h5, h6, h7, h8, h9, h10, h11, h12, h13⟩ := x
  exact ⟨P, f, dx, g, c1, c2, es, n, pm1, ct1, pm2, ct2, k1, k2, clos, t, h1, h _ _ h2, h _ _ h3, h4, h5, h _ _ h6, h7.mono h, h8, h9, h10, h11, h12.mono h, h13.mono h⟩
theorem RuleAt.isRef {V : View} {v u : Value} {name : PySem.Str} {ga : Addr} (x : RuleAt V v name ga u) : ∃ a, v = .ref a := by
  obtain ⟨P, f, dx, g, c1, c2, es, n, pm1, ct1, pm2, ct2, k1, k2, clos, t, h1, _, _, _, _, _, _, _, _, _, _, _, _⟩ := x
  exact ⟨f, h1⟩
noncomputable def patA : Nat → Addr
  | 1 => 134
  | 2 => 139
  | _ => 144
inductive Rep (V : View) : Value → D → Prop where
  | none : Rep V .none .none
  | bool (b : Bool) : Rep V (.bool b) (.bool b)
  | int (i : Int) (t : Tok) : Rep V (.int i t) (.int i)
  | str (s : PySem.Str) (t : Tok) : Rep V (.str s t) (.str s)
  | strP (p : Nat → Prop) (s : PySem.Str) (t : Tok) (h : p t) : Rep V (.str s t) (.strP p s)
  | bytes (b : Array UInt8) (t : Tok) : Rep V (.bytes b t) (.bytes b)
  | list (a : Addr) (vs : List Value) (ds : List D) (h : VList V a vs.toArray) (hl : vs.length = ds.length)
      (hi : ∀ (i : Nat) (v : Value) (d : D), vs[i]? = some v → ds[i]? = some d → Rep V v d) : Rep V (.ref a) (.list ds)
  | tup (a : Addr) (vs : List Value) (ds : List D) (h : VTup V a vs.toArray) (hl : vs.length = ds.length)
      (hi : ∀ (i : Nat) (v : Value) (d : D), vs[i]? = some v → ds[i]? = some d → Rep V v d) : Rep V (.ref a) (.tup ds)
  | entry (a dx : Addr) (es : List DictEntry) (n : Nat) (v1 v2 v3 v4 : Value) (d1 d2 d3 d4 : D) (h : V a = some (instObj entryA dx)) (hd : V dx = some (dictOf es n))
      (h1 : getL (Str.ofString "useragents") es = some (some v1)) (h2 : getL (Str.ofString "rulelines") es = some (some v2))
      (h3 : getL (Str.ofString "delay") es = some (some v3)) (h4 : getL (Str.ofString "req_rate") es = some (some v4))
      (h5 : getL (Str.ofString "applies_to") es = some Option.none) (h6 : getL (Str.ofString "allowance") es = some Option.none)
      (r1 : Rep V v1 d1) (r2 : Rep V v2 d2) (r3 : Rep V v3 d3) (r4 : Rep V v4 d4) : Rep V (.ref a) (.entry d1 d2 d3 d4)
  | rule (v u : Value) (ga : Addr) (name side : PySem.Str) (d : D) (h : RuleAt V v name ga u) (hg : Rep V (.ref ga) (.entry (.list [.str (Str.ofString "*"), .str (Txt.upper (side ++ name ++ side))]) (.list []) .none .none)) (hu : Rep V u d) : Rep V v (.rule name side d)
  | pat (k : Nat) : Rep V (.ref (patA k)) (.pat k)
  | own (a : Addr) : Rep V (.ref a) (.own a)
  | typ (T : String) : Rep V (.type T) (.typ T)
theorem Rep.mono {V V' : View} (hV : VLe V V') {v : Value} {d : D} (h : Rep V v d) : Rep V' v d := by
  induction h with
  | none => exact .none
  | bool b => exact .bool b
  | int i t => exact .int i t
  | str s t => exact .str s t
  | strP p s t h => exact .strP p s t h
  | bytes b t => exact .bytes b t
  | list a vs ds h hl _ ih => exact .list a vs ds (h.mono hV) hl ih
  | tup a vs ds h hl _ ih => exact .tup a vs ds (h.mono hV) hl ih
  | entry a dx es n v1 v2 v3 v4 d1 d2 d3 d4 h hd h1 h2 h3 h4 h5 h6 _ _ _ _ i1 i2 i3 i4 => exact .entry a dx es n v1 v2 v3 v4 d1 d2 d3 d4 (hV _ _ h) (hV _ _ hd) h1 h2 h3 h4 h5 h6 i1 i2 i3 i4
  | rule v u ga name side d h _ _ ig ih => exact .rule v u ga name side d (h.mono hV) ig ih
  | pat k => exact .pat k
  | own a => exact .own a
  | typ T => exact .typ T
noncomputable def Reps (V : View) (vs : List Value) (ds : List D) : Prop := vs.length = ds.length ∧ ∀ (i : Nat) (v : Value) (d : D), vs[i]? = some v → ds[i]? = some d → Rep V v d
theorem Reps.nil {V : View} : Reps V [] [] := ⟨rfl, fun i v d h => by simp at h⟩
theorem Reps.cons {V : View} {v : Value} {d : D} {vs : List Value} {ds : List D} (h : Rep V v d) (hs : Reps V vs ds) : Reps V (v :: vs) (d :: ds) :=
  ⟨by simp [hs.1], fun i x e hx he => by
    cases i with
    | zero => simp at hx he; subst hx; subst he; exact h
    | succ i => simp at hx he; exact hs.2 i x e hx he⟩
theorem Reps.head {V : View} {v : Value} {d : D} {vs : List Value} {ds : List D} (h : Reps V (v :: vs) (d :: ds)) : Rep V v d := h.2 0 v d rfl rfl
theorem Reps.tail {V : View} {v : Value} {d : D} {vs : List Value} {ds : List D} (h : Reps V (v :: vs) (d :: ds)) : Reps V vs ds :=
  ⟨by simpa using h.1, fun i x e hx he => h.2 (i + 1) x e (by simpa using hx) (by simpa using he)⟩
theorem Reps.mono {V V' : View} (hV : VLe V V') {vs : List Value} {ds : List D} (h : Reps V vs ds) : Reps V' vs ds := ⟨h.1, fun i v d hv hd => (h.2 i v d hv hd).mono hV⟩
theorem Reps.snoc {V : View} {v : Value} {d : D} : ∀ {vs : List Value} {ds : List D}, Reps V vs ds → Rep V v d → Reps V (vs ++ [v]) (ds ++ [d])
  | [], [], _, h => .cons h .nil
  | [], _ :: _, hs, _ => by have := hs.1; simp at this
  | _ :: _, [], hs, _ => by have := hs.1; simp at this
  | x :: vs, y :: ds, hs, h => .cons hs.head (Reps.snoc hs.tail h)
theorem Reps.inv_nil {V : View} {vs : List Value} (h : Reps V vs []) : vs = [] := List.length_eq_zero_iff.mp h.1
theorem Reps.inv_cons {V : View} {vs : List Value} {d : D} {ds : List D} (h : Reps V vs (d :: ds)) : ∃ v vs', vs = v :: vs' ∧ Rep V v d ∧ Reps V vs' ds := by
  cases vs with
  | nil => have := h.1; simp at this
  | cons v vs' => exact ⟨v, vs', rfl, h.head, h.tail⟩
theorem Reps.list {V : View} {a : Addr} {vs : List Value} {ds : List D} (h : VList V a vs.toArray) (hs : Reps V vs ds) : Rep V (.ref a) (.list ds) := .list a vs ds h hs.1 hs.2
theorem Reps.tup {V : View} {a : Addr} {vs : List Value} {ds : List D} (h : VTup V a vs.toArray) (hs : Reps V vs ds) : Rep V (.ref a) (.tup ds) := .tup a vs ds h hs.1 hs.2
noncomputable def Is (V : View) (v : Value) : D → Prop
  | .none => v = .none
  | .bool b => v = .bool b
  | .int i => ∃ t, v = .int i t
  | .str x => ∃ t, v = .str x t
  | .strP p x => ∃ t, p t ∧ v = .str x t
  | .bytes b => ∃ t, v = .bytes b t
  | .entry d1 d2 d3 d4 => ∃ a dx es n v1 v2 v3 v4, v = .ref a ∧ V a = some (instObj entryA dx) ∧ V dx = some (dictOf es n) ∧ getL (Str.ofString "useragents") es = some (some v1) ∧ getL (Str.ofString "rulelines") es = some (some v2) ∧
      getL (Str.ofString "delay") es = some (some v3) ∧ getL (Str.ofString "req_rate") es = some (some v4) ∧ getL (Str.ofString "applies_to") es = some Option.none ∧ getL (Str.ofString "allowance") es = some Option.none ∧ Rep V v1 d1 ∧ Rep V v2 d2 ∧ Rep V v3 d3 ∧ Rep V v4 d4
  | .rule name side d => ∃ u ga, RuleAt V v name ga u ∧ Rep V (.ref ga) (.entry (.list [.str (Str.ofString "*"), .str (Txt.upper (side ++ name ++ side))]) (.list []) .none .none) ∧ Rep V u d
  | .pat k => v = .ref (patA k)
  | .own a => v = .ref a
  | .typ T => v = .type T
  | .list ds => ∃ a vs, v = .ref a ∧ VList V a vs.toArray ∧ Reps V vs ds
  | .tup ds => ∃ a vs, v = .ref a ∧ VTup V a vs.toArray ∧ Reps V vs ds
theorem Rep.is {V : View} {v : Value} {d : D} (r : Rep V v d) : Is V v d := by
  cases r with
  | strP p s t h => exact ⟨t, h, rfl⟩
  | entry a dx es n v1 v2 v3 v4 _ _ _ _ h hd h1 h2 h3 h4 h5 h6 r1 r2 r3 r4 => exact ⟨a, dx, es, n, v1, v2, v3, v4, rfl, h, hd, h1, h2, h3, h4, h5, h6, r1, r2, r3, r4⟩
  | rule v u ga name side d h hg hu => exact ⟨u, ga, h, hg, hu⟩
  | list a vs ds h hl hi => exact ⟨a, vs, rfl, h, hl, hi⟩
  | tup a vs ds h hl hi => exact ⟨a, vs, rfl, h, hl, hi⟩
  | _ => first | rfl | exact ⟨_, rfl⟩
theorem Rep.inv_list {V : View} {v : Value} {ds : List D} (h : Rep V v (.list ds)) : ∃ a vs, v = .ref a ∧ VList V a vs.toArray ∧ Reps V vs ds := h.is
theorem Rep.inv_tup {V : View} {v : Value} {ds : List D} (h : Rep V v (.tup ds)) : ∃ a vs, v = .ref a ∧ VTup V a vs.toArray ∧ Reps V vs ds := h.is
@[elab_as_elim] theorem Reps.el1 {V : View} {d : D} {P : List Value → Prop} {vs : List Value} (rs : Reps V vs [d]) (h : ∀ v, Rep V v d → P [v]) : P vs := by
  obtain ⟨v, vs', rfl, r, rs'⟩ := rs.inv_cons
  obtain rfl := rs'.inv_nil
  exact h v r
@[elab_as_elim] theorem Reps.el2 {V : View} {d d2 : D} {P : List Value → Prop} {vs : List Value} (rs : Reps V vs [d, d2]) (h : ∀ v v2, Rep V v d → Rep V v2 d2 → P [v, v2]) : P vs := by
  obtain ⟨v, vs', rfl, r, rs'⟩ := rs.inv_cons
  exact rs'.el1 (P := fun l => P (v :: l)) fun v2 r2 => h v v2 r r2
@[elab_as_elim] theorem Reps.el3 {V : View} {d d2 d3 : D} {P : List Value → Prop} {vs : List Value} (rs : Reps V vs [d, d2, d3]) (h : ∀ v v2 v3, Rep V v d → Rep V v2 d2 → Rep V v3 d3 → P [v, v2, v3]) : P vs := by
  obtain ⟨v, vs', rfl, r, rs'⟩ := rs.inv_cons
  exact rs'.el2 (P := fun l => P (v :: l)) fun v2 v3 r2 r3 => h v v2 v3 r r2 r3
@[elab_as_elim] theorem Rep.elList {V : View} {ds : List D} {P : Value → Prop} {v : Value} (r : Rep V v (.list ds)) (h : ∀ a vs, VList V a vs.toArray → Reps V vs ds → P (.ref a)) : P v := by
  obtain ⟨a, vs, rfl, ha, hs⟩ := r.inv_list
  exact h a vs ha hs
@[elab_as_elim] theorem Rep.elInt {V : View} {i : Int} {P : Value → Prop} {v : Value} (r : Rep V v (.int i)) (h : ∀ t, P (.int i t)) : P v := by obtain ⟨t, rfl⟩ := r.is; exact h t
@[elab_as_elim] theorem Rep.elStr {V : View} {x : PySem.Str} {P : Value → Prop} {v : Value} (r : Rep V v (.str x)) (h : ∀ t, P (.str x t)) : P v := by obtain ⟨t, rfl⟩ := r.is; exact h t
@[elab_as_elim] theorem Rep.elBytes {V : View} {b : Array UInt8} {P : Value → Prop} {v : Value} (r : Rep V v (.bytes b)) (h : ∀ t, P (.bytes b t)) : P v := by obtain ⟨t, rfl⟩ := r.is; exact h t
theorem len1 {l : List Value} (h : l.length = 1) : ∃ a, l = [a] := List.length_eq_one_iff.mp h
theorem lenS {l : List Value} {n : Nat} (h : l.length = n + 1) : ∃ a r, l = a :: r ∧ r.length = n := by
  cases l with
  | nil => cases h
  | cons a r => exact ⟨a, r, rfl, Nat.succ.inj h⟩
theorem len2 {l : List Value} (h : l.length = 2) : ∃ a b, l = [a, b] := by
  refine hid fun G hG => ?_
  obtain ⟨a, r, e, h1⟩ := lenS h
  obtain ⟨b, e1⟩ := len1 h1
  refine hG ?_
  exact ⟨a, b, by rw [e, e1]⟩
theorem len3 {l : List Value} (h : l.length = 3) : ∃ a b c, l = [a, b, c] := by
  refine hid fun G hG => ?_
  obtain ⟨a, r, e, h1⟩ := lenS h
  obtain ⟨b, c, e1⟩ := len2 h1
  refine hG ?_
  exact ⟨a, b, c, by rw [e, e1]⟩
theorem len6 {l : List Value} (h : l.length = 6) : ∃ a b c d e f, l = [a, b, c, d, e, f] := by
  refine hid fun G hG => ?_
  obtain ⟨a, r1, e1, h1⟩ := lenS h
  obtain ⟨b, r2, e2, h2⟩ := lenS h1
  obtain ⟨c, r3, e3, h3⟩ := lenS h2
  obtain ⟨d, e, f, e4⟩ := len3 h3
  refine hG ?_
  exact ⟨a, b, c, d, e, f, by rw [e1, e2, e3, e4]⟩
structure Cx where
  prog : Program
  w : World
  g₀ : Heap
  K : Frag
  mg : PySem.Str → Option Value
  mb : PySem.Str → Option Value
  os : OsState
  g : g₀.Ns mainGlobals mg
  b : g₀.Ns builtinsNs mb
  nolimit : g₀.NoLimit
  blt : ∀ x : PySem.Str, x ≠ "__name__" → mb x = bootBuiltins x
  inK : K.In g₀
  tabg : g₀.get? tabA = none
  n : Nat
  nb : NoneBooked g₀
  bmain : ∃ bm ob, mg "__builtins__" = some (.ref bm) ∧ bm ≠ builtinsNs ∧ g₀.get? bm = some ob ∧ ob.cls = .type "module" ∧ ob.dict = some builtinsNs ∧ ob.data = .plain
noncomputable abbrev Cx.M (C : Cx) : Model := model C.prog C.w
noncomputable def TabOk (V : View) (h : Heap) : Prop := ∃ ps : Array Value, h.get? tabA = some (tabObj ps) ∧ TriplesOk ps.toList ∧ ∀ pos v, codeAmong pos ps.toList = some v → CodeV V v lamQual
structure St (C : Cx) (V : View) (s : Shared) : Prop where
  base : ∀ b o, C.g₀.get? b = some o → V b = some o
  sub : ∀ b o, V b = some o → s.heap.get? b = some o
  tab : TabOk V s.heap
  tabV : V tabA = Option.none
  gens : s.gens = #[]
  os : s.os = C.os
  tk : C.n ≤ s.toks
theorem St.more {C : Cx} {V : View} {s : Shared} (S : St C V s) {m : Nat} : C.n ≤ s.toks + m := Nat.le_trans S.tk (Nat.le_add_right _ _)
local macro_rules | `(tactic| walk_at "tk_le") => `(tactic| first | assumption | exact St.tk (by assumption) | exact St.more (by assumption) | (dsimp only; first | assumption | exact St.tk (by assumption) | exact St.more (by assumption)))
structure Ext (V : View) (s : Shared) (V' : View) (s' : Shared) : Prop where
  mono : VLe V V'
  same : ∀ a o, s.heap.get? a = some o → V' a = V a
  keep : ∀ a o, a ≠ tabA → s.heap.get? a = some o → s'.heap.get? a = some o
  tab : ∀ o, s.heap.get? tabA = some o → ∃ o', s'.heap.get? tabA = some o'
theorem Ext.refl (V : View) (s : Shared) : Ext V s V s := ⟨VLe.refl V, fun _ _ _ => rfl, fun _ _ _ e => e, fun o e => ⟨o, e⟩⟩
theorem Ext.trans {V V' V'' : View} {s s' s'' : Shared} (x : Ext V s V' s') (y : Ext V' s' V'' s'') : Ext V s V'' s'' where
  mono := x.mono.trans y.mono
  same := fun a o e => by
    by_cases ha : a = tabA
    · subst ha; obtain ⟨o', e'⟩ := x.tab o e; exact (y.same _ _ e').trans (x.same _ _ e)
    · exact (y.same a o (x.keep a o ha e)).trans (x.same a o e)
  keep := fun a o ha e => y.keep a o ha (x.keep a o ha e)
  tab := fun o e => by obtain ⟨o', e'⟩ := x.tab o e; exact y.tab o' e'
theorem TabOk.at {V V' : View} {h h' : Heap} (x : TabOk V h) (l : VLe V V') (k : ∀ o, h.get? tabA = some o → h'.get? tabA = some o) : TabOk V' h' :=
  let ⟨ps, e, t, c⟩ := x; ⟨ps, k _ e, t, fun pos v q => (c pos v q).mono l⟩
theorem TabOk.keeps {V : View} {h h' : Heap} (x : TabOk V h) (k : ∀ b o, h.get? b = some o → h'.get? b = some o) : TabOk V h' := x.at (.refl V) fun o e => k _ o e
theorem St.but {C : Cx} {V : View} {s s' : Shared} (S : St C V s) (wr : Addr → Prop) (k : ∀ b o, ¬ wr b → s.heap.get? b = some o → s'.heap.get? b = some o) (hV : ∀ b, wr b → V b = none) (ht : ¬ wr tabA)
    (hg : s'.gens = s.gens) (ho : s'.os = s.os) (hn : C.n ≤ s'.toks := by walk_at "tk_le") : St C V s' :=
  ⟨S.base, fun b o e => k b o (fun q => by rw [hV b q] at e; cases e) (S.sub b o e), S.tab.at (.refl V) fun o e => k _ o ht e, S.tabV, hg.trans S.gens, ho.trans S.os, hn⟩
theorem VList.isList {C : Cx} {V : View} {s : Shared} {a : Addr} {vs : Array Value} (x : VList V a vs) (S : St C V s) : s.heap.IsList a vs := let ⟨o, e, r⟩ := x; ⟨o, S.sub _ _ e, r⟩
theorem VTup.isTup {C : Cx} {V : View} {s : Shared} {a : Addr} {vs : Array Value} (x : VTup V a vs) (S : St C V s) : s.heap.IsTuple a vs := let ⟨o, e, r⟩ := x; ⟨o, S.sub _ _ e, r⟩
theorem VList.lt {C : Cx} {V : View} {s : Shared} {a : Addr} {vs : Array Value} (x : VList V a vs) (S : St C V s) : a < s.heap.objs.size := let ⟨o, e, _⟩ := x; Heap.lt_size (S.sub _ _ e)
theorem VTup.lt {C : Cx} {V : View} {s : Shared} {a : Addr} {vs : Array Value} (x : VTup V a vs) (S : St C V s) : a < s.heap.objs.size := let ⟨o, e, _⟩ := x; Heap.lt_size (S.sub _ _ e)
theorem St.keeps {C : Cx} {V : View} {s : Shared} (S : St C V s) {h' : Heap} {tk : Nat} (k : ∀ b o, s.heap.get? b = some o → h'.get? b = some o) (hn : C.n ≤ tk := by walk_at "tk_le") : St C V { s with heap := h', toks := tk } :=
  ⟨S.base, fun b o e => k _ _ (S.sub b o e), S.tab.keeps k, S.tabV, S.gens, S.os, hn⟩
theorem Ext.keeps {V : View} {s : Shared} {h' : Heap} {tk : Nat} (k : ∀ b o, s.heap.get? b = some o → h'.get? b = some o) : Ext V s V { s with heap := h', toks := tk } :=
  ⟨VLe.refl V, fun _ _ _ => rfl, fun a o _ e => k a o e, fun o e => ⟨o, k _ _ e⟩⟩
noncomputable def grow (V : View) (h h' : Heap) : View := fun a => if (h.get? a).isSome then V a else h'.get? a
theorem grow_old {V : View} {h h' : Heap} {a : Addr} {o : Obj} (e : h.get? a = some o) : grow V h h' a = V a := by unfold grow; rw [e]; rfl
theorem grow_new {V : View} {h h' : Heap} {a : Addr} (e : h.get? a = Option.none) : grow V h h' a = h'.get? a := by unfold grow; rw [e]; rfl
theorem St.grow {C : Cx} {V : View} {s : Shared} (S : St C V s) {h' : Heap} {tk : Nat} (k : ∀ b o, s.heap.get? b = some o → h'.get? b = some o) (hn : C.n ≤ tk := by walk_at "tk_le") :
    St C (grow V s.heap h') { s with heap := h', toks := tk } ∧ Ext V s (grow V s.heap h') { s with heap := h', toks := tk } := by
  have mono : VLe V (Mine.grow V s.heap h') := fun a o e => by rw [grow_old (S.sub a o e)]; exact e
  refine ⟨⟨fun b o e => mono _ _ (S.base b o e), fun b o e => ?_, S.tab.at mono fun o e => k _ o e, ?_, S.gens, S.os, hn⟩, mono, fun a o e => grow_old e, fun a o _ e => k a o e, fun o e => ⟨o, k _ _ e⟩⟩
  · cases q : s.heap.get? b with
    | none => rw [grow_new q] at e; exact e
    | some o' => rw [grow_old q] at e; exact k _ _ (S.sub b o e)
  · obtain ⟨ps, e, _⟩ := S.tab
    rw [grow_old e]; exact S.tabV
noncomputable def Room (k : Nat) (A : Around) : Prop := A.depth + k < 1000 ∧ A.units + 50 * k < 9900 ∧ A.handled = none
theorem Room.mono {k k' : Nat} {A : Around} (h : Room k A) (hk : k' ≤ k) : Room k' A := ⟨by have := h.1; lia, by have := h.2.1; lia, h.2.2⟩
theorem Room.deeper {k : Nat} {A : Around} {env : Env} (h : Room (k + 1) A) : Room k (A.deeper env) := ⟨by have := h.1; simp only [Around.deeper]; lia, by have := h.2.1; simp only [Around.deeper]; lia, h.2.2⟩
theorem Room.depth {k : Nat} {A : Around} (h : Room k A) : A.depth < recursionLimit := by have := h.1; simp only [recursionLimit]; lia
noncomputable def Yl (C : Cx) (A : Around) (V : View) (s : Shared) {α : Type} (t : Sem α) (P : View → α → Prop) : Prop :=
  ∀ (E : Value → Shared → Prop) (Q : α → Shared → Prop), (∀ a V' s', Ext V s V' s' → St C V' s' → P V' a → Q a s') → wpAny C.M A t Q E s
noncomputable abbrev Yd (C : Cx) (A : Around) (V : View) (s : Shared) (t : Sem Value) (d : D) : Prop := Yl C A V s t fun V' v => Rep V' v d
section
variable {C : Cx} {A : Around} {V : View} {s : Shared} {α β : Type}
theorem Yl.pure {a : α} {P : View → α → Prop} (S : St C V s) (h : P V a) : Yl C A V s (pure a) P := fun _ _ q => wpAny_pure (q a V s (.refl V s) S h)
theorem Yl.bind {m : Sem α} {f : α → Sem β} {P : View → α → Prop} {R : View → β → Prop} (h : Yl C A V s m P)
    (k : ∀ a V' s', Ext V s V' s' → St C V' s' → P V' a → Yl C A V' s' (f a) R) : Yl C A V s (m >>= f) R :=
  fun E _ q => wpAny_bind (h E _ fun a V' s' X S hp => k a V' s' X S hp E _ fun b V'' s'' X' S' hr => q b V'' s'' (X.trans X') S' hr)
theorem Yl.mono {t : Sem α} {P R : View → α → Prop} (h : Yl C A V s t P) (k : ∀ V' a, P V' a → R V' a) : Yl C A V s t R := fun E _ q => h E _ fun a V' s' X S hp => q a V' s' X S (k _ _ hp)
theorem Yl.standAt {f : Unit → Sem α} {pos : Pos} {P : View → α → Prop} (h : Yl C A V s (f ()) P) : Yl C A V s (standAt pos >>= f) P := fun E Q q => wpAny_bind (wpAny_standAt (h E Q q))
theorem Yl.holding {t : Sem α} {vs : List Value} {P : View → α → Prop} (h : Yl C A V s t P) : Yl C A V s (holding vs t) P := fun E Q q => wpAny_holding (h E Q q)
theorem wpAny_operate' {M : Model} {A : Around} {E : Value → Shared → Prop} {s : Shared} {t : Sem Value} {vs : List Value} {Q : Value → Shared → Prop} (h : wpAny M A t Q E s) : wpAny M A (operate vs t) Q E s :=
  fun Γ p hΓ => by rw [Sem.wp_operate]; exact h Γ p hΓ
theorem Yl.operate {t : Sem Value} {vs : List Value} {P : View → Value → Prop} (h : Yl C A V s t P) : Yl C A V s (operate vs t) P := fun E Q q => wpAny_operate' (h E Q q)
theorem wp_toks' {M : Model} {A : Around} {t : Sem α} {Q : α → Shared → Prop} {E : Value → Shared → Prop} {n : Nat} (hn : n ≤ s.toks) (h : wpAny M A t (fun a s' => n ≤ s'.toks → Q a s') E s) : wpAny M A t Q E s :=
  wpAny_mono (wpAny_toks_of hn h) (fun _ _ x => x.2 x.1) (fun _ _ x => x.2)
theorem Yl.of_tok {t : Sem α} {P : View → α → Prop} (S : St C V s) (h : ∀ (E : Value → Shared → Prop) (Q : α → Shared → Prop), (∀ a tk, P V a → Q a { s with toks := tk }) → wpAny C.M A t Q E s) : Yl C A V s t P :=
  fun E Q q => wp_toks' S.tk (h E (fun a s' => C.n ≤ s'.toks → Q a s') fun a tk hp hn => q a V _ (.keeps (h' := s.heap) fun _ _ e => e) (S.keeps (h' := s.heap) (fun _ _ e => e) hn) hp)
theorem Yl.of_keep {t : Sem α} {P : View → α → Prop} (S : St C V s) (h : ∀ (E : Value → Shared → Prop) (Q : α → Shared → Prop), (∀ a h' tk, (∀ b o, s.heap.get? b = some o → h'.get? b = some o) → P V a → Q a { s with heap := h', toks := tk }) → wpAny C.M A t Q E s) : Yl C A V s t P :=
  fun E Q q => wp_toks' S.tk (h E (fun a s' => C.n ≤ s'.toks → Q a s') fun a _ _ k hp hn => q a V _ (.keeps k) (S.keeps k hn) hp)
theorem Yl.of_new {t : Sem α} {P : View → α → Prop} (S : St C V s) (h : ∀ (E : Value → Shared → Prop) (Q : α → Shared → Prop), (∀ a h' tk, (∀ b o, s.heap.get? b = some o → h'.get? b = some o) → P (grow V s.heap h') a → Q a { s with heap := h', toks := tk }) → wpAny C.M A t Q E s) : Yl C A V s t P :=
  fun E Q q => wp_toks' S.tk (h E (fun a s' => C.n ≤ s'.toks → Q a s') fun a h' tk k hp hn => q a _ _ (S.grow (tk := tk) k hn).2 (S.grow k hn).1 hp)
end
end
local macro_rules | `(tactic| walk_at "tk_le") => `(tactic| first | assumption | exact St.tk (by assumption) | exact St.more (by assumption) | (dsimp only; first | assumption | exact St.tk (by assumption) | exact St.more (by assumption)))
section
open PySem PySem.W PySem.Calls PyProof.Rows
noncomputable def nmTable : List PySem.Str := [Str.ofString "self", Str.ofString "agent", Str.ofString "rate", Str.ofString "useragent", Str.ofString "filename", Str.ofString "best_match", Str.ofString "allowance", Str.ofString "line", Str.ofString "m", Str.ofString "e1", Str.ofString "e2", Str.ofString "entry", Str.ofString "a", Str.ofString "b", Str.ofString "count", Str.ofString "i", Str.ofString "j", Str.ofString "data", Str.ofString "bindata", Str.ofString "width", Str.ofString "swapped_data", Str.ofString "word", Str.ofString ".0", Str.ofString "sign", Str.ofString "piece", Str.ofString "rows", Str.ofString "row", Str.ofString "name", Str.ofString "text", Str.ofString "size", Str.ofString "counts", Str.ofString "k", Str.ofString "mirror", Str.ofString "letter", Str.ofString "places", Str.ofString "pairs", Str.ofString "low", Str.ofString "high", Str.ofString "side", Str.ofString "verdict", Str.ofString "rule", Str.ofString "guard", Str.ofString "asked", Str.ofString "agents", Str.ofString "names", Str.ofString "mark", Str.ofString "delay", Str.ofString "record", Str.ofString "script", Str.ofString "bases", Str.ofString "cells", Str.ofString "tail", Str.ofString "least", Str.ofString "held", Str.ofString "named", Str.ofString "dotted", Str.ofString "turn", Str.ofString "other", Str.ofString "star", Str.ofString "turned", Str.ofString "sums", Str.ofString "found", Str.ofString "error", Str.ofString "floors", Str.ofString "ends", Str.ofString "dots", Str.ofString "marks", Str.ofString "first", Str.ofString "second", Str.ofString "one", Str.ofString "two", Str.ofString "shared", Str.ofString "common", Str.ofString "verdicts", Str.ofString "behind", Str.ofString "told", Str.ofString "due", Str.ofString "swap", Str.ofString "pair", Str.ofString "breaks", Str.ofString "mail", Str.ofString "sent", Str.ofString "fixed", Str.ofString "quoted", Str.ofString "base", Str.ofString "x", Str.ofString "cell", Str.ofString "code", Str.ofString "step", Str.ofString "part", Str.ofString "answer", Str.ofString "right", Str.ofString "end"]
noncomputable def nm (i : Nat) : PySem.Str := nmTable.getD i ⟨#[1114112 + i]⟩
theorem nmTable_nodup : nmTable.Nodup := by decide +kernel
theorem nmTable_small : nmTable.all (fun s => s.cps.all fun c => decide (c < 1114112)) = true := by decide +kernel
noncomputable abbrev i_self : Nat := 0
noncomputable abbrev i_agent : Nat := 1
noncomputable abbrev i_rate : Nat := 2
noncomputable abbrev i_useragent : Nat := 3
noncomputable abbrev i_filename : Nat := 4
noncomputable abbrev i_best_match : Nat := 5
noncomputable abbrev i_allowance : Nat := 6
noncomputable abbrev i_line : Nat := 7
noncomputable abbrev i_m : Nat := 8
noncomputable abbrev i_e1 : Nat := 9
noncomputable abbrev i_e2 : Nat := 10
noncomputable abbrev i_entry : Nat := 11
noncomputable abbrev i_a : Nat := 12
noncomputable abbrev i_b : Nat := 13
noncomputable abbrev i_count : Nat := 14
noncomputable abbrev i_i : Nat := 15
noncomputable abbrev i_j : Nat := 16
noncomputable abbrev i_data : Nat := 17
noncomputable abbrev i_bindata : Nat := 18
noncomputable abbrev i_width : Nat := 19
noncomputable abbrev i_swapped_data : Nat := 20
noncomputable abbrev i_word : Nat := 21
noncomputable abbrev i_sign : Nat := 23
noncomputable abbrev i_piece : Nat := 24
noncomputable abbrev i_rows : Nat := 25
noncomputable abbrev i_row : Nat := 26
noncomputable abbrev i_name : Nat := 27
noncomputable abbrev i_text : Nat := 28
noncomputable abbrev i_size : Nat := 29
noncomputable abbrev i_counts : Nat := 30
noncomputable abbrev i_k : Nat := 31
noncomputable abbrev i_mirror : Nat := 32
noncomputable abbrev i_letter : Nat := 33
noncomputable abbrev i_places : Nat := 34
noncomputable abbrev i_pairs : Nat := 35
noncomputable abbrev i_low : Nat := 36
noncomputable abbrev i_high : Nat := 37
noncomputable abbrev i_side : Nat := 38
noncomputable abbrev i_verdict : Nat := 39
noncomputable abbrev i_rule : Nat := 40
noncomputable abbrev i_guard : Nat := 41
noncomputable abbrev i_asked : Nat := 42
noncomputable abbrev i_agents : Nat := 43
noncomputable abbrev i_names : Nat := 44
noncomputable abbrev i_mark : Nat := 45
noncomputable abbrev i_delay : Nat := 46
noncomputable abbrev i_record : Nat := 47
noncomputable abbrev i_script : Nat := 48
noncomputable abbrev i_bases : Nat := 49
noncomputable abbrev i_cells : Nat := 50
noncomputable abbrev i_tail : Nat := 51
noncomputable abbrev i_least : Nat := 52
noncomputable abbrev i_held : Nat := 53
noncomputable abbrev i_named : Nat := 54
noncomputable abbrev i_dotted : Nat := 55
noncomputable abbrev i_turn : Nat := 56
noncomputable abbrev i_other : Nat := 57
noncomputable abbrev i_star : Nat := 58
noncomputable abbrev i_turned : Nat := 59
noncomputable abbrev i_sums : Nat := 60
noncomputable abbrev i_found : Nat := 61
noncomputable abbrev i_error : Nat := 62
noncomputable abbrev i_floors : Nat := 63
noncomputable abbrev i_ends : Nat := 64
noncomputable abbrev i_dots : Nat := 65
noncomputable abbrev i_marks : Nat := 66
noncomputable abbrev i_first : Nat := 67
noncomputable abbrev i_second : Nat := 68
noncomputable abbrev i_one : Nat := 69
noncomputable abbrev i_two : Nat := 70
noncomputable abbrev i_shared : Nat := 71
noncomputable abbrev i_common : Nat := 72
noncomputable abbrev i_verdicts : Nat := 73
noncomputable abbrev i_behind : Nat := 74
noncomputable abbrev i_told : Nat := 75
noncomputable abbrev i_due : Nat := 76
noncomputable abbrev i_swap : Nat := 77
noncomputable abbrev i_pair : Nat := 78
noncomputable abbrev i_breaks : Nat := 79
noncomputable abbrev i_mail : Nat := 80
noncomputable abbrev i_sent : Nat := 81
noncomputable abbrev i_fixed : Nat := 82
noncomputable abbrev i_quoted : Nat := 83
noncomputable abbrev i_base : Nat := 84
noncomputable abbrev i_x : Nat := 85
noncomputable abbrev i_cell : Nat := 86
noncomputable abbrev i_code : Nat := 87
noncomputable abbrev i_step : Nat := 88
noncomputable abbrev i_part : Nat := 89
noncomputable abbrev i_answer : Nat := 90
noncomputable abbrev i_right : Nat := 91
noncomputable abbrev i_end : Nat := 92
theorem nm_lt {i : Nat} (h : i < nmTable.length) : nm i = nmTable[i] := by
  show nmTable.getD i _ = _
  rw [List.getD_eq_getElem?_getD, List.getElem?_eq_getElem h]; rfl
theorem nm_ge {i : Nat} (h : ¬ i < nmTable.length) : nm i = ⟨#[1114112 + i]⟩ := by
  show nmTable.getD i _ = _
  rw [List.getD_eq_getElem?_getD, List.getElem?_eq_none (Nat.le_of_not_lt h)]; rfl
theorem nm_inj {i j : Nat} (e : nm i = nm j) : i = j := by
  by_cases hi : i < nmTable.length <;> by_cases hj : j < nmTable.length
  · rw [nm_lt hi, nm_lt hj] at e
    exact (List.getElem_inj nmTable_nodup).mp e
  · exfalso
    rw [nm_lt hi, nm_ge hj] at e
    have h := List.all_eq_true.mp nmTable_small _ (List.getElem_mem hi)
    rw [e] at h
    simp at h
    lia
  · exfalso
    rw [nm_ge hi, nm_lt hj] at e
    have h := List.all_eq_true.mp nmTable_small _ (List.getElem_mem hj)
    rw [← e] at h
    simp at h
    lia
  · rw [nm_ge hi, nm_ge hj] at e
    have := congrArg (fun s : PySem.Str => s.cps) e
    simp at this
    exact this
noncomputable abbrev Asn := List (Nat × D)
noncomputable def Asn.get (ρ : Asn) (i : Nat) : Option D := ρ.lookup i
theorem Asn.here {i : Nat} {d : D} {ρ : Asn} : Asn.get ((i, d) :: ρ) i = some d := by simp [Asn.get, List.lookup_cons]
theorem Asn.there {i j : Nat} {d e : D} {ρ : Asn} (h : i ≠ j) (t : Asn.get ρ i = some d) : Asn.get ((j, e) :: ρ) i = some d := by
  have : (i == j) = false := by simpa using h
  simp only [Asn.get, List.lookup_cons, this]; exact t
theorem Asn.cons_inv {i j : Nat} {d e : D} {ρ : Asn} (h : Asn.get ((j, e) :: ρ) i = some d) : (i = j ∧ d = e) ∨ (i ≠ j ∧ Asn.get ρ i = some d) := by
  by_cases hij : i = j
  · subst hij; rw [Asn.here] at h; exact .inl ⟨rfl, (Option.some.inj h).symm⟩
  · have : (i == j) = false := by simpa using hij
    simp only [Asn.get, List.lookup_cons, this] at h; exact .inr ⟨hij, h⟩
noncomputable def Asn.Le (ρ' ρ : Asn) : Prop := ∀ i d, ρ'.get i = some d → ρ.get i = some d
theorem Asn.Le.nil {ρ : Asn} : Asn.Le [] ρ := fun i d h => by simp [Asn.get] at h
theorem Asn.Le.cons {i : Nat} {d : D} {ρ ρ' : Asn} (h : ρ.get i = some d) (t : Asn.Le ρ' ρ) : Asn.Le ((i, d) :: ρ') ρ := fun j e he => by
  rcases Asn.cons_inv he with ⟨rfl, rfl⟩ | ⟨_, he⟩
  · exact h
  · exact t j e he
structure Frm (C : Cx) (env : Env) (ρ : Asn) (V : View) (h : Heap) : Prop where
  kind : env.scope.kind = .function
  glob : env.globals = mainGlobals
  blt : env.builtins = builtinsNs
  ns : ∃ m, h.Ns env.locals m ∧ ∀ i d, ρ.get i = some d → env.scope.names.lookup (nm i) = some .local → ∃ v, m (nm i) = some v ∧ Rep V v d
  locFree : V env.locals = none
  cells : ∀ x c, env.cells.lookup x = some c → (V c = none ∨ env.scope.names.lookup x ≠ some .cell) ∧ ∃ v, h.IsCell c v ∧
    ∀ i d, nm i = x → (env.scope.names.lookup x = some .cell ∨ env.scope.names.lookup x = some .free) → ρ.get i = some d → ∃ u, v = some u ∧ Rep V u d
  has : ∀ x, (env.scope.names.lookup x = some .cell ∨ env.scope.names.lookup x = some .free) → ∃ c, env.cells.lookup x = some c
  inj : ∀ x y c, env.cells.lookup x = some c → env.cells.lookup y = some c → x = y
  knd : ∀ i d, ρ.get i = some d → env.scope.names.lookup (nm i) = some .local ∨ env.scope.names.lookup (nm i) = some .cell ∨ env.scope.names.lookup (nm i) = some .free
section
variable {C : Cx} {A : Around} {V V' : View} {s s' : Shared} {env : Env} {ρ ρ' : Asn}
theorem Frm.le {h : Heap} (F : Frm C env ρ V h) (l : Asn.Le ρ' ρ) : Frm C env ρ' V h where
  kind := F.kind
  glob := F.glob
  blt := F.blt
  ns := let ⟨m, a, b⟩ := F.ns; ⟨m, a, fun i d e => b i d (l i d e)⟩
  locFree := F.locFree
  cells := fun x c hc => let ⟨a, v, b, g⟩ := F.cells x c hc; ⟨a, v, b, fun i d hi hk e => g i d hi hk (l i d e)⟩
  has := F.has
  inj := F.inj
  knd := fun i d e => F.knd i d (l i d e)
theorem ne_tab_of_dict {a : Addr} {o : Obj} {es ep} (T : TabOk V s.heap) (e : s.heap.get? a = some o) (d : o.data = .dict es ep) : a ≠ tabA := by
  rintro rfl; obtain ⟨ps, e', _⟩ := T; rw [e'] at e; cases e; cases d
theorem ne_tab_of_cell {a : Addr} {v} (T : TabOk V s.heap) (e : s.heap.IsCell a v) : a ≠ tabA := by
  rintro rfl; obtain ⟨ps, e', _⟩ := T; obtain ⟨o, e, d⟩ := e; rw [e'] at e; cases e; cases d
theorem Frm.ext (F : Frm C env ρ V s.heap) (S : St C V s) (X : Ext V s V' s') : Frm C env ρ V' s'.heap where
  kind := F.kind
  glob := F.glob
  blt := F.blt
  ns := by
    obtain ⟨m, ⟨o, es, ep, e, d, r⟩, b⟩ := F.ns
    exact ⟨m, ⟨o, es, ep, X.keep _ _ (ne_tab_of_dict S.tab e d) e, d, r⟩, fun i d hi hk => let ⟨v, hv, hr⟩ := b i d hi hk; ⟨v, hv, hr.mono X.mono⟩⟩
  locFree := by
    obtain ⟨m, ⟨o, es, ep, e, d, r⟩, b⟩ := F.ns
    rw [X.same _ _ e]; exact F.locFree
  cells := fun x c hc => by
    refine hid fun G hG => ?_
    obtain ⟨f, v, b, g⟩ := F.cells x c hc
    have hne := ne_tab_of_cell S.tab b
    obtain ⟨o, e, d⟩ := b
    refine hG ?_
    exact ⟨by rw [X.same _ _ e]; exact f, v, ⟨o, X.keep _ _ hne e, d⟩, fun i d hi hk e => let ⟨u, hu, hr⟩ := g i d hi hk e; ⟨u, hu, hr.mono X.mono⟩⟩
  has := F.has
  inj := F.inj
  knd := F.knd
end
noncomputable def Ev (C : Cx) (k : Nat) (sc : Scope) (ρ : Asn) (e : Expr) (d : D) : Prop :=
  ∀ (env : Env) (A : Around) (V : View) (s : Shared), env.scope = sc → Room k A → St C V s → Frm C env ρ V s.heap → Yd C A V s (eval e env) d
noncomputable def Tst (C : Cx) (k : Nat) (sc : Scope) (ρ : Asn) (e : Expr) (b : Bool) : Prop :=
  ∀ (env : Env) (A : Around) (V : View) (s : Shared), env.scope = sc → Room k A → St C V s → Frm C env ρ V s.heap → Yl C A V s (isTrue e env (eval e env)) fun _ c => c = b
noncomputable def EvL (C : Cx) (k : Nat) (sc : Scope) (ρ : Asn) (es : List Expr) (ds : List D) : Prop :=
  ∀ (env : Env) (A : Around) (V : View) (s : Shared) (pos : Pos), env.scope = sc → Room k A → St C V s → Frm C env ρ V s.heap → Yl C A V s (spliced (backTo pos (starEach es env))) fun V' vs => Reps V' vs ds
section
variable {C : Cx} {k : Nat} {sc : Scope} {ρ : Asn}
theorem Ev.int {i : Int} {n : Nat} {pos : Pos} : Ev C k sc ρ (.Constant (.int i) n pos) (.int i) := fun env A V s _ _ S _ =>
  .of_tok S fun E Q q => wpAny_mkInt (q _ _ (.int i _))
theorem Ev.str {x : PySem.Str} {n : Nat} {pos : Pos} : Ev C k sc ρ (.Constant (.str x) n pos) (.str x) := fun env A V s _ _ S _ =>
  .of_tok S fun E Q q => wpAny_mkText (q _ _ (.str x _))
theorem Ev.bytes {x : List UInt8} {n : Nat} {pos : Pos} : Ev C k sc ρ (.Constant (.bytes x) n pos) (.bytes x.toArray) := fun env A V s _ _ S _ =>
  .of_tok S fun E Q q => fun _ _ _ => q _ _ (.bytes x.toArray _)
theorem Ev.bool {b : Bool} {n : Nat} {pos : Pos} : Ev C k sc ρ (.Constant (.bool b) n pos) (.bool b) := fun env A V s _ _ S _ => .pure S (.bool b)
theorem Ev.none {n : Nat} {pos : Pos} : Ev C k sc ρ (.Constant .none n pos) .none := fun env A V s _ _ S _ => .pure S .none
theorem dbg_ne {i : Nat} : (nm i == ("__debug__" : Str)) = false := by
  by_cases hi : i < nmTable.length
  · have : nmTable.all (fun s => !(s == ("__debug__" : Str))) = true := by decide +kernel
    have h := List.all_eq_true.mp this _ (List.getElem_mem hi)
    rw [nm_lt hi]; simpa using h
  · rw [nm_ge hi]
    cases h : ((⟨#[1114112 + i]⟩ : PySem.Str) == ("__debug__" : Str)) with
    | false => rfl
    | true =>
      have e := congrArg (fun s : PySem.Str => s.cps.size) (eq_of_beq h)
      have : (Str.ofString "__debug__").cps.size = 9 := by decide +kernel
      simp only at e; rw [this] at e; simp at e
theorem cd_ne {i : Nat} : (nm i == ("__classdict__" : Str)) = false := by
  by_cases hi : i < nmTable.length
  · have : nmTable.all (fun s => !(s == ("__classdict__" : Str))) = true := by decide +kernel
    have h := List.all_eq_true.mp this _ (List.getElem_mem hi)
    rw [nm_lt hi]; simpa using h
  · rw [nm_ge hi]
    cases h : ((⟨#[1114112 + i]⟩ : PySem.Str) == ("__classdict__" : Str)) with
    | false => rfl
    | true =>
      have e := congrArg (fun s : PySem.Str => s.cps.size) (eq_of_beq h)
      have : (Str.ofString "__classdict__").cps.size = 13 := by decide +kernel
      simp only at e; rw [this] at e; simp at e
theorem Frm.load {A : Around} {V : View} {s : Shared} {env : Env} {i : Nat} {d : D} (S : St C V s) (F : Frm C env ρ V s.heap) (h : ρ.get i = some d) : Yd C A V s (loadName env (nm i)) d := by
  intro E Q q
  rcases F.knd i d h with hk | hk | hk
  · refine hid fun G hG => ?_
    obtain ⟨m, hn, hm⟩ := F.ns
    obtain ⟨v, hv, hr⟩ := hm i d h hk
    refine hG ?_
    exact wpAny_loadName_local F.kind hk hn hv (q v V s (.refl V s) S hr)
  · obtain ⟨c, hc⟩ := F.has _ (.inl hk)
    obtain ⟨_, v, hcell, hv⟩ := F.cells _ c hc
    obtain ⟨u, rfl, hr⟩ := hv i d rfl (.inl hk) h
    exact wpAny_loadName_cell F.kind hk hc hcell (q u V s (.refl V s) S hr)
  · obtain ⟨c, hc⟩ := F.has _ (.inr hk)
    obtain ⟨_, v, hcell, hv⟩ := F.cells _ c hc
    obtain ⟨u, rfl, hr⟩ := hv i d rfl (.inr hk) h
    exact wpAny_loadName_free F.kind hk hc hcell (q u V s (.refl V s) S hr) (hn := cd_ne)
theorem Ev.name {x : PySem.Str} {pos : Pos} {i : Nat} {d : D} (hx : nm i = x) (h : ρ.get i = some d) : Ev C k sc ρ (.Name x pos) d := fun env A V s _ _ S F => by
  subst hx
  intro E Q q
  exact wpAny_Name (F.load S h E Q q) dbg_ne
noncomputable def Op2 (C : Cx) (k : Nat) (f : Value → Value → Sem Value) (d1 d2 d : D) : Prop :=
  ∀ (A : Around) (V : View) (s : Shared) (v1 v2 : Value), Room k A → St C V s → Rep V v1 d1 → Rep V v2 d2 → Yd C A V s (f v1 v2) d
theorem Ev.bin {l r : Expr} {op : Operator} {pos : Pos} {d1 d2 d : D} (h1 : Ev C k sc ρ l d1) (h2 : Ev C k sc ρ r d2) (h : Op2 C k (binaryOp op) d1 d2 d) : Ev C k sc ρ (.BinOp l op r pos) d :=
  fun env A V s he hr S F => by
  rw [eval_BinOp]
  refine (h1 env A V s he hr S F).bind fun a V1 s1 X1 S1 ra => ?_
  refine (Yl.holding (h2 env A V1 s1 he hr S1 (F.ext S X1))).bind fun b V2 s2 X2 S2 rb => ?_
  exact .standAt (.operate (h A V2 s2 a b hr S2 (ra.mono X2.mono) rb))
theorem Ev.cmp {l r : Expr} {op : CmpOp} {pos : Pos} {d1 d2 d : D} (h1 : Ev C k sc ρ l d1) (h2 : Ev C k sc ρ r d2) (h : Op2 C k (compareOp op) d1 d2 d) (hb : behindInMarks op r = false) :
    Ev C k sc ρ (.Compare l [op] [r] pos) d := fun env A V s he hr S F => by
  rw [eval_Compare1, markedBehindIn_of_false hb]
  refine (h1 env A V s he hr S F).bind fun a V1 s1 X1 S1 ra => ?_
  refine (Yl.holding (h2 env A V1 s1 he hr S1 (F.ext S X1))).bind fun b V2 s2 X2 S2 rb => ?_
  exact .standAt (.operate (h A V2 s2 a b hr S2 (ra.mono X2.mono) rb))
noncomputable def Tr (C : Cx) (k : Nat) (d : D) (b : Bool) : Prop := ∀ (A : Around) (V : View) (s : Shared) (v : Value), Room k A → St C V s → Rep V v d → Yl C A V s (truthy v) fun _ c => c = b
theorem Tr.bool {b : Bool} : Tr C k (.bool b) b := fun A V s v _ S h => by
  cases h; exact .pure S rfl
theorem Tst.cmp {l r : Expr} {op : CmpOp} {pos : Pos} {d1 d2 : D} {b : Bool} (h1 : Ev C k sc ρ l d1) (h2 : Ev C k sc ρ r d2) (h : Op2 C k (compareOp op) d1 d2 (.bool b)) (hb : behindInMarks op r = false) :
    Tst C k sc ρ (.Compare l [op] [r] pos) b := fun env A V s he hr S F => by
  rw [isTrue_Compare1, markedBehindIn_of_false hb]
  refine (h1 env A V s he hr S F).bind fun a V1 s1 X1 S1 ra => ?_
  refine (Yl.holding (h2 env A V1 s1 he hr S1 (F.ext S X1))).bind fun v V2 s2 X2 S2 rb => ?_
  refine .standAt (Yl.bind (.operate (h A V2 s2 a v hr S2 (ra.mono X2.mono) rb)) fun c V3 s3 X3 S3 rc => ?_)
  exact .holding (Tr.bool A V3 s3 c hr S3 rc)
theorem Ev.ifexp {t b o : Expr} {pos : Pos} {c : Bool} {d1 d2 : D} (ht : Tst C k sc ρ t c) (h1 : c = true → Ev C k sc ρ b d1) (h2 : c = false → Ev C k sc ρ o d2) :
    Ev C k sc ρ (.IfExp t b o pos) (if c = true then d1 else d2) := fun env A V s he hr S F => by
  show Yd C A V s (isTrue t env (eval t env) >>= fun c => if c = true then eval b env else eval o env) _
  refine (ht env A V s he hr S F).bind fun c' V1 s1 X1 S1 hc => ?_
  subst hc
  cases c' with
  | true => exact h1 rfl env A V1 s1 he hr S1 (F.ext S X1)
  | false => exact h2 rfl env A V1 s1 he hr S1 (F.ext S X1)
theorem EvL.nil : EvL C k sc ρ [] [] := fun env A V s pos _ _ S _ => .pure S .nil
theorem EvL.cons {e : Expr} {es : List Expr} {d : D} {ds : List D} (h : Ev C k sc ρ e d) (hs : EvL C k sc ρ es ds) (hst : ∀ env, starEach (e :: es) env = (false, eval e env) :: starEach es env := by intro _; rfl) :
    EvL C k sc ρ (e :: es) (d :: ds) := fun env A V s pos he hr S F => by
  rw [hst]
  show Yl C A V s (spliced ((false, eval e env) :: backTo pos (starEach es env))) _
  intro E Q q
  refine Calls.spliced_cons (h env A V s he hr S F E _ fun v V1 s1 X1 S1 rv => ?_)
  exact hs env A V1 s1 pos he hr S1 (F.ext S X1) E _ fun vs V2 s2 X2 S2 rs => q _ V2 s2 (X1.trans X2) S2 (.cons (rv.mono X2.mono) rs)
theorem Yl.newList {A : Around} {V : View} {s : Shared} {vs : List Value} {ds : List D} (S : St C V s) (h : Reps V vs ds) (hsz : vs.length ≤ sizeLine) : Yd C A V s (newList vs) (.list ds) :=
  .of_new S fun E Q q => wpAny_newObj_type (by
    refine q _ _ s.toks (fun b o e => Heap.get?_push_of_some _ e) ?_
    have hmono : VLe V (grow V s.heap (s.heap.push { cls := .type "list", data := .seq vs.toArray })) := fun a o e => by rw [grow_old (S.sub a o e)]; exact e
    refine Reps.list (.of (n := 0) ?_) (h.mono hmono)
    rw [grow_new, Heap.get?_push_size _ rfl]
    cases q : s.heap.get? s.heap.objs.size with
    | none => rfl
    | some o => exact absurd (Heap.lt_size q) (Nat.lt_irrefl _)) (by show vs.toArray.size ≤ sizeLine; rw [List.size_toArray]; exact hsz)
theorem Yl.newTuple {A : Around} {V : View} {s : Shared} {vs : List Value} {ds : List D} (S : St C V s) (h : Reps V vs ds) (hsz : vs.length ≤ sizeLine) : Yd C A V s (newTuple vs) (.tup ds) :=
  .of_new S fun E Q q => wpAny_newObj_type (by
    refine q _ _ s.toks (fun b o e => Heap.get?_push_of_some _ e) ?_
    have hmono : VLe V (grow V s.heap (s.heap.push { cls := .type "tuple", data := .seq vs.toArray })) := fun a o e => by rw [grow_old (S.sub a o e)]; exact e
    refine Reps.tup (.of (n := 0) ?_) (h.mono hmono)
    rw [grow_new, Heap.get?_push_size _ rfl]
    cases q : s.heap.get? s.heap.objs.size with
    | none => rfl
    | some o => exact absurd (Heap.lt_size q) (Nat.lt_irrefl _)) (by show vs.toArray.size ≤ sizeLine; rw [List.size_toArray]; exact hsz)
theorem Ev.list {es : List Expr} {ds : List D} {pos : Pos} (h : EvL C k sc ρ es ds) (hsz : ds.length ≤ sizeLine) : Ev C k sc ρ (.List es pos) (.list ds) := fun env A V s he hr S F => by
  show Yd C A V s (standAt pos >>= fun _ => spliced (backTo pos (starEach es env)) >>= fun vs => PySem.newList vs) _
  exact .standAt ((h env A V s pos he hr S F).bind fun vs V1 s1 X1 S1 rs => .newList S1 rs (rs.1 ▸ hsz))
theorem Ev.tuple {es : List Expr} {ds : List D} {n : Nat} {pos : Pos} (h : EvL C k sc ρ es ds) (hsz : ds.length ≤ sizeLine) : Ev C k sc ρ (.Tuple es n pos) (.tup ds) := fun env A V s he hr S F => by
  show Yd C A V s (standAt pos >>= fun _ => spliced (backTo pos (starEach es env)) >>= fun vs => PySem.newTuple vs) _
  exact .standAt ((h env A V s pos he hr S F).bind fun vs V1 s1 X1 S1 rs => .newTuple S1 rs (rs.1 ▸ hsz))
end
section
variable {C : Cx} {A : Around} {V V' : View} {s s' : Shared} {env : Env} {ρ ρ' : Asn}
theorem Frm.at_ {h h' : Heap} (F : Frm C env ρ V h) (l : VLe V V') (lf : V' env.locals = none) (cf : ∀ x c, env.cells.lookup x = some c → V' c = none ∨ env.scope.names.lookup x ≠ some .cell)
    (k1 : ∀ o, h.get? env.locals = some o → h'.get? env.locals = some o) (k2 : ∀ x c o, env.cells.lookup x = some c → h.get? c = some o → h'.get? c = some o) : Frm C env ρ V' h' where
  kind := F.kind
  glob := F.glob
  blt := F.blt
  ns := by
    refine hid fun G hG => ?_
    obtain ⟨m, ⟨o, es, ep, e, d, r⟩, b⟩ := F.ns
    refine hG ?_
    exact ⟨m, ⟨o, es, ep, k1 o e, d, r⟩, fun i d hi hk => let ⟨v, hv, hr⟩ := b i d hi hk; ⟨v, hv, hr.mono l⟩⟩
  locFree := lf
  cells := fun x c hc => by
    refine hid fun G hG => ?_
    obtain ⟨f, v, ⟨o, e, d⟩, g⟩ := F.cells x c hc
    refine hG ?_
    exact ⟨cf x c hc, v, ⟨o, k2 x c o hc e, d⟩, fun i d hi hk e => let ⟨u, hu, hr⟩ := g i d hi hk e; ⟨u, hu, hr.mono l⟩⟩
  has := F.has
  inj := F.inj
  knd := F.knd
theorem Frm.stay {h h' : Heap} (F : Frm C env ρ V h) (k1 : ∀ o, h.get? env.locals = some o → h'.get? env.locals = some o) (k2 : ∀ x c o, env.cells.lookup x = some c → h.get? c = some o → h'.get? c = some o) : Frm C env ρ V h' :=
  F.at_ (.refl V) F.locFree (fun x c hc => (F.cells x c hc).1) k1 k2
theorem kindFn (hk : env.scope.kind = .function) : (env.scope.kind == .class || (env.scope.kind == .module && env.locals != env.globals)) = false := by rw [hk]; rfl
theorem Frm.storeL {i : Nat} {d : D} {v : Value} (S : St C V s) (F : Frm C env ρ V s.heap) (hk : env.scope.names.lookup (nm i) = some .local) (r : Rep V v d)
    {E : Value → Shared → Prop} {Q : Unit → Shared → Prop}
    (q : ∀ h' tk, (∀ a, a ≠ env.locals → h'.get? a = s.heap.get? a) → (∃ o, h'.get? env.locals = some o) → St C V { s with heap := h', toks := tk } → Frm C env ((i, d) :: ρ) V h' → Q () { s with heap := h', toks := tk }) :
    wpAny C.M A (storeName env (nm i) v) Q E s := by
  obtain ⟨m, hn, hm⟩ := F.ns
  refine wpAny_storeName_local hk hn (fun h' hn' hs => ?_) (kindFn F.kind)
  have hloc : env.locals ≠ tabA := by obtain ⟨o, es, ep, e, dd, _⟩ := hn; exact ne_tab_of_dict S.tab e dd
  have hne : ∀ x c, env.cells.lookup x = some c → (∃ v, s.heap.IsCell c v) → c ≠ env.locals := fun x c _ hv q => by
    obtain ⟨v, o, e, dd⟩ := hv; obtain ⟨o', es, ep, e', dd', _⟩ := hn; rw [q, e'] at e; cases e; rw [dd] at dd'; cases dd'
  refine q h' _ hs.2 (by obtain ⟨o, _, _, e, _⟩ := hn'; exact ⟨o, e⟩) (S.but (s' := { s with heap := h', toks := _ }) (fun a => a = env.locals) (fun b o hb e => (hs.2 b hb).trans e) (fun b hb => hb ▸ F.locFree) (Ne.symm hloc) rfl rfl) ?_
  refine ⟨F.kind, F.glob, F.blt, ⟨_, hn', fun j e hj hkj => ?_⟩, F.locFree, fun x c hc => ?_, F.has, F.inj, fun j e hj => ?_⟩
  · rcases Asn.cons_inv hj with ⟨rfl, rfl⟩ | ⟨hne, hj⟩
    · exact ⟨v, by simp, r⟩
    · obtain ⟨u, hu, hr⟩ := hm j e hj hkj
      refine ⟨u, ?_, hr⟩
      show (if nm j = nm i then some v else m (nm j)) = some u
      rw [if_neg fun e => hne (nm_inj e)]; exact hu
  · obtain ⟨hf, u, hcell, hu⟩ := F.cells x c hc
    have hcl := hne x c hc ⟨u, hcell⟩
    obtain ⟨o, e, dd⟩ := hcell
    refine ⟨hf, u, ⟨o, (hs.2 c hcl).trans e, dd⟩, fun j e' hji hx hj => ?_⟩
    rcases Asn.cons_inv hj with ⟨rfl, rfl⟩ | ⟨_, hj⟩
    · rw [← hji, hk] at hx; rcases hx with hx | hx <;> cases hx
    · exact hu j e' hji hx hj
  · rcases Asn.cons_inv hj with ⟨rfl, rfl⟩ | ⟨_, hj⟩
    · exact .inl hk
    · exact F.knd j e hj
theorem Frm.storeC {i : Nat} {d : D} {v : Value} (S : St C V s) (F : Frm C env ρ V s.heap) (hk : env.scope.names.lookup (nm i) = some .cell) (r : Rep V v d)
    {E : Value → Shared → Prop} {Q : Unit → Shared → Prop}
    (q : ∀ h' tk c, env.cells.lookup (nm i) = some c → (∀ a, a ≠ c → h'.get? a = s.heap.get? a) → (∃ o, h'.get? c = some o) → St C V { s with heap := h', toks := tk } → Frm C env ((i, d) :: ρ) V h' → Q () { s with heap := h', toks := tk }) :
    wpAny C.M A (storeName env (nm i) v) Q E s := by
  obtain ⟨c, hc⟩ := F.has _ (.inl hk)
  obtain ⟨hf, u, hcell, hu⟩ := F.cells _ c hc
  replace hf : V c = none := hf.resolve_right fun q => q hk
  obtain ⟨m, hn, hm⟩ := F.ns
  have hct : c ≠ tabA := ne_tab_of_cell S.tab hcell
  have hcl : c ≠ env.locals := by
    intro q; obtain ⟨o, e, dd⟩ := hcell; obtain ⟨o', es, ep, e', dd', _⟩ := hn; rw [q, e'] at e; cases e; rw [dd] at dd'; cases dd'
  refine wpAny_storeName_cell F.kind hk hc hcell fun h' hc' hs => ?_
  refine q h' s.toks c hc hs.2 (by obtain ⟨o, e, _⟩ := hc'; exact ⟨o, e⟩) (S.but (s' := { s with heap := h' }) (fun a => a = c) (fun b o hb e => (hs.2 b hb).trans e) (fun b hb => hb ▸ hf) (Ne.symm hct) rfl rfl) ?_
  refine ⟨F.kind, F.glob, F.blt, ⟨m, ?_, fun j e hj hkj => ?_⟩, F.locFree, fun x c' hc2 => ?_, F.has, F.inj, fun j e hj => ?_⟩
  · obtain ⟨o, es, ep, e, rr⟩ := hn
    exact ⟨o, es, ep, (hs.2 _ (Ne.symm hcl)).trans e, rr⟩
  · rcases Asn.cons_inv hj with ⟨rfl, rfl⟩ | ⟨hne, hj⟩
    · rw [hk] at hkj; cases hkj
    · exact hm j e hj hkj
  · obtain ⟨hf', u', hcell', hu'⟩ := F.cells x c' hc2
    by_cases hx' : x = nm i
    · subst hx'
      rw [hc] at hc2; cases hc2
      exact ⟨.inl hf, some v, hc', fun j e' hji _ hj => by
        have := nm_inj hji; subst this
        rw [Asn.here] at hj; cases hj; exact ⟨v, rfl, r⟩⟩
    · have hne : c' ≠ c := fun e => hx' (F.inj x (nm i) c (e ▸ hc2) hc)
      obtain ⟨o, e, dd⟩ := hcell'
      refine ⟨hf', u', ⟨o, (hs.2 c' hne).trans e, dd⟩, fun j e' hji hx hj => ?_⟩
      rcases Asn.cons_inv hj with ⟨rfl, rfl⟩ | ⟨_, hj⟩
      · exact absurd hji.symm hx'
      · exact hu' j e' hji hx hj
  · rcases Asn.cons_inv hj with ⟨rfl, rfl⟩ | ⟨_, hj⟩
    · exact .inr (.inl hk)
    · exact F.knd j e hj
noncomputable def Tgt (env : Env) (b : Asn) (a : Addr) : Prop := a = env.locals ∨ ∃ p ∈ b, env.scope.names.lookup (nm p.1) = some .cell ∧ env.cells.lookup (nm p.1) = some a
theorem Frm.store {i : Nat} {d : D} {v : Value} (S : St C V s) (F : Frm C env ρ V s.heap) (hk : env.scope.names.lookup (nm i) = some .local ∨ env.scope.names.lookup (nm i) = some .cell) (r : Rep V v d)
    {E : Value → Shared → Prop} {Q : Unit → Shared → Prop}
    (q : ∀ h' tk, (∀ a, ¬ Tgt env [(i, d)] a → h'.get? a = s.heap.get? a) → (∀ a o, s.heap.get? a = some o → ∃ o', h'.get? a = some o') → St C V { s with heap := h', toks := tk } → Frm C env ((i, d) :: ρ) V h' → Q () { s with heap := h', toks := tk }) :
    wpAny C.M A (storeName env (nm i) v) Q E s := by
  rcases hk with hk | hk
  · refine F.storeL S hk r fun h' tk h1 h2 h3 h4 => q h' tk (fun a ha => h1 a fun e => ha (.inl e)) (fun a o e => ?_) h3 h4
    by_cases ha : a = env.locals
    · exact ha ▸ h2
    · exact ⟨o, (h1 a ha).trans e⟩
  · refine F.storeC S hk r fun h' tk c hc h1 h2 h3 h4 => q h' tk (fun a ha => h1 a fun e => ha (.inr ⟨(i, d), by simp, hk, e ▸ hc⟩)) (fun a o e => ?_) h3 h4
    by_cases ha : a = c
    · exact ha ▸ h2
    · exact ⟨o, (h1 a ha).trans e⟩
end
structure Its (C : Cx) (A : Around) (V : View) (tgt : Expr) (it : Value) (bs : List Asn) (fp wr : List Addr) (P : Nat → Heap → Prop) : Prop where
  sub : ∀ b ∈ wr, b ∈ fp
  frame : ∀ i h h', P i h → (∀ b ∈ fp, ∀ o, h.get? b = some o → h'.get? b = some o) → P i h'
  alive : ∀ i h, P i h → ∀ b ∈ wr, ∃ o, h.get? b = some o
  tab : tabA ∉ wr
  step : ∀ (i : Nat) (b : Asn), bs[i]? = some b → ∀ (env : Env) (ρ : Asn) (V' : View) (s : Shared) (E : Value → Shared → Prop) (Q : Shared → Prop), VLe V V' → St C V' s → (∀ x ∈ wr, V' x = none) →
      P i s.heap → Frm C env ρ V' s.heap → (∀ a, Tgt env b a → a ∉ fp) → (∀ x c, env.cells.lookup x = some c → c ∉ wr) →
      (∀ p ∈ b, env.scope.names.lookup (nm p.1) = some .local ∨ env.scope.names.lookup (nm p.1) = some .cell) →
      (∀ s', P (i + 1) s'.heap → St C V' s' → Frm C env (b ++ ρ) V' s'.heap → (∀ a o, a ∉ wr → ¬ Tgt env b a → s.heap.get? a = some o → s'.heap.get? a = some o) →
        (∀ a o, a ∉ wr → s.heap.get? a = some o → ∃ o', s'.heap.get? a = some o') → Q s') →
      wpAny C.M A (pyNext it) (fun r s₁ => ∃ v, r = some v ∧ wpAny C.M A (letOwnedTupleGo tgt it v) (fun _ s₂ => wpAny C.M A (assign tgt env v) (fun _ s₃ => Q s₃) E s₂) E s₁) E s
  done : ∀ (V' : View) (s : Shared) (E : Value → Shared → Prop) (Q : Shared → Prop), St C V' s → (∀ x ∈ wr, V' x = none) → P bs.length s.heap →
      (∀ s', St C V' s' → (∀ a o, a ∉ wr → s.heap.get? a = some o → s'.heap.get? a = some o) → Q s') → wpAny C.M A (pyNext it) (fun r s₁ => r = none ∧ Q s₁) E s
  self : ∀ (i : Nat) (s : Shared) (E : Value → Shared → Prop) (Q : Value → Shared → Prop), P i s.heap → Q it s → wpAny C.M A (pyIter it) Q E s
section
variable {C : Cx} {A : Around} {V : View}
theorem Its.ofWalks {I : Addr} {fp wr : List Addr} {n : Nat} {P : Nat → Value → Prop} {Sti : Nat → Heap → Prop} {ds : List D} {i : Nat} {pos : Pos} (W : Walks C.prog C.w A I fp wr n P Sti) (hn : n = ds.length)
    (hP : ∀ j v d, P j v → ds[j]? = some d → Rep V v d) (alive : ∀ i h, Sti i h → ∀ b ∈ wr, ∃ o, h.get? b = some o) (tab : tabA ∉ wr) :
    Its C A V (.Name (nm i) pos) (.ref I) (ds.map fun d => [(i, d)]) fp wr Sti where
  sub := W.sub
  frame := W.frame
  alive := alive
  tab := tab
  step := fun j b hb env ρ V' s E Q l S hw st F ht hcw hk q => by
    rw [List.getElem?_map] at hb
    obtain ⟨d, hd, rfl⟩ := Option.map_eq_some_iff.mp hb
    have hj : j < n := by have := (List.getElem?_eq_some_iff.mp hd).1; lia
    refine wp_toks' S.tk (W.item j s _ E hj st fun v h' tk hp st' hk' hn' => ⟨v, rfl, ?_⟩)
    refine wpAny_of_eq (a := ()) (by rfl) ?_
    have hloc : env.locals ∉ wr := fun q => ht _ (.inl rfl) (W.sub _ q)
    have S' : St C V' { s with heap := h', toks := tk } := S.but (fun a => a ∈ wr) hk' hw tab rfl rfl
    have F' : Frm C env ρ V' h' := F.stay (fun o e => hk' _ o hloc e) (fun x c o hc e => hk' _ o (hcw x c hc) e)
    refine wpAny_assign_Name (F'.store (s := { s with heap := h', toks := tk }) S' (hk (i, d) (by simp)) ((hP j v d hp hd).mono l) fun h'' tk' h1 h2 h3 h4 => ?_)
    refine q _ (W.frame _ _ _ st' fun b hb o e => (h1 b fun q => ht b q hb).trans e) h3 h4 (fun a o ha hT e => (h1 a hT).trans (hk' a o ha e)) fun a o ha e => h2 a o (hk' a o ha e)
  done := fun V' s E Q S hw st q => by
    rw [List.length_map, ← hn] at st
    exact wp_toks' S.tk (W.done s (fun r s₁ => C.n ≤ s₁.toks → r = none ∧ Q s₁) E st fun h' tk hk' hn' => ⟨rfl, q _ (S.but (fun a => a ∈ wr) hk' hw tab rfl rfl hn') hk'⟩)
  self := fun i s E Q st q => W.self i s Q E st q
theorem Tgt.mono {env : Env} {b b' : Asn} {a : Addr} (h : ∀ p ∈ b, p ∈ b') (x : Tgt env b a) : Tgt env b' a := x.imp id fun ⟨p, hp, r⟩ => ⟨p, h p hp, r⟩
theorem Its.ofWalksU {I : Addr} {fp wr : List Addr} {n : Nat} {P : Nat → Array Value → Prop} {Sti : Nat → Heap → Prop} {Mid : Nat → Addr → Heap → Prop} {ds : List (D × D)} {i j k : Nat} {p1 p2 p3 : Pos}
    (W : WalksU C.prog C.w A I fp wr n P Sti Mid) (hn : n = ds.length)
    (hP : ∀ m vals d, P m vals → ds[m]? = some d → ∃ v1 v2, vals = #[v1, v2] ∧ Rep V v1 d.1 ∧ Rep V v2 d.2) (alive : ∀ i h, Sti i h → ∀ b ∈ wr, ∃ o, h.get? b = some o) (tab : tabA ∉ wr) (hh : A.handled = none) :
    Its C A V (.Tuple [.Name (nm i) p1, .Name (nm j) p2] k p3) (.ref I) (ds.map fun d => [(j, d.2), (i, d.1)]) fp wr Sti where
  sub := W.sub
  frame := W.frame
  alive := alive
  tab := tab
  step := fun m b hb env ρ V' s E Q l S hw st F ht hcw hk q => by
    rw [List.getElem?_map] at hb
    obtain ⟨d, hd, rfl⟩ := Option.map_eq_some_iff.mp hb
    have hm : m < n := by have := (List.getElem?_eq_some_iff.mp hd).1; lia
    refine wp_toks' S.tk (W.item m s _ E hm st fun T vals h1 tk1 hp hT hmid hk1 hn1 => ⟨_, rfl, ?_⟩)
    refine W.go _ _ _ m T _ _ _ hmid fun h2 st2 hk2 => ?_
    have hTw := W.apart m T h1 hmid
    have hT2 : h2.IsTuple T vals := let ⟨o, e, r⟩ := hT; ⟨o, hk2 T o hTw e, r⟩
    refine hid fun G hG => ?_
    obtain ⟨v1, v2, rfl, r1, r2⟩ := hP m vals d hp hd
    refine hG ?_
    have hloc : env.locals ∉ wr := fun q => ht _ (.inl rfl) (W.sub _ q)
    refine wpAny_assign_Tuple hh hT2 rfl rfl fun h3 hk3 => ?_
    have k3 : ∀ a o, h2.get? a = some o → h3.get? a = some o := fun a o e => hk3 a o (Nat.ne_of_lt (Heap.lt_size e)) e
    have kk : ∀ a o, a ∉ wr → s.heap.get? a = some o → h3.get? a = some o := fun a o ha e => k3 a o (hk2 a o ha (hk1 a o ha e))
    have S3 : St C V' { s with heap := h3, toks := tk1 } := S.but (fun a => a ∈ wr) kk hw tab rfl rfl
    have F3 : Frm C env ρ V' h3 := F.stay (fun o e => kk _ o hloc e) (fun x c o hc e => kk _ o (hcw x c hc) e)
    show wpAny _ A (do holding [v2] (assign (.Name (nm i) p1) env v1); assignInOrder [assign (.Name (nm j) p2) env] [v2]) _ _ _
    refine wpAny_bind (wpAny_holding (wpAny_assign_Name (F3.store (s := { s with heap := h3, toks := tk1 }) S3 (hk (i, d.1) (by simp)) (r1.mono l) fun h4 tk4 a1 a2 S4 F4 => ?_)))
    show wpAny _ A (do holding [] (assign (.Name (nm j) p2) env v2); assignInOrder [] []) _ _ _
    refine wpAny_bind (wpAny_holding (wpAny_assign_Name (F4.store (s := { s with heap := h4, toks := tk4 }) S4 (hk (j, d.2) (by simp)) (r2.mono l) fun h5 tk5 b1 b2 S5 F5 => ?_)))
    have nT1 : ∀ {a}, ¬ Tgt env [(j, d.2), (i, d.1)] a → ¬ Tgt env [(i, d.1)] a := fun h x => h (x.mono (by simp))
    have nT2 : ∀ {a}, ¬ Tgt env [(j, d.2), (i, d.1)] a → ¬ Tgt env [(j, d.2)] a := fun h x => h (x.mono (by simp))
    refine wpAny_pure (q _ (W.frame _ _ _ st2 fun b hb o e => ?_) S5 F5 (fun a o ha hT e => (b1 a (nT2 hT)).trans ((a1 a (nT1 hT)).trans (kk a o ha e))) fun a o ha e => ?_)
    · exact (b1 b fun q => ht b (q.mono (by simp)) hb).trans ((a1 b fun q => ht b (q.mono (by simp)) hb).trans (k3 b o e))
    · obtain ⟨o1, e1⟩ := a2 a o (kk a o ha e); exact b2 a o1 e1
  done := fun V' s E Q S hw st q => by
    rw [List.length_map, ← hn] at st
    exact wp_toks' S.tk (W.done s (fun r s₁ => C.n ≤ s₁.toks → r = none ∧ Q s₁) E st fun h' tk hk' hn' => ⟨rfl, q _ (S.but (fun a => a ∈ wr) hk' hw tab rfl rfl hn') hk'⟩)
  self := fun i s E Q st q => W.self i s Q E st q
end
noncomputable def ItE (C : Cx) (k : Nat) (sc : Scope) (ρ : Asn) (iter tgt : Expr) (bs : List Asn) : Prop :=
  ∀ (env : Env) (A : Around) (V : View) (s : Shared), env.scope = sc → Room k A → St C V s → Frm C env ρ V s.heap → ∀ (E : Value → Shared → Prop) (Q : Value → Shared → Prop),
    (∀ it V' s' fp wr P, Ext V s V' s' → St C V' s' → Its C A V' tgt it bs fp wr P → P 0 s'.heap → (∀ b ∈ wr, s.heap.get? b = none ∧ V' b = none) → (∀ b ∈ fp, (V' b).isSome ∨ (s.heap.get? b = none ∧ V' b = none)) → (∀ b ∈ fp, ∃ o, s'.heap.get? b = some o) → Q it s') →
    wpAny C.M A (eval iter env) (fun x s₁ => wpAny C.M A (pyIter x) Q E s₁) E s
section
variable {C : Cx} {k : Nat} {sc : Scope} {ρ : Asn}
theorem get_size {h : Heap} : h.get? h.objs.size = none := by
  cases q : h.get? h.objs.size with
  | none => rfl
  | some o => exact absurd (Heap.lt_size q) (Nat.lt_irrefl _)
theorem St.newFree {C : Cx} {V : View} {s : Shared} (S : St C V s) : V s.heap.objs.size = none := by
  cases q : V s.heap.objs.size with
  | none => rfl
  | some o => exact absurd (S.sub _ _ q) (by rw [get_size]; nofun)
theorem St.tabLt {C : Cx} {V : View} {s : Shared} (S : St C V s) : tabA < s.heap.objs.size := let ⟨_, e, _⟩ := S.tab; Heap.lt_size e
theorem St.tabNe {C : Cx} {V : View} {s : Shared} (S : St C V s) : tabA ≠ s.heap.objs.size := Nat.ne_of_lt S.tabLt
theorem Ext.fresh {C : Cx} {V V1 : View} {s s1 : Shared} (X : Ext V s V1 s1) (S1 : St C V1 s1) : s.heap.get? s1.heap.objs.size = none := by
  cases q : s.heap.get? s1.heap.objs.size with
  | none => rfl
  | some o => exact absurd (X.keep _ _ (Ne.symm S1.tabNe) q) (by rw [get_size]; nofun)
theorem St.push {C : Cx} {V : View} {s : Shared} (S : St C V s) (o : Obj) {tk : Nat} (hn : C.n ≤ tk := by walk_at "tk_le") : St C V { s with heap := s.heap.push o, toks := tk } := S.keeps (fun _ _ e => Heap.get?_push_of_some _ e) hn
theorem ItE.list {iter : Expr} {i : Nat} {pos : Pos} {ds : List D} (h : Ev C k sc ρ iter (.list ds)) : ItE C k sc ρ iter (.Name (nm i) pos) (ds.map fun d => [(i, d)]) := fun env A V s he hr S F E Q q => by
  refine h env A V s he hr S F E _ fun v V1 s1 X1 S1 r => ?_
  refine Rep.elList r fun a vs ha hs => ?_
  have hL := ha.isList S1
  have hne : a ≠ s1.heap.objs.size := Nat.ne_of_lt (ha.lt S1)
  have hf := X1.fresh S1
  refine wpAny_pyIter_list hL (q _ V1 _ _ _ _ (X1.trans (.keeps (tk := s1.toks) fun b o e => Heap.get?_push_of_some _ e)) (S1.push _) (Its.ofWalks (Walks.list hr.2.2 s1.heap.objs.size a hne vs.toArray) (by simpa using hs.1) (fun j v d hv hd => hs.2 j v d (by simpa using hv) hd)
    (fun j h st b hb => ?_) ?_) ⟨⟨_, Heap.get?_push_size _ rfl, rfl, rfl⟩, hL.push _⟩ (fun b hb => ?_) (fun b hb => ?_) fun b hb => ?_)
  · simp at hb; subst hb; obtain ⟨⟨o, e, _⟩, _⟩ := st; exact ⟨o, e⟩
  · exact fun q => S1.tabNe (List.mem_singleton.mp q)
  · simp at hb; subst hb; exact ⟨hf, S1.newFree⟩
  · simp at hb; rcases hb with rfl | rfl
    · exact .inr ⟨hf, S1.newFree⟩
    · exact .inl ha.isSome
  · simp at hb; rcases hb with rfl | rfl
    · exact ⟨_, Heap.get?_push_size _ rfl⟩
    · exact let ⟨o, e, _⟩ := hL; ⟨o, Heap.get?_push_of_some _ e⟩
theorem ItE.str {iter : Expr} {i : Nat} {pos : Pos} {x : PySem.Str} (h : Ev C k sc ρ iter (.str x)) : ItE C k sc ρ iter (.Name (nm i) pos) (x.cps.toList.map fun c => [(i, D.str ⟨#[c]⟩)]) := fun env A V s he hr S F E Q q => by
  refine h env A V s he hr S F E _ fun v V1 s1 X1 S1 r => ?_
  refine Rep.elStr r fun t => ?_
  have hf := X1.fresh S1
  have e1 : (x.cps.toList.map fun c => [(i, D.str ⟨#[c]⟩)]) = ((x.cps.toList.map fun c => D.str ⟨#[c]⟩).map fun d => [(i, d)]) := by rw [List.map_map]; rfl
  have hPP : ∀ j v d, SignAt x j v → (x.cps.toList.map fun c => D.str ⟨#[c]⟩)[j]? = some d → Rep V1 v d := fun j v d hv hd => by
    obtain ⟨c, u, hc, rfl⟩ := hv
    rw [List.getElem?_map, Array.getElem?_toList, hc] at hd
    cases hd; exact .str _ _
  have fin : ∀ (ty : String) (o : Obj) (ho : o.isFreed = false) (hT : ∀ h : Heap, h.get? s1.heap.objs.size = some o → h.IsStrIter s1.heap.objs.size ty x t 0) (W : Walks C.prog C.w A s1.heap.objs.size [s1.heap.objs.size] [s1.heap.objs.size] x.cps.size (SignAt x) (fun i h => h.IsStrIter s1.heap.objs.size ty x t i)),
      Q (.ref s1.heap.objs.size) { s1 with heap := s1.heap.push o } := fun ty o ho hT W => by
    rw [e1] at q
    refine q _ V1 _ _ _ _ (X1.trans (.keeps (tk := s1.toks) fun b o e => Heap.get?_push_of_some _ e)) (S1.push _) (Its.ofWalks W (by simp) hPP (fun j h st b hb => ?_) ?_) (hT _ (Heap.get?_push_size _ ho)) (fun b hb => ?_) (fun b hb => ?_) fun b hb => ?_
    · simp at hb; subst hb; obtain ⟨o, e, _⟩ := st; exact ⟨o, e⟩
    · exact fun q => S1.tabNe (List.mem_singleton.mp q)
    · simp at hb; subst hb; exact ⟨hf, S1.newFree⟩
    · simp at hb; subst hb; exact .inr ⟨hf, S1.newFree⟩
    · simp at hb; subst hb; exact ⟨_, Heap.get?_push_size _ ho⟩
  cases ha : x.cps.all (· < 128)
  · exact wpAny_pyIter_wide ha (fin _ _ rfl (fun h e => ⟨_, e, rfl, rfl⟩) (Walks.strWide hr.2.2 _ x t))
  · exact wpAny_pyIter_ascii ha (fin _ _ rfl (fun h e => ⟨_, e, rfl, rfl⟩) (Walks.strAscii hr.2.2 _ x t))
end
noncomputable def GFn (C : Cx) (x : PySem.Str) (f : Value) : Prop := C.mg x = some f ∨ (C.mg x = none ∧ C.mb x = some f)
noncomputable def KeepR (C : Cx) (f : Value) : Prop := (∃ id, f = .builtin id) ∨ (∃ T, f = .type T) ∨ ∃ a o fd, f = .ref a ∧ C.g₀.get? a = some o ∧ o.data = .func fd
theorem nsAt {C : Cx} {V : View} {s : Shared} (S : St C V s) {a : Addr} {m} (h : C.g₀.Ns a m) : s.heap.Ns a m := let ⟨o, es, ep, e, r⟩ := h; ⟨o, es, ep, S.sub _ _ (S.base _ _ e), r⟩
section
variable {C : Cx} {k : Nat} {sc : Scope} {ρ : Asn} {A : Around} {V : View} {s : Shared}
theorem GFn.load {env : Env} {x : PySem.Str} {f : Value} {E : Value → Shared → Prop} {Q : Value → Shared → Prop} (hf : GFn C x f) (S : St C V s) (F : Frm C env ρ V s.heap) (q : Q f s) : wpAny C.M A (loadGlobal env x) Q E s := by
  rcases hf with h | ⟨h1, h2⟩
  · exact loadGlobal_global (by rw [F.glob]; exact nsAt S C.g) h q
  · exact loadGlobal_builtin (by rw [F.glob]; exact nsAt S C.g) h1 (by rw [F.blt]; exact nsAt S C.b) h2 q
theorem evalArgs_of {M : Model} {E : Value → Shared → Prop} {f : Value} {args : List (Bool × Sem Value)} {Q : Args → Shared → Prop} (hp : args.any (·.1) = false) (h : wpAny M A (spliced args) (fun vs s' => Q ⟨vs, []⟩ s') E s) : wpAny M A (evalArgs f true args []) Q E s := by
  cases args with
  | nil =>
    unfold evalArgs
    show wpAny M A (spliced [] >>= _) Q E s
    refine wpAny_bind (wpAny_mono h (fun vs s' h' => ?_) fun _ _ x => x)
    refine wpAny_holding ?_
    exact wpAny_bind (wpAny_pure (wpAny_bind (wpAny_pure (wpAny_pure h'))))
  | cons a r =>
    obtain ⟨b, x⟩ := a
    cases b with
    | true => simp at hp
    | false => exact evalArgs_plain h
theorem Yl.callWith {f : Value} {first : List Value} {args : List (Bool × Sem Value)} {pos : Pos} {P : View → List Value → Prop} {T : View → Value → Prop} (S : St C V s) (hk : KeepR C f) (hp : args.any (·.1) = false)
    (h : Yl C A V s (spliced args) P) (c : ∀ vs V' s', Ext V s V' s' → St C V' s' → P V' vs → Yl C A V' s' (call f (first ++ vs) []) T) : Yl C A V s (callWith pos f first args []) T := fun E Q q => by
  rcases hk with ⟨id, rfl⟩ | ⟨T', rfl⟩ | ⟨a, o, fd, rfl, ho, hd⟩
  · exact callWith_builtin hp (evalArgs_of hp (h E _ fun vs V1 s1 X1 S1 hP => c vs V1 s1 X1 S1 hP E _ fun v V2 s2 X2 S2 r => q v V2 s2 (X1.trans X2) S2 r))
  · exact PySem.callWith_type hp (evalArgs_of hp (h E _ fun vs V1 s1 X1 S1 hP => c vs V1 s1 X1 S1 hP E _ fun v V2 s2 X2 S2 r => q v V2 s2 (X1.trans X2) S2 r))
  · exact callWith_function (evalArgs_of hp (h E _ fun vs V1 s1 X1 S1 hP => ⟨⟨S1.sub _ _ (S1.base _ _ ho), hd⟩, c vs V1 s1 X1 S1 hP E _ fun v V2 s2 X2 S2 r => q v V2 s2 (X1.trans X2) S2 r⟩))
noncomputable def CallR (C : Cx) (k : Nat) (f : Value) (ds : List D) (d : D) : Prop := ∀ (A : Around) (V : View) (s : Shared) (vs : List Value), Room k A → St C V s → Reps V vs ds → Yd C A V s (call f vs []) d
theorem Ev.call {x : PySem.Str} {p pos : Pos} {args : List Expr} {f : Value} {ds : List D} {d : D} (hx : sc.names.lookup x = some .globalImplicit) (hf : GFn C x f) (hk : KeepR C f) (ha : EvL C k sc ρ args ds) (hc : CallR C k f ds d)
    (hp : ∀ env pos, (backTo pos (starEach args env)).any (·.1) = false := by intro _ _; rfl) (hd : (x == ("__debug__" : Str)) = false := by decide) : Ev C k sc ρ (.Call (.Name x p) args [] pos) d := fun env A V s he hr S F => by
  intro E Q q
  refine wpAny_bind (Name_function_global F.kind (by show env.scope.names.lookup x = _; rw [he]; exact hx) (hf.load S F ?_) hd)
  show wpAny C.M A (PySem.callWith pos f [] (backTo pos (starEach args env)) []) Q E s
  exact Yl.callWith (first := []) S hk (hp env pos) (ha env A V s pos he hr S F) (fun vs V1 s1 X1 S1 rs => hc A V1 s1 vs hr S1 rs) E Q q
theorem mk_len {x : D} {n : Nat} (h : ∀ (A : Around) (V : View) (s : Shared) (v : Value), Room k A → St C V s → Rep V v x → Yd C A V s (PySem.call (.builtin "len") [v] []) (.int n)) : CallR C k (.builtin "len") [x] (.int n) := fun A V s vs hr S rs => by
  refine Reps.el1 rs fun v r => ?_
  exact h A V s v hr S r
theorem CallR.len_list {xs : List D} (h : xs.length < 2 ^ 62) : CallR C k (.builtin "len") [.list xs] (.int xs.length) := mk_len fun A V s v hr S r => by
  refine Rep.elList r fun a vs ha hs => ?_
  refine .of_tok S fun E Q q => call_len_list (items := vs.toArray) (ha.isList S) (by have := hs.1; simp; lia) (q _ _ ?_)
  rw [List.size_toArray, hs.1]; exact .int _ _
theorem CallR.len_str {x : PySem.Str} (h : x.length < 2 ^ 62) : CallR C k (.builtin "len") [.str x] (.int x.length) := mk_len fun A V s v hr S r => by
  refine Rep.elStr r fun t => ?_
  exact .of_tok S fun E Q q => PySem.P.len_str (by lia) (q _ _ (.int _ _))
theorem callRangeOne {A : Around} {V V1 : View} {s s1 : Shared} {E : Value → Shared → Prop} {Q : Value → Shared → Prop} {i : Nat} {pos : Pos} {n : Nat} (hr : Room k A) (X1 : Ext V s V1 s1) (S1 : St C V1 s1) {a : Int} {r : Addr} {t u v : Tok} {h1 : Heap} {tk : Nat}
    (hh : ∀ b o, s1.heap.get? b = some o → h1.get? b = some o) (hn : C.n ≤ tk) {b : Int} (hR : IsRange h1 r a b 1 t u v) (hsz : Builtin.Range.rangeSize a b 1 = n) (ha : -(2 ^ 61) ≤ a) (ha' : a < 2 ^ 61) (hb : -(2 ^ 61) ≤ b) (hb' : b < 2 ^ 61)
    (q : ∀ it V' s' fp wr P, Ext V s V' s' → St C V' s' → Its C A V' (.Name (nm i) pos) it ((List.range n).map fun (j : Nat) => [(i, D.int (a + (j : Int)))]) fp wr P → P 0 s'.heap → (∀ b ∈ wr, s.heap.get? b = none ∧ V' b = none) →
      (∀ b ∈ fp, (V' b).isSome ∨ (s.heap.get? b = none ∧ V' b = none)) → (∀ b ∈ fp, ∃ o, s'.heap.get? b = some o) → Q it s') : wpAny C.M A (pyIter (.ref r)) Q E { s1 with heap := h1, toks := tk } := by
  have S2 : St C V1 { s1 with heap := h1, toks := tk } := S1.keeps hh hn
  have X2 : Ext V s V1 { s1 with heap := h1, toks := tk } := X1.trans (.keeps hh)
  refine wpAny_pyIter_range (s := { s1 with heap := h1, toks := tk }) hR (small_one (by lia) (by lia) (by lia) (by lia)) ?_
  have hf := X2.fresh S2
  rw [hsz]
  have e1 : ((List.range n).map fun (j : Nat) => [(i, D.int (a + j))]) = (((List.range n).map fun (j : Nat) => D.int (a + j)).map fun d => [(i, d)]) := by rw [List.map_map]; rfl
  rw [e1] at q
  refine q _ V1 _ _ _ _ (X2.trans (.keeps (tk := tk) fun b o e => Heap.get?_push_of_some _ e)) (S2.push _) (Its.ofWalks (Walks.range hr.2.2 h1.objs.size a 1 n) (by simp) (fun j v d hv hd => ?_) (fun j h st b hb => ?_) ?_) ?_ (fun b hb => ?_) (fun b hb => ?_) fun b hb => ?_
  · obtain ⟨t, rfl⟩ := hv
    rw [List.getElem?_map] at hd
    obtain ⟨m, hm, rfl⟩ := Option.map_eq_some_iff.mp hd
    have := List.getElem?_eq_some_iff.mp hm
    obtain ⟨h1, h2⟩ := this
    simp at h2
    subst h2
    rw [Int.mul_one]; exact .int _ _
  · simp at hb; subst hb; exact ⟨_, st⟩
  · exact fun q => S2.tabNe (List.mem_singleton.mp q)
  · show IsRangeIter _ _ _ _ _
    have e0 : a + ((0 : Nat) : Int) * 1 = a := by lia
    have e2 : (n : Int) - ((0 : Nat) : Int) = n := by lia
    rw [e0, e2]
    exact Heap.get?_push_size _ rfl
  · simp at hb; subst hb; exact ⟨hf, S2.newFree⟩
  · simp at hb; subst hb; exact .inr ⟨hf, S2.newFree⟩
  · simp at hb; subst hb; exact ⟨_, Heap.get?_push_size _ rfl⟩
theorem ItE.callOf {x : PySem.Str} {p pos : Pos} {args : List Expr} {f : Value} {ds : List D} {tgt : Expr} {bs : List Asn} (hx : sc.names.lookup x = some .globalImplicit) (hf : GFn C x f) (hk : KeepR C f) (ha : EvL C k sc ρ args ds)
    (hc : ∀ (A : Around) (V V1 : View) (s s1 : Shared) (vs : List Value) (E : Value → Shared → Prop) (Q : Value → Shared → Prop), Room k A → Ext V s V1 s1 → St C V1 s1 → Reps V1 vs ds →
      (∀ it V' s' fp wr P, Ext V s V' s' → St C V' s' → Its C A V' tgt it bs fp wr P → P 0 s'.heap → (∀ b ∈ wr, s.heap.get? b = none ∧ V' b = none) → (∀ b ∈ fp, (V' b).isSome ∨ (s.heap.get? b = none ∧ V' b = none)) → (∀ b ∈ fp, ∃ o, s'.heap.get? b = some o) → Q it s') →
      wpAny C.M A (PySem.call f vs []) (fun v s2 => wpAny C.M A (pyIter v) Q E s2) E s1)
    (hp : ∀ env pos, (backTo pos (starEach args env)).any (·.1) = false := by intro _ _; rfl) (hd : (x == ("__debug__" : Str)) = false := by decide) : ItE C k sc ρ (.Call (.Name x p) args [] pos) tgt bs := fun env A V s he hr S F E Q q => by
  refine wpAny_bind (Name_function_global F.kind (by show env.scope.names.lookup x = _; rw [he]; exact hx) (hf.load S F ?_) hd)
  show wpAny C.M A (PySem.callWith pos f [] (backTo pos (starEach args env)) []) _ E s
  have hA := ha env A V s pos he hr S F
  have key : ∀ {vs : List Value} {V1 : View} {s1 : Shared}, Ext V s V1 s1 → St C V1 s1 → Reps V1 vs ds → wpAny C.M A (PySem.call f vs []) (fun v s2 => wpAny C.M A (pyIter v) Q E s2) E s1 := fun X1 S1 rs => hc A V _ s _ _ E Q hr X1 S1 rs q
  rcases hk with ⟨id, rfl⟩ | ⟨T', rfl⟩ | ⟨a, o, fd, rfl, ho, hd⟩
  · exact callWith_builtin (hp env pos) (evalArgs_of (hp env pos) (hA E _ fun vs V1 s1 X1 S1 hP => key X1 S1 hP))
  · exact PySem.callWith_type (hp env pos) (evalArgs_of (hp env pos) (hA E _ fun vs V1 s1 X1 S1 hP => key X1 S1 hP))
  · exact callWith_function (evalArgs_of (hp env pos) (hA E _ fun vs V1 s1 X1 S1 hP => ⟨⟨S1.sub _ _ (S1.base _ _ ho), hd⟩, key X1 S1 hP⟩))
theorem ItE.range1 {x : PySem.Str} {p pos pt : Pos} {e : Expr} {i n : Nat} (hx : sc.names.lookup x = some .globalImplicit) (hf : GFn C x (.type "range")) (he : Ev C k sc ρ e (.int n)) (hn : n < 2 ^ 60) (hst : ∀ env, starEach [e] env = (false, eval e env) :: starEach [] env := by intro _; rfl)
    (hd : (x == ("__debug__" : Str)) = false := by decide) :
    ItE C k sc ρ (.Call (.Name x p) [e] [] pos) (.Name (nm i) pt) ((List.range n).map fun (j : Nat) => [(i, D.int j)]) := by
  have h0 : ((List.range n).map fun (j : Nat) => [(i, D.int j)]) = ((List.range n).map fun (j : Nat) => [(i, D.int (0 + (j : Int)))]) := by simp
  rw [h0]
  refine ItE.callOf hx hf (.inr (.inl ⟨_, rfl⟩)) (EvL.cons he .nil hst) (fun A V V1 s s1 vs E Q hr X1 S1 rs q => ?_) (fun env pos => by rw [hst]; rfl) hd
  refine Reps.el1 rs fun v r => ?_
  refine Rep.elInt r fun t => ?_
  refine call_range_1 (callRangeOne (a := 0) (b := n) (n := n) hr X1 S1 (fun b o e => Heap.get?_push_of_some _ e) (by have := S1.tk; lia) (t := s1.toks) (u := t) (v := s1.toks + 1) (Heap.get?_push_size _ rfl) ?_ (by lia) (by lia) (by lia) (by lia) q)
  rw [rangeSize_one]; split <;> lia
theorem ItE.range2 {x : PySem.Str} {p pos pt : Pos} {e1 e2 : Expr} {i : Nat} {a b : Int} (hx : sc.names.lookup x = some .globalImplicit) (hf : GFn C x (.type "range")) (h1 : Ev C k sc ρ e1 (.int a)) (h2 : Ev C k sc ρ e2 (.int b)) (ha : 0 ≤ a) (ha' : a < 2 ^ 60) (hb : b < 2 ^ 60) (hb0 : -(2 ^ 60) < b)
    (hst : ∀ env, starEach [e1, e2] env = [(false, eval e1 env), (false, eval e2 env)] := by intro _; rfl)
    (hd : (x == ("__debug__" : Str)) = false := by decide) (hs2 : ∀ env, starEach [e2] env = (false, eval e2 env) :: starEach [] env := by intro _; rfl) :
    ItE C k sc ρ (.Call (.Name x p) [e1, e2] [] pos) (.Name (nm i) pt) ((List.range (b - a).toNat).map fun (j : Nat) => [(i, D.int (a + (j : Int)))]) := by
  refine ItE.callOf hx hf (.inr (.inl ⟨_, rfl⟩)) (EvL.cons h1 (EvL.cons h2 .nil hs2) fun env => by rw [hst, hs2]; rfl) (fun A V V1 s s1 vs E Q hr X1 S1 rs q => ?_) (fun env pos => by rw [hst]; rfl) hd
  refine Reps.el2 rs fun v v2 r r2 => ?_
  refine Rep.elInt r fun t => ?_
  refine Rep.elInt r2 fun t2 => ?_
  refine call_range_2 (callRangeOne (a := a) (b := b) (n := (b - a).toNat) hr X1 S1 (fun b o e => Heap.get?_push_of_some _ e) (by have := S1.tk; lia) (v := s1.toks) (u := t2) (t := t) (Heap.get?_push_size _ rfl) ?_ (by lia) (by lia) (by lia) (by lia) q)
  rw [rangeSize_one]; split <;> lia
theorem ItE.enum {x : PySem.Str} {p pos p1 p2 p3 : Pos} {n : Nat} {e : Expr} {i j : Nat} {xs : List D} (hx : sc.names.lookup x = some .globalImplicit) (hf : GFn C x (.type "enumerate")) (he : Ev C k sc ρ e (.list xs)) (hst : ∀ env, starEach [e] env = (false, eval e env) :: starEach [] env := by intro _; rfl)
    (hd : (x == ("__debug__" : Str)) = false := by decide) :
    ItE C k sc ρ (.Call (.Name x p) [e] [] pos) (.Tuple [.Name (nm i) p1, .Name (nm j) p2] n p3) (((List.range xs.length).zip xs).map fun d => [(j, d.2), (i, D.int (d.1 : Nat))]) := by
  have e1 : (((List.range xs.length).zip xs).map fun d => [(j, d.2), (i, D.int (d.1 : Nat))]) = ((((List.range xs.length).zip xs).map fun d => (D.int (d.1 : Nat), d.2)).map fun d => [(j, d.2), (i, d.1)]) := by rw [List.map_map]; rfl
  rw [e1]
  refine ItE.callOf hx hf (.inr (.inl ⟨_, rfl⟩)) (EvL.cons he .nil hst) (fun A V V1 s s1 vs E Q hr X1 S1 rs q => ?_) (fun env pos => by rw [hst]; rfl) hd
  refine Reps.el1 rs fun v r => ?_
  refine Rep.elList r fun a vs ha hs => ?_
  have hL := ha.isList S1
  have hal := ha.lt S1
  refine call_enumerate_list hL fun h' hE hI hz hk => ?_
  have S2 : St C V1 { s1 with heap := h' } := S1.keeps hk
  have X2 : Ext V s V1 { s1 with heap := h' } := X1.trans (.keeps hk)
  have f1 : ∀ b, s1.heap.objs.size ≤ b → s.heap.get? b = none ∧ V1 b = none := fun b hb => by
    have hn : s1.heap.get? b = none := by
      cases q : s1.heap.get? b with
      | none => rfl
      | some o => exact absurd (Heap.lt_size q) (Nat.not_lt.mpr hb)
    refine ⟨?_, ?_⟩
    · cases q : s.heap.get? b with
      | none => rfl
      | some o =>
        have hbt : b ≠ tabA := fun e => by have := S1.tabLt; rw [e] at hb; exact absurd this (Nat.not_lt.mpr hb)
        rw [X1.keep _ _ hbt q] at hn; cases hn
    · cases q : V1 b with
      | none => rfl
      | some o => rw [S1.sub _ _ q] at hn; cases hn
  refine wpAny_pyIter_enum (s := { s1 with heap := h' }) hE (q _ V1 _ _ _ _ X2 S2 (Its.ofWalksU (WalksT.enumerate hr.2.2 (s1.heap.objs.size + 1) s1.heap.objs.size a (by simp) (Nat.ne_of_lt (Nat.lt_succ_of_lt hal)) (Nat.ne_of_lt hal) vs.toArray).toU (by simp [hs.1])
    (fun j' vals d hp hd => ?_) (fun j' h st b hb => ?_) ?_ hr.2.2) ⟨⟨_, hE⟩, hI, (let ⟨o, e, r⟩ := hL; ⟨o, hk _ _ e, r⟩)⟩ (fun b hb => ?_) (fun b hb => ?_) fun b hb => ?_)
  · obtain ⟨t, y, hy, rfl⟩ := hp
    rw [List.getElem?_map] at hd
    obtain ⟨pr, hpr, rfl⟩ := Option.map_eq_some_iff.mp hd
    rw [List.getElem?_zip_eq_some] at hpr
    obtain ⟨g1, g2⟩ := hpr
    obtain ⟨_, g3⟩ := List.getElem?_eq_some_iff.mp g1
    simp at g3
    refine ⟨_, _, rfl, ?_, hs.2 j' y pr.2 (by simpa using hy) g2⟩
    rw [← g3]; exact .int _ _
  · obtain ⟨⟨old, h1⟩, ⟨o, h2, _⟩, _⟩ := st
    simp at hb; rcases hb with rfl | rfl
    · exact ⟨_, h1⟩
    · exact ⟨_, h2⟩
  · intro hb
    simp only [List.mem_cons, List.mem_nil_iff, or_false] at hb
    have := S1.tabLt
    rcases hb with e | e <;> rw [e] at this
    · exact absurd this (Nat.not_lt.mpr (Nat.le_succ _))
    · exact absurd this (Nat.lt_irrefl _)
  · simp at hb; rcases hb with rfl | rfl
    · exact f1 _ (Nat.le_succ _)
    · exact f1 _ (Nat.le_refl _)
  · simp at hb; rcases hb with rfl | rfl | rfl
    · exact .inr (f1 _ (Nat.le_succ _))
    · exact .inr (f1 _ (Nat.le_refl _))
    · exact .inl ha.isSome
  · simp at hb; rcases hb with rfl | rfl | rfl
    · exact ⟨_, hE⟩
    · obtain ⟨o, h2, _⟩ := hI; exact ⟨_, h2⟩
    · exact let ⟨o, e, _⟩ := hL; ⟨o, hk _ _ e⟩
theorem St.newNone {C : Cx} {V V1 : View} {s s1 : Shared} (X1 : Ext V s V1 s1) (S1 : St C V1 s1) {b : Addr} (hb : s1.heap.objs.size ≤ b) : s.heap.get? b = none ∧ V1 b = none := by
  have hn : s1.heap.get? b = none := by
    cases q : s1.heap.get? b with
    | none => rfl
    | some o => exact absurd (Heap.lt_size q) (Nat.not_lt.mpr hb)
  refine ⟨?_, ?_⟩
  · cases q : s.heap.get? b with
    | none => rfl
    | some o =>
      have hbt : b ≠ tabA := fun e => by have := S1.tabLt; rw [e] at hb; exact absurd this (Nat.not_lt.mpr hb)
      rw [X1.keep _ _ hbt q] at hn; cases hn
  · cases q : V1 b with
    | none => rfl
    | some o => rw [S1.sub _ _ q] at hn; cases hn
theorem ItE.zip {x : PySem.Str} {p pos p1 p2 p3 : Pos} {n : Nat} {e1 e2 : Expr} {i j : Nat} {xs ys : List D} (hx : sc.names.lookup x = some .globalImplicit) (hf : GFn C x (.type "zip")) (h1 : Ev C k sc ρ e1 (.list xs)) (h2 : Ev C k sc ρ e2 (.list ys))
    (hst : ∀ env, starEach [e1, e2] env = [(false, eval e1 env), (false, eval e2 env)] := by intro _; rfl) (hs2 : ∀ env, starEach [e2] env = (false, eval e2 env) :: starEach [] env := by intro _; rfl)
    (hd : (x == ("__debug__" : Str)) = false := by decide) :
    ItE C k sc ρ (.Call (.Name x p) [e1, e2] [] pos) (.Tuple [.Name (nm i) p1, .Name (nm j) p2] n p3) ((xs.zip ys).map fun d => [(j, d.2), (i, d.1)]) := by
  refine ItE.callOf hx hf (.inr (.inl ⟨_, rfl⟩)) (EvL.cons h1 (EvL.cons h2 .nil hs2) fun env => by rw [hst, hs2]; rfl) (fun A V V1 s s1 vs E Q hr X1 S1 rs q => ?_) (fun env pos => by rw [hst]; rfl) hd
  refine Reps.el2 rs fun v v2 r r2 => ?_
  refine Rep.elList r fun a us ha hs => ?_
  refine Rep.elList r2 fun b ws hb ht => ?_
  have hL := ha.isList S1
  have hM := hb.isList S1
  have hal := ha.lt S1
  have hbl := hb.lt S1
  refine call_zip_2 hL hM fun h' z1 z2 z3 z4 z5 z6 hk => ?_
  have S2 : St C V1 { s1 with heap := h' } := S1.keeps hk
  have X2 : Ext V s V1 { s1 with heap := h' } := X1.trans (.keeps hk)
  have f1 : ∀ {b}, s1.heap.objs.size ≤ b → s.heap.get? b = none ∧ V1 b = none := fun hb => St.newNone X1 S1 hb
  generalize hN : s1.heap.objs.size = N at *
  have leN : ∀ {a b : Nat}, @LE.le Nat _ a b → @LE.le Addr _ a b := fun h => h
  refine wpAny_pyIter_zip (s := { s1 with heap := h' }) z1 (q _ V1 _ _ _ _ X2 S2 (Its.ofWalksU (WalksT.zip2 hr.2.2 (N + 4) (N + 2) (N + 3) N (N + 1) a b (by constructor <;> (refine neN ?_; lia)) us.toArray ws.toArray).toU (by simp [hs.1, ht.1])
    (fun j' vals d hp hd => ?_) (fun j' h st c hc => ?_) ?_ hr.2.2) ⟨z1, z2, ⟨_, _, z3⟩, z4, z5, (let ⟨o, e, r⟩ := hL; ⟨o, hk _ _ e, r⟩), (let ⟨o, e, r⟩ := hM; ⟨o, hk _ _ e, r⟩)⟩ (fun c hc => ?_) (fun c hc => ?_) fun c hc => ?_)
  · refine hid fun G hG => ?_
    obtain ⟨y, z, hy, hz, rfl⟩ := hp
    refine hG ?_
    rw [List.getElem?_zip_eq_some] at hd
    exact ⟨_, _, rfl, hs.2 j' y d.1 (by simpa using hy) hd.1, ht.2 j' z d.2 (by simpa using hz) hd.2⟩
  · obtain ⟨g1, g2, ⟨_, _, g3⟩, ⟨o4, g4, _⟩, ⟨o5, g5, _⟩, _⟩ := st
    simp at hc; rcases hc with rfl | rfl | rfl | rfl
    · exact ⟨_, g1⟩
    · exact ⟨_, g3⟩
    · exact ⟨_, g4⟩
    · exact ⟨_, g5⟩
  · intro hc
    have := S1.tabLt
    rw [hN] at this
    simp only [List.mem_cons, List.mem_nil_iff, or_false] at hc
    rcases hc with e | e | e | e <;> rw [e] at this <;> exact absurd (show @LT.lt Nat _ _ _ from this) (by lia)
  · simp at hc; rcases hc with rfl | rfl | rfl | rfl <;> exact f1 (leN (by lia))
  · simp at hc; rcases hc with rfl | rfl | rfl | rfl | rfl | rfl | rfl
    · exact .inr (f1 (leN (by lia)))
    · exact .inr (f1 (leN (by lia)))
    · exact .inr (f1 (leN (by lia)))
    · exact .inr (f1 (leN (by lia)))
    · exact .inr (f1 (leN (by lia)))
    · exact .inl ha.isSome
    · exact .inl hb.isSome
  · simp at hc; rcases hc with rfl | rfl | rfl | rfl | rfl | rfl | rfl
    · exact ⟨_, z1⟩
    · exact ⟨_, z2⟩
    · exact ⟨_, z3⟩
    · obtain ⟨o, h, _⟩ := z4; exact ⟨o, h⟩
    · obtain ⟨o, h, _⟩ := z5; exact ⟨o, h⟩
    · exact let ⟨o, e, _⟩ := hL; ⟨o, hk _ _ e⟩
    · exact let ⟨o, e, _⟩ := hM; ⟨o, hk _ _ e⟩
theorem ItE.pairs {iter : Expr} {p1 p2 p3 : Pos} {n i j : Nat} {ds : List (D × D)} (h : Ev C k sc ρ iter (.list (ds.map fun d => .tup [d.1, d.2]))) : ItE C k sc ρ iter (.Tuple [.Name (nm i) p1, .Name (nm j) p2] n p3) (ds.map fun d => [(j, d.2), (i, d.1)]) := fun env A V s he hr S F E Q q => by
  refine h env A V s he hr S F E _ fun v V1 s1 X1 S1 r => ?_
  refine Rep.elList r fun a vs ha hs => ?_
  have hL := ha.isList S1
  have hne : a ≠ s1.heap.objs.size := Nat.ne_of_lt (ha.lt S1)
  have hlen : vs.length = ds.length := by simpa using hs.1
  have item : ∀ m (hm : m < vs.length), ∃ (T : Addr) (us : List Value) (d : D × D), vs[m]? = some (.ref T) ∧ ds[m]? = some d ∧ VTup V1 T us.toArray ∧ Reps V1 us [d.1, d.2] := fun m hm => by
    have h1 : vs[m]? = some vs[m] := List.getElem?_eq_getElem hm
    have h2 : ds[m]? = some (ds[m]'(by lia)) := List.getElem?_eq_getElem (by lia)
    have := hs.2 m vs[m] (.tup [(ds[m]'(by lia)).1, (ds[m]'(by lia)).2]) h1 (by rw [List.getElem?_map, h2]; rfl)
    obtain ⟨T, us, hT, hV, hR⟩ := this.inv_tup
    exact ⟨T, us, _, by rw [h1, hT], h2, hV, hR⟩
  have hTs : ∃ Ts : Nat → Addr, ∃ us : Nat → List Value, ∀ m, m < vs.length → vs[m]? = some (.ref (Ts m)) ∧ VTup V1 (Ts m) (us m).toArray ∧ ∀ d, ds[m]? = some d → Reps V1 (us m) [d.1, d.2] := by
    refine ⟨fun m => if hm : m < vs.length then (item m hm).choose else 0, fun m => if hm : m < vs.length then (item m hm).choose_spec.choose else [], fun m hm => ?_⟩
    refine hid fun G hG => ?_
    obtain ⟨d, h1, h2, h3, h4⟩ := (item m hm).choose_spec.choose_spec
    refine hG ?_
    refine ⟨by simp only [dif_pos hm]; exact h1, by simp only [dif_pos hm]; exact h3, fun d' hd' => ?_⟩
    rw [h2] at hd'; cases hd'
    simp only [dif_pos hm]; exact h4
  obtain ⟨Ts, us, hTs⟩ := hTs
  have hf := X1.fresh S1
  refine wpAny_pyIter_list hL (q _ V1 _ _ _ _ (X1.trans (.keeps (tk := s1.toks) fun b o e => Heap.get?_push_of_some _ e)) (S1.push _) (Its.ofWalksU (WalksU.listOfTuples hr.2.2 s1.heap.objs.size a hne vs.toArray Ts (fun m => (us m).toArray) (fun m hm => ?_) (fun m hm => ?_)).bound (by simp [hlen])
    (fun m vals d hp hd => ?_) (fun m h st b hb => ?_) ?_ hr.2.2) ⟨⟨_, Heap.get?_push_size _ rfl, rfl, rfl⟩, hL.push _, fun m hm => ?_⟩ (fun b hb => ?_) (fun b hb => ?_) fun b hb => ?_)
  · have := (hTs m (by simpa using hm)).1; simpa using this
  · exact Nat.ne_of_lt ((hTs m (by simpa using hm)).2.1.lt S1)
  · refine hid fun G hG => ?_
    obtain ⟨hm, rfl⟩ := hp
    obtain ⟨v1, r1, e1, q1, q2⟩ := ((hTs m (by simpa using hm)).2.2 d hd).inv_cons
    obtain ⟨v2, r2, e2, q3, q4⟩ := q2.inv_cons
    obtain rfl := q4.inv_nil
    refine hG ?_
    exact ⟨v1, v2, by rw [e1, e2], q1, q3⟩
  · simp at hb; subst hb; obtain ⟨⟨o, e, _⟩, _⟩ := st; exact ⟨o, e⟩
  · exact fun q => S1.tabNe (List.mem_singleton.mp q)
  · exact let ⟨o, e, r⟩ := (hTs m (by simpa using hm)).2.1.isTup S1; ⟨o, Heap.get?_push_of_some _ e, r⟩
  · simp at hb; subst hb; exact ⟨hf, S1.newFree⟩
  · rcases List.mem_cons.mp hb with rfl | hb
    · exact .inr ⟨hf, S1.newFree⟩
    rcases List.mem_cons.mp hb with rfl | hb
    · exact .inl ha.isSome
    obtain ⟨m, hm, rfl⟩ := List.mem_map.mp hb
    exact .inl (hTs m (by simpa using List.mem_range.mp hm)).2.1.isSome
  · rcases List.mem_cons.mp hb with rfl | hb
    · exact ⟨_, Heap.get?_push_size _ rfl⟩
    rcases List.mem_cons.mp hb with rfl | hb
    · exact let ⟨o, e, _⟩ := hL; ⟨o, Heap.get?_push_of_some _ e⟩
    obtain ⟨m, hm, rfl⟩ := List.mem_map.mp hb
    exact let ⟨o, e, _⟩ := (hTs m (by simpa using List.mem_range.mp hm)).2.1.isTup S1; ⟨o, Heap.get?_push_of_some _ e⟩
end
noncomputable def relabelS (scope sc : Scope) : Scope :=
  { scope with names := scope.names.map fun (n, k) => if (k == .free && sc.kind == .function && sc.names.lookup n == some .cell) then (n, .cell) else (n, k) }
theorem relabelS_lookup (scope sc : Scope) (x : PySem.Str) : (relabelS scope sc).names.lookup x = (scope.names.lookup x).map fun k => if (k == .free && sc.kind == .function && sc.names.lookup x == some .cell) then NameKind.cell else k := by
  show List.lookup x (scope.names.map _) = _
  induction scope.names with
  | nil => rfl
  | cons a r ih =>
    obtain ⟨n, k⟩ := a
    simp only [List.map_cons]
    by_cases hc : (k == NameKind.free && sc.kind == .function && sc.names.lookup n == some .cell) = true
    · rw [if_pos hc]
      simp only [List.lookup_cons]
      cases hx : x == n with
      | true =>
        obtain rfl := eq_of_beq hx
        simp only [Option.map_some]; rw [if_pos hc]
      | false => simpa using ih
    · rw [if_neg hc]
      simp only [List.lookup_cons]
      cases hx : x == n with
      | true =>
        obtain rfl := eq_of_beq hx
        simp only [Option.map_some]; rw [if_neg hc]
      | false => simpa using ih
theorem closure_go {env : Env} (f : PySem.Str × NameKind → List (PySem.Str × Addr) → Sem (ForInStep (List (PySem.Str × Addr))))
    (hf : ∀ n k cs, f (n, k) cs = if k == .free then (do let c ← cellOf env n; pure (.yield ((n, c) :: cs))) else pure (.yield cs)) :
    ∀ (names : List (PySem.Str × NameKind)) (acc : List (PySem.Str × Addr)), (∀ x ∈ names, x.2 = .free → ∃ c, env.cells.lookup x.1 = some c) → (∀ x c, acc.lookup x = some c → env.cells.lookup x = some c) →
      ∃ cl, forIn names acc f = pure cl ∧ (∀ x c, cl.lookup x = some c → env.cells.lookup x = some c) ∧ (∀ x ∈ names, x.2 = .free → ∃ c, cl.lookup x.1 = some c) ∧ (∀ x, (acc.lookup x).isSome → (cl.lookup x).isSome) ∧ ∀ x c, cl.lookup x = some c → (x, .free) ∈ names ∨ (acc.lookup x).isSome
  | [], acc, _, ha => ⟨acc, by rw [List.forIn_nil], ha, by simp, fun _ h => h, fun x c h => .inr (by rw [h]; rfl)⟩
  | (n, k) :: r, acc, hn, ha => by
    rw [List.forIn_cons, hf]
    by_cases hk : k = .free
    · subst hk
      refine hid fun G hG => ?_
      obtain ⟨c, hc⟩ := hn (n, .free) (by simp) rfl
      have ha' : ∀ x c', List.lookup x ((n, c) :: acc) = some c' → env.cells.lookup x = some c' := fun x c' h => by
        simp only [List.lookup_cons] at h
        cases hx : x == n with
        | true => rw [hx] at h; cases h; rw [eq_of_beq hx]; exact hc
        | false => rw [hx] at h; exact ha x c' h
      obtain ⟨cl, h1, h2, h3, h4, h5⟩ := closure_go f hf r ((n, c) :: acc) (fun x hx => hn x (by simp [hx])) ha'
      refine hG ?_
      refine ⟨cl, ?_, h2, fun x hx hxf => ?_, fun x hx => h4 x ?_, fun x c' hx => ?_⟩
      · unfold cellOf; rw [hc]; exact h1
      · rcases List.mem_cons.mp hx with rfl | hx
        · exact Option.isSome_iff_exists.mp (h4 n (by simp [List.lookup_cons]))
        · exact h3 x hx hxf
      · simp only [List.lookup_cons]; split <;> simp_all
      · rcases h5 x c' hx with h | h
        · exact .inl (List.mem_cons_of_mem _ h)
        · simp only [List.lookup_cons] at h
          cases hxn : x == n with
          | true => rw [eq_of_beq hxn]; exact .inl List.mem_cons_self
          | false => rw [hxn] at h; exact .inr h
    · have hb : (k == NameKind.free) = false := by simpa using hk
      simp only [hb, Bool.false_eq_true, if_false]
      refine hid fun G hG => ?_
      obtain ⟨cl, h1, h2, h3, h4, h5⟩ := closure_go f hf r acc (fun x hx => hn x (by simp [hx])) ha
      refine hG ?_
      refine ⟨cl, h1, h2, fun x hx hxf => ?_, h4, fun x c hx => (h5 x c hx).imp_left fun h => List.mem_cons_of_mem _ h⟩
      rcases List.mem_cons.mp hx with rfl | hx
      · exact absurd hxf hk
      · exact h3 x hx hxf
theorem closure_ok' {env : Env} {scope : Scope} (hn : ∀ x ∈ scope.names, x.2 = .free → ∃ c, env.cells.lookup x.1 = some c) :
    ∃ cl, closureFor scope env = pure cl ∧ (∀ x c, cl.lookup x = some c → env.cells.lookup x = some c) ∧ (∀ x ∈ scope.names, x.2 = .free → ∃ c, cl.lookup x.1 = some c) ∧ ∀ x c, cl.lookup x = some c → (x, .free) ∈ scope.names := by
  refine hid fun G hG => ?_
  obtain ⟨cl, h1, h2, h3, _, h5⟩ := closure_go (env := env) (fun x cs => if x.2 == .free then (do let c ← cellOf env x.1; pure (.yield ((x.1, c) :: cs))) else pure (.yield cs)) (fun _ _ _ => rfl) scope.names [] hn (by simp)
  refine hG ?_
  refine ⟨cl, ?_, h2, h3, fun x c h => (h5 x c h).resolve_right (by simp)⟩
  have : closureFor scope env = (forIn scope.names [] (fun (x : PySem.Str × NameKind) cs => if x.2 == .free then (do let c ← cellOf env x.1; pure (ForInStep.yield ((x.1, c) :: cs))) else pure (ForInStep.yield cs)) >>= fun cs => pure cs) := by
    unfold closureFor
    congr 1
  rw [this, h1]; rfl
theorem closure_ok {env : Env} {scope : Scope} (hn : ∀ x ∈ scope.names, x.2 = .free → ∃ c, env.cells.lookup x.1 = some c) :
    ∃ cl, closureFor scope env = pure cl ∧ (∀ x c, cl.lookup x = some c → env.cells.lookup x = some c) ∧ ∀ x ∈ scope.names, x.2 = .free → ∃ c, cl.lookup x.1 = some c := by
  refine hid fun G hG => ?_
  obtain ⟨cl, h1, h2, h3, _⟩ := closure_ok' hn
  refine hG ?_
  exact ⟨cl, h1, h2, h3⟩
structure Sees (scope sc : Scope) (ρ fr : Asn) : Prop where
  kind : scope.kind = .function
  cell : ∀ x ∈ scope.names, x.2 ≠ .cell
  free : ∀ x ∈ scope.names, x.2 = .free → sc.names.lookup x.1 = some .cell ∨ sc.names.lookup x.1 = some .free
  loc : ∀ x ∈ scope.names, x.2 = .local → scope.names.lookup x.1 = some .local
  fr : ∀ i d, fr.get i = some d → ρ.get i = some d ∧ scope.names.lookup (nm i) = some .free
theorem mem_of_lookupN {x : PySem.Str} {k : NameKind} : ∀ {l : List (PySem.Str × NameKind)}, l.lookup x = some k → (x, k) ∈ l
  | (a, b) :: r, h => by
    rw [List.lookup_cons] at h
    cases hx : x == a with
    | true => rw [hx] at h; cases h; rw [eq_of_beq hx]; exact .head _
    | false => rw [hx] at h; exact .tail _ (mem_of_lookupN h)
theorem Frm.comp {C : Cx} {env : Env} {ρ fr : Asn} {V : View} {h h' : Heap} {scope : Scope} {cl : List (PySem.Str × Addr)} {Cc : Addr} (F : Frm C env ρ V h) (W : Sees scope env.scope ρ fr)
    (h1 : ∀ x c, cl.lookup x = some c → env.cells.lookup x = some c) (h2 : ∀ x ∈ scope.names, x.2 = .free → ∃ c, cl.lookup x.1 = some c)
    (hn : h'.Ns Cc fun _ => none) (hC : V Cc = none) (k : ∀ b o, h.get? b = some o → h'.get? b = some o) : Frm C (compEnvC scope cl Cc env) fr V h' where
  kind := W.kind
  glob := F.glob
  blt := F.blt
  ns := ⟨_, hn, fun i d hi hk => by
    exfalso
    obtain ⟨_, hf⟩ := W.fr i d hi
    have : (relabelS scope env.scope).names.lookup (nm i) = some .local := hk
    rw [relabelS_lookup, hf] at this
    simp only [Option.map_some, Option.some.injEq] at this
    split at this <;> cases this⟩
  locFree := hC
  cells := fun x c hc => by
    obtain ⟨f, v, ⟨o, e, d⟩, g⟩ := F.cells x c (h1 x c hc)
    refine ⟨f.imp_right fun q => ?_, v, ⟨o, k _ _ e, d⟩, fun i d hi hk e => ?_⟩
    · show (relabelS scope env.scope).names.lookup x ≠ some .cell
      rw [relabelS_lookup]
      intro h
      cases hq : scope.names.lookup x with
      | none => rw [hq] at h; cases h
      | some kk =>
        rw [hq] at h
        have hm := mem_of_lookupN hq
        simp only [Option.map_some, Option.some.injEq] at h
        split at h
        · rename_i hc
          simp only [Bool.and_eq_true, beq_iff_eq] at hc
          exact q hc.2
        · subst h; exact W.cell _ hm rfl
    subst hi
    obtain ⟨q1, q2⟩ := W.fr i d e
    exact g i d rfl (W.free _ (mem_of_lookupN q2) rfl) q1
  has := fun x hx => by
    have hx' : (relabelS scope env.scope).names.lookup x = some .cell ∨ (relabelS scope env.scope).names.lookup x = some .free := hx
    rw [relabelS_lookup] at hx'
    cases hq : scope.names.lookup x with
    | none => rw [hq] at hx'; simp at hx'
    | some kk =>
      have hm := mem_of_lookupN hq
      cases kk with
      | free => exact h2 _ hm rfl
      | cell => exact absurd rfl (W.cell _ hm)
      | _ => rw [hq] at hx'; simp at hx'
  inj := fun x y c hx hy => F.inj x y c (h1 _ _ hx) (h1 _ _ hy)
  knd := fun i d hi => by
    refine hid fun G hG => ?_
    obtain ⟨_, hf⟩ := W.fr i d hi
    refine hG ?_
    refine .inr ?_
    show (relabelS scope env.scope).names.lookup (nm i) = some .cell ∨ (relabelS scope env.scope).names.lookup (nm i) = some .free
    rw [relabelS_lookup, hf]
    simp only [Option.map_some, Option.some.injEq]
    split
    · exact .inl rfl
    · exact .inr rfl
noncomputable def TstL (C : Cx) (k : Nat) (sc : Scope) (ρ : Asn) (ifs : List Expr) (b : Bool) : Prop :=
  ∀ (env : Env) (A : Around) (V : View) (s : Shared), env.scope = sc → Room k A → St C V s → Frm C env ρ V s.heap →
    Yl C A V s (forIn ifs true fun c r => if r = true then do let ok ← isTrue c env (eval c env); pure (ForInStep.yield ok) else pure (ForInStep.yield r)) fun _ ok => ok = b
theorem TstL.nil {C : Cx} {k : Nat} {sc : Scope} {ρ : Asn} : TstL C k sc ρ [] true := fun env A V s he hr S F E Q q => wpAny_tests_nil (q true V s (.refl V s) S rfl)
theorem TstL.one {C : Cx} {k : Nat} {sc : Scope} {ρ : Asn} {e : Expr} {b : Bool} (h : Tst C k sc ρ e b) : TstL C k sc ρ [e] b := fun env A V s he hr S F E Q q => wpAny_tests_one (h env A V s he hr S F E Q q)
noncomputable abbrev testsT (ifs : List Expr) (env : Env) : Sem Bool := forIn ifs true fun c r => if r = true then do let ok ← isTrue c env (eval c env); pure (ForInStep.yield ok) else pure (ForInStep.yield r)
theorem compLoop_gen {prog : Program} {w : World} {A : Around} {R : Result → Shared → Prop} {s : Shared} {elt target iter : Expr} {ifs : List Expr} {scope : Scope} {pos : Pos} {it acc : Value} {env : Env} (I : Nat → Shared → Prop)
    (turn : ∀ n s, I n s → wpAny (model prog w) A (pyNext it) (fun r s₁ => match r with
      | none => R (.ok .next) s₁
      | some v => wpAny (model prog w) A (letOwnedTupleGo target it v) (fun _ s₁ => wpAny (model prog w) A (assign target env v) (fun _ s₂ =>
          wpAny (model prog w) A (testsT ifs env) (fun ok s₃ =>
            if ok = true then wpAny (model prog w) A (eval elt env) (fun x s₄ =>
              wpAny (model prog w) A (call (.builtin "list.append") [acc, x]) (fun _ s₅ => ∃ m, m < n ∧ I m s₅) (notedBy (model prog w) A env fun e s' => R (.error e) s') s₄) (notedBy (model prog w) A env fun e s' => R (.error e) s') s₃
            else ∃ m, m < n ∧ I m s₃) (notedBy (model prog w) A env fun e s' => R (.error e) s') s₂) (notedBy (model prog w) A env fun e s' => R (.error e) s') s₁) (notedBy (model prog w) A env fun e s' => R (.error e) s') s₁) (notedBy (model prog w) A env fun e s' => R (.error e) s') s)
    (n : Nat) (h : I n s) :
    codeAny (model prog w) A (.compLoop (.ListComp elt [⟨target, iter, ifs, 0⟩] scope pos) 0 it acc env) R s := by
  refine codeAny_loop rfl I (fun n s hI => ?_) n h
  show wpAny _ A ((compTurn (.ListComp elt [⟨target, iter, ifs, 0⟩] scope pos) 0 it acc env).onRaise (fun x => do noteFrame x env; theTreesLotGoes x)) _ _ s
  refine wpAny_noted ?_
  rw [compTurn_list]
  refine wpAny_bind (wpAny_standAt (wpAny_bind (wpAny_mono (turn n s hI) (fun r s₁ h₁ => ?_) fun _ _ h' => h')))
  cases r with
  | none => exact wpAny_pure h₁
  | some v =>
    refine wpAny_bind (wpAny_mono h₁ (fun _ s₁ h₁ => ?_) fun _ _ h' => h')
    refine wpAny_bind (wpAny_mono h₁ (fun _ s₂ h₂ => wpAny_bind (wpAny_mono h₂ (fun ok s₃ h₃ => ?_) fun _ _ h' => h')) fun _ _ h' => h')
    cases ok with
    | false => exact wpAny_pure ⟨rfl, h₃⟩
    | true =>
      exact wpAny_bind (wpAny_bind (wpAny_mono h₃ (fun x s₄ h₄ => wpAny_bind (wpAny_mono h₄ (fun _ s₅ h₅ => wpAny_pure (wpAny_pure ⟨rfl, h₅⟩)) fun _ _ h' => h')) fun _ _ h' => h'))
theorem lt_of_get {h : Heap} {a : Addr} {o : Obj} (e : h.get? a = some o) : @LT.lt Nat _ a h.objs.size := Heap.lt_size e
inductive CInv (C : Cx) (ce : Env) (fr : Asn) (P : Nat → Heap → Prop) (N : Nat) (wr : List Addr) (V2 : View) (KX : View → Shared → Prop) (Dd : Addr) (L : Nat → List D) (n : Nat) (s' : Shared) : Prop where
  | mk (i : Nat) (V' : View) (ys : Array Value) (m : Nat) (hi : i ≤ N) (hn : n = N + 1 - i) (hP : P i s'.heap) (X : KX V' s') (S : St C V' s') (hV : VLe V2 V') (hD : s'.heap.get? Dd = some (listO ys m)) (hR : Reps V' ys.toList (L i)) (hVD : V' Dd = none) (hw : ∀ b ∈ wr, V' b = none) (F : Frm C ce fr V' s'.heap) :
    CInv C ce fr P N wr V2 KX Dd L n s'
theorem comp_core {C : Cx} {k : Nat} {sc : Scope} {ρ fr : Asn} {α : Type} {xs : List α} {g : α → Asn} {p : α → Bool} {f : α → D} {elt tgt iter : Expr} {ifs : List Expr} {scope : Scope} {pos : Pos} {cl : List (PySem.Str × Addr)}
    {env : Env} {A : Around} {V : View} {s : Shared} {E : Value → Shared → Prop} {RR : Value → Addr → Result → Shared → Prop}
    (hIt : ItE C k sc ρ iter tgt (xs.map g)) (W : Sees scope sc ρ fr) (hg : ∀ x ∈ xs, ∀ q ∈ g x, scope.names.lookup (nm q.1) = some .local)
    (ht : ∀ x ∈ xs, TstL C k (relabelS scope sc) (g x ++ fr) ifs (p x)) (hel : ∀ x ∈ xs, p x = true → Ev C k (relabelS scope sc) (g x ++ fr) elt (f x)) (hsz : xs.length ≤ sizeLine)
    (he : env.scope = sc) (hr : Room k A) (S : St C V s) (F : Frm C env ρ V s.heap)
    (h1 : ∀ x c, cl.lookup x = some c → env.cells.lookup x = some c) (h2 : ∀ x ∈ scope.names, x.2 = .free → ∃ c, cl.lookup x.1 = some c)
    (fin : ∀ Dd Cc V' s' ys n, Ext V s V' s' → St C V' s' → s'.heap.get? Dd = some (listO ys n) → Reps V' ys.toList ((xs.filter p).map f) → V' Dd = none → V' Cc = none → s.heap.get? Dd = none → s.heap.get? Cc = none → Dd ≠ Cc →
      (∃ m, s'.heap.Ns Cc m) → RR (.ref Dd) Cc (.ok .next) s') :
    wpAny C.M A (eval iter env) (fun x s₁ => wpAny C.M A (pyIter x) (fun it s₂ => wpAny C.M A (newList []) (fun acc s₃ => wpAny C.M A (newFunctionEnv scope env.globals cl [] env.qual none .none (some env)) (fun cenv s₄ =>
      codeAny C.M A (.compStart (.ListComp elt [⟨tgt, iter, ifs, 0⟩] scope pos) 0 it acc { cenv with scope := relabel scope env }) (RR acc cenv.locals) s₄) E s₃) E s₂) E s₁) E s := by
  refine hIt env A V s he hr S F E _ fun it V2 s2 fp wr P X2 S2 I hP hw hfp hal => ?_
  refine wpAny_newObj_type (wpAny_newFunctionEnv W.cell (by intro y hy; simp at hy) (fun h4 hns4 hsb4 => ?_) W.kind)
  dsimp only at hns4 hsb4 ⊢
  generalize hH3 : s2.heap.push { cls := .type "list", dict := none, data := .seq ([] : List Value).toArray } = H3 at hns4 hsb4 ⊢
  have hz3 : H3.objs.size = s2.heap.objs.size + 1 := by rw [← hH3, Heap.size_push]
  have old : ∀ b o, s2.heap.get? b = some o → h4.get? b = some o := fun b o e => by
    have hlt := lt_of_get e
    exact hsb4.extBut b o (neN (by rw [hz3]; lia)) (Heap.get?_push_of_some _ (hH3 ▸ Heap.get?_push_of_some _ e))
  have hD : h4.get? s2.heap.objs.size = some (listO #[] 0) := hsb4.extBut _ _ (neN (by rw [hz3]; lia)) (Heap.get?_push_of_some _ (hH3 ▸ Heap.get?_push_size _ rfl))
  have fD := St.newNone X2 S2 (b := s2.heap.objs.size) (Nat.le_refl _)
  have fC := St.newNone X2 S2 (b := H3.objs.size) (by rw [hz3]; exact Nat.le_succ _)
  have hDC : s2.heap.objs.size ≠ H3.objs.size := by rw [hz3]; exact Nat.ne_of_lt (Nat.lt_succ_self _)
  have oldlt : ∀ {b o}, s2.heap.get? b = some o → b ≠ s2.heap.objs.size ∧ b ≠ H3.objs.size := fun e => by
    have hlt := lt_of_get e
    exact ⟨neN (by lia), neN (by rw [hz3]; lia)⟩
  generalize hDd : s2.heap.objs.size = Dd at *
  generalize hCc : H3.objs.size = Cc at *
  have start : ∀ s4 : Shared, s4 = { s2 with heap := h4, toks := s2.toks + ([] : List (PySem.Str × Value)).length } →
      codeAny C.M A (.compLoop (.ListComp elt [⟨tgt, iter, ifs, 0⟩] scope pos) 0 it (.ref Dd) (compEnvC scope cl Cc env)) (RR (.ref Dd) Cc) s4 := by
    rintro s4 rfl
    have F4 : Frm C (compEnvC scope cl Cc env) fr V2 h4 := (F.ext S X2).comp (he ▸ W) h1 h2 hns4 fC.2 old
    obtain ⟨Inv, hIn, hOut⟩ : ∃ Inv : Nat → Shared → Prop, (∀ n s', Inv n s' → CInv C (compEnvC scope cl Cc env) fr P xs.length wr V2 (Ext V s) Dd (fun i => ((xs.take i).filter p).map f) n s') ∧ (∀ n s', CInv C (compEnvC scope cl Cc env) fr P xs.length wr V2 (Ext V s) Dd (fun i => ((xs.take i).filter p).map f) n s' → Inv n s') := ⟨_, fun _ _ h => h, fun _ _ h => h⟩
    refine compLoop_gen Inv (fun n s' hI => ?_) (xs.length + 1) ?_
    · obtain ⟨i, V', ys, m, hi, rfl, hPi, X', S', hV', hDD, hR, hVD, hVw, F'⟩ := hIn _ _ hI
      have hlocfp : ∀ a, a = Cc ∨ a = Dd → a ∉ fp := fun a ha hm => by
        refine hid fun G hG => ?_
        obtain ⟨o, e⟩ := hal a hm
        refine hG ?_
        have := oldlt e
        rcases ha with rfl | rfl
        · exact this.2 rfl
        · exact this.1 rfl
      have hcw : ∀ x c, (compEnvC scope cl Cc env).cells.lookup x = some c → c ∉ wr := fun x c hc hm => by
        obtain ⟨_, v, ⟨o, e, _⟩, _⟩ := F.cells x c (h1 x c hc)
        have := (hw c hm).1
        rw [e] at this; cases this
      by_cases hlt : i < xs.length
      · have hb : (xs.map g)[i]? = some (g xs[i]) := by rw [List.getElem?_map, List.getElem?_eq_getElem hlt]; rfl
        have hx : xs[i] ∈ xs := List.getElem_mem hlt
        have hkl : ∀ q ∈ g xs[i], (compEnvC scope cl Cc env).scope.names.lookup (nm q.1) = some .local := fun q hq => by
          show (relabelS scope env.scope).names.lookup (nm q.1) = _
          rw [relabelS_lookup, hg _ hx q hq]; rfl
        have hTg : ∀ a, Tgt (compEnvC scope cl Cc env) (g xs[i]) a → a = Cc := fun a ha => by
          rcases ha with rfl | ⟨q, hq, h3, _⟩
          · rfl
          · rw [hkl q hq] at h3; cases h3
        refine wpAny_mono (I.step i _ hb (compEnvC scope cl Cc env) fr V' s' (notedBy C.M A (compEnvC scope cl Cc env) fun e s' => RR (.ref Dd) Cc (.error e) s') (fun s₂ => wpAny C.M A (testsT ifs (compEnvC scope cl Cc env)) (fun ok s₃ =>
            if ok = true then wpAny C.M A (eval elt (compEnvC scope cl Cc env)) (fun x s₄ =>
              wpAny C.M A (PySem.call (.builtin "list.append") [.ref Dd, x]) (fun _ s₅ => ∃ m, m < xs.length + 1 - i ∧ Inv m s₅) (notedBy C.M A (compEnvC scope cl Cc env) fun e s' => RR (.ref Dd) Cc (.error e) s') s₄) (notedBy C.M A (compEnvC scope cl Cc env) fun e s' => RR (.ref Dd) Cc (.error e) s') s₃
            else ∃ m, m < xs.length + 1 - i ∧ Inv m s₃) (notedBy C.M A (compEnvC scope cl Cc env) fun e s' => RR (.ref Dd) Cc (.error e) s') s₂)
          hV' S' hVw hPi F' (fun a ha => hlocfp a (.inl (hTg a ha))) hcw (fun q hq => .inl (hkl q hq)) fun s3 hP3 S3 F3 hk3 _ => ?_) (fun r s₁ h => by obtain ⟨v, rfl, h⟩ := h; exact h) fun _ _ e => e
        have hCD : ∀ {a : Addr}, a = Cc → ∀ o, s.heap.get? a ≠ some o := fun e o q => by rw [e, fC.1] at q; cases q
        have X3 : Ext V s V' s3 := ⟨X'.mono, X'.same, fun a o ha e => hk3 a o (fun hm => by have := (hw a hm).1; rw [e] at this; cases this) (fun hT => hCD (hTg a hT) o e) (X'.keep a o ha e), fun o e => let ⟨ps, h, _⟩ := S3.tab; ⟨_, h⟩⟩
        have hDwr : Dd ∉ wr := fun hm => hlocfp Dd (.inr rfl) (I.sub _ hm)
        have hDD3 : s3.heap.get? Dd = some (listO ys m) := hk3 _ _ hDwr (fun hT => hDC (hTg _ hT)) hDD
        have hsc : (compEnvC scope cl Cc env).scope = relabelS scope sc := by rw [← he]; rfl
        refine ht _ hx (compEnvC scope cl Cc env) A V' s3 hsc hr S3 F3 _ _ fun ok V5 s5 X5 S5 hok => ?_
        subst hok
        have F5 : Frm C (compEnvC scope cl Cc env) (g xs[i] ++ fr) V5 s5.heap := F3.ext S3 X5
        have leF : Asn.Le fr (g xs[i] ++ fr) := by
          intro j e hj
          have : ∀ b : Asn, (∀ q ∈ b, (compEnvC scope cl Cc env).scope.names.lookup (nm q.1) = some .local) → Asn.get (b ++ fr) j = some e := by
            intro b
            induction b with
            | nil => intro _; exact hj
            | cons q r ih =>
              intro hq
              refine Asn.there (fun ej => ?_) (ih fun q' hq' => hq q' (by simp [hq']))
              have h3 := hq q (by simp)
              obtain ⟨_, hf⟩ := W.fr j e hj
              rw [ej] at hf
              have h4 : (relabelS scope env.scope).names.lookup (nm q.1) = some .local := h3
              rw [relabelS_lookup, hf] at h4
              simp only [Option.map_some, Option.some.injEq] at h4
              split at h4 <;> cases h4
          exact this _ hkl
        have hP5 : P (i + 1) s5.heap := I.frame _ _ _ hP3 fun b hb o e => X5.keep b o (fun q => by
          subst q
          rcases hfp _ hb with h | h
          · rw [S2.tabV] at h; cases h
          · obtain ⟨ps, h', _⟩ := S.tab; rw [h.1] at h'; cases h') e
        have nt : ∀ {a o}, s3.heap.get? a = some o → V' a = none → V5 a = none := fun e h => by rw [X5.same _ _ e]; exact h
        have hDt : Dd ≠ tabA := fun q => by obtain ⟨ps, h', _⟩ := S.tab; rw [← q, fD.1] at h'; cases h'
        have hVw5 : ∀ b ∈ wr, V5 b = none := fun b hb => by obtain ⟨o, e⟩ := I.alive _ _ hP3 b hb; exact nt e (hVw b hb)
        have htake : xs.take (i + 1) = xs.take i ++ [xs[i]] := by rw [List.take_succ, List.getElem?_eq_getElem hlt]; rfl
        have X05 := X3.trans X5
        cases hpx : p xs[i] with
        | false =>
          simp only [Bool.false_eq_true, if_false]
          refine ⟨xs.length + 1 - (i + 1), by lia, hOut _ _ ⟨i + 1, V5, ys, m, hlt, rfl, hP5, X05, S5, hV'.trans X5.mono, X5.keep _ _ hDt hDD3, ?_, nt hDD3 hVD, hVw5, F5.le leF⟩⟩
          rw [htake, List.filter_append]
          simp only [List.filter_cons, hpx, List.filter_nil, Bool.false_eq_true, if_false, List.append_nil]
          exact hR.mono X5.mono
        | true =>
          simp only [if_true]
          refine hel _ hx hpx (compEnvC scope cl Cc env) A V5 s5 hsc hr S5 F5 _ _ fun v V6 s6 X6 S6 rv => ?_
          have hDD6 := X6.keep _ _ hDt (X5.keep _ _ hDt hDD3)
          have hlen : ys.size ≤ sizeLine := by
            have e1 := hR.1
            have e2 : ((xs.take i).filter p).length ≤ (xs.take i).length := List.length_filter_le _ _
            have e3 : (xs.take i).length ≤ xs.length := by rw [List.length_take]; lia
            simp at e1
            lia
          refine wpAny_list_append_plain (hsz := hlen) ⟨m, hDD6⟩ fun h7 hl7 hs7 => ?_
          obtain ⟨m7, e7⟩ := hl7
          have nt6 : ∀ {a o}, s5.heap.get? a = some o → V5 a = none → V6 a = none := fun e h => by rw [X6.same _ _ e]; exact h
          have hVD6 : V6 Dd = none := nt6 (X5.keep _ _ hDt hDD3) (nt hDD3 hVD)
          have S7 : St C V6 { s6 with heap := h7 } := S6.but (fun a => a = Dd) (fun b o hb e => (hs7.2 b hb).trans e) (fun b hb => hb ▸ hVD6) (Ne.symm hDt) rfl rfl
          have X06 := X05.trans X6
          have X07 : Ext V s V6 { s6 with heap := h7 } := ⟨X06.mono, X06.same, fun a o ha e => (hs7.2 a fun q => by rw [q, fD.1] at e; cases e).trans (X06.keep a o ha e), fun o e => let ⟨ps, h, _⟩ := S7.tab; ⟨_, h⟩⟩
          have F6 := F5.ext S5 X6
          have F7 : Frm C (compEnvC scope cl Cc env) (g xs[i] ++ fr) V6 h7 := F6.stay (fun o e => (hs7.2 _ (Ne.symm hDC)).trans e) (fun x c o hc e => (hs7.2 _ fun q => by
            obtain ⟨_, v, ⟨o', e', dd⟩, _⟩ := F6.cells x c hc
            rw [q, hDD6] at e'; cases e'; cases dd).trans e)
          refine ⟨xs.length + 1 - (i + 1), by lia, hOut _ _ ⟨i + 1, V6, ys.push v, m7, hlt, rfl, ?_, X07, S7, (hV'.trans X5.mono).trans X6.mono, e7, ?_, hVD6, ?_, F7.le leF⟩⟩
          · refine I.frame _ _ _ hP5 fun b hb o e => (hs7.2 b fun q => hlocfp Dd (.inr rfl) (q ▸ hb)).trans (X6.keep b o (fun q => ?_) e)
            subst q
            rcases hfp _ hb with h | h
            · rw [S2.tabV] at h; cases h
            · obtain ⟨ps, h', _⟩ := S.tab; rw [h.1] at h'; cases h'
          · rw [htake, List.filter_append, List.map_append]
            simp only [List.filter_cons, hpx, List.filter_nil, if_true, List.map_cons, List.map_nil, Array.toList_push]
            exact ((hR.mono X5.mono).mono X6.mono).snoc rv
          · exact fun b hb => by obtain ⟨o, e⟩ := I.alive _ _ hP5 b hb; exact nt6 e (hVw5 b hb)
      · have hie : i = xs.length := by lia
        subst hie
        rw [List.take_length] at hR
        refine wpAny_mono (I.done V' s' _ (fun s₁ => RR (.ref Dd) Cc (.ok .next) s₁) S' hVw (by rw [List.length_map]; exact hPi) fun s3 S3 hk3 => ?_) (fun r s₁ h => by obtain ⟨rfl, h⟩ := h; exact h) fun _ _ e => e
        have hDwr : Dd ∉ wr := fun hm => hlocfp Dd (.inr rfl) (I.sub _ hm)
        have hCwr : Cc ∉ wr := fun hm => hlocfp Cc (.inl rfl) (I.sub _ hm)
        refine fin Dd Cc V' s3 ys m ⟨X'.mono, X'.same, fun a o ha e => hk3 a o (fun hm => by have := (hw a hm).1; rw [e] at this; cases this) (X'.keep a o ha e), fun o e => let ⟨ps, h, _⟩ := S3.tab; ⟨_, h⟩⟩ S3 (hk3 _ _ hDwr hDD) hR hVD F'.locFree fD.1 fC.1 hDC ?_
        obtain ⟨mm, ⟨o, es, ep, e, r⟩, _⟩ := F'.ns
        exact ⟨mm, o, es, ep, hk3 _ _ hCwr e, r⟩
    · exact hOut _ _ ⟨0, V2, #[], 0, Nat.zero_le _, rfl, I.frame _ _ _ hP fun b hb o e => old b o e, X2.trans (.keeps (V := V2) (s := s2) old), S2.keeps old, .refl V2, hD, by simpa using Reps.nil, fD.2, fun b hb => (hw b hb).2, F4⟩
  have hP4 : P 0 h4 := I.frame _ _ _ hP fun b hb o e => old b o e
  exact codeAny_compStart_list (start _ rfl) (I.self 0 _ _ _ hP4 (start _ rfl))
theorem Ev.comp {C : Cx} {k : Nat} {sc : Scope} {ρ : Asn} {α : Type} (xs : List α) (g : α → Asn) (p : α → Bool) (f : α → D) (fr : Asn) {elt tgt iter : Expr} {ifs : List Expr} {scope : Scope} {pos : Pos}
    (hIt : ItE C k sc ρ iter tgt (xs.map g)) (W : Sees scope sc ρ fr) (hg : ∀ x ∈ xs, ∀ q ∈ g x, scope.names.lookup (nm q.1) = some .local)
    (ht : ∀ x ∈ xs, TstL C k (relabelS scope sc) (g x ++ fr) ifs (p x)) (hel : ∀ x ∈ xs, p x = true → Ev C k (relabelS scope sc) (g x ++ fr) elt (f x)) (hsz : xs.length ≤ sizeLine)
    (hs : ∀ env x, foldedSetIterable iter env x = pure x := by intro _ _; rfl) : Ev C k sc ρ (.ListComp elt [⟨tgt, iter, ifs, 0⟩] scope pos) (.list ((xs.filter p).map f)) := fun env A V s he hr S F E Q q => by
  refine hid fun G hG => ?_
  obtain ⟨cl, hc, h1, h2⟩ := closure_ok (env := env) (scope := scope) fun x hx hf => by
    have := W.free x hx hf
    rw [← he] at this
    exact F.has _ this
  refine hG ?_
  rw [eval_ListComp]
  refine wpAny_comprehension_free (use := Option.none) rfl (hs env) hc W.kind W.loc (comp_core hIt W hg ht hel hsz he hr S F h1 h2 fun Dd Cc V' s' ys n X' S' hD hR hVD hVC fD fC hDC hn => ?_)
  obtain ⟨m, hn⟩ := hn
  refine ⟨m, hn, fun h' hs' => ?_⟩
  have S'' : St C V' { s' with heap := h' } := S'.but (fun a => a = Cc) (fun b o hb e => (hs'.2 b hb).trans e) (fun b hb => hb ▸ hVC) (fun q => by obtain ⟨ps, h', _⟩ := S.tab; rw [q, fC] at h'; cases h') rfl rfl
  have X'' : Ext V s V' { s' with heap := h' } := ⟨X'.mono, X'.same, fun a o ha e => (hs'.2 a fun q => by rw [q, fC] at e; cases e).trans (X'.keep a o ha e), fun o e => let ⟨ps, h, _⟩ := S''.tab; ⟨_, h⟩⟩
  have hD' : h'.get? Dd = some (listO ys n) := (hs'.2 _ hDC).trans hD
  have mono : VLe V' (fun a => if a = Dd then some (listO ys n) else V' a) := fun a o e => by
    by_cases ha : a = Dd
    · rw [ha, hVD] at e; cases e
    · simp only [if_neg ha]; exact e
  refine q _ (fun a => if a = Dd then some (listO ys n) else V' a) _ ⟨X''.mono.trans mono, fun a o e => ?_, X''.keep, X''.tab⟩ ⟨fun b o e => mono _ _ (S''.base b o e), fun b o e => ?_, S''.tab.at mono fun _ e => e, ?_, S''.gens, S''.os, S''.tk⟩ ?_
  · have ha : a ≠ Dd := fun q => by rw [q, fD] at e; cases e
    simp only [if_neg ha]; exact X''.same a o e
  · by_cases hb : b = Dd
    · subst hb; simp only [if_true] at e; cases e; exact hD'
    · simp only [if_neg hb] at e; exact S''.sub b o e
  · have : tabA ≠ Dd := fun q => by obtain ⟨ps, h', _⟩ := S.tab; rw [q, fD] at h'; cases h'
    simp only [if_neg this]; exact S''.tabV
  · exact Reps.list (vs := ys.toList) (.of (n := n) (by simp)) (hR.mono mono)
structure Fresh (env : Env) (s0 : Shared) : Prop where
  loc : s0.heap.get? env.locals = none
  cell : ∀ x c, env.cells.lookup x = some c → s0.heap.get? c = none
noncomputable def hidden (env : Env) (h : Heap) : Heap := hideAll h (env.locals :: env.cells.map (·.2))
theorem mem_cells {l : List (PySem.Str × Addr)} {x : PySem.Str} {c : Addr} (h : l.lookup x = some c) : c ∈ l.map (·.2) := by
  induction l with
  | nil => cases h
  | cons a r ih =>
    obtain ⟨n, b⟩ := a
    rw [List.lookup_cons] at h
    cases hx : x == n with
    | true => rw [hx] at h; cases h; exact List.mem_cons_self
    | false => rw [hx] at h; exact List.mem_cons_of_mem _ (ih h)
section
variable {C : Cx} {A : Around} {V V' V'' V0 : View} {s s' s'' s0 : Shared} {env : Env} {ρ ρ' : Asn}
theorem hidden_of {h : Heap} {a : Addr} {o : Obj} (e : (hidden env h).get? a = some o) : h.get? a = some o := of_hideAll _ e
theorem hidden_get {h : Heap} {a : Addr} {o : Obj} (e : h.get? a = some o) (h1 : a ≠ env.locals) (h2 : a ∉ env.cells.map (·.2)) : (hidden env h).get? a = some o := hideAll_get _ e fun q => (List.mem_cons.mp q).elim h1 h2
theorem Fresh.hidden {h : Heap} {g d t os} : Fresh env ⟨hidden env h, g, d, t, os⟩ := ⟨hideAll_none _ List.mem_cons_self, fun x c hc => hideAll_none _ (List.mem_cons_of_mem _ (mem_cells hc))⟩
structure CellsOnce (env : Env) : Prop where
  once : ∀ c ∈ env.cells.map (·.2), ∃ x, env.cells.lookup x = some c
  own : ∀ x c, env.cells.lookup x = some c → env.scope.names.lookup x = some .cell
theorem Ext.hide (S : St C V s) : Ext V { s with heap := hidden env s.heap } V s :=
  ⟨.refl V, fun _ _ _ => rfl, fun a o _ e => hidden_of e, fun o e => ⟨o, hidden_of e⟩⟩
theorem Ext.unhide (S : St C V s) (F : Frm C env ρ V s.heap) (O : CellsOnce env) (X : Ext V0 s0 V s) (f : Fresh env s0) (Y : Ext V { s with heap := hidden env s.heap } V' s') : Ext V0 s0 V' s' := by
  have hn : ∀ a o, s0.heap.get? a = some o → a ≠ env.locals ∧ a ∉ env.cells.map (·.2) := fun a o e => by
    refine ⟨fun q => ?_, fun q => ?_⟩
    · rw [q, f.loc] at e; cases e
    · obtain ⟨x, hx⟩ := O.once a q
      rw [f.cell x a hx] at e; cases e
  refine ⟨X.mono.trans Y.mono, fun a o e => ?_, fun a o ha e => ?_, fun o e => ?_⟩
  · by_cases ha : a = tabA
    · subst ha
      obtain ⟨o', e'⟩ := X.tab o e
      exact (Y.same _ _ (hidden_get e' (hn _ _ e).1 (hn _ _ e).2)).trans (X.same _ _ e)
    · exact (Y.same _ _ (hidden_get (X.keep a o ha e) (hn a o e).1 (hn a o e).2)).trans (X.same _ _ e)
  · exact Y.keep a o ha (hidden_get (X.keep a o ha e) (hn a o e).1 (hn a o e).2)
  · obtain ⟨o', e'⟩ := X.tab o e
    exact Y.tab o' (hidden_get e' (hn _ _ e).1 (hn _ _ e).2)
end
noncomputable def ExT (C : Cx) (k : Nat) (sc : Scope) (ρ : Asn) (t : Env → Sem Flow) (Pn : Asn → Prop) (Pr : D → Prop) : Prop :=
  ∀ (env : Env) (A : Around) (V : View) (s : Shared) (V0 : View) (s0 : Shared), env.scope = sc → Room k A → St C V s → Frm C env ρ V s.heap → CellsOnce env → Ext V0 s0 V s → Fresh env s0 →
    ∀ (E : Value → Shared → Prop) (Q : Flow → Shared → Prop),
      (∀ ρ' V' s', Ext V0 s0 V' s' → St C V' s' → Frm C env ρ' V' s'.heap → Pn ρ' → Q .next s') →
      (∀ v d V' s', Ext V0 s0 V' s' → St C V' s' → Rep V' v d → Pr d → Q (.ret v) s') → wpAny C.M A (t env) Q E s
noncomputable abbrev Ex1 (C : Cx) (k : Nat) (sc : Scope) (ρ : Asn) (st : Stmt) (Pn : Asn → Prop) (Pr : D → Prop) : Prop := ExT C k sc ρ (exec st) Pn Pr
noncomputable abbrev Ex (C : Cx) (k : Nat) (sc : Scope) (ρ : Asn) (ss : List Stmt) (Pn : Asn → Prop) (Pr : D → Prop) : Prop := ExT C k sc ρ (execs ss) Pn Pr
section
variable {C : Cx} {k : Nat} {sc : Scope} {ρ : Asn} {Pn : Asn → Prop} {Pr : D → Prop}
theorem Ex.nil (h : Pn ρ) : Ex C k sc ρ [] Pn Pr := fun env A V s V0 s0 he hr S F O X f E Q qn qr => wpAny_execs_nil (qn ρ V s X S F h)
theorem Ex.cons {st : Stmt} {ss : List Stmt} {P1 : Asn → Prop} (h1 : Ex1 C k sc ρ st P1 Pr) (h2 : ∀ ρ', P1 ρ' → Ex C k sc ρ' ss Pn Pr) : Ex C k sc ρ (st :: ss) Pn Pr := fun env A V s V0 s0 he hr S F O X f E Q qn qr =>
  wpAny_execs_cons (h1 env A V s V0 s0 he hr S F O X f E _ (fun ρ' V' s' X' S' F' hp => h2 ρ' hp env A V' s' V0 s0 he hr S' F' O X' f E Q qn qr) fun v d V' s' X' S' r hp => qr v d V' s' X' S' r hp)
theorem Ex.step {st : Stmt} {ss : List Stmt} {ρ' : Asn} (h1 : Ex1 C k sc ρ st (fun r => r = ρ') Pr) (h2 : Ex C k sc ρ' ss Pn Pr) : Ex C k sc ρ (st :: ss) Pn Pr := Ex.cons h1 fun _ e => e ▸ h2
theorem ExT.mono {t : Env → Sem Flow} {Pn' : Asn → Prop} {Pr' : D → Prop} (h : ExT C k sc ρ t Pn Pr) (hn : ∀ ρ', Pn ρ' → Pn' ρ') (hr : ∀ d, Pr d → Pr' d) : ExT C k sc ρ t Pn' Pr' := fun env A V s V0 s0 he hro S F O X f E Q qn qr =>
  h env A V s V0 s0 he hro S F O X f E Q (fun ρ' V' s' X' S' F' hp => qn ρ' V' s' X' S' F' (hn _ hp)) fun v d V' s' X' S' r hp => qr v d V' s' X' S' r (hr _ hp)
theorem Ext.store {V V0 : View} {s s0 : Shared} {env : Env} {b : Asn} (X : Ext V0 s0 V s) (f : Fresh env s0) (S' : St C V s') (h : ∀ a, ¬ Tgt env b a → s'.heap.get? a = s.heap.get? a) : Ext V0 s0 V s' := by
  refine ⟨X.mono, X.same, fun a o ha e => (h a fun q => ?_).trans (X.keep a o ha e), fun o e => let ⟨ps, h, _⟩ := S'.tab; ⟨_, h⟩⟩
  rcases q with rfl | ⟨p, _, _, hc⟩
  · rw [f.loc] at e; cases e
  · rw [f.cell _ _ hc] at e; cases e
theorem Ex1.assign {i : Nat} {x : PySem.Str} {p pos : Pos} {e : Expr} {d : D} (hx : nm i = x) (h : Ev C k sc ρ e d) (hk : sc.names.lookup x = some .local ∨ sc.names.lookup x = some .cell)
    (hs : ∀ env : Env, env.scope = sc → swapsWithSole [.Name x p] e pos.line env = pure false) (hv : ∀ env, swappedStores [.Name x p] e env = pure none := by intro _; rfl) :
    Ex1 C k sc ρ (.Assign [.Name x p] e pos) (fun r => r = (i, d) :: ρ) Pr := fun env A V s V0 s0 he hr S F O X f E Q qn qr => by
  subst hx
  have e0 : exec (.Assign [.Name (nm i) p] e pos) env = (do
      standAt pos
      if ← swapsWithSole [.Name (nm i) p] e pos.line env then do
        evalThenUse e env fun v => assignAll v ((assignEach [.Name (nm i) p] env).map (·.2))
        pure .next
      else do
        let v ← eval e env
        assignStores env v (← swappedStores [.Name (nm i) p] e env) ((assignEach [.Name (nm i) p] env).map (·.2))) := rfl
  rw [e0, hs env he, hv env]
  refine wpAny_bind (wpAny_standAt (wpAny_bind (wpAny_pure ?_)))
  simp only [Bool.false_eq_true, if_false]
  refine wpAny_bind (h env A V s he hr S F E _ fun v V1 s1 X1 S1 r => wpAny_bind (wpAny_pure ?_))
  have F1 := F.ext S X1
  show wpAny _ A (do PySem.assign (.Name (nm i) p) env v; pure .next) Q E s1
  refine wpAny_bind (wpAny_assign_Name (F1.store S1 (by rw [he]; exact hk) r fun h' tk k1 k2 S2 F2 => wpAny_pure (qn _ V1 _ (Ext.store (X.trans X1) f S2 k1) S2 F2 rfl)))
theorem Ex1.ret {e : Expr} {d : D} {pos : Pos} (h : Ev C k sc ρ e d) (hp : Pr d) : Ex1 C k sc ρ (.Return (some e) pos) Pn Pr := fun env A V s V0 s0 he hr S F O X f E Q qn qr => by
  rw [exec_Return_some]
  exact wpAny_bind (wpAny_standAt (wpAny_bind (h env A V s he hr S F E _ fun v V1 s1 X1 S1 r => wpAny_pure (qr v d V1 s1 (X.trans X1) S1 r hp))))
theorem Ex1.ite {t : Expr} {b o : List Stmt} {pos : Pos} {c : Bool} (ht : Tst C k sc ρ t c) (h1 : c = true → Ex C k sc ρ b Pn Pr) (h2 : c = false → Ex C k sc ρ o Pn Pr) : Ex1 C k sc ρ (.If t b o pos) Pn Pr := fun env A V s V0 s0 he hr S F O X f E Q qn qr => by
  rw [exec_If]
  refine wpAny_bind (wpAny_standAt (wpAny_bind (ht env A V s he hr S F E _ fun c' V1 s1 X1 S1 hc => ?_)))
  subst hc
  cases c' with
  | true => exact h1 rfl env A V1 s1 V0 s0 he hr S1 (F.ext S X1) O (X.trans X1) f E Q qn qr
  | false => exact h2 rfl env A V1 s1 V0 s0 he hr S1 (F.ext S X1) O (X.trans X1) f E Q qn qr
theorem Ex1.skip {t : Expr} {b : List Stmt} {pos : Pos} (ht : Tst C k sc ρ t false) : Ex1 C k sc ρ (.If t b [] pos) (fun r => r = ρ) Pr := Ex1.ite ht (fun h => by cases h) fun _ => Ex.nil rfl
inductive LInv (C : Cx) (env : Env) (inv : Nat → Asn) (J : Nat → View → Shared → Prop) (P : Nat → Heap → Prop) (N : Nat) (fp wr : List Addr) (V0 V2 : View) (s0 : Shared) (n : Nat) (s' : Shared) : Prop where
  | mk (i : Nat) (V' : View) (hi : i ≤ N) (hn : n = N + 1 - i) (hP : P i s'.heap) (X : Ext V0 s0 V' s') (S : St C V' s') (hV : VLe V2 V') (hw : ∀ b ∈ wr, V' b = none) (F : Frm C env (inv i) V' s'.heap) (hJ : J i V' s') (hal : ∀ b ∈ fp, ∃ o, s'.heap.get? b = some o) :
    LInv C env inv J P N fp wr V0 V2 s0 n s'
theorem Ex1.for {α : Type} (xs : List α) (g : α → Asn) (inv : Nat → Asn) (J : Nat → Prop) {tgt iter : Expr} {body : List Stmt} {pos : Pos} (hIt : ItE C k sc ρ iter tgt (xs.map g))
    (hg : ∀ x ∈ xs, ∀ q ∈ g x, sc.names.lookup (nm q.1) = some .local ∨ sc.names.lookup (nm q.1) = some .cell) (h0 : Asn.Le (inv 0) ρ) (J0 : J 0)
    (hb : ∀ i (h : i < xs.length), J i → Ex C k sc (g xs[i] ++ inv i) body (fun ρ' => Asn.Le (inv (i + 1)) ρ' ∧ J (i + 1)) Pr) (hend : J xs.length → Pn (inv xs.length))
    (hs : ∀ env x, foldedSetIterable iter env x = pure x := by intro _ _; rfl) : Ex1 C k sc ρ (.For tgt iter body [] pos) Pn Pr := fun env A V s V0 s0 he hr S F O X f E Q qn qr => by
  refine wpAny_For (hIt env A V s he hr S F E _ fun it V2 s2 fp wr P X2 S2 I hP hw hfp hal => ?_) (hs env)
  have F2 := F.ext S X2
  have own : ∀ a, (a = env.locals ∨ a ∈ env.cells.map (·.2)) → a ∉ fp ∧ a ∉ wr := fun a ha => by
    have h1 : (∃ o, s.heap.get? a = some o) ∧ V2 a = none := by
      rcases ha with rfl | ha
      · refine hid fun G hG => ?_
        obtain ⟨m, ⟨o, es, ep, e, _⟩, _⟩ := F.ns
        refine hG ?_
        exact ⟨⟨o, e⟩, F2.locFree⟩
      · refine hid fun G hG => ?_
        obtain ⟨x, hx⟩ := O.once a ha
        obtain ⟨_, v, ⟨o, e, _⟩, _⟩ := F.cells x a hx
        refine hG ?_
        exact ⟨⟨o, e⟩, (F2.cells x a hx).1.resolve_right fun q => q (O.own x a hx)⟩
    obtain ⟨⟨o, e⟩, h2⟩ := h1
    have h3 : a ∉ fp := fun hm => by
      rcases hfp a hm with h | h
      · rw [h2] at h; cases h
      · rw [h.1] at e; cases e
    exact ⟨h3, fun hm => h3 (I.sub _ hm)⟩
  have ownT : ∀ b a, Tgt env b a → a = env.locals ∨ a ∈ env.cells.map (·.2) := fun b a h => h.imp id fun ⟨p, _, _, hc⟩ => mem_cells hc
  refine codeAny_forLoop_any (LInv C env inv (fun i _ _ => J i) P xs.length fp wr V0 V2 s0) (fun n s' hI => ?_) (xs.length + 1) ?_
  · obtain ⟨i, V', hi, rfl, hPi, X', S', hV', hVw, F', hJ, hal'⟩ := hI
    by_cases hlt : i < xs.length
    · have hb' : (xs.map g)[i]? = some (g xs[i]) := by rw [List.getElem?_map, List.getElem?_eq_getElem hlt]; rfl
      have hx : xs[i] ∈ xs := List.getElem_mem hlt
      refine wpAny_mono (I.step i _ hb' env (inv i) V' s' _ (fun s₂ => wpAny C.M A (execs body env) (fun f s₃ => match f with
            | .next | .cont => ∃ m, m < xs.length + 1 - i ∧ LInv C env inv (fun i _ _ => J i) P xs.length fp wr V0 V2 s0 m s₃
            | .brk => Q .next s₃
            | .ret v => Q (.ret v) s₃) _ s₂)
        hV' S' hVw hPi F' (fun a ha => (own a (ownT _ a ha)).1) (fun x c hc => (own c (.inr (mem_cells hc))).2) (fun q hq => by rw [he]; exact hg _ hx q hq) fun s3 hP3 S3 F3 hk3 hl3 => ?_)
        (fun r s₁ h => by obtain ⟨v, rfl, h⟩ := h; exact h) fun _ _ e => e
      have X3 : Ext V0 s0 V' s3 := ⟨X'.mono, X'.same, fun a o ha e => hk3 a o (fun hm => by
          have h1 := (hw a hm).1
          rw [X.keep a o ha e] at h1; cases h1) (fun hT => by
          rcases ownT _ a hT with rfl | hc
          · rw [f.loc] at e; cases e
          · obtain ⟨x, hx⟩ := O.once a hc
            rw [f.cell x a hx] at e; cases e) (X'.keep a o ha e), fun o e => let ⟨ps, h, _⟩ := S3.tab; ⟨_, h⟩⟩
      have fpne : ∀ b ∈ fp, b ≠ tabA := fun b hb q => by
        subst q
        rcases hfp _ hb with h | h
        · rw [S2.tabV] at h; cases h
        · obtain ⟨ps, h', _⟩ := S.tab; rw [h.1] at h'; cases h'
      have hal3 : ∀ b ∈ fp, ∃ o, s3.heap.get? b = some o := fun b hb => by
        by_cases hbw : b ∈ wr
        · exact I.alive _ _ hP3 b hbw
        · obtain ⟨o, e⟩ := hal' b hb; exact hl3 b o hbw e
      refine hb i hlt hJ env A V' s3 V' { s3 with heap := hidden env s3.heap } he hr S3 F3 O (Ext.hide S3) .hidden _ _ (fun ρ' V4 s4 X4 S4 F4 hp => ?_) fun v d V4 s4 X4 S4 r hp => qr v d V4 s4 (Ext.unhide S3 F3 O X3 f X4) S4 r hp
      have keep4 : ∀ b ∈ fp, ∀ o, s3.heap.get? b = some o → s4.heap.get? b = some o := fun b hb o e =>
        X4.keep b o (fpne b hb) (hidden_get e (fun q => (own b (.inl q)).1 hb) fun q => (own b (.inr q)).1 hb)
      refine ⟨xs.length + 1 - (i + 1), by lia, i + 1, V4, hlt, rfl, I.frame _ _ _ hP3 keep4, Ext.unhide S3 F3 O X3 f X4, S4, hV'.trans X4.mono, fun b hbw => ?_, F4.le hp.1, hp.2, fun b hb => let ⟨o, e⟩ := hal3 b hb; ⟨o, keep4 b hb o e⟩⟩
      obtain ⟨o, e⟩ := I.alive _ _ hP3 b hbw
      rw [X4.same b o (hidden_get e (fun q => (own b (.inl q)).2 hbw) fun q => (own b (.inr q)).2 hbw)]
      exact hVw b hbw
    · have hie : i = xs.length := by lia
      subst hie
      refine wpAny_mono (I.done V' s' _ (fun s₁ => Q .next s₁) S' hVw (by rw [List.length_map]; exact hPi) fun s3 S3 hk3 => ?_) (fun r s₁ h => by obtain ⟨rfl, h⟩ := h; exact wpAny_execs_nil h) fun _ _ e => e
      have X3 : Ext V0 s0 V' s3 := ⟨X'.mono, X'.same, fun a o ha e => hk3 a o (fun hm => by
          have h1 := (hw a hm).1
          rw [X.keep a o ha e] at h1; cases h1) (X'.keep a o ha e), fun o e => let ⟨ps, h, _⟩ := S3.tab; ⟨_, h⟩⟩
      exact qn _ V' s3 X3 S3 (F'.stay (fun o e => hk3 _ o (own _ (.inl rfl)).2 e) fun x c o hc e => hk3 _ o (own _ (.inr (mem_cells hc))).2 e) (hend hJ)
  · exact ⟨0, V2, Nat.zero_le _, rfl, hP, X.trans X2, S2, .refl V2, fun b hb => (hw b hb).2, F2.le h0, J0, hal⟩
end
theorem zip_get : ∀ {ids : List Nat} {ds : List D} {i : Nat} {d : D}, Asn.get (ids.zip ds) i = some d → ∃ j : Nat, ids[j]? = some i ∧ ds[j]? = some d
  | [], _, _, _, h => by simp [Asn.get] at h
  | _ :: _, [], _, _, h => by simp [Asn.get] at h
  | a :: ids, b :: ds, i, d, h => by
    rw [List.zip_cons_cons] at h
    rcases Asn.cons_inv h with ⟨rfl, rfl⟩ | ⟨_, h⟩
    · exact ⟨0, rfl, rfl⟩
    · obtain ⟨j, h1, h2⟩ := zip_get h
      exact ⟨j + 1, by simpa using h1, by simpa using h2⟩
theorem bindL_skip {kf : PySem.Str → Option NameKind} {x : PySem.Str} : ∀ {bs : List (PySem.Str × Value)} {m : PySem.Str → Option Value}, (∀ p ∈ bs, p.1 ≠ x) → bindL kf bs m x = m x
  | [], _, _ => rfl
  | (n, v) :: r, m, h => by
    unfold bindL
    rw [bindL_skip fun p hp => h p (List.mem_cons_of_mem _ hp)]
    split
    · exact if_neg fun (e : x = n) => h (n, v) List.mem_cons_self e.symm
    · rfl
theorem bindC_skip {kf : PySem.Str → Option NameKind} {x : PySem.Str} : ∀ {bs : List (PySem.Str × Value)} {m : PySem.Str → Option Value}, (∀ p ∈ bs, p.1 ≠ x) → bindC kf bs m x = m x
  | [], _, _ => rfl
  | (n, v) :: r, m, h => by
    unfold bindC
    rw [bindC_skip fun p hp => h p (List.mem_cons_of_mem _ hp)]
    split
    · rfl
    · exact if_neg fun (e : x = n) => h (n, v) List.mem_cons_self e.symm
theorem zip_fst {ids : List Nat} {vs : List Value} {p : PySem.Str × Value} (h : p ∈ (ids.map nm).zip vs) : ∃ i ∈ ids, p.1 = nm i := by
  have := (List.of_mem_zip h).1
  obtain ⟨i, hi, e⟩ := List.mem_map.mp this
  exact ⟨i, hi, e.symm⟩
theorem bindL_get {kf : PySem.Str → Option NameKind} : ∀ {ids : List Nat} {vs : List Value} {m : PySem.Str → Option Value} {i j : Nat} {v : Value}, ids.Nodup → ids[j]? = some i → vs[j]? = some v → kf (nm i) = some .local → bindL kf ((ids.map nm).zip vs) m (nm i) = some v
  | [], _, _, _, _, _, _, h, _, _ => by simp at h
  | _ :: _, [], _, _, _, _, _, _, h, _ => by simp at h
  | a :: ids, b :: vs, m, i, j, v, hn, hi, hv, hk => by
    rw [List.map_cons, List.zip_cons_cons]
    unfold bindL
    cases j with
    | zero =>
      simp at hi hv; subst hi; subst hv
      rw [if_pos hk, bindL_skip]
      · simp
      · intro p hp
        obtain ⟨i', hi', e⟩ := zip_fst hp
        rw [e]; intro q
        exact (List.nodup_cons.mp hn).1 (nm_inj q ▸ hi')
    | succ j => exact bindL_get (List.nodup_cons.mp hn).2 (by simpa using hi) (by simpa using hv) hk
theorem bindC_get {kf : PySem.Str → Option NameKind} : ∀ {ids : List Nat} {vs : List Value} {m : PySem.Str → Option Value} {i j : Nat} {v : Value}, ids.Nodup → ids[j]? = some i → vs[j]? = some v → kf (nm i) = some .cell → bindC kf ((ids.map nm).zip vs) m (nm i) = some v
  | [], _, _, _, _, _, _, h, _, _ => by simp at h
  | _ :: _, [], _, _, _, _, _, _, h, _ => by simp at h
  | a :: ids, b :: vs, m, i, j, v, hn, hi, hv, hk => by
    rw [List.map_cons, List.zip_cons_cons]
    unfold bindC
    cases j with
    | zero =>
      simp at hi hv; subst hi; subst hv
      rw [if_neg (by rw [hk]; nofun), bindC_skip]
      · simp
      · intro p hp
        obtain ⟨i', hi', e⟩ := zip_fst hp
        rw [e]; intro q
        exact (List.nodup_cons.mp hn).1 (nm_inj q ▸ hi')
    | succ j => exact bindC_get (List.nodup_cons.mp hn).2 (by simpa using hi) (by simpa using hv) hk
structure DefOk (scope : Scope) (ids : List Nat) : Prop where
  kind : scope.kind = .function
  co : scope.isCoroutine = false
  gen : scope.isGenerator = false
  nodup : ids.Nodup
  params : ∀ i ∈ ids, scope.names.lookup (nm i) = some .local ∨ (scope.names.lookup (nm i) = some .cell ∧ ((cellsFrom 0 scope.names []).lookup (nm i)).isSome = true)
  once : ((cellsFrom 0 scope.names []).map (·.1)).Nodup
  cells : ∀ x, scope.names.lookup x = some .cell → x ∈ (cellsFrom 0 scope.names []).map (·.1)
  cellk : ∀ x ∈ (cellsFrom 0 scope.names []).map (·.1), scope.names.lookup x = some .cell
  nofree : ∀ x ∈ scope.names, x.2 ≠ .free
theorem cells_mem : ∀ {names : List (PySem.Str × NameKind)} {n : Nat} {acc : List (PySem.Str × Addr)} {x : PySem.Str}, (x, NameKind.cell) ∈ names ∨ x ∈ acc.map (·.1) → x ∈ (cellsFrom n names acc).map (·.1)
  | [], _, _, _, h => h.elim (fun q => by cases q) id
  | (y, k) :: r, n, acc, x, h => by
    unfold cellsFrom
    by_cases hk : (k == NameKind.cell) = true
    · rw [if_pos hk]
      refine cells_mem ?_
      rcases h with h | h
      · rcases List.mem_cons.mp h with e | h
        · cases e; exact .inr (by simp)
        · exact .inl h
      · exact .inr (by simp [h])
    · rw [if_neg hk]
      refine cells_mem ?_
      rcases h with h | h
      · rcases List.mem_cons.mp h with e | h
        · cases e; exact absurd rfl hk
        · exact .inl h
      · exact .inr h
theorem lookup_isSome_of_mem {l : List (PySem.Str × Addr)} {x : PySem.Str} (h : x ∈ l.map (·.1)) : ∃ c, l.lookup x = some c := by
  induction l with
  | nil => cases h
  | cons a r ih =>
    obtain ⟨n, c⟩ := a
    rw [List.lookup_cons]
    cases hx : x == n with
    | true => exact ⟨c, rfl⟩
    | false =>
      rcases List.mem_cons.mp h with e | h
      · simp at e; simp [e] at hx
      · exact ih h
theorem CallR.fn {C : Cx} {k : Nat} {f : Addr} {name qual : PySem.Str} {params : Arguments} {body : List Stmt} {scope : Scope} {dV kV doc pm cdv ct oc : Value} {an od : Option Addr} {osl : Array (Option Value)} {ids : List Nat} {ds : List D} {d : D}
    (hl : C.K.lookup f = some ⟨oc, od, .func (fnOf name qual params body scope dV kV doc pm an cdv ct), osl⟩) (hcd : codeIn C.K cdv qual = true) (hlen : ids.length = ds.length)
    (hb : ∀ vs : List Value, vs.length = ids.length → bindArgs (fnOf name qual params body scope dV kV doc pm an cdv ct) ⟨vs, []⟩ = pure ((ids.map nm).zip vs)) (ok : DefOk scope ids)
    (h : Ex C k scope (ids.zip ds) body (fun _ => d = .none) (fun d' => d' = d)) : CallR C (k + 2) (.ref f) ds d := fun A V s vs hr S rs E Q q => by
  have ho := S.sub _ _ (S.base _ _ (C.inK _ _ hl))
  have hlim : s.heap.NoLimit := by
    obtain ⟨mc, ⟨o, es, ep, e, r⟩, h2⟩ := C.nolimit
    exact ⟨mc, ⟨o, es, ep, S.sub _ _ (S.base _ _ e), r⟩, h2⟩
  have hrec : s.heap.CodeRec cdv qual := (codeRec_of C.inK hcd).keeps fun b o e => S.sub _ _ (S.base _ _ e)
  refine wpAny_call (codeAny_call_function hr.depth ho rfl ok.co ok.gen rfl hrec ?_)
  rw [hb vs (rs.1.trans hlen.symm)]
  refine wpAny_pure ?_
  have bkind : ∀ n, ∀ x ∈ (ids.map nm).zip vs, scope.names.lookup x.1 = some .local ∨ (scope.names.lookup x.1 = some .cell ∧ ((cellsFrom n scope.names []).lookup x.1).isSome = true) := fun n x hx => by
    obtain ⟨i, hi, e⟩ := zip_fst hx
    rw [e]
    refine (ok.params i hi).imp id fun ⟨h1, _⟩ => ⟨h1, ?_⟩
    obtain ⟨c, hc⟩ := lookup_isSome_of_mem (cells_mem (n := n) (acc := []) (.inl (mem_of_lookupN h1)))
    rw [hc]; rfl
  refine wp_toks' S.tk (wpAny_newFunctionEnv_cells ok.kind (bkind _) fun env' he' s' x hn => ?_)
  have hes : env'.scope = scope := by rw [he']; rfl
  have hel : env'.locals = s.heap.objs.size := by rw [he']; rfl
  have hec : env'.cells = cellsFrom (s.heap.objs.size + 1) scope.names [] := by rw [he']; rfl
  obtain ⟨h', tk, rfl, hk⟩ := x.done
  refine ⟨hlim.keeps hk, codeAny_func ?_⟩
  have S' : St C V { s with heap := h', toks := tk } := S.keeps hk hn
  have X' : Ext V s V { s with heap := h', toks := tk } := .keeps hk
  have hnd : (env'.cells.map (·.1)).Nodup := by
    rw [hec, cellsFrom_names scope.names (s.heap.objs.size + 1) 0 [] [] rfl]; exact ok.once
  have fr : Fresh env' s := ⟨by rw [hel]; exact get_size, fun y c hc => by
    cases q : s.heap.get? c with
    | none => rfl
    | some o =>
      have h1 : @LT.lt Nat _ env'.locals c := x.above y c (mem_of_lookup hc)
      have h2 := lt_of_get q
      rw [hel] at h1
      lia⟩
  have vnone : ∀ a, s.heap.get? a = none → V a = none := fun a ha => by
    cases q : V a with
    | none => rfl
    | some o => rw [S.sub _ _ q] at ha; cases ha
  have F' : Frm C env' (ids.zip ds) V h' := by
    refine ⟨by rw [hes]; exact ok.kind, by rw [he']; rfl, by rw [he']; rfl, ⟨_, x.toInCall.ns, fun i e hi hk => ?_⟩, vnone _ fr.loc, fun y c hc => ⟨.inl (vnone _ (fr.cell y c hc)), _, x.cell y c hc, fun i e hi hk he => ?_⟩, fun y hy => ?_, fun y z c hy hz => ?_, fun i e hi => ?_⟩
    · obtain ⟨j, h1, h2⟩ := zip_get hi
      have hj : j < vs.length := by have := (List.getElem?_eq_some_iff.mp h2).1; rw [rs.1]; exact this
      exact ⟨vs[j], bindL_get ok.nodup h1 (List.getElem?_eq_getElem hj) hk, rs.2 j _ _ (List.getElem?_eq_getElem hj) h2⟩
    · subst hi
      obtain ⟨j, h1, h2⟩ := zip_get he
      have hj : j < vs.length := by have := (List.getElem?_eq_some_iff.mp h2).1; rw [rs.1]; exact this
      have hk' : env'.kindOf (nm i) = some .cell := by
        rcases hk with hk | hk
        · exact hk
        · rw [hes] at hk; exact absurd rfl (ok.nofree _ (mem_of_lookupN hk))
      exact ⟨vs[j], bindC_get ok.nodup h1 (List.getElem?_eq_getElem hj) hk', rs.2 j _ _ (List.getElem?_eq_getElem hj) h2⟩
    · rw [hes] at hy
      rcases hy with hy | hy
      · rw [hec]; exact lookup_isSome_of_mem (cells_mem (.inl (mem_of_lookupN hy)))
      · exact absurd rfl (ok.nofree _ (mem_of_lookupN hy))
    · exact name_of_addr x.apart (mem_of_lookup hy) (mem_of_lookup hz)
    · obtain ⟨j, h1, _⟩ := zip_get hi
      rw [hes]
      exact (ok.params i (List.mem_of_getElem? h1)).imp id fun h => .inl h.1
  have once : CellsOnce env' := ⟨fun c hc => by
    obtain ⟨⟨y, c'⟩, hm, rfl⟩ := List.mem_map.mp hc
    exact ⟨y, lookup_of_mem_nodup hnd hm⟩, fun y c hc => by
    rw [hes]
    refine ok.cellk y ?_
    rw [← cellsFrom_names scope.names (s.heap.objs.size + 1) 0 [] [] rfl, ← hec]
    exact List.mem_map.mpr ⟨(y, c), mem_of_lookup hc, rfl⟩⟩
  have hr' : Room k (A.deeper env') := (hr.mono (Nat.le_succ _)).deeper
  exact h env' (A.deeper env') V { s with heap := h', toks := tk } V s hes hr' S' F' once X' fr _ _ (fun ρ' V'' s'' X'' S'' _ hd => q _ V'' s'' X'' S'' (hd ▸ .none)) fun v d' V'' s'' X'' S'' r hd => q v V'' s'' X'' S'' (hd ▸ r)
theorem CallR.mono {C : Cx} {k k' : Nat} {f : Value} {ds : List D} {d : D} (h : CallR C k' f ds d) (hk : k' ≤ k) : CallR C k f ds d := fun A V s vs hr S rs => h A V s vs (hr.mono hk) S rs
section
variable {C : Cx} {k : Nat} {sc : Scope} {ρ : Asn}
theorem Op2.addI {a b : Int} : Op2 C k (binaryOp .Add) (.int a) (.int b) (.int (a + b)) := fun A V s v1 v2 hr S r1 r2 => by
  obtain ⟨_, rfl⟩ := r1.is; obtain ⟨_, rfl⟩ := r2.is; exact .of_tok S fun E Q q => PyProof.Rows.add_int (q _ _ (.int _ _))
theorem Op2.subI {a b : Int} : Op2 C k (binaryOp .Sub) (.int a) (.int b) (.int (a - b)) := fun A V s v1 v2 hr S r1 r2 => by
  obtain ⟨_, rfl⟩ := r1.is; obtain ⟨_, rfl⟩ := r2.is; exact .of_tok S fun E Q q => PyProof.Rows.sub_int (q _ _ (.int _ _))
theorem Op2.mulI {a b : Int} (h : IntMulOk a b) : Op2 C k (binaryOp .Mult) (.int a) (.int b) (.int (a * b)) := fun A V s v1 v2 hr S r1 r2 => by
  obtain ⟨_, rfl⟩ := r1.is; obtain ⟨_, rfl⟩ := r2.is; exact .of_tok S fun E Q q => PyProof.Rows.mul_int (q _ _ (.int _ _)) h
theorem Op2.modI {a b : Int} (hb : b ≠ 0) : Op2 C k (binaryOp .Mod) (.int a) (.int b) (.int (a.fmod b)) := fun A V s v1 v2 hr S r1 r2 => by
  obtain ⟨_, rfl⟩ := r1.is; obtain ⟨_, rfl⟩ := r2.is; exact .of_tok S fun E Q q => PyProof.Rows.mod_int hb (q _ _ (.int _ _))
theorem Op2.divI {a b : Int} (hb : b ≠ 0) (hp : Builtin.divisionGoesByPylong a b = false) : Op2 C k (binaryOp .FloorDiv) (.int a) (.int b) (.int (a.fdiv b)) := fun A V s v1 v2 hr S r1 r2 => by
  obtain ⟨_, rfl⟩ := r1.is; obtain ⟨_, rfl⟩ := r2.is; exact .of_tok S fun E Q q => PyProof.Rows.floordiv_int hb (q _ _ (.int _ _)) (.inl hp)
theorem Op2.powI {a n : Int} (hn : 0 ≤ n) (hsz : (Builtin.Int.intBits a : Int) * n ≤ 2 ^ 27) : Op2 C k (binaryOp .Pow) (.int a) (.int n) (.int (a ^ n.toNat)) := fun A V s v1 v2 hr S r1 r2 => by
  obtain ⟨_, rfl⟩ := r1.is; obtain ⟨_, rfl⟩ := r2.is; exact .of_tok S fun E Q q => PyProof.Rows.pow_int hn hsz (q _ _ (.int _ _))
theorem Op2.eqI {a b : Int} : Op2 C k (compareOp .Eq) (.int a) (.int b) (.bool (a == b)) := fun A V s v1 v2 hr S r1 r2 => by
  obtain ⟨_, rfl⟩ := r1.is; obtain ⟨_, rfl⟩ := r2.is; exact .of_tok S fun E Q q => PyProof.Rows.eq_int (q _ s.toks (.bool _))
theorem Op2.neI {a b : Int} : Op2 C k (compareOp .NotEq) (.int a) (.int b) (.bool (a != b)) := fun A V s v1 v2 hr S r1 r2 => by
  obtain ⟨_, rfl⟩ := r1.is; obtain ⟨_, rfl⟩ := r2.is; exact .of_tok S fun E Q q => PyProof.Rows.ne_int (q _ s.toks (.bool _))
theorem Op2.gtI {a b : Int} : Op2 C k (compareOp .Gt) (.int a) (.int b) (.bool (decide (b < a))) := fun A V s v1 v2 hr S r1 r2 => by
  obtain ⟨_, rfl⟩ := r1.is; obtain ⟨_, rfl⟩ := r2.is; exact .of_tok S fun E Q q => PyProof.Rows.gt_int (q _ s.toks (.bool _))
theorem Op2.geI {a b : Int} : Op2 C k (compareOp .GtE) (.int a) (.int b) (.bool (decide (b ≤ a))) := fun A V s v1 v2 hr S r1 r2 => by
  obtain ⟨_, rfl⟩ := r1.is; obtain ⟨_, rfl⟩ := r2.is; exact .of_tok S fun E Q q => PyProof.Rows.ge_int (q _ s.toks (.bool _))
theorem Op2.addS {x y : PySem.Str} (h : x.length + y.length ≤ sizeLine) : Op2 C k (binaryOp .Add) (.str x) (.str y) (.str (x ++ y)) := fun A V s v1 v2 hr S r1 r2 => by
  obtain ⟨_, rfl⟩ := r1.is; obtain ⟨_, rfl⟩ := r2.is; exact .of_tok S fun E Q q => PyProof.Rows.add_str (fun t tk => q _ _ (.str _ _)) h
theorem Op2.eqS {x y : PySem.Str} : Op2 C k (compareOp .Eq) (.str x) (.str y) (.bool (x == y)) := fun A V s v1 v2 hr S r1 r2 => by
  obtain ⟨_, rfl⟩ := r1.is; obtain ⟨_, rfl⟩ := r2.is; exact .of_tok S fun E Q q => PyProof.Rows.eq_str (q _ s.toks (.bool _))
theorem Op2.neS {x y : PySem.Str} : Op2 C k (compareOp .NotEq) (.str x) (.str y) (.bool (x != y)) := fun A V s v1 v2 hr S r1 r2 => by
  obtain ⟨_, rfl⟩ := r1.is; obtain ⟨_, rfl⟩ := r2.is; exact .of_tok S fun E Q q => PyProof.Rows.ne_str (q _ s.toks (.bool _))
theorem Op2.inS {x y : PySem.Str} : Op2 C k (compareOp .In) (.str y) (.str x) (.bool (!(Builtin.Str.occurrences x y 0 x.length 1).isEmpty)) := fun A V s v1 v2 hr S r1 r2 => by
  obtain ⟨_, rfl⟩ := r1.is; obtain ⟨_, rfl⟩ := r2.is; exact .of_tok S fun E Q q => PyProof.Rows.in_str (q _ s.toks (.bool _))
theorem Op2.mulS {x : PySem.Str} {n : Int} (h : MulOk x n) : Op2 C k (binaryOp .Mult) (.str x) (.int n) (.str (Txt.mul x n)) := fun A V s v1 v2 hr S r1 r2 => by
  obtain ⟨_, rfl⟩ := r1.is; obtain ⟨_, rfl⟩ := r2.is; exact .of_tok S fun E Q q => PySem.SB.mul h fun t tk => q _ _ (.str _ _)
theorem Tr.int {i : Int} : Tr C k (.int i) (i != 0) := fun A V s v hr S r => by
  obtain ⟨_, rfl⟩ := r.is; exact .of_tok S fun E Q q => PySem.P.truthy_int (q _ s.toks rfl)
theorem Tr.str {x : PySem.Str} (h : x.length < 2 ^ 62) : Tr C k (.str x) ((x.length : Int) != 0) := fun A V s v hr S r => by
  obtain ⟨_, rfl⟩ := r.is; exact .of_tok S fun E Q q => PySem.P.truthy_str (by lia) (q _ _ rfl)
theorem Ev.meth {o : Expr} {name : PySem.Str} {apos pos : Pos} {args : List Expr} {d0 d : D} {ds : List D} {id : String} (ho : Ev C k sc ρ o d0)
    (hm : ∀ (A : Around) (V : View) (s : Shared) (v : Value) (pl : Sem Bool) (E : Value → Shared → Prop) (Q : Value × List Value → Shared → Prop), Rep V v d0 → Q (.builtin id, [v]) s → wpAny C.M A (getMethod v name pl) Q E s)
    (ha : EvL C k sc ρ args ds) (hc : CallR C k (.builtin id) (d0 :: ds) d) (hbase : ∀ env, attributeBase o name env (eval o env) = eval o env := by intro _; rfl)
    (hp : ∀ env pos, (backTo pos (starEach args env)).any (·.1) = false := by intro _ _; rfl) (hlen : args.length < 30 := by decide) (hline : (apos.endLine == pos.line) = true := by rfl) :
    Ev C k sc ρ (.Call (.Attribute o name apos) args [] pos) d := fun env A V s he hr S F E Q q => by
  rw [arm_eval_Call, hbase]
  refine wpAny_bind (ho env A V s he hr S F E _ fun v V1 s1 X1 S1 r1 => wpAny_bind (wpAny_standAt ?_))
  have hform : methodCallForm (args.length + ([] : List Keyword).length) (backTo pos (starEach args env)) (backToKw pos (keywordEach [] env)) = true := by
    have h1 := hp env pos
    unfold methodCallForm
    simp only [Bool.and_eq_true, List.all_eq_true]
    refine ⟨⟨fun x hx => ?_, fun x hx => by cases hx⟩, ?_⟩
    · cases h2 : x.1 with
      | false => rfl
      | true => exact absurd (List.any_eq_true.mpr ⟨x, hx, h2⟩) (by rw [h1]; nofun)
    · have h0 : backToKw pos (keywordEach [] env) = [] := rfl
      rw [h0]; simp; omega
  have hpos : methodCallPos true o env apos pos = pure pos := by unfold methodCallPos; simp [hline]
  unfold methodCall
  rw [hform]
  refine wpAny_bind (wpAny_holding (hm A V1 s1 v _ E _ r1 ?_))
  refine wpAny_bind (wpAny_of_eq hpos ?_)
  exact Yl.callWith (first := [v]) S1 (.inl ⟨_, rfl⟩) (hp env pos) (ha env A V1 s1 pos he hr S1 (F.ext S X1)) (fun vs V2 s2 X2 S2 rs => hc A V2 s2 (v :: vs) hr S2 (.cons (r1.mono X2.mono) rs)) E _ fun u V2 s2 X2 S2 r2 => q u V2 s2 (X1.trans X2) S2 r2
theorem Ev.cast {e : Expr} {d d' : D} (h : Ev C k sc ρ e d) (q : d = d') : Ev C k sc ρ e d' := q ▸ h
noncomputable abbrev sL (l : List Nat) : PySem.Str := ⟨l.toArray⟩
theorem sL_len (l : List Nat) : (sL l).length = l.length := by simp [PySem.Str.length]
theorem sL_append (a b : List Nat) : sL a ++ sL b = sL (a ++ b) := by
  show PySem.Str.append _ _ = _
  simp [PySem.Str.append, sL]
theorem sL_beq (a b : List Nat) : (sL a == sL b) = (a == b) := by
  rw [Bool.eq_iff_iff]; simp [sL]
theorem sL_bne (a b : List Nat) : (sL a != sL b) = (a != b) := by simp only [bne, sL_beq]
theorem sL_of (x : PySem.Str) : x = sL x.cps.toList := by cases x; simp [sL]
theorem strs_vals {V : View} : ∀ {vs : List Value} {ys : List PySem.Str}, Reps V vs (ys.map .str) → ∃ l : List (PySem.Str × Tok), strValues l = vs ∧ l.map (·.1) = ys
  | vs, [], h => by obtain rfl := h.inv_nil; exact ⟨[], rfl, rfl⟩
  | vs, y :: ys, h => by
    obtain ⟨v, vs', rfl, r, h'⟩ := h.inv_cons
    refine Rep.elStr r fun t => ?_
    obtain ⟨l, h1, h2⟩ := strs_vals h'
    exact ⟨(y, t) :: l, by rw [← h1]; rfl, by rw [← h2]; rfl⟩
theorem reps_strs {V : View} : ∀ (l : List (PySem.Str × Tok)), Reps V (strValues l) ((l.map (·.1)).map .str)
  | [] => .nil
  | (y, t) :: l => .cons (.str y t) (reps_strs l)
theorem CallR.join {x : PySem.Str} {ys : List PySem.Str} (h : JoinOk x ys = true) : CallR C k (.builtin "str.join") [.str x, .list (ys.map .str)] (.str (Txt.join x ys)) := fun A V s vs hr S rs => by
  refine Reps.el2 rs fun v u r1 r2 => ?_
  refine Rep.elStr r1 fun t => ?_
  refine Rep.elList r2 fun a ws ha hs => ?_
  obtain ⟨l, rfl, hl⟩ := strs_vals hs
  exact .of_tok S fun E Q q => PySem.SC.join (ha.isList S) hl h fun t' k => q _ _ (.str _ _)
open Builtin Builtin.Str in
theorem split_at {prog : Program} {w : World} {A : Around} {E : Value → Shared → Prop} {s : Shared} {Q : Value → Shared → Prop} {x y : PySem.Str} {t u : Tok} (hy : (y.length == 0) = false)
    (hq : ∀ l k, l.map (·.1) = Txt.split x y → Q (.ref s.heap.objs.size) { s with heap := s.heap.push (listO (strValues l).toArray 0), toks := k })
    (hsz : x.length ≤ sizeLine) (hsz2 : (partsBetween x (occurrences x y 0 x.length (x.length + 1)) y.length).length ≤ sizeLine) :
    wpAny (model prog w) A (PySem.call (.builtin "str.split") [.str x t, .str y u]) Q E s := by
  by_cases h1 : (decide (x.length < y.length) || decide (strKind x < strKind y)) = true
  · exact call_meets F.slot_str_split (typeIs_str _ _ _) F.entry_str_split (F.args_str_split_2 _ _) (meets_str_split_cannot_occur x y t u h1)
      (hq [(x, t)] s.toks (by unfold Txt.split; rw [if_pos h1]; rfl))
  · have h1' := Bool.eq_false_iff.mpr h1
    by_cases hf : (occurrences x y 0 x.length (x.length + 1)).isEmpty = true
    · exact call_meets F.slot_str_split (typeIs_str _ _ _) F.entry_str_split (F.args_str_split_2 _ _) (meets_str_split_not_found x y t u h1' hy hf)
        (hq [(x, t)] s.toks (by unfold Txt.split; rw [if_neg h1, if_pos hf]; rfl))
    · have hf' := Bool.eq_false_iff.mpr hf
      refine call_meets F.slot_str_split (typeIs_str _ _ _) F.entry_str_split (F.args_str_split_2 _ _) (meets_str_split_sep x y t u h1' hy hf' hsz hsz2) ?_
      show wants Q E _ { s with toks := _, heap := s.heap.push { cls := .type "list", data := .seq (strsFrom s.toks (partsBetween x (occurrences x y 0 x.length (x.length + 1)) y.length)).toArray } }
      rw [strsFrom_eq]
      exact hq (numbered s.toks _) _ (by rw [numbered_texts]; unfold Txt.split; rw [if_neg h1, if_neg hf])
theorem CallR.split {x y : PySem.Str} (hy : y.length ≠ 0) (hsz : x.length ≤ 2 ^ 20) : CallR C k (.builtin "str.split") [.str x, .str y] (.list ((Txt.split x y).map .str)) := fun A V s vs hr S rs => by
  refine Reps.el2 rs fun v u r1 r2 => ?_
  refine Rep.elStr r1 fun t => ?_
  refine Rep.elStr r2 fun u => ?_
  refine .of_new S fun E Q q => split_at (by simpa using hy) (fun l n hl => ?_) (by rw [sizeLine_eq]; lia) ?_
  · refine q _ _ n (fun b o e => Heap.get?_push_of_some _ e) ?_
    rw [← hl]
    refine Reps.list (.of (n := 0) ?_) (reps_strs l)
    rw [grow_new get_size]
    exact Heap.get?_push_size _ rfl
  · rw [length_partsBetween, sizeLine_eq]
    have := PySem.StrLaws.occ_length_le x y 0 x.length (x.length + 1)
    lia
theorem CallR.upper {x : PySem.Str} (h : (Txt.upper x).length ≤ sizeLine) : CallR C k (.builtin "str.upper") [.str x] (.str (Txt.upper x)) := fun A V s vs hr S rs => by
  refine Reps.el1 rs fun v r1 => ?_
  refine Rep.elStr r1 fun t => ?_
  exact .of_tok S fun E Q q => PySem.SC.upper (by unfold Builtin.Str.tooLong; simpa using h) (q _ _ (.str _ _))
theorem CallR.lower {x : PySem.Str} (h : (Txt.lower x).length ≤ sizeLine) : CallR C k (.builtin "str.lower") [.str x] (.str (Txt.lower x)) := fun A V s vs hr S rs => by
  refine Reps.el1 rs fun v r1 => ?_
  refine Rep.elStr r1 fun t => ?_
  exact .of_tok S fun E Q q => PySem.SC.lower (by unfold Builtin.Str.tooLong; simpa using h) (q _ _ (.str _ _))
theorem Ev.join {o e : Expr} {apos pos : Pos} {x : PySem.Str} {ys : List PySem.Str} (ho : Ev C k sc ρ o (.str x)) (he : Ev C k sc ρ e (.list (ys.map .str))) (h : JoinOk x ys = true)
    (hst : ∀ env, starEach [e] env = (false, eval e env) :: starEach [] env := by intro _; rfl) (hbase : ∀ env, attributeBase o "join" env (eval o env) = eval o env := by intro _; rfl) (hline : (apos.endLine == pos.line) = true := by rfl) :
    Ev C k sc ρ (.Call (.Attribute o (Str.ofString "join") apos) [e] [] pos) (.str (Txt.join x ys)) :=
  Ev.meth ho (fun A V s v pl E Q r q => by obtain ⟨_, rfl⟩ := r.is; exact PySem.GM.join q) (EvL.cons he .nil hst) (.join h) hbase (fun env pos => by rw [hst]; rfl) (by simp) hline
theorem Ev.split {o e : Expr} {apos pos : Pos} {x y : PySem.Str} (ho : Ev C k sc ρ o (.str x)) (he : Ev C k sc ρ e (.str y)) (hy : y.length ≠ 0) (hsz : x.length ≤ 2 ^ 20)
    (hst : ∀ env, starEach [e] env = (false, eval e env) :: starEach [] env := by intro _; rfl) (hbase : ∀ env, attributeBase o "split" env (eval o env) = eval o env := by intro _; rfl) (hline : (apos.endLine == pos.line) = true := by rfl) :
    Ev C k sc ρ (.Call (.Attribute o (Str.ofString "split") apos) [e] [] pos) (.list ((Txt.split x y).map .str)) :=
  Ev.meth ho (fun A V s v pl E Q r q => by obtain ⟨_, rfl⟩ := r.is; exact PySem.GM.split q) (EvL.cons he .nil hst) (.split hy hsz) hbase (fun env pos => by rw [hst]; rfl) (by simp) hline
theorem Ev.upper {o : Expr} {apos pos : Pos} {x : PySem.Str} (ho : Ev C k sc ρ o (.str x)) (h : (Txt.upper x).length ≤ sizeLine) (hbase : ∀ env, attributeBase o "upper" env (eval o env) = eval o env := by intro _; rfl) (hline : (apos.endLine == pos.line) = true := by rfl) :
    Ev C k sc ρ (.Call (.Attribute o (Str.ofString "upper") apos) [] [] pos) (.str (Txt.upper x)) :=
  Ev.meth ho (fun A V s v pl E Q r q => by obtain ⟨_, rfl⟩ := r.is; exact PySem.GM.upper q) .nil (.upper h) hbase (fun env pos => rfl) (by simp) hline
theorem Ev.lower {o : Expr} {apos pos : Pos} {x : PySem.Str} (ho : Ev C k sc ρ o (.str x)) (h : (Txt.lower x).length ≤ sizeLine) (hbase : ∀ env, attributeBase o "lower" env (eval o env) = eval o env := by intro _; rfl) (hline : (apos.endLine == pos.line) = true := by rfl) :
    Ev C k sc ρ (.Call (.Attribute o (Str.ofString "lower") apos) [] [] pos) (.str (Txt.lower x)) :=
  Ev.meth ho (fun A V s v pl E Q r q => by obtain ⟨_, rfl⟩ := r.is; exact PySem.GM.lower q) .nil (.lower h) hbase (fun env pos => rfl) (by simp) hline
end
noncomputable def mx : List Int → Int
  | [] => 0
  | [a] => a
  | a :: b :: r => if a < mx (b :: r) then mx (b :: r) else a
noncomputable def mn : List Int → Int
  | [] => 0
  | [a] => a
  | a :: b :: r => if mn (b :: r) < a then mn (b :: r) else a
theorem mx_spec : ∀ {l : List Int}, l ≠ [] → mx l ∈ l ∧ ∀ a ∈ l, a ≤ mx l
  | [a], _ => ⟨by simp [mx], by simp [mx]⟩
  | a :: b :: r, _ => by
    obtain ⟨h1, h2⟩ := mx_spec (l := b :: r) (by simp)
    unfold mx
    split
    · exact ⟨List.mem_cons_of_mem _ h1, fun x hx => (List.mem_cons.mp hx).elim (fun e => by subst e; lia) (h2 x)⟩
    · exact ⟨List.mem_cons_self, fun x hx => (List.mem_cons.mp hx).elim (fun e => by subst e; lia) fun hx => by have := h2 x hx; lia⟩
theorem mn_spec : ∀ {l : List Int}, l ≠ [] → mn l ∈ l ∧ ∀ a ∈ l, mn l ≤ a
  | [a], _ => ⟨by simp [mn], by simp [mn]⟩
  | a :: b :: r, _ => by
    obtain ⟨h1, h2⟩ := mn_spec (l := b :: r) (by simp)
    unfold mn
    split
    · exact ⟨List.mem_cons_of_mem _ h1, fun x hx => (List.mem_cons.mp hx).elim (fun e => by subst e; lia) (h2 x)⟩
    · exact ⟨List.mem_cons_self, fun x hx => (List.mem_cons.mp hx).elim (fun e => by subst e; lia) fun hx => by have := h2 x hx; lia⟩
section
variable {C : Cx} {k : Nat} {sc : Scope} {ρ : Asn}
theorem int_vals {V : View} : ∀ {vs : List Value} {ns : List Int}, Reps V vs (ns.map .int) → ∃ l : List (Int × Tok), vs = l.map (fun p => Value.int p.1 p.2) ∧ l.map (·.1) = ns
  | vs, [], h => by obtain rfl := h.inv_nil; exact ⟨[], rfl, rfl⟩
  | vs, n :: ns, h => by
    obtain ⟨v, vs', rfl, r, h'⟩ := h.inv_cons
    refine Rep.elInt r fun t => ?_
    obtain ⟨l, rfl, h2⟩ := int_vals h'
    exact ⟨(n, t) :: l, rfl, by rw [← h2]; rfl⟩
theorem ints_list {V : View} {s : Shared} (S : St C V s) {v : Value} {ns : List Int} (r : Rep V v (.list (ns.map .int))) : ∃ a xs, v = .ref a ∧ s.heap.IsList a (intItems xs) ∧ xs.toList.map (·.1) = ns := by
  refine hid fun G hG => ?_
  obtain ⟨a, vs, rfl, ha, hs⟩ := r.inv_list
  obtain ⟨l, rfl, hl⟩ := int_vals hs
  refine hG ?_
  refine ⟨a, l.toArray, rfl, ?_, hl⟩
  have := ha.isList S
  unfold intItems
  simpa using this
theorem one_arg {id : Value} {d0 d : D} (h : ∀ (A : Around) (V : View) (s : Shared) (v : Value), Room k A → St C V s → Rep V v d0 → Yd C A V s (PySem.call id [v] []) d) : CallR C k id [d0] d := fun A V s vs hr S rs => by
  refine Reps.el1 rs fun v r => ?_
  exact h A V s v hr S r
theorem two_args {id : Value} {d0 d1 d : D} (h : ∀ (A : Around) (V : View) (s : Shared) (v u : Value), Room k A → St C V s → Rep V v d0 → Rep V u d1 → Yd C A V s (PySem.call id [v, u] []) d) : CallR C k id [d0, d1] d := fun A V s vs hr S rs => by
  refine Reps.el2 rs fun v u r r2 => ?_
  exact h A V s v u hr S r r2
theorem CallR.max {ns : List Int} (h : ns ≠ []) : CallR C k (.builtin "max") [.list (ns.map .int)] (.int (mx ns)) := one_arg fun A V s v hr S r => by
  obtain ⟨a, xs, rfl, hl, hx⟩ := ints_list S r
  have hsz : 0 < xs.size := by
    have : xs.size = ns.length := by rw [← hx]; simp
    have := List.length_pos_iff.mpr h
    omega
  refine .of_keep S fun E Q q => max_intList hr.2.2 hl hsz fun v h' tk hv hk => ?_
  obtain ⟨t, rfl⟩ := intItems_at hv
  obtain ⟨h1, h2⟩ := argBest_gt (numAt xs) (xs.size - 1)
  refine q _ h' tk hk ?_
  have e1 : ∀ j, j < xs.size → numAt xs j ∈ ns := fun j hj => by
    rw [← hx]; simp only [numAt, Array.getElem?_eq_getElem hj, Option.map_some, Option.getD_some]
    exact List.mem_map_of_mem (by simp)
  have e2 : ∀ a ∈ ns, a ≤ numAt xs (argBest (fun i j => decide (numAt xs i > numAt xs j)) (xs.size - 1)) := fun a ha => by
    rw [← hx] at ha
    obtain ⟨p, hp, rfl⟩ := List.mem_map.mp ha
    obtain ⟨j, hj, rfl⟩ := Array.mem_iff_getElem.mp (Array.mem_toList_iff.mp hp)
    have := h2 j (by omega)
    simpa only [numAt, Array.getElem?_eq_getElem hj, Option.map_some, Option.getD_some] using this
  have e3 := mx_spec h
  have : numAt xs (argBest (fun i j => decide (numAt xs i > numAt xs j)) (xs.size - 1)) = mx ns := by
    have a1 := e2 _ e3.1
    have a2 := e3.2 _ (e1 (argBest (fun i j => decide (numAt xs i > numAt xs j)) (xs.size - 1)) (by omega))
    omega
  rw [this]; exact .int _ _
theorem CallR.min {ns : List Int} (h : ns ≠ []) : CallR C k (.builtin "min") [.list (ns.map .int)] (.int (mn ns)) := one_arg fun A V s v hr S r => by
  obtain ⟨a, xs, rfl, hl, hx⟩ := ints_list S r
  have hsz : 0 < xs.size := by
    have : xs.size = ns.length := by rw [← hx]; simp
    have := List.length_pos_iff.mpr h
    omega
  refine .of_keep S fun E Q q => min_intList hr.2.2 hl hsz fun v h' tk hv hk => ?_
  obtain ⟨t, rfl⟩ := intItems_at hv
  obtain ⟨h1, h2⟩ := argBest_lt (numAt xs) (xs.size - 1)
  refine q _ h' tk hk ?_
  have e1 : ∀ j, j < xs.size → numAt xs j ∈ ns := fun j hj => by
    rw [← hx]; simp only [numAt, Array.getElem?_eq_getElem hj, Option.map_some, Option.getD_some]
    exact List.mem_map_of_mem (by simp)
  have e2 : ∀ a ∈ ns, numAt xs (argBest (fun i j => decide (numAt xs i < numAt xs j)) (xs.size - 1)) ≤ a := fun a ha => by
    rw [← hx] at ha
    obtain ⟨p, hp, rfl⟩ := List.mem_map.mp ha
    obtain ⟨j, hj, rfl⟩ := Array.mem_iff_getElem.mp (Array.mem_toList_iff.mp hp)
    have := h2 j (by omega)
    simpa only [numAt, Array.getElem?_eq_getElem hj, Option.map_some, Option.getD_some] using this
  have e3 := mn_spec h
  have : numAt xs (argBest (fun i j => decide (numAt xs i < numAt xs j)) (xs.size - 1)) = mn ns := by
    have a1 := e2 _ e3.1
    have a2 := e3.2 _ (e1 (argBest (fun i j => decide (numAt xs i < numAt xs j)) (xs.size - 1)) (by omega))
    omega
  rw [this]; exact .int _ _
theorem CallR.sum {ns : List Int} (hfit : ∀ n ∈ ns, 0 ≤ n ∧ n ≤ 2 ^ 40) (hlen : ns.length ≤ 1000) : CallR C k (.builtin "sum") [.list (ns.map .int)] (.int ns.sum) := one_arg fun A V s v hr S r => by
  obtain ⟨a, xs, rfl, hl, hx⟩ := ints_list S r
  have hsz : xs.size = ns.length := by rw [← hx]; simp
  have hnum : numAt xs = fun i => ns.getD i 0 := by
    funext i
    rw [← hx, List.getD_eq_getElem?_getD, List.getElem?_map, Array.getElem?_toList]
    rfl
  have hb : ∀ j, 0 ≤ (ns.take j).sum ∧ (ns.take j).sum ≤ (ns.take j).length * 2 ^ 40 := fun j => by
    have : ∀ l : List Int, (∀ n ∈ l, 0 ≤ n ∧ n ≤ 2 ^ 40) → 0 ≤ l.sum ∧ l.sum ≤ l.length * 2 ^ 40 := by
      intro l
      induction l with
      | nil => intro _; simp
      | cons a l ih =>
        intro h
        have h1 := h a (by simp)
        have h2 := ih fun n hn => h n (by simp [hn])
        rw [List.sum_cons, List.length_cons]
        push_cast
        lia
    exact this _ fun n hn => hfit n (List.mem_of_mem_take hn)
  refine .of_keep S fun E Q q => sum_intList hr.2.2 hl (fun j hj => ?_) fun h' tk t' hk => q _ h' tk hk ?_
  · rw [hnum, PyProof.Rows.preSum_getD]
    have h1 := hb (j + 1)
    have h2 : (ns.take (j + 1)).length ≤ 1000 := by rw [List.length_take]; lia
    have h3 : 0 ≤ ns.getD j 0 ∧ ns.getD j 0 ≤ 2 ^ 40 := by
      rw [List.getD_eq_getElem?_getD, List.getElem?_eq_getElem (by lia)]
      exact hfit _ (List.getElem_mem _)
    have h4 : ((ns.take (j + 1)).length : Int) ≤ 1000 := by lia
    show InLong (ns.getD j 0) ∧ _
    unfold InLong
    lia
  · rw [hnum, hsz, PyProof.Rows.preSum_getD, List.take_length]; exact .int _ _
theorem CallR.ord {c : Nat} : CallR C k (.builtin "ord") [.str (sL [c])] (.int c) := one_arg fun A V s v hr S r => by
  refine Rep.elStr r fun t => ?_
  exact .of_tok S fun E Q q => PySem.P.ord_of_char (q _ _ (.int _ _))
theorem CallR.chr {i : Int} (h0 : 0 ≤ i) (h1 : i ≤ 1114111) : CallR C k (.builtin "chr") [.int i] (.str (sL [i.toNat])) := one_arg fun A V s v hr S r => by
  refine Rep.elInt r fun t => ?_
  exact .of_tok S fun E Q q => PyProof.Rows.chr_of_range h0 h1 (q _ _ (.str _ _))
noncomputable def D.ty : D → String
  | .list _ => "list"
  | .tup _ => "tuple"
  | .str _ => "str"
  | .int _ => "int"
  | .bytes _ => "bytes"
  | _ => "?"
theorem Rep.typeIs {V : View} {s : Shared} (S : St C V s) {v : Value} {d : D} (r : Rep V v d) (hty : d.ty ≠ "?") : s.TypeIs v d.ty := by
  cases r with
  | list a vs ds h _ _ => obtain ⟨o, e, hc, _⟩ := h.isList S; exact ⟨o, e, hc⟩
  | tup a vs ds h _ _ => obtain ⟨o, e, hc, _⟩ := h.isTup S; exact ⟨o, e, hc⟩
  | str x t => exact typeIs_str s x t
  | int i t => exact typeIs_int s i t
  | bytes b t => exact rfl
  | _ => exact absurd rfl hty
theorem Ev.sub {value slice : Expr} {pos : Pos} {d1 d2 d : D} {id : String} (h1 : Ev C k sc ρ value d1) (h2 : Ev C k sc ρ slice d2) (ht : d1.ty ≠ "?") (hl : typeLookup (.type d1.ty) "__getitem__" = pure (some (.builtin id)))
    (h : Op2 C k getItem d1 d2 d) (hs : ∀ o i, subscripted slice false o i = operate [o, i] (getItem o i) := by intro _ _; rfl) : Ev C k sc ρ (.Subscript value slice pos) d := fun env A V s he hr S F => by
  rw [eval_Subscript]
  refine (h1 env A V s he hr S F).bind fun o V1 s1 X1 S1 r1 => (Yl.holding (h2 env A V1 s1 he hr S1 (F.ext S X1))).bind fun i V2 s2 X2 S2 r2 => .standAt ?_
  have r1' := r1.mono X2.mono
  have hT := r1'.typeIs S2 ht
  intro E Q q
  rw [getitemInPython_of_ne hT.not_modules]
  refine wpAny_bind (wpAny_bind (wpAny_specialOf hT hl (wpAny_pure ?_)))
  rw [hs]
  refine wpAny_bind (wpAny_operate' (h A V2 s2 o i hr S2 r1' r2 E _ fun r V3 s3 X3 S3 r3 => ?_))
  exact wpAny_bind (wpAny_letTemporaryGo (wpAny_pure (q r V3 s3 X3 S3 r3)))
noncomputable def EvO (C : Cx) (k : Nat) (sc : Scope) (ρ : Asn) (e : Option Expr) (p : Option Int) : Prop :=
  ∀ (env : Env) (A : Around) (V : View) (s : Shared), env.scope = sc → Room k A → St C V s → Frm C env ρ V s.heap → Yl C A V s (evalPart e env) fun _ v => ∃ l : Option (Int × Tok), v = partValue l ∧ l.map (·.1) = p
theorem EvO.none : EvO C k sc ρ Option.none Option.none := fun env A V s he hr S F => .pure S ⟨Option.none, rfl, rfl⟩
theorem EvO.some {e : Expr} {i : Int} (h : Ev C k sc ρ e (.int i)) : EvO C k sc ρ (Option.some e) (Option.some i) := fun env A V s he hr S F => (h env A V s he hr S F).mono fun V' v r => by
  obtain ⟨t, rfl⟩ := r.is; exact ⟨Option.some (i, t), rfl, rfl⟩
noncomputable def SlR (C : Cx) (k : Nat) (d1 : D) (lo hi st : Option Int) (d : D) : Prop :=
  ∀ (A : Around) (V : View) (s : Shared) (v : Value) (a : Addr) (l u t : Option (Int × Tok)), Room k A → St C V s → Rep V v d1 → s.heap.get? a = some { cls := .type "slice", data := .fields #[partValue l, partValue u, partValue t] } →
    l.map (·.1) = lo → u.map (·.1) = hi → t.map (·.1) = st → Yd C A V s (getItem v (.ref a)) d
theorem Ev.slice {value : Expr} {l u st : Option Expr} {p pos : Pos} {d1 d : D} {lo hi stp : Option Int} {id : String} (h1 : Ev C k sc ρ value d1) (hl1 : EvO C k sc ρ l lo) (hu : EvO C k sc ρ u hi) (hst : EvO C k sc ρ st stp) (ht : d1.ty ≠ "?")
    (hl : typeLookup (.type d1.ty) "__getitem__" = pure (some (.builtin id))) (h : SlR C k d1 lo hi stp d) : Ev C k sc ρ (.Subscript value (.Slice l u st p) pos) d := fun env A V s he hr S F E Q q => by
  rw [eval_Subscript]
  refine wpAny_bind (h1 env A V s he hr S F E _ fun o V1 s1 X1 S1 r1 => ?_)
  refine wpAny_bind (wpAny_holding (wpAny_Slice ?_))
  have F1 := F.ext S X1
  refine hl1 env A V1 s1 he hr S1 F1 E _ fun lv V2 s2 X2 S2 pl => ?_
  have F2 := F1.ext S1 X2
  refine hu env A V2 s2 he hr S2 F2 E _ fun uv V3 s3 X3 S3 pu => ?_
  have F3 := F2.ext S2 X3
  refine hst env A V3 s3 he hr S3 F3 E _ fun sv V4 s4 X4 S4 ps => ?_
  obtain ⟨ll, rfl, el⟩ := pl
  obtain ⟨uu, rfl, eu⟩ := pu
  obtain ⟨ss, rfl, es⟩ := ps
  have X14 := (X2.trans X3).trans X4
  refine wpAny_bind (wpAny_standAt ?_)
  have hk : ∀ b o, s4.heap.get? b = some o → (s4.heap.push { cls := .type "slice", data := .fields #[partValue ll, partValue uu, partValue ss] }).get? b = some o := fun b o e => Heap.get?_push_of_some _ e
  have S5 : St C V4 { s4 with heap := s4.heap.push { cls := .type "slice", data := .fields #[partValue ll, partValue uu, partValue ss] } } := S4.keeps (tk := s4.toks) hk
  have X5 : Ext V4 s4 V4 { s4 with heap := s4.heap.push { cls := .type "slice", data := .fields #[partValue ll, partValue uu, partValue ss] } } := .keeps (tk := s4.toks) hk
  have r1' := r1.mono X14.mono
  have hT := r1'.typeIs S5 ht
  rw [getitemInPython_of_ne hT.not_modules]
  refine wpAny_bind (wpAny_bind (wpAny_specialOf hT hl (wpAny_pure ?_)))
  have fin : wpAny C.M A (getItem o (.ref s4.heap.objs.size)) (fun r s₃ => wpAny C.M A (letTemporaryGo value o r >>= fun _ => pure r) Q E s₃) E { s4 with heap := s4.heap.push { cls := .type "slice", data := .fields #[partValue ll, partValue uu, partValue ss] } } :=
    h A V4 _ o _ ll uu ss hr S5 r1' (Heap.get?_push_size _ rfl) el eu es E _ fun r V6 s6 X6 S6 r6 => wpAny_bind (wpAny_letTemporaryGo (wpAny_pure (q r V6 s6 (((X1.trans X14).trans X5).trans X6) S6 r6)))
  cases st with
  | none => exact wpAny_bind (wpAny_operate' fin)
  | some st => exact wpAny_bind (wpAny_operate' fin)
noncomputable def sliceT (x : PySem.Str) (lo hi st : Option Int) : PySem.Str :=
  if (st.getD 1 == 1 && (Builtin.Str.strSliceIndices lo hi (st.getD 1) x.length).length == x.length) = true then x else ⟨((Builtin.Str.strSliceIndices lo hi (st.getD 1) x.length).filterMap (x.cps[·]?)).toArray⟩
theorem SlR.str {x : PySem.Str} {lo hi st : Option Int} (h0 : st ≠ some 0) (hsz : x.length ≤ 2 ^ 20) (hpick : (Builtin.Str.strSliceIndices lo hi (st.getD 1) x.length).length ≤ sizeLine) : SlR C k (.str x) lo hi st (.str (sliceT x lo hi st)) := fun A V s v a l u t hr S r ha hl hu ht => by
  refine Rep.elStr r fun tk => ?_
  subst hl; subst hu; subst ht
  have h0' : ((t.map (·.1)).getD 1 == 0) = false := by
    cases t with
    | none => rfl
    | some p =>
      have : p.1 ≠ 0 := fun e => h0 (by simp [e])
      simpa using this
  refine .of_tok S fun E Q q => wpAny_getItem_str_slice ⟨_, ha, rfl, rfl⟩ h0' ?_
  unfold sliceMade
  by_cases hc : ((t.map (·.1)).getD 1 == 1 && (slicePicked x l u t).length == x.length) = true
  · rw [if_pos hc]
    refine q _ s.toks ?_
    have : sliceT x (l.map (·.1)) (u.map (·.1)) (t.map (·.1)) = x := if_pos hc
    rw [this]; exact .str _ _
  · rw [if_neg hc]
    refine ⟨?_, q _ _ ?_⟩
    · show PySem.Str.length _ ≤ _
      unfold PySem.Str.length
      refine Nat.le_trans ?_ hpick
      simp only [List.size_toArray]
      exact List.length_filterMap_le _ _
    · have : sliceT x (l.map (·.1)) (u.map (·.1)) (t.map (·.1)) = ⟨((slicePicked x l u t).filterMap (x.cps[·]?)).toArray⟩ := if_neg hc
      rw [this]; exact .str _ _
noncomputable def sliceL (ds : List D) (lo hi st : Option Int) : List D := (sliceRange (sliceBounds lo hi st ds.length).1 (sliceBounds lo hi st ds.length).2.1 (sliceBounds lo hi st ds.length).2.2).filterMap (ds[·]?)
theorem reps_pick {V : View} {vs : List Value} {ds : List D} (h : Reps V vs ds) : ∀ idx : List Nat, Reps V (idx.filterMap (vs[·]?)) (idx.filterMap (ds[·]?))
  | [] => .nil
  | i :: r => by
    have ih := reps_pick h r
    by_cases hi : i < vs.length
    · have hi' : i < ds.length := h.1 ▸ hi
      simp only [List.filterMap_cons, List.getElem?_eq_getElem hi, List.getElem?_eq_getElem hi']
      exact .cons (h.2 i _ _ (List.getElem?_eq_getElem hi) (List.getElem?_eq_getElem hi')) ih
    · have hi' : ¬ i < ds.length := h.1 ▸ hi
      simp only [List.filterMap_cons, List.getElem?_eq_none (Nat.le_of_not_lt hi), List.getElem?_eq_none (Nat.le_of_not_lt hi')]
      exact ih
theorem part_is (l : Option (Int × Tok)) : IsPart (partValue l) (l.map (·.1)) := by
  cases l with
  | none => exact .none
  | some p => exact .int _ _
theorem SlR.list {ds : List D} {lo hi st : Option Int} (h0 : st ≠ some 0) (hsz : ds.length ≤ 2 ^ 20) : SlR C k (.list ds) lo hi st (.list (sliceL ds lo hi st)) := fun A V s v a l u t hr S r ha hl hu ht => by
  refine Rep.elList r fun b vs hb hs => ?_
  subst hl; subst hu; subst ht
  refine .of_new S fun E Q q => wpAny_getItem_list_slice (hb.isList S) ⟨_, ha, rfl, rfl⟩ (part_is l) (part_is u) (part_is t) h0 (q _ _ s.toks (fun b o e => Heap.get?_push_of_some _ e) ?_) (by rw [List.size_toArray, hs.1, sizeLine_eq]; lia)
  have hmono : VLe V (grow V s.heap (s.heap.push { cls := .type "list", data := .seq (slicePick vs.toArray (l.map (·.1)) (u.map (·.1)) (t.map (·.1))) })) := fun a o e => by rw [grow_old (S.sub a o e)]; exact e
  refine Reps.list (vs := (slicePick vs.toArray (l.map (·.1)) (u.map (·.1)) (t.map (·.1))).toList) (.of (n := 0) ?_) ?_
  · rw [grow_new get_size]; simpa using Heap.get?_push_size _ rfl
  · have hn : vs.toArray.size = ds.length := by rw [List.size_toArray, hs.1]
    have e : (slicePick vs.toArray (l.map (·.1)) (u.map (·.1)) (t.map (·.1))).toList = (sliceRange (sliceBounds (l.map (·.1)) (u.map (·.1)) (t.map (·.1)) ds.length).1 (sliceBounds (l.map (·.1)) (u.map (·.1)) (t.map (·.1)) ds.length).2.1 (sliceBounds (l.map (·.1)) (u.map (·.1)) (t.map (·.1)) ds.length).2.2).filterMap (vs[·]?) := by
      unfold slicePick; rw [hn]; simp
    rw [e]
    exact (reps_pick hs _).mono hmono
theorem Op2.itemL {ds : List D} {i : Int} {d : D} (h0 : 0 ≤ i) (h1 : ds[i.toNat]? = some d) (hsz : ds.length ≤ 2 ^ 20) : Op2 C k getItem (.list ds) (.int i) d := fun A V s v1 v2 hr S r1 r2 => by
  refine Rep.elList r1 fun b vs hb hs => ?_
  refine Rep.elInt r2 fun t => ?_
  have hi : i.toNat < ds.length := (List.getElem?_eq_some_iff.mp h1).1
  have hv : vs[i.toNat]? = some (vs[i.toNat]'(by rw [hs.1]; exact hi)) := List.getElem?_eq_getElem _
  exact .of_tok S fun E Q q => wpAny_getItem_list (hb.isList S) h0 (by lia) (by simpa using hv) (q _ s.toks (hs.2 _ _ _ hv h1))
theorem Op2.itemS {x : PySem.Str} {i : Int} {c : Nat} (h0 : 0 ≤ i) (h1 : x.cps[i.toNat]? = some c) (hsz : x.length ≤ 2 ^ 20) : Op2 C k getItem (.str x) (.int i) (.str (sL [c])) := fun A V s v1 v2 hr S r1 r2 => by
  refine Rep.elStr r1 fun t => ?_
  refine Rep.elInt r2 fun u => ?_
  have hi : i.toNat < x.cps.size := (Array.getElem?_eq_some_iff.mp h1).1
  refine .of_tok S fun E Q q => PyProof.Rows.getItem_str (by have : x.cps.size ≤ 2 ^ 20 := hsz; simp; lia) (c := c) ?_ (q _ _ (.str _ _))
  have : PySem.seqIndex? i x.length = some i.toNat := by
    have hl : x.length = x.cps.size := rfl
    have hn : ¬ i < 0 := by lia
    simp only [PySem.seqIndex?, if_neg hn]
    split
    · rfl
    · next hc => exact absurd (by simp [hl]; lia) hc
  rw [this]; exact h1
end
section
variable {C : Cx} {k : Nat} {sc : Scope} {ρ : Asn} {Pn : Asn → Prop} {Pr : D → Prop}
theorem Tst.ev {e : Expr} {d : D} {b : Bool} (h : Ev C k sc ρ e d) (ht : Tr C k d b) (he : ∀ env whole, isTrue e env whole = (do let v ← whole; standAt e.pos; holding [v] (truthy v)) := by intro _ _; rfl) : Tst C k sc ρ e b := fun env A V s hs hr S F => by
  rw [he]
  exact (h env A V s hs hr S F).bind fun v V1 s1 X1 S1 r => .standAt (.holding (ht A V1 s1 v hr S1 r))
theorem Tst.not {e : Expr} {pos : Pos} {b : Bool} (h : Tst C k sc ρ e b) : Tst C k sc ρ (.UnaryOp .Not e pos) (!b) := fun env A V s hs hr S F E Q q =>
  wpAny_isTrue_Not (h env A V s hs hr S F E _ fun c V1 s1 X1 S1 hc => q _ V1 s1 X1 S1 (by rw [hc]))
theorem Tst.or2 {e1 e2 : Expr} {pos : Pos} {b1 b2 : Bool} (h1 : Tst C k sc ρ e1 b1) (h2 : b1 = false → Tst C k sc ρ e2 b2) : Tst C k sc ρ (.BoolOp .Or [e1, e2] pos) (b1 || b2) := fun env A V s hs hr S F E Q q => by
  refine wpAny_isTrue_BoolOp (wpAny_allTrue_Or_cons (h1 env A V s hs hr S F E _ fun c V1 s1 X1 S1 hc => ?_))
  subst hc
  cases c with
  | true => exact q _ V1 s1 X1 S1 rfl
  | false => exact wpAny_allTrue_Or_cons (h2 rfl env A V1 s1 hs hr S1 (F.ext S X1) E _ fun c V2 s2 X2 S2 hc => by
      subst hc
      cases c with
      | true => exact q _ V2 s2 (X1.trans X2) S2 rfl
      | false => exact wpAny_allTrue_Or_nil (q _ V2 s2 (X1.trans X2) S2 rfl))
theorem Tst.or3 {e1 e2 e3 : Expr} {pos : Pos} {b1 b2 b3 : Bool} (h1 : Tst C k sc ρ e1 b1) (h2 : Tst C k sc ρ e2 b2) (h3 : Tst C k sc ρ e3 b3) : Tst C k sc ρ (.BoolOp .Or [e1, e2, e3] pos) (b1 || (b2 || b3)) := fun env A V s hs hr S F E Q q => by
  refine wpAny_isTrue_BoolOp (wpAny_allTrue_Or_cons (h1 env A V s hs hr S F E _ fun c V1 s1 X1 S1 hc => ?_))
  subst hc
  cases c with
  | true => exact q _ V1 s1 X1 S1 rfl
  | false => exact wpAny_allTrue_Or_cons (h2 env A V1 s1 hs hr S1 (F.ext S X1) E _ fun c V2 s2 X2 S2 hc => by
      subst hc
      cases c with
      | true => exact q _ V2 s2 (X1.trans X2) S2 rfl
      | false => exact wpAny_allTrue_Or_cons (h3 env A V2 s2 hs hr S2 ((F.ext S X1).ext S1 X2) E _ fun c V3 s3 X3 S3 hc => by
          subst hc
          cases c with
          | true => exact q _ V3 s3 ((X1.trans X2).trans X3) S3 rfl
          | false => exact wpAny_allTrue_Or_nil (q _ V3 s3 ((X1.trans X2).trans X3) S3 rfl)))
theorem Tst.and2 {e1 e2 : Expr} {pos : Pos} {b1 b2 : Bool} (h1 : Tst C k sc ρ e1 b1) (h2 : b1 = true → Tst C k sc ρ e2 b2) : Tst C k sc ρ (.BoolOp .And [e1, e2] pos) (b1 && b2) := fun env A V s hs hr S F E Q q => by
  refine wpAny_isTrue_BoolOp (wpAny_allTrue_And_cons (h1 env A V s hs hr S F E _ fun c V1 s1 X1 S1 hc => ?_))
  subst hc
  cases c with
  | false => exact q _ V1 s1 X1 S1 rfl
  | true => exact wpAny_allTrue_And_cons (h2 rfl env A V1 s1 hs hr S1 (F.ext S X1) E _ fun c V2 s2 X2 S2 hc => by
      subst hc
      cases c with
      | false => exact q _ V2 s2 (X1.trans X2) S2 rfl
      | true => exact wpAny_allTrue_And_nil (q _ V2 s2 (X1.trans X2) S2 rfl))
theorem Ev.or2 {e1 e2 : Expr} {pos : Pos} {d1 d2 : D} {b : Bool} (h1 : Ev C k sc ρ e1 d1) (ht : Tr C k d1 b) (h2 : b = false → Ev C k sc ρ e2 d2) : Ev C k sc ρ (.BoolOp .Or [e1, e2] pos) (if b = true then d1 else d2) := fun env A V s hs hr S F => by
  show Yd C A V s (do
    let v ← eval e1 env
    standAt pos
    let t ← PySem.holding [v] (truthy v)
    match BoolOp.Or, t with
    | .And, false | .Or, true => pure v
    | _, _ => eval e2 env) _
  refine (h1 env A V s hs hr S F).bind fun v V1 s1 X1 S1 r => .standAt ((Yl.holding (ht A V1 s1 v hr S1 r)).bind fun c V2 s2 X2 S2 hc => ?_)
  subst hc
  cases c with
  | true => exact .pure S2 (r.mono X2.mono)
  | false => exact h2 rfl env A V2 s2 hs hr S2 ((F.ext S X1).ext S1 X2)
theorem Ev.neg {e : Expr} {pos : Pos} {i : Int} (h : Ev C k sc ρ e (.int i)) : Ev C k sc ρ (.UnaryOp .USub e pos) (.int (-i)) := fun env A V s hs hr S F => by
  rw [eval_UnaryOp]
  refine (h env A V s hs hr S F).bind fun v V1 s1 X1 S1 r => .standAt (.holding ?_)
  refine Rep.elInt r fun t => ?_
  exact .of_tok S1 fun E Q q => PyProof.Rows.neg_int (q _ _ (.int _ _))
noncomputable abbrev isNd : D → Bool
  | .none => true
  | _ => false
noncomputable abbrev isBd (b : Bool) : D → Bool
  | .bool a => a == b
  | _ => false
theorem Rep.eqs {d : D} {v : Value} (r : Rep V v d) : (v == Value.none) = isNd d ∧ ∀ b, plainIs v (.bool b) = true ∧ (v == .bool b) = isBd b d := by
  cases r with
  | bool a => exact ⟨rfl, fun b => ⟨rfl, by cases a <;> cases b <;> rfl⟩⟩
  | rule v u ga name side d h hg hu => obtain ⟨a, rfl⟩ := h.isRef; exact ⟨rfl, fun _ => ⟨rfl, rfl⟩⟩
  | _ => exact ⟨rfl, fun _ => ⟨rfl, rfl⟩⟩
theorem Op2.isN {d : D} : Op2 C k (compareOp .Is) d .none (.bool (match d with | .none => true | _ => false)) := fun A V s v1 v2 hr S r1 r2 => by
  obtain rfl := r2.is
  exact .of_tok S fun E Q q => is_none_gen (q _ s.toks (r1.eqs.1 ▸ .bool (isNd d)))
theorem Op2.isB {d : D} {b : Bool} : Op2 C k (compareOp .Is) d (.bool b) (.bool (match d with | .bool a => a == b | _ => false)) := fun A V s v1 v2 hr S r1 r2 => by
  obtain rfl := r2.is
  obtain ⟨h1, h2⟩ := r1.eqs.2 b
  refine .of_tok S fun E Q q => ?_
  show wpAny C.M A (do return .bool (← isSame v1 (.bool b))) Q E s
  exact wpAny_bind (wpAny_isSame_plain h1 (wpAny_pure (q _ s.toks (h2 ▸ .bool (isBd b d)))))
noncomputable def TgtOk (C : Cx) (env : Env) (p : Nat × (Value → Sem Unit)) : Prop := ∀ (A : Around) (v : Value) (E : Value → Shared → Prop) (Q : Unit → Shared → Prop) (s : Shared), wpAny C.M A (storeName env (nm p.1) v) Q E s → wpAny C.M A (p.2 v) Q E s
theorem assign_go {A : Around} {env : Env} {V V0 : View} {s0 : Shared} {E : Value → Shared → Prop} {Q : Unit → Shared → Prop} (f : Fresh env s0) :
    ∀ (ps : List (Nat × (Value → Sem Unit))) (ds : List D) (vs : List Value) (ρ : Asn) (s : Shared), St C V s → Frm C env ρ V s.heap → Ext V0 s0 V s → Reps V vs ds → (∀ p ∈ ps, TgtOk C env p) →
      (∀ p ∈ ps, env.scope.names.lookup (nm p.1) = some .local ∨ env.scope.names.lookup (nm p.1) = some .cell) →
      (∀ s', Ext V0 s0 V s' → St C V s' → Frm C env (((ps.map (·.1)).zip ds).reverse ++ ρ) V s'.heap → Q () s') → wpAny C.M A (assignInOrder (ps.map (·.2)) vs) Q E s
  | [], ds, vs, ρ, s, S, F, X, rs, ht, hk, q => wpAny_pure (q s X S (by simpa using F))
  | p :: ps, ds, [], ρ, s, S, F, X, rs, ht, hk, q => by
    have : ds = [] := List.length_eq_zero_iff.mp rs.1.symm
    subst this
    exact wpAny_pure (q s X S (by simpa using F))
  | p :: ps, [], v :: vs, ρ, s, S, F, X, rs, ht, hk, q => by have := rs.1; simp at this
  | p :: ps, d :: ds, v :: vs, ρ, s, S, F, X, rs, ht, hk, q => by
    show wpAny _ A (do PySem.holding vs (p.2 v); assignInOrder (ps.map (·.2)) vs) _ _ _
    refine wpAny_bind (wpAny_holding (ht p List.mem_cons_self A v E _ s ?_))
    refine F.store S (hk p List.mem_cons_self) rs.head fun h' tk k1 k2 S2 F2 => ?_
    refine assign_go f ps ds vs _ _ S2 F2 (Ext.store X f S2 k1) rs.tail (fun p' h => ht p' (List.mem_cons_of_mem _ h)) (fun p' h => hk p' (List.mem_cons_of_mem _ h)) fun s' X' S' F' => q s' X' S' ?_
    simpa using F'
theorem unpackItems_list {prog : Program} {w : World} {A : Around} {E : Value → Shared → Prop} {s : Shared} {a : Addr} {items : Array Value} {Q : List Value → Shared → Prop} (hh : A.handled = none) (hl : s.heap.IsList a items)
    (hQ : ∀ h' tk, (∀ b o, s.heap.get? b = some o → h'.get? b = some o) → Q items.toList { s with heap := h', toks := tk }) : wpAny (model prog w) A (unpackItems (.ref a) items.size none) Q E s := by
  have hlt : a ≠ s.heap.objs.size := by obtain ⟨o, ho, _⟩ := hl; exact Nat.ne_of_lt (Heap.lt_size ho)
  have W := Walks.list (prog := prog) (w := w) hh s.heap.objs.size a hlt items
  have drw : ∀ (n i : Nat) (s' : Shared) (Q : List Value → Shared → Prop), (s'.heap.IsListIter s.heap.objs.size a i ∧ s'.heap.IsList a items) → i + n ≤ items.size →
      (∀ h' tk, (h'.IsListIter s.heap.objs.size a (i + n) ∧ h'.IsList a items) → (∀ b o, b ≠ s.heap.objs.size → s'.heap.get? b = some o → h'.get? b = some o) → Q ((items.toList.drop i).take n) { s' with heap := h', toks := tk }) → wpAny (model prog w) A (draw (.ref s.heap.objs.size) n) Q E s' := by
    intro n
    induction n with
    | zero =>
      intro i s' Q st hle q
      show wpAny _ _ (pure []) Q E s'
      exact wpAny_pure (by simpa using q s'.heap s'.toks st fun b o _ e => e)
    | succ n ih =>
      intro i s' Q st hle q
      have hlt : i < items.size := by lia
      show wpAny _ _ (pyNext (.ref s.heap.objs.size) >>= _) Q E s'
      refine wpAny_bind (W.item i s' _ E hlt st fun v h1 tk1 hv st1 hk1 => ?_)
      refine wpAny_bind (wpAny_holding (ih (i + 1) _ _ st1 (by lia) fun h2 tk2 st2 hk2 => wpAny_pure ?_))
      have hd : items.toList.drop i = v :: items.toList.drop (i + 1) := by
        rw [Array.getElem?_eq_getElem hlt] at hv; cases hv
        simp [List.drop_eq_getElem_cons, hlt]
      have := q h2 tk2 (by rw [show i + (n + 1) = i + 1 + n by lia]; exact st2) (fun b o hb e => hk2 b o hb (hk1 b o (by simpa using hb) e))
      rw [hd, List.take_succ_cons] at this
      exact this
  unfold unpackItems
  refine wpAny_bind ?_
  unfold notIterableAtAll
  refine wpAny_bind (wpAny_specialOf hl.typeIs F.slot_list_iter.lookup ?_)
  refine wpAny_pure ?_
  simp only [Bool.false_eq_true, if_false]
  refine wpAny_bind (wpAny_holding (wpAny_pyIter_list hl ?_))
  refine wpAny_bind (wpAny_holding (drw items.size 0 _ _ ⟨⟨_, Heap.get?_push_size _ rfl, rfl, rfl⟩, hl.push _⟩ (by lia) fun h₁ tk1 st₁ hk₁ => ?_))
  have hall : List.take items.size (List.drop 0 items.toList) = items.toList := by
    rw [List.drop_zero]; exact List.take_of_length_le (by simp)
  rw [hall]
  rw [if_neg (by simp)]
  refine wpAny_bind (wpAny_holding (W.done _ _ E (by simpa using st₁) fun h₂ tk2 hk₂ => ?_))
  simp only [Option.isSome_none, Bool.false_eq_true, if_false]
  refine wpAny_pure (hQ h₂ tk2 fun b o e => ?_)
  have hb : b ≠ s.heap.objs.size := Nat.ne_of_lt (Heap.lt_size e)
  exact hk₂ b o (by simpa using hb) (hk₁ b o hb (Heap.get?_push_of_some _ e))
theorem Yl.unpackT {A : Around} {V : View} {s : Shared} {v : Value} {ds : List D} (hr : Room k A) (S : St C V s) (r : Rep V v (.tup ds)) : Yl C A V s (unpackItems v ds.length none) fun V' vs => Reps V' vs ds := by
  obtain ⟨a, vs, rfl, ha, hs⟩ := r.inv_tup
  refine .of_keep S fun E Q q => ?_
  rw [← hs.1, ← List.size_toArray]
  exact wpAny_unpackItems_tuple hr.2.2 (ha.isTup S) fun h' he => q _ h' s.toks (fun b o e => he b o (Nat.ne_of_lt (Heap.lt_size e)) e) (by simpa using hs)
theorem Yl.unpackL {A : Around} {V : View} {s : Shared} {v : Value} {ds : List D} (hr : Room k A) (S : St C V s) (r : Rep V v (.list ds)) : Yl C A V s (unpackItems v ds.length none) fun V' vs => Reps V' vs ds := by
  refine Rep.elList r fun a vs ha hs => ?_
  refine .of_keep S fun E Q q => ?_
  rw [← hs.1, ← List.size_toArray]
  exact unpackItems_list hr.2.2 (ha.isList S) fun h' tk hk => q _ h' tk hk (by simpa using hs)
theorem tgtN {env : Env} {i : Nat} {p : Pos} : TgtOk C env (i, assign (.Name (nm i) p) env) := fun A v E Q s h => wpAny_assign_Name h
theorem tgtB {env : Env} {i : Nat} : TgtOk C env (i, bindName env (nm i)) := fun A v E Q s h => wpAny_bindName h
theorem Ex1.pairAt {x1 x2 : PySem.Str} {p1 p2 tp pos : Pos} {n i j : Nat} {e : Expr} {d d1 d2 : D} (n1 : nm i = x1) (n2 : nm j = x2) (h : Ev C k sc ρ e d) (hd : d = .tup [d1, d2] ∨ d = .list [d1, d2])
    (h1 : sc.names.lookup x1 = some .local ∨ sc.names.lookup x1 = some .cell) (h2 : sc.names.lookup x2 = some .local ∨ sc.names.lookup x2 = some .cell)
    (hs : ∀ env : Env, swapsWithSole [.Tuple [.Name x1 p1, .Name x2 p2] n tp] e pos.line env = pure false := by intro _; rfl) (hw : ∀ env : Env, env.scope = sc → swappedStores [.Tuple [.Name x1 p1, .Name x2 p2] n tp] e env = pure none) :
    Ex1 C k sc ρ (.Assign [.Tuple [.Name x1 p1, .Name x2 p2] n tp] e pos) (fun r => r = (j, d2) :: (i, d1) :: ρ) Pr := fun env A V s V0 s0 he hr S F O X f E Q qn qr => by
  subst n1; subst n2
  refine PyProof.Rows.Assign_Tuple (h env A V s he hr S F E _ fun v V1 s1 X1 S1 r => ?_) (hs env) (hw env he)
  rw [arm_assign_Tuple]
  refine wpAny_bind (wpAny_standAt ?_)
  have e0 : unpack v (assignEach [.Name (nm i) p1, .Name (nm j) p2] env) = (do let items ← PySem.holding [v] (unpackItems v 2 none); assignInOrder [PySem.assign (.Name (nm i) p1) env, PySem.assign (.Name (nm j) p2) env] items) := rfl
  rw [e0]
  have hU : Yl C A V1 s1 (unpackItems v 2 none) fun V' vs => Reps V' vs [d1, d2] := by
    rcases hd with rfl | rfl
    · exact Yl.unpackT (ds := [d1, d2]) hr S1 r
    · exact Yl.unpackL (ds := [d1, d2]) hr S1 r
  refine wpAny_bind (wpAny_holding (hU E _ fun vs V2 s2 X2 S2 rs => ?_))
  exact assign_go f [(i, PySem.assign (.Name (nm i) p1) env), (j, PySem.assign (.Name (nm j) p2) env)] [d1, d2] vs ρ s2 S2 ((F.ext S X1).ext S1 X2) ((X.trans X1).trans X2) rs
    (fun p hp => by rcases List.mem_cons.mp hp with rfl | hp; exact tgtN; rcases List.mem_cons.mp hp with rfl | hp; exact tgtN; cases hp)
    (fun p hp => by rcases List.mem_cons.mp hp with rfl | hp; exact he ▸ h1; rcases List.mem_cons.mp hp with rfl | hp; exact he ▸ h2; cases hp)
    fun s' X' S' F' => qn _ V2 s' X' S' F' rfl
theorem Ex1.pairSw {x1 x2 : PySem.Str} {p1 p2 tp pos : Pos} {n i j : Nat} {e : Expr} {d1 d2 : D} (n1 : nm i = x1) (n2 : nm j = x2) (h : Ev C k sc ρ e (.tup [d1, d2]))
    (h1 : sc.names.lookup x1 = some .local) (h2 : sc.names.lookup x2 = some .local)
    (hs : ∀ env : Env, swapsWithSole [.Tuple [.Name x1 p1, .Name x2 p2] n tp] e pos.line env = pure false := by intro _; rfl) (hw : ∀ env : Env, env.scope = sc → swappedStores [.Tuple [.Name x1 p1, .Name x2 p2] n tp] e env = pure (some [x1, x2])) :
    Ex1 C k sc ρ (.Assign [.Tuple [.Name x1 p1, .Name x2 p2] n tp] e pos) (fun r => r = (i, d1) :: (j, d2) :: ρ) Pr := fun env A V s V0 s0 he hr S F O X f E Q qn qr => by
  subst n1; subst n2
  refine PyProof.Rows.Assign_Tuple_swapped (h env A V s he hr S F E _ fun v V1 s1 X1 S1 r => ?_) (hs env) (hw env he)
  refine Yl.unpackT (ds := [d1, d2]) hr S1 r E _ fun vs V2 s2 X2 S2 rs => ?_
  refine Reps.el2 rs fun a b ra rb => ?_
  exact assign_go f [(j, bindName env (nm j)), (i, bindName env (nm i))] [d2, d1] [b, a] ρ s2 S2 ((F.ext S X1).ext S1 X2) ((X.trans X1).trans X2) (.cons rb (.cons ra .nil))
    (fun p hp => by rcases List.mem_cons.mp hp with rfl | hp; exact tgtB; rcases List.mem_cons.mp hp with rfl | hp; exact tgtB; cases hp)
    (fun p hp => by rcases List.mem_cons.mp hp with rfl | hp; exact .inl (he ▸ h2); rcases List.mem_cons.mp hp with rfl | hp; exact .inl (he ▸ h1); cases hp)
    fun s' X' S' F' => qn _ V2 s' X' S' F' rfl
theorem Ex1.tripSw {x1 x2 x3 : PySem.Str} {p1 p2 p3 tp pos : Pos} {n i j l : Nat} {e : Expr} {d1 d2 d3 : D} (n1 : nm i = x1) (n2 : nm j = x2) (n3 : nm l = x3) (h : Ev C k sc ρ e (.tup [d1, d2, d3]))
    (h1 : sc.names.lookup x1 = some .local) (h2 : sc.names.lookup x2 = some .local) (h3 : sc.names.lookup x3 = some .local)
    (hs : ∀ env : Env, swapsWithSole [.Tuple [.Name x1 p1, .Name x2 p2, .Name x3 p3] n tp] e pos.line env = pure false := by intro _; rfl) (hw : ∀ env : Env, env.scope = sc → swappedStores [.Tuple [.Name x1 p1, .Name x2 p2, .Name x3 p3] n tp] e env = pure (some [x1, x2, x3])) :
    Ex1 C k sc ρ (.Assign [.Tuple [.Name x1 p1, .Name x2 p2, .Name x3 p3] n tp] e pos) (fun r => r = (i, d1) :: (j, d2) :: (l, d3) :: ρ) Pr := fun env A V s V0 s0 he hr S F O X f E Q qn qr => by
  subst n1; subst n2; subst n3
  refine PyProof.Rows.Assign_Tuple_swapped (h env A V s he hr S F E _ fun v V1 s1 X1 S1 r => ?_) (hs env) (hw env he)
  refine Yl.unpackT (ds := [d1, d2, d3]) hr S1 r E _ fun vs V2 s2 X2 S2 rs => ?_
  refine Reps.el3 rs fun a b c ra rb rc => ?_
  exact assign_go f [(l, bindName env (nm l)), (j, bindName env (nm j)), (i, bindName env (nm i))] [d3, d2, d1] [c, b, a] ρ s2 S2 ((F.ext S X1).ext S1 X2) ((X.trans X1).trans X2) (.cons rc (.cons rb (.cons ra .nil)))
    (fun p hp => by rcases List.mem_cons.mp hp with rfl | hp; exact tgtB; rcases List.mem_cons.mp hp with rfl | hp; exact tgtB; rcases List.mem_cons.mp hp with rfl | hp; exact tgtB; cases hp)
    (fun p hp => by rcases List.mem_cons.mp hp with rfl | hp; exact .inl (he ▸ h3); rcases List.mem_cons.mp hp with rfl | hp; exact .inl (he ▸ h2); rcases List.mem_cons.mp hp with rfl | hp; exact .inl (he ▸ h1); cases hp)
    fun s' X' S' F' => qn _ V2 s' X' S' F' rfl
theorem Ex1.aug {i : Nat} {x : PySem.Str} {p pos : Pos} {op : Operator} {e : Expr} {d0 d1 d : D} (hx : nm i = x) (hg : ρ.get i = some d0) (h : Ev C k sc ρ e d1) (ho : Op2 C k (inplaceOp op) d0 d1 d)
    (hk : sc.names.lookup x = some .local ∨ sc.names.lookup x = some .cell) : Ex1 C k sc ρ (.AugAssign (.Name x p) op e pos) (fun r => r = (i, d) :: ρ) Pr := fun env A V s V0 s0 he hr S F O X f E Q qn qr => by
  subst hx
  rw [exec_AugAssign_Name]
  refine wpAny_bind (wpAny_standAt (wpAny_bind (F.load S hg E _ fun v V1 s1 X1 S1 r1 => ?_)))
  have F1 := F.ext S X1
  refine wpAny_bind (wpAny_holding (h env A V1 s1 he hr S1 F1 E _ fun u V2 s2 X2 S2 r2 => ?_))
  have F2 := F1.ext S1 X2
  refine wpAny_bind (wpAny_standAt (wpAny_bind (wpAny_operate' (ho A V2 s2 v u hr S2 (r1.mono X2.mono) r2 E _ fun n V3 s3 X3 S3 r3 => ?_))))
  refine wpAny_bind (wpAny_standAt (wpAny_bind (wpAny_bindName ((F2.ext S2 X3).store S3 (by rw [he]; exact hk) r3 fun h' tk k1 k2 S4 F4 => wpAny_pure (qn _ V3 _ (Ext.store (((X.trans X1).trans X2).trans X3) f S4 k1) S4 F4 rfl)))))
theorem Op2.iaddI {a b : Int} : Op2 C k (inplaceOp .Add) (.int a) (.int b) (.int (a + b)) := fun A V s v1 v2 hr S r1 r2 => by
  obtain ⟨_, rfl⟩ := r1.is; obtain ⟨_, rfl⟩ := r2.is; exact .of_tok S fun E Q q => PyProof.Rows.iadd_int (q _ _ (.int _ _))
end
theorem St.freeze {C : Cx} {V : View} {s : Shared} {a : Addr} {o : Obj} (S : St C V s) (e : s.heap.get? a = some o) (hV : V a = none) (ht : a ≠ tabA) :
    ∃ V' : View, VLe V V' ∧ V' a = some o ∧ (∀ b, b ≠ a → V' b = V b) ∧ St C V' s := by
  have mono : VLe V (fun b => if b = a then some o else V b) := fun b o' e' => by
    by_cases hb : b = a
    · rw [hb, hV] at e'; cases e'
    · simp only [if_neg hb]; exact e'
  refine ⟨fun b => if b = a then some o else V b, mono, by simp, fun b hb => by simp [hb], ⟨fun b o' e' => mono _ _ (S.base b o' e'), fun b o' e' => ?_, S.tab.at mono fun _ e => e, ?_, S.gens, S.os, S.tk⟩⟩
  · by_cases hb : b = a
    · subst hb; simp only [if_true] at e'; cases e'; exact e
    · simp only [if_neg hb] at e'; exact S.sub b o' e'
  · simp only [if_neg (Ne.symm ht)]; exact S.tabV
theorem Ext.freeze {V V' V'' : View} {s s' : Shared} {a : Addr} (X : Ext V s V' s') (m : VLe V' V'') (h : ∀ b, b ≠ a → V'' b = V' b) (fa : s.heap.get? a = none) : Ext V s V'' s' :=
  ⟨X.mono.trans m, fun b o e => (h b fun q => by rw [q, fa] at e; cases e).trans (X.same b o e), X.keep, X.tab⟩
theorem St.write {C : Cx} {V : View} {s : Shared} {a : Addr} {h' : Heap} {tk : Nat} (S : St C V s) (hV : V a = none) (ht : a ≠ tabA) (k : ∀ b, b ≠ a → h'.get? b = s.heap.get? b) (hn : C.n ≤ tk := by walk_at "tk_le") : St C V { s with heap := h', toks := tk } :=
  S.but (s' := { s with heap := h', toks := tk }) (fun b => b = a) (fun b o hb e => (k b hb).trans e) (fun b hb => hb ▸ hV) (Ne.symm ht) rfl rfl hn
theorem Ext.write {C : Cx} {V V' : View} {s s' : Shared} {a : Addr} {h' : Heap} {tk : Nat} (X : Ext V s V' s') (S' : St C V' { s' with heap := h', toks := tk }) (fa : s.heap.get? a = none) (k : ∀ b, b ≠ a → h'.get? b = s'.heap.get? b) : Ext V s V' { s' with heap := h', toks := tk } :=
  ⟨X.mono, X.same, fun b o hb e => (k b fun q => by rw [q, fa] at e; cases e).trans (X.keep b o hb e), fun o e => let ⟨ps, h, _⟩ := S'.tab; ⟨_, h⟩⟩
theorem St.tabNone {C : Cx} {V : View} {s : Shared} (S : St C V s) {a : Addr} (h : s.heap.get? a = none) : a ≠ tabA := fun q => by obtain ⟨ps, e, _⟩ := S.tab; rw [← q, h] at e; cases e
section
variable {C : Cx} {k : Nat} {sc : Scope} {ρ : Asn} {Pn : Asn → Prop} {Pr : D → Prop}
theorem Ex1.assignComp {α : Type} (xs : List α) (g : α → Asn) (p : α → Bool) (f : α → D) (fr : Asn) {i : Nat} {x : PySem.Str} {px pos cpos : Pos} {elt tgt iter : Expr} {ifs : List Expr} {scope : Scope} (hx : nm i = x)
    (hIt : ItE C k sc ρ iter tgt (xs.map g)) (W : Sees scope sc ρ fr) (hg : ∀ x ∈ xs, ∀ q ∈ g x, scope.names.lookup (nm q.1) = some .local)
    (ht : ∀ x ∈ xs, TstL C k (relabelS scope sc) (g x ++ fr) ifs (p x)) (hel : ∀ x ∈ xs, p x = true → Ev C k (relabelS scope sc) (g x ++ fr) elt (f x)) (hsz : xs.length ≤ sizeLine)
    (hk : sc.names.lookup x = some .local) (hsw : ∀ env : Env, env.scope = sc → swapsWith (.ListComp elt [⟨tgt, iter, ifs, 0⟩] scope cpos) (some (.Name x px)) pos.line env = pure true)
    (hs : ∀ env x, foldedSetIterable iter env x = pure x := by intro _ _; rfl) :
    Ex1 C k sc ρ (.Assign [.Name x px] (.ListComp elt [⟨tgt, iter, ifs, 0⟩] scope cpos) pos) (fun r => r = (i, .list ((xs.filter p).map f)) :: ρ) Pr := fun env A V s V0 s0 he hr S F O X ff E Q qn qr => by
  subst hx
  refine hid fun G hG => ?_
  obtain ⟨cl, hc, h1, h2⟩ := closure_ok (env := env) (scope := scope) fun x hx hf => by
    have := W.free x hx hf
    rw [← he] at this
    exact F.has _ this
  refine hG ?_
  rw [exec_Assign_Name_used _ _ _ _ (hsw env he)]
  refine wpAny_bind (wpAny_standAt ?_)
  have e0 : evalThenUse (.ListComp elt [⟨tgt, iter, ifs, 0⟩] scope cpos) env (PySem.assign (.Name (nm i) px) env) = (do
      let _ ← comprehension (.ListComp elt [⟨tgt, iter, ifs, 0⟩] scope cpos) scope env (firstIterPos [⟨tgt, iter, ifs, 0⟩] cpos) (newList []) false (eval iter env) (some (PySem.assign (.Name (nm i) px) env))
      pure ()) := by rfl
  rw [e0]
  refine wpAny_bind (wpAny_bind ?_)
  refine wpAny_comprehension_free (use := some _) rfl (hs env) hc W.kind W.loc (comp_core hIt W hg ht hel hsz he hr S F h1 h2 fun Dd Cc V' s' ys n X' S' hD hR hVD hVC fD fC hDC hn => ?_)
  refine hid fun G hG => ?_
  obtain ⟨V2, m2, e2, o2, S2⟩ := S'.freeze hD hVD (S.tabNone fD)
  refine hG ?_
  have X2 : Ext V s V2 s' := X'.freeze m2 o2 fD
  have hC2 : V2 Cc = none := (o2 Cc (Ne.symm hDC)).trans hVC
  have r2 : Rep V2 (.ref Dd) (.list ((xs.filter p).map f)) := Reps.list (vs := ys.toList) (.of (n := n) (by simpa using e2)) (hR.mono m2)
  have F2 := F.ext S X2
  have hCl : Cc ≠ env.locals := fun q => by
    refine hid fun G hG => ?_
    obtain ⟨m, ⟨o, es, ep, e, _⟩, _⟩ := F.ns
    refine hG ?_
    rw [← q, fC] at e; cases e
  have hCc : ∀ y c, env.cells.lookup y = some c → c ≠ Cc := fun y c hc q => by
    obtain ⟨_, v, ⟨o, e, _⟩, _⟩ := F.cells y c hc
    rw [q, fC] at e; cases e
  refine wpAny_assign_Name (F2.storeL S2 (by rw [he]; exact hk) r2 fun h3 tk3 k3 l3 S3 F3 => ?_)
  refine hid fun G hG => ?_
  obtain ⟨m, oc, es, ep, ec, rc⟩ := hn
  refine hG ?_
  refine ⟨m, ⟨oc, es, ep, (k3 Cc hCl).trans ec, rc⟩, fun h' hs' => wpAny_pure (wpAny_pure ?_)⟩
  have S4 : St C V2 { s' with heap := h', toks := tk3 } := S3.write (s := { s' with heap := h3, toks := tk3 }) hC2 (S.tabNone fC) hs'.2
  have X3 : Ext V0 s0 V2 { s' with heap := h3, toks := tk3 } := Ext.store (X.trans X2) ff S3 (b := [(i, .none)]) fun a ha => k3 a fun q => ha (.inl q)
  have f0 : s0.heap.get? Cc = none := by
    cases q : s0.heap.get? Cc with
    | none => rfl
    | some o => have := X.keep _ _ (S.tabNone fC) q; rw [fC] at this; cases this
  exact qn _ V2 _ (Ext.write (s' := { s' with heap := h3, toks := tk3 }) X3 S4 f0 hs'.2) S4 (F3.stay (fun o e => (hs'.2 _ (Ne.symm hCl)).trans e) fun y c o hc e => (hs'.2 _ (hCc y c hc)).trans e) rfl
end
end
section
open PySem PySem.W PySem.Calls PyProof.Rows PySem.SeqAt
noncomputable def D.of : PyData → D
  | .none => .none
  | .bool b => .bool b
  | .int i => .int i
  | .str x => .str x
  | .list xs => .list (D.ofAll xs)
  | .tuple xs => .tup (D.ofAll xs)
  | .dict _ => .none
where D.ofAll : List PyData → List D
  | [] => []
  | x :: xs => D.of x :: D.ofAll xs
noncomputable abbrev D.ofAll := D.of.D.ofAll
theorem ofAll_map : ∀ xs : List PyData, D.ofAll xs = xs.map D.of
  | [] => rfl
  | x :: xs => by
    show D.of x :: D.ofAll xs = _
    rw [ofAll_map xs]; rfl
mutual
theorem Rep.reads {C : Cx} {V : View} {s : Shared} (S : St C V s) : ∀ {v : Value} {p : PyData}, p.canLay0 = true → Rep V v (D.of p) → ∃ as, Reads s.heap v p as
  | v, .none, _, r => by cases r; exact ⟨_, .none⟩
  | v, .bool b, _, r => by cases r; exact ⟨_, .bool b⟩
  | v, .int i, _, r => by obtain ⟨t, rfl⟩ := r.is; exact ⟨_, .int i t⟩
  | v, .str x, _, r => by obtain ⟨t, rfl⟩ := r.is; exact ⟨_, .str x t⟩
  | v, .list xs, h, r => by
    refine Rep.elList r fun a vs ha hs => ?_
    obtain ⟨o, e, hc, n, hd⟩ := ha.isList S
    obtain ⟨as, h2⟩ := Reps.reads S (xs := xs) h hs
    exact ⟨_, .list e hc hd (by simpa using h2)⟩
  | v, .tuple xs, h, r => by
    obtain ⟨a, vs, rfl, ha, hs⟩ := r.inv_tup
    obtain ⟨o, e, hc, n, hd⟩ := ha.isTup S
    obtain ⟨as, h2⟩ := Reps.reads S (xs := xs) h hs
    exact ⟨_, .tuple e hc hd (by simpa using h2)⟩
  | v, .dict _, h, _ => by cases h
theorem Reps.reads {C : Cx} {V : View} {s : Shared} (S : St C V s) : ∀ {vs : List Value} {xs : List PyData}, PyData.canLayAll0 xs = true → Reps V vs (D.ofAll xs) → ∃ as, ReadsAll s.heap vs xs as
  | vs, [], _, hs => by
    obtain rfl := Reps.inv_nil hs
    exact ⟨_, .nil⟩
  | vs, x :: xs, h, hs => by
    obtain ⟨v, vs', rfl, r, rs⟩ := Reps.inv_cons (d := D.of x) (ds := D.ofAll xs) hs
    rw [PyData.canLayAll0, Bool.and_eq_true] at h
    obtain ⟨as, h1⟩ := Rep.reads S h.1 r
    obtain ⟨bs, h2⟩ := Reps.reads S h.2 rs
    exact ⟨_, .cons h1 h2⟩
end
section
variable {C : Cx} {k : Nat} {sc : Scope} {ρ : Asn} {Pn : Asn → Prop} {Pr : D → Prop}
theorem Op2.neD {p q : PyData} (hp : shaped p = true) (hq : shaped q = true) : Op2 C (k + 2) (compareOp .NotEq) (.of p) (.of q) (.bool (!PyData.eqv p q)) := fun A V s v1 v2 hr S r1 r2 => by
  obtain ⟨as, h1⟩ := r1.reads S (canLay_of_shaped hp)
  obtain ⟨bs, h2⟩ := r2.reads S (canLay_of_shaped hq)
  exact .of_tok S fun E Q q' => PyProof.Rows.ne_dataH h1 h2 hp hq (by have := hr.2.1; simp only [cLine]; lia) (q' _ s.toks (.bool _))
theorem Op2.neSame {d : D} (p : PyData) (hd : d = .of p) (hp : shaped p = true) : Op2 C (k + 2) (compareOp .NotEq) d d (.bool false) := by
  subst hd
  have := Op2.neD (C := C) (k := k) hp hp
  rwa [eqv_refl p (canLay_of_shaped hp)] at this
theorem Op2.addL {xs ys : List D} (h : xs.length + ys.length ≤ sizeLine) : Op2 C k (binaryOp .Add) (.list xs) (.list ys) (.list (xs ++ ys)) := fun A V s v1 v2 hr S r1 r2 => by
  refine hid fun G hG => ?_
  obtain ⟨a, us, rfl, ha, hs⟩ := r1.inv_list
  obtain ⟨b, ws, rfl, hb, ht⟩ := r2.inv_list
  obtain ⟨⟨cls, dd, data, sl⟩, ho, hc, n, hd⟩ := ha.isList S
  obtain ⟨⟨cls2, dd2, data2, sl2⟩, ho2, hc2, n2, hd2⟩ := hb.isList S
  refine hG ?_
  simp only at hc hd hc2 hd2
  subst hc hd hc2 hd2
  refine .of_new S fun E Q q => concat_meets ⟨_, ho, rfl⟩ ⟨_, ho2, rfl⟩ noFill_list_add seq_list_add F.slot_list_add F.entry_list_add (F.args_list_add_2 _ _) (list_addW a b us.toArray ws.toArray n n2 dd dd2 sl sl2 (by simp only [List.size_toArray]; rw [hs.1, ht.1]; exact h)) ⟨ho, ho2, q _ _ s.toks (fun b o e => Heap.get?_push_of_some _ e) ?_⟩
  have mono : VLe V (grow V s.heap (s.heap.push { cls := .type "list", data := .seq (us.toArray ++ ws.toArray) })) := fun a o e => by rw [grow_old (S.sub a o e)]; exact e
  refine Reps.list (vs := us ++ ws) (.of (n := 0) ?_) ?_
  · rw [grow_new get_size]; simpa using Heap.get?_push_size _ rfl
  · refine ⟨by simp [hs.1, ht.1], fun i v d hv hd => ?_⟩
    by_cases hi : i < us.length
    · rw [List.getElem?_append_left hi] at hv
      rw [List.getElem?_append_left (hs.1 ▸ hi)] at hd
      exact (hs.2 i v d hv hd).mono mono
    · rw [List.getElem?_append_right (by lia)] at hv
      rw [List.getElem?_append_right (by rw [← hs.1]; lia), ← hs.1] at hd
      exact (ht.2 _ v d hv hd).mono mono
theorem Op2.inStrs {x : PySem.Str} {ys : List PySem.Str} : Op2 C k (compareOp .In) (.str x) (.list (ys.map .str)) (.bool (ys.any (· == x))) := fun A V s v1 v2 hr S r1 r2 => by
  refine Rep.elStr r1 fun t => ?_
  refine Rep.elList r2 fun a vs ha hs => ?_
  obtain ⟨l, rfl, rfl⟩ := strs_vals hs
  refine .of_tok S fun E Q q => SeqInW.in_listW (fun v => match v with | .str y _ => y == x | _ => false) (fun y hy => ?_) (ha.isList S) ?_
  · have hy' : y ∈ strValues l := by simpa using hy
    obtain ⟨p, _, rfl⟩ := List.mem_map.mp hy'
    have := SeqRoads2.EqGives.str p.1 x p.2 t
    rwa [str_beq] at this
  · refine q _ s.toks ?_
    have : (strValues l).toArray.any (fun v => match v with | .str y _ => y == x | _ => false) = (l.map (·.1)).any (· == x) := by
      rw [List.any_toArray]
      unfold strValues
      rw [List.any_map, List.any_map]; rfl
    rw [this]; exact .bool _
theorem Op2.inInts {x : Int} {ys : List Int} : Op2 C k (compareOp .In) (.int x) (.list (ys.map .int)) (.bool (ys.any (· == x))) := fun A V s v1 v2 hr S r1 r2 => by
  refine Rep.elInt r1 fun t => ?_
  refine Rep.elList r2 fun a vs ha hs => ?_
  obtain ⟨l, rfl, rfl⟩ := int_vals hs
  refine .of_tok S fun E Q q => SeqInW.in_listW (fun v => match v with | .int y _ => y == x | _ => false) (fun y hy => ?_) (ha.isList S) ?_
  · have hy' : y ∈ l.map (fun p => Value.int p.1 p.2) := by simpa using hy
    obtain ⟨p, _, rfl⟩ := List.mem_map.mp hy'
    exact MeetsSeq.EqGives.int p.1 x p.2 t
  · refine q _ s.toks ?_
    have : (l.map (fun p => Value.int p.1 p.2)).toArray.any (fun v => match v with | .int y _ => y == x | _ => false) = (l.map (·.1)).any (· == x) := by
      rw [List.any_toArray, List.any_map, List.any_map]; rfl
    rw [this]; exact .bool _
noncomputable def AttrR (C : Cx) (k : Nat) (d : D) (name : PySem.Str) (d' : D) : Prop := ∀ (A : Around) (V : View) (s : Shared) (v : Value), Room k A → St C V s → Rep V v d → Yd C A V s (getAttr v name true) d'
theorem Ev.attr {e : Expr} {name : PySem.Str} {pos : Pos} {d d' : D} (h : Ev C k sc ρ e d) (ha : AttrR C k d name d') (hbase : ∀ env, attributeBase e name env (eval e env) = eval e env := by intro _; rfl) :
    Ev C k sc ρ (.Attribute e name pos) d' := fun env A V s he hr S F => by
  have e0 : eval (.Attribute e name pos) env = (do
      let o ← attributeBase e name env (eval e env)
      standAt pos.atName
      let r ← holding [o] (getAttr o name true)
      letTemporaryGo e o r
      pure r) := rfl
  rw [e0, hbase]
  refine (h env A V s he hr S F).bind fun v V1 s1 X1 S1 r => .standAt ((Yl.holding (ha A V1 s1 v hr S1 r)).bind fun u V2 s2 X2 S2 ru => ?_)
  exact fun E Q q => wpAny_bind (wpAny_letTemporaryGo (wpAny_pure (q u V2 s2 (.refl V2 s2) S2 ru)))
theorem St.inK (S : St C V s) : C.K.In s.heap := C.inK.keeps fun b o e => S.sub _ _ (S.base _ _ e)
theorem instAt_of {V : View} {s : Shared} (S : St C V s) {a dx : Addr} {es : List DictEntry} {n : Nat} (h : V a = some (instObj entryA dx)) (hd : V dx = some (dictOf es n)) : InstAt s.heap a (instObj entryA dx) entryA (some (dictOf es n)) :=
  ⟨S.sub _ _ h, rfl, rfl, S.sub _ _ hd⟩
structure EntK (C : Cx) : Prop where
  hg : plainGet C.K entryA "" = true
  hh : hasDictIn C.K entryA = true
  f1 : findIn C.K (.ref entryA) "useragents" = some none
  f2 : findIn C.K (.ref entryA) "rulelines" = some none
  f3 : findIn C.K (.ref entryA) "delay" = some none
  f4 : findIn C.K (.ref entryA) "req_rate" = some none
theorem handedRep {V : View} {v : Value} {d : D} (r : Rep V v d) : handedIn v = true := by
  cases r with
  | rule v u ga name side d h hg hu => obtain ⟨a, rfl⟩ := h.isRef; rfl
  | _ => rfl
theorem AttrR.entry {name : PySem.Str} (H : EntK C) {d1 d2 d3 d4 d : D} (hf : findIn C.K (.ref entryA) name = some none)
    (hv : (name = "useragents" ∧ d = d1) ∨ (name = "rulelines" ∧ d = d2) ∨ (name = "delay" ∧ d = d3) ∨ (name = "req_rate" ∧ d = d4)) : AttrR C k (.entry d1 d2 d3 d4) name d := fun A V s v hr S r => by
  refine hid fun G hG => ?_
  obtain ⟨a, dx, es, n, v1, v2, v3, v4, rfl, h, hd, h1, h2, h3, h4, h5, h6, r1, r2, r3, r4⟩ := r.is
  refine hG ?_
  have main : ∀ v d, getL name es = some (some v) → Rep V v d → Yd C A V s (getAttr (.ref a) name true) d := fun v d hl r => .of_tok S fun E Q q =>
    get_value S.inK (instAt_of S h hd) (plainGet_of H.hg).1 (findObj_own H.hh hf rfl hl) (handedRep r) (q _ _ r)
  rcases hv with ⟨rfl, rfl⟩ | ⟨rfl, rfl⟩ | ⟨rfl, rfl⟩ | ⟨rfl, rfl⟩
  · exact main v1 _ h1 r1
  · exact main v2 _ h2 r2
  · exact main v3 _ h3 r3
  · exact main v4 _ h4 r4
end
end
section
open PySem PySem.W PySem.Calls PyProof.Rows PySem.Builtin PySem.Builtin.ObjectAttr
theorem fn_run {C : Cx} {k : Nat} {f : Addr} {name qual : PySem.Str} {params : Arguments} {body : List Stmt} {scope : Scope} {dV kV doc pm cdv ct oc : Value} {an od : Option Addr} {osl : Array (Option Value)} {ids : List Nat} {ds : List D}
    (hl : C.K.lookup f = some ⟨oc, od, .func (fnOf name qual params body scope dV kV doc pm an cdv ct), osl⟩) (hcd : codeIn C.K cdv qual = true) (hlen : ids.length = ds.length)
    (hb : ∀ vs : List Value, vs.length = ids.length → bindArgs (fnOf name qual params body scope dV kV doc pm an cdv ct) ⟨vs, []⟩ = pure ((ids.map nm).zip vs)) (ok : DefOk scope ids)
    {A : Around} {V : View} {s : Shared} {vs : List Value} {R : Result → Shared → Prop} (hr : Room (k + 2) A) (S : St C V s) (rs : Reps V vs ds)
    (h : ∀ (env : Env) (s' : Shared), env.frame = some env.locals → env.scope = scope → env.code = cdv → env.qual = qual ++ ".<locals>." → Room k (A.deeper env) → St C V s' → Frm C env (ids.zip ds) V s'.heap → CellsOnce env → Ext V s V s' → Fresh env s →
      wpAny C.M (A.deeper env) (execs body env) (fun fl s'' => R (.ok (.ret (match fl with | .ret v => v | _ => .none))) s'')
        (fun e s'' => wpAny C.M (A.deeper env) (leaving env e) (fun _ s3 => R (.error e) s3) (fun e' s3 => R (.error e') s3) s'') s') :
    codeAny C.M A (.call (.ref f) ⟨vs, []⟩) R s := by
  have ho := S.sub _ _ (S.base _ _ (C.inK _ _ hl))
  have hlim : s.heap.NoLimit := by
    obtain ⟨mc, ⟨o, es, ep, e, r⟩, h2⟩ := C.nolimit
    exact ⟨mc, ⟨o, es, ep, S.sub _ _ (S.base _ _ e), r⟩, h2⟩
  have hrec : s.heap.CodeRec cdv qual := (codeRec_of C.inK hcd).keeps fun b o e => S.sub _ _ (S.base _ _ e)
  refine codeAny_call_function hr.depth ho rfl ok.co ok.gen rfl hrec ?_
  rw [hb vs (rs.1.trans hlen.symm)]
  refine wpAny_pure ?_
  have bkind : ∀ n, ∀ x ∈ (ids.map nm).zip vs, scope.names.lookup x.1 = some .local ∨ (scope.names.lookup x.1 = some .cell ∧ ((cellsFrom n scope.names []).lookup x.1).isSome = true) := fun n x hx => by
    obtain ⟨i, hi, e⟩ := zip_fst hx
    rw [e]
    refine (ok.params i hi).imp id fun ⟨h1, _⟩ => ⟨h1, ?_⟩
    obtain ⟨c, hc⟩ := lookup_isSome_of_mem (cells_mem (n := n) (acc := []) (.inl (mem_of_lookupN h1)))
    rw [hc]; rfl
  refine wp_toks' S.tk (wpAny_newFunctionEnv_cells ok.kind (bkind _) fun env' he' s' x hn => ?_)
  have hes : env'.scope = scope := by rw [he']; rfl
  have hel : env'.locals = s.heap.objs.size := by rw [he']; rfl
  have hec : env'.cells = cellsFrom (s.heap.objs.size + 1) scope.names [] := by rw [he']; rfl
  obtain ⟨h', tk, rfl, hk⟩ := x.done
  refine ⟨hlim.keeps hk, codeAny_func ?_⟩
  have S' : St C V { s with heap := h', toks := tk } := S.keeps hk hn
  have X' : Ext V s V { s with heap := h', toks := tk } := .keeps hk
  have hnd : (env'.cells.map (·.1)).Nodup := by
    rw [hec, cellsFrom_names scope.names (s.heap.objs.size + 1) 0 [] [] rfl]; exact ok.once
  have fr : Fresh env' s := ⟨by rw [hel]; exact get_size, fun y c hc => by
    cases q : s.heap.get? c with
    | none => rfl
    | some o =>
      have h1 : @LT.lt Nat _ env'.locals c := x.above y c (mem_of_lookup hc)
      have h2 := lt_of_get q
      rw [hel] at h1
      omega⟩
  have vnone : ∀ a, s.heap.get? a = none → V a = none := fun a ha => by
    cases q : V a with
    | none => rfl
    | some o => rw [S.sub _ _ q] at ha; cases ha
  have F' : Frm C env' (ids.zip ds) V h' := by
    refine ⟨by rw [hes]; exact ok.kind, by rw [he']; rfl, by rw [he']; rfl, ⟨_, x.toInCall.ns, fun i e hi hk => ?_⟩, vnone _ fr.loc, fun y c hc => ⟨.inl (vnone _ (fr.cell y c hc)), _, x.cell y c hc, fun i e hi hk he => ?_⟩, fun y hy => ?_, fun y z c hy hz => ?_, fun i e hi => ?_⟩
    · obtain ⟨j, h1, h2⟩ := zip_get hi
      have hj : j < vs.length := by have := (List.getElem?_eq_some_iff.mp h2).1; rw [rs.1]; exact this
      exact ⟨vs[j], bindL_get ok.nodup h1 (List.getElem?_eq_getElem hj) hk, rs.2 j _ _ (List.getElem?_eq_getElem hj) h2⟩
    · subst hi
      obtain ⟨j, h1, h2⟩ := zip_get he
      have hj : j < vs.length := by have := (List.getElem?_eq_some_iff.mp h2).1; rw [rs.1]; exact this
      have hk' : env'.kindOf (nm i) = some .cell := by
        rcases hk with hk | hk
        · exact hk
        · rw [hes] at hk; exact absurd rfl (ok.nofree _ (mem_of_lookupN hk))
      exact ⟨vs[j], bindC_get ok.nodup h1 (List.getElem?_eq_getElem hj) hk', rs.2 j _ _ (List.getElem?_eq_getElem hj) h2⟩
    · rw [hes] at hy
      rcases hy with hy | hy
      · rw [hec]; exact lookup_isSome_of_mem (cells_mem (.inl (mem_of_lookupN hy)))
      · exact absurd rfl (ok.nofree _ (mem_of_lookupN hy))
    · exact name_of_addr x.apart (mem_of_lookup hy) (mem_of_lookup hz)
    · obtain ⟨j, h1, _⟩ := zip_get hi
      rw [hes]
      exact (ok.params i (List.mem_of_getElem? h1)).imp id fun h => .inl h.1
  have once : CellsOnce env' := ⟨fun c hc => by
    obtain ⟨⟨y, c'⟩, hm, rfl⟩ := List.mem_map.mp hc
    exact ⟨y, lookup_of_mem_nodup hnd hm⟩, fun y c hc => by
    rw [hes]
    refine ok.cellk y ?_
    rw [← cellsFrom_names scope.names (s.heap.objs.size + 1) 0 [] [] rfl, ← hec]
    exact List.mem_map.mpr ⟨(y, c), mem_of_lookup hc, rfl⟩⟩
  exact h env' _ (by rw [he']; rfl) hes (by rw [he']; rfl) (by rw [he']; rfl) (hr.mono (Nat.le_succ _)).deeper S' F' once X' fr
structure Own (V : View) (s : Shared) (a : Addr) (o : Obj) : Prop where
  at_ : s.heap.get? a = some o
  free : V a = none
  tab : a ≠ tabA
theorem Own.ext {V V' : View} {s s' : Shared} {a : Addr} {o : Obj} (x : Own V s a o) (X : Ext V s V' s') : Own V' s' a o := ⟨X.keep a o x.tab x.at_, (X.same a o x.at_).trans x.free, x.tab⟩
section
variable {C : Cx} {k : Nat} {sc : Scope} {ρ : Asn} {A : Around} {V V0 : View} {s s0 : Shared} {env : Env}
theorem sid {prog : Program} {w : World} {A : Around} {E : Value → Shared → Prop} {s : Shared} {d : Addr} {name : PySem.Str} {v : Value} {tk : Tok} {es : List DictEntry} {n : Nat} {Q : Fin → Shared → Prop} (hd : s.heap.get? d = some (dictOf es n)) (hl : (getL name es).isSome = true)
    (hz : es.length ≤ 100)
    (h : Q (.done (.ret .none)) { s with heap := s.heap.update d (Obj.putName name (PyData.keyHash w.params name) (.str name s.toks) v), toks := s.toks + 1 }) : wpAny (model prog w) A (storeInDict d (.str name tk) name v) Q E s := by
  unfold storeInDict newKeyGuard
  refine wpAny_bind (wpAny_pure (wpAny_bind ?_))
  unfold nsSet
  refine wpAny_bind (wpAny_bind (wpAny_askSetting (wpAny_pure (wpAny_bind (wpAny_mkText (wpAny_bind (wpAny_loadPart hd ?_)))))))
  dsimp only
  have c : (!(es.toArray).any (·.key.isStr name) && (es.toArray).any (·.refKey)) = false := by
    rw [← Array.any_toList, ← Array.any_toList]
    unfold getL at hl
    split at hl
    · rename_i en he
      rw [List.any_eq_true.mpr ⟨en, by simpa using List.mem_of_find?_eq_some he, List.find?_some he⟩]; rfl
    · split at hl
      · cases hl
      · rename_i z; rw [Bool.not_eq_true] at z; simp only [List.toList_toArray]; rw [z, Bool.and_false]
  rw [aRefKeyMayBeTheName_at, c]
  refine wpAny_updatePart hd ?_
  have D' : (s.heap.update d (Obj.putName name (PyData.keyHash w.params name) (.str name s.toks) v)).get? d = some (dictOf (putL name (PyData.keyHash w.params name) (.str name s.toks) v es) (putN name es n)) := by
    have := Heap.get?_update_self (Obj.putName name (PyData.keyHash w.params name) (.str name s.toks) v) hd (by rw [putName_dict]; rfl)
    rw [putName_dict] at this
    exact this
  refine wpAny_bind (wpAny_lookBehind D' (pastItsLine_dict (by
    rw [List.size_toArray, sizeLine_eq]
    have : ∀ es : List DictEntry, (putL name (PyData.keyHash w.params name) (.str name s.toks) v es).length ≤ es.length + 1 := by
      intro es
      induction es with
      | nil => simp [putL]
      | cons a r ih => unfold putL; split <;> simp <;> lia
    have := this es
    lia)) ?_)
  exact wpAny_pure h
structure Atts (es : List DictEntry) (f : PySem.Str → Option Value) (l : Nat) : Prop where
  find : ∀ m, (es.find? (·.key.isStr m)).map (·.val) = f m
  noref : es.any (·.refKey) = false
  len : es.length ≤ l
theorem Atts.nil : Atts [] (fun _ => none) 0 := ⟨fun _ => rfl, rfl, Nat.le_refl _⟩
theorem Atts.get {es : List DictEntry} {f : PySem.Str → Option Value} {l : Nat} (h : Atts es f l) (m : PySem.Str) : getL m es = some (f m) := by
  rw [← h.find m]
  unfold getL
  cases es.find? (·.key.isStr m) with
  | some e => rfl
  | none => simp [h.noref]
theorem putL_len (name : PySem.Str) (hsh : Int) (key v : Value) : ∀ es : List DictEntry, (putL name hsh key v es).length ≤ es.length + 1
  | [] => by simp [putL]
  | a :: r => by
    have := putL_len name hsh key v r
    unfold putL; split <;> simp <;> omega
theorem putL_ref (name : PySem.Str) (hsh : Int) (t : Tok) (v : Value) : ∀ es : List DictEntry, es.any (·.refKey) = false → (putL name hsh (.str name t) v es).any (·.refKey) = false
  | [], _ => rfl
  | a :: r, h => by
    rw [List.any_cons, Bool.or_eq_false_iff] at h
    unfold putL
    split
    · rw [List.any_cons, Bool.or_eq_false_iff]; exact ⟨h.1, h.2⟩
    · rw [List.any_cons, Bool.or_eq_false_iff]; exact ⟨h.1, putL_ref name hsh t v r h.2⟩
theorem isStr_one {x : Value} {name m : PySem.Str} (h1 : x.isStr name = true) (h2 : x.isStr m = true) : m = name := by
  cases x with
  | str y u => exact (eq_of_beq h2).symm.trans (eq_of_beq h1)
  | _ => cases h1
theorem find_put {name m : PySem.Str} {hsh : Int} {t : Tok} {v : Value} : ∀ es : List DictEntry, ((putL name hsh (.str name t) v es).find? (·.key.isStr m)).map (·.val) = if m = name then some v else (es.find? (·.key.isStr m)).map (·.val)
  | [] => by
    show Option.map (fun e : DictEntry => e.val) (List.find? (fun e : DictEntry => e.key.isStr m) [⟨hsh, .str name t, v⟩]) = _
    by_cases h : m = name
    · subst h; simp [Value.isStr]
    · have : (name == m) = false := by simpa using fun q => h (Eq.symm q)
      simp [Value.isStr, this, h]
  | a :: r => by
    have ih := find_put (name := name) (m := m) (hsh := hsh) (t := t) (v := v) r
    unfold putL
    by_cases hn : a.key.isStr name = true
    · rw [if_pos hn]
      by_cases hm : a.key.isStr m = true
      · obtain rfl := isStr_one hn hm
        simp [hm]
      · have : m ≠ name := fun q => hm (q ▸ hn)
        simp [hm, this]
    · rw [if_neg hn]
      by_cases hm : a.key.isStr m = true
      · have : m ≠ name := fun q => hn (q ▸ hm)
        simp [hm, this]
      · simpa [hm] using ih
theorem Atts.put {es : List DictEntry} {f : PySem.Str → Option Value} {l : Nat} (h : Atts es f l) (name : PySem.Str) (hsh : Int) (t : Tok) (v : Value) : Atts (putL name hsh (.str name t) v es) (fun m => if m = name then some v else f m) (l + 1) :=
  ⟨fun m => by rw [find_put, h.find], putL_ref _ _ _ _ _ h.noref, Nat.le_trans (putL_len ..) (Nat.add_le_add_right h.len 1)⟩
theorem set_inst {E : Value → Shared → Prop} {Q : Unit → Shared → Prop} {x dx : Addr} {es : List DictEntry} {n l : Nat} {f : PySem.Str → Option Value} {name : PySem.Str} {v : Value} (S : St C V s) (hx : Own V s x (instObj entryA dx)) (hd : Own V s dx (dictOf es n)) (hxd : x ≠ dx) (at_ : Atts es f l) (hl : l ≤ 50)
    (hs : findIn C.K (.ref entryA) "__setattr__" = some (some (.builtin "object.__setattr__"))) (hp : plainOver C.K entryA = true) (ht : takerIn C.K entryA name = some none) (hh : (clsIn C.K entryA).any (·.hasDict) = true)
    (q : ∀ h' tk es' n', Atts es' (fun m => if m = name then some v else f m) (l + 1) → St C V { s with heap := h', toks := tk } → Own V { s with heap := h', toks := tk } x (instObj entryA dx) → Own V { s with heap := h', toks := tk } dx (dictOf es' n') → (∀ b, b ≠ dx → h'.get? b = s.heap.get? b) → Q () { s with heap := h', toks := tk }) :
    wpAny C.M A (setAttr (.ref x) name v) Q E s := by
  have I : InstAt s.heap x (instObj entryA dx) entryA (some (dictOf es n)) := ⟨hx.at_, rfl, rfl, hd.at_⟩
  refine set_plain S.inK I hs (osa_open (s := { s with toks := s.toks + 1 }) S.inK I hp ht fun b => ?_)
  obtain ⟨cd, hc, hd'⟩ := any_some hh
  refine wpAny_bind (wpAny_pure (wpAny_bind (wpAny_bind (wpAny_loadPart (s := { s with toks := s.toks + 1 }) hx.at_ (wpAny_bind ((looks_clsIn (h := s.heap) S.inK hc).here (s := { s with toks := s.toks + 1 }) ?_))))))
  rw [hd']
  refine wpAny_pure (a := some dx) (sid (s := { s with toks := s.toks + 1 }) hd.at_ (by rw [at_.get]; rfl) (by have := at_.len; lia) ?_)
  have hk : ∀ b, b ≠ dx → (s.heap.update dx (Obj.putName name (PyData.keyHash C.w.params name) (.str name (s.toks + 1)) v)).get? b = s.heap.get? b := fun b hb => Heap.get?_update_other _ _ (Ne.symm hb)
  have D' : (s.heap.update dx (Obj.putName name (PyData.keyHash C.w.params name) (.str name (s.toks + 1)) v)).get? dx = some (dictOf (putL name (PyData.keyHash C.w.params name) (.str name (s.toks + 1)) v es) (putN name es n)) := by
    have := Heap.get?_update_self (Obj.putName name (PyData.keyHash C.w.params name) (.str name (s.toks + 1)) v) hd.at_ (by rw [putName_dict]; rfl)
    rw [putName_dict] at this
    exact this
  exact q _ _ _ _ (at_.put name (PyData.keyHash C.w.params name) (s.toks + 1) v) (S.write hd.free hd.tab hk (by show C.n ≤ s.toks + 1 + 1; have := S.tk; lia)) ⟨(hk x hxd).trans hx.at_, hx.free, hx.tab⟩ ⟨D', hd.free, hd.tab⟩ hk
structure EntC (C : Cx) : Prop where
  makes : makesIn C.K entryA = true
  init : findIn C.K (.ref entryA) "__init__" = some (some (.ref 45))
  initF : typeIn C.K (.ref 45) = some (.type "function")
  hs : findIn C.K (.ref entryA) "__setattr__" = some (some (.builtin "object.__setattr__"))
  hp : plainOver C.K entryA = true
  hh : (clsIn C.K entryA).any (·.hasDict) = true
  t1 : takerIn C.K entryA "useragents" = some none
  t2 : takerIn C.K entryA "rulelines" = some none
  t3 : takerIn C.K entryA "delay" = some none
  t4 : takerIn C.K entryA "req_rate" = some none
theorem attr_st {E : Value → Shared → Prop} {Q : Flow → Shared → Prop} {i : Nat} {xn name : PySem.Str} {p ap pos : Pos} {e : Expr} {d : D} {x dx : Addr} {es : List DictEntry} {n l : Nat} {f : PySem.Str → Option Value} (H : EntC C) (hn : nm i = xn) (h : Ev C k sc ρ e d)
    (ht : takerIn C.K entryA name = some none) (hsw : ∀ env, swapsWith e (some (.Attribute (.Name xn p) name ap)) pos.line env = pure false)
    (he : env.scope = sc) (hr : Room k A) (S : St C V s) (F : Frm C env ρ V s.heap) (X : Ext V0 s0 V s) (f0 : s0.heap.get? dx = none) (hg : ρ.get i = some (.own x))
    (hx : Own V s x (instObj entryA dx)) (hd : Own V s dx (dictOf es n)) (hxd : x ≠ dx) (at_ : Atts es f l) (hl : l ≤ 50) (hloc : env.locals ≠ dx) (hcell : ∀ y c, env.cells.lookup y = some c → c ≠ dx)
    (q : ∀ v V' s' es' n', Ext V0 s0 V' s' → St C V' s' → Frm C env ρ V' s'.heap → VLe V V' → Rep V' v d → Own V' s' x (instObj entryA dx) → Own V' s' dx (dictOf es' n') → Atts es' (fun m => if m = name then some v else f m) (l + 1) → Q .next s') :
    wpAny C.M A (exec (.Assign [.Attribute (.Name xn p) name ap] e pos) env) Q E s := by
  subst hn
  refine plainObj_wpAny_Assign_Attribute (h env A V s he hr S F E _ fun v V1 s1 X1 S1 r => ?_) (hsw env)
  refine Ev.name (C := C) (k := k) (pos := p) rfl hg env A V1 s1 he hr S1 (F.ext S X1) E _ fun u V2 s2 X2 S2 ru => ?_
  obtain rfl := ru.is
  have hx2 := (hx.ext X1).ext X2
  have hd2 := (hd.ext X1).ext X2
  refine set_inst S2 hx2 hd2 hxd at_ hl H.hs H.hp ht H.hh fun h' tk es' n' at' S3 hx3 hd3 hk => ?_
  exact q v V2 _ es' n' (Ext.write (s' := s2) ((X.trans X1).trans X2) S3 f0 hk) S3 (((F.ext S X1).ext S1 X2).stay (fun o e => (hk _ hloc).trans e) fun y c o hc e => (hk _ (hcell y c hc)).trans e) (X1.mono.trans X2.mono) (r.mono X2.mono) hx3 hd3 at'
noncomputable abbrev entF (v1 v2 v3 v4 : Value) : PySem.Str → Option Value := fun m => if m = Str.ofString "req_rate" then some v4 else if m = Str.ofString "delay" then some v3 else if m = Str.ofString "rulelines" then some v2 else if m = Str.ofString "useragents" then some v1 else none
end
end
section
open PySem PySem.W PySem.Calls PyProof.Rows
theorem ItE.listN {C : Cx} {k : Nat} {sc : Scope} {ρ : Asn} {iter : Expr} {i : Nat} {x : PySem.Str} {pos : Pos} {ds : List D} (hx : nm i = x) (h : Ev C k sc ρ iter (.list ds)) : ItE C k sc ρ iter (.Name x pos) (ds.map fun d => [(i, d)]) := hx ▸ ItE.list h
theorem ItE.strN {C : Cx} {k : Nat} {sc : Scope} {ρ : Asn} {iter : Expr} {i : Nat} {x : PySem.Str} {pos : Pos} {y : PySem.Str} (hx : nm i = x) (h : Ev C k sc ρ iter (.str y)) : ItE C k sc ρ iter (.Name x pos) (y.cps.toList.map fun c => [(i, D.str ⟨#[c]⟩)]) := hx ▸ ItE.str h
theorem ItE.range1N {C : Cx} {k : Nat} {sc : Scope} {ρ : Asn} {p pos pt : Pos} {e : Expr} {i n : Nat} {z : Int} {x y : PySem.Str} (hy : nm i = y) (hx : sc.names.lookup x = some .globalImplicit) (hf : GFn C x (.type "range")) (he : Ev C k sc ρ e (.int z)) (hz : z = n) (hn : n < 2 ^ 60) (hst : ∀ env, starEach [e] env = (false, eval e env) :: starEach [] env := by intro _; rfl)
    (hd : (x == ("__debug__" : Str)) = false := by decide) : ItE C k sc ρ (.Call (.Name x p) [e] [] pos) (.Name y pt) ((List.range n).map fun (j : Nat) => [(i, D.int j)]) := by subst hy; subst hz; exact ItE.range1 hx hf he hn hst hd
theorem ItE.range2N {C : Cx} {k : Nat} {sc : Scope} {ρ : Asn} {p pos pt : Pos} {e1 e2 : Expr} {i : Nat} {a b : Int} {x y : PySem.Str} (hy : nm i = y) (hx : sc.names.lookup x = some .globalImplicit) (hf : GFn C x (.type "range")) (h1 : Ev C k sc ρ e1 (.int a)) (h2 : Ev C k sc ρ e2 (.int b)) (ha : 0 ≤ a) (ha' : a < 2 ^ 60) (hb : b < 2 ^ 60) (hb0 : -(2 ^ 60) < b)
    (hst : ∀ env, starEach [e1, e2] env = [(false, eval e1 env), (false, eval e2 env)] := by intro _; rfl) (hd : (x == ("__debug__" : Str)) = false := by decide) (hs2 : ∀ env, starEach [e2] env = (false, eval e2 env) :: starEach [] env := by intro _; rfl) :
    ItE C k sc ρ (.Call (.Name x p) [e1, e2] [] pos) (.Name y pt) ((List.range (b - a).toNat).map fun (j : Nat) => [(i, D.int (a + (j : Int)))]) := by subst hy; exact ItE.range2 hx hf h1 h2 ha ha' hb hb0 hst hd hs2
theorem ItE.enumN {C : Cx} {k : Nat} {sc : Scope} {ρ : Asn} {x x1 x2 : PySem.Str} {p pos p1 p2 p3 : Pos} {n : Nat} {e : Expr} {i j : Nat} {xs : List D} (h1 : nm i = x1) (h2 : nm j = x2) (hx : sc.names.lookup x = some .globalImplicit) (hf : GFn C x (.type "enumerate")) (he : Ev C k sc ρ e (.list xs)) (hst : ∀ env, starEach [e] env = (false, eval e env) :: starEach [] env := by intro _; rfl)
    (hd : (x == ("__debug__" : Str)) = false := by decide) :
    ItE C k sc ρ (.Call (.Name x p) [e] [] pos) (.Tuple [.Name x1 p1, .Name x2 p2] n p3) (((List.range xs.length).zip xs).map fun d => [(j, d.2), (i, D.int (d.1 : Nat))]) := by subst h1; subst h2; exact ItE.enum hx hf he hst hd
theorem ItE.zipN {C : Cx} {k : Nat} {sc : Scope} {ρ : Asn} {x x1 x2 : PySem.Str} {p pos p1 p2 p3 : Pos} {n : Nat} {e1 e2 : Expr} {i j : Nat} {xs ys : List D} (n1 : nm i = x1) (n2 : nm j = x2) (hx : sc.names.lookup x = some .globalImplicit) (hf : GFn C x (.type "zip")) (h1 : Ev C k sc ρ e1 (.list xs)) (h2 : Ev C k sc ρ e2 (.list ys))
    (hst : ∀ env, starEach [e1, e2] env = [(false, eval e1 env), (false, eval e2 env)] := by intro _; rfl) (hs2 : ∀ env, starEach [e2] env = (false, eval e2 env) :: starEach [] env := by intro _; rfl) (hd : (x == ("__debug__" : Str)) = false := by decide) :
    ItE C k sc ρ (.Call (.Name x p) [e1, e2] [] pos) (.Tuple [.Name x1 p1, .Name x2 p2] n p3) ((xs.zip ys).map fun d => [(j, d.2), (i, d.1)]) := by subst n1; subst n2; exact ItE.zip hx hf h1 h2 hst hs2 hd
theorem ItE.pairsN {C : Cx} {k : Nat} {sc : Scope} {ρ : Asn} {x1 x2 : PySem.Str} {iter : Expr} {p1 p2 p3 : Pos} {n i j : Nat} {ds : List (D × D)} (n1 : nm i = x1) (n2 : nm j = x2) (h : Ev C k sc ρ iter (.list (ds.map fun d => .tup [d.1, d.2]))) : ItE C k sc ρ iter (.Tuple [.Name x1 p1, .Name x2 p2] n p3) (ds.map fun d => [(j, d.2), (i, d.1)]) := by subst n1; subst n2; exact ItE.pairs h
theorem Ev.compMap {C : Cx} {k : Nat} {sc : Scope} {ρ : Asn} {α : Type} (xs : List α) (g : α → Asn) (f : α → D) (fr : Asn) {elt tgt iter : Expr} {scope : Scope} {pos : Pos}
    (hIt : ItE C k sc ρ iter tgt (xs.map g)) (W : Sees scope sc ρ fr) (hg : ∀ x ∈ xs, ∀ q ∈ g x, scope.names.lookup (nm q.1) = some .local)
    (hel : ∀ x ∈ xs, Ev C k (relabelS scope sc) (g x ++ fr) elt (f x)) (hsz : xs.length ≤ sizeLine)
    (hs : ∀ env x, foldedSetIterable iter env x = pure x := by intro _ _; rfl) : Ev C k sc ρ (.ListComp elt [⟨tgt, iter, [], 0⟩] scope pos) (.list (xs.map f)) := by
  have := Ev.comp xs g (fun _ => true) f fr (pos := pos) hIt W hg (fun _ _ => .nil) (fun x hx _ => hel x hx) hsz hs
  rwa [List.filter_eq_self.mpr fun _ _ => rfl] at this
theorem Ev.compIf {C : Cx} {k : Nat} {sc : Scope} {ρ : Asn} {α : Type} (xs : List α) (g : α → Asn) (p : α → Bool) (f : α → D) (fr : Asn) {elt tgt iter t : Expr} {scope : Scope} {pos : Pos}
    (hIt : ItE C k sc ρ iter tgt (xs.map g)) (W : Sees scope sc ρ fr) (hg : ∀ x ∈ xs, ∀ q ∈ g x, scope.names.lookup (nm q.1) = some .local)
    (ht : ∀ x ∈ xs, Tst C k (relabelS scope sc) (g x ++ fr) t (p x)) (hel : ∀ x ∈ xs, p x = true → Ev C k (relabelS scope sc) (g x ++ fr) elt (f x)) (hsz : xs.length ≤ sizeLine)
    (hs : ∀ env x, foldedSetIterable iter env x = pure x := by intro _ _; rfl) : Ev C k sc ρ (.ListComp elt [⟨tgt, iter, [t], 0⟩] scope pos) (.list ((xs.filter p).map f)) :=
  Ev.comp xs g p f fr hIt W hg (fun x hx => .one (ht x hx)) hel hsz hs
structure Hd (C : Cx) : Prop where
  K : C.K = MineTop.hd.heap_39 C.w.params
  n0 : 0 < C.n
theorem KeepR.of {C : Cx} {a : Addr} (h : fnIn C.K a = true) : KeepR C (.ref a) := by
  unfold fnIn at h
  split at h
  · rename_i hl; exact .inr (.inr ⟨a, _, _, rfl, C.inK _ _ hl, rfl⟩)
  · cases h
theorem nsNone {C : Cx} {x : PySem.Str} (e : nsIn C.K mainGlobals x = some none) : C.mg x = none := by
  obtain ⟨o, es, ep, h1, h2, h3, h4⟩ := C.g
  unfold nsIn at e
  split at e
  · rename_i es' n' dd sl hl
    have := C.inK _ _ hl
    rw [h1] at this
    cases this
    cases h2
    split at e
    · cases e
    · rename_i hf
      rw [← h4 x]
      unfold nsFind findBy
      rw [← Array.find?_toList, hf]; rfl
  · cases e
theorem gfmerge_entries {C : Cx} (H : Hd C) : GFn C (Str.ofString "merge_entries") (.ref 80) := .inl (mg_of C.inK C.g (by rw [H.K]; kernel_rfl))
theorem gfge {C : Cx} (H : Hd C) : GFn C (Str.ofString "ge") (.ref 87) := .inl (mg_of C.inK C.g (by rw [H.K]; kernel_rfl))
theorem gfadd {C : Cx} (H : Hd C) : GFn C (Str.ofString "add") (.ref 94) := .inl (mg_of C.inK C.g (by rw [H.K]; kernel_rfl))
theorem gffloordiv {C : Cx} (H : Hd C) : GFn C (Str.ofString "floordiv") (.ref 101) := .inl (mg_of C.inK C.g (by rw [H.K]; kernel_rfl))
theorem gfmul {C : Cx} (H : Hd C) : GFn C (Str.ofString "mul") (.ref 108) := .inl (mg_of C.inK C.g (by rw [H.K]; kernel_rfl))
theorem gfsub {C : Cx} (H : Hd C) : GFn C (Str.ofString "sub") (.ref 115) := .inl (mg_of C.inK C.g (by rw [H.K]; kernel_rfl))
theorem gfcountOf {C : Cx} (H : Hd C) : GFn C (Str.ofString "countOf") (.ref 122) := .inl (mg_of C.inK C.g (by rw [H.K]; kernel_rfl))
theorem kfcountOf {C : Cx} (H : Hd C) : KeepR C (.ref 122) := .of (by rw [H.K]; kernel_rfl)
theorem gfindexOf {C : Cx} (H : Hd C) : GFn C (Str.ofString "indexOf") (.ref 129) := .inl (mg_of C.inK C.g (by rw [H.K]; kernel_rfl))
theorem gfquotedata {C : Cx} (H : Hd C) : GFn C (Str.ofString "quotedata") (.ref 151) := .inl (mg_of C.inK C.g (by rw [H.K]; kernel_rfl))
theorem gf_quote_periods {C : Cx} (H : Hd C) : GFn C (Str.ofString "_quote_periods") (.ref 158) := .inl (mg_of C.inK C.g (by rw [H.K]; kernel_rfl))
theorem gf_fix_eols {C : Cx} (H : Hd C) : GFn C (Str.ofString "_fix_eols") (.ref 165) := .inl (mg_of C.inK C.g (by rw [H.K]; kernel_rfl))
theorem gf_byteswap {C : Cx} (H : Hd C) : GFn C (Str.ofString "_byteswap") (.ref 172) := .inl (mg_of C.inK C.g (by rw [H.K]; kernel_rfl))
theorem gf_law_other {C : Cx} (H : Hd C) : GFn C (Str.ofString "_law_other") (.ref 177) := .inl (mg_of C.inK C.g (by rw [H.K]; kernel_rfl))
theorem gf_law_rows {C : Cx} (H : Hd C) : GFn C (Str.ofString "_law_rows") (.ref 182) := .inl (mg_of C.inK C.g (by rw [H.K]; kernel_rfl))
theorem gf_law_word {C : Cx} (H : Hd C) : GFn C (Str.ofString "_law_word") (.ref 187) := .inl (mg_of C.inK C.g (by rw [H.K]; kernel_rfl))
theorem gf_law_sent {C : Cx} (H : Hd C) : GFn C (Str.ofString "_law_sent") (.ref 194) := .inl (mg_of C.inK C.g (by rw [H.K]; kernel_rfl))
theorem gf_law_octets {C : Cx} (H : Hd C) : GFn C (Str.ofString "_law_octets") (.ref 199) := .inl (mg_of C.inK C.g (by rw [H.K]; kernel_rfl))
theorem gf_law_bend {C : Cx} (H : Hd C) : GFn C (Str.ofString "_law_bend") (.ref 204) := .inl (mg_of C.inK C.g (by rw [H.K]; kernel_rfl))
theorem gf_law_between {C : Cx} (H : Hd C) : GFn C (Str.ofString "_law_between") (.ref 209) := .inl (mg_of C.inK C.g (by rw [H.K]; kernel_rfl))
theorem gb_len {C : Cx} (H : Hd C) : GFn C (Str.ofString "len") (.builtin "len") := .inr ⟨nsNone (by rw [H.K]; kernel_rfl), (C.blt _ (by decide)).trans (by kernel_rfl)⟩
theorem gb_range {C : Cx} (H : Hd C) : GFn C (Str.ofString "range") (.type "range") := .inr ⟨nsNone (by rw [H.K]; kernel_rfl), (C.blt _ (by decide)).trans (by kernel_rfl)⟩
theorem gb_max {C : Cx} (H : Hd C) : GFn C (Str.ofString "max") (.builtin "max") := .inr ⟨nsNone (by rw [H.K]; kernel_rfl), (C.blt _ (by decide)).trans (by kernel_rfl)⟩
theorem gb_min {C : Cx} (H : Hd C) : GFn C (Str.ofString "min") (.builtin "min") := .inr ⟨nsNone (by rw [H.K]; kernel_rfl), (C.blt _ (by decide)).trans (by kernel_rfl)⟩
theorem gb_sum {C : Cx} (H : Hd C) : GFn C (Str.ofString "sum") (.builtin "sum") := .inr ⟨nsNone (by rw [H.K]; kernel_rfl), (C.blt _ (by decide)).trans (by kernel_rfl)⟩
theorem gb_enumerate {C : Cx} (H : Hd C) : GFn C (Str.ofString "enumerate") (.type "enumerate") := .inr ⟨nsNone (by rw [H.K]; kernel_rfl), (C.blt _ (by decide)).trans (by kernel_rfl)⟩
theorem gb_zip {C : Cx} (H : Hd C) : GFn C (Str.ofString "zip") (.type "zip") := .inr ⟨nsNone (by rw [H.K]; kernel_rfl), (C.blt _ (by decide)).trans (by kernel_rfl)⟩
theorem gb_ord {C : Cx} (H : Hd C) : GFn C (Str.ofString "ord") (.builtin "ord") := .inr ⟨nsNone (by rw [H.K]; kernel_rfl), (C.blt _ (by decide)).trans (by kernel_rfl)⟩
theorem gb_chr {C : Cx} (H : Hd C) : GFn C (Str.ofString "chr") (.builtin "chr") := .inr ⟨nsNone (by rw [H.K]; kernel_rfl), (C.blt _ (by decide)).trans (by kernel_rfl)⟩
theorem gb_bytes {C : Cx} (H : Hd C) : GFn C (Str.ofString "bytes") (.type "bytes") := .inr ⟨nsNone (by rw [H.K]; kernel_rfl), (C.blt _ (by decide)).trans (by kernel_rfl)⟩
theorem gb_bytearray {C : Cx} (H : Hd C) : GFn C (Str.ofString "bytearray") (.type "bytearray") := .inr ⟨nsNone (by rw [H.K]; kernel_rfl), (C.blt _ (by decide)).trans (by kernel_rfl)⟩
theorem gb_isinstance {C : Cx} (H : Hd C) : GFn C (Str.ofString "isinstance") (.builtin "isinstance") := .inr ⟨nsNone (by rw [H.K]; kernel_rfl), (C.blt _ (by decide)).trans (by kernel_rfl)⟩
theorem gb_str {C : Cx} (H : Hd C) : GFn C (Str.ofString "str") (.type "str") := .inr ⟨nsNone (by rw [H.K]; kernel_rfl), (C.blt _ (by decide)).trans (by kernel_rfl)⟩
theorem gb_list {C : Cx} (H : Hd C) : GFn C (Str.ofString "list") (.type "list") := .inr ⟨nsNone (by rw [H.K]; kernel_rfl), (C.blt _ (by decide)).trans (by kernel_rfl)⟩
theorem gb_filter {C : Cx} (H : Hd C) : GFn C (Str.ofString "filter") (.type "filter") := .inr ⟨nsNone (by rw [H.K]; kernel_rfl), (C.blt _ (by decide)).trans (by kernel_rfl)⟩
theorem gb_set {C : Cx} (H : Hd C) : GFn C (Str.ofString "set") (.type "set") := .inr ⟨nsNone (by rw [H.K]; kernel_rfl), (C.blt _ (by decide)).trans (by kernel_rfl)⟩
end
section
open PySem PySem.W PySem.Calls PyProof.Rows PySem.Builtin PySem.Builtin.ObjectAttr
noncomputable def defChk (scope : Scope) (ids : List Nat) : Bool :=
  scope.kind == .function && !scope.isCoroutine && !scope.isGenerator && decide ids.Nodup &&
  ids.all (fun i => scope.names.lookup (nm i) == some .local || (scope.names.lookup (nm i) == some .cell && ((cellsFrom 0 scope.names []).lookup (nm i)).isSome)) &&
  decide ((cellsFrom 0 scope.names []).map (·.1)).Nodup &&
  scope.names.all (fun x => x.2 != .cell || ((cellsFrom 0 scope.names []).map (·.1)).contains x.1) &&
  ((cellsFrom 0 scope.names []).map (·.1)).all (fun x => scope.names.lookup x == some .cell) &&
  scope.names.all (fun x => x.2 != .free)
theorem DefOk.of {scope : Scope} {ids : List Nat} (h : defChk scope ids = true) : DefOk scope ids := by
  unfold defChk at h
  simp only [Bool.and_eq_true] at h
  obtain ⟨⟨⟨⟨⟨⟨⟨⟨h1, h2⟩, h3⟩, h4⟩, h5⟩, h6⟩, h7⟩, h9⟩, h8⟩ := h
  refine ⟨eq_of_beq h1, by simpa using h2, by simpa using h3, of_decide_eq_true h4, fun i hi => ?_, of_decide_eq_true h6, fun x hx => ?_, fun x hx => ?_, fun x hx => ?_⟩
  · have := List.all_eq_true.mp h5 i hi
    simp only [Bool.or_eq_true, Bool.and_eq_true, beq_iff_eq] at this
    exact this
  · have := List.all_eq_true.mp h7 (x, .cell) (mem_of_lookupN hx)
    simpa using this
  · have := List.all_eq_true.mp h9 x hx
    exact eq_of_beq this
  · have := List.all_eq_true.mp h8 x hx
    simpa using this
noncomputable def seesChk (scope sc : Scope) (ids : List Nat) : Bool :=
  scope.kind == .function && scope.names.all (fun x => x.2 != .cell) &&
  scope.names.all (fun x => x.2 != .free || sc.names.lookup x.1 == some .cell || sc.names.lookup x.1 == some .free) &&
  scope.names.all (fun x => x.2 != .local || scope.names.lookup x.1 == some .local) &&
  ids.all (fun i => scope.names.lookup (nm i) == some .free)
theorem Sees.of {scope sc : Scope} {ρ fr : Asn} (ids : List Nat) (h : seesChk scope sc ids = true) (hf : ∀ i d, fr.get i = some d → i ∈ ids ∧ ρ.get i = some d) : Sees scope sc ρ fr := by
  unfold seesChk at h
  simp only [Bool.and_eq_true] at h
  obtain ⟨⟨⟨⟨h1, h2⟩, h3⟩, h4⟩, h5⟩ := h
  refine ⟨eq_of_beq h1, fun x hx => ?_, fun x hx hf => ?_, fun x hx hl => ?_, fun i d hi => ?_⟩
  · simpa using List.all_eq_true.mp h2 x hx
  · have := List.all_eq_true.mp h3 x hx
    rw [hf] at this; simpa using this
  · have := List.all_eq_true.mp h4 x hx
    rw [hl] at this; simpa using this
  · obtain ⟨hm, hg⟩ := hf i d hi
    exact ⟨hg, eq_of_beq (List.all_eq_true.mp h5 i hm)⟩
theorem fr_nil {ρ : Asn} {ids : List Nat} : ∀ i d, Asn.get [] i = some d → i ∈ ids ∧ ρ.get i = some d := fun i d h => by simp [Asn.get] at h
theorem fr_cons {ρ fr : Asn} {ids : List Nat} {j : Nat} {e : D} (hj : ρ.get j = some e) (h : ∀ i d, Asn.get fr i = some d → i ∈ ids ∧ ρ.get i = some d) : ∀ i d, Asn.get ((j, e) :: fr) i = some d → i ∈ (j :: ids) ∧ ρ.get i = some d := fun i d hi => by
  rcases Asn.cons_inv hi with ⟨rfl, rfl⟩ | ⟨_, hi⟩
  · exact ⟨List.mem_cons_self, hj⟩
  · exact ⟨List.mem_cons_of_mem _ (h i d hi).1, (h i d hi).2⟩
local macro_rules | `(tactic| walk_at "lk") => `(tactic| repeat (first | exact Asn.here | refine Asn.there (by decide) ?_))
theorem entC {C : Cx} (H : Hd C) : EntC C where
  makes := by rw [H.K]; kernel_rfl
  init := by rw [H.K]; kernel_rfl
  initF := by rw [H.K]; kernel_rfl
  hs := by rw [H.K]; kernel_rfl
  hp := by rw [H.K]; kernel_rfl
  hh := by rw [H.K]; kernel_rfl
  t1 := by rw [H.K]; kernel_rfl
  t2 := by rw [H.K]; kernel_rfl
  t3 := by rw [H.K]; kernel_rfl
  t4 := by rw [H.K]; kernel_rfl
theorem entK {C : Cx} (H : Hd C) : EntK C where
  hg := by rw [H.K]; kernel_rfl
  hh := by rw [H.K]; kernel_rfl
  f1 := by rw [H.K]; kernel_rfl
  f2 := by rw [H.K]; kernel_rfl
  f3 := by rw [H.K]; kernel_rfl
  f4 := by rw [H.K]; kernel_rfl
section
variable {C : Cx} {k : Nat} {A : Around} {V : View} {s : Shared}
theorem entry_new (H : Hd C) {E : Value → Shared → Prop} {Q : Value → Shared → Prop} (hr : Room (k + 4) A) (S : St C V s)
    (q : ∀ x dx es n v1 v2 V' s', Ext V s V' s' → St C V' s' → s.heap.get? x = none → s.heap.get? dx = none → x ≠ dx → Own V' s' x (instObj entryA dx) → Own V' s' dx (dictOf es n) → Atts es (entF v1 v2 .none .none) 4 →
      Rep V' v1 (.list []) → Rep V' v2 (.list []) → Q (.ref x) s') : wpAny C.M A (PySem.call (.ref entryA) [] []) Q E s := by
  obtain ⟨hp, gg, dd, tk, os⟩ := s
  refine wpAny_call ?_
  have Hc := entC H
  refine make_core (makes_of S.inK Hc.makes) (looks_findIn S.inK Hc.init) (fun self => bind_fn S.inK self Hc.initF) (.inl rfl) ?_
  have hru : Room (k + 3) (A.under (.builtin "type.__call__" ⟨.ref entryA :: [], []⟩)) := by
    refine ⟨?_, ?_, hr.2.2⟩
    · show A.depth + 1 + (k + 3) < 1000
      have := hr.1; lia
    · have h1 : (Code.builtin "type.__call__" ⟨.ref entryA :: [], []⟩).cUnits ≤ 20 := by decide +kernel
      have h2 : (A.under (.builtin "type.__call__" ⟨.ref entryA :: [], []⟩)).units = A.units + (Code.builtin "type.__call__" ⟨.ref entryA :: [], []⟩).cUnits := rfl
      rw [h2]
      have := hr.2.1; lia
  have k1 : ∀ b o, hp.get? b = some o → ((hp.push emptyDict).push (instObj entryA hp.objs.size)).get? b = some o := fun b o e => Heap.get?_push_of_some _ (Heap.get?_push_of_some _ e)
  have S1 : St C V ⟨(hp.push emptyDict).push (instObj entryA hp.objs.size), gg, dd, tk, os⟩ := S.keeps (s := ⟨hp, gg, dd, tk, os⟩) k1
  have X1 : Ext V ⟨hp, gg, dd, tk, os⟩ V ⟨(hp.push emptyDict).push (instObj entryA hp.objs.size), gg, dd, tk, os⟩ := .keeps (s := ⟨hp, gg, dd, tk, os⟩) k1
  have e1 : ((hp.push emptyDict).push (instObj entryA hp.objs.size)).get? hp.objs.size = some emptyDict := Heap.get?_push_of_some _ (Heap.get?_push_size _ rfl)
  have e2 : ((hp.push emptyDict).push (instObj entryA hp.objs.size)).get? (hp.objs.size + 1) = some (instObj entryA hp.objs.size) := by
    have := Heap.get?_push_size (hp.push emptyDict) (o := instObj entryA hp.objs.size) rfl
    rwa [Heap.size_push] at this
  have n1 : hp.get? hp.objs.size = none := get_size
  have n2 : hp.get? (hp.objs.size + 1) = none := by
    cases q : hp.get? (hp.objs.size + 1) with
    | none => rfl
    | some o => exact absurd (lt_of_get q) (by lia)
  have vn : ∀ a, hp.get? a = none → V a = none := fun a ha => by
    cases q : V a with
    | none => rfl
    | some o => have := S.sub _ _ q; rw [ha] at this; cases this
  have t1 := S.tabNone n1
  have t2 := S.tabNone n2
  generalize hp.objs.size = dx at *
  have hne : dx + 1 ≠ dx := Nat.succ_ne_self dx
  generalize hx : dx + 1 = x at *
  refine' fn_run (k := k + 1) (f := 45) (ids := [i_self]) (ds := [.own x]) ?hl ?hcd rfl ?hb ?ok hru S1 (.cons (.own x) .nil) fun env s2 _ he _ _ hr2 S2 F2 O2 X2 f2 => ?body
  case hl => rw [H.K]; exact rfl
  case hcd => rw [H.K]; kernel_rfl
  case hb => intro vs hv; obtain ⟨_, rfl⟩ := len1 hv; exact rfl
  case ok => exact DefOk.of (by decide +kernel)
  case body =>
  have ox : Own V s2 x (instObj entryA dx) := Own.ext ⟨e2, vn _ n2, t2⟩ X2
  have od : Own V s2 dx (dictOf [] 0) := Own.ext ⟨e1, vn _ n1, t1⟩ X2
  have hloc : env.locals ≠ dx := fun q => by have := f2.loc; rw [q, e1] at this; cases this
  have hcell : ∀ y c, env.cells.lookup y = some c → c ≠ dx := fun y c hc q => by have := f2.cell y c hc; rw [q, e1] at this; cases this
  refine wpAny_execs_cons (attr_st Hc rfl (Ev.list .nil (by decide)) Hc.t1 (fun _ => rfl) he hr2 S2 F2 (X1.trans X2) n1 Asn.here ox od hne .nil (by lia) hloc hcell fun v1 V3 s3 es3 n3 X3 S3 F3 m3 r1 ox od a3 => ?_)
  refine wpAny_execs_cons (attr_st Hc rfl (Ev.list .nil (by decide)) Hc.t2 (fun _ => rfl) he hr2 S3 F3 X3 n1 Asn.here ox od hne a3 (by lia) hloc hcell fun v2 V4 s4 es4 n4 X4 S4 F4 m4 r2 ox od a4 => ?_)
  refine wpAny_execs_cons (attr_st Hc rfl Ev.none Hc.t3 (fun _ => rfl) he hr2 S4 F4 X4 n1 Asn.here ox od hne a4 (by lia) hloc hcell fun v3 V5 s5 es5 n5 X5 S5 F5 m5 r3 ox od a5 => ?_)
  refine wpAny_execs_cons (attr_st Hc rfl Ev.none Hc.t4 (fun _ => rfl) he hr2 S5 F5 X5 n1 Asn.here ox od hne a5 (by lia) hloc hcell fun v4 V6 s6 es6 n6 X6 S6 F6 m6 r4 ox od a6 => ?_)
  obtain rfl := r3.is
  obtain rfl := r4.is
  exact wpAny_execs_nil ⟨rfl, q x dx es6 n6 v1 v2 V6 s6 X6 S6 n2 n1 hne ox od a6 (((r1.mono m4).mono m5).mono m6) ((r2.mono m5).mono m6)⟩
end
end
local macro_rules | `(tactic| walk_at "lk") => `(tactic| repeat (first | exact Asn.here | refine Asn.there (by decide) ?_))
section
open PySem PySem.W PySem.Calls PyProof.Rows PySem.Builtin PySem.Builtin.ObjectAttr
theorem codeAmong_more {pos : Pos} {a b : Int} {c v : Value} (l : List Value) (h : TriplesOk l) (hv : codeAmong pos (l ++ [rawInt a, rawInt b, c]) = some v) : codeAmong pos l = some v ∨ v = c := by
  fun_induction TriplesOk l with
  | case1 =>
    simp only [List.nil_append, codeAmong, rawInt] at hv
    split at hv
    · cases hv; exact .inr rfl
    · cases hv
  | case2 a' t b' u x rest ih =>
    simp only [List.cons_append, codeAmong] at hv ⊢
    split at hv
    · rename_i hc; rw [if_pos hc]; exact .inl hv
    · rename_i hc; rw [if_neg hc]; exact ih h hv
  | case3 l h1 h2 => exact h.elim
section
variable {C : Cx} {k : Nat} {sc : Scope} {ρ : Asn} {A : Around} {V V0 : View} {s s0 : Shared} {env : Env}
theorem vnone (S : St C V s) {a : Addr} (ha : s.heap.get? a = none) : V a = none := by
  cases q : V a with
  | none => rfl
  | some o => rw [S.sub _ _ q] at ha; cases ha
theorem none_of_le {h : Heap} {a : Addr} (ha : @LE.le Nat _ h.objs.size a) : h.get? a = none := by
  cases q : h.get? a with
  | none => rfl
  | some o => exact absurd (lt_of_get q) (by lia)
theorem lam_new (H : Hd C) {E : Value → Shared → Prop} {Q : Value → Shared → Prop} {params : Arguments} {body : Expr} {scope : Scope} {pos : Pos} (hdef : defaultsOf params env = ([], [])) (hq : env.qual ++ Str.ofString "<lambda>" = lamQual) (hcode : env.code = .ref 215)
    (F : Frm C env ρ V s.heap) (S : St C V s) (hfree : ∀ x ∈ scope.names, x.2 = .free → ∃ c, env.cells.lookup x.1 = some c)
    (q : ∀ f V' s' clos pm c ct, Ext V s V' s' → St C V' s' → Own V' s' f (lamObj (params, body, scope) clos pm c ct none) → s.heap.get? f = none → CodeV V' (.ref c) lamQual →
      (∀ x c, clos.lookup x = some c → env.cells.lookup x = some c) → (∀ x ∈ scope.names, x.2 = .free → ∃ c, clos.lookup x.1 = some c) → (∀ x c, clos.lookup x = some c → (x, .free) ∈ scope.names) → Q (.ref f) s') :
    wpAny C.M A (eval (.Lambda params body scope pos) env) Q E s := by
  refine hid fun G hG => ?_
  obtain ⟨cl, hcl, h2, h3, h4⟩ := closure_ok' hfree
  refine hG ?_
  refine kla_eval hdef ?_
  have hq' : env.qual ++ ("<lambda>" : PySem.Str) = lamQual := hq
  rw [hq']
  have hgs : s.heap.Ns mainGlobals C.mg := nsAt S C.g
  have CH : CodeHd s.heap 215 tabA := codeHd_of_K S.inK (by rw [H.K]; kernel_rfl)
  refine hid fun G hG => ?_
  obtain ⟨ps, hP, ht, hc⟩ := S.tab
  obtain ⟨bm, ob, b1, b2, b3, b4, b5, b6⟩ := C.bmain
  refine hG ?_
  have hb3 : s.heap.get? bm = some ob := S.sub _ _ (S.base _ _ b3)
  have hgP : mainGlobals ≠ tabA := by decide
  have hbP : bm ≠ tabA := fun q => by rw [q, hP] at hb3; cases hb3; cases b4
  have hbG : bm ≠ mainGlobals := fun q => by
    obtain ⟨o, es, ep, e, hd, _⟩ := hgs
    rw [q, e] at hb3; cases hb3; rw [hd] at b6; cases b6
  have BA : s.heap.BuiltinsAt C.mg tabA := ⟨bm, ob, b1, b2, hbG, hbP, hb3, b4, b5, b6⟩
  cases hca : codeAmong pos ps.toList with
  | some cv =>
    refine wp_toks' S.tk (kla_makeFunctionHit (mg := C.mg) hcl F.glob hgs hcode CH hP ht hca BA fun ctv h' tk hk hsz hn => ?_)
    have hcv := hc pos cv hca
    refine hid fun G hG => ?_
    obtain ⟨c, oc, vs, t, rfl, r⟩ := hcv
    refine hG ?_
    have hf : s.heap.get? h'.objs.size = none := none_of_le hsz
    have k' : ∀ b o, s.heap.get? b = some o → (h'.push (lamObj (params, body, scope) cl ((C.mg "__name__").getD .none) c ctv none)).get? b = some o := fun b o e => Heap.get?_push_of_some _ (hk _ _ e)
    exact q _ V _ cl _ c ctv (.keeps k') (S.keeps k' hn) ⟨Heap.get?_push_size _ rfl, vnone S hf, S.tabNone hf⟩ hf ⟨c, oc, vs, t, rfl, r⟩ h2 h3 h4
  | none =>
    refine wp_toks' S.tk (kla_makeFunction (mg := C.mg) hcl F.glob hgs hcode CH hP ht hca hgP BA fun c' ctv h' tk hx hge hlt hrec htb hn => ?_)
    refine hid fun G hG => ?_
    obtain ⟨c₂, oc, vs, t, e2, hoc, hd, hv⟩ := hrec
    refine hG ?_
    cases e2
    have hf : s.heap.get? h'.objs.size = none := none_of_le (Nat.le_of_lt (Nat.lt_of_le_of_lt hge hlt))
    have hcn : s.heap.get? c' = none := none_of_le hge
    have hcV := vnone S hcn
    have hct := S.tabNone hcn
    have mono : VLe V (fun b => if b = c' then some oc else V b) := fun b o e => by
      by_cases hb : b = c'
      · rw [hb, hcV] at e; cases e
      · simp only [if_neg hb]; exact e
    have CV : CodeV (fun b => if b = c' then some oc else V b) (.ref c') lamQual := ⟨c', oc, vs, t, rfl, by simp, hd, hv⟩
    have hkp : ∀ b o, b ≠ tabA → s.heap.get? b = some o → (h'.push (lamObj (params, body, scope) cl ((C.mg "__name__").getD .none) c' ctv none)).get? b = some o := fun b o hb e => Heap.get?_push_of_some _ (hx b o hb e)
    have hfc : h'.objs.size ≠ c' := Nat.ne_of_gt hlt
    have S' : St C (fun b => if b = c' then some oc else V b) { s with heap := h'.push (lamObj (params, body, scope) cl ((C.mg "__name__").getD .none) c' ctv none), toks := tk } := by
      refine ⟨fun b o e => mono _ _ (S.base b o e), fun b o e => ?_, ⟨_, Heap.get?_push_of_some _ htb, by simpa using TriplesOk_snoc pos.line pos.col (.ref c') ps.toList ht, fun p v hv => ?_⟩, ?_, S.gens, S.os, hn⟩
      · by_cases hb : b = c'
        · subst hb; simp only [if_true] at e; cases e; exact Heap.get?_push_of_some _ hoc
        · simp only [if_neg hb] at e
          exact hkp b o (fun q => by rw [q, S.tabV] at e; cases e) (S.sub b o e)
      · rw [Array.toList_append] at hv
        rcases codeAmong_more ps.toList ht hv with h | h
        · exact (hc p v h).mono mono
        · rw [h]; exact CV
      · simp only [if_neg (Ne.symm hct)]; exact S.tabV
    refine q _ _ _ cl _ c' ctv ⟨mono, fun b o e => ?_, fun b o hb e => hkp b o hb e, fun o e => ⟨_, Heap.get?_push_of_some _ htb⟩⟩ S' ⟨Heap.get?_push_size _ rfl, ?_, S.tabNone hf⟩ hf CV h2 h3 h4
    · have hb : b ≠ c' := fun q => by rw [q, hcn] at e; cases e
      simp only [if_neg hb]
    · simp only [if_neg hfc]; exact vnone S hf
theorem fnSet : StoreFacts "function" [.type "function", .type "object"] "object.__setattr__" "object" where
  mro := by kernel_rfl
  slot := .of (owner := "object") (n := "__setattr__") (by rw [typeLookup_type, builtinLookup_eq_fast]; kernel_rfl) (by decide +kernel) (by decide +kernel) (by decide +kernel)
    (by first | exact .inl (by decide +kernel) | exact .inr (by decide +kernel)) (by rw [isSubtype_type]; kernel_rfl)
  entry := F.entry_object_sa
  kind := by decide +kernel
  split := by decide +kernel
  hasOwner := by decide +kernel
  args := fun a b c => by unfold argsOk; kernel_rfl
  passes := fun self => by kernel_rfl
theorem fnNo1 : typeLookup (.type "function") (Str.ofString "applies_to") = pure none := by rw [typeLookup_type, builtinLookup_eq_fast]; kernel_rfl
theorem fnNo2 : typeLookup (.type "function") (Str.ofString "allowance") = pure none := by rw [typeLookup_type, builtinLookup_eq_fast]; kernel_rfl
theorem fnGa : typeLookup (.type "function") (Str.ofString "__getattribute__") = pure (some (.builtin "object.__getattribute__")) := by rw [typeLookup_type, builtinLookup_eq_fast]; kernel_rfl
theorem fnGet : typeLookup (.type "function") (Str.ofString "__getattr__") = pure none := by rw [typeLookup_type, builtinLookup_eq_fast]; kernel_rfl
theorem fnHasDict : typeHasDict (.type "function") = true := by decide +kernel
theorem fnFin : finalisedInACycleAlone "function" = false := by decide +kernel
theorem setFn {E : Value → Shared → Prop} {Q : Unit → Shared → Prop} {f : Addr} {o : Obj} {name : PySem.Str} {v : Value} (hf : s.heap.get? f = some o) (hc : o.cls = .type "function")
    (hl : typeLookup (.type "function") name = pure none)
    (h : wpAny C.M A.in1 (ownDictForStores (.ref f) >>= fun r => match r with | some d => storeInDict d (.str name s.toks) name v | none => noDictFor (.ref f) (.type "function") name false)
      (fun fin s' => fin = .done (.ret .none) ∧ Q () s') E { s with toks := s.toks + 1 }) :
    wpAny C.M A (setAttr (.ref f) name v) Q E s := by
  have hT : Shared.TypeIs { s with toks := s.toks + 1 } (.ref f) "function" := ⟨o, hf, hc⟩
  refine wpAny_bind (wpAny_mkText (wpAny_bind (wpAny_callSpecial?_slot hT fnSet.slot (wpAny_call_entry fnSet.slot hT fnSet.entry ?_ (fnSet.args _ _ _)))))
  rw [osa_eq, refuse_eq]
  refine wpAny_bind (wpAny_bind (wpAny_typeOf hT ?_))
  rw [fnSet.mro]
  refine wpAny_bind (wpAny_pure ?_)
  rw [fnSet.passes]
  refine wpAny_pure (wpAny_bind (wpAny_typeOf hT (wpAny_bind (wpAny_of_eq hl (wpAny_bind (wpAny_pure ?_))))))
  show wpAny _ _ (storeInOwnDict (.ref f) (.type "function") (.str name s.toks) name v false) _ _ _
  unfold storeInOwnDict
  refine wpAny_bind (wpAny_of_eq (a := ()) (by rfl) ?_)
  refine wpAny_mono h (fun fin s' hq => ?_) fun _ _ e => e
  obtain ⟨rfl, hq⟩ := hq
  exact ⟨_, rfl, wpAny_pure hq⟩
theorem put_upd (S : Shared) {d : Addr} {name : PySem.Str} {v : Value} {t : Tok} {es : List DictEntry} {n : Nat} {P : Params} (h : S.heap.get? d = some (dictOf es n)) :
    (S.heap.update d (Obj.putName name (PyData.keyHash P name) (.str name t) v)).get? d = some (dictOf (putL name (PyData.keyHash P name) (.str name t) v es) (putN name es n)) := by
  have := Heap.get?_update_self (Obj.putName name (PyData.keyHash P name) (.str name t) v) h (by rw [putName_dict]; rfl)
  rw [putName_dict] at this
  exact this
theorem setFn_new {E : Value → Shared → Prop} {Q : Unit → Shared → Prop} {f : Addr} {l : Arguments × Expr × Scope} {clos : List (PySem.Str × Addr)} {pm ct : Value} {c : Addr} {name : PySem.Str} {v : Value} (S : St C V s) (hf : Own V s f (lamObj l clos pm c ct none))
    (hl : typeLookup (.type "function") name = pure none)
    (q : ∀ h' tk dx es n, Atts es (fun m => if m = name then some v else none) 1 → St C V { s with heap := h', toks := tk } → Own V { s with heap := h', toks := tk } f (lamObj l clos pm c ct (some dx)) → Own V { s with heap := h', toks := tk } dx (dictOf es n) → s.heap.get? dx = none → f ≠ dx →
      (∀ b o, b ≠ f → s.heap.get? b = some o → h'.get? b = some o) → Q () { s with heap := h', toks := tk }) :
    wpAny C.M A (setAttr (.ref f) name v) Q E s := by
  refine setFn hf.at_ rfl hl ?_
  unfold ownDictForStores instanceDict
  refine wpAny_bind (wpAny_bind (wpAny_loadPart (s := { s with toks := s.toks + 1 }) hf.at_ ?_))
  dsimp only
  rw [fnHasDict]
  refine wpAny_bind (wpAny_alloc (wpAny_bind ?_))
  dsimp only
  have hfs : f ≠ s.heap.objs.size := Nat.ne_of_lt (lt_of_get hf.at_)
  have n1 : s.heap.get? s.heap.objs.size = none := get_size
  have ef : (s.heap.push emptyDict).get? f = some (lamObj l clos pm c ct none) := Heap.get?_push_of_some _ hf.at_
  have ed : (s.heap.push emptyDict).get? s.heap.objs.size = some emptyDict := Heap.get?_push_size _ rfl
  generalize hdx : s.heap.objs.size = dx at *
  generalize hH1 : s.heap.push emptyDict = H1 at *
  refine wpAny_update ef ?_
  have uf : (H1.update f fun o => { o with dict := some dx }).get? f = some (lamObj l clos pm c ct (some dx)) := Heap.get?_update_self (fun o : Obj => { o with dict := some dx }) ef rfl
  have ud : (H1.update f fun o => { o with dict := some dx }).get? dx = some emptyDict := (Heap.get?_update_other _ _ hfs).trans ed
  have uo : ∀ b o, b ≠ f → s.heap.get? b = some o → (H1.update f fun o => { o with dict := some dx }).get? b = some o := fun b o hb e => (Heap.get?_update_other _ _ (Ne.symm hb)).trans (hH1 ▸ Heap.get?_push_of_some _ e)
  generalize (H1.update f fun o => { o with dict := some dx }) = H2 at *
  unfold dictMade
  dsimp only
  rw [fnFin]
  refine wpAny_pure (sid (s := { s with heap := H2, toks := s.toks + 1 }) (es := []) (n := 0) ud rfl (by decide) ⟨rfl, ?_⟩)
  have hk : ∀ b, b ≠ dx → (H2.update dx (Obj.putName name (PyData.keyHash C.w.params name) (.str name (s.toks + 1)) v)).get? b = H2.get? b := fun b hb => Heap.get?_update_other _ _ (Ne.symm hb)
  have hd2 := put_upd { s with heap := H2, toks := s.toks + 1 } (name := name) (v := v) (t := s.toks + 1) (es := []) (n := 0) (P := C.w.params) ud
  have ko : ∀ b o, b ≠ f → s.heap.get? b = some o → (H2.update dx (Obj.putName name (PyData.keyHash C.w.params name) (.str name (s.toks + 1)) v)).get? b = some o := fun b o hb e => (hk b fun q => by rw [q, n1] at e; cases e).trans (uo b o hb e)
  exact q _ _ dx _ _ (Atts.nil.put name _ _ v) (S.but (s' := { s with heap := _, toks := _ }) (fun b => b = f) (fun b o hb e => ko b o hb e) (fun b hb => hb ▸ hf.free) (Ne.symm hf.tab) rfl rfl (by show C.n ≤ s.toks + 1 + 1; have := S.tk; lia))
    ⟨(hk f hfs).trans uf, hf.free, hf.tab⟩ ⟨hd2, vnone S n1, S.tabNone n1⟩ n1 hfs ko
theorem setFn_more {E : Value → Shared → Prop} {Q : Unit → Shared → Prop} {f dx : Addr} {l : Arguments × Expr × Scope} {clos : List (PySem.Str × Addr)} {pm ct : Value} {c : Addr} {name : PySem.Str} {v : Value} {es : List DictEntry} {n ln : Nat} {g : PySem.Str → Option Value} (S : St C V s) (hf : Own V s f (lamObj l clos pm c ct (some dx)))
    (hd : Own V s dx (dictOf es n)) (hfd : f ≠ dx) (at_ : Atts es g ln) (hln : ln ≤ 50) (hl : typeLookup (.type "function") name = pure none)
    (q : ∀ h' tk es' n', Atts es' (fun m => if m = name then some v else g m) (ln + 1) → St C V { s with heap := h', toks := tk } → Own V { s with heap := h', toks := tk } f (lamObj l clos pm c ct (some dx)) → Own V { s with heap := h', toks := tk } dx (dictOf es' n') →
      (∀ b, b ≠ dx → h'.get? b = s.heap.get? b) → Q () { s with heap := h', toks := tk }) :
    wpAny C.M A (setAttr (.ref f) name v) Q E s := by
  refine setFn hf.at_ rfl hl ?_
  unfold ownDictForStores instanceDict
  refine wpAny_bind (wpAny_bind (wpAny_loadPart (s := { s with toks := s.toks + 1 }) hf.at_ ?_))
  dsimp only
  refine wpAny_pure (sid (s := { s with toks := s.toks + 1 }) hd.at_ (by rw [at_.get]; rfl) (by have := at_.len; lia) ⟨rfl, ?_⟩)
  have hk : ∀ b, b ≠ dx → (s.heap.update dx (Obj.putName name (PyData.keyHash C.w.params name) (.str name (s.toks + 1)) v)).get? b = s.heap.get? b := fun b hb => Heap.get?_update_other _ _ (Ne.symm hb)
  have hd2 := put_upd { s with toks := s.toks + 1 } (name := name) (v := v) (t := s.toks + 1) (P := C.w.params) hd.at_
  exact q _ _ _ _ (at_.put name _ _ v) (S.write hd.free hd.tab hk (by show C.n ≤ s.toks + 1 + 1; have := S.tk; lia)) ⟨(hk f hfd).trans hf.at_, hf.free, hf.tab⟩ ⟨hd2, hd.free, hd.tab⟩ hk
end
theorem gfEntry {C : Cx} (H : Hd C) : GFn C (Str.ofString "Entry") (.ref 69) := .inl (mg_of C.inK C.g (by rw [H.K]; kernel_rfl))
theorem kpEntry {C : Cx} (H : Hd C) : keepIn C.K (.ref 69) = true := by rw [H.K]; kernel_rfl
theorem gf_law_rule {C : Cx} (H : Hd C) : GFn C (Str.ofString "_law_rule") (.ref 216) := .inl (mg_of C.inK C.g (by rw [H.K]; kernel_rfl))
theorem kf_law_rule {C : Cx} (H : Hd C) : KeepR C (.ref 216) := .of (by rw [H.K]; kernel_rfl)
theorem gf_law_record {C : Cx} (H : Hd C) : GFn C (Str.ofString "_law_record") (.ref 221) := .inl (mg_of C.inK C.g (by rw [H.K]; kernel_rfl))
section
variable {C : Cx} {k : Nat} {sc : Scope} {ρ : Asn} {A : Around} {V V0 : View} {s s0 : Shared} {env : Env}
theorem Ext.none0 {V0 V : View} {s0 s : Shared} (X : Ext V0 s0 V s) {a : Addr} (ha : s.heap.get? a = none) (ht : a ≠ tabA) : s0.heap.get? a = none := by
  cases q : s0.heap.get? a with
  | none => rfl
  | some o => rw [X.keep a o ht q] at ha; cases ha
theorem entry_assign (H : Hd C) {E : Value → Shared → Prop} {Q : Flow → Shared → Prop} {i : Nat} {x : PySem.Str} {p pn pc pos : Pos} (hx : nm i = x) (hk : sc.names.lookup x = some .local ∨ sc.names.lookup x = some .cell) (hE : sc.names.lookup (Str.ofString "Entry") = some .globalImplicit)
    (he : env.scope = sc) (hr : Room (k + 4) A) (S : St C V s) (F : Frm C env ρ V s.heap) (X : Ext V0 s0 V s) (f : Fresh env s0)
    (q : ∀ a dx es n v1 v2 V' s', Ext V0 s0 V' s' → St C V' s' → Frm C env ((i, .own a) :: ρ) V' s'.heap → Own V' s' a (instObj entryA dx) → Own V' s' dx (dictOf es n) → Atts es (entF v1 v2 .none .none) 4 → Rep V' v1 (.list []) → Rep V' v2 (.list []) →
      a ≠ dx → s0.heap.get? a = none → s0.heap.get? dx = none → s.heap.get? a = none → s.heap.get? dx = none → Q .next s') :
    wpAny C.M A (exec (.Assign [.Name x p] (.Call (.Name (Str.ofString "Entry") pn) [] [] pc) pos) env) Q E s := by
  subst hx
  have e0 : exec (.Assign [.Name (nm i) p] (.Call (.Name (Str.ofString "Entry") pn) [] [] pc) pos) env = (do
      standAt pos
      let v ← eval (.Call (.Name (Str.ofString "Entry") pn) [] [] pc) env
      PySem.assign (.Name (nm i) p) env v
      pure .next) := rfl
  rw [e0]
  refine wpAny_bind (wpAny_standAt (wpAny_bind ?_))
  refine wpAny_bind (Name_function_global F.kind (by show env.scope.names.lookup _ = _; rw [he]; exact hE) ((gfEntry H).load S F ?_) (by decide))
  show wpAny C.M A (PySem.callWith pc (.ref entryA) [] (backTo pc (starEach [] env)) []) _ E s
  refine callWith_K0 S.inK (kpEntry H) (entry_new H hr S fun a dx es n v1 v2 V1 s1 X1 S1 na nd hne oa od at_ r1 r2 => ?_)
  have F1 := F.ext S X1
  have ta := S.tabNone na
  have td := S.tabNone nd
  have loc : ∃ o, s.heap.get? env.locals = some o := by obtain ⟨m, ⟨o, es, ep, e, _⟩, _⟩ := F.ns; exact ⟨o, e⟩
  refine wpAny_bind (wpAny_assign_Name (F1.store S1 (by rw [he]; exact hk) (.own a) fun h' tk k1 k2 S2 F2 => wpAny_pure ?_))
  have nTg : ∀ b, s.heap.get? b = none → ¬ Tgt env [(i, .own a)] b := fun b hb q => by
    rcases q with rfl | ⟨pr, _, _, hc⟩
    · obtain ⟨o, e⟩ := loc; rw [hb] at e; cases e
    · obtain ⟨_, v, ⟨o, e, _⟩, _⟩ := F.cells _ _ hc
      rw [hb] at e; cases e
  exact q a dx es n v1 v2 V1 _ (Ext.store (X.trans X1) f S2 k1) S2 F2 ⟨(k1 a (nTg a na)).trans oa.at_, oa.free, oa.tab⟩ ⟨(k1 dx (nTg dx nd)).trans od.at_, od.free, od.tab⟩ at_ r1 r2 hne (X.none0 na ta) (X.none0 nd td) na nd
theorem Own.store {V : View} {s : Shared} {env : Env} {b : Asn} {a : Addr} {o : Obj} {h' : Heap} {tk : Nat} (x : Own V s a o) (k : ∀ c, ¬ Tgt env b c → h'.get? c = s.heap.get? c) (n : ¬ Tgt env b a) : Own V { s with heap := h', toks := tk } a o := ⟨(k a n).trans x.at_, x.free, x.tab⟩
end
noncomputable def freeChk (scope sc : Scope) : Bool := scope.names.all (fun x => x.2 != .free || sc.names.lookup x.1 == some .cell)
theorem free_of {C : Cx} {env : Env} {ρ : Asn} {V : View} {h : Heap} {scope sc : Scope} (F : Frm C env ρ V h) (he : env.scope = sc) (hc : freeChk scope sc = true) : ∀ x ∈ scope.names, x.2 = .free → ∃ c, env.cells.lookup x.1 = some c := fun x hx hf => by
  have := List.all_eq_true.mp hc x hx
  rw [hf] at this
  exact F.has _ (.inl (by rw [he]; simpa using this))
theorem nil_of_lookup {l : List (PySem.Str × Addr)} (h : ∀ x c, l.lookup x ≠ some c) : l = [] := by
  cases l with
  | nil => rfl
  | cons a r => obtain ⟨x, c⟩ := a; exact absurd (by simp [List.lookup_cons]) (h x c)
theorem Frm.locNe {C : Cx} {env : Env} {ρ : Asn} {V : View} {h : Heap} (F : Frm C env ρ V h) {a : Addr} (ha : h.get? a = none) : env.locals ≠ a := fun q => by
  obtain ⟨m, ⟨o, es, ep, e, _⟩, _⟩ := F.ns
  rw [q, ha] at e; cases e
theorem Frm.cellNe {C : Cx} {env : Env} {ρ : Asn} {V : View} {h : Heap} (F : Frm C env ρ V h) {a : Addr} (ha : h.get? a = none) : ∀ y c, env.cells.lookup y = some c → c ≠ a := fun y c hc q => by
  obtain ⟨_, v, ⟨o, e, _⟩, _⟩ := F.cells _ _ hc
  rw [q, ha] at e; cases e
theorem entF_agents {v1 v2 v3 v4 w : Value} : (fun m => if m = Str.ofString "useragents" then some w else entF v1 v2 v3 v4 m) = entF w v2 v3 v4 := by
  have a : Str.ofString "useragents" ≠ Str.ofString "req_rate" := by decide
  have b : Str.ofString "useragents" ≠ Str.ofString "delay" := by decide
  have c : Str.ofString "useragents" ≠ Str.ofString "rulelines" := by decide
  funext m
  by_cases h : m = Str.ofString "useragents"
  · subst h; simp [entF, a, b, c]
  · simp [entF, h]
theorem entF_rules {v1 v2 v3 v4 w : Value} : (fun m => if m = Str.ofString "rulelines" then some w else entF v1 v2 v3 v4 m) = entF v1 w v3 v4 := by
  have a : Str.ofString "rulelines" ≠ Str.ofString "req_rate" := by decide
  have b : Str.ofString "rulelines" ≠ Str.ofString "delay" := by decide
  funext m
  by_cases h : m = Str.ofString "rulelines"
  · subst h; simp [entF, a, b]
  · simp [entF, h]
theorem entF_delay {v1 v2 v3 v4 w : Value} : (fun m => if m = Str.ofString "delay" then some w else entF v1 v2 v3 v4 m) = entF v1 v2 w v4 := by
  have a : Str.ofString "delay" ≠ Str.ofString "req_rate" := by decide
  funext m
  by_cases h : m = Str.ofString "delay"
  · subst h; simp [entF, a]
  · simp [entF, h]
theorem entF_rate {v1 v2 v3 v4 w : Value} : (fun m => if m = Str.ofString "req_rate" then some w else entF v1 v2 v3 v4 m) = entF v1 v2 v3 w := by
  funext m
  by_cases h : m = Str.ofString "req_rate"
  · subst h; simp [entF]
  · simp [entF, h]
theorem rep_entry {V : View} {a dx : Addr} {es : List DictEntry} {n l : Nat} {v1 v2 v3 v4 : Value} {d1 d2 d3 d4 : D} (ha : V a = some (instObj entryA dx)) (hd : V dx = some (dictOf es n)) (at_ : Atts es (entF v1 v2 v3 v4) l) (r1 : Rep V v1 d1) (r2 : Rep V v2 d2) (r3 : Rep V v3 d3) (r4 : Rep V v4 d4) :
    Rep V (.ref a) (.entry d1 d2 d3 d4) := by
  refine .entry a dx es n v1 v2 v3 v4 d1 d2 d3 d4 ha hd ?_ ?_ ?_ ?_ ?_ ?_ r1 r2 r3 r4
  all_goals
    rw [at_.get]
    rfl
theorem St.freezeL {C : Cx} {V : View} {s : Shared} (S : St C V s) (l : List (Addr × Obj)) (h : ∀ p ∈ l, Own V s p.1 p.2) :
    ∃ V' : View, VLe V V' ∧ (∀ p ∈ l, V' p.1 = some p.2) ∧ (∀ b, b ∉ l.map (·.1) → V' b = V b) ∧ St C V' s := by
  have mono : VLe V (fun b => if b ∈ l.map (·.1) then s.heap.get? b else V b) := fun b o e => by
    by_cases hb : b ∈ l.map (·.1)
    · simp only [if_pos hb]; exact S.sub _ _ e
    · simp only [if_neg hb]; exact e
  refine ⟨_, mono, fun p hp => ?_, fun b hb => by simp only [if_neg hb], ⟨fun b o e => mono _ _ (S.base b o e), fun b o e => ?_, S.tab.at mono fun _ e => e, ?_, S.gens, S.os, S.tk⟩⟩
  · simp only [if_pos (List.mem_map_of_mem (f := (·.1)) hp)]; exact (h p hp).at_
  · by_cases hb : b ∈ l.map (·.1)
    · simp only [if_pos hb] at e; exact e
    · simp only [if_neg hb] at e; exact S.sub b o e
  · have : tabA ∉ l.map (·.1) := fun hm => by
      obtain ⟨p, hp, e⟩ := List.mem_map.mp hm
      exact (h p hp).tab e
    simp only [if_neg this]; exact S.tabV
theorem Ext.freezeL {V V' V'' : View} {s s' : Shared} (X : Ext V s V' s') (l : List Addr) (m : VLe V' V'') (h : ∀ b, b ∉ l → V'' b = V' b) (f : ∀ a ∈ l, s.heap.get? a = none) : Ext V s V'' s' :=
  ⟨X.mono.trans m, fun b o e => (h b fun q => by rw [f b q] at e; cases e).trans (X.same b o e), X.keep, X.tab⟩
section
variable {C : Cx} {k : Nat}
theorem lawRule (H : Hd C) {name side : PySem.Str} {d : D} (h1 : side.length + name.length ≤ sizeLine) (h2 : (side ++ name).length + side.length ≤ sizeLine) (h3 : (Txt.upper (side ++ name ++ side)).length ≤ sizeLine) : CallR C (k + 10) (.ref 216) [.str name, .str side, d] (.rule name side d) := fun A V s vs hr S rs E Q q => by
  have Hc := entC H
  refine wpAny_call ?_
  refine' fn_run (k := k + 8) (f := 216) (ids := [i_name, i_side, i_verdict]) ?hl ?hcd rfl ?hb ?ok hr S rs fun env s1 _ he hco hqu hr1 S1 F1 O1 X1 f1 => ?body
  case hl => rw [H.K]; exact rfl
  case hcd => rw [H.K]; kernel_rfl
  case hb => intro vs hv; obtain ⟨_, _, _, rfl⟩ := len3 hv; exact rfl
  case ok => exact DefOk.of (by decide +kernel)
  case body =>
  have hlq : env.qual ++ Str.ofString "<lambda>" = lamQual := by rw [hqu]; kernel_rfl
  refine wpAny_execs_cons (entry_assign (k := k) (i := i_guard) H rfl (.inr rfl) rfl he (hr1.mono (by lia)) S1 F1 X1 f1 fun ga gdx es n v1 v2 V2 s2 X2 S2 F2 oa od at_ r1 r2 hne n0a n0d nna nnd => ?_)
  have lk1 := F1.locNe nnd
  have ck1 := F1.cellNe nnd
  refine wpAny_execs_cons (attr_st (k := k + 8) Hc (i := i_guard) rfl (d := .list [.str (Str.ofString "*"), .str (Txt.upper (side ++ name ++ side))]) (Ev.list (EvL.cons Ev.str (EvL.cons (Ev.upper (Ev.bin (Ev.bin (Ev.name (i := i_side) rfl (by walk_at "lk")) (Ev.name (i := i_name) rfl (by walk_at "lk")) (.addS h1)) (Ev.name (i := i_side) rfl (by walk_at "lk")) (.addS h2)) h3) .nil)) (by show 2 ≤ sizeLine; decide))
    Hc.t1 (fun _ => rfl) he hr1 S2 F2 X2 n0d (by walk_at "lk") oa od hne at_ (by lia) lk1 ck1 fun vg V3 s3 es3 n3 X3 S3 F3 m3 rg oa od at3 => ?_)
  rw [entF_agents] at at3
  have e2 : ∀ {x : PySem.Str} {p lp pos : Pos} {params : Arguments} {body : Expr} {scope : Scope} {env : Env}, exec (.Assign [.Name x p] (.Lambda params body scope lp) pos) env = (do
      standAt pos
      let v ← eval (.Lambda params body scope lp) env
      PySem.assign (.Name x p) env v
      pure .next) := rfl
  refine wpAny_execs_cons ?_
  rw [e2]
  refine wpAny_bind (wpAny_standAt (wpAny_bind (lam_new H rfl hlq hco F3 S3 (free_of F3 he (by decide +kernel)) fun f V4 s4 cl1 pm1 c1 ct1 X4 S4 of nf cv1 q1 q2 q3 => ?_)))
  have F4 := F3.ext S3 X4
  have X04 := X3.trans X4
  have oa4 := oa.ext X4
  have od4 := od.ext X4
  have n0f : s.heap.get? f = none := X3.none0 nf of.tab
  have hc1 : cl1 = [] := nil_of_lookup fun x c hx => by
    have := q3 x c hx
    simp at this
  subst hc1
  refine wpAny_bind (wpAny_assign_Name (F4.storeL (i := i_rule) S4 (by rw [he]; rfl) (.own f) fun h5 tk5 k5 l5 S5 F5 => wpAny_pure ?_))
  have X05 : Ext V s V4 { s4 with heap := h5, toks := tk5 } := Ext.store (b := [(i_rule, .own f)]) X04 f1 S5 fun a ha => k5 a fun q => ha (.inl q)
  have nlf : f ≠ env.locals := Ne.symm (F3.locNe nf)
  have own5 : ∀ {a o}, Own V4 s4 a o → a ≠ env.locals → Own V4 { s4 with heap := h5, toks := tk5 } a o := fun x hx => ⟨(k5 _ hx).trans x.at_, x.free, x.tab⟩
  have nla : ga ≠ env.locals := Ne.symm (F1.locNe nna)
  have oa5 := own5 oa4 nla
  have od5 := own5 od4 (Ne.symm lk1)
  have of5 := own5 of nlf
  refine wpAny_execs_cons (plainObj_wpAny_Assign_Attribute (lam_new H rfl hlq hco F5 S5 (free_of F5 he (by decide +kernel)) fun g V6 s6 cl2 pm2 c2 ct2 X6 S6 og ng cv2 p1 p2 p3 => ?_) rfl)
  have F6 := F5.ext S5 X6
  have X06 := X05.trans X6
  refine Ev.name (C := C) (k := k + 8) (i := i_rule) rfl Asn.here env _ V6 s6 he hr1 S6 F6 _ _ fun u V7 s7 X7 S7 ru => ?_
  obtain rfl := ru.is
  have X07 := X06.trans X7
  have F7 := F6.ext S6 X7
  have of7 := (of5.ext X6).ext X7
  refine setFn_new S7 of7 fnNo1 fun h8 tk8 dxf es8 n8 at8 S8 of8 odf8 ndf hfd k8 => ?_
  have X08 : Ext V s V7 { s7 with heap := h8, toks := tk8 } := ⟨X07.mono, X07.same, fun a o ha e => k8 a o (fun q => by rw [q, n0f] at e; cases e) (X07.keep a o ha e), fun o e => let ⟨ps, h, _⟩ := S8.tab; ⟨_, h⟩⟩
  have nf3 := F3.cellNe nf
  have F8 : Frm C env ((i_rule, .own f) :: (i_guard, .own ga) :: [i_name, i_side, i_verdict].zip [.str name, .str side, d]) V7 h8 := F7.stay (fun o e => k8 _ o (Ne.symm nlf) e) fun y c o hc e => k8 _ o (nf3 y c hc) e
  refine wpAny_execs_cons (plainObj_wpAny_Assign_Attribute (Ev.name (C := C) (k := k + 8) (i := i_verdict) (d := d) rfl (by walk_at "lk") env _ V7 { s7 with heap := h8, toks := tk8 } he hr1 S8 F8 _ _ fun vv V9 s9 X9 S9 rvv => ?_) rfl)
  refine Ev.name (C := C) (k := k + 8) (i := i_rule) rfl Asn.here env _ V9 s9 he hr1 S9 (F8.ext S8 X9) _ _ fun u V10 s10 X10 S10 ru => ?_
  obtain rfl := ru.is
  have X010 := (X08.trans X9).trans X10
  have n0dxf : s.heap.get? dxf = none := X07.none0 ndf odf8.tab
  refine setFn_more S10 ((of8.ext X9).ext X10) ((odf8.ext X9).ext X10) hfd at8 (by lia) fnNo2 fun h11 tk11 es11 n11 at11 S11 of11 odf11 k11 => ?_
  have F10 := (F8.ext S8 X9).ext S9 X10
  have F11 : Frm C env ((i_rule, .own f) :: (i_guard, .own ga) :: [i_name, i_side, i_verdict].zip [.str name, .str side, d]) V10 h11 := F10.stay (fun o e => (k11 _ (F7.locNe ndf)).trans e) fun y c o hc e => (k11 _ (F7.cellNe ndf y c hc)).trans e
  have X11 : Ext V s V10 { s10 with heap := h11, toks := tk11 } := Ext.write (s' := s10) X010 S11 n0dxf k11
  refine wpAny_execs_cons ?_
  rw [exec_Return_some]
  refine wpAny_bind (wpAny_standAt (wpAny_bind (Ev.name (C := C) (k := k + 8) (i := i_rule) rfl Asn.here env _ V10 { s10 with heap := h11, toks := tk11 } he hr1 S11 F11 _ _ fun u V12 s12 X12 S12 ru => ?_)))
  obtain rfl := ru.is
  refine wpAny_pure ?_
  have F12 := F11.ext S11 X12
  have X012 := X11.trans X12
  have own8 : ∀ {a o}, Own V7 s7 a o → a ≠ f → Own V7 { s7 with heap := h8, toks := tk8 } a o := fun x hx => ⟨k8 _ _ hx x.at_, x.free, x.tab⟩
  have own11 : ∀ {a o}, Own V10 s10 a o → a ≠ dxf → Own V10 { s10 with heap := h11, toks := tk11 } a o := fun x hx => ⟨(k11 _ hx).trans x.at_, x.free, x.tab⟩
  have ne7 : ∀ {a o}, s7.heap.get? a = some o → a ≠ dxf := fun e q => by rw [q, ndf] at e; cases e
  have nef : ∀ {a o}, s3.heap.get? a = some o → a ≠ f := fun e q => by rw [q, nf] at e; cases e
  have oa7 := (oa5.ext X6).ext X7
  have od7 := (od5.ext X6).ext X7
  have og7 := og.ext X7
  have oa12 := (own11 (((own8 oa7 (nef oa.at_)).ext X9).ext X10) (ne7 oa7.at_)).ext X12
  have od12 := (own11 (((own8 od7 (nef od.at_)).ext X9).ext X10) (ne7 od7.at_)).ext X12
  have hgf : g ≠ f := fun q => by rw [q, of5.at_] at ng; cases ng
  have og12 := (own11 (((own8 og7 hgf).ext X9).ext X10) (ne7 og7.at_)).ext X12
  have of12 := of11.ext X12
  have odf12 := odf11.ext X12
  refine hid fun G hG => ?_
  obtain ⟨cn, hcn⟩ := F12.has (Str.ofString "name") (.inl (by rw [he]; rfl))
  obtain ⟨cg, hcg⟩ := F12.has (Str.ofString "guard") (.inl (by rw [he]; rfl))
  obtain ⟨fn1, un, ⟨on, en, dn⟩, gn⟩ := F12.cells _ cn hcn
  obtain ⟨fg1, ug, ⟨og', eg, dg⟩, gg⟩ := F12.cells _ cg hcg
  obtain ⟨un', rfl, run⟩ := gn i_name (.str name) rfl (.inl (by rw [he]; rfl)) (by walk_at "lk")
  obtain ⟨ug', rfl, rug⟩ := gg i_guard (.own ga) rfl (.inl (by rw [he]; rfl)) (by walk_at "lk")
  obtain rfl := rug.is
  refine hG ?_
  replace fn1 : V12 cn = none := fn1.resolve_right fun q => q (by rw [he]; rfl)
  replace fg1 : V12 cg = none := fg1.resolve_right fun q => q (by rw [he]; rfl)
  have ocn : Own V12 s12 cn on := ⟨en, fn1, S.tabNone (f1.cell _ _ hcn)⟩
  have ocg : Own V12 s12 cg og' := ⟨eg, fg1, S.tabNone (f1.cell _ _ hcg)⟩
  obtain ⟨V13, m13, v13, k13, S13⟩ := S12.freezeL [(ga, _), (gdx, _), (g, _), (f, _), (dxf, _), (cn, on), (cg, og')] (List.forall_mem_cons.mpr ⟨oa12, List.forall_mem_cons.mpr ⟨od12, List.forall_mem_cons.mpr ⟨og12, List.forall_mem_cons.mpr ⟨of12, List.forall_mem_cons.mpr ⟨odf12, List.forall_mem_cons.mpr ⟨ocn, List.forall_mem_cons.mpr ⟨ocg, List.forall_mem_nil _⟩⟩⟩⟩⟩⟩⟩)
  have n0g : s.heap.get? g = none := X05.none0 ng og.tab
  refine q (.ref f) V13 s12 (X012.freezeL _ m13 k13 (List.forall_mem_cons.mpr ⟨n0a, List.forall_mem_cons.mpr ⟨n0d, List.forall_mem_cons.mpr ⟨n0g, List.forall_mem_cons.mpr ⟨n0f, List.forall_mem_cons.mpr ⟨n0dxf, List.forall_mem_cons.mpr ⟨f1.cell _ _ hcn, List.forall_mem_cons.mpr ⟨f1.cell _ _ hcg, List.forall_mem_nil _⟩⟩⟩⟩⟩⟩⟩)) S13 ?_
  have up3 : VLe V3 V13 := ((((((X4.mono.trans X6.mono).trans X7.mono).trans X9.mono).trans X10.mono).trans X12.mono).trans m13)
  have up2 : VLe V2 V13 := m3.trans up3
  have rg13 : Rep V13 (.ref ga) (.entry (.list [.str (Str.ofString "*"), .str (Txt.upper (side ++ name ++ side))]) (.list []) .none .none) :=
    rep_entry (v13 _ (.head _)) (v13 _ (.tail _ (.head _))) at3 (rg.mono up3) (r2.mono up2) .none .none
  have ru13 : Rep V13 vv d := rvv.mono ((X10.mono.trans X12.mono).trans m13)
  obtain ⟨tn, rfl⟩ := run.is
  have q2n : ∃ c, cl2.lookup (Str.ofString "name") = some c := p2 (Str.ofString "name", .free) (by decide) rfl
  have q2g : ∃ c, cl2.lookup (Str.ofString "guard") = some c := p2 (Str.ofString "guard", .free) (by decide) rfl
  have hn' : cl2.lookup (Str.ofString "name") = some cn := by obtain ⟨c, h⟩ := q2n; rw [h]; exact (p1 _ _ h).symm.trans hcn
  have hg' : cl2.lookup (Str.ofString "guard") = some cg := by obtain ⟨c, h⟩ := q2g; rw [h]; exact (p1 _ _ h).symm.trans hcg
  refine .rule _ vv ga name side d ⟨C.w.params, f, dxf, g, cn, cg, es11, n11, pm1, ct1, pm2, ct2, c1, c2, cl2, tn, rfl, (v13 _ (.tail _ (.tail _ (.tail _ (.head _))))).trans (by kernel_rfl), v13 _ (.tail _ (.tail _ (.tail _ (.tail _ (.head _))))), ?_, ?_, (v13 _ (.tail _ (.tail _ (.head _)))).trans (by kernel_rfl), ?_, hn', hg', fun e => ?_, fun x c hx => ?_, ?_, ?_⟩ rg13 ru13
  · rw [at11.get]; rfl
  · rw [at11.get]; rfl
  · exact cv2.mono (((((X7.mono.trans X9.mono).trans X10.mono).trans X12.mono).trans m13))
  · rw [e] at hcn
    have := F12.inj _ _ _ hcn hcg
    exact absurd this (by decide)
  · have := p3 x c hx
    simp only [List.mem_cons, List.mem_nil_iff, or_false, Prod.mk.injEq] at this
    rcases this with ⟨_, h⟩ | ⟨h, _⟩ | ⟨h, _⟩ | ⟨_, h⟩
    · cases h
    · exact .inr h
    · exact .inl h
    · cases h
  · exact ⟨on, v13 _ (.tail _ (.tail _ (.tail _ (.tail _ (.tail _ (.head _)))))), dn⟩
  · exact ⟨og', v13 _ (.tail _ (.tail _ (.tail _ (.tail _ (.tail _ (.tail _ (.head _))))))), dg⟩
end
theorem len_app (x y : PySem.Str) : (x ++ y).length = x.length + y.length := by
  show (PySem.Str.append x y).length = _
  simp [PySem.Str.append, PySem.Str.length]
section
variable {C : Cx} {k : Nat} {sc : Scope} {ρ : Asn}
theorem ItE.strsN {iter : Expr} {i : Nat} {x : PySem.Str} {pos : Pos} {ys : List PySem.Str} (hx : nm i = x) (h : Ev C k sc ρ iter (.list (ys.map .str))) : ItE C k sc ρ iter (.Name x pos) (ys.map fun y => [(i, D.str y)]) := by
  have := ItE.listN (pos := pos) hx h
  rwa [List.map_map] at this
theorem ItE.intsN {iter : Expr} {i : Nat} {x : PySem.Str} {pos : Pos} {ys : List Int} (hx : nm i = x) (h : Ev C k sc ρ iter (.list (ys.map .int))) : ItE C k sc ρ iter (.Name x pos) (ys.map fun y => [(i, D.int y)]) := by
  have := ItE.listN (pos := pos) hx h
  rwa [List.map_map] at this
noncomputable abbrev ruleD (side mark : PySem.Str) (n : PySem.Str) : D := .rule n side (.str (mark ++ n ++ mark))
theorem lawRecord (H : Hd C) {names : List PySem.Str} {side mark : PySem.Str} {d1 d4 d5 : D} (hn : ∀ n ∈ names, n.length ≤ 1000) (hs : side.length ≤ 100) (hm : mark.length ≤ 100) (hl : names.length ≤ 1000) :
    CallR C (k + 20) (.ref 221) [d1, .list (names.map .str), .str side, .str mark, d4, d5] (.entry d1 (.list (names.map (ruleD side mark))) d4 d5) := fun A V s vs hr S rs E Q q => by
  have Hc := entC H
  refine wpAny_call ?_
  refine' fn_run (k := k + 18) (f := 221) (ids := [i_agents, i_names, i_side, i_mark, i_delay, i_rate]) ?hl ?hcd rfl ?hb ?ok hr S rs fun env s1 _ he hco hqu hr1 S1 F1 O1 X1 f1 => ?body
  case hl => rw [H.K]; exact rfl
  case hcd => rw [H.K]; kernel_rfl
  case hb => intro vs hv; obtain ⟨_, _, _, _, _, _, rfl⟩ := len6 hv; exact rfl
  case ok => exact DefOk.of (by decide +kernel)
  case body =>
  refine wpAny_execs_cons (entry_assign (k := k) (i := i_record) H rfl (.inl rfl) rfl he (hr1.mono (by lia)) S1 F1 X1 f1 fun a dx es n v1 v2 V2 s2 X2 S2 F2 oa od at_ r1 r2 hne n0a n0d nna nnd => ?_)
  have lk1 := F1.locNe nnd
  have ck1 := F1.cellNe nnd
  refine wpAny_execs_cons (attr_st (k := k + 18) Hc (i := i_record) rfl (Ev.name (i := i_agents) (d := d1) rfl (by walk_at "lk")) Hc.t1 (fun _ => rfl) he hr1 S2 F2 X2 n0d (by walk_at "lk") oa od hne at_ (by lia) lk1 ck1 fun w1 V3 s3 es3 n3 X3 S3 F3 m3 q1 oa od at3 => ?_)
  rw [entF_agents] at at3
  refine' wpAny_execs_cons (attr_st (k := k + 18) Hc (i := i_record) rfl (d := .list (names.map (ruleD side mark))) (Ev.compMap names (fun n => [(i_name, .str n)]) (ruleD side mark) [(i_side, .str side), (i_mark, .str mark)] (ItE.strsN rfl (Ev.name (i := i_names) rfl (by walk_at "lk"))) (Sees.of [i_side, i_mark] ?sees (fr_cons (by walk_at "lk") (fr_cons (by walk_at "lk") fr_nil))) (fun n _ p hp => ?loc) (fun n hn' => ?el) ?sz)
    Hc.t2 (fun _ => rfl) he hr1 S3 F3 X3 n0d (by walk_at "lk") oa od hne at3 (by lia) lk1 ck1 fun w2 V4 s4 es4 n4 X4 S4 F4 m4 q2 oa od at4 => ?_)
  case sees => decide +kernel
  case loc => rcases List.mem_singleton.mp hp with rfl; rfl
  case sz => rw [sizeLine_eq]; lia
  case el =>
    have := hn n hn'
    refine Ev.call rfl (gf_law_rule H) (kf_law_rule H) (EvL.cons (Ev.name (i := i_name) (d := .str n) rfl (by walk_at "lk")) (EvL.cons (Ev.name (i := i_side) (d := .str side) rfl (by walk_at "lk")) (EvL.cons (Ev.bin (Ev.bin (Ev.name (i := i_mark) (d := .str mark) rfl (by walk_at "lk")) (Ev.name (i := i_name) (d := .str n) rfl (by walk_at "lk")) (.addS ?_)) (Ev.name (i := i_mark) (d := .str mark) rfl (by walk_at "lk")) (.addS ?_)) .nil)))
      ((lawRule (k := k) H (name := n) (side := side) ?_ ?_ ?_).mono (by lia))
    all_goals rw [sizeLine_eq]
    · lia
    · rw [len_app]; lia
    · lia
    · rw [len_app]; lia
    · have := len_upper (side ++ n ++ side)
      rw [len_app, len_app] at this; lia
  rw [entF_rules] at at4
  refine wpAny_execs_cons (attr_st (k := k + 18) Hc (i := i_record) rfl (Ev.name (i := i_delay) (d := d4) rfl (by walk_at "lk")) Hc.t3 (fun _ => rfl) he hr1 S4 F4 X4 n0d (by walk_at "lk") oa od hne at4 (by lia) lk1 ck1 fun w3 V5 s5 es5 n5 X5 S5 F5 m5 q3 oa od at5 => ?_)
  rw [entF_delay] at at5
  refine wpAny_execs_cons (attr_st (k := k + 18) Hc (i := i_record) rfl (Ev.name (i := i_rate) (d := d5) rfl (by walk_at "lk")) Hc.t4 (fun _ => rfl) he hr1 S5 F5 X5 n0d (by walk_at "lk") oa od hne at5 (by lia) lk1 ck1 fun w4 V6 s6 es6 n6 X6 S6 F6 m6 q4 oa od at6 => ?_)
  rw [entF_rate] at at6
  refine wpAny_execs_cons ?_
  rw [exec_Return_some]
  refine wpAny_bind (wpAny_standAt (wpAny_bind (Ev.name (C := C) (k := k + 18) (i := i_record) (d := .own a) rfl (by walk_at "lk") env _ V6 s6 he hr1 S6 F6 _ _ fun u V7 s7 X7 S7 ru => ?_)))
  obtain rfl := ru.is
  refine wpAny_pure ?_
  have oa7 := oa.ext X7
  have od7 := od.ext X7
  obtain ⟨V8, m8, v8, k8, S8⟩ := S7.freezeL [(a, instObj entryA dx), (dx, dictOf es6 n6)] (by
    intro p hp
    simp only [List.mem_cons, List.mem_nil_iff, or_false] at hp
    rcases hp with rfl | rfl
    · exact oa7
    · exact od7)
  refine q (.ref a) V8 s7 ((X6.trans X7).freezeL _ m8 k8 (by
    intro b hb
    simp only [List.map_cons, List.map_nil, List.mem_cons, List.mem_nil_iff, or_false] at hb
    rcases hb with rfl | rfl
    · exact n0a
    · exact n0d)) S8 ?_
  have u6 : VLe V6 V8 := X7.mono.trans m8
  exact rep_entry (v8 (a, instObj entryA dx) (by simp)) (v8 (dx, dictOf es6 n6) (by simp)) at6 (q1.mono (((m4.trans m5).trans m6).trans u6)) (q2.mono ((m5.trans m6).trans u6)) (q3.mono (m6.trans u6)) (q4.mono u6)
end
noncomputable def KeepV (V : View) (f : Value) : Prop := (∃ id, f = .builtin id) ∨ ∃ a o fd, f = .ref a ∧ V a = some o ∧ o.data = .func fd
section
variable {C : Cx} {k : Nat} {sc : Scope} {ρ : Asn} {A : Around} {V : View} {s : Shared}
theorem Yl.callWithV {f : Value} {first : List Value} {args : List (Bool × Sem Value)} {pos : Pos} {P : View → List Value → Prop} {T : View → Value → Prop} (_S : St C V s) (hk : KeepV V f) (hp : args.any (·.1) = false)
    (h : Yl C A V s (spliced args) P) (c : ∀ vs V' s', Ext V s V' s' → St C V' s' → P V' vs → Yl C A V' s' (PySem.call f (first ++ vs) []) T) : Yl C A V s (PySem.callWith pos f first args []) T := fun E Q q => by
  rcases hk with ⟨id, rfl⟩ | ⟨a, o, fd, rfl, ho, hd⟩
  · exact callWith_builtin hp (evalArgs_of hp (h E _ fun vs V1 s1 X1 S1 hP => c vs V1 s1 X1 S1 hP E _ fun v V2 s2 X2 S2 r => q v V2 s2 (X1.trans X2) S2 r))
  · exact callWith_function (evalArgs_of hp (h E _ fun vs V1 s1 X1 S1 hP => ⟨⟨S1.sub _ _ (X1.mono _ _ ho), hd⟩, c vs V1 s1 X1 S1 hP E _ fun v V2 s2 X2 S2 r => q v V2 s2 (X1.trans X2) S2 r⟩))
noncomputable def MethR (C : Cx) (k : Nat) (d0 : D) (name : PySem.Str) (ds : List D) (d : D) : Prop := ∀ (A : Around) (V : View) (s : Shared) (v : Value) (pl : Sem Bool), Room k A → St C V s → Rep V v d0 → ∀ (E : Value → Shared → Prop) (Q : Value × List Value → Shared → Prop),
  (∀ f first V' s', Ext V s V' s' → St C V' s' → KeepV V' f → (∀ V'' s'' vs, St C V'' s'' → VLe V' V'' → Reps V'' vs ds → Yd C A V'' s'' (PySem.call f (first ++ vs) []) d) → Q (f, first) s') → wpAny C.M A (getMethod v name pl) Q E s
theorem Ev.methG {o : Expr} {name : PySem.Str} {apos pos : Pos} {args : List Expr} {d0 d : D} {ds : List D} (ho : Ev C k sc ρ o d0) (hm : MethR C k d0 name ds d)
    (ha : EvL C k sc ρ args ds) (hbase : ∀ env, attributeBase o name env (eval o env) = eval o env := by intro _; rfl)
    (hp : ∀ env pos, (backTo pos (starEach args env)).any (·.1) = false := by intro _ _; rfl) (hlen : args.length < 30 := by decide) (hline : (apos.endLine == pos.line) = true := by rfl) :
    Ev C k sc ρ (.Call (.Attribute o name apos) args [] pos) d := fun env A V s he hr S F E Q q => by
  rw [arm_eval_Call, hbase]
  refine wpAny_bind (ho env A V s he hr S F E _ fun v V1 s1 X1 S1 r1 => wpAny_bind (wpAny_standAt ?_))
  have hform : methodCallForm (args.length + ([] : List Keyword).length) (backTo pos (starEach args env)) (backToKw pos (keywordEach [] env)) = true := by
    have h1 := hp env pos
    unfold methodCallForm
    simp only [Bool.and_eq_true, List.all_eq_true]
    refine ⟨⟨fun x hx => ?_, fun x hx => by cases hx⟩, ?_⟩
    · cases h2 : x.1 with
      | false => rfl
      | true => exact absurd (List.any_eq_true.mpr ⟨x, hx, h2⟩) (by rw [h1]; nofun)
    · have h0 : backToKw pos (keywordEach [] env) = [] := rfl
      rw [h0]; simp; omega
  have hpos : methodCallPos true o env apos pos = pure pos := by unfold methodCallPos; simp [hline]
  unfold methodCall
  rw [hform]
  refine wpAny_bind (wpAny_holding (hm A V1 s1 v _ hr S1 r1 E _ fun f first V2 s2 X2 S2 hk hc => ?_))
  refine wpAny_bind (wpAny_of_eq hpos ?_)
  exact Yl.callWithV (first := first) S2 hk (hp env pos) (ha env A V2 s2 pos he hr S2 ((F.ext S X1).ext S1 X2)) (fun vs V3 s3 X3 S3 rs => hc V3 s3 vs S3 X3.mono rs) E _ fun u V3 s3 X3 S3 r3 => q u V3 s3 ((X1.trans X2).trans X3) S3 r3
theorem MethR.entry (H : EntK C) {name : PySem.Str} {f : Addr} {d1 d2 d3 d4 d : D} {ds : List D} (hf : findIn C.K (.ref entryA) name = some (some (.ref f))) (hfn : fnIn C.K f = true) (htf : typeIn C.K (.ref f) = some (.type "function")) (hn : name = "applies_to" ∨ name = "allowance")
    (hc : CallR C k (.ref f) (.entry d1 d2 d3 d4 :: ds) d) : MethR C k (.entry d1 d2 d3 d4) name ds d := fun A V s v pl hr S r E Q q => by
  have r0 := r
  refine hid fun G hG => ?_
  obtain ⟨a, dx, es, n, v1, v2, v3, v4, rfl, h, hd, h1, h2, h3, h4, h5, h6, r1, r2, r3, r4⟩ := r.is
  refine hG ?_
  have hl : getL name es = some none := by rcases hn with rfl | rfl <;> assumption
  have hk : KeepV V (.ref f) := by
    unfold fnIn at hfn
    split at hfn
    · rename_i hl'
      exact .inr ⟨f, _, _, rfl, S.base _ _ (C.inK _ _ hl'), rfl⟩
    · cases hfn
  refine method_fn S.inK (instAt_of S h hd) (plainGet_of H.hg).1 (plainGet_of H.hg).2 hf htf (by show (lookIn name (dictOf es n)).map _ = _; rw [lookIn_dict, hl]; rfl) ?_
  exact q (.ref f) [.ref a] V s (.refl V s) S hk fun V'' s'' vs S'' l rs => hc A V'' s'' (.ref a :: vs) hr S'' (.cons (r0.mono l) rs)
theorem fnGaS : Slot "function" "__getattribute__" "object.__getattribute__" :=
  .of (owner := "object") (n := "__getattribute__") (by rw [typeLookup_type, builtinLookup_eq_fast]; kernel_rfl) (by decide +kernel) (by decide +kernel) (by decide +kernel)
    (by first | exact .inl (by decide +kernel) | exact .inr (by decide +kernel)) (by rw [isSubtype_type]; kernel_rfl)
theorem fnGaE : entryFor table "object.__getattribute__" = some Builtin.«object.__getattribute__» := entryFor_of_tree (by kernel_rfl)
theorem fnGaA (a b : Value) : argsOk "object.__getattribute__" ⟨[a, b], []⟩ := by unfold argsOk; kernel_rfl
theorem fnAttr {f dx : Addr} {l : Arguments × Expr × Scope} {clos : List (PySem.Str × Addr)} {pm ct : Value} {c : Addr} {es : List DictEntry} {n : Nat} {name : PySem.Str} {v : Value} {ex : Bool} {E : Value → Shared → Prop} {Q : Value → Shared → Prop}
    (hf : s.heap.get? f = some (lamObj l clos pm c ct (some dx))) (hd : s.heap.get? dx = some (dictOf es n)) (hl : typeLookup (.type "function") name = pure none) (hg : getL name es = some (some v)) (hv : handedIn v = true) (q : Q v { s with toks := s.toks + 1 }) :
    wpAny C.M A (getAttr (.ref f) name ex) Q E s := by
  obtain ⟨hh, g, d, t, os⟩ := s
  have hT : ∀ t', Shared.TypeIs ⟨hh, g, d, t', os⟩ (.ref f) "function" := fun _ => ⟨_, hf, rfl⟩
  have k1 : wpAny C.M A.in1 (Builtin.«object.__getattribute__» ⟨[.ref f, .str name t], []⟩) (fun fin s' => ∃ u, fin = .done (.ret u) ∧ u = v ∧ s' = ⟨hh, g, d, t + 1, os⟩) (fun _ _ => False) ⟨hh, g, d, t + 1, os⟩ := by
    refine wpAny_bind (wpAny_pure (wpAny_bind (wpAny_pure (wpAny_bind (wpAny_typeOf (hT _) (wpAny_bind ?_))))))
    unfold find
    refine wpAny_bind (wpAny_of_eq hl (wpAny_bind (wpAny_pure (wpAny_bind (wpAny_pure ?_)))))
    refine wpAny_bind ?_
    unfold inOwnDict
    unfold Builtin.ObjectAttr.ownDict
    refine wpAny_bind (wpAny_bind (wpAny_loadPart (s := ⟨hh, g, d, t + 1, os⟩) hf ?_))
    unfold instanceDict
    refine wpAny_bind (wpAny_loadPart (s := ⟨hh, g, d, t + 1, os⟩) hf ?_)
    dsimp only
    refine wpAny_pure (wpAny_bind (wpAny_loadPart (s := ⟨hh, g, d, t + 1, os⟩) hd ?_))
    rw [nsLook_of (by rw [lookIn_dict]; exact hg)]
    refine wpAny_pure (wpAny_bind (wpAny_rule (wpAny_pure ?_)))
    exact wpAny_pure ⟨v, rfl, rfl, rfl⟩
  unfold getAttr getAttrBy
  refine wpAny_bind (wpAny_mkText (wpAny_holding (wpAny_bind (wpAny_typeOf (hT _) (wpAny_bind (wpAny_of_eq fnGa ?_))))))
  show wpAny _ _ (getAttrByItsOwn (.ref f) (.str name t) (.type "function") (.builtin "object.__getattribute__") true ex) _ _ _
  unfold getAttrByItsOwn hookBefore callGetattribute boundAndCalled
  refine wpAny_bind (wpAny_of_eq (show (if onTheHeap (.type "function") then typeLookup (.type "function") "__getattr__" else pure none) = pure none from rfl) ?_)
  refine wpAny_bind (wpAny_attempt (wpAny_holding ?_))
  have e0 : (ex && onTheHeap (.builtin "object.__getattribute__")) = false := by simp [onTheHeap]
  rw [e0]
  show wpAny _ _ (bindSpecial (.builtin "object.__getattribute__") (.ref f) >>= _) _ _ _
  refine wpAny_bind (wpAny_of_eq (fnGaS.bind _) ?_)
  refine wpAny_mono (Q := fun u s' => u = v ∧ s' = ⟨hh, g, d, t + 1, os⟩) (E := fun _ _ => False)
    (wpAny_call_entry fnGaS (hT _) fnGaE k1 (fnGaA _ _)) (fun u s' hu => ?_) fun _ _ z => z.elim
  obtain ⟨rfl, rfl⟩ := hu
  dsimp only
  rw [handedOut_of hv]
  exact wpAny_pure q
theorem fnMeth {f dx : Addr} {l : Arguments × Expr × Scope} {clos : List (PySem.Str × Addr)} {pm ct : Value} {c : Addr} {es : List DictEntry} {n : Nat} {name : PySem.Str} {v : Value} {pl : Sem Bool} {E : Value → Shared → Prop} {Q : Value × List Value → Shared → Prop}
    (hf : s.heap.get? f = some (lamObj l clos pm c ct (some dx))) (hd : s.heap.get? dx = some (dictOf es n)) (hl : typeLookup (.type "function") name = pure none) (hg : getL name es = some (some v)) (hv : handedIn v = true) (q : Q (v, []) { s with toks := s.toks + 1 }) :
    wpAny C.M A (getMethod (.ref f) name pl) Q E s := by
  have hT : s.TypeIs (.ref f) "function" := ⟨_, hf, rfl⟩
  have hcan := PySem.F.canon_object_ga
  unfold getMethod
  refine wpAny_bind (wpAny_specialOf hT fnGa ?_)
  dsimp only
  rw [hcan, if_neg (by decide)]
  refine wpAny_bind (wpAny_specialOf hT fnGet ?_)
  refine wpAny_bind (wpAny_specialOf hT hl ?_)
  exact wpAny_bind (fnAttr hf hd hl hg hv (wpAny_pure q))
end
section
variable {C : Cx} {k : Nat} {sc : Scope} {ρ : Asn} {A : Around} {V : View} {s : Shared}
theorem Op2.mulIB {a : Int} {b : Bool} : Op2 C k (binaryOp .Mult) (.int a) (.bool b) (.int (a * if b = true then 1 else 0)) := fun A V s v1 v2 hr S r1 r2 => by
  obtain ⟨_, rfl⟩ := r1.is; obtain rfl := r2.is; exact .of_tok S fun E Q q => IntBool.mul_int_bool (q _ _ (.int _ _))
theorem AttrR.rule {name side : PySem.Str} {d : D} : AttrR C k (.rule name side d) (Str.ofString "allowance") d := fun A V s v hr S r => by
  obtain ⟨u, ga, h, hg, hu⟩ := r.is
  obtain ⟨P, f, dx, g, c1, c2, es, n, pm1, ct1, pm2, ct2, k1, k2, clos, t, rfl, h2, h3, h4, h5, h6, h7, h8, h9, h10, h11, h12, h13⟩ := h
  exact .of_tok S fun E Q q => fnAttr (S.sub _ _ h2) (S.sub _ _ h3) fnNo2 h5 (handedRep hu) (q _ _ hu)
noncomputable abbrev guardD (name side : PySem.Str) : D := .entry (.list [.str (Str.ofString "*"), .str (Txt.upper (side ++ name ++ side))]) (.list []) .none .none
theorem lamScope (P : Params) : (lam2 P).2.2 = { kind := .function, names := [(nm i_asked, .local), (nm i_guard, .free), (nm i_name, .free), (Str.ofString "len", .globalImplicit)], isGenerator := false, isCoroutine := false } := by kernel_rfl
theorem MethR.rule (H : Hd C) {name side : PySem.Str} {du dv : D} {b : Bool} (hn : name.length < 2 ^ 40) (hm : MethR C k (guardD name side) (Str.ofString "applies_to") [du] (.bool b)) : MethR C (k + 3) (.rule name side dv) (Str.ofString "applies_to") [du] (.int ((99 - name.length) * if b = true then 1 else 0)) := fun A V s v pl hr S r E Q q => by
  obtain ⟨u, ga, h, hg, hu⟩ := r.is
  obtain ⟨P, f, dx, g, c1, c2, es, n, pm1, ct1, pm2, ct2, k1, k2, clos, t, rfl, h2, h3, h4, h5, h6, h7, h8, h9, h10, h11, h12, h13⟩ := h
  refine fnMeth (S.sub _ _ h2) (S.sub _ _ h3) fnNo1 h4 rfl ?_
  have S1 : St C V { s with toks := s.toks + 1 } := S.keeps (h' := s.heap) (fun _ _ e => e)
  refine q (.ref g) [] V _ (.keeps (h' := s.heap) fun _ _ e => e) S1 (.inr ⟨g, _, _, rfl, h6, rfl⟩) fun V2 s2 vs S2 l rs => ?_
  intro E2 Q2 q2
  refine Reps.el1 rs fun va ra => ?_
  have hg2 := S2.sub _ _ (l _ _ h6)
  have hcr : s2.heap.CodeRec (.ref k2) lamQual := by
    refine hid fun G hG => ?_
    obtain ⟨c, o, vs, t, e, hc, hd, hv⟩ := h7
    refine hG ?_
    exact ⟨c, o, vs, t, e, S2.sub _ _ (l _ _ hc), hd, hv⟩
  have hlim : s2.heap.NoLimit := by
    obtain ⟨mc, ⟨o, es, ep, e, r⟩, h2⟩ := C.nolimit
    exact ⟨mc, ⟨o, es, ep, S2.sub _ _ (S2.base _ _ e), r⟩, h2⟩
  refine wpAny_call (kla_callFunE hr.depth hg2 rfl (by rw [lamScope]) (by rw [lamScope]) rfl hcr ?_)
  have hb : bindArgs (kla_fn (Str.ofString "<lambda>") lamQual (lam2 P).1 (lam2 P).2.1 (lam2 P).2.2 clos pm2 (.ref k2) ct2) ⟨[va], []⟩ = pure [(nm i_asked, va)] := by kernel_rfl
  show wpAny C.M A.in1 (bindArgs (kla_fn (Str.ofString "<lambda>") lamQual (lam2 P).1 (lam2 P).2.1 (lam2 P).2.2 clos pm2 (.ref k2) ct2) ⟨[va], []⟩) _ _ _
  rw [hb]
  refine wpAny_pure (wp_toks' S2.tk (wpAny_newFunctionEnv (by show ∀ x ∈ (lam2 P).2.2.names, x.2 ≠ NameKind.cell; rw [lamScope]; decide) (by rw [lamScope]; intro x hx; rcases List.mem_singleton.mp hx with rfl; rfl) (fun h' hns hsb hn3 => ?_) (by rw [lamScope])))
  have n2 : s2.heap.get? s2.heap.objs.size = none := get_size
  have k3 : ∀ b o, s2.heap.get? b = some o → h'.get? b = some o := fun b o e => hsb.extBut b o (Nat.ne_of_lt (lt_of_get e)) (Heap.get?_push_of_some _ e)
  have S3 : St C V2 { s2 with heap := h', toks := s2.toks + [(nm i_asked, va)].length } := S2.keeps k3 hn3
  have X3 : Ext V2 s2 V2 { s2 with heap := h', toks := s2.toks + [(nm i_asked, va)].length } := .keeps k3
  refine ⟨hlim.keeps k3, kla_codeExpr ?_⟩
  generalize hEnv : newEnv (lam2 P).2.2 s2.heap.objs.size mainGlobals clos (lamQual ++ ".<locals>.") (some g) (.ref k2) none builtinsNs = env
  have hes : env.scope = { kind := .function, names := [(nm i_asked, .local), (nm i_guard, .free), (nm i_name, .free), (Str.ofString "len", .globalImplicit)], isGenerator := false, isCoroutine := false } := by rw [← hEnv]; exact lamScope P
  have hec : env.cells = clos := by rw [← hEnv]; rfl
  have hel : env.locals = s2.heap.objs.size := by rw [← hEnv]; rfl
  refine hid fun G hG => ?_
  obtain ⟨o1, e1, d1⟩ := h12
  obtain ⟨o2, e2, d2⟩ := h13
  refine hG ?_
  have F3 : Frm C env [(i_asked, du), (i_name, .str name), (i_guard, guardD name side)] V2 h' := by
    refine ⟨by rw [hes], by rw [← hEnv]; rfl, by rw [← hEnv]; rfl, ⟨_, by rw [hel]; exact hns, fun i d hi hk => ?_⟩, by rw [hel]; exact vnone S2 n2, fun x c hc => ?_, fun x hx => ?_, fun x y c hx hy => ?_, fun i d hi => ?_⟩
    · rcases Asn.cons_inv hi with ⟨rfl, rfl⟩ | ⟨_, hi⟩
      · exact ⟨va, by simp [List.lookup_cons], ra⟩
      rcases Asn.cons_inv hi with ⟨rfl, rfl⟩ | ⟨_, hi⟩
      · rw [hes] at hk; exact absurd hk (by decide)
      rcases Asn.cons_inv hi with ⟨rfl, rfl⟩ | ⟨_, hi⟩
      · rw [hes] at hk; exact absurd hk (by decide)
      simp [Asn.get] at hi
    · rw [hec] at hc
      rcases h11 x c hc with rfl | rfl
      · rw [h8] at hc; cases hc
        refine ⟨.inr (by rw [hes]; decide), _, ⟨o1, k3 _ _ (S2.sub _ _ (l _ _ e1)), d1⟩, fun i d hi _ hd => ?_⟩
        have : i = i_name := nm_inj hi
        subst this
        rcases Asn.cons_inv hd with ⟨h, _⟩ | ⟨_, hd⟩
        · exact absurd h (by decide)
        rcases Asn.cons_inv hd with ⟨_, rfl⟩ | ⟨h, _⟩
        · exact ⟨_, rfl, .str _ _⟩
        · exact absurd rfl h
      · rw [h9] at hc; cases hc
        refine ⟨.inr (by rw [hes]; decide), _, ⟨o2, k3 _ _ (S2.sub _ _ (l _ _ e2)), d2⟩, fun i d hi _ hd => ?_⟩
        have : i = i_guard := nm_inj hi
        subst this
        rcases Asn.cons_inv hd with ⟨h, _⟩ | ⟨_, hd⟩
        · exact absurd h (by decide)
        rcases Asn.cons_inv hd with ⟨h, _⟩ | ⟨_, hd⟩
        · exact absurd h (by decide)
        rcases Asn.cons_inv hd with ⟨_, rfl⟩ | ⟨h, _⟩
        · exact ⟨_, rfl, hg.mono l⟩
        · exact absurd rfl h
    · rw [hes] at hx
      rw [hec]
      have hm : x = Str.ofString "name" ∨ x = Str.ofString "guard" := by
        have hx' : (x, NameKind.cell) ∈ [(nm i_asked, NameKind.local), (nm i_guard, NameKind.free), (nm i_name, NameKind.free), (Str.ofString "len", NameKind.globalImplicit)] ∨ (x, NameKind.free) ∈ [(nm i_asked, NameKind.local), (nm i_guard, NameKind.free), (nm i_name, NameKind.free), (Str.ofString "len", NameKind.globalImplicit)] := hx.imp mem_of_lookupN mem_of_lookupN
        simp only [List.mem_cons, List.mem_nil_iff, or_false, Prod.mk.injEq] at hx'
        rcases hx' with h | h <;> rcases h with ⟨h, h'⟩ | ⟨h, h'⟩ | ⟨h, h'⟩ | ⟨h, h'⟩ <;> first | exact .inr h | exact .inl h | cases h'
      rcases hm with rfl | rfl
      · exact ⟨c1, h8⟩
      · exact ⟨c2, h9⟩
    · rw [hec] at hx hy
      rcases h11 x c hx with rfl | rfl <;> rcases h11 y c hy with rfl | rfl
      · rfl
      · rw [h8] at hx; rw [h9] at hy; cases hx; cases hy; exact absurd rfl h10
      · rw [h9] at hx; rw [h8] at hy; cases hx; cases hy; exact absurd rfl h10
      · rfl
    · rw [hes]
      rcases Asn.cons_inv hi with ⟨rfl, _⟩ | ⟨_, hi⟩
      · exact .inl rfl
      rcases Asn.cons_inv hi with ⟨rfl, _⟩ | ⟨_, hi⟩
      · exact .inr (.inr rfl)
      rcases Asn.cons_inv hi with ⟨rfl, _⟩ | ⟨_, hi⟩
      · exact .inr (.inr rfl)
      simp [Asn.get] at hi
  have hev : Ev C k { kind := .function, names := [(nm i_asked, .local), (nm i_guard, .free), (nm i_name, .free), (Str.ofString "len", .globalImplicit)], isGenerator := false, isCoroutine := false } [(i_asked, du), (i_name, .str name), (i_guard, guardD name side)] (lam2 P).2.1 (.int ((99 - name.length) * if b = true then 1 else 0)) := by
    refine Ev.bin (Ev.bin Ev.int (Ev.call (x := Str.ofString "len") rfl (gb_len H) (.inl ⟨_, rfl⟩) (EvL.cons (Ev.name (i := i_name) (d := .str name) rfl (by walk_at "lk")) .nil) (CallR.len_str (by lia))) Op2.subI) (Ev.methG (Ev.name (i := i_guard) (d := guardD name side) rfl (by walk_at "lk")) hm (EvL.cons (Ev.name (i := i_asked) (d := du) rfl (by walk_at "lk")) .nil)) Op2.mulIB
  exact hev env (A.deeper env) V2 _ hes ((hr.mono (by lia : k + 1 ≤ k + 3)).deeper) S3 F3 _ _ fun u V4 s4 X4 S4 r4 => q2 u V4 s4 (X3.trans X4) S4 r4
end
theorem Ex.ret {C : Cx} {k : Nat} {sc : Scope} {ρ : Asn} {Pn : Asn → Prop} {Pr : D → Prop} {e : Expr} {d : D} {pos : Pos} {ss : List Stmt} (h : Ev C k sc ρ e d) (hp : Pr d) : Ex C k sc ρ (.Return (some e) pos :: ss) Pn Pr :=
  Ex.cons (P1 := fun _ => False) (Ex1.ret h hp) fun _ h => h.elim
theorem ItE.ofL {C : Cx} {k : Nat} {sc : Scope} {ρ : Asn} {α : Type} {iter : Expr} {i : Nat} {x : PySem.Str} {pos : Pos} (xs : List α) (F : α → D) (hx : nm i = x) (h : Ev C k sc ρ iter (.list (xs.map F))) : ItE C k sc ρ iter (.Name x pos) (xs.map fun a => [(i, F a)]) := by
  have := ItE.listN (pos := pos) hx h
  rwa [List.map_map] at this
noncomputable abbrev inS (x y : PySem.Str) : Bool := !(Builtin.Str.occurrences y x 0 y.length 1).isEmpty
noncomputable abbrev starS : PySem.Str := Str.ofString "*"
noncomputable def match1 (w a : PySem.Str) : Bool := (a != starS) && inS (Txt.lower a) w
noncomputable def appliesS (w : PySem.Str) (ags : List PySem.Str) : Bool := ags.any (match1 w)
section
variable {C : Cx} {k : Nat}
theorem appliesNone (H : Hd C) {ags : List PySem.Str} {d2 d3 d4 : D} : CallR C (k + 4) (.ref 59) [.entry (.list (ags.map .str)) d2 d3 d4, .none] (.bool (ags.any (· == starS))) := by
  have EK := entK H
  refine' CallR.fn (f := 59) (ids := [i_self, i_useragent]) ?hl ?hcd rfl ?hb ?ok ?body
  case hl => rw [H.K]; exact rfl
  case hcd => rw [H.K]; kernel_rfl
  case hb => intro vs hv; obtain ⟨_, _, rfl⟩ := len2 hv; exact rfl
  case ok => exact DefOk.of (by decide +kernel)
  case body =>
  refine Ex.cons (P1 := fun _ => False) (Ex1.ite (c := true) (Tst.cmp (Ev.name (i := i_useragent) (d := .none) rfl (by walk_at "lk")) Ev.none Op2.isN rfl) (fun _ => Ex.ret (Ev.cmp Ev.str (Ev.attr (Ev.name (i := i_self) (d := .entry (.list (ags.map .str)) d2 d3 d4) rfl (by walk_at "lk")) (AttrR.entry EK EK.f1 (.inl ⟨rfl, rfl⟩))) Op2.inStrs rfl) rfl) fun h => by cases h) fun _ h => h.elim
theorem appliesStr (H : Hd C) {ags : List PySem.Str} {u u0 : PySem.Str} {d2 d3 d4 : D} (h0 : (Txt.split u (Str.ofString "/"))[0]? = some u0) (hu : u.length ≤ 2 ^ 20) (hu0 : u0.length ≤ 2 ^ 18) (hl : ags.length ≤ 2 ^ 20) (ha : ∀ a ∈ ags, a.length ≤ 2 ^ 18) (hsz : (Txt.split u (Str.ofString "/")).length ≤ 2 ^ 20) :
    CallR C (k + 4) (.ref 59) [.entry (.list (ags.map .str)) d2 d3 d4, .str u] (.bool (appliesS (Txt.lower u0) ags)) := by
  have EK := entK H
  refine' CallR.fn (f := 59) (ids := [i_self, i_useragent]) ?hl ?hcd rfl ?hb ?ok ?body
  case hl => rw [H.K]; exact rfl
  case hcd => rw [H.K]; kernel_rfl
  case hb => intro vs hv; obtain ⟨_, _, rfl⟩ := len2 hv; exact rfl
  case ok => exact DefOk.of (by decide +kernel)
  case body =>
  refine Ex.step (Ex1.skip (Tst.cmp (Ev.name (i := i_useragent) (d := .str u) rfl (by walk_at "lk")) Ev.none Op2.isN rfl)) ?_
  refine' Ex.step (Ex1.assign (i := i_useragent) (d := .str (Txt.lower u0)) rfl (Ev.lower (Ev.sub (Ev.split (x := u) (Ev.name (i := i_useragent) (d := .str u) rfl (by walk_at "lk")) Ev.str ?y hu) Ev.int (by show "list" ≠ "?"; decide) F.slot_list_getitem.lookup (Op2.itemL (d := .str u0) (by lia) ?it ?sz)) ?lo) (.inl rfl) (fun _ _ => rfl)) ?rest
  case y => decide
  case it => rw [List.getElem?_map]; show Option.map _ (Txt.split u _)[0]? = _; rw [h0]; rfl
  case sz => rw [List.length_map]; exact hsz
  case lo => have := len_lower u0; rw [sizeLine_eq]; lia
  case rest =>
  refine' Ex.cons (P1 := fun ρ' => appliesS (Txt.lower u0) ags = false) (Ex1.for ags (fun a => [(i_agent, .str a)]) (fun _ => [(i_useragent, .str (Txt.lower u0))]) (fun i => (ags.take i).any (match1 (Txt.lower u0)) = false) (ItE.strsN rfl (Ev.attr (Ev.name (i := i_self) (d := .entry (.list (ags.map .str)) d2 d3 d4) rfl (by walk_at "lk")) (AttrR.entry EK EK.f1 (.inl ⟨rfl, rfl⟩)))) ?g ?le ?j0 ?bd ?en) ?fin
  case g => intro a _ p hp; rcases List.mem_singleton.mp hp with rfl; exact .inl rfl
  case le => exact .cons Asn.here .nil
  case j0 => rfl
  case en => intro h; rwa [List.take_length] at h
  case fin =>
    intro ρ' h
    refine Ex.ret Ev.bool ?_
    rw [h]
  case bd =>
    intro i hi hJ
    have hx : ags[i] ∈ ags := List.getElem_mem hi
    have hal := ha _ hx
    have htake : (ags.take (i + 1)).any (match1 (Txt.lower u0)) = match1 (Txt.lower u0) ags[i] := by
      rw [List.take_succ, List.any_append, hJ, List.getElem?_eq_getElem hi]; simp
    have hyes : match1 (Txt.lower u0) ags[i] = true → appliesS (Txt.lower u0) ags = true := fun h => List.any_eq_true.mpr ⟨_, hx, h⟩
    refine Ex.cons (Ex1.ite (c := (ags[i] != starS)) (Tst.cmp (Ev.name (i := i_agent) (d := .str ags[i]) rfl (by walk_at "lk")) Ev.str Op2.neS rfl) (fun hc => ?_) fun hc => ?_) fun ρ' h => Ex.nil h
    · refine Ex.step (Ex1.assign (i := i_agent) (d := .str (Txt.lower ags[i])) rfl (Ev.lower (Ev.name (i := i_agent) (d := .str ags[i]) rfl (by walk_at "lk")) (by have := len_lower ags[i]; rw [sizeLine_eq]; lia)) (.inl rfl) (fun _ _ => rfl)) ?_
      refine Ex.cons (Ex1.ite (c := inS (Txt.lower ags[i]) (Txt.lower u0)) (Tst.cmp (Ev.name (i := i_agent) (d := .str (Txt.lower ags[i])) rfl (by walk_at "lk")) (Ev.name (i := i_useragent) (d := .str (Txt.lower u0)) rfl (by walk_at "lk")) Op2.inS rfl) (fun hd => ?_) fun hd => ?_) fun ρ' h => Ex.nil h
      · refine Ex.ret Ev.bool ?_
        rw [hyes (by unfold match1; rw [hc]; simpa using hd)]
      · refine Ex.nil ⟨.cons (by walk_at "lk") .nil, ?_⟩
        rw [htake]; unfold match1; rw [hd]; simp
    · refine Ex.nil ⟨.cons (by walk_at "lk") .nil, ?_⟩
      rw [htake]; unfold match1; rw [hc]; simp
noncomputable abbrev RuleT := PySem.Str × PySem.Str × PySem.Str
noncomputable abbrev RuleT.d (r : RuleT) : D := .rule r.1 r.2.1 (.str r.2.2)
noncomputable def ruleApp (w : PySem.Str) (r : RuleT) : Bool := appliesS w [starS, Txt.upper (r.2.1 ++ r.1 ++ r.2.1)]
noncomputable def ruleM (w : PySem.Str) (r : RuleT) : Int := (99 - r.1.length) * if ruleApp w r = true then 1 else 0
noncomputable def alTrue : Option PySem.Str → Bool
  | none => true
  | some v => (v.length : Int) != 0
noncomputable def alD : Option PySem.Str → D
  | none => .bool true
  | some v => .str v
noncomputable def alStep (w : PySem.Str) (st : Int × Option PySem.Str) (r : RuleT) : Int × Option PySem.Str :=
  if ruleM w r != 0 then (if decide (st.1 < ruleM w r) then (ruleM w r, some r.2.2) else if (ruleM w r == st.1 && !alTrue st.2) then (st.1, some r.2.2) else st) else st
noncomputable def allowS (w : PySem.Str) (rs : List RuleT) : Option PySem.Str := (rs.foldl (alStep w) (-1, none)).2
theorem Tr.al {o : Option PySem.Str} (h : ∀ v, o = some v → v.length < 2 ^ 62) : Tr C k (alD o) (alTrue o) := by
  cases o with
  | none => exact Tr.bool
  | some v => exact Tr.str (h v rfl)
theorem allowance (H : Hd C) {d1 d3 d4 : D} {rs : List RuleT} {f u0 : PySem.Str} (h0 : (Txt.split f (Str.ofString "/"))[0]? = some u0) (hu : f.length ≤ 2 ^ 20) (hu0 : u0.length ≤ 2 ^ 18) (hsz : (Txt.split f (Str.ofString "/")).length ≤ 2 ^ 20)
    (hr : ∀ r ∈ rs, r.1.length ≤ 1000 ∧ r.2.1.length ≤ 100 ∧ r.2.2.length ≤ 2000) : CallR C (k + 9) (.ref 66) [.entry d1 (.list (rs.map RuleT.d)) d3 d4, .str f] (alD (allowS (Txt.lower u0) rs)) := by
  have EK := entK H
  have MR : ∀ r ∈ rs, MethR C (k + 7) (RuleT.d r) (Str.ofString "applies_to") [.str f] (.int (ruleM (Txt.lower u0) r)) := fun r hr' => by
    obtain ⟨l1, l2, l3⟩ := hr r hr'
    refine MethR.rule (k := k + 4) H (by lia) (MethR.entry (f := 59) EK (by rw [H.K]; kernel_rfl) (by rw [H.K]; kernel_rfl) (by rw [H.K]; kernel_rfl) (.inl rfl) ?_)
    refine appliesStr (k := k) (ags := [starS, Txt.upper (r.2.1 ++ r.1 ++ r.2.1)]) H h0 hu hu0 (by show 2 ≤ 2 ^ 20; decide) (fun a ha => ?_) hsz
    simp only [List.mem_cons, List.mem_nil_iff, or_false] at ha
    rcases ha with rfl | rfl
    · decide
    · have := len_upper (r.2.1 ++ r.1 ++ r.2.1)
      rw [len_app, len_app] at this; lia
  refine' CallR.fn (k := k + 7) (f := 66) (ids := [i_self, i_filename]) ?hl ?hcd rfl ?hb ?ok ?body
  case hl => rw [H.K]; exact rfl
  case hcd => rw [H.K]; kernel_rfl
  case hb => intro vs hv; obtain ⟨_, _, rfl⟩ := len2 hv; exact rfl
  case ok => exact DefOk.of (by decide +kernel)
  case body =>
  refine Ex.step (Ex1.assign (i := i_best_match) (d := .int (-1)) rfl (Ev.neg Ev.int) (.inl rfl) (fun _ _ => rfl)) ?_
  refine Ex.step (Ex1.assign (i := i_allowance) (d := .bool true) rfl Ev.bool (.inl rfl) (fun _ _ => rfl)) ?_
  refine' Ex.cons (P1 := fun ρ' => ρ'.get i_allowance = some (alD (allowS (Txt.lower u0) rs))) (Ex1.for rs (fun r => [(i_line, RuleT.d r)]) (fun i => [(i_best_match, .int ((rs.take i).foldl (alStep (Txt.lower u0)) (-1, none)).1), (i_allowance, alD ((rs.take i).foldl (alStep (Txt.lower u0)) (-1, none)).2), (i_filename, .str f)])
    (fun i => ∀ v, ((rs.take i).foldl (alStep (Txt.lower u0)) (-1, none)).2 = some v → v.length < 2 ^ 62) ?it ?g ?le ?j0 ?bd ?en) ?fin
  case it => exact ItE.ofL rs RuleT.d rfl (Ev.attr (Ev.name (i := i_self) (d := .entry d1 (.list (rs.map RuleT.d)) d3 d4) rfl (by walk_at "lk")) (AttrR.entry EK EK.f2 (.inr (.inl ⟨rfl, rfl⟩))))
  case g => intro a _ p hp; rcases List.mem_singleton.mp hp with rfl; exact .inl rfl
  case le => exact .cons (by walk_at "lk") (.cons (by walk_at "lk") (.cons (by walk_at "lk") .nil))
  case j0 => intro v hv; cases hv
  case en =>
    intro _
    rw [List.take_length]
    exact Asn.there (by decide) Asn.here
  case fin =>
    intro ρ' h
    exact Ex.ret (Ev.name (i := i_allowance) rfl h) rfl
  case bd =>
    intro i hi hJ
    have hx : rs[i] ∈ rs := List.getElem_mem hi
    obtain ⟨l1, l2, l3⟩ := hr _ hx
    have hm := MR _ hx
    have htake : (rs.take (i + 1)).foldl (alStep (Txt.lower u0)) (-1, none) = alStep (Txt.lower u0) ((rs.take i).foldl (alStep (Txt.lower u0)) (-1, none)) rs[i] := by
      rw [List.take_succ, List.foldl_append, List.getElem?_eq_getElem hi]; rfl
    simp only [htake]
    generalize (rs.take i).foldl (alStep (Txt.lower u0)) (-1, none) = st at *
    generalize hr0 : rs[i] = r at *
    obtain ⟨best, al⟩ := st
    dsimp only at hJ ⊢
    refine Ex.step (Ex1.assign (i := i_m) (d := .int (ruleM (Txt.lower u0) r)) rfl (Ev.methG (Ev.name (i := i_line) (d := RuleT.d r) rfl (by walk_at "lk")) hm (EvL.cons (Ev.name (i := i_filename) (d := .str f) rfl (by walk_at "lk")) .nil)) (.inl rfl) (fun _ _ => rfl)) ?_
    refine Ex.cons (Ex1.ite (c := (ruleM (Txt.lower u0) r != 0)) (Tst.ev (Ev.name (i := i_m) (d := .int (ruleM (Txt.lower u0) r)) rfl (by walk_at "lk")) Tr.int) (fun h1 => ?_) fun h1 => ?_) fun ρ' h => Ex.nil h
    · refine Ex.cons (Ex1.ite (c := decide (best < ruleM (Txt.lower u0) r)) (Tst.cmp (Ev.name (i := i_m) (d := .int (ruleM (Txt.lower u0) r)) rfl (by walk_at "lk")) (Ev.name (i := i_best_match) (d := .int best) rfl (by walk_at "lk")) Op2.gtI rfl) (fun h2 => ?_) fun h2 => ?_) fun ρ' h => Ex.nil h
      · refine Ex.step (Ex1.assign (i := i_best_match) (d := .int (ruleM (Txt.lower u0) r)) rfl (Ev.name (i := i_m) rfl (by walk_at "lk")) (.inl rfl) (fun _ _ => rfl)) ?_
        refine Ex.step (Ex1.assign (i := i_allowance) (d := .str r.2.2) rfl (Ev.attr (Ev.name (i := i_line) (d := RuleT.d r) rfl (by walk_at "lk")) AttrR.rule) (.inl rfl) (fun _ _ => rfl)) (Ex.nil ?_)
        unfold alStep
        rw [if_pos h1, if_pos h2]
        exact ⟨.cons (by walk_at "lk") (.cons Asn.here (.cons (by walk_at "lk") .nil)), fun v hv => by cases hv; lia⟩
      · refine Ex.cons (Ex1.ite (c := (ruleM (Txt.lower u0) r == best && !alTrue al)) (Tst.and2 (Tst.cmp (Ev.name (i := i_m) (d := .int (ruleM (Txt.lower u0) r)) rfl (by walk_at "lk")) (Ev.name (i := i_best_match) (d := .int best) rfl (by walk_at "lk")) Op2.eqI rfl) fun _ => Tst.not (Tst.ev (Ev.name (i := i_allowance) (d := alD al) rfl (by walk_at "lk")) (Tr.al hJ))) (fun h3 => ?_) fun h3 => ?_) fun ρ' h => Ex.nil h
        · refine Ex.step (Ex1.assign (i := i_allowance) (d := .str r.2.2) rfl (Ev.attr (Ev.name (i := i_line) (d := RuleT.d r) rfl (by walk_at "lk")) AttrR.rule) (.inl rfl) (fun _ _ => rfl)) (Ex.nil ?_)
          unfold alStep
          dsimp only
          rw [if_pos h1, if_neg (by rw [h2]; decide), if_pos h3]
          exact ⟨.cons (by walk_at "lk") (.cons Asn.here (.cons (by walk_at "lk") .nil)), fun v hv => by cases hv; lia⟩
        · refine Ex.nil ?_
          unfold alStep
          dsimp only
          rw [if_pos h1, if_neg (by rw [h2]; decide), if_neg (by rw [h3]; decide)]
          exact ⟨.cons (by walk_at "lk") (.cons (by walk_at "lk") (.cons (by walk_at "lk") .nil)), hJ⟩
    · refine Ex.nil ?_
      unfold alStep
      rw [if_neg (by rw [h1]; decide)]
      exact ⟨.cons (by walk_at "lk") (.cons (by walk_at "lk") (.cons (by walk_at "lk") .nil)), hJ⟩
end
noncomputable def joinL (s : List Nat) : List (List Nat) → List Nat
  | [] => []
  | [p] => p
  | p :: q :: r => p ++ s ++ joinL s (q :: r)
theorem sL_app (a b : List Nat) : (sL a).cps ++ (sL b).cps = (sL (a ++ b)).cps := by simp [sL]
theorem foldl_glue (s : List Nat) : ∀ (ps : List (List Nat)) (acc : List Nat), (ps.map sL).foldl (fun acc p => acc ++ (sL s).cps ++ p.cps) (sL acc).cps = (sL (ps.foldl (fun a p => a ++ s ++ p) acc)).cps
  | [], acc => rfl
  | p :: ps, acc => by
    rw [List.map_cons, List.foldl_cons, sL_app, sL_app, foldl_glue s ps]; rfl
theorem foldl_join (s : List Nat) : ∀ (ps : List (List Nat)) (acc : List Nat), ps.foldl (fun a p => a ++ s ++ p) acc = joinL s (acc :: ps)
  | [], acc => rfl
  | p :: ps, acc => by
    rw [List.foldl_cons, foldl_join s ps]
    cases ps with
    | nil => rfl
    | cons q r => simp [joinL]
theorem join_sL (s : List Nat) (ps : List (List Nat)) : Txt.join (sL s) (ps.map sL) = sL (joinL s ps) := by
  cases ps with
  | nil => rfl
  | cons p ps =>
    have := foldl_glue s ps p
    have h2 : Txt.join (sL s) ((p :: ps).map sL) = ⟨(ps.map sL).foldl (fun acc p => acc ++ (sL s).cps ++ p.cps) (sL p).cps⟩ := rfl
    rw [h2, this, foldl_join]
noncomputable def splitL (c : Nat) : List Nat → List (List Nat)
  | [] => [[]]
  | a :: r => if a = c then [] :: splitL c r else match splitL c r with
    | [] => [[a]]
    | p :: ps => (a :: p) :: ps
theorem splitL_ne {c a : Nat} {r : List Nat} (h : a ≠ c) : splitL c (a :: r) = (match splitL c r with
    | [] => [[a]]
    | p :: ps => (a :: p) :: ps) := by rw [splitL, if_neg h]
theorem splitL_free (c : Nat) : ∀ p : List Nat, c ∉ p → splitL c p = [p]
  | [], _ => rfl
  | a :: r, h => by
    have ha : a ≠ c := fun q => h (q ▸ List.mem_cons_self)
    have ih := splitL_free c r fun q => h (List.mem_cons_of_mem _ q)
    rw [splitL_ne ha, ih]
theorem splitL_cut (c : Nat) (y : List Nat) : ∀ p : List Nat, c ∉ p → splitL c (p ++ [c] ++ y) = p :: splitL c y
  | [], _ => by simp [splitL]
  | a :: r, h => by
    have ha : a ≠ c := fun q => h (q ▸ List.mem_cons_self)
    have ih := splitL_cut c y r fun q => h (List.mem_cons_of_mem _ q)
    show splitL c (a :: (r ++ [c] ++ y)) = _
    rw [splitL_ne ha, ih]
theorem splitL_join (c : Nat) : ∀ ps : List (List Nat), ps ≠ [] → (∀ p ∈ ps, c ∉ p) → splitL c (joinL [c] ps) = ps
  | [p], _, h => splitL_free c p (h p (by simp))
  | p :: q :: r, _, h => by
    show splitL c (p ++ [c] ++ joinL [c] (q :: r)) = _
    rw [splitL_cut c _ p (h p (by simp)), splitL_join c (q :: r) (by simp) fun p hp => h p (List.mem_cons_of_mem _ hp)]
theorem split_pos (x y : PySem.Str) : Txt.split x y ≠ [] := by
  unfold Txt.split
  split
  · simp
  · split
    · simp
    · intro h
      have := congrArg List.length h
      rw [length_partsBetween] at this
      simp at this
theorem split_sL (c : Nat) (x : List Nat) : Txt.split (sL x) (sL [c]) = (splitL c x).map sL := by
  have e : ∀ ps : List PySem.Str, ps = (ps.map fun p => p.cps.toList).map sL := fun ps => by
    rw [List.map_map]
    conv => lhs; rw [← List.map_id ps]
    exact List.map_congr_left fun p _ => sL_of p
  have h1 := StrLaws.join_split (sL x) (sL [c])
  have h2 := StrLaws.split_free (sL x) c
  have h3 := split_pos (sL x) (sL [c])
  rw [e (Txt.split (sL x) (sL [c]))] at h1 ⊢
  have h4 : Str.join (sL [c]) (((Txt.split (sL x) (sL [c])).map fun p => p.cps.toList).map sL) = sL (joinL [c] ((Txt.split (sL x) (sL [c])).map fun p => p.cps.toList)) := by rw [← StrLaws.glued_eq_join]; exact join_sL _ _
  rw [h4] at h1
  have h5 : joinL [c] ((Txt.split (sL x) (sL [c])).map fun p => p.cps.toList) = x := by
    have := congrArg (fun s : PySem.Str => s.cps.toList) h1
    simpa [sL] using this
  have h6 := splitL_join c ((Txt.split (sL x) (sL [c])).map fun p => p.cps.toList) (by simpa using h3) (fun p hp => by
    obtain ⟨q, hq, rfl⟩ := List.mem_map.mp hp
    exact h2 q hq)
  rw [h5] at h6
  rw [h6]
theorem ItE.sLN {C : Cx} {k : Nat} {sc : Scope} {ρ : Asn} {iter : Expr} {i : Nat} {x : PySem.Str} {pos : Pos} {w : List Nat} (hx : nm i = x) (h : Ev C k sc ρ iter (.str (sL w))) : ItE C k sc ρ iter (.Name x pos) (w.map fun c => [(i, D.str (sL [c]))]) := ItE.strN hx h
section
variable {C : Cx} {k : Nat}
theorem geC (H : Hd C) {a b : Int} : CallR C (k + 2) (.ref 87) [.int a, .int b] (.bool (decide (b ≤ a))) := by
  refine' CallR.fn (f := 87) (ids := [i_a, i_b]) ?hl ?hcd rfl ?hb ?ok ?body
  case hl => rw [H.K]; exact rfl
  case hcd => rw [H.K]; kernel_rfl
  case hb => intro vs hv; obtain ⟨_, _, rfl⟩ := len2 hv; exact rfl
  case ok => exact DefOk.of (by decide +kernel)
  case body => exact Ex.ret (Ev.cmp (Ev.name (i := i_a) (d := .int a) rfl (by walk_at "lk")) (Ev.name (i := i_b) (d := .int b) rfl (by walk_at "lk")) Op2.geI rfl) rfl
theorem addC (H : Hd C) {a b : Int} : CallR C (k + 2) (.ref 94) [.int a, .int b] (.int (a + b)) := by
  refine' CallR.fn (f := 94) (ids := [i_a, i_b]) ?hl ?hcd rfl ?hb ?ok ?body
  case hl => rw [H.K]; exact rfl
  case hcd => rw [H.K]; kernel_rfl
  case hb => intro vs hv; obtain ⟨_, _, rfl⟩ := len2 hv; exact rfl
  case ok => exact DefOk.of (by decide +kernel)
  case body => exact Ex.ret (Ev.bin (Ev.name (i := i_a) (d := .int a) rfl (by walk_at "lk")) (Ev.name (i := i_b) (d := .int b) rfl (by walk_at "lk")) Op2.addI) rfl
theorem subC (H : Hd C) {a b : Int} : CallR C (k + 2) (.ref 115) [.int a, .int b] (.int (a - b)) := by
  refine' CallR.fn (f := 115) (ids := [i_a, i_b]) ?hl ?hcd rfl ?hb ?ok ?body
  case hl => rw [H.K]; exact rfl
  case hcd => rw [H.K]; kernel_rfl
  case hb => intro vs hv; obtain ⟨_, _, rfl⟩ := len2 hv; exact rfl
  case ok => exact DefOk.of (by decide +kernel)
  case body => exact Ex.ret (Ev.bin (Ev.name (i := i_a) (d := .int a) rfl (by walk_at "lk")) (Ev.name (i := i_b) (d := .int b) rfl (by walk_at "lk")) Op2.subI) rfl
theorem mulC (H : Hd C) {a b : Int} (hm : IntMulOk a b) : CallR C (k + 2) (.ref 108) [.int a, .int b] (.int (a * b)) := by
  refine' CallR.fn (f := 108) (ids := [i_a, i_b]) ?hl ?hcd rfl ?hb ?ok ?body
  case hl => rw [H.K]; exact rfl
  case hcd => rw [H.K]; kernel_rfl
  case hb => intro vs hv; obtain ⟨_, _, rfl⟩ := len2 hv; exact rfl
  case ok => exact DefOk.of (by decide +kernel)
  case body => exact Ex.ret (Ev.bin (Ev.name (i := i_a) (d := .int a) rfl (by walk_at "lk")) (Ev.name (i := i_b) (d := .int b) rfl (by walk_at "lk")) (Op2.mulI hm)) rfl
theorem floordivC (H : Hd C) {a b : Int} (hb0 : b ≠ 0) (hp : Builtin.divisionGoesByPylong a b = false) : CallR C (k + 2) (.ref 101) [.int a, .int b] (.int (a.fdiv b)) := by
  refine' CallR.fn (f := 101) (ids := [i_a, i_b]) ?hl ?hcd rfl ?hb ?ok ?body
  case hl => rw [H.K]; exact rfl
  case hcd => rw [H.K]; kernel_rfl
  case hb => intro vs hv; obtain ⟨_, _, rfl⟩ := len2 hv; exact rfl
  case ok => exact DefOk.of (by decide +kernel)
  case body => exact Ex.ret (Ev.bin (Ev.name (i := i_a) (d := .int a) rfl (by walk_at "lk")) (Ev.name (i := i_b) (d := .int b) rfl (by walk_at "lk")) (Op2.divI hb0 hp)) rfl
noncomputable def otherW (w : List Nat) : List Nat := w.map fun c => if c = 97 then 98 else 97
theorem joinL_singles (w : List Nat) : joinL [] (w.map fun c => [c]) = w := by
  induction w with
  | nil => rfl
  | cons a r ih =>
    cases r with
    | nil => rfl
    | cons b r => simpa [joinL] using ih
theorem joinOk_of {s : PySem.Str} {ps : List PySem.Str} {n m : Nat} (h1 : ∀ p ∈ ps, p.length ≤ n) (h2 : ps.length ≤ m) (h3 : m * n + m * s.length ≤ 1000000) : JoinOk s ps = true := by
  unfold JoinOk Builtin.Str.tooLong
  have h4 := StrLaws.joinTotal s ps
  have h5 := StrLaws.sumLen_le (B := n) ps h1
  rw [h4]
  have h6 : ps.length * n ≤ m * n := Nat.mul_le_mul_right _ h2
  have h7 : ps.length * s.length ≤ m * s.length := Nat.mul_le_mul_right _ h2
  simp [sizeLine_eq]
  lia
theorem otherC (H : Hd C) {w : List Nat} (hw : w.length ≤ 1000) : CallR C (k + 2) (.ref 177) [.str (sL w)] (.str (sL (otherW w))) := by
  refine' CallR.fn (f := 177) (ids := [i_word]) ?hl ?hcd rfl ?hb ?ok ?body
  case hl => rw [H.K]; exact rfl
  case hcd => rw [H.K]; kernel_rfl
  case hb => intro vs hv; obtain ⟨_, rfl⟩ := len1 hv; exact rfl
  case ok => exact DefOk.of (by decide +kernel)
  case body =>
  refine' Ex.ret (Ev.cast (Ev.join (x := Str.ofString "") (ys := ((otherW w).map fun c => [c]).map sL) Ev.str (Ev.cast (Ev.compMap w (fun c => [(i_sign, .str (sL [c]))]) (fun c => if (sL [c] == sL [97]) = true then D.str (Str.ofString "b") else D.str (Str.ofString "a")) [] (ItE.sLN rfl (Ev.name (i := i_word) (d := .str (sL w)) rfl (by walk_at "lk"))) (Sees.of [] ?sees fr_nil) ?loc ?el ?sz) ?cast) ?jo) ?fin) rfl
  case sees => decide +kernel
  case loc => intro c _ p hp; rcases List.mem_singleton.mp hp with rfl; rfl
  case sz => rw [sizeLine_eq]; lia
  case el =>
    intro c hc
    exact Ev.ifexp (c := (sL [c] == sL [97])) (Tst.cmp (Ev.name (i := i_sign) (d := .str (sL [c])) rfl (by walk_at "lk")) Ev.str Op2.eqS rfl) (fun _ => Ev.str) fun _ => Ev.str
  case cast =>
    unfold otherW
    simp only [List.map_map]
    refine congrArg D.list (List.map_congr_left fun c _ => ?_)
    by_cases h : c = 97
    · subst h; rfl
    · have : (sL [c] == sL [97]) = false := by rw [sL_beq]; simpa using h
      simp only [this, Function.comp, if_neg h]; rfl
  case jo =>
    refine joinOk_of (n := 1) (m := 1000) (fun p hp => ?_) (by simpa [otherW] using hw) (by decide)
    obtain ⟨q, hq, rfl⟩ := List.mem_map.mp hp
    obtain ⟨c, _, rfl⟩ := List.mem_map.mp hq
    exact Nat.le_of_eq (sL_len _)
  case fin =>
    have := join_sL [] ((otherW w).map fun c => [c])
    rw [joinL_singles] at this
    exact congrArg D.str this
end
noncomputable def cut (w : List Nat) (a b : Nat) : List Nat := (w.take b).drop a
theorem pick_sL (w : List Nat) (a : Nat) (k : Nat) : ((List.range k).map (a + ·)).filterMap ((sL w).cps[·]?) = (w.drop a).take k := by
  have := pick_run (sL w).cps a k
  simpa [sL] using this
theorem run_cut (w : List Nat) (a b : Nat) : (w.drop (min a w.length)).take (min b w.length - min a w.length) = cut w a b := by
  unfold cut
  refine List.ext_getElem? fun i => ?_
  simp only [List.getElem?_take, List.getElem?_drop]
  by_cases h : a + i < w.length
  · by_cases h2 : a + i < b
    · rw [if_pos (by lia), if_pos h2, show min a w.length + i = a + i by lia]
    · rw [if_neg (by lia), if_neg h2]
  · by_cases h2 : a + i < b
    · rw [if_pos h2, List.getElem?_eq_none (by lia : w.length ≤ a + i)]
      split
      · rw [List.getElem?_eq_none]; lia
      · rfl
    · rw [if_neg h2]
      split
      · rw [List.getElem?_eq_none]; lia
      · rfl
theorem idx_nat (a b n : Nat) : Builtin.Str.strSliceIndices (some (a : Int)) (some (b : Int)) 1 n = (List.range (min b n - min a n)).map (min a n + ·) := by
  have h1 : ¬ ((a : Int) < 0) := by lia
  have h2 : ¬ ((b : Int) < 0) := by lia
  have e1 : max 0 (min (a : Int) n) = ((min a n : Nat) : Int) := by lia
  have e2 : max 0 (min (b : Int) n) = ((min b n : Nat) : Int) := by lia
  unfold Builtin.Str.strSliceIndices
  simp only [if_neg h1, if_neg h2, show (1 : Int) > 0 by decide, if_true, e1, e2]
  exact sliceRange_one _ _
theorem idx_hi (b n : Nat) : Builtin.Str.strSliceIndices none (some (b : Int)) 1 n = (List.range (min b n - min 0 n)).map (min 0 n + ·) := by
  have h2 : ¬ ((b : Int) < 0) := by lia
  have e2 : max 0 (min (b : Int) n) = ((min b n : Nat) : Int) := by lia
  unfold Builtin.Str.strSliceIndices
  simp only [if_neg h2, show (1 : Int) > 0 by decide, if_true, e2]
  have := sliceRange_one 0 (min b n)
  simpa using this
theorem sliceT_cut {w : List Nat} {lo hi : Option Int} {a b : Nat} (h : Builtin.Str.strSliceIndices lo hi 1 w.length = (List.range (min b w.length - min a w.length)).map (min a w.length + ·)) : sliceT (sL w) lo hi none = sL (cut w a b) := by
  have hl : (sL w).length = w.length := sL_len w
  unfold sliceT
  rw [hl]
  simp only [Option.getD_none]
  rw [h, pick_sL, run_cut]
  split
  · rename_i hc
    simp only [beq_self_eq_true, Bool.true_and, List.length_map, List.length_range, beq_iff_eq] at hc
    have : cut w a b = w := by
      rw [← run_cut]
      by_cases hw : w.length = 0
      · rw [List.length_eq_zero_iff.mp hw]; simp
      · rw [show min a w.length = 0 by lia, show min b w.length - 0 = w.length by lia]; simp
    rw [this]
  · rfl
theorem mul_sL (c : Nat) (n : Int) : Txt.mul (sL [c]) n = sL (List.replicate n.toNat c) := by
  have := mul_one_list c n
  rw [sL_of (Txt.mul (sL [c]) n)]
  exact congrArg sL this
theorem mulOk_one {c : Nat} {n : Int} (h : n ≤ 100000) (h0 : -100000 ≤ n) : MulOk (sL [c]) n := by
  have hl : (sL [c]).length = 1 := sL_len _
  refine ⟨?_, fun h1 _ => ?_, fun h1 _ => ?_⟩
  · simp only [Bool.or_eq_false_iff, decide_eq_false_iff_not]; lia
  · rw [hl]
    have : (1 : Int) ≤ (2 ^ 63 - 1) / n := by
      rw [Int.le_ediv_iff_mul_le (by lia)]; lia
    exact Int.not_lt.mpr this
  · rw [hl]
    simp [Builtin.Str.tooLong, sizeLine_eq]; lia
theorem splitL_len (c : Nat) (w : List Nat) : (splitL c w).length ≤ w.length + 1 ∧ ∀ p ∈ splitL c w, p.length ≤ w.length := by
  induction w with
  | nil => simp [splitL]
  | cons a r ih =>
    by_cases h : a = c
    · subst h
      rw [show splitL a (a :: r) = [] :: splitL a r by simp [splitL]]
      refine ⟨by simp; lia, fun p hp => ?_⟩
      rcases List.mem_cons.mp hp with rfl | hp
      · simp
      · have := ih.2 p hp; simp; lia
    · rw [splitL_ne h]
      cases hs : splitL c r with
      | nil => simp
      | cons p ps =>
        rw [hs] at ih
        refine ⟨by have := ih.1; simp at this ⊢; lia, fun q hq => ?_⟩
        rcases List.mem_cons.mp hq with rfl | hq
        · have := ih.2 p (by simp); simp; lia
        · have := ih.2 q (by simp [hq]); simp; lia
noncomputable def rowsW (w : List Nat) : List (List Nat) := (splitL 97 w).map fun p => List.replicate (p.length + 1) 46
noncomputable def wordW (rs : List (List Nat)) : List Nat := joinL [97] (rs.map fun r => List.replicate (r.length - 1) 98)
noncomputable abbrev D.strs (l : List (List Nat)) : D := .list ((l.map sL).map .str)
section
variable {C : Cx} {k : Nat}
theorem rowsC (H : Hd C) {w : List Nat} (hw : w.length ≤ 1000) : CallR C (k + 2) (.ref 182) [.str (sL w)] (.strs (rowsW w)) := by
  refine' CallR.fn (f := 182) (ids := [i_word]) ?hl ?hcd rfl ?hb ?ok ?body
  case hl => rw [H.K]; exact rfl
  case hcd => rw [H.K]; kernel_rfl
  case hb => intro vs hv; obtain ⟨_, rfl⟩ := len1 hv; exact rfl
  case ok => exact DefOk.of (by decide +kernel)
  case body =>
  have hlen := splitL_len 97 w
  refine' Ex.ret (Ev.cast (Ev.compMap (splitL 97 w) (fun p => [(i_piece, .str (sL p))]) (fun p => .str (Txt.mul (Str.ofString ".") ((sL p).length + 1))) [] (ItE.ofL (splitL 97 w) (fun p => D.str (sL p)) rfl (Ev.cast (Ev.split (x := sL w) (y := sL [97]) (Ev.name (i := i_word) (d := .str (sL w)) rfl (by walk_at "lk")) Ev.str ?y ?hx) ?c1)) (Sees.of [] ?sees fr_nil) ?loc ?el ?sz) ?cast) rfl
  case y => decide
  case hx => rw [sL_len]; lia
  case c1 => rw [split_sL, List.map_map]; rfl
  case sees => decide +kernel
  case loc => intro c _ p hp; rcases List.mem_singleton.mp hp with rfl; rfl
  case sz => rw [sizeLine_eq]; lia
  case el =>
    intro p hp
    have := hlen.2 p hp
    refine Ev.bin Ev.str (Ev.bin (Ev.call (x := Str.ofString "len") rfl (gb_len H) (.inl ⟨_, rfl⟩) (EvL.cons (Ev.name (i := i_piece) (d := .str (sL p)) rfl (by walk_at "lk")) .nil) (CallR.len_str (by rw [sL_len]; lia))) Ev.int Op2.addI) (Op2.mulS (mulOk_one ?_ ?_))
    · rw [sL_len]; lia
    · rw [sL_len]; lia
  case cast =>
    unfold rowsW D.strs
    rw [List.map_map, List.map_map]
    refine congrArg D.list (List.map_congr_left fun p _ => ?_)
    refine congrArg D.str ((mul_sL 46 _).trans ?_)
    rw [sL_len]; rfl
theorem wordC (H : Hd C) {rs : List (List Nat)} (h1 : rs.length ≤ 100) (h2 : ∀ r ∈ rs, r.length ≤ 1000) : CallR C (k + 2) (.ref 187) [.strs rs] (.str (sL (wordW rs))) := by
  refine' CallR.fn (f := 187) (ids := [i_rows]) ?hl ?hcd rfl ?hb ?ok ?body
  case hl => rw [H.K]; exact rfl
  case hcd => rw [H.K]; kernel_rfl
  case hb => intro vs hv; obtain ⟨_, rfl⟩ := len1 hv; exact rfl
  case ok => exact DefOk.of (by decide +kernel)
  case body =>
  refine' Ex.ret (Ev.cast (Ev.join (x := sL [97]) (ys := (rs.map fun r => List.replicate (r.length - 1) 98).map sL) Ev.str (Ev.cast (Ev.compMap rs (fun p => [(i_row, .str (sL p))]) (fun p => .str (Txt.mul (Str.ofString "b") ((sL p).length - 1))) [] (ItE.ofL rs (fun p => D.str (sL p)) rfl (Ev.cast (Ev.name (i := i_rows) (d := .strs rs) rfl (by walk_at "lk")) ?c1)) (Sees.of [] ?sees fr_nil) ?loc ?el ?sz) ?cast) ?jo) ?fin) rfl
  case c1 => exact congrArg D.list (List.map_map ..)
  case sees => decide +kernel
  case loc => intro c _ p hp; rcases List.mem_singleton.mp hp with rfl; rfl
  case sz => rw [sizeLine_eq]; lia
  case el =>
    intro p hp
    have := h2 p hp
    refine Ev.bin Ev.str (Ev.bin (Ev.call (x := Str.ofString "len") rfl (gb_len H) (.inl ⟨_, rfl⟩) (EvL.cons (Ev.name (i := i_row) (d := .str (sL p)) rfl (by walk_at "lk")) .nil) (CallR.len_str (by rw [sL_len]; lia))) Ev.int Op2.subI) (Op2.mulS (mulOk_one ?_ ?_))
    · rw [sL_len]; lia
    · rw [sL_len]; lia
  case cast =>
    rw [List.map_map, List.map_map]
    refine congrArg D.list (List.map_congr_left fun p _ => ?_)
    refine congrArg D.str ((mul_sL 98 _).trans ?_)
    rw [sL_len]
    show sL (List.replicate ((p.length : Int) - 1).toNat 98) = sL (List.replicate (p.length - 1) 98)
    rw [show ((p.length : Int) - 1).toNat = p.length - 1 by lia]
  case jo =>
    refine joinOk_of (n := 1000) (m := 100) (fun p hp => ?_) (by simpa using h1) (by decide)
    obtain ⟨q, hq, rfl⟩ := List.mem_map.mp hp
    obtain ⟨r, hr, rfl⟩ := List.mem_map.mp hq
    rw [sL_len, List.length_replicate]
    have := h2 r hr; lia
  case fin => exact congrArg D.str (join_sL [97] _)
end
theorem intsAre_of : ∀ (l : List (Int × Tok)), IntsAre (l.map fun p => Value.int p.1 p.2) (l.map (·.1))
  | [] => .nil
  | (n, t) :: l => .cons n t (intsAre_of l)
noncomputable def bA (w : List Nat) : Array UInt8 := (w.map Nat.toUInt8).toArray
theorem byteArr_nat (w : List Nat) : byteArr (w.map fun c : Nat => (c : Int)) = bA w := by
  unfold byteArr bA
  rw [List.map_map]; rfl
section
variable {C : Cx} {k : Nat} {sc : Scope} {ρ : Asn}
theorem CallR.bytesI {ns : List Int} (hr' : ∀ n ∈ ns, 0 ≤ n ∧ n < 256) (hz : ns.length ≤ sizeLine) : CallR C k (.type "bytes") [.list (ns.map .int)] (.bytes (byteArr ns)) := one_arg fun A V s v hr S r => by
  refine Rep.elList r fun a vs ha hs => ?_
  obtain ⟨l, rfl, rfl⟩ := int_vals hs
  exact .of_keep S fun E Q q => call_bytes_ints (ha.isList S) (intsAre_of l) hr' (by simpa using hz) hr.2.2 fun h' t tk hk => q _ h' tk hk (.bytes _ _)
theorem Op2.neB {b c : Array UInt8} : Op2 C k (compareOp .NotEq) (.bytes b) (.bytes c) (.bool (b.toList != c.toList)) := fun A V s v1 v2 hr S r1 r2 => by
  refine Rep.elBytes r1 fun _ => ?_
  refine Rep.elBytes r2 fun _ => ?_
  exact .of_tok S fun E Q q => ne_bytes (q _ s.toks (.bool _))
theorem CallR.lenB {b : Array UInt8} (h : b.size ≤ 1099511627776) : CallR C k (.builtin "len") [.bytes b] (.int b.size) := one_arg fun A V s v hr S r => by
  refine Rep.elBytes r fun _ => ?_
  exact .of_tok S fun E Q q => len_bytes h (q _ _ (.int _ _))
theorem octetsC (H : Hd C) {w : List Nat} (hw : w.length ≤ 1000) (hb : ∀ c ∈ w, c < 256) : CallR C (k + 2) (.ref 199) [.str (sL w)] (.bytes (bA w)) := by
  refine' CallR.fn (f := 199) (ids := [i_text]) ?hl ?hcd rfl ?hb ?ok ?body
  case hl => rw [H.K]; exact rfl
  case hcd => rw [H.K]; kernel_rfl
  case hb => intro vs hv; obtain ⟨_, rfl⟩ := len1 hv; exact rfl
  case ok => exact DefOk.of (by decide +kernel)
  case body =>
  refine' Ex.ret (Ev.cast (Ev.call (x := Str.ofString "bytes") (ds := [.list ((w.map fun c : Nat => (c : Int)).map .int)]) rfl (gb_bytes H) (.inr (.inl ⟨_, rfl⟩)) (EvL.cons (Ev.cast (Ev.compMap w (fun c => [(i_sign, .str (sL [c]))]) (fun c => .int c) [] (ItE.sLN rfl (Ev.name (i := i_text) (d := .str (sL w)) rfl (by walk_at "lk"))) (Sees.of [] ?sees fr_nil) ?loc ?el ?sz) ?cast) .nil) (CallR.bytesI ?rng ?sz2)) ?fin) rfl
  case sees => decide +kernel
  case loc => intro c _ p hp; rcases List.mem_singleton.mp hp with rfl; rfl
  case sz => rw [sizeLine_eq]; lia
  case el =>
    intro c hc
    exact Ev.call (x := Str.ofString "ord") rfl (gb_ord H) (.inl ⟨_, rfl⟩) (EvL.cons (Ev.name (i := i_sign) (d := .str (sL [c])) rfl (by walk_at "lk")) .nil) CallR.ord
  case cast => exact congrArg D.list (List.map_map ..).symm
  case rng =>
    intro n hn
    obtain ⟨c, hc, rfl⟩ := List.mem_map.mp hn
    have := hb c hc; lia
  case sz2 => rw [List.length_map, sizeLine_eq]; lia
  case fin => rw [byteArr_nat]
noncomputable def cntA (l : List Nat) : Nat := (l.filter fun c => c == 97).length
noncomputable def countsW (w : List Nat) (size : Nat) : List Int := (List.range (w.length + 1 - size)).map fun k => (cntA (cut w k (k + size)) : Int)
noncomputable def bendAt (w : List Nat) (size : Nat) : Bool := decide (1 < mx (countsW w size) - mn (countsW w size))
noncomputable def bendW (w : List Nat) : Int × Int := match (List.range w.length).find? (bendAt w) with
  | some s => ((s : Int), mn (countsW w s) + 1)
  | none => (0, 0)
theorem Ev.cut {e l u : Expr} {p pos : Pos} {w : List Nat} {a b : Nat} (he : Ev C k sc ρ e (.str (sL w))) (hl : Ev C k sc ρ l (.int a)) (hu : Ev C k sc ρ u (.int b)) (hw : w.length ≤ 1000) : Ev C k sc ρ (.Subscript e (.Slice (some l) (some u) Option.none p) pos) (.str (sL (cut w a b))) := by
  have h := idx_nat a b w.length
  refine Ev.cast (Ev.slice he (.some hl) (.some hu) .none (by show "str" ≠ "?"; decide) F.slot_str_getitem.lookup (SlR.str (by simp) (by rw [sL_len]; omega) ?_)) (congrArg D.str (sliceT_cut h))
  show (Builtin.Str.strSliceIndices (some (a : Int)) (some (b : Int)) 1 (sL w).length).length ≤ sizeLine
  rw [sL_len, h, sizeLine_eq]; simp; omega
theorem Ev.cutHi {e u : Expr} {p pos : Pos} {w : List Nat} {b : Nat} (he : Ev C k sc ρ e (.str (sL w))) (hu : Ev C k sc ρ u (.int b)) (hw : w.length ≤ 1000) : Ev C k sc ρ (.Subscript e (.Slice Option.none (some u) Option.none p) pos) (.str (sL (w.take b))) := by
  have h := idx_hi b w.length
  refine Ev.cast (Ev.slice he .none (.some hu) .none (by show "str" ≠ "?"; decide) F.slot_str_getitem.lookup (SlR.str (by simp) (by rw [sL_len]; omega) ?_)) (congrArg D.str ((sliceT_cut (a := 0) h).trans ?_))
  · show (Builtin.Str.strSliceIndices Option.none (some (b : Int)) 1 (sL w).length).length ≤ sizeLine
    rw [sL_len, h, sizeLine_eq]; simp; omega
  · unfold Mine.cut; simp
end
section
variable {C : Cx} {k : Nat} {sc : Scope} {ρ : Asn} {Pn : Asn → Prop} {Pr : D → Prop}
theorem Ev.gtyp {x : PySem.Str} {p : Pos} {T : String} (hx : sc.names.lookup x = some .globalImplicit) (hf : GFn C x (.type T)) (hd : (x == ("__debug__" : Str)) = false := by decide) : Ev C k sc ρ (.Name x p) (.typ T) := fun env A V s he hr S F E Q q =>
  Name_function_global F.kind (by show env.scope.names.lookup x = _; rw [he]; exact hx) (hf.load S F (q _ V s (.refl V s) S (.typ T))) hd
theorem CallR.isBytes {b : Array UInt8} : CallR C k (.builtin "isinstance") [.bytes b, .typ "bytes"] (.bool true) := two_args fun A V s v u hr S r1 r2 => by
  refine Rep.elBytes r1 fun _ => ?_
  obtain rfl := r2.is
  exact .of_tok S fun E Q q => call_isinstance (isinstance_true (Tx := "bytes") F.isi_meta_bytes F.bm_sub) ⟨typeIs_bytes _ _ _, q _ s.toks (.bool _)⟩
theorem Ex1.assignCompMap {α : Type} (xs : List α) (g : α → Asn) (f : α → D) (fr : Asn) {d : D} {i : Nat} {x : PySem.Str} {px pos cpos : Pos} {elt tgt iter : Expr} {scope : Scope} (hx : nm i = x)
    (hIt : ItE C k sc ρ iter tgt (xs.map g)) (W : Sees scope sc ρ fr) (hg : ∀ x ∈ xs, ∀ q ∈ g x, scope.names.lookup (nm q.1) = some .local)
    (hel : ∀ x ∈ xs, Ev C k (relabelS scope sc) (g x ++ fr) elt (f x)) (hsz : xs.length ≤ sizeLine)
    (hk : sc.names.lookup x = some .local) (hd : D.list (xs.map f) = d) (hsw : ∀ env : Env, env.scope = sc → swapsWith (.ListComp elt [⟨tgt, iter, [], 0⟩] scope cpos) (some (.Name x px)) pos.line env = pure true)
    (hs : ∀ env x, foldedSetIterable iter env x = pure x := by intro _ _; rfl) :
    Ex1 C k sc ρ (.Assign [.Name x px] (.ListComp elt [⟨tgt, iter, [], 0⟩] scope cpos) pos) (fun r => r = (i, d) :: ρ) Pr := by
  refine ExT.mono (Ex1.assignComp xs g (fun _ => true) f fr hx hIt W hg (fun _ _ => .nil) (fun x hx _ => hel x hx) hsz hk hsw hs) (fun ρ' h => ?_) fun _ h => h
  rw [h, ← hd, List.filter_eq_self.mpr fun _ _ => rfl]
theorem cntA_filter (l : List Nat) : (l.filter fun c => sL [c] == sL [97]).length = cntA l := by
  unfold cntA
  congr 1
  refine List.filter_congr fun c _ => ?_
  rw [sL_beq]
  by_cases h : c = 97
  · subst h; rfl
  · have h1 : ([c] == [97]) = false := by simpa using h
    have h2 : (c == 97) = false := by simpa using h
    rw [h1, h2]
theorem cut_len (w : List Nat) (a b : Nat) : (cut w a b).length ≤ w.length := by unfold cut; simp; lia
theorem counts_ne (w : List Nat) (j : Nat) (h : j ≤ w.length) : countsW w j ≠ [] := by
  unfold countsW
  intro q
  have := congrArg List.length q
  simp at this; omega
theorem bendC (H : Hd C) {w : List Nat} (hw : w.length ≤ 1000) : CallR C (k + 2) (.ref 204) [.str (sL w)] (.tup [.int (bendW w).1, .int (bendW w).2]) := by
  refine' CallR.fn (f := 204) (ids := [i_word]) ?hl ?hcd rfl ?hb ?ok ?body
  case hl => rw [H.K]; exact rfl
  case hcd => rw [H.K]; kernel_rfl
  case hb => intro vs hv; obtain ⟨_, rfl⟩ := len1 hv; exact rfl
  case ok => exact DefOk.of (by decide +kernel)
  case body =>
  refine' Ex.cons (P1 := fun _ => (List.range w.length).find? (bendAt w) = none) (Ex1.for (List.range w.length) (fun (j : Nat) => [(i_size, .int j)]) (fun _ => [(i_word, .str (sL w))]) (fun i => ((List.range w.length).take i).find? (bendAt w) = none)
    (ItE.range1N (n := w.length) (z := w.length) rfl rfl (gb_range H) (Ev.cast (Ev.call (x := Str.ofString "len") rfl (gb_len H) (.inl ⟨_, rfl⟩) (EvL.cons (Ev.name (i := i_word) (d := .str (sL w)) rfl (by walk_at "lk")) .nil) (CallR.len_str (by rw [sL_len]; lia))) ?ln) rfl (by lia)) ?g ?le ?j0 ?bd ?en) ?fin
  case ln => rw [sL_len]
  case g => intro a _ p hp; rcases List.mem_singleton.mp hp with rfl; exact .inr rfl
  case le => exact .cons Asn.here .nil
  case j0 => rfl
  case en => intro h; rwa [List.take_length] at h
  case fin =>
    intro ρ' h
    refine Ex.ret (Ev.tuple (EvL.cons Ev.int (EvL.cons Ev.int .nil)) (by show 2 ≤ sizeLine; decide)) ?_
    unfold bendW; rw [h]
  case bd =>
    intro i hi hJ
    rw [List.length_range] at hi
    rw [List.getElem_range]
    have hne := counts_ne w i (by lia)
    have htake : ((List.range w.length).take (i + 1)).find? (bendAt w) = if bendAt w i = true then some i else none := by
      rw [List.take_succ, List.find?_append, hJ, List.getElem?_range hi]
      simp [List.find?_cons]
      cases bendAt w i <;> rfl
    have hyes : bendAt w i = true → (List.range w.length).find? (bendAt w) = some i := fun h => by
      rw [← List.take_append_drop (i + 1) (List.range w.length), List.find?_append, htake, if_pos h]; rfl
    refine' Ex.step (Ex1.assignCompMap (List.range (w.length + 1 - i)) (fun (j : Nat) => [(i_k, .int j)]) (fun j => .int (cntA (cut w j (j + i)))) [(i_word, .str (sL w)), (i_size, .int i)] (d := .list ((countsW w i).map .int)) (i := i_counts) rfl
      (ItE.range1N (n := w.length + 1 - i) (z := (w.length : Int) + 1 - i) rfl rfl (gb_range H) (Ev.bin (Ev.bin (Ev.cast (d' := .int w.length) (Ev.call (x := Str.ofString "len") rfl (gb_len H) (.inl ⟨_, rfl⟩) (EvL.cons (Ev.name (i := i_word) (d := .str (sL w)) rfl (by walk_at "lk")) .nil) (CallR.len_str (by rw [sL_len]; lia))) ?ln2) Ev.int Op2.addI) (Ev.name (i := i_size) (d := .int i) rfl (by walk_at "lk")) Op2.subI) ?z ?n) (Sees.of [i_word, i_size] ?sees (fr_cons (by walk_at "lk") (fr_cons (by walk_at "lk") fr_nil))) ?loc ?el ?sz rfl ?hd ?hsw) ?rest
    case ln2 => rw [sL_len]
    case z => lia
    case n => lia
    case sees => decide +kernel
    case loc => intro c _ p hp; rcases List.mem_singleton.mp hp with rfl; rfl
    case sz => rw [List.length_range, sizeLine_eq]; lia
    case hd => unfold countsW; exact congrArg D.list (List.map_map ..).symm
    case hsw => intro env he; unfold swapsWith Env.blockKind Env.kindOf; rw [he]; rfl
    case el =>
      intro j hj
      have hc := cut_len w j (j + i)
      refine' Ev.cast (Ev.call (x := Str.ofString "len") rfl (gb_len H) (.inl ⟨_, rfl⟩) (EvL.cons (Ev.compIf (cut w j (j + i)) (fun c => [(i_sign, .str (sL [c]))]) (fun c => sL [c] == sL [97]) (fun _ => .int 1) [] (ItE.sLN rfl (Ev.cut (w := w) (a := j) (b := j + i) (Ev.name (i := i_word) (d := .str (sL w)) rfl (by walk_at "lk")) (Ev.name (i := i_k) (d := .int j) rfl (by walk_at "lk")) (Ev.cast (Ev.bin (Ev.name (i := i_k) (d := .int j) rfl (by walk_at "lk")) (Ev.name (i := i_size) (d := .int i) rfl (by walk_at "lk")) Op2.addI) ?ad) hw)) (Sees.of [] ?sees2 fr_nil) ?loc2 ?tst ?el2 ?sz2) .nil) (CallR.len_list ?ll)) ?fin2
      case ad => push_cast; rfl
      case sees2 => decide +kernel
      case loc2 => intro c _ p hp; rcases List.mem_singleton.mp hp with rfl; rfl
      case tst => intro c _; exact Tst.cmp (Ev.name (i := i_sign) (d := .str (sL [c])) rfl (by walk_at "lk")) Ev.str Op2.eqS rfl
      case el2 => intro c _ _; exact Ev.int
      case sz2 => rw [sizeLine_eq]; lia
      case ll => rw [List.length_map]; exact Nat.lt_of_le_of_lt (Nat.le_trans (List.length_filter_le _ _) (Nat.le_trans hc hw)) (by decide)
      case fin2 => rw [List.length_map, cntA_filter]
    case rest =>
      refine Ex.cons (Ex1.ite (c := bendAt w i) (Tst.cmp (Ev.bin (Ev.call (x := Str.ofString "max") rfl (gb_max H) (.inl ⟨_, rfl⟩) (EvL.cons (Ev.name (i := i_counts) (d := .list ((countsW w i).map .int)) rfl (by walk_at "lk")) .nil) (CallR.max hne)) (Ev.call (x := Str.ofString "min") rfl (gb_min H) (.inl ⟨_, rfl⟩) (EvL.cons (Ev.name (i := i_counts) (d := .list ((countsW w i).map .int)) rfl (by walk_at "lk")) .nil) (CallR.min hne)) Op2.subI) Ev.int Op2.gtI rfl) (fun hc => ?_) fun hc => ?_) fun ρ' h => Ex.nil h
      · refine Ex.ret (Ev.tuple (EvL.cons (Ev.name (i := i_size) (d := .int i) rfl (by walk_at "lk")) (EvL.cons (Ev.bin (Ev.call (x := Str.ofString "min") rfl (gb_min H) (.inl ⟨_, rfl⟩) (EvL.cons (Ev.name (i := i_counts) (d := .list ((countsW w i).map .int)) rfl (by walk_at "lk")) .nil) (CallR.min hne)) Ev.int Op2.addI) .nil)) (by show 2 ≤ sizeLine; decide)) ?_
        unfold bendW; rw [hyes hc]
      · refine Ex.nil ⟨.cons (by walk_at "lk") .nil, ?_⟩
        rw [htake, if_neg (by rw [hc]; decide)]
end
theorem Its.strP {C : Cx} {A : Around} {V : View} {I : Addr} {x : PySem.Str} {t : Tok} {i : Nat} {pos : Pos} (hh : A.handled = none) (tab : tabA ≠ I) :
    Its C A V (.Name (nm i) pos) (.ref I) (x.cps.toList.map fun c => [(i, D.strP (fun t => C.n ≤ t) ⟨#[c]⟩)]) [I] [I] (fun j h => h.IsStrIter I "str_ascii_iterator" x t j) where
  sub := fun _ hb => hb
  frame := fun _ _ _ st hk => let ⟨o, ho, r⟩ := st; ⟨o, hk I (by simp) o ho, r⟩
  alive := fun j h st b hb => by simp at hb; subst hb; obtain ⟨o, e, _⟩ := st; exact ⟨o, e⟩
  tab := fun q => tab (List.mem_singleton.mp q)
  step := fun j b hb env ρ V' s E Q l S hw st F ht hcw hk q => by
    rw [List.getElem?_map] at hb
    obtain ⟨c, hc, rfl⟩ := Option.map_eq_some_iff.mp hb
    rw [Array.getElem?_toList] at hc
    refine wp_toks' S.tk (wpAny_pyNext_ascii_item st hc fun h' st' hs' hn' => ⟨_, rfl, ?_⟩)
    refine wpAny_of_eq (a := ()) (by rfl) ?_
    have hk' : ∀ b o, b ∉ [I] → s.heap.get? b = some o → h'.get? b = some o := fun b o hb e => hs'.extBut b o (fun h => hb (by simp [h])) e
    have hloc : env.locals ∉ [I] := fun q => ht _ (.inl rfl) q
    have S' : St C V' { s with heap := h', toks := s.toks + 1 } := S.but (fun a => a ∈ [I]) hk' hw (fun q => tab (List.mem_singleton.mp q)) rfl rfl hn'
    have F' : Frm C env ρ V' h' := F.stay (fun o e => hk' _ o hloc e) (fun x c o hc e => hk' _ o (hcw x c hc) e)
    refine wpAny_assign_Name (F'.store (s := { s with heap := h', toks := s.toks + 1 }) S' (hk (i, D.strP (fun t => C.n ≤ t) ⟨#[c]⟩) (by simp)) (.strP (fun t => C.n ≤ t) ⟨#[c]⟩ s.toks S.tk) fun h'' tk' h1 h2 h3 h4 => ?_)
    refine q _ ?_ h3 h4 (fun a o ha hT e => (h1 a hT).trans (hk' a o ha e)) fun a o ha e => h2 a o (hk' a o ha e)
    obtain ⟨o, ho, r⟩ := st'
    exact ⟨o, (h1 I fun q => ht I q (by simp)).trans ho, r⟩
  done := fun V' s E Q S hw st q => by
    rw [List.length_map, Array.length_toList] at st
    exact wp_toks' S.tk (wpAny_pyNext_ascii_end hh st (by simp) fun h' he' hn' => ⟨rfl, q _ (S.but (fun a => a ∈ [I]) (fun b o hb e => he' b o (fun h => hb (by simp [h])) e) hw (fun q => tab (List.mem_singleton.mp q)) rfl rfl hn') fun b o hb e => he' b o (fun h => hb (by simp [h])) e⟩)
  self := fun j s E Q st q => wpAny_pyIter_striter_ascii st q
section
variable {C : Cx} {k : Nat} {sc : Scope} {ρ : Asn} {Pn : Asn → Prop} {Pr : D → Prop}
theorem ItE.strPN {iter : Expr} {i : Nat} {pos : Pos} {x : PySem.Str} {nx : PySem.Str} (hx : nm i = nx) (ha : x.cps.all (· < 128) = true) (h : Ev C k sc ρ iter (.str x)) : ItE C k sc ρ iter (.Name nx pos) (x.cps.toList.map fun c => [(i, D.strP (fun t => C.n ≤ t) ⟨#[c]⟩)]) := fun env A V s he hr S F E Q q => by
  subst hx
  refine h env A V s he hr S F E _ fun v V1 s1 X1 S1 r => ?_
  refine Rep.elStr r fun t => ?_
  have hf := X1.fresh S1
  refine wpAny_pyIter_ascii ha (q _ V1 _ _ _ _ (X1.trans (.keeps (tk := s1.toks) fun b o e => Heap.get?_push_of_some _ e)) (S1.push _) (Its.strP (t := t) hr.2.2 S1.tabNe) ⟨_, Heap.get?_push_size _ rfl, rfl, rfl⟩ (fun b hb => ?_) (fun b hb => ?_) fun b hb => ?_)
  · simp at hb; subst hb; exact ⟨hf, S1.newFree⟩
  · simp at hb; subst hb; exact .inr ⟨hf, S1.newFree⟩
  · simp at hb; subst hb; exact ⟨_, Heap.get?_push_size _ rfl⟩
theorem isSame_apart {M : Model} {A : Around} {E : Value → Shared → Prop} {s : Shared} {y z : PySem.Str} {u v : Tok} {Q : Bool → Shared → Prop}
    (h0 : (u == 0 || v == 0) = false) (hne : (u == v) = false) (hb : NoneBooked s.heap) (hq : ∀ b, ((y == z) = false → b = false) → Q b s) : wpAny M A (isSame (.str y u) (.str z v)) Q E s := by
  show wpAny M A (isSame.created (y == z) u v) Q E s
  unfold isSame.created
  refine wpAny_ite ?_
  rw [h0]
  simp only [Bool.false_eq_true, if_false]
  refine wpAny_ite ?_
  rw [hne]
  simp only [Bool.false_eq_true, if_false]
  refine wpAny_ite ?_
  cases hyz : (y == z) with
  | false => exact wpAny_pure (hq _ fun _ => rfl)
  | true =>
    simp only [Bool.not_true, Bool.false_eq_true, if_false]
    refine wpAny_bind (wpAny_sharingNotTold_none hb ?_)
    simp only [Bool.false_eq_true, if_false]
    refine wpAny_bind (wpAny_sharingNotTold_none hb ?_)
    simp only [Bool.false_eq_true, if_false]
    exact wpAny_bind (wpAny_rule (wpAny_bind (wpAny_askSetting (wpAny_pure (hq _ fun h => by rw [hyz] at h; cases h)))))
theorem St.booked {V : View} {s : Shared} (S : St C V s) : NoneBooked s.heap := by
  obtain ⟨mc, ⟨o, es, ep, e, r⟩, h2⟩ := C.nb
  exact ⟨mc, ⟨o, es, ep, S.sub _ _ (S.base _ _ e), r⟩, h2⟩
theorem Tst.isOrEq (n0 : 0 < C.n) {e1 e2 e3 e4 : Expr} {p1 p2 p3 : Pos} {x y : PySem.Str} (h1 : Ev C k sc ρ e1 (.strP (fun t => C.n ≤ t) x)) (h2 : Ev C k sc ρ e2 (.strP (fun t => 0 < t ∧ t < C.n) y)) (h3 : Ev C k sc ρ e3 (.strP (fun t => C.n ≤ t) x)) (h4 : Ev C k sc ρ e4 (.strP (fun t => 0 < t ∧ t < C.n) y))
    (hb1 : behindInMarks .Is e2 = false) (hb2 : behindInMarks .Eq e4 = false) : Tst C k sc ρ (.BoolOp .Or [.Compare e1 [.Is] [e2] p1, .Compare e3 [.Eq] [e4] p2] p3) (x == y) := fun env A V s he hr S F E Q q => by
  refine wpAny_isTrue_BoolOp (wpAny_allTrue_Or_cons ?_)
  rw [isTrue_Compare1, markedBehindIn_of_false hb1]
  refine wpAny_bind (h1 env A V s he hr S F E _ fun a V1 s1 X1 S1 ra => ?_)
  have F1 := F.ext S X1
  refine wpAny_bind (wpAny_holding (h2 env A V1 s1 he hr S1 F1 E _ fun b V2 s2 X2 S2 rb => ?_))
  have F2 := F1.ext S1 X2
  have X12 := X1.trans X2
  obtain ⟨t, ht, rfl⟩ := ra.is
  obtain ⟨u, hu, rfl⟩ := rb.is
  refine wpAny_bind (wpAny_standAt (wpAny_bind (wpAny_operate' ?_)))
  show wpAny C.M A (do return Value.bool (← isSame (.str x t) (.str y u))) _ _ _
  have h0 : (t == 0 || u == 0) = false := by
    have := n0
    have a1 : (t == 0) = false := beq_false_of_ne fun q => by have q' : @Eq Nat t 0 := q; have ht' : @LE.le Nat _ C.n t := ht; lia
    have a2 : (u == 0) = false := beq_false_of_ne fun q => by have q' : @Eq Nat u 0 := q; have hu' : @LT.lt Nat _ 0 u := hu.1; lia
    rw [a1, a2]; rfl
  have h5 : (t == u) = false := beq_false_of_ne fun q => by have q' : @Eq Nat t u := q; have ht' : @LE.le Nat _ C.n t := ht; have hu' : @LT.lt Nat _ u C.n := hu.2; lia
  refine wpAny_bind (isSame_apart h0 h5 S2.booked fun c hc => wpAny_pure (wpAny_holding (wpAny_truthy_bool ?_)))
  cases c with
  | true =>
    have : (x == y) = true := by
      cases hxy : (x == y) with
      | true => rfl
      | false => exact absurd (hc hxy) (by decide)
    exact q _ V2 s2 X12 S2 this.symm
  | false =>
    simp only [Bool.false_eq_true, if_false]
    refine wpAny_allTrue_Or_cons ?_
    rw [isTrue_Compare1, markedBehindIn_of_false hb2]
    refine wpAny_bind (h3 env A V2 s2 he hr S2 F2 E _ fun a V3 s3 X3 S3 ra => ?_)
    have F3 := F2.ext S2 X3
    refine wpAny_bind (wpAny_holding (h4 env A V3 s3 he hr S3 F3 E _ fun b V4 s4 X4 S4 rb => ?_))
    obtain ⟨t, ht, rfl⟩ := ra.is
    obtain ⟨u, hu, rfl⟩ := rb.is
    refine wpAny_bind (wpAny_standAt (wpAny_bind (wpAny_operate' (PyProof.Rows.eq_str (wpAny_holding (wpAny_truthy_bool ?_))))))
    have X14 := (X12.trans X3).trans X4
    cases hxy : (x == y) with
    | true => exact q _ V4 s4 X14 S4 hxy.symm
    | false => exact wpAny_allTrue_Or_nil (q _ V4 s4 X14 S4 hxy.symm)
end
noncomputable def cntC (w : List Nat) (c : Nat) : Nat := (w.filter fun a => sL [a] == sL [c]).length
section
variable {C : Cx} {k : Nat} {sc : Scope} {ρ : Asn}
theorem countOfC (H : Hd C) {w : List Nat} {c : Nat} (ha : w.all (· < 128) = true) : CallR C (k + 2) (.ref 122) [.str (sL w), .strP (fun t => 0 < t ∧ t < C.n) (sL [c])] (.int (cntC w c)) := by
  refine' CallR.fn (f := 122) (ids := [i_a, i_b]) ?hl ?hcd rfl ?hb ?ok ?body
  case hl => rw [H.K]; exact rfl
  case hcd => rw [H.K]; kernel_rfl
  case hb => intro vs hv; obtain ⟨_, _, rfl⟩ := len2 hv; exact rfl
  case ok => exact DefOk.of (by decide +kernel)
  case body =>
  refine Ex.step (Ex1.assign (i := i_count) (d := .int 0) rfl Ev.int (.inl rfl) (fun _ _ => rfl)) ?_
  refine' Ex.cons (P1 := fun ρ' => ρ'.get i_count = some (.int (cntC w c))) (Ex1.for w (fun a => [(i_i, .strP (fun t => C.n ≤ t) (sL [a]))]) (fun j => [(i_count, .int (cntC (w.take j) c)), (i_b, .strP (fun t => 0 < t ∧ t < C.n) (sL [c]))]) (fun _ => True)
    (ItE.strPN (x := sL w) rfl ?asc (Ev.name (i := i_a) (d := .str (sL w)) rfl (by walk_at "lk"))) ?g ?le trivial ?bd ?en) ?fin
  case asc => simpa [sL] using ha
  case g => intro a _ p hp; rcases List.mem_singleton.mp hp with rfl; exact .inl rfl
  case le => exact .cons (by walk_at "lk") (.cons (by walk_at "lk") .nil)
  case en => intro _; rw [List.take_length]; exact Asn.here
  case fin => intro ρ' h; exact Ex.ret (Ev.name (i := i_count) rfl h) rfl
  case bd =>
    intro j hj _
    have htake : cntC (w.take (j + 1)) c = cntC (w.take j) c + if (sL [w[j]] == sL [c]) = true then 1 else 0 := by
      unfold cntC
      rw [List.take_succ, List.getElem?_eq_getElem hj, List.filter_append, List.length_append]
      simp only [Option.toList_some, List.filter_cons, List.filter_nil]
      split <;> rfl
    refine Ex.cons (Ex1.ite (c := (sL [w[j]] == sL [c])) (Tst.isOrEq H.n0 (Ev.name (i := i_i) (d := .strP (fun t => C.n ≤ t) (sL [w[j]])) rfl (by walk_at "lk")) (Ev.name (i := i_b) (d := .strP (fun t => 0 < t ∧ t < C.n) (sL [c])) rfl (by walk_at "lk")) (Ev.name (i := i_i) (d := .strP (fun t => C.n ≤ t) (sL [w[j]])) rfl (by walk_at "lk")) (Ev.name (i := i_b) (d := .strP (fun t => 0 < t ∧ t < C.n) (sL [c])) rfl (by walk_at "lk")) rfl rfl) (fun hc => ?_) fun hc => ?_) fun ρ' h => Ex.nil h
    · refine Ex.step (Ex1.aug (i := i_count) (d0 := .int (cntC (w.take j) c)) (d1 := .int 1) rfl (by walk_at "lk") Ev.int Op2.iaddI (.inl rfl)) (Ex.nil ⟨?_, trivial⟩)
      rw [htake, if_pos hc]
      exact .cons (by push_cast; exact Asn.here) (.cons (by walk_at "lk") .nil)
    · refine Ex.nil ⟨?_, trivial⟩
      rw [htake, if_neg (by rw [hc]; decide), Nat.add_zero]
      exact .cons (by walk_at "lk") (.cons (by walk_at "lk") .nil)
noncomputable def Cx.later (C : Cx) (m : Nat) (h : C.n ≤ m) : Cx := { C with n := m }
theorem Ev.countOf (H : Hd C) {e : Expr} {p p2 pos : Pos} {n : Nat} {w : List Nat} {c : Nat} (hx : sc.names.lookup (Str.ofString "countOf") = some .globalImplicit) (he' : Ev C (k + 2) sc ρ e (.str (sL w))) (ha : w.all (· < 128) = true)
    (hst : ∀ env, starEach [e, .Constant (.str (sL [c])) n p2] env = [(false, eval e env), (false, eval (.Constant (.str (sL [c])) n p2) env)] := by intro _; rfl) :
    Ev C (k + 2) sc ρ (.Call (.Name (Str.ofString "countOf") p) [e, .Constant (.str (sL [c])) n p2] [] pos) (.int (cntC w c)) := fun env A V s he hr S F E Q q => by
  refine wpAny_bind (Name_function_global F.kind (by show env.scope.names.lookup _ = _; rw [he]; exact hx) ((gfcountOf H).load S F ?_) (by decide))
  show wpAny C.M A (PySem.callWith pos (.ref 122) [] (backTo pos (starEach [e, .Constant (.str (sL [c])) n p2] env)) []) Q E s
  rw [hst]
  rcases kfcountOf H with ⟨id, h⟩ | ⟨T, h⟩ | ⟨a, o, fd, h, ho, hd⟩
  · cases h
  · cases h
  cases h
  refine callWith_function (o := o) (fd := fd) (evalArgs_of rfl (Calls.spliced_cons (he' env A V s he hr S F E _ fun v V1 s1 X1 S1 r1 => Calls.spliced_cons (wpAny_Constant_str (k := n) (pos := p2) (Calls.spliced_nil ?_)))))
  have k1 : ∀ b o, s1.heap.get? b = some o → s1.heap.get? b = some o := fun _ _ e => e
  have S2 : St C V1 { s1 with toks := s1.toks + 1 } := S1.keeps (h' := s1.heap) k1
  have X2 : Ext V s V1 { s1 with toks := s1.toks + 1 } := X1.trans (.keeps (h' := s1.heap) k1)
  refine ⟨⟨S2.sub _ _ (S2.base _ _ ho), hd⟩, ?_⟩
  have hle : C.n ≤ s1.toks + 1 := Nat.le_trans S1.tk (Nat.le_succ _)
  have S3 : St (C.later (s1.toks + 1) hle) V1 { s1 with toks := s1.toks + 1 } := ⟨S2.base, S2.sub, S2.tab, S2.tabV, S2.gens, S2.os, Nat.le_refl _⟩
  have H' : Hd (C.later (s1.toks + 1) hle) := ⟨H.K, Nat.lt_of_lt_of_le H.n0 hle⟩
  have rs : Reps V1 [v, .str (sL [c]) s1.toks] [.str (sL w), .strP (fun t => 0 < t ∧ t < s1.toks + 1) (sL [c])] :=
    .cons r1 (.cons (.strP _ _ _ ⟨Nat.lt_of_lt_of_le H.n0 S1.tk, Nat.lt_succ_self _⟩) .nil)
  exact countOfC (C := C.later (s1.toks + 1) hle) (k := k) (c := c) H' ha A V1 _ _ hr S3 rs E Q fun u V4 s4 X4 S4 r4 => q u V4 s4 (X2.trans X4) ⟨S4.base, S4.sub, S4.tab, S4.tabV, S4.gens, S4.os, Nat.le_trans hle S4.tk⟩ r4
end
section
variable {C : Cx} {k : Nat} {sc : Scope} {ρ : Asn} {Pn : Asn → Prop} {Pr : D → Prop}
theorem For.raw {α : Type} (xs : List α) (g : α → Asn) (inv : Nat → Asn) (J : Nat → Prop) {tgt iter : Expr} {body orelse : List Stmt} {pos : Pos} {env : Env} {A : Around} {V : View} {s : Shared} {V0 : View} {s0 : Shared} {E : Value → Shared → Prop} {Q : Flow → Shared → Prop} (hIt : ItE C k sc ρ iter tgt (xs.map g))
    (hg : ∀ x ∈ xs, ∀ q ∈ g x, sc.names.lookup (nm q.1) = some .local ∨ sc.names.lookup (nm q.1) = some .cell) (h0 : Asn.Le (inv 0) ρ) (J0 : J 0)
    (hb : ∀ i (h : i < xs.length), J i → Ex C k sc (g xs[i] ++ inv i) body (fun ρ' => Asn.Le (inv (i + 1)) ρ' ∧ J (i + 1)) Pr)
    (he : env.scope = sc) (hr : Room k A) (S : St C V s) (F : Frm C env ρ V s.heap) (O : CellsOnce env) (X : Ext V0 s0 V s) (f : Fresh env s0)
    (hend : ∀ V' s', Ext V0 s0 V' s' → St C V' s' → Frm C env (inv xs.length) V' s'.heap → J xs.length → wpAny C.M A (execs orelse env) Q (notedBy C.M A env fun e s' => cameBackBy C.M A env E e s') s')
    (qr : ∀ v d V' s', Ext V0 s0 V' s' → St C V' s' → Rep V' v d → Pr d → Q (.ret v) s')
    (hs : ∀ env x, foldedSetIterable iter env x = pure x := by intro _ _; rfl) : wpAny C.M A (exec (.For tgt iter body orelse pos) env) Q E s := by
  refine wpAny_For (hIt env A V s he hr S F E _ fun it V2 s2 fp wr P X2 S2 I hP hw hfp hal => ?_) (hs env)
  have F2 := F.ext S X2
  have own : ∀ a, (a = env.locals ∨ a ∈ env.cells.map (·.2)) → a ∉ fp ∧ a ∉ wr := fun a ha => by
    have h1 : (∃ o, s.heap.get? a = some o) ∧ V2 a = none := by
      rcases ha with rfl | ha
      · refine hid fun G hG => ?_
        obtain ⟨m, ⟨o, es, ep, e, _⟩, _⟩ := F.ns
        refine hG ?_
        exact ⟨⟨o, e⟩, F2.locFree⟩
      · refine hid fun G hG => ?_
        obtain ⟨x, hx⟩ := O.once a ha
        obtain ⟨_, v, ⟨o, e, _⟩, _⟩ := F.cells x a hx
        refine hG ?_
        exact ⟨⟨o, e⟩, (F2.cells x a hx).1.resolve_right fun q => q (O.own x a hx)⟩
    obtain ⟨⟨o, e⟩, h2⟩ := h1
    have h3 : a ∉ fp := fun hm => by
      rcases hfp a hm with h | h
      · rw [h2] at h; cases h
      · rw [h.1] at e; cases e
    exact ⟨h3, fun hm => h3 (I.sub _ hm)⟩
  have ownT : ∀ b a, Tgt env b a → a = env.locals ∨ a ∈ env.cells.map (·.2) := fun b a h => h.imp id fun ⟨p, _, _, hc⟩ => mem_cells hc
  refine codeAny_forLoop_any (LInv C env inv (fun i _ _ => J i) P xs.length fp wr V0 V2 s0) (fun n s' hI => ?_) (xs.length + 1) ?_
  · obtain ⟨i, V', hi, rfl, hPi, X', S', hV', hVw, F', hJ, hal'⟩ := hI
    by_cases hlt : i < xs.length
    · have hb' : (xs.map g)[i]? = some (g xs[i]) := by rw [List.getElem?_map, List.getElem?_eq_getElem hlt]; rfl
      have hx : xs[i] ∈ xs := List.getElem_mem hlt
      refine wpAny_mono (I.step i _ hb' env (inv i) V' s' _ (fun s₂ => wpAny C.M A (execs body env) (fun f s₃ => match f with
            | .next | .cont => ∃ m, m < xs.length + 1 - i ∧ LInv C env inv (fun i _ _ => J i) P xs.length fp wr V0 V2 s0 m s₃
            | .brk => Q .next s₃
            | .ret v => Q (.ret v) s₃) _ s₂)
        hV' S' hVw hPi F' (fun a ha => (own a (ownT _ a ha)).1) (fun x c hc => (own c (.inr (mem_cells hc))).2) (fun q hq => by rw [he]; exact hg _ hx q hq) fun s3 hP3 S3 F3 hk3 hl3 => ?_)
        (fun r s₁ h => by obtain ⟨v, rfl, h⟩ := h; exact h) fun _ _ e => e
      have X3 : Ext V0 s0 V' s3 := ⟨X'.mono, X'.same, fun a o ha e => hk3 a o (fun hm => by
          have h1 := (hw a hm).1
          rw [X.keep a o ha e] at h1; cases h1) (fun hT => by
          rcases ownT _ a hT with rfl | hc
          · rw [f.loc] at e; cases e
          · obtain ⟨x, hx⟩ := O.once a hc
            rw [f.cell x a hx] at e; cases e) (X'.keep a o ha e), fun o e => let ⟨ps, h, _⟩ := S3.tab; ⟨_, h⟩⟩
      have fpne : ∀ b ∈ fp, b ≠ tabA := fun b hb q => by
        subst q
        rcases hfp _ hb with h | h
        · rw [S2.tabV] at h; cases h
        · obtain ⟨ps, h', _⟩ := S.tab; rw [h.1] at h'; cases h'
      have hal3 : ∀ b ∈ fp, ∃ o, s3.heap.get? b = some o := fun b hb => by
        by_cases hbw : b ∈ wr
        · exact I.alive _ _ hP3 b hbw
        · obtain ⟨o, e⟩ := hal' b hb; exact hl3 b o hbw e
      refine hb i hlt hJ env A V' s3 V' { s3 with heap := hidden env s3.heap } he hr S3 F3 O (Ext.hide S3) .hidden _ _ (fun ρ' V4 s4 X4 S4 F4 hp => ?_) fun v d V4 s4 X4 S4 r hp => qr v d V4 s4 (Ext.unhide S3 F3 O X3 f X4) S4 r hp
      have keep4 : ∀ b ∈ fp, ∀ o, s3.heap.get? b = some o → s4.heap.get? b = some o := fun b hb o e =>
        X4.keep b o (fpne b hb) (hidden_get e (fun q => (own b (.inl q)).1 hb) fun q => (own b (.inr q)).1 hb)
      refine ⟨xs.length + 1 - (i + 1), by lia, i + 1, V4, hlt, rfl, I.frame _ _ _ hP3 keep4, Ext.unhide S3 F3 O X3 f X4, S4, hV'.trans X4.mono, fun b hbw => ?_, F4.le hp.1, hp.2, fun b hb => let ⟨o, e⟩ := hal3 b hb; ⟨o, keep4 b hb o e⟩⟩
      obtain ⟨o, e⟩ := I.alive _ _ hP3 b hbw
      rw [X4.same b o (hidden_get e (fun q => (own b (.inl q)).2 hbw) fun q => (own b (.inr q)).2 hbw)]
      exact hVw b hbw
    · have hie : i = xs.length := by lia
      subst hie
      refine wpAny_mono (I.done V' s' _ (fun s₁ => wpAny C.M A (execs orelse env) Q (notedBy C.M A env fun e s' => cameBackBy C.M A env E e s') s₁) S' hVw (by rw [List.length_map]; exact hPi) fun s3 S3 hk3 => ?_) (fun r s₁ h => by obtain ⟨rfl, h⟩ := h; exact h) fun _ _ e => e
      have X3 : Ext V0 s0 V' s3 := ⟨X'.mono, X'.same, fun a o ha e => hk3 a o (fun hm => by
          have h1 := (hw a hm).1
          rw [X.keep a o ha e] at h1; cases h1) (X'.keep a o ha e), fun o e => let ⟨ps, h, _⟩ := S3.tab; ⟨_, h⟩⟩
      exact hend V' s3 X3 S3 (F'.stay (fun o e => hk3 _ o (own _ (.inl rfl)).2 e) fun x c o hc e => hk3 _ o (own _ (.inr (mem_cells hc))).2 e) hJ
  · exact ⟨0, V2, Nat.zero_le _, rfl, hP, X.trans X2, S2, .refl V2, fun b hb => (hw b hb).2, F2.le h0, J0, hal⟩
end
section
variable {C : Cx} {k : Nat} {sc : Scope} {ρ : Asn} {Pn : Asn → Prop} {Pr : D → Prop}
theorem ItE.bytesN {iter : Expr} {i : Nat} {pos : Pos} {nx : PySem.Str} {b : Array UInt8} (hx : nm i = nx) (h : Ev C k sc ρ iter (.bytes b)) : ItE C k sc ρ iter (.Name nx pos) (b.toList.map fun c => [(i, D.int c.toNat)]) := fun env A V s he hr S F E Q q => by
  subst hx
  refine h env A V s he hr S F E _ fun v V1 s1 X1 S1 r => ?_
  refine Rep.elBytes r fun t => ?_
  have hf := X1.fresh S1
  have e1 : (b.toList.map fun c => [(i, D.int (c.toNat : Int))]) = ((b.toList.map fun c => D.int (c.toNat : Int)).map fun d => [(i, d)]) := by rw [List.map_map]; rfl
  rw [e1] at q
  refine KBw.pyIter_bytes (q _ V1 _ _ _ _ (X1.trans (.keeps (tk := s1.toks) fun b o e => Heap.get?_push_of_some _ e)) (S1.push _) (Its.ofWalks (KBw.walks hr.2.2 s1.heap.objs.size b t) (by simp) (fun j v d hv hd => ?_) (fun j h st b hb => ?_) ?_) ⟨_, Heap.get?_push_size _ rfl, rfl, rfl⟩ (fun b hb => ?_) (fun b hb => ?_) fun b hb => ?_)
  · obtain ⟨c, u, hc, rfl⟩ := hv
    rw [List.getElem?_map, Array.getElem?_toList, hc] at hd
    cases hd; exact .int _ _
  · simp at hb; subst hb; obtain ⟨o, e, _⟩ := st; exact ⟨o, e⟩
  · exact fun q => S1.tabNe (List.mem_singleton.mp q)
  · simp at hb; subst hb; exact ⟨hf, S1.newFree⟩
  · simp at hb; subst hb; exact .inr ⟨hf, S1.newFree⟩
  · simp at hb; subst hb; exact ⟨_, Heap.get?_push_size _ rfl⟩
theorem bA_toList (w : List Nat) : (bA w).toList = w.map Nat.toUInt8 := by simp [bA]
theorem Ev.cutB {e u : Expr} {p pos : Pos} {w : List Nat} {n : Nat} (he : Ev C k sc ρ e (.bytes (bA w))) (hu : Ev C k sc ρ u (.int n)) (hw : w.length ≤ 1000) : Ev C k sc ρ (.Subscript e (.Slice Option.none (some u) Option.none p) pos) (.bytes (bA (w.take n))) := by
  refine Ev.slice he .none (.some hu) .none (by show "bytes" ≠ "?"; decide) PySem.W.FB.slot_bytes_getitem.lookup ?_
  intro A V s v a l u' t hr S r ha hl hu' ht
  refine Rep.elBytes r fun tk => ?_
  have e1 : KBy.picked (bA w) Option.none (some (n : Int)) = bA (w.take n) := by
    rw [KBc.picked_eq]
    unfold bA
    have h1 := clipAt_nat w.length n
    simp only [Option.elim_none, Option.elim_some, List.drop_zero, Nat.sub_zero]
    have hsz' : (w.map Nat.toUInt8).toArray.size = w.length := by simp
    rw [hsz', h1, List.map_take]
    congr 1
    show List.take (min n w.length) (w.map Nat.toUInt8) = _
    rw [← List.take_take, List.take_of_length_le (l := w.map Nat.toUInt8) (by simp)]
  have p1 := part_is l
  rw [hl] at p1
  have p2 := part_is u'
  rw [hu'] at p2
  have ht' : t = Option.none := by cases t with | none => rfl | some _ => cases ht
  subst ht'
  refine .of_tok S fun E Q q => getItem_meets (typeIs_bytes _ _ _) (by decide) PySem.W.FB.slot_bytes_getitem PySem.W.FB.entry_bytes_getitem (PySem.W.FB.args_bytes_getitem_2 _ _) (KBc.meets_slice2 (bA w) tk a p1 p2) ⟨⟨_, ha, rfl, rfl⟩, ?_, fun t' k' => ?_⟩
  · rw [e1, sizeLine_eq]; simp [bA]; lia
  · rw [e1]; exact q _ _ (.bytes _ _)
end
theorem compLoop_in {prog : Program} {w : World} {A : Around} {R : Result → Shared → Prop} {s : Shared} {elt target iter : Expr} {c1 : Comprehension} {scope : Scope} {pos : Pos} {it acc : Value} {env : Env} (I : Nat → Shared → Prop)
    (turn : ∀ n s, I n s → wpAny (model prog w) A (pyNext it) (fun r s₁ => match r with
      | none => R (.ok .next) s₁
      | some v => wpAny (model prog w) A (letOwnedTupleGo target it v) (fun _ s₁ => wpAny (model prog w) A (assign target env v) (fun _ s₂ =>
          wpAny (model prog w) A (eval elt env) (fun x s₄ =>
              wpAny (model prog w) A (call (.builtin "list.append") [acc, x]) (fun _ s₅ => ∃ m, m < n ∧ I m s₅) (notedBy (model prog w) A env fun e s' => R (.error e) s') s₄) (notedBy (model prog w) A env fun e s' => R (.error e) s') s₂) (notedBy (model prog w) A env fun e s' => R (.error e) s') s₁) (notedBy (model prog w) A env fun e s' => R (.error e) s') s₁) (notedBy (model prog w) A env fun e s' => R (.error e) s') s)
    (n : Nat) (h : I n s) :
    codeAny (model prog w) A (.compLoop (.ListComp elt [c1, ⟨target, iter, [], 0⟩] scope pos) 1 it acc env) R s := by
  refine codeAny_loop rfl I (fun n s hI => ?_) n h
  show wpAny _ A ((compTurn (.ListComp elt [c1, ⟨target, iter, [], 0⟩] scope pos) 1 it acc env).onRaise (fun x => do noteFrame x env; theTreesLotGoes x)) _ _ s
  refine wpAny_noted ?_
  have e0 : compTurn (.ListComp elt [c1, ⟨target, iter, [], 0⟩] scope pos) 1 it acc env = (do
      standAt iter.pos
      match ← pyNext it with
      | none => pure (.done .next)
      | some v =>
        letOwnedTupleGo target it v
        assign target env v
        (do let _ ← call (.builtin "list.append") [acc, ← eval elt env])
        again (.compLoop (.ListComp elt [c1, ⟨target, iter, [], 0⟩] scope pos) 1 it acc env)) := by rfl
  rw [e0]
  refine wpAny_bind (wpAny_standAt (wpAny_bind (wpAny_mono (turn n s hI) (fun r s₁ h₁ => ?_) fun _ _ h' => h')))
  cases r with
  | none => exact wpAny_pure h₁
  | some v =>
    refine wpAny_bind (wpAny_mono h₁ (fun _ s₁ h₁ => ?_) fun _ _ h' => h')
    refine wpAny_bind (wpAny_mono h₁ (fun _ s₂ h₂ => ?_) fun _ _ h' => h')
    exact wpAny_bind (wpAny_bind (wpAny_mono h₂ (fun x s₄ h₄ => wpAny_bind (wpAny_mono h₄ (fun _ s₅ h₅ => wpAny_pure (wpAny_pure ⟨rfl, h₅⟩)) fun _ _ h' => h')) fun _ _ h' => h'))
theorem compStart_in {prog : Program} {w : World} {A : Around} {R : Result → Shared → Prop} {s : Shared} {elt target iter : Expr} {c1 : Comprehension} {scope : Scope} {pos : Pos} {it acc : Value} {env : Env}
    (h0 : codeAny (model prog w) A (.compLoop (.ListComp elt [c1, ⟨target, iter, [], 0⟩] scope pos) 1 it acc env) R s)
    (h : wpAny (model prog w) A (pyIter it) (fun it' s' => codeAny (model prog w) A (.compLoop (.ListComp elt [c1, ⟨target, iter, [], 0⟩] scope pos) 1 it' acc env) R s')
      (notedBy (model prog w) A env fun x s' => R (.error x) s') s) :
    codeAny (model prog w) A (.compStart (.ListComp elt [c1, ⟨target, iter, [], 0⟩] scope pos) 1 it acc env) R s := by
  refine codeAny_of_tree ?_
  show wpAny _ _ ((compStart (.ListComp elt [c1, ⟨target, iter, [], 0⟩] scope pos) 1 it acc env).onRaise (fun x => do noteFrame x env; standAt theWindowsPlace)) _ _ s
  refine wpAny_notedAt ?_
  unfold compStart
  show wpAny _ _ (ask >>= _) _ _ s
  refine wpAny_bind (wpAny_askSetting (wpAny_ite ?_))
  split
  · first
      | exact wpAny_bind (wpAny_pure (wpAny_pure (And.intro rfl h0)))
      | exact wpAny_pure (And.intro rfl h0)
  · first
      | exact wpAny_bind (wpAny_rule (wpAny_bind (wpAny_standAt (wpAny_bind (wpAny_mono h (fun it' s' h' => wpAny_pure (And.intro rfl h')) fun _ _ x => x)))))
      | exact wpAny_rule (wpAny_bind (wpAny_standAt (wpAny_bind (wpAny_mono h (fun it' s' h' => wpAny_pure (And.intro rfl h')) fun _ _ x => x))))
theorem compLoop_out {prog : Program} {w : World} {A : Around} {R : Result → Shared → Prop} {s : Shared} {elt target iter target2 iter2 : Expr} {scope : Scope} {pos : Pos} {it acc : Value} {env : Env} (I : Nat → Shared → Prop)
    (hs : ∀ x, foldedSetIterable iter2 env x = pure x)
    (turn : ∀ n s, I n s → wpAny (model prog w) A (pyNext it) (fun r s₁ => match r with
      | none => R (.ok .next) s₁
      | some v => wpAny (model prog w) A (letOwnedTupleGo target it v) (fun _ s₁ => wpAny (model prog w) A (assign target env v) (fun _ s₂ =>
          wpAny (model prog w) A (eval iter2 env) (fun x s₃ => wpAny (model prog w) A (pyIter x) (fun it2 s₄ =>
              codeAny (model prog w) A (.compStart (.ListComp elt [⟨target, iter, [], 0⟩, ⟨target2, iter2, [], 0⟩] scope pos) 1 it2 acc env) (fun r s₅ => match r with
                | .ok _ => ∃ m, m < n ∧ I m s₅
                | .error e => cameBackBy (model prog w) A env (notedBy (model prog w) A env fun e s' => R (.error e) s') e s₅) s₄) (notedBy (model prog w) A env fun e s' => R (.error e) s') s₃) (notedBy (model prog w) A env fun e s' => R (.error e) s') s₂) (notedBy (model prog w) A env fun e s' => R (.error e) s') s₁) (notedBy (model prog w) A env fun e s' => R (.error e) s') s₁) (notedBy (model prog w) A env fun e s' => R (.error e) s') s)
    (n : Nat) (h : I n s) :
    codeAny (model prog w) A (.compLoop (.ListComp elt [⟨target, iter, [], 0⟩, ⟨target2, iter2, [], 0⟩] scope pos) 0 it acc env) R s := by
  refine codeAny_loop rfl I (fun n s hI => ?_) n h
  show wpAny _ A ((compTurn (.ListComp elt [⟨target, iter, [], 0⟩, ⟨target2, iter2, [], 0⟩] scope pos) 0 it acc env).onRaise (fun x => do noteFrame x env; theTreesLotGoes x)) _ _ s
  refine wpAny_noted ?_
  have e0 : compTurn (.ListComp elt [⟨target, iter, [], 0⟩, ⟨target2, iter2, [], 0⟩] scope pos) 0 it acc env = (do
      standAt iter.pos
      match ← pyNext it with
      | none => pure (.done .next)
      | some v =>
        letOwnedTupleGo target it v
        assign target env v
        let x ← eval iter2 env
        standAt iter2.pos
        let x ← foldedSetIterable iter2 env x
        let _ ← runOwn (.compStart (.ListComp elt [⟨target, iter, [], 0⟩, ⟨target2, iter2, [], 0⟩] scope pos) 1 (← holding [x] (pyIter x)) acc env) env
        again (.compLoop (.ListComp elt [⟨target, iter, [], 0⟩, ⟨target2, iter2, [], 0⟩] scope pos) 0 it acc env)) := by rfl
  rw [e0]
  refine wpAny_bind (wpAny_standAt (wpAny_bind (wpAny_mono (turn n s hI) (fun r s₁ h₁ => ?_) fun _ _ h' => h')))
  cases r with
  | none => exact wpAny_pure h₁
  | some v =>
    refine wpAny_bind (wpAny_mono h₁ (fun _ s₁ h₁ => ?_) fun _ _ h' => h')
    refine wpAny_bind (wpAny_mono h₁ (fun _ s₂ h₂ => ?_) fun _ _ h' => h')
    refine wpAny_bind (wpAny_mono h₂ (fun x s₃ h₃ => ?_) fun _ _ h' => h')
    refine wpAny_bind (wpAny_standAt (wpAny_bind (wpAny_of_eq (hs x) (wpAny_bind (wpAny_holding (wpAny_mono h₃ (fun it2 s₄ h₄ => ?_) fun _ _ h' => h'))))))
    refine wpAny_bind (wpAny_runOwn (h := none) (codeAny_mono h₄ fun r s₅ hr => ?_))
    cases r with
    | ok f => exact wpAny_pure ⟨rfl, hr⟩
    | error e => exact hr
structure KeepX (V : View) (s : Shared) (V' : View) (s' : Shared) (Dd L : Addr) : Prop where
  same : ∀ a o, s.heap.get? a = some o → V' a = V a
  keep : ∀ a o, a ≠ tabA → a ≠ Dd → a ≠ L → s.heap.get? a = some o → s'.heap.get? a = some o
  mono : VLe V V'
theorem KeepX.ext {V V' V'' : View} {s s' s'' : Shared} {Dd L : Addr} {C : Cx} (x : KeepX V s V' s' Dd L) (al : ∀ a o, s.heap.get? a = some o → ∃ o', s'.heap.get? a = some o') (X : Ext V' s' V'' s'') : KeepX V s V'' s'' Dd L :=
  ⟨fun a o e => let ⟨o', e'⟩ := al a o e; (X.same a o' e').trans (x.same a o e), fun a o h1 h2 h3 e => X.keep a o h1 (x.keep a o h1 h2 h3 e), x.mono.trans X.mono⟩
section
variable {C : Cx} {k : Nat}
theorem comp_in {β : Type} {zs : List β} {g2 : β → Asn} {f : β → D} {ρ1 : Asn} {elt tgt iter : Expr} {c1 : Comprehension} {scope scr : Scope} {pos : Pos} {cenv : Env} {A : Around} {V : View} {s : Shared} {E : Value → Shared → Prop} {R : Result → Shared → Prop}
    {Dd : Addr} {ds : Array Value} {m : Nat} {done : List D}
    (hIt : ItE C k scr ρ1 iter tgt (zs.map g2)) (hg : ∀ z ∈ zs, ∀ q ∈ g2 z, scr.names.lookup (nm q.1) = some .local) (hle : ∀ z ∈ zs, Asn.Le ρ1 (g2 z ++ ρ1))
    (hel : ∀ z ∈ zs, Ev C k scr (g2 z ++ ρ1) elt (f z)) (hsz : done.length + zs.length ≤ sizeLine)
    (he : cenv.scope = scr) (hr : Room k A) (S : St C V s) (F : Frm C cenv ρ1 V s.heap) (hD : s.heap.get? Dd = some (listO ds m)) (hVD : V Dd = none) (hDt : Dd ≠ tabA) (hDL : Dd ≠ cenv.locals) (hR : Reps V ds.toList done)
    (fin : ∀ V' s' ds' m', KeepX V s V' s' Dd cenv.locals → St C V' s' → Frm C cenv ρ1 V' s'.heap → s'.heap.get? Dd = some (listO ds' m') → V' Dd = none → Reps V' ds'.toList (done ++ zs.map f) → R (.ok .next) s') :
    wpAny C.M A (eval iter cenv) (fun x s₁ => wpAny C.M A (pyIter x) (fun it s₂ => codeAny C.M A (.compStart (.ListComp elt [c1, ⟨tgt, iter, [], 0⟩] scope pos) 1 it (.ref Dd) cenv) R s₂) E s₁) E s := by
  refine hIt cenv A V s he hr S F E _ fun it V2 s2 fp wr P X2 S2 I hP hw hfp hal => ?_
  have F2 := F.ext S X2
  have ext : ∀ {a : Addr}, (∃ o, s.heap.get? a = some o) → V2 a = none → a ∉ fp := fun ⟨o, e⟩ h2 hm => by
    rcases hfp _ hm with h | h
    · rw [h2] at h; cases h
    · rw [h.1] at e; cases e
  have hLs : ∃ o, s.heap.get? cenv.locals = some o := by obtain ⟨m, ⟨o, es, ep, e, _⟩, _⟩ := F.ns; exact ⟨o, e⟩
  have nfL : cenv.locals ∉ fp := ext hLs F2.locFree
  have nfD : Dd ∉ fp := ext ⟨_, hD⟩ ((X2.same _ _ hD).trans hVD)
  have hcw : ∀ x c, cenv.cells.lookup x = some c → c ∉ wr := fun x c hc hm => by
    obtain ⟨_, v, ⟨o, e, _⟩, _⟩ := F.cells x c hc
    have := (hw c hm).1
    rw [e] at this; cases this
  have start : codeAny C.M A (.compLoop (.ListComp elt [c1, ⟨tgt, iter, [], 0⟩] scope pos) 1 it (.ref Dd) cenv) R s2 := by
    obtain ⟨Inv, hIn, hOut⟩ : ∃ Inv : Nat → Shared → Prop, (∀ n s', Inv n s' → CInv C cenv ρ1 P zs.length wr V2 (fun V' s' => KeepX V s V' s' Dd cenv.locals ∧ (∀ a o, s.heap.get? a = some o → ∃ o', s'.heap.get? a = some o')) Dd (fun i => done ++ (zs.take i).map f) n s') ∧ (∀ n s', CInv C cenv ρ1 P zs.length wr V2 (fun V' s' => KeepX V s V' s' Dd cenv.locals ∧ (∀ a o, s.heap.get? a = some o → ∃ o', s'.heap.get? a = some o')) Dd (fun i => done ++ (zs.take i).map f) n s' → Inv n s') := ⟨_, fun _ _ h => h, fun _ _ h => h⟩
    refine compLoop_in Inv (fun n s' hI => ?_) (zs.length + 1) ?_
    · obtain ⟨i, V', ys, m, hi, rfl, hPi, ⟨X', al'⟩, S', hV', hDD, hR, hVD', hVw, F'⟩ := hIn _ _ hI
      by_cases hlt : i < zs.length
      · have hb : (zs.map g2)[i]? = some (g2 zs[i]) := by rw [List.getElem?_map, List.getElem?_eq_getElem hlt]; rfl
        have hx : zs[i] ∈ zs := List.getElem_mem hlt
        have hkl : ∀ q ∈ g2 zs[i], cenv.scope.names.lookup (nm q.1) = some .local := fun q hq => by rw [he]; exact hg _ hx q hq
        have hTg : ∀ a, Tgt cenv (g2 zs[i]) a → a = cenv.locals := fun a ha => by
          rcases ha with rfl | ⟨q, hq, h3, _⟩
          · rfl
          · rw [hkl q hq] at h3; cases h3
        refine wpAny_mono (I.step i _ hb cenv ρ1 V' s' (notedBy C.M A cenv fun e s' => R (.error e) s') (fun s₂ => wpAny C.M A (eval elt cenv) (fun x s₄ =>
              wpAny C.M A (PySem.call (.builtin "list.append") [.ref Dd, x]) (fun _ s₅ => ∃ m, m < zs.length + 1 - i ∧ Inv m s₅) (notedBy C.M A cenv fun e s' => R (.error e) s') s₄) (notedBy C.M A cenv fun e s' => R (.error e) s') s₂)
          hV' S' hVw hPi F' (fun a ha => by rw [hTg a ha]; exact nfL) hcw (fun q hq => .inl (hkl q hq)) fun s3 hP3 S3 F3 hk3 hl3 => ?_) (fun r s₁ h => by obtain ⟨v, rfl, h⟩ := h; exact h) fun _ _ e => e
        have X3 : KeepX V s V' s3 Dd cenv.locals := ⟨X'.same, fun a o h1 h2 h4 e => hk3 a o (fun hm => by have := (hw a hm).1; rw [e] at this; cases this) (fun hT => h4 (hTg a hT)) (X'.keep a o h1 h2 h4 e), X'.mono⟩
        have hDwr : Dd ∉ wr := fun hm => nfD (I.sub _ hm)
        have hDD3 : s3.heap.get? Dd = some (listO ys m) := hk3 _ _ hDwr (fun hT => hDL (hTg _ hT)) hDD
        have al3 : ∀ a o, s.heap.get? a = some o → ∃ o', s3.heap.get? a = some o' := fun a o e => by
          obtain ⟨o', e'⟩ := al' a o e
          exact hl3 a o' (fun hm => by have := (hw a hm).1; rw [e] at this; cases this) e'
        refine hel _ hx cenv A V' s3 he hr S3 F3 _ _ fun v V6 s6 X6 S6 rv => ?_
        have hDD6 := X6.keep _ _ hDt hDD3
        have hlen : ys.size ≤ sizeLine := by
          have e1 := hR.1
          simp only [List.length_append, List.length_map, List.length_take, Array.length_toList] at e1
          lia
        refine wpAny_list_append_plain (hsz := hlen) ⟨m, hDD6⟩ fun h7 hl7 hs7 => ?_
        obtain ⟨m7, e7⟩ := hl7
        have hVD6 : V6 Dd = none := (X6.same _ _ hDD3).trans hVD'
        have S7 : St C V6 { s6 with heap := h7 } := S6.but (fun a => a = Dd) (fun b o hb e => (hs7.2 b hb).trans e) (fun b hb => hb ▸ hVD6) (Ne.symm hDt) rfl rfl
        have X06 := X3.ext (C := C) al3 X6
        have X07 : KeepX V s V6 { s6 with heap := h7 } Dd cenv.locals := ⟨X06.same, fun a o h1 h2 h4 e => (hs7.2 a h2).trans (X06.keep a o h1 h2 h4 e), X06.mono⟩
        have F6 := F3.ext S3 X6
        have F7 : Frm C cenv (g2 zs[i] ++ ρ1) V6 h7 := F6.stay (fun o e => (hs7.2 _ (Ne.symm hDL)).trans e) (fun x c o hc e => (hs7.2 _ fun q => by
          obtain ⟨_, v, ⟨o', e', dd⟩, _⟩ := F6.cells x c hc
          rw [q, hDD6] at e'; cases e'; cases dd).trans e)
        have al7 : ∀ a o, s.heap.get? a = some o → ∃ o', h7.get? a = some o' := fun a o e => by
          by_cases ha : a = Dd
          · subst ha; exact ⟨_, e7⟩
          · obtain ⟨o', e'⟩ := al3 a o e
            by_cases ht : a = tabA
            · obtain ⟨ps, ep, _⟩ := S7.tab; exact ⟨_, ht ▸ ep⟩
            · exact ⟨o', (hs7.2 a ha).trans (X6.keep a o' ht e')⟩
        refine ⟨zs.length + 1 - (i + 1), by lia, hOut _ _ ⟨i + 1, V6, ys.push v, m7, hlt, rfl, ?_, ⟨X07, al7⟩, S7, hV'.trans X6.mono, e7, ?_, hVD6, ?_, F7.le (hle _ hx)⟩⟩
        · refine I.frame _ _ _ hP3 fun b hb o e => (hs7.2 b fun q => nfD (q ▸ hb)).trans (X6.keep b o (fun q => ?_) e)
          subst q
          rcases hfp _ hb with h | h
          · rw [S2.tabV] at h; cases h
          · obtain ⟨ps, h', _⟩ := S.tab; rw [h.1] at h'; cases h'
        · rw [List.take_succ, List.getElem?_eq_getElem hlt, List.map_append, ← List.append_assoc, Array.toList_push]
          exact (hR.mono X6.mono).snoc rv
        · exact fun b hb => by obtain ⟨o, e⟩ := I.alive _ _ hP3 b hb; exact (X6.same _ _ e).trans (hVw b hb)
      · have hie : i = zs.length := by lia
        subst hie
        rw [List.take_length] at hR
        refine wpAny_mono (I.done V' s' _ (fun s₁ => R (.ok .next) s₁) S' hVw (by rw [List.length_map]; exact hPi) fun s3 S3 hk3 => ?_) (fun r s₁ h => by obtain ⟨rfl, h⟩ := h; exact h) fun _ _ e => e
        have hDwr : Dd ∉ wr := fun hm => nfD (I.sub _ hm)
        have hLwr : cenv.locals ∉ wr := fun hm => nfL (I.sub _ hm)
        exact fin V' s3 ys m ⟨X'.same, fun a o h1 h2 h4 e => hk3 a o (fun hm => by have := (hw a hm).1; rw [e] at this; cases this) (X'.keep a o h1 h2 h4 e), X'.mono⟩ S3 (F'.stay (fun o e => hk3 _ o hLwr e) fun x c o hc e => hk3 _ o (hcw x c hc) e) (hk3 _ _ hDwr hDD) hVD' hR
    · refine hOut _ _ ⟨0, V2, ds, m, Nat.zero_le _, rfl, hP, ⟨⟨X2.same, fun a o h1 _ _ e => X2.keep a o h1 e, X2.mono⟩, fun a o e => ?_⟩, S2, .refl V2, X2.keep _ _ hDt hD, by simpa using hR.mono X2.mono, (X2.same _ _ hD).trans hVD, fun b hb => (hw b hb).2, F2⟩
      by_cases ht : a = tabA
      · obtain ⟨ps, ep, _⟩ := S2.tab; exact ⟨_, ht ▸ ep⟩
      · exact ⟨o, X2.keep a o ht e⟩
  exact compStart_in start (I.self 0 _ _ _ hP start)
end
theorem comp2_core {C : Cx} {k : Nat} {sc : Scope} {ρ fr : Asn} {α β : Type} {xs : List α} {g : α → Asn} {zs : α → List β} {g2 : α → β → Asn} {f : α → β → D} {elt tgt iter tgt2 iter2 : Expr} {scope : Scope} {pos : Pos} {cl : List (PySem.Str × Addr)}
    {env : Env} {A : Around} {V : View} {s : Shared} {E : Value → Shared → Prop} {RR : Value → Addr → Result → Shared → Prop}
    (hIt : ItE C k sc ρ iter tgt (xs.map g)) (W : Sees scope sc ρ fr) (hg : ∀ x ∈ xs, ∀ q ∈ g x, scope.names.lookup (nm q.1) = some .local)
    (hIt2 : ∀ x ∈ xs, ItE C k (relabelS scope sc) (g x ++ fr) iter2 tgt2 ((zs x).map (g2 x))) (hg2 : ∀ x ∈ xs, ∀ z ∈ zs x, ∀ q ∈ g2 x z, scope.names.lookup (nm q.1) = some .local)
    (hle : ∀ x ∈ xs, ∀ z ∈ zs x, Asn.Le (g x ++ fr) (g2 x z ++ (g x ++ fr)))
    (hel : ∀ x ∈ xs, ∀ z ∈ zs x, Ev C k (relabelS scope sc) (g2 x z ++ (g x ++ fr)) elt (f x z)) (hsz : (xs.flatMap fun x => (zs x).map (f x)).length ≤ sizeLine)
    (hs2 : ∀ env x, foldedSetIterable iter2 env x = pure x)
    (he : env.scope = sc) (hr : Room k A) (S : St C V s) (F : Frm C env ρ V s.heap)
    (h1 : ∀ x c, cl.lookup x = some c → env.cells.lookup x = some c) (h2 : ∀ x ∈ scope.names, x.2 = .free → ∃ c, cl.lookup x.1 = some c)
    (fin : ∀ Dd Cc V' s' ys n, Ext V s V' s' → St C V' s' → s'.heap.get? Dd = some (listO ys n) → Reps V' ys.toList (xs.flatMap fun x => (zs x).map (f x)) → V' Dd = none → V' Cc = none → s.heap.get? Dd = none → s.heap.get? Cc = none → Dd ≠ Cc →
      (∃ m, s'.heap.Ns Cc m) → RR (.ref Dd) Cc (.ok .next) s') :
    wpAny C.M A (eval iter env) (fun x s₁ => wpAny C.M A (pyIter x) (fun it s₂ => wpAny C.M A (newList []) (fun acc s₃ => wpAny C.M A (newFunctionEnv scope env.globals cl [] env.qual none .none (some env)) (fun cenv s₄ =>
      codeAny C.M A (.compStart (.ListComp elt [⟨tgt, iter, [], 0⟩, ⟨tgt2, iter2, [], 0⟩] scope pos) 0 it acc { cenv with scope := relabel scope env }) (RR acc cenv.locals) s₄) E s₃) E s₂) E s₁) E s := by
  refine hIt env A V s he hr S F E _ fun it V2 s2 fp wr P X2 S2 I hP hw hfp hal => ?_
  refine wpAny_newObj_type (wpAny_newFunctionEnv W.cell (by intro y hy; simp at hy) (fun h4 hns4 hsb4 => ?_) W.kind)
  dsimp only at hns4 hsb4 ⊢
  generalize hH3 : s2.heap.push { cls := .type "list", dict := none, data := .seq ([] : List Value).toArray } = H3 at hns4 hsb4 ⊢
  have hz3 : H3.objs.size = s2.heap.objs.size + 1 := by rw [← hH3, Heap.size_push]
  have old : ∀ b o, s2.heap.get? b = some o → h4.get? b = some o := fun b o e => by
    have hlt := lt_of_get e
    exact hsb4.extBut b o (neN (by rw [hz3]; lia)) (Heap.get?_push_of_some _ (hH3 ▸ Heap.get?_push_of_some _ e))
  have hD : h4.get? s2.heap.objs.size = some (listO #[] 0) := hsb4.extBut _ _ (neN (by rw [hz3]; lia)) (Heap.get?_push_of_some _ (hH3 ▸ Heap.get?_push_size _ rfl))
  have fD := St.newNone X2 S2 (b := s2.heap.objs.size) (Nat.le_refl _)
  have fC := St.newNone X2 S2 (b := H3.objs.size) (by rw [hz3]; exact Nat.le_succ _)
  have hDC : s2.heap.objs.size ≠ H3.objs.size := by rw [hz3]; exact Nat.ne_of_lt (Nat.lt_succ_self _)
  have oldlt : ∀ {b o}, s2.heap.get? b = some o → b ≠ s2.heap.objs.size ∧ b ≠ H3.objs.size := fun e => by
    have hlt := lt_of_get e
    exact ⟨neN (by lia), neN (by rw [hz3]; lia)⟩
  generalize hDd : s2.heap.objs.size = Dd at *
  generalize hCc : H3.objs.size = Cc at *
  have start : ∀ s4 : Shared, s4 = { s2 with heap := h4, toks := s2.toks + ([] : List (PySem.Str × Value)).length } →
      codeAny C.M A (.compLoop (.ListComp elt [⟨tgt, iter, [], 0⟩, ⟨tgt2, iter2, [], 0⟩] scope pos) 0 it (.ref Dd) (compEnvC scope cl Cc env)) (RR (.ref Dd) Cc) s4 := by
    rintro s4 rfl
    have F4 : Frm C (compEnvC scope cl Cc env) fr V2 h4 := (F.ext S X2).comp (he ▸ W) h1 h2 hns4 fC.2 old
    obtain ⟨Inv, hIn, hOut⟩ : ∃ Inv : Nat → Shared → Prop, (∀ n s', Inv n s' → CInv C (compEnvC scope cl Cc env) fr P xs.length wr V2 (Ext V s) Dd (fun i => (xs.take i).flatMap fun x => (zs x).map (f x)) n s') ∧ (∀ n s', CInv C (compEnvC scope cl Cc env) fr P xs.length wr V2 (Ext V s) Dd (fun i => (xs.take i).flatMap fun x => (zs x).map (f x)) n s' → Inv n s') := ⟨_, fun _ _ h => h, fun _ _ h => h⟩
    refine compLoop_out Inv (hs2 _) (fun n s' hI => ?_) (xs.length + 1) ?_
    · obtain ⟨i, V', ys, m, hi, rfl, hPi, X', S', hV', hDD, hR, hVD, hVw, F'⟩ := hIn _ _ hI
      have hlocfp : ∀ a, a = Cc ∨ a = Dd → a ∉ fp := fun a ha hm => by
        refine hid fun G hG => ?_
        obtain ⟨o, e⟩ := hal a hm
        refine hG ?_
        have := oldlt e
        rcases ha with rfl | rfl
        · exact this.2 rfl
        · exact this.1 rfl
      have hcw : ∀ x c, (compEnvC scope cl Cc env).cells.lookup x = some c → c ∉ wr := fun x c hc hm => by
        obtain ⟨_, v, ⟨o, e, _⟩, _⟩ := F.cells x c (h1 x c hc)
        have := (hw c hm).1
        rw [e] at this; cases this
      by_cases hlt : i < xs.length
      · have hb : (xs.map g)[i]? = some (g xs[i]) := by rw [List.getElem?_map, List.getElem?_eq_getElem hlt]; rfl
        have hx : xs[i] ∈ xs := List.getElem_mem hlt
        have hkl : ∀ q ∈ g xs[i], (compEnvC scope cl Cc env).scope.names.lookup (nm q.1) = some .local := fun q hq => by
          show (relabelS scope env.scope).names.lookup (nm q.1) = _
          rw [relabelS_lookup, hg _ hx q hq]; rfl
        have hTg : ∀ a, Tgt (compEnvC scope cl Cc env) (g xs[i]) a → a = Cc := fun a ha => by
          rcases ha with rfl | ⟨q, hq, h3, _⟩
          · rfl
          · rw [hkl q hq] at h3; cases h3
        refine wpAny_mono (I.step i _ hb (compEnvC scope cl Cc env) fr V' s' (notedBy C.M A (compEnvC scope cl Cc env) fun e s' => RR (.ref Dd) Cc (.error e) s') (fun s₂ => wpAny C.M A (eval iter2 (compEnvC scope cl Cc env)) (fun x s₃ => wpAny C.M A (pyIter x) (fun it2 s₄ =>
              codeAny C.M A (.compStart (.ListComp elt [⟨tgt, iter, [], 0⟩, ⟨tgt2, iter2, [], 0⟩] scope pos) 1 it2 (.ref Dd) (compEnvC scope cl Cc env)) (fun r s₅ => match r with
                | .ok _ => ∃ m, m < xs.length + 1 - i ∧ Inv m s₅
                | .error e => cameBackBy C.M A (compEnvC scope cl Cc env) (notedBy C.M A (compEnvC scope cl Cc env) fun e s' => RR (.ref Dd) Cc (.error e) s') e s₅) s₄) (notedBy C.M A (compEnvC scope cl Cc env) fun e s' => RR (.ref Dd) Cc (.error e) s') s₃) (notedBy C.M A (compEnvC scope cl Cc env) fun e s' => RR (.ref Dd) Cc (.error e) s') s₂)
          hV' S' hVw hPi F' (fun a ha => hlocfp a (.inl (hTg a ha))) hcw (fun q hq => .inl (hkl q hq)) fun s3 hP3 S3 F3 hk3 _ => ?_) (fun r s₁ h => by obtain ⟨v, rfl, h⟩ := h; exact h) fun _ _ e => e
        have hCD : ∀ {a : Addr}, a = Cc → ∀ o, s.heap.get? a ≠ some o := fun e o q => by rw [e, fC.1] at q; cases q
        have X3 : Ext V s V' s3 := ⟨X'.mono, X'.same, fun a o ha e => hk3 a o (fun hm => by have := (hw a hm).1; rw [e] at this; cases this) (fun hT => hCD (hTg a hT) o e) (X'.keep a o ha e), fun o e => let ⟨ps, h, _⟩ := S3.tab; ⟨_, h⟩⟩
        have hDwr : Dd ∉ wr := fun hm => hlocfp Dd (.inr rfl) (I.sub _ hm)
        have hDD3 : s3.heap.get? Dd = some (listO ys m) := hk3 _ _ hDwr (fun hT => hDC (hTg _ hT)) hDD
        have hsc : (compEnvC scope cl Cc env).scope = relabelS scope sc := by rw [← he]; rfl
        have hDt : Dd ≠ tabA := fun q => by obtain ⟨ps, h', _⟩ := S.tab; rw [← q, fD.1] at h'; cases h'
        have htake : ((xs.take (i + 1)).flatMap fun x => (zs x).map (f x)) = ((xs.take i).flatMap fun x => (zs x).map (f x)) ++ (zs xs[i]).map (f xs[i]) := by
          rw [List.take_succ, List.getElem?_eq_getElem hlt, List.flatMap_append]; simp
        have leF : Asn.Le fr (g xs[i] ++ fr) := by
          intro j e hj
          have : ∀ b : Asn, (∀ q ∈ b, (compEnvC scope cl Cc env).scope.names.lookup (nm q.1) = some .local) → Asn.get (b ++ fr) j = some e := by
            intro b
            induction b with
            | nil => intro _; exact hj
            | cons q r ih =>
              intro hq
              refine Asn.there (fun ej => ?_) (ih fun q' hq' => hq q' (by simp [hq']))
              have h3 := hq q (by simp)
              obtain ⟨_, hf⟩ := W.fr j e hj
              rw [ej] at hf
              have h4 : (relabelS scope env.scope).names.lookup (nm q.1) = some .local := h3
              rw [relabelS_lookup, hf] at h4
              simp only [Option.map_some, Option.some.injEq] at h4
              split at h4 <;> cases h4
          exact this _ hkl
        refine comp_in (done := (xs.take i).flatMap fun x => (zs x).map (f x)) (hIt2 _ hx) (fun z hz q hq => ?_) (hle _ hx) (hel _ hx) ?_ hsc hr S3 F3 hDD3 hVD hDt hDC hR fun V5 s5 ds5 m5 K5 S5 F5 hD5 hV5 hR5 => ?_
        · rw [relabelS_lookup, hg2 _ hx z hz q hq]; rfl
        · have h5 : ((xs.take (i + 1)).flatMap fun x => (zs x).map (f x)).length ≤ (xs.flatMap fun x => (zs x).map (f x)).length := by
            conv => rhs; rw [← List.take_append_drop (i + 1) xs, List.flatMap_append, List.length_append]
            exact Nat.le_add_right _ _
          rw [htake, List.length_append, List.length_map] at h5
          lia
        · have al3 : ∀ a o, s.heap.get? a = some o → ∃ o', s3.heap.get? a = some o' := fun a o e => by
            by_cases ht : a = tabA
            · obtain ⟨ps, ep, _⟩ := S3.tab; exact ⟨_, ht ▸ ep⟩
            · exact ⟨o, X3.keep a o ht e⟩
          have X5 : Ext V s V5 s5 := ⟨X3.mono.trans K5.mono, fun a o e => let ⟨o', e'⟩ := al3 a o e; (K5.same a o' e').trans (X3.same a o e), fun a o ha e => K5.keep a o ha (fun q => by rw [q, fD.1] at e; cases e) (fun q => hCD q o e) (X3.keep a o ha e), fun o e => let ⟨ps, h, _⟩ := S5.tab; ⟨_, h⟩⟩
          show ∃ m, m < xs.length + 1 - i ∧ Inv m s5
          refine ⟨xs.length + 1 - (i + 1), by lia, hOut _ _ ⟨i + 1, V5, ds5, m5, hlt, rfl, ?_, X5, S5, hV'.trans K5.mono, hD5, by rw [htake]; exact hR5, hV5, fun b hb => ?_, F5.le leF⟩⟩
          · refine I.frame _ _ _ hP3 fun b hb o e => K5.keep b o (fun q => ?_) (fun q => hlocfp Dd (.inr rfl) (q ▸ hb)) (fun q => hlocfp Cc (.inl rfl) (by have q2 : b = Cc := q; rw [← q2]; exact hb)) e
            subst q
            rcases hfp _ hb with h | h
            · rw [S2.tabV] at h; cases h
            · obtain ⟨ps, h', _⟩ := S.tab; rw [h.1] at h'; cases h'
          · obtain ⟨o, e⟩ := I.alive _ _ hP3 b hb; exact (K5.same _ _ e).trans (hVw b hb)
      · have hie : i = xs.length := by lia
        subst hie
        rw [List.take_length] at hR
        refine wpAny_mono (I.done V' s' _ (fun s₁ => RR (.ref Dd) Cc (.ok .next) s₁) S' hVw (by rw [List.length_map]; exact hPi) fun s3 S3 hk3 => ?_) (fun r s₁ h => by obtain ⟨rfl, h⟩ := h; exact h) fun _ _ e => e
        have hDwr : Dd ∉ wr := fun hm => hlocfp Dd (.inr rfl) (I.sub _ hm)
        have hCwr : Cc ∉ wr := fun hm => hlocfp Cc (.inl rfl) (I.sub _ hm)
        refine fin Dd Cc V' s3 ys m ⟨X'.mono, X'.same, fun a o ha e => hk3 a o (fun hm => by have := (hw a hm).1; rw [e] at this; cases this) (X'.keep a o ha e), fun o e => let ⟨ps, h, _⟩ := S3.tab; ⟨_, h⟩⟩ S3 (hk3 _ _ hDwr hDD) hR hVD F'.locFree fD.1 fC.1 hDC ?_
        obtain ⟨mm, ⟨o, es, ep, e, r⟩, _⟩ := F'.ns
        exact ⟨mm, o, es, ep, hk3 _ _ hCwr e, r⟩
    · exact hOut _ _ ⟨0, V2, #[], 0, Nat.zero_le _, rfl, I.frame _ _ _ hP fun b hb o e => old b o e, X2.trans (.keeps (V := V2) (s := s2) old), S2.keeps old, .refl V2, hD, by simpa using Reps.nil, fD.2, fun b hb => (hw b hb).2, F4⟩
  have hP4 : P 0 h4 := I.frame _ _ _ hP fun b hb o e => old b o e
  exact codeAny_compStart_list (start _ rfl) (I.self 0 _ _ _ hP4 (start _ rfl))
section
variable {C : Cx} {k : Nat} {sc : Scope} {ρ : Asn} {Pn : Asn → Prop} {Pr : D → Prop}
theorem Ex1.assignComp2 {α β : Type} (xs : List α) (g : α → Asn) (zs : α → List β) (g2 : α → β → Asn) (f : α → β → D) (fr : Asn) {d : D} {i : Nat} {x : PySem.Str} {px pos cpos : Pos} {elt tgt iter tgt2 iter2 : Expr} {scope : Scope} (hx : nm i = x)
    (hIt : ItE C k sc ρ iter tgt (xs.map g)) (W : Sees scope sc ρ fr) (hg : ∀ x ∈ xs, ∀ q ∈ g x, scope.names.lookup (nm q.1) = some .local)
    (hIt2 : ∀ x ∈ xs, ItE C k (relabelS scope sc) (g x ++ fr) iter2 tgt2 ((zs x).map (g2 x))) (hg2 : ∀ x ∈ xs, ∀ z ∈ zs x, ∀ q ∈ g2 x z, scope.names.lookup (nm q.1) = some .local)
    (hle : ∀ x ∈ xs, ∀ z ∈ zs x, Asn.Le (g x ++ fr) (g2 x z ++ (g x ++ fr)))
    (hel : ∀ x ∈ xs, ∀ z ∈ zs x, Ev C k (relabelS scope sc) (g2 x z ++ (g x ++ fr)) elt (f x z)) (hsz : (xs.flatMap fun x => (zs x).map (f x)).length ≤ sizeLine)
    (hk : sc.names.lookup x = some .local) (hd : D.list (xs.flatMap fun x => (zs x).map (f x)) = d)
    (hsw : ∀ env : Env, env.scope = sc → swapsWith (.ListComp elt [⟨tgt, iter, [], 0⟩, ⟨tgt2, iter2, [], 0⟩] scope cpos) (some (.Name x px)) pos.line env = pure true)
    (hs : ∀ env x, foldedSetIterable iter env x = pure x := by intro _ _; rfl) (hs2 : ∀ env x, foldedSetIterable iter2 env x = pure x := by intro _ _; rfl) :
    Ex1 C k sc ρ (.Assign [.Name x px] (.ListComp elt [⟨tgt, iter, [], 0⟩, ⟨tgt2, iter2, [], 0⟩] scope cpos) pos) (fun r => r = (i, d) :: ρ) Pr := fun env A V s V0 s0 he hr S F O X ff E Q qn qr => by
  subst hx
  subst hd
  refine hid fun G hG => ?_
  obtain ⟨cl, hc, h1, h2⟩ := closure_ok (env := env) (scope := scope) fun x hx hf => by
    have := W.free x hx hf
    rw [← he] at this
    exact F.has _ this
  refine hG ?_
  rw [exec_Assign_Name_used _ _ _ _ (hsw env he)]
  refine wpAny_bind (wpAny_standAt ?_)
  have e0 : evalThenUse (.ListComp elt [⟨tgt, iter, [], 0⟩, ⟨tgt2, iter2, [], 0⟩] scope cpos) env (PySem.assign (.Name (nm i) px) env) = (do
      let _ ← comprehension (.ListComp elt [⟨tgt, iter, [], 0⟩, ⟨tgt2, iter2, [], 0⟩] scope cpos) scope env (firstIterPos [⟨tgt, iter, [], 0⟩, ⟨tgt2, iter2, [], 0⟩] cpos) (newList []) false (eval iter env) (some (PySem.assign (.Name (nm i) px) env))
      pure ()) := by rfl
  rw [e0]
  refine wpAny_bind (wpAny_bind ?_)
  refine wpAny_comprehension_free (use := some _) rfl (hs env) hc W.kind W.loc (comp2_core hIt W hg hIt2 hg2 hle hel hsz hs2 he hr S F h1 h2 fun Dd Cc V' s' ys n X' S' hD hR hVD hVC fD fC hDC hn => ?_)
  refine hid fun G hG => ?_
  obtain ⟨V2, m2, e2, o2, S2⟩ := S'.freeze hD hVD (S.tabNone fD)
  refine hG ?_
  have X2 : Ext V s V2 s' := X'.freeze m2 o2 fD
  have hC2 : V2 Cc = none := (o2 Cc (Ne.symm hDC)).trans hVC
  have r2 : Rep V2 (.ref Dd) (.list (xs.flatMap fun x => (zs x).map (f x))) := Reps.list (vs := ys.toList) (.of (n := n) (by simpa using e2)) (hR.mono m2)
  have F2 := F.ext S X2
  have hCl : Cc ≠ env.locals := fun q => by
    refine hid fun G hG => ?_
    obtain ⟨m, ⟨o, es, ep, e, _⟩, _⟩ := F.ns
    refine hG ?_
    rw [← q, fC] at e; cases e
  have hCc : ∀ y c, env.cells.lookup y = some c → c ≠ Cc := fun y c hc q => by
    obtain ⟨_, v, ⟨o, e, _⟩, _⟩ := F.cells y c hc
    rw [q, fC] at e; cases e
  refine wpAny_assign_Name (F2.storeL S2 (by rw [he]; exact hk) r2 fun h3 tk3 k3 l3 S3 F3 => ?_)
  refine hid fun G hG => ?_
  obtain ⟨m, oc, es, ep, ec, rc⟩ := hn
  refine hG ?_
  refine ⟨m, ⟨oc, es, ep, (k3 Cc hCl).trans ec, rc⟩, fun h' hs' => wpAny_pure (wpAny_pure ?_)⟩
  have S4 : St C V2 { s' with heap := h', toks := tk3 } := S3.write (s := { s' with heap := h3, toks := tk3 }) hC2 (S.tabNone fC) hs'.2
  have X3 : Ext V0 s0 V2 { s' with heap := h3, toks := tk3 } := Ext.store (X.trans X2) ff S3 (b := [(i, .none)]) fun a ha => k3 a fun q => ha (.inl q)
  have f0 : s0.heap.get? Cc = none := by
    cases q : s0.heap.get? Cc with
    | none => rfl
    | some o => have := X.keep _ _ (S.tabNone fC) q; rw [fC] at this; cases this
  exact qn _ V2 _ (Ext.write (s' := { s' with heap := h3, toks := tk3 }) X3 S4 f0 hs'.2) S4 (F3.stay (fun o e => (hs'.2 _ (Ne.symm hCl)).trans e) fun y c o hc e => (hs'.2 _ (hCc y c hc)).trans e) rfl
theorem sliceL_from (ds : List D) (a : Nat) : sliceL ds (some (a : Int)) Option.none Option.none = ds.drop a := by
  unfold sliceL
  rw [sliceBounds_plain]
  simp only [Option.elim_some, Option.elim_none]
  rw [clipAt_nat, sliceRange_one]
  have := pick_run ds.toArray (min a ds.length) (ds.length - min a ds.length)
  have e0 : (((List.range (ds.length - min a ds.length)).map (min a ds.length + ·)).filterMap (ds[·]?)) = (((List.range (ds.length - min a ds.length)).map (min a ds.length + ·)).filterMap (ds.toArray[·]?)) := by congr 1; funext i; simp
  refine (e0.trans this).trans ?_
  simp only [List.toList_toArray]
  by_cases h : a ≤ ds.length
  · rw [Nat.min_eq_left h, List.take_of_length_le (by simp)]
  · rw [Nat.min_eq_right (by lia), List.drop_eq_nil_of_le (Nat.le_refl _), List.drop_eq_nil_of_le (by lia)]; simp
end
theorem sole_eq (t v : Expr) (l : Nat) (env : Env) : swapsWithSole [t] v l env = swapsWith v (some t) l env := rfl
theorem sw_cell {e : Expr} {x : PySem.Str} {p : Pos} {l : Nat} {env : Env} (h : (env.kindOf x == some .local) = false) : swapsWith e (some (.Name x p)) l env = pure false := by
  unfold swapsWith
  split
  · rename_i s hs
    simp only [h, Bool.and_false, Bool.false_and]
  · rfl
local macro_rules | `(tactic| walk_at "swp") => `(tactic| (intro env he; first | rfl | exact (sole_eq _ _ _ _).trans (sw_cell (by unfold Env.kindOf; rw [he]; rfl)) | (unfold swapsWith Env.blockKind Env.kindOf; rw [he]; rfl)))
theorem ItE.enumL {C : Cx} {k : Nat} {sc : Scope} {ρ : Asn} {α : Type} (xs : List α) (F : α → D) {x x1 x2 : PySem.Str} {p pos p1 p2 p3 : Pos} {n : Nat} {e : Expr} {i j : Nat} (h1 : nm i = x1) (h2 : nm j = x2) (hx : sc.names.lookup x = some .globalImplicit) (hf : GFn C x (.type "enumerate")) (he : Ev C k sc ρ e (.list (xs.map F))) (hst : ∀ env, starEach [e] env = (false, eval e env) :: starEach [] env := by intro _; rfl)
    (hd : (x == ("__debug__" : Str)) = false := by decide) :
    ItE C k sc ρ (.Call (.Name x p) [e] [] pos) (.Tuple [.Name x1 p1, .Name x2 p2] n p3) (((List.range xs.length).zip xs).map fun d => [(j, F d.2), (i, D.int (d.1 : Nat))]) := by
  have := ItE.enumN (p := p) (pos := pos) (p1 := p1) (p2 := p2) (p3 := p3) (n := n) h1 h2 hx hf he hst hd
  rw [List.length_map, List.zip_map_right, List.map_map] at this
  exact this
theorem ItE.pairL {C : Cx} {k : Nat} {sc : Scope} {ρ : Asn} {α : Type} (xs : List α) (F G : α → D) {x1 x2 : PySem.Str} {iter : Expr} {p1 p2 p3 : Pos} {n i j : Nat} (n1 : nm i = x1) (n2 : nm j = x2) (h : Ev C k sc ρ iter (.list (xs.map fun a => .tup [F a, G a]))) : ItE C k sc ρ iter (.Tuple [.Name x1 p1, .Name x2 p2] n p3) (xs.map fun a => [(j, G a), (i, F a)]) := by
  have := ItE.pairsN (ds := xs.map fun a => (F a, G a)) (p1 := p1) (p2 := p2) (p3 := p3) (n := n) n1 n2 (by rw [List.map_map]; exact h)
  rwa [List.map_map] at this
noncomputable def placesW (w : List Nat) (c : Nat) : List Nat := (List.range w.length).filter fun j => sL [w.getD j 0] == sL [c]
noncomputable def pairsL (ps : List Nat) : List (Nat × Nat) := ((List.range ps.length).zip ps).flatMap fun x => (ps.drop (x.1 + 1)).map fun hi => (x.2, hi)
noncomputable def betweenW (w m : List Nat) (c : Nat) : List (List Nat) := ((pairsL (placesW w c)).filter fun p => sL (cut w (p.1 + 1) p.2) == sL (cut m (w.length - p.2) (w.length - 1 - p.1))).map fun p => cut w (p.1 + 1) p.2
section
variable {C : Cx} {k : Nat}
theorem pairs_lt {ps : List Nat} {n : Nat} (h : ∀ p ∈ ps, p < n) : ∀ q ∈ pairsL ps, q.1 < n ∧ q.2 < n := fun q hq => by
  obtain ⟨x, hx, hq⟩ := List.mem_flatMap.mp hq
  obtain ⟨hi, hh, rfl⟩ := List.mem_map.mp hq
  exact ⟨h _ (List.of_mem_zip hx).2, h _ (List.mem_of_mem_drop hh)⟩
theorem pairs_len (ps : List Nat) : (pairsL ps).length ≤ ps.length * ps.length := by
  unfold pairsL
  have : ∀ l : List (Nat × Nat), (l.flatMap fun x => (ps.drop (x.1 + 1)).map fun hi => (x.2, hi)).length ≤ l.length * ps.length := by
    intro l
    induction l with
    | nil => simp
    | cons a r ih =>
      rw [List.flatMap_cons, List.length_append, List.length_map, List.length_drop, List.length_cons, Nat.succ_mul]
      omega
  have h2 := this ((List.range ps.length).zip ps)
  rw [List.length_zip, List.length_range, Nat.min_self] at h2
  exact h2
theorem betweenC (H : Hd C) {w m : List Nat} {c : Nat} (hw : w.length ≤ 100) (hm : m.length ≤ 100) : CallR C (k + 2) (.ref 209) [.str (sL w), .str (sL m), .str (sL [c])] (.strs (betweenW w m c)) := by
  refine' CallR.fn (f := 209) (ids := [i_word, i_mirror, i_letter]) ?hl ?hcd rfl ?hb ?ok ?body
  case hl => rw [H.K]; exact rfl
  case hcd => rw [H.K]; kernel_rfl
  case hb => intro vs hv; obtain ⟨_, _, _, rfl⟩ := len3 hv; exact rfl
  case ok => exact DefOk.of (by decide +kernel)
  case body =>
  have hpl : (placesW w c).length ≤ w.length := by unfold placesW; exact Nat.le_trans (List.length_filter_le _ _) (by simp)
  have hlt : ∀ p ∈ placesW w c, p < w.length := fun p hp => List.mem_range.mp (List.mem_filter.mp hp).1
  have hpq := pairs_lt hlt
  have hlen := pairs_len (placesW w c)
  have hll : (placesW w c).length * (placesW w c).length ≤ 100 * 100 := Nat.mul_le_mul (by lia) (by lia)
  refine' Ex.step (Ex1.assign (i := i_size) (d := .int w.length) rfl (Ev.cast (Ev.call (x := Str.ofString "len") rfl (gb_len H) (.inl ⟨_, rfl⟩) (EvL.cons (Ev.name (i := i_word) (d := .str (sL w)) rfl (by walk_at "lk")) .nil) (CallR.len_str (by rw [sL_len]; lia))) ?c0) (.inr rfl) (fun _ _ => rfl)) ?r1
  case c0 => rw [sL_len]
  case r1 =>
  refine' Ex.step (Ex1.assign (i := i_places) (d := .list ((placesW w c).map fun j => .int (j : Nat))) rfl (Ev.compIf (List.range w.length) (fun (j : Nat) => [(i_k, .int j)]) (fun j => sL [w.getD j 0] == sL [c]) (fun j => .int j) [(i_word, .str (sL w)), (i_letter, .str (sL [c]))]
    (ItE.range1N (n := w.length) (z := w.length) rfl rfl (gb_range H) (Ev.name (i := i_size) (d := .int w.length) rfl (by walk_at "lk")) rfl (by lia)) (Sees.of [i_word, i_letter] ?s1 (fr_cons (by walk_at "lk") (fr_cons (by walk_at "lk") fr_nil))) ?l1 ?t1 ?e1 ?z1) (.inr rfl) (by walk_at "swp")) ?r2
  case s1 => decide +kernel
  case l1 => intro c _ p hp; rcases List.mem_singleton.mp hp with rfl; rfl
  case t1 =>
    intro j hj
    have hj' := List.mem_range.mp hj
    refine Tst.cmp (Ev.sub (d := .str (sL [w.getD j 0])) (Ev.name (i := i_word) (d := .str (sL w)) rfl (by walk_at "lk")) (Ev.name (i := i_k) (d := .int j) rfl (by walk_at "lk")) (by show "str" ≠ "?"; decide) F.slot_str_getitem.lookup (Op2.itemS (by lia) ?_ (by rw [sL_len]; lia))) (Ev.name (i := i_letter) (d := .str (sL [c])) rfl (by walk_at "lk")) Op2.eqS rfl
    simp [sL, List.getD_eq_getElem?_getD, hj']
  case e1 => intro j _ _; exact Ev.name (i := i_k) rfl (by walk_at "lk")
  case z1 => rw [List.length_range, sizeLine_eq]; lia
  case r2 =>
  refine' Ex.step (Ex1.assignComp2 ((List.range (placesW w c).length).zip (placesW w c)) (fun x => [(i_low, .int (x.2 : Nat)), (i_k, .int (x.1 : Nat))]) (fun x => (placesW w c).drop (x.1 + 1)) (fun _ hi => [(i_high, .int (hi : Nat))]) (fun x hi => .tup [.int (x.2 : Nat), .int (hi : Nat)]) [(i_places, .list ((placesW w c).map fun j => .int (j : Nat)))]
    (d := .list ((pairsL (placesW w c)).map fun p => .tup [.int (p.1 : Nat), .int (p.2 : Nat)])) (i := i_pairs) rfl ?it (Sees.of [i_places] ?s2 (fr_cons (by walk_at "lk") fr_nil)) ?l2 ?it2 ?l3 ?le ?e2 ?z2 rfl ?hd ?hsw) ?r3
  case it => exact ItE.enumL (placesW w c) (fun j => .int (j : Nat)) rfl rfl rfl (gb_enumerate H) (Ev.name (i := i_places) (d := .list ((placesW w c).map fun j => .int (j : Nat))) rfl (by walk_at "lk"))
  case s2 => decide +kernel
  case l2 =>
    intro x _ p hp
    rcases List.mem_cons.mp hp with rfl | hp
    · rfl
    · rcases List.mem_singleton.mp hp with rfl; rfl
  case it2 =>
    intro x hx
    refine ItE.ofL ((placesW w c).drop (x.1 + 1)) (fun j => D.int (j : Nat)) rfl (Ev.cast (Ev.slice (Ev.name (i := i_places) (d := .list ((placesW w c).map fun j => .int (j : Nat))) rfl (by walk_at "lk")) (.some (i := ((x.1 + 1 : Nat) : Int)) (Ev.cast (Ev.bin (Ev.name (i := i_k) (d := .int (x.1 : Nat)) rfl (by walk_at "lk")) Ev.int Op2.addI) (by push_cast; rfl))) .none .none (by show "list" ≠ "?"; decide) F.slot_list_getitem.lookup (SlR.list (by simp) (by rw [List.length_map]; lia))) ?_)
    rw [sliceL_from, List.map_drop]
  case l3 => intro x _ z _ p hp; rcases List.mem_singleton.mp hp with rfl; rfl
  case le => intro x _ z _; exact .cons (by walk_at "lk") (.cons (by walk_at "lk") (.cons (by walk_at "lk") .nil))
  case e2 => intro x _ z _; exact Ev.tuple (EvL.cons (Ev.name (i := i_low) (d := .int (x.2 : Nat)) rfl (by walk_at "lk")) (EvL.cons (Ev.name (i := i_high) (d := .int (z : Nat)) rfl (by walk_at "lk")) .nil)) (by show 2 ≤ sizeLine; decide)
  case hd =>
    refine congrArg D.list ?_
    unfold pairsL
    rw [List.map_flatMap]
    refine congrArg (fun f => List.flatMap f _) (funext fun x => ?_)
    rw [List.map_map]; rfl
  case z2 =>
    have : (((List.range (placesW w c).length).zip (placesW w c)).flatMap fun x => ((placesW w c).drop (x.1 + 1)).map fun hi => D.tup [.int (x.2 : Nat), .int (hi : Nat)]).length = (pairsL (placesW w c)).length := by
      unfold pairsL
      rw [List.length_flatMap, List.length_flatMap]
      simp
    rw [this, sizeLine_eq]; lia
  case hsw => walk_at "swp"
  case r3 =>
  refine' Ex.ret (Ev.cast (Ev.compIf (pairsL (placesW w c)) (fun p => [(i_high, .int (p.2 : Nat)), (i_low, .int (p.1 : Nat))]) (fun p => sL (cut w (p.1 + 1) p.2) == sL (cut m (w.length - p.2) (w.length - 1 - p.1))) (fun p => .str (sL (cut w (p.1 + 1) p.2))) [(i_word, .str (sL w)), (i_mirror, .str (sL m)), (i_size, .int w.length)]
    ?it3 (Sees.of [i_word, i_mirror, i_size] ?s3 (fr_cons (by walk_at "lk") (fr_cons (by walk_at "lk") (fr_cons (by walk_at "lk") fr_nil)))) ?l4 ?t3 ?e3 ?z3) ?c3) rfl
  case it3 => exact ItE.pairL (pairsL (placesW w c)) (fun p => .int (p.1 : Nat)) (fun p => .int (p.2 : Nat)) rfl rfl (Ev.name (i := i_pairs) (d := .list ((pairsL (placesW w c)).map fun p => .tup [.int (p.1 : Nat), .int (p.2 : Nat)])) rfl (by walk_at "lk"))
  case s3 => decide +kernel
  case l4 =>
    intro x _ p hp
    rcases List.mem_cons.mp hp with rfl | hp
    · rfl
    · rcases List.mem_singleton.mp hp with rfl; rfl
  case t3 =>
    intro p hp
    obtain ⟨q1, q2⟩ := hpq p hp
    exact Tst.cmp (Ev.cut (a := p.1 + 1) (b := p.2) (Ev.name (i := i_word) (d := .str (sL w)) rfl (by walk_at "lk")) (Ev.cast (Ev.bin (Ev.name (i := i_low) (d := .int (p.1 : Nat)) rfl (by walk_at "lk")) Ev.int Op2.addI) (by push_cast; rfl)) (Ev.name (i := i_high) (d := .int (p.2 : Nat)) rfl (by walk_at "lk")) (by lia))
      (Ev.cut (a := w.length - p.2) (b := w.length - 1 - p.1) (Ev.name (i := i_mirror) (d := .str (sL m)) rfl (by walk_at "lk")) (Ev.cast (Ev.bin (Ev.name (i := i_size) (d := .int w.length) rfl (by walk_at "lk")) (Ev.name (i := i_high) (d := .int (p.2 : Nat)) rfl (by walk_at "lk")) Op2.subI) (by congr 1; lia))
        (Ev.cast (Ev.bin (Ev.bin (Ev.name (i := i_size) (d := .int w.length) rfl (by walk_at "lk")) Ev.int Op2.subI) (Ev.name (i := i_low) (d := .int (p.1 : Nat)) rfl (by walk_at "lk")) Op2.subI) (by congr 1; lia)) (by lia)) Op2.eqS rfl
  case e3 =>
    intro p hp _
    exact Ev.cut (a := p.1 + 1) (b := p.2) (Ev.name (i := i_word) (d := .str (sL w)) rfl (by walk_at "lk")) (Ev.cast (Ev.bin (Ev.name (i := i_low) (d := .int (p.1 : Nat)) rfl (by walk_at "lk")) Ev.int Op2.addI) (by push_cast; rfl)) (Ev.name (i := i_high) (d := .int (p.2 : Nat)) rfl (by walk_at "lk")) (by lia)
  case z3 => rw [sizeLine_eq]; lia
  case c3 =>
    unfold betweenW D.strs
    rw [List.map_map, List.map_map]; rfl
end
end
local macro_rules | `(tactic| walk_at "swp") => `(tactic| (intro env he; first | rfl | exact (sole_eq _ _ _ _).trans (sw_cell (by unfold Env.kindOf; rw [he]; rfl)) | (unfold swapsWith Env.blockKind Env.kindOf; rw [he]; rfl)))
section
open PySem PySem.W PySem.Calls PyProof.Rows PySem.Builtin PySem.Builtin.ObjectAttr
section
variable {prog : Program} {w : World} {A : Around} {R : Result → Shared → Prop} {I : Addr} {fp wr : List Addr} {G : Array GenState → Array GenState → Prop} {n : Nat} {P : Nat → Value → Prop} {St : Nat → Shared → Prop}
noncomputable def metS (val : Nat → PySem.Str) (i : Nat) (k : PySem.Str) : Bool := ((List.range i).map val).any (· == k)
theorem metS_succ (val : Nat → PySem.Str) (i : Nat) (k : PySem.Str) : metS val (i + 1) k = (metS val i k || decide (k = val i)) := by
  unfold metS
  rw [List.range_succ, List.map_append, List.any_append]
  congr 1
  simp only [List.map_cons, List.map_nil, List.any_cons, List.any_nil, Bool.or_false]
  by_cases h : k = val i
  · subst h; simp
  · have : (val i == k) = false := by simpa using fun q => h (Eq.symm q)
    rw [this]; simp [h]
theorem set_update_strs (W : WalksS prog w A.in1 I fp wr G n P St) (S : Addr) (hSf : S ∉ fp)
    (val : Nat → PySem.Str) (hval : ∀ i v, P i v → ∃ t, v = .str (val i) t) (hb : n + 1 < scanBound) :
    ∀ (k i : Nat) (s : Shared) (m : Nat), m ≤ i → n - i = k → i ≤ n → St i s →
      s.heap.SetOf (strKind prog w) S (metS val i) m →
      (∀ s' m', Moved (S :: wr) G s s' → m' ≤ n → s'.heap.SetOf (strKind prog w) S (metS val n) m' → R (.ok (.ret .none)) s') →
      codeAny (model prog w) A (.builtin "set.update.loop" ⟨[.ref S, .ref I], []⟩) R s := by
  have hSw : S ∉ wr := fun h => hSf (W.sub _ h)
  have hsub : ∀ b ∈ wr, b ∈ S :: wr := fun b hb => List.mem_cons_of_mem _ hb
  intro k
  induction k with
  | zero =>
    intro i s m hm0 hk hi hst hS hR
    have hin : i = n := by lia
    subst hin
    refine codeAny_builtin F.entry_set_update_loop ?_
    rw [Around.under_plainId F.plain_set_update_loop _]
    show wpAny _ A.in1 (pyNext (.ref I) >>= _) _ _ s
    refine wpAny_bind (W.done s _ _ hst fun s' hm => ?_)
    show wpAny _ A.in1 (ret Value.none) _ _ s'
    exact wpAny_pure (hR s' m (hm.mono hsub) hm0 (by
      refine hid fun G hG => ?_
      obtain ⟨o, es, ep, t, ho, rest⟩ := hS
      refine hG ?_
      exact ⟨o, es, ep, t, hm.heap S _ hSw ho, rest⟩))
  | succ k ih =>
    intro i s m hm0 hk hi hst hS hR
    have hlt : i < n := by lia
    refine codeAny_builtin F.entry_set_update_loop ?_
    rw [Around.under_plainId F.plain_set_update_loop _]
    show wpAny _ A.in1 (pyNext (.ref I) >>= _) _ _ s
    refine wpAny_bind (W.item i s _ _ hlt hst fun v s' hP hst' hm => ?_)
    obtain ⟨t, rfl⟩ := hval i v hP
    have hS' : s'.heap.SetOf (strKind prog w) S (metS val i) m := by
      obtain ⟨o, es, ep, tb, ho, rest⟩ := hS
      exact ⟨o, es, ep, tb, hm.heap S _ hSw ho, rest⟩
    show wpAny _ A.in1 (holding [Value.str (val i) t] (setAdd S (.str (val i) t)) >>= _) _ _ s'
    refine wpAny_bind (wpAny_holding ?_)
    unfold setAdd
    refine wpAny_holding ?_
    refine wpAny_bind ((strKind prog w).pyHash (k := val i) (strKind_is _ _ _ _) ?_)
    have hroom : m + 1 < scanBound := by lia
    refine wpAny_setAddHashed_of (knd := strKind prog w) (s := { s' with toks := s'.toks + 1 }) (strKind_is _ _ _ _) rfl hS' hroom fun h' hsb hS2 => ?_
    have hSi := SetOf_congr (S' := metS val (i + 1)) hS2 (fun k' => by rw [metS_succ]) rfl
    refine wpAny_pure ⟨plainId_quiet F.plain_set_update_loop _, ih (i + 1) _ _ (by split <;> lia) (by lia) hlt (W.frame _ s' _ _ hst' (Nat.le_succ _) fun b hb o e => ?_) hSi fun s'' m'' hm'' hle'' hS'' => ?_⟩
    · rw [hsb.2 b (fun h : b = S => hSf (by rw [← h]; exact hb))]; exact e
    · refine hR s'' m'' (Moved.trans W.gtrans ((hm.mono hsub).then_heap (Nat.le_succ _) fun b o hb e => ?_) hm'') hle'' hS''
      rw [hsb.2 b (fun h : b = S => hb (by rw [h]; exact List.mem_cons_self))]; exact e
end
end
section
open PySem.Sem (wp)
open PySem.Builtin
section
variable {prog : Program} {w : World} {A : Around} {E : Value → Shared → Prop} {s : Shared}
set_option maxRecDepth 100000 in
set_option maxHeartbeats 3200000 in
theorem call_set_strs {l : Addr} {items : Array Value} {val : Nat → Str} {Q : Value → Shared → Prop}
    (hh : A.handled = none) (hl : s.heap.IsList l items) (hi : ∀ (i : Nat) (v : Value), items[i]? = some v → ∃ t, v = Value.str (val i) t) (hb : items.size + 1 < scanBound)
    (h : ∀ (h' : Heap) (tk m : Nat), m ≤ items.size → h'.SetOf (strKind prog w) s.heap.objs.size (Mine.metS val items.size) m →
      (∀ b o, b < s.heap.objs.size → s.heap.get? b = some o → h'.get? b = some o) → Q (.ref s.heap.objs.size) { s with heap := h', toks := tk }) :
    wpAny (model prog w) A (call (.type "set") [.ref l]) Q E s := by
  obtain ⟨c, tl, hmro⟩ := F.called_set.mro
  have hmade := F.called_set.made
  have hsub := F.called_set.sub
  refine wpAny_call (codeAny_of_tree ?_)
  show wpAny _ _ (callAny (.type "set") _) _ _ _
  refine wpAny_pure ⟨Code.quiet_builtin _ (by decide +kernel), codeAny_builtin F.entry_type_call ?_⟩
  rw [Around.under_plain (weight_type_call_type "set" [.ref l] []) rfl]
  have h1 := F.called_set.notType
  have h2 := F.called_set.canCreate
  have hct := F.typeCall_set_1 (.ref l)
  repeat (any_goals (first | assumption | wp_step))
  refine codeAny_mono (code_set_new_1 (.ref l) (E := E) (Q₁ := fun obj s₁ => ∃ led : Bool, obj = .ref s.heap.objs.size ∧ s₁ = { s with heap := s.heap.push { cls := .type "set", dict := none, data := .set #[] 0 (.fresh 0 0 led) } }) fun led => ⟨led, rfl, rfl⟩) fun r s₁ hr => ?_
  cases r with
  | error e => exact hr
  | ok fl =>
    cases fl with
    | ret obj =>
      obtain ⟨led, rfl, rfl⟩ := hr
      have hS : (s.heap.push { cls := .type "set", dict := none, data := .set #[] 0 (.fresh 0 0 led) }).get? s.heap.objs.size = some { cls := .type "set", dict := none, data := .set #[] 0 (.fresh 0 0 led) } := Heap.get?_push_size _ rfl
      have hT : Shared.TypeIs { s with heap := s.heap.push { cls := .type "set", dict := none, data := .set #[] 0 (.fresh 0 0 led) } } (.ref s.heap.objs.size) "set" := ⟨_, hS, rfl⟩
      have hli := F.called_set.init.lookup
      have hbi := F.called_set.init.bind (.ref s.heap.objs.size)
      repeat (any_goals (first | assumption | wp_step))
      refine codeAny_mono (codeAny_call_builtin (R := wants (fun r s₂ => r = .none ∧ ∃ h' tk, s₂ = { s with heap := h', toks := tk } ∧
          (∃ m, m ≤ items.size ∧ h'.SetOf (strKind prog w) s.heap.objs.size (Mine.metS val items.size) m) ∧
          (∀ b o, b < s.heap.objs.size → s.heap.get? b = some o → h'.get? b = some o)) E) F.called_set.init.plain F.entry_set_init (check_set_init_1 hT ?_)) fun r₂ s₂ hr₂ => ?_
      · refine hid fun G hG => ?_
        obtain ⟨ol, hol, hcl, nl, hdl⟩ := hl
        obtain ⟨ocls, odict, odata, oslots⟩ := ol
        simp only at hcl hdl
        subst hcl; subst hdl
        refine hG ?_
        have hol' : (s.heap.push { cls := .type "set", dict := none, data := .set #[] 0 (.fresh 0 0 led) }).get? l = some { cls := .type "list", dict := odict, data := .seq items nl, slots := oslots } := Heap.get?_push_of_some _ hol
        have hsls := F.sub_list_set
        have hslf := F.sub_list_frozenset
        have hne : (Value.type "list" == Value.type "dict") = false := by decide
        have hl1 : (s.heap.push { cls := .type "set", dict := none, data := .set #[] 0 (.fresh 0 0 led) }).IsList l items := ⟨_, hol', rfl, nl, rfl⟩
        unfold Builtin.«set.__init__» noKeywords Builtin.Frozenset.updateFrom
        generalize hPI : pyIter = PI
        wp_walk
        subst hPI
        refine wpAny_pyIter_list hl1 ?_
        refine wpAny_bind (wpAny_runValue ?_)
        have hlS : l < s.heap.objs.size := Heap.lt_size hol
        have hh3 : A.in1.in1.in1.handled = none := by simp [hh]
        have hneI : l ≠ (s.heap.push { cls := .type "set", dict := none, data := .set #[] 0 (.fresh 0 0 led) }).objs.size := by
          rw [Heap.size_push]; exact Nat.ne_of_lt (Nat.lt_succ_of_lt hlS)
        have hSf : s.heap.objs.size ∉ [(s.heap.push { cls := .type "set", dict := none, data := .set #[] 0 (.fresh 0 0 led) }).objs.size, l] := by
          rw [Heap.size_push]; simp only [List.mem_cons, List.mem_singleton, List.not_mem_nil, or_false, not_or]
          exact ⟨Nat.ne_of_lt (Nat.lt_succ_self _), Nat.ne_of_gt hlS⟩
        refine Mine.set_update_strs ((Walks.list hh3 _ l hneI items).toS) s.heap.objs.size
          hSf val hi hb (items.size - 0) 0 _ 0 (Nat.le_refl _) (by lia) (Nat.zero_le _)
          ⟨⟨_, Heap.get?_push_size _ rfl, rfl, rfl⟩, (hl1.push _)⟩ ?hS0 ?hR
        case hS0 =>
          have hget : ((s.heap.push { cls := .type "set", dict := none, data := .set #[] 0 (.fresh 0 0 led) }).push { cls := .type "list_iterator", data := .fields #[.ref l, .int 0 0] }).get? s.heap.objs.size
              = some { cls := .type "set", dict := none, data := .set #[] 0 (.fresh 0 0 led) } := Heap.get?_push_of_some _ hS
          exact PyProof.Rows.SetOf_congr ((PyProof.Rows.setObjOf_fresh (knd := strKind prog w) led).setOf hget (by unfold scanBound; lia)) (fun _ => rfl) rfl
        case hR =>
          intro s' m hm hle hS'
          obtain ⟨h', g', d', tk', os'⟩ := s'
          have eg : g' = s.gens := hm.gens
          have ed : d' = s.drawn := hm.drawn
          have eo : os' = s.os := hm.os
          subst eg; subst ed; subst eo
          show wpAny _ _ _ _ _ _
          refine wpAny_pure ?_
          show wpAny _ _ (ret Value.none) _ _ _
          refine wpAny_pure ⟨rfl, h', tk', rfl, ⟨m, hle, hS'⟩, fun b o hb e => ?_⟩
          have hb1 : b ≠ s.heap.objs.size := Nat.ne_of_lt hb
          have hb2 : b ≠ (s.heap.push { cls := .type "set", dict := none, data := .set #[] 0 (.fresh 0 0 led) }).objs.size := by
            rw [Heap.size_push]; exact Nat.ne_of_lt (Nat.lt_succ_of_lt hb)
          exact hm.heap b o (by simp only [List.mem_cons, List.mem_singleton, List.not_mem_nil, or_false, not_or]; exact ⟨hb1, hb2⟩) (Heap.get?_push_of_some _ (Heap.get?_push_of_some _ e))
      · cases r₂ with
        | error e => exact hr₂
        | ok fl₂ =>
          cases fl₂ with
          | ret r =>
            obtain ⟨rfl, h', tk, rfl, ⟨m, hle, hS'⟩, hk'⟩ := hr₂
            repeat (any_goals (first | assumption | wp_step))
            exact h _ _ m hle hS' hk'
          | _ => exact hr₂.elim
    | _ => exact hr.elim
end
end
section
open PySem PySem.W PySem.Calls PyProof.Rows PySem.Builtin PySem.Builtin.ObjectAttr
theorem setCo : typeLookup (.type "set") (Str.ofString "__contains__") = pure (some (.builtin "set.__contains__")) := by rw [typeLookup_type, builtinLookup_eq_fast]; kernel_rfl
theorem coKind : typeOf (.builtin "set.__contains__") = pure (.type "method_descriptor") := by kernel_rfl
theorem mdGet : typeLookup (.type "method_descriptor") (Str.ofString "__get__") = pure (some (.builtin "method_descriptor.__get__")) := by rw [typeLookup_type, builtinLookup_eq_fast]; kernel_rfl
theorem mdSet : typeLookup (.type "method_descriptor") (Str.ofString "__set__") = pure none := by rw [typeLookup_type, builtinLookup_eq_fast]; kernel_rfl
theorem mdDel : typeLookup (.type "method_descriptor") (Str.ofString "__delete__") = pure none := by rw [typeLookup_type, builtinLookup_eq_fast]; kernel_rfl
theorem mdSlot : Slot "method_descriptor" "__get__" "method_descriptor.__get__" :=
  .of (owner := "method_descriptor") (n := "__get__") (by rw [typeLookup_type, builtinLookup_eq_fast]; kernel_rfl) (by decide +kernel) (by decide +kernel) (by decide +kernel)
    (by first | exact .inl (by decide +kernel) | exact .inr (by decide +kernel)) (by rw [isSubtype_type]; kernel_rfl)
theorem mdEntry : entryFor table "method_descriptor.__get__" = some Builtin.«method_descriptor.__get__» := entryFor_of_tree (by kernel_rfl)
theorem mdArgs (a b c : Value) : argsOk "method_descriptor.__get__" ⟨[a, b, c], []⟩ := by unfold argsOk; kernel_rfl
theorem mdTold : Manifest.toldItsClass.contains "set.__contains__" = false := by decide +kernel
theorem mdSub : isSubtype (.type "set") (.type "set") = pure true := by rw [isSubtype_type]; kernel_rfl
variable {prog : Program} {w : World} {A : Around} {E : Value → Shared → Prop} {h : Heap} {g : Array GenState} {d : Drawn} {t : Nat} {os : OsState} {a : Addr} {o : Obj}
theorem getCo_entry {tk : Tok} {Q : Fin → Shared → Prop} {es : Array (Int × Value)} {ep : Nat} {tb : SetTable} {sl : Array (Option Value)} (hx : h.get? a = some { cls := .type "set", dict := none, data := .set es ep tb, slots := sl }) (hq : Q (.done (.ret (.ref h.objs.size))) ⟨h.push { cls := .type "builtin_function_or_method", data := .fields #[.builtin "set.__contains__", .ref a] }, g, d, t, os⟩) :
    wpAny (model prog w) A (Builtin.«object.__getattribute__» ⟨[.ref a, .str "__contains__" tk], []⟩) Q E ⟨h, g, d, t, os⟩ := by
  have hT : (⟨h, g, d, t, os⟩ : Shared).TypeIs (.ref a) "set" := ⟨_, hx, rfl⟩
  have f4 := setCo
  have f5 := coKind
  have f6 := mdGet
  have f7 := mdSet
  have f8 := mdDel
  repeat (any_goals (first | assumption | wp_step))
  have hT5 : (⟨h, g, d, t, os⟩ : Shared).TypeIs (.builtin "set.__contains__") "method_descriptor" := coKind
  refine codeAny_call_builtin mdSlot.plain mdEntry (mdSlot.check _ _ _ _ _ _ _ _ hT5 (mdArgs _ _ _) ?_)
  have f9 := mdTold
  have f10 := mdSub
  unfold Builtin.«method_descriptor.__get__»
  refine wpAny_bind (wpAny_of_eq (a := (Value.builtin "set.__contains__", some (Value.ref a), some (Value.type "set"))) (by rfl) ?_)
  dsimp only
  rw [f9]
  simp only [Bool.false_eq_true, if_false]
  refine wpAny_bind ?_
  refine wpAny_bind (wpAny_of_eq (a := (Str.ofString "__contains__", Value.type "set")) (by kernel_rfl) ?_)
  dsimp only
  refine wpAny_bind (wpAny_isInstance (b := true) (⟨_, hx, rfl⟩ : (⟨h, g, d, t, os⟩ : Shared).TypeIs (.ref a) "set") mdSub ?_)
  simp only [Bool.not_true, Bool.false_eq_true, if_false]
  refine wpAny_pure ?_
  refine wpAny_bind (wpAny_newObj_type (wpAny_pure ?_))
  exact wpAny_pure hq
theorem getCo {ex : Bool} {Q : Value → Shared → Prop} {es : Array (Int × Value)} {ep : Nat} {tb : SetTable} {sl : Array (Option Value)} (hx : h.get? a = some { cls := .type "set", dict := none, data := .set es ep tb, slots := sl })
    (hq : Q (.ref h.objs.size) ⟨h.push { cls := .type "builtin_function_or_method", data := .fields #[.builtin "set.__contains__", .ref a] }, g, d, t + 1, os⟩) :
    wpAny (model prog w) A (getAttr (.ref a) (Str.ofString "__contains__") ex) Q E ⟨h, g, d, t, os⟩ := by
  have hT : ∀ t', Shared.TypeIs ⟨h, g, d, t', os⟩ (.ref a) "set" := fun _ => ⟨_, hx, rfl⟩
  unfold getAttr getAttrBy
  refine wpAny_bind (wpAny_mkText (wpAny_holding (wpAny_bind (wpAny_typeOf (hT _) (wpAny_bind (wpAny_of_eq F.slot_set_getattribute.lookup ?_))))))
  show wpAny _ _ (getAttrByItsOwn (.ref a) (.str (Str.ofString "__contains__") t) (.type "set") (.builtin "set.__getattribute__") true ex) _ _ _
  unfold getAttrByItsOwn hookBefore callGetattribute boundAndCalled
  refine wpAny_bind (wpAny_of_eq (show (if onTheHeap (.type "set") then typeLookup (.type "set") "__getattr__" else pure none) = pure none from rfl) ?_)
  refine wpAny_bind (wpAny_attempt (wpAny_holding ?_))
  have e0 : (ex && onTheHeap (.builtin "set.__getattribute__")) = false := by simp [onTheHeap]
  rw [e0]
  show wpAny _ _ (bindSpecial (.builtin "set.__getattribute__") (.ref a) >>= _) _ _ _
  refine wpAny_bind (wpAny_of_eq (F.slot_set_getattribute.bind _) ?_)
  refine wpAny_mono (Q := fun u s' => u = .ref h.objs.size ∧ s' = ⟨h.push { cls := .type "builtin_function_or_method", data := .fields #[.builtin "set.__contains__", .ref a] }, g, d, t + 1, os⟩) (E := fun _ _ => False)
    (wpAny_call_entry F.slot_set_getattribute (hT _) F.entry_set_ga (getCo_entry hx ⟨_, rfl, rfl, rfl⟩) (F.args_set_getattribute_2 _ _)) (fun u s' hu => ?_) fun _ _ z => z.elim
  obtain ⟨rfl, rfl⟩ := hu
  exact wpAny_pure hq
end
section
open PySem PySem.W PySem.Calls PyProof.Rows
section
variable {M : Model} {A : Around} {E : Value → Shared → Prop} {s : Shared} {env : Env}
theorem wpD_execs_cons {st rest} {Q : Flow → Shared → Prop}
    (h : wpD M A (exec st env) (fun f s' => match f with | .next => wpD M A (execs rest env) Q E s' | f => Q f s') E s) : wpD M A (execs (st :: rest) env) Q E s := fun Γ p hΓ h1 h2 => by
  rw [execs_cons, Sem.wp_bind']
  refine Sem.wp_mono M Γ _ (fun f p' s' h' => ?_) (fun _ _ _ h' => h') _ _ (h Γ p hΓ h1 h2)
  cases f <;> first | exact h' Γ p' hΓ h1 h2 | exact h'
theorem wpD_callWith_type {pos : Pos} {T : String} {first : List Value} {args : List (Bool × Sem Value)} {Q : Value → Shared → Prop}
    (hplain : args.any (·.1) = false)
    (h : wpAny M A (evalArgs (.type T) true args []) (fun a s₁ => wpD M A (call (.type T) (first ++ a.pos) a.kw) Q E s₁) E s) :
    wpD M A (callWith pos (.type T) first args []) Q E s := by
  unfold callWith
  refine wpD_bindL (wpAny_holding (wpAny_mono h (fun a s₁ h₁ => wpD_bindL (wpAny_standAt ?_)) fun _ _ x => x))
  simp only [hplain, List.any_nil, Bool.or_false]
  refine wpD_bindL (wpAny_pure ?_)
  exact wpD_bindR (wpD_mono h₁ (fun r s₂ hr => wpAny_bind (wpAny_holding (wpAny_point (wpAny_pure hr)))) fun _ _ x => x)
theorem wpD_keep {α : Type} {vs : List Value} {m : Sem α} {Q : α → Shared → Prop} (h : wpD M A m Q E s) : wpD M A (m.keep vs) Q E s :=
  fun Γ p hΓ h1 h2 => by rw [Sem.wp_keep]; exact h Γ p hΓ h1 h2
theorem wpD_callWith_function {pos : Pos} {a : Addr} {o : Obj} {fd : FuncData} {first : List Value} {args : List (Bool × Sem Value)} {Q : Value → Shared → Prop}
    (h : wpAny M A (evalArgs (.ref a) true args []) (fun x s₁ => (s₁.heap.get? a = some o ∧ o.data = .func fd) ∧ wpD M A (call (.ref a) (first ++ x.pos) x.kw) Q E s₁) E s) :
    wpD M A (callWith pos (.ref a) first args []) Q E s := by
  unfold callWith
  refine wpD_bindL (wpAny_holding (wpAny_mono h (fun x s₁ h₁ => wpD_bindL (wpAny_standAt ?_)) fun _ _ x => x))
  have tail : ∀ {t : Sem Value}, wpD M A t Q E s₁ → wpD M A (t >>= fun r => holding [r] point >>= fun _ => pure r) Q E s₁ :=
    fun ht => wpD_bindR (wpD_mono ht (fun r s₂ hr => wpAny_bind (wpAny_holding (wpAny_point (wpAny_pure hr)))) fun _ _ x => x)
  cases hs : args.any (·.1) <;> simp only [List.any_nil, Bool.or_false] <;>
    refine wpD_bindL (m := keeperOf (.ref a)) ?_ <;> unfold keeperOf <;>
    refine wpAny_bind (wpAny_load h₁.1.1 ?_) <;> rw [h₁.1.2] <;> refine wpAny_pure ?_
  · dsimp only
    split
    · exact tail h₁.2
    · exact tail (by unfold callMarked; exact wpD_keep h₁.2)
  · dsimp only
    exact tail (by unfold callMarked; exact wpD_keep h₁.2)
theorem wpD_For {target iter body orelse pos} {Q : Flow → Shared → Prop}
    (h : wpAny M A (eval iter env) (fun x s₁ => wpAny M A (pyIter x) (fun it s₂ =>
      codeD M A (.forLoop target it body orelse env) (fun r s' => match r with | .ok f => Q f s' | .error e => cameBackBy M A env E e s') s₂) E s₁) E s)
    (hs : ∀ x, foldedSetIterable iter env x = pure x := by intro _; rfl) :
    wpD M A (exec (.For target iter body orelse pos) env) Q E s := by
  rw [exec_For]
  exact wpD_bindL (wpAny_standAt (wpD_bindL (wpAny_mono h (fun x s₁ h₁ => wpD_bindL (wpAny_of_eq (hs x) (wpD_bindL (wpAny_standAt (wpD_bindL (wpAny_holding
    (wpAny_mono h₁ (fun it s₂ h₂ => wpD_runOwn h₂) fun _ _ h' => h'))))))) fun _ _ h' => h')))
end
section
variable {prog : Program} {w : World} {A : Around} {E : Value → Shared → Prop} {s : Shared} {R : Result → Shared → Prop}
theorem codeD_builtin {id : String} {args : Args} {b : Builtin} (hf : fine (.builtin id args) = true) (hb : entryFor table id = some b)
    (h : wpD (model prog w) (A.under (.builtin id args)) (b args)
      (fun fin s' => match fin with | .done f => R (.ok f) s' | .again c' => c'.quiet = true ∧ codeD (model prog w) A c' R s') (fun e s' => R (.error e) s') s) :
    codeD (model prog w) A (.builtin id args) R s := by
  refine codeD_of_tree hf ?_
  show wpD _ _ (match entryFor table id with | some b => b args | none => unsupported ((withoutEnding? id "#data").getD id)) _ _ s
  rw [hb]; exact h
theorem codeD_func {body env}
    (h : wpD (model prog w) (A.deeper env) (execs body env) (fun f s' => R (.ok (.ret (match f with | .ret v => v | _ => .none))) s')
      (fun e s' => wpAny (model prog w) (A.deeper env) (leaving env e) (fun _ s'' => R (.error e) s'') (fun e' s'' => R (.error e') s'') s') s) :
    codeD (model prog w) A (.func body env) R s := by
  refine codeD_of_tree rfl ?_
  show wpD _ (A.deeper env) (do point; match ← (execs body env).onRaise (leaving env) with | .ret v => ret v | _ => ret .none) _ _ s
  refine wpD_bindL (wpAny_point (wpD_bindR ?_))
  have h' : wpD (model prog w) (A.deeper env) ((execs body env).onRaise (leaving env)) (fun f s' => R (.ok (.ret (match f with | .ret v => v | _ => .none))) s') (fun e s' => R (.error e) s') s := fun Γ p hΓ h1 h2 => by
    rw [Sem.wp_onRaise]
    exact Sem.wp_mono _ Γ _ (fun _ _ _ h' => h') (fun e p' s' h' => h' Γ p' hΓ) p s (h Γ p hΓ h1 h2)
  refine wpD_mono h' (fun f s' h' => ?_) fun _ _ h' => h'
  cases f <;> exact wpAny_pure h'
theorem codeD_call_function {a : Addr} {args : Args} {o : Obj} {fd : FuncData} {body : List Stmt} (hroom : A.depth < recursionLimit)
    (ho : s.heap.get? a = some o)
    (hd' : o.data = .func fd) (hco : fd.scope.isCoroutine = false) (hgen : fd.scope.isGenerator = false) (hbody : fd.body = .stmts body) (hcd : s.heap.CodeRec fd.code fd.qualname)
    (h : wpAny (model prog w) A.in1 (bindArgs fd args) (fun binds s₁ =>
      wpAny (model prog w) A.in1 (newFunctionEnv fd.scope fd.globals fd.closure binds (fd.qualname ++ ".<locals>.") (some a) fd.code none fd.builtins)
        (fun env s₂ => s₂.heap.NoLimit ∧ codeD (model prog w) A (.func body env) R s₂) (fun e s' => R (.error e) s') s₁) (fun e s' => R (.error e) s') s) :
    codeD (model prog w) A (.call (.ref a) args) R s := by
  refine codeD_of_tree rfl (wpD_of ?_)
  show wpAny _ A.in1 (callAny (.ref a) args) _ _ s
  simp only [callAny]
  refine wpAny_bind (wpAny_load ho ?_)
  obtain ⟨c, oc, vs, tq, hc, hoc, hdc, hq⟩ := hcd
  simp only [hd', callFunction, hco, hgen, hbody, hc]
  rw [hc] at h
  refine wpAny_bind (m := field (.ref c) 1) (wpAny_field hoc hdc hq (wpAny_bind (wpAny_pure ?_)))
  exact wpAny_bind (wpAny_mono h (fun binds s₁ h₁ => wpAny_bind (wpAny_mono h₁ (fun env s₂ h₂ => wpAny_bind (wpAny_enterFrame h₂.1 hroom
    (wpAny_pure (And.intro rfl h₂.2)))) fun _ _ h' => h')) fun _ _ h' => h')
theorem codeD_forLoop {target it body orelse env} (I : Nat → Shared → Prop)
    (turn : ∀ n s, I n s → wpAny (model prog w) A (pyNext it) (fun r s₁ => match r with
      | none => wpAny (model prog w) A (execs orelse env) (fun f s₃ => R (.ok f) s₃) (notedBy (model prog w) A env fun e s' => R (.error e) s') s₁
      | some v => wpAny (model prog w) A (letOwnedTupleGo target it v) (fun _ s₁' =>
          wpAny (model prog w) A (assign target env v) (fun _ s₂ => wpD (model prog w) A (execs body env) (fun f s₃ => match f with
            | .next | .cont => ∃ m, m < n ∧ I m s₃
            | .brk => R (.ok .next) s₃
            | .ret v => R (.ok (.ret v)) s₃) (notedBy (model prog w) A env fun e s' => R (.error e) s') s₂) (notedBy (model prog w) A env fun e s' => R (.error e) s') s₁') (notedBy (model prog w) A env fun e s' => R (.error e) s') s₁) (notedBy (model prog w) A env fun e s' => R (.error e) s') s)
    (n : Nat) (h : I n s) : codeD (model prog w) A (.forLoop target it body orelse env) R s := by
  refine codeD_loop' rfl rfl I (fun n s hI => ?_) n h
  show wpD _ A ((forTurn target it body orelse env).onRaise (fun x => do noteFrame x env; theTreesLotGoes x)) _ _ s
  refine wpD_noted ?_
  simp only [forTurn]
  refine wpD_bindL (wpAny_standAt (wpD_bindL (wpAny_onRaise (wpAny_mono (turn n s hI) (fun r s₁ h₁ => ?_) fun _ _ h' => wpAny_standAt h'))))
  cases r with
  | none => exact wpD_of (wpAny_pure (.inr ⟨rfl, codeD_of (codeAny_block h₁)⟩))
  | some v =>
    refine wpD_bindL (wpAny_mono h₁ (fun _ s₁' h₁' => ?_) fun _ _ h' => h')
    refine wpD_bindL (wpAny_mono h₁' (fun _ s₂ h₂ => wpD_bindR (wpD_mono h₂ (fun f s₃ h₃ => ?_) fun _ _ h' => h')) fun _ _ h' => h')
    cases f with
    | next => exact wpAny_pure (.inl ⟨rfl, h₃⟩)
    | cont => exact wpAny_pure (.inl ⟨rfl, h₃⟩)
    | brk => exact wpAny_pure h₃
    | ret v => exact wpAny_pure h₃
theorem typeFine {a : Args} : fine (.builtin "type.__call__" a) = true := by show (!lendIds.contains "type.__call__") = true; decide +kernel
theorem wpD_callType {T newId initId : String} {Bi : Builtin} {args : List Value} {Q Q₁ : Value → Shared → Prop} (ft : TypeCalled T newId initId) (hfi : ∀ a, fine (.builtin initId a) = true)
    (hct : checkTypeCall T ⟨args, []⟩ = pure ()) (entryI : entryFor table initId = some Bi)
    (hnew : codeAny (model prog w) A.in1 (.call (.builtin newId) ⟨.type T :: args, []⟩) (wants Q₁ E) s)
    (hnext : ∀ obj s₁, Q₁ obj s₁ → s₁.TypeIs obj T ∧ argsOk initId ⟨obj :: args, []⟩ ∧
      wpD (model prog w) A.in1.in1 (Bi ⟨obj :: args, []⟩) (fun fin s' => fin = .done (.ret .none) ∧ Q obj s') E s₁) :
    wpD (model prog w) A (call (.type T) args) Q E s := by
  obtain ⟨c, tl, hmro⟩ := ft.mro
  have hmade := ft.made
  have hsub := ft.sub
  refine wpD_call (codeD_of_tree rfl ?_)
  show wpD _ _ (callAny (.type T) _) _ _ _
  refine wpD_of (wpAny_pure ⟨Code.quiet_builtin _ (by decide +kernel), codeD_builtin typeFine F.entry_type_call ?_⟩)
  rw [Around.under_plain (weight_type_call_type T args []) rfl]
  have h1 := ft.notType
  have h2 := ft.canCreate
  unfold Builtin.«type.__call__»
  dsimp only
  rw [h1]
  simp only [Bool.false_eq_true, if_false]
  rw [h2]
  simp only [Bool.false_eq_true, if_false]
  refine wpD_bindL (wpAny_of_eq hct ?_)
  refine wpD_bindL (wpAny_of_eq hmro ?_)
  simp only [List.isEmpty_cons, Bool.false_eq_true, if_false]
  refine wpD_bindL (wpAny_of_eq hmade ?_)
  dsimp only
  refine wpD_bindL (wpAny_pure ?_)
  refine wpD_bindL (wpAny_holding (wpAny_call (codeAny_mono hnew fun r s₁ hr => ?_)))
  cases r with
  | error e => exact hr
  | ok fl =>
    cases fl with
    | ret obj =>
      obtain ⟨hT, hok, hsi⟩ := hnext _ _ hr
      dsimp only
      refine wpD_bindL (wpAny_isInstance (b := true) hT hsub ?_)
      simp only [Bool.not_true, Bool.false_eq_true, if_false]
      refine wpD_bind (wpD_holding ?_)
      simp only [callSpecial?]
      refine wpD_bindL (wpAny_specialOf hT ft.init.lookup ?_)
      simp only [ft.init.bind]
      refine wpD_holding (wpD_bindL (wpAny_pure (wpD_bindR (wpD_call (codeD_of_tree rfl ?_)))))
      show wpD _ _ (do checkBuiltinCall initId ⟨obj :: args, []⟩; again (.builtin initId ⟨obj :: args, []⟩)) _ _ _
      refine wpD_bindL (ft.init.check _ _ _ _ _ _ _ _ hT hok (wpD_of (wpAny_pure ⟨plainId_quiet ft.init.plain _, codeD_builtin (hfi _) entryI ?_⟩)))
      rw [Around.under_plainId ft.init.plain]
      refine wpD_mono hsi (fun fin s' h' => ?_) fun _ _ h' => h'
      obtain ⟨rfl, hq⟩ := h'
      refine wpAny_pure (wpD_of ?_)
      exact wpAny_pure hq
    | _ => exact hr.elim
end
end
section
open PySem PySem.W PySem.Calls PyProof.Rows PySem.Builtin PySem.Builtin.ObjectAttr
theorem flMro : mroOf (.type "filter") = pure [.type "filter", .type "object"] := by rw [mroOf_type]; kernel_rfl
theorem flNewL : typeLookup (.type "filter") "__new__" = pure (some (.builtin "filter.__new__")) := by rw [typeLookup_type, builtinLookup_eq_fast]; kernel_rfl
theorem flInit : Slot "filter" "__init__" "object.__init__" :=
  .of (owner := "object") (n := "__init__") (by rw [typeLookup_type, builtinLookup_eq_fast]; kernel_rfl) (by decide +kernel) (by decide +kernel) (by decide +kernel)
    (by first | exact .inl (by decide +kernel) | exact .inr (by decide +kernel)) (by rw [isSubtype_type]; kernel_rfl)
theorem flNext : Slot "filter" "__next__" "filter.__next__" :=
  .of (owner := "filter") (n := "__next__") (by rw [typeLookup_type, builtinLookup_eq_fast]; kernel_rfl) (by decide +kernel) (by decide +kernel) (by decide +kernel)
    (by first | exact .inl (by decide +kernel) | exact .inr (by decide +kernel)) (by rw [isSubtype_type]; kernel_rfl)
theorem flIter : Slot "filter" "__iter__" "filter.__iter__" :=
  .of (owner := "filter") (n := "__iter__") (by rw [typeLookup_type, builtinLookup_eq_fast]; kernel_rfl) (by decide +kernel) (by decide +kernel) (by decide +kernel)
    (by first | exact .inl (by decide +kernel) | exact .inr (by decide +kernel)) (by rw [isSubtype_type]; kernel_rfl)
theorem flNextE : entryFor table "filter.__next__" = some Builtin.«filter.__next__» := entryFor_of_tree (by kernel_rfl)
theorem flNewE : entryFor table "filter.__new__" = some Builtin.«filter.__new__» := entryFor_of_tree (by kernel_rfl)
theorem flIterE : entryFor table "filter.__iter__" = some Builtin.«dict_keyiterator.__iter__» :=
  entryFor_alias (id' := "dict_keyiterator.__iter__") (by kernel_rfl) (by first | rfl | decide +kernel | (unfold String.splitOn; simp +decide [String.splitOnAux])) (by decide +kernel) (by kernel_rfl)
theorem flNextA (a : Value) : argsOk "filter.__next__" ⟨[a], []⟩ := by unfold argsOk; kernel_rfl
theorem flIterA (a : Value) : argsOk "filter.__iter__" ⟨[a], []⟩ := by unfold argsOk; kernel_rfl
theorem flCalled : TypeCalled "filter" "filter.__new__" "object.__init__" :=
  ⟨by decide +kernel, by decide +kernel, ⟨_, _, flMro⟩, madeBy_type flMro flNewL (by decide +kernel), by decide +kernel, by rw [isSubtype_type]; kernel_rfl, flInit⟩
theorem flTc (a b : Value) : checkTypeCall "filter" ⟨[a, b], []⟩ = pure () := by kernel_rfl
theorem flNc (a b : Value) : checkBuiltinCall "filter.__new__" ⟨[.type "filter", a, b], []⟩ = pure () := by kernel_rfl
theorem flSub : isSubtype (.type "filter") (.type "filter") = pure true := by rw [isSubtype_type]; kernel_rfl
theorem flNoLen : typeLookup (.type "filter") "__len__" = pure none := by rw [typeLookup_type, builtinLookup_eq_fast]; kernel_rfl
theorem flNoHint : typeLookup (.type "filter") "__length_hint__" = pure none := by rw [typeLookup_type, builtinLookup_eq_fast]; kernel_rfl
noncomputable abbrev filO (B It : Addr) : Obj := { cls := .type "filter", dict := none, data := .fields #[.ref B, .ref It] }
noncomputable abbrev boundO (S : Addr) : Obj := { cls := .type "builtin_function_or_method", data := .fields #[.builtin "set.__contains__", .ref S] }
theorem meets_filter_new (B l : Addr) (xs : Array Value) :
    Meets (Builtin.«filter.__new__» ⟨[.type "filter", .ref B, .ref l], []⟩) (fun _ R s => s.heap.IsList l xs ∧
      R (.ok (.ret (.ref (s.heap.push { cls := .type "list_iterator", data := .fields #[.ref l, .int 0 0] }).objs.size))) { s with heap := (s.heap.push { cls := .type "list_iterator", data := .fields #[.ref l, .int 0 0] }).push (filO B s.heap.objs.size) }) :=
  .of_wp fun prog w A R s h => by
    obtain ⟨hp, g, d, tk, os⟩ := s; obtain ⟨hl1, h⟩ := h
    have hsub := flSub
    have hL1 : Heap.IsList (Shared.heap ⟨hp, g, d, tk, os⟩) l xs := hl1
    wp_walk using wpAny_pyIter_list hL1
    exact ⟨_, rfl, h⟩
section
variable {prog : Program} {w : World} {A : Around} {E : Value → Shared → Prop} {s : Shared}
theorem call_filter {B l : Addr} {xs : Array Value} {Q : Value → Shared → Prop} (hl : s.heap.IsList l xs)
    (h : ∀ h', h'.get? (s.heap.objs.size + 1) = some (filO B s.heap.objs.size) → h'.IsListIter s.heap.objs.size l 0 →
      (∀ c o, s.heap.get? c = some o → h'.get? c = some o) → Q (.ref (s.heap.objs.size + 1)) { s with heap := h' }) :
    wpAny (model prog w) A (call (.type "filter") [.ref B, .ref l]) Q E s := by
  refine callType_new flCalled (by decide) (flTc _ _) (flNc _ _) (fun obj => F.args_object_init_3 obj _ _) flNewE
    (meets_filter_new B l xs) ⟨hl, ?_⟩
  have hz : (s.heap.push { cls := .type "list_iterator", data := .fields #[.ref l, .int 0 0] }).objs.size = s.heap.objs.size + 1 := Heap.size_push ..
  have g2 : ((s.heap.push { cls := .type "list_iterator", data := .fields #[.ref l, .int 0 0] }).push (filO B s.heap.objs.size)).get? (s.heap.push { cls := .type "list_iterator", data := .fields #[.ref l, .int 0 0] }).objs.size = some (filO B s.heap.objs.size) := Heap.get?_push_size _ rfl
  rw [hz] at g2
  show _ ∧ _
  rw [hz]
  exact ⟨⟨_, g2, rfl⟩, h _ g2 ⟨_, Heap.get?_push_of_some _ (Heap.get?_push_size _ rfl), rfl, rfl⟩ fun c o x => Heap.get?_push_of_some _ (Heap.get?_push_of_some _ x)⟩
end
theorem setNotModule : isSubtype (.type "set") (.type "module") = pure false := by rw [isSubtype_type]; kernel_rfl
noncomputable abbrev coSig : Manifest.Signature := { machinery := .oneArg, full := "set.__contains__", short := "__contains__", receiver := .self, params := [{ name := "object", kind := .posOnly, required := true }] }
theorem coSigE : Manifest.signature? "set.__contains__" = some coSig := by kernel_rfl
theorem coKindE : builtinKind "set.__contains__" = some .method := by kernel_rfl
theorem coVar : Manifest.varargsMethods.contains "set.__contains__" = false := by decide +kernel
theorem coChk (a b : Value) : Bind.checkArgs "set.__contains__" { coSig with full := s!"{Bind.lastOf "set"}.{Bind.lastOf "set.__contains__"}" } ⟨[a, b], []⟩ = pure () := by kernel_rfl
section
variable {prog : Program} {w : World} {A : Around} {E : Value → Shared → Prop} {s : Shared}
theorem co_check {S : Addr} {v : Value} {o : Obj} {es ep tb} {Q : Unit → Shared → Prop} (ho : s.heap.get? S = some o) (hc : o.cls = .type "set") (hd : o.data = .set es ep tb) (h : Q () s) : wpAny (model prog w) A (checkBoundCall "set.__contains__" ⟨[.ref S, v], []⟩) Q E s := by
  have hT : s.TypeIs (.ref S) "set" := ⟨o, ho, hc⟩
  unfold checkBoundCall
  rw [coSigE]
  dsimp only
  rw [coKindE]
  dsimp only
  have e1 : (Manifest.AttrKind.method != Manifest.AttrKind.method && Manifest.AttrKind.method != Manifest.AttrKind.classMethod) = false := by decide
  rw [e1]
  simp only [Bool.false_eq_true, if_false]
  refine wpAny_bind (wpAny_isInstance hT setNotModule ?_)
  rw [coVar]
  simp only [Bool.false_or, Bool.or_self, Bool.false_eq_true, if_false]
  refine wpAny_bind ?_
  unfold isType
  refine wpAny_bind (wpAny_loadPart ho ?_)
  rw [hd]
  refine wpAny_pure ?_
  simp only [Bool.false_eq_true, if_false]
  refine wpAny_bind (wpAny_typeOf hT ?_)
  exact wpAny_of_eq (coChk _ _) h
theorem call_bound {B S : Addr} {x : PySem.Str} {t : Tok} {p : PySem.Str → Bool} {m : Nat} {Q : Value → Shared → Prop} (hB : s.heap.get? B = some (boundO S)) (hS : s.heap.SetOf (strKind prog w) S p m)
    (h : Q (.bool (p x)) { s with toks := s.toks + 1 }) : wpAny (model prog w) A (call (.ref B) [.str x t]) Q E s := by
  refine wpAny_call (codeAny_of_tree ?_)
  show wpAny _ _ (callAny (.ref B) _) _ _ _
  unfold callAny
  refine wpAny_bind (wpAny_load hB ?_)
  have hS' := hS
  refine hid fun G hG => ?_
  obtain ⟨o, es, ep, tb, ho, ⟨hc, _⟩, hd, _⟩ := hS'
  refine hG ?_
  show wpAny _ _ (do checkBoundCall "set.__contains__" ⟨[.ref S, .str x t], []⟩; again (.builtin "set.__contains__" ⟨[.ref S, .str x t], []⟩)) _ _ _
  refine wpAny_bind (co_check ho hc hd (wpAny_pure ⟨plainId_quiet F.slot_set_contains.plain _, codeAny_builtin entry_set_contains ?_⟩))
  rw [Around.under_plainId F.slot_set_contains.plain _]
  unfold Builtin.«frozenset.__contains__» Builtin.Frozenset.oneOther
  simp only [List.isEmpty_nil, bind_assoc]
  unfold Builtin.Frozenset.addrOf Builtin.Frozenset.withSetAsKey setContains
  refine wpAny_bind (wpAny_pure ?_)
  try dsimp only
  refine wpAny_bind (wpAny_pure ?_)
  try dsimp only
  refine wpAny_bind (wpAny_tryCatch ?_)
  refine wpAny_holding ?_
  refine wpAny_bind ((strKind prog w).pyHash (k := x) (strKind_is _ _ _ _) ?_)
  refine wpAny_bind (wpAny_setFind_of (s := { s with toks := s.toks + 1 }) (strKind_is _ _ _ _) rfl hS fun r hr => ?_)
  refine wpAny_pure ?_
  show wpAny _ _ (ret (Value.bool r.isSome)) _ _ _
  rw [hr]
  exact wpAny_pure h
end
structure FilAt (prog : Program) (w : World) (Fa B It L S : Addr) (l : List (PySem.Str × Tok)) (p : PySem.Str → Bool) (m j : Nat) (h : Heap) : Prop where
  f : h.get? Fa = some (filO B It)
  b : h.get? B = some (boundO S)
  it : h.IsListIter It L j
  l : h.IsList L (strValues l).toArray
  s : h.SetOf (strKind prog w) S p m
theorem FilAt.frame {prog : Program} {w : World} {Fa B It L S : Addr} {l : List (PySem.Str × Tok)} {p : PySem.Str → Bool} {m j : Nat} {h h' : Heap} (x : FilAt prog w Fa B It L S l p m j h) (k : ∀ b ∈ [Fa, B, It, L, S], ∀ o, h.get? b = some o → h'.get? b = some o) : FilAt prog w Fa B It L S l p m j h' := by
  refine ⟨k _ (by simp) _ x.f, k _ (by simp) _ x.b, x.it.at fun o e => k _ (by simp) o e, ?_, ?_⟩
  · obtain ⟨o, e, r⟩ := x.l; exact ⟨o, k _ (by simp) _ e, r⟩
  · obtain ⟨o, es, ep, tb, ho, r⟩ := x.s; exact ⟨o, es, ep, tb, k _ (by simp) _ ho, r⟩
theorem FilAt.ne {prog : Program} {w : World} {Fa B It L S : Addr} {l : List (PySem.Str × Tok)} {p : PySem.Str → Bool} {m j : Nat} {h : Heap} (x : FilAt prog w Fa B It L S l p m j h) : Fa ≠ It ∧ B ≠ It ∧ L ≠ It ∧ S ≠ It := by
  refine hid fun G hG => ?_
  obtain ⟨o, e, hc, _⟩ := x.it
  refine hG ?_
  refine ⟨fun q => ?_, fun q => ?_, fun q => ?_, fun q => ?_⟩
  · have := x.f; rw [q, e] at this; cases this; exact absurd hc (by simp)
  · have := x.b; rw [q, e] at this; cases this; exact absurd hc (by simp)
  · obtain ⟨o', e', hc', _⟩ := x.l; rw [q, e] at e'; cases e'; rw [hc] at hc'; exact absurd hc' (by simp)
  · obtain ⟨o', _, _, _, e', ⟨hc', _⟩, _⟩ := x.s; rw [q, e] at e'; cases e'; rw [hc] at hc'; exact absurd hc' (by simp)
theorem FilAt.next {prog : Program} {w : World} {Fa B It L S : Addr} {l : List (PySem.Str × Tok)} {p : PySem.Str → Bool} {m j j' : Nat} {h h' : Heap} (x : FilAt prog w Fa B It L S l p m j h) (i : h'.IsListIter It L j') (k : Heap.SameBut It h h') : FilAt prog w Fa B It L S l p m j' h' := by
  refine hid fun G hG => ?_
  obtain ⟨n1, n2, n3, n4⟩ := x.ne
  refine hG ?_
  refine ⟨(k.2 _ n1).trans x.f, (k.2 _ n2).trans x.b, i, ?_, ?_⟩
  · obtain ⟨o, e, r⟩ := x.l; exact ⟨o, (k.2 _ n3).trans e, r⟩
  · obtain ⟨o, es, ep, tb, ho, r⟩ := x.s; exact ⟨o, es, ep, tb, (k.2 _ n4).trans ho, r⟩
section
variable {prog : Program} {w : World} {A : Around} {E : Value → Shared → Prop}
theorem cs_item {s : Shared} {it l : Addr} {i : Nat} {items} {x : Value} {Q : Option Value → Shared → Prop} (hit : s.heap.IsListIter it l i)
    (hl : s.heap.IsList l items) (hx : items[i]? = some x)
    (hQ : ∀ h', h'.IsListIter it l (i + 1) → Heap.SameBut it s.heap h' → Q (some x) { s with heap := h' }) :
    wpAny (model prog w) A (callSpecial? (.ref it) (Str.ofString "__next__")) Q E s := by
  refine hid fun G hG => ?_
  obtain ⟨o, ho, hc, hd⟩ := id hit
  obtain ⟨ol, hol, _, nl, hdl⟩ := hl
  refine hG ?_
  refine wpAny_callSpecial?_slot (name := Str.ofString "__next__") hit.typeIs slot_listiter_next
    (wpAny_call_entry slot_listiter_next hit.typeIs entry_listiter_next ?_ (args_listiter_next _))
  show wpAny _ _ (field (.ref it) 0 >>= _) _ _ s
  refine wpAny_bind (wpAny_field ho hd (x := .ref l) rfl ?_)
  show wpAny _ _ (if (Value.ref l == Value.none) = true then _ else _) _ _ s
  rw [if_neg (show ¬ ((Value.ref l == Value.none) = true) from Bool.false_ne_true)]
  show wpAny _ _ (field (.ref it) 1 >>= _) _ _ s
  refine wpAny_bind (wpAny_field ho hd (x := .int i 0) rfl ?_)
  show wpAny _ _ (seqItems? (.ref l) >>= _) _ _ s
  refine wpAny_bind (wpAny_seqItems hol hdl ?_)
  simp only [Int.toNat_natCast, hx]
  refine wpAny_bind (wpAny_setField ho hd (by simp) (wpAny_pure ⟨x, rfl, hQ _ ?_ (Heap.SameBut.update ..)⟩))
  exact ⟨_, Heap.get?_update_self _ ho (Obj.isFreed_of_fields (Obj.data_mapFields hd _)), (Obj.cls_mapFields ..).trans hc, by
    rw [Obj.data_mapFields hd]; simp [rawInt]⟩
theorem cs_end {s : Shared} {it l : Addr} {i : Nat} {items} {Q : Option Value → Shared → Prop} (hh : A.handled = none)
    (hit : s.heap.IsListIter it l i) (hl : s.heap.IsList l items) (hx : items[i]? = none)
    (hE : ∀ h' e, Heap.ExtBut it s.heap h' → (∃ o, h'.get? e = some o ∧ o.cls = .type "StopIteration") → E (.ref e) { s with heap := h' }) :
    wpAny (model prog w) A (callSpecial? (.ref it) (Str.ofString "__next__")) Q E s := by
  refine hid fun G hG => ?_
  obtain ⟨o, ho, hc, hd⟩ := id hit
  obtain ⟨ol, hol, _, nl, hdl⟩ := hl
  refine hG ?_
  refine wpAny_callSpecial?_slot (name := Str.ofString "__next__") hit.typeIs slot_listiter_next
    (wpAny_call_entry slot_listiter_next hit.typeIs entry_listiter_next ?_ (args_listiter_next _))
  show wpAny _ _ (field (.ref it) 0 >>= _) _ _ s
  refine wpAny_bind (wpAny_field ho hd (x := .ref l) rfl ?_)
  show wpAny _ _ (if (Value.ref l == Value.none) = true then _ else _) _ _ s
  rw [if_neg (show ¬ ((Value.ref l == Value.none) = true) from Bool.false_ne_true)]
  show wpAny _ _ (field (.ref it) 1 >>= _) _ _ s
  refine wpAny_bind (wpAny_field ho hd (x := .int i 0) rfl ?_)
  show wpAny _ _ (seqItems? (.ref l) >>= _) _ _ s
  refine wpAny_bind (wpAny_seqItems hol hdl ?_)
  simp only [Int.toNat_natCast, hx]
  refine wpAny_bind (wpAny_rule (wpAny_bind (wpAny_setField ho hd (by simp) ?_)))
  show wpAny _ _ (newExc (.type "StopIteration") [] >>= _) _ _ _
  refine wpAny_bind ?_
  simp only [newExc, newTuple]
  refine wpAny_bind (wpAny_newObj_type ?_ (by size_fits))
  refine wpAny_bind (m := firstArgMember _ _) (wpAny_of_eq (a := Value.none) (by first | rfl | (simp only [firstArgMember]; rfl)) ?_)
  refine wpAny_newObj_type ?_ (by size_fits)
  simp only [raiseNew]
  refine wpAny_bind (wpAny_handled ?_)
  first | rw [show A.in1.handled = none from hh] | rw [hh]
  refine wpAny_bind (wpAny_pure (wpAny_throw ?_))
  exact hE _ _ (((Heap.SameBut.update ..).extBut.push _).push _) ⟨_, Heap.get?_push_size _ rfl, rfl⟩
noncomputable abbrev kept (l : List (PySem.Str × Tok)) (p : PySem.Str → Bool) : List (PySem.Str × Tok) := l.filter fun x => p x.1
theorem kept_take {l : List (PySem.Str × Tok)} {p : PySem.Str → Bool} {j : Nat} {x : PySem.Str} {t : Tok} (h : l[j]? = some (x, t)) : kept (l.take (j + 1)) p = kept (l.take j) p ++ if p x = true then [(x, t)] else [] := by
  unfold kept
  rw [List.take_add_one, h, List.filter_append]
  simp only [Option.toList_some, List.filter_cons, List.filter_nil]
theorem fil_code {R : Result → Shared → Prop} {Fa B It L S : Addr} {l : List (PySem.Str × Tok)} {p : PySem.Str → Bool} {m : Nat} (hh : A.handled = none) : ∀ (n j : Nat) (s : Shared), l.length - j = n → FilAt prog w Fa B It L S l p m j s.heap →
    (∀ j' x t h' tk, l[j']? = some (x, t) → p x = true → (kept (l.take j') p).length = (kept (l.take j) p).length → FilAt prog w Fa B It L S l p m (j' + 1) h' → Heap.SameBut It s.heap h' → s.toks ≤ tk → R (.ok (.ret (.str x t))) { s with heap := h', toks := tk }) →
    (∀ h' e tk, (kept (l.take j) p).length = (kept l p).length → Heap.ExtBut It s.heap h' → (∃ o, h'.get? e = some o ∧ o.cls = .type "StopIteration") → s.toks ≤ tk → R (.error (.ref e)) { s with heap := h', toks := tk }) →
    codeAny (model prog w) A (.builtin "filter.__next__" ⟨[.ref Fa], []⟩) R s := by
  intro n
  induction n with
  | zero =>
    intro j s hn x hR hE
    refine codeAny_builtin flNextE ?_
    rw [Around.under_plainId flNext.plain _]
    show wpAny _ A.in1 (field (.ref Fa) 0 >>= _) _ _ s
    refine wpAny_bind (wpAny_field x.f rfl (x := .ref B) rfl ?_)
    refine wpAny_bind (wpAny_field x.f rfl (x := .ref It) rfl ?_)
    refine wpAny_bind (cs_end hh x.it x.l ?_ fun h' e hk he => ?_)
    · have : (strValues l).length ≤ j := by unfold strValues; rw [List.length_map]; omega
      simpa using this
    · exact hE h' e s.toks (by rw [List.take_of_length_le (by omega)]) hk he (Nat.le_refl _)
  | succ n ih =>
    intro j s hn x hR hE
    have hj : j < l.length := by omega
    obtain ⟨⟨y, t⟩, hy⟩ : ∃ q, l[j]? = some q := ⟨_, List.getElem?_eq_getElem hj⟩
    refine codeAny_builtin flNextE ?_
    rw [Around.under_plainId flNext.plain _]
    show wpAny _ A.in1 (field (.ref Fa) 0 >>= _) _ _ s
    refine wpAny_bind (wpAny_field x.f rfl (x := .ref B) rfl ?_)
    refine wpAny_bind (wpAny_field x.f rfl (x := .ref It) rfl ?_)
    refine wpAny_bind (cs_item x.it x.l (x := .str y t) ?_ fun h' hit hk => ?_)
    · unfold strValues; simp [hy]
    have x' := x.next hit hk
    dsimp only
    refine wpAny_bind (wpAny_holding ?_)
    have e1 : (Value.ref B == Value.none || Value.ref B == Value.type "bool") = false := rfl
    rw [e1]
    simp only [Bool.false_eq_true, if_false]
    refine wpAny_bind (call_bound (s := { s with heap := h' }) x'.b x'.s (wpAny_holding (wpAny_truthy_bool ?_)))
    cases hp : p y with
    | true =>
      simp only [if_true]
      exact wpAny_pure (hR j y t h' (s.toks + 1) hy hp rfl x' hk (Nat.le_succ _))
    | false =>
      simp only [Bool.false_eq_true, if_false]
      have ht : kept (l.take (j + 1)) p = kept (l.take j) p := by rw [kept_take hy, hp]; simp
      refine wpAny_pure ⟨plainId_quiet flNext.plain _, ih (j + 1) _ (by omega) x' (fun j' z t' h2 tk h1 h3 h4 h5 h6 h7 => ?_) fun h2 e tk h1 h3 h4 h5 => ?_⟩
      · exact hR j' z t' h2 tk h1 h3 (h4.trans (by rw [ht])) h5 (hk.trans h6) (Nat.le_trans (Nat.le_succ _) h7)
      · exact hE h2 e tk (by rw [← ht]; exact h1) (fun b o hb e => h3 b o hb ((hk.2 b hb).trans e)) h4 (Nat.le_trans (Nat.le_succ _) h5)
end
section
variable {prog : Program} {w : World} {A : Around} {E : Value → Shared → Prop}
noncomputable abbrev FilSt (prog : Program) (w : World) (Fa B It L S : Addr) (l : List (PySem.Str × Tok)) (p : PySem.Str → Bool) (m i : Nat) (s : Shared) : Prop := ∃ j, (kept (l.take j) p).length = i ∧ FilAt prog w Fa B It L S l p m j s.heap
noncomputable abbrev FilP (l : List (PySem.Str × Tok)) (p : PySem.Str → Bool) (i : Nat) (v : Value) : Prop := ∃ x t, (kept l p)[i]? = some (x, t) ∧ v = .str x t
theorem kept_at {l : List (PySem.Str × Tok)} {p : PySem.Str → Bool} {j : Nat} {x : PySem.Str} {t : Tok} (h : l[j]? = some (x, t)) (hp : p x = true) : (kept l p)[(kept (l.take j) p).length]? = some (x, t) := by
  have e : kept l p = kept (l.take (j + 1)) p ++ kept (l.drop (j + 1)) p := by unfold kept; rw [← List.filter_append, List.take_append_drop]
  rw [e, kept_take h, hp]
  simp
theorem filW {Fa B It L S : Addr} {l : List (PySem.Str × Tok)} {p : PySem.Str → Bool} {m : Nat} (hh : A.handled = none) :
    WalksS prog w A Fa [Fa, B, It, L, S] [It] (fun a b => b = a) (kept l p).length (FilP l p) (FilSt prog w Fa B It L S l p m) where
  sub := fun b hb => by rcases List.mem_singleton.mp hb with rfl; simp
  grefl := fun _ => rfl
  gtrans := fun _ _ _ h1 h2 => h2.trans h1
  frame := fun i s h' tk ⟨j, hj, x⟩ _ hk => ⟨j, hj, x.frame hk⟩
  item := fun i s Q E hi ⟨j, hj, x⟩ hQ => by
    have hT : s.TypeIs (.ref Fa) "filter" := ⟨_, x.f, rfl⟩
    unfold pyNext
    refine wpAny_bind (wpAny_attempt (wpAny_callSpecial?_slot (name := Str.ofString "__next__") hT flNext (wpAny_call (codeAny_call_builtin_code (plainId_quiet flNext.plain _) (flNext.check _ _ _ _ _ _ _ _ hT (flNextA _) (fil_code hh _ j s rfl x (fun j' y t h' tk h1 h2 h3 h4 h5 h6 => ?_) fun h' e tk h1 h2 h3 h4 => ?_))))))
    · refine wpAny_pure (hQ _ _ ⟨y, t, ?_, rfl⟩ ⟨j' + 1, ?_, h4⟩ ⟨fun b o hb e => (h5.2 b fun q => hb (List.mem_singleton.mpr q)).trans e, rfl, rfl, rfl, h6⟩)
      · rw [← hj, ← h3]; exact kept_at h1 h2
      · rw [kept_take h1, h2]; simp; rw [h3, hj]
    · exfalso; rw [hj] at h1; lia
  done := fun s Q E ⟨j, hj, x⟩ hQ => by
    have hT : s.TypeIs (.ref Fa) "filter" := ⟨_, x.f, rfl⟩
    unfold pyNext
    refine wpAny_bind (wpAny_attempt (wpAny_callSpecial?_slot (name := Str.ofString "__next__") hT flNext (wpAny_call (codeAny_call_builtin_code (plainId_quiet flNext.plain _) (flNext.check _ _ _ _ _ _ _ _ hT (flNextA _) (fil_code hh _ j s rfl x (fun j' y t h' tk h1 h2 h3 h4 h5 h6 => ?_) fun h' e tk h1 h2 h3 h4 => ?_))))))
    · exfalso
      have h7 := kept_at h1 h2
      rw [h3, hj, List.getElem?_eq_none (Nat.le_refl _)] at h7
      cases h7
    · obtain ⟨o, ho, hc⟩ := h3
      refine wpAny_bind (wpAny_isInstance (T := "StopIteration") (b := true) ⟨o, ho, hc⟩ isSubtype_stop ?_)
      exact wpAny_pure (hQ _ ⟨fun b o hb e => h2 b o (fun q => hb (List.mem_singleton.mpr q)) e, rfl, rfl, rfl, h4⟩)
  self := fun i s Q E ⟨j, hj, x⟩ hQ => by
    have hT : s.TypeIs (.ref Fa) "filter" := ⟨_, x.f, rfl⟩
    refine wpAny_pyIter_slot hT flIter (wpAny_call_entry flIter hT flIterE ?_ (flIterA _))
    show wpAny _ _ (ret (.ref Fa)) _ _ s
    exact wpAny_pure ⟨_, rfl, "filter", _, hT, flNext.lookup, hQ⟩
end
section
variable {prog : Program} {w : World} {A : Around} {s : Shared} {R : Result → Shared → Prop}
variable {I : Addr} {fp wr : List Addr} {G : Array GenState → Array GenState → Prop} {n : Nat} {P : Nat → Value → Prop} {St : Nat → Shared → Prop}
theorem extend_fil (W : WalksS prog w A.in1 I fp wr G n P St) (hT : ∀ i s, St i s → s.TypeIs (.ref I) "filter") (S : Addr) (res : Value) (c₀ : Nat) (hst : St 0 s) (hSf : S ∉ fp) (hI : I ∈ fp)
    (hS : s.heap.get? S = some { cls := .type "list", data := .seq #[] c₀ })
    (hR : ∀ s' acc' c', Moved (S :: wr) G s s' → s'.heap.get? S = some { cls := .type "list", dict := none, data := .seq acc' c', slots := #[] } → ItemsOf P acc' n → R (.ok (.ret res)) s') (hn : n ≤ sizeLine) :
    wpAny (model prog w) A.in1 (Builtin.List.listExtendWith (.ref S) (.ref I) res)
      (fun fin s' => match fin with | .done f => R (.ok f) s' | .again c' => c'.quiet = true ∧ codeAny (model prog w) A c' R s') (fun e s' => R (.error e) s') s := by
  have hSI : S ≠ I := fun e => hSf (e ▸ hI)
  unfold Builtin.List.listExtendWith
  refine wpAny_bind (wpAny_typeOf (hT 0 _ hst) ?_)
  have h1 : Builtin.List.listSameRef (.ref S) (.ref I) = false := by simp [Builtin.List.listSameRef, hSI]
  have h2 : (Value.type "filter" == Value.type "list") = false := by decide
  have h3 : (Value.type "filter" == Value.type "tuple") = false := by decide
  simp only [h1, h2, h3, Bool.or_false, Bool.false_eq_true, if_false]
  refine wpAny_bind (W.self 0 _ _ _ hst ?_)
  refine wpAny_bind (wpAny_holding ?_)
  unfold Builtin.List.listLengthHint
  refine wpAny_bind (wpAny_specialOf (hT 0 _ hst) flNoLen ?_)
  show wpAny _ A.in1 (specialOf (Value.ref I) (Str.ofString "__length_hint__") >>= _) _ _ _
  refine wpAny_bind (wpAny_specialOf (hT 0 _ hst) flNoHint ?_)
  refine wpAny_pure ?_
  show wpAny _ A.in1 (rule "list.extend.makes-room" >>= fun _ => Builtin.List.listTouch (.ref S) >>= fun _ =>
    again (.builtin "list.extend.loop" ⟨[.ref S, .ref I, res], []⟩)) _ _ _
  refine wpAny_bind (wpAny_rule ?_)
  refine wpAny_bind ?_
  show wpAny _ A.in1 (updateSeq S (·.push .none) >>= fun _ => updateSeq S (·.pop)) _ _ _
  refine wpAny_bind (wpAny_updateSeq hS rfl ?_)
  have hS₂ := Heap.get?_update_self (Obj.mapSeq (·.push Value.none)) hS rfl
  refine wpAny_updateSeq (hz := by seq_fits) hS₂ rfl ?_
  have hS₃ := Heap.get?_update_self (Obj.mapSeq (·.pop)) hS₂ rfl
  have oth : ∀ b o, b ≠ S → s.heap.get? b = some o → ((s.heap.update S (Obj.mapSeq (·.push Value.none))).update S (Obj.mapSeq (·.pop))).get? b = some o :=
    fun b o hb e => (Heap.get?_update_other _ _ (Ne.symm hb)).trans ((Heap.get?_update_other _ _ (Ne.symm hb)).trans e)
  refine wpAny_pure ⟨plainId_quiet F.plain_extend_loop _, codeAny_extend_loopS W hn _ hSf _ n 0 _ _ _ rfl (Nat.zero_le _)
    (W.frame 0 s _ s.toks hst (Nat.le_refl _) fun b hb o e => oth b o (fun h => hSf (h ▸ hb)) e) hS₃ (ItemsOf.nil P) fun s' acc' c' hm hS' hacc => ?_⟩
  exact hR s' acc' c' (Moved.trans W.gtrans ((Moved.refl W.grefl).then_heap (Nat.le_refl _) fun b o hb e => oth b o (fun h => hb (h ▸ List.mem_cons_self)) e) hm) hS' hacc
theorem list_init_fil (W : WalksS prog w A.in1 I fp wr G n P St) (hT : ∀ i s, St i s → s.TypeIs (.ref I) "filter") (S : Addr) (hst : St 0 s) (hSf : S ∉ fp) (hI : I ∈ fp)
    (hS : s.heap.get? S = some { cls := .type "list", data := .seq #[] })
    (hR : ∀ s' acc' c', Moved (S :: wr) G s s' → s'.heap.get? S = some { cls := .type "list", dict := none, data := .seq acc' c', slots := #[] } → ItemsOf P acc' n → R (.ok (.ret .none)) s') (hn : n ≤ sizeLine) :
    wpAny (model prog w) A.in1 (Builtin.«list.__init__» ⟨[.ref S, .ref I], []⟩)
      (fun fin s' => match fin with | .done f => R (.ok f) s' | .again c' => c'.quiet = true ∧ codeAny (model prog w) A c' R s') (fun e s' => R (.error e) s') s := by
  show wpAny _ A.in1 (do let old ← Builtin.List.listItems (.ref S); Builtin.List.listUpdate (.ref S) (fun _ => #[]); letGo old.toList.reverse; Builtin.List.listExtendWith (.ref S) (.ref I) .none) _ _ s
  refine wpAny_bind ?_
  unfold Builtin.List.listItems
  refine wpAny_bind (wpAny_seqItems hS rfl (wpAny_pure ?_))
  show wpAny _ A.in1 (updateSeq S (fun _ => #[]) >>= fun _ => letGo (#[] : Array Value).toList.reverse >>= fun _ => Builtin.List.listExtendWith (.ref S) (.ref I) .none) _ _ s
  refine wpAny_bind (wpAny_updateSeq hS rfl ?_)
  have hS₂ := Heap.get?_update_self (Obj.mapSeq (fun _ => (#[] : Array Value))) hS rfl
  have oth : ∀ b o, b ≠ S → s.heap.get? b = some o → (s.heap.update S (Obj.mapSeq (fun _ => (#[] : Array Value)))).get? b = some o :=
    fun b o hb e => (Heap.get?_update_other _ _ (Ne.symm hb)).trans e
  refine wpAny_bind (wpAny_letGo ?_)
  refine extend_fil (hn := hn) W hT S .none _ (W.frame 0 s _ s.toks hst (Nat.le_refl _) fun b hb o e => oth b o (fun h => hSf (h ▸ hb)) e) hSf hI hS₂ fun s' acc' c' hm hS' hacc => ?_
  exact hR s' acc' c' (Moved.trans W.gtrans ((Moved.refl W.grefl).then_heap (Nat.le_refl _) fun b o hb e => oth b o (fun h => hb (h ▸ List.mem_cons_self)) e) hm) hS' hacc
theorem call_list_fil {E : Value → Shared → Prop} {Q : Value → Shared → Prop} (W : WalksS prog w A.in1.in1 I fp wr G n P St) (hT : ∀ i s, St i s → s.TypeIs (.ref I) "filter") (hst : St 0 s) (hfp : ∀ b ∈ fp, b < s.heap.objs.size) (hI : I ∈ fp)
    (hQ : ∀ s' acc' c', Moved (s.heap.objs.size :: wr) G { s with heap := s.heap.push { cls := .type "list", data := .seq #[] } } s' →
      s'.heap.get? s.heap.objs.size = some { cls := .type "list", dict := none, data := .seq acc' c', slots := #[] } → ItemsOf P acc' n → Q (.ref s.heap.objs.size) s') (hn : n ≤ sizeLine) :
    wpAny (model prog w) A (call (.type "list") [.ref I]) Q E s := by
  have hSf : s.heap.objs.size ∉ fp := fun hm => Nat.lt_irrefl _ (hfp _ hm)
  refine callType_codes (Q₁ := fun obj s₁ => obj = .ref s.heap.objs.size ∧ s₁ = { s with heap := s.heap.push { cls := .type "list", data := .seq #[] } }) F.called_list (F.typeCall_list_1 _) F.entry_list_init
    (code_list_new _ ⟨rfl, rfl⟩) fun obj s₁ h₁ => ?_
  obtain ⟨rfl, rfl⟩ := h₁
  have hS : (s.heap.push { cls := .type "list", data := .seq #[] }).get? s.heap.objs.size = some { cls := .type "list", data := .seq #[] } := Heap.get?_push_size _ rfl
  refine ⟨⟨_, hS, rfl⟩, F.args_list_init_2 _ _, list_init_fil (hn := hn) W hT _ (W.frame 0 s _ s.toks hst (Nat.le_refl _) fun b _ o e => Heap.get?_push_of_some _ e) hSf hI hS fun s' acc' c' hm hS' hacc => ?_⟩
  exact ⟨rfl, hQ s' acc' c' hm hS' hacc⟩
end
section
variable {C : Cx} {k : Nat} {sc : Scope} {ρ : Asn} {A : Around} {V : View} {s : Shared} {env : Env} {E : Value → Shared → Prop}
theorem metS_list (l : List (PySem.Str × Tok)) (k : PySem.Str) : metS (fun i => (l.getD i (default, 0)).1) l.length k = (l.map (·.1)).any (· == k) := by
  unfold metS
  congr 1
  refine List.ext_getElem (by simp) fun i h1 h2 => ?_
  simp only [List.length_map, List.length_range] at h1
  simp [List.getD_eq_getElem?_getD, h1]
theorem St.tabObj {C : Cx} {V : View} {s : Shared} (S : St C V s) {a : Addr} {o : Obj} (e : s.heap.get? a = some o) (hc : o.cls ≠ (tabObj #[]).cls) : a ≠ tabA := by
  rintro rfl; obtain ⟨ps, e', _⟩ := S.tab; rw [e'] at e; cases e; exact hc rfl
theorem set_strs {ps pc : Pos} {e : Expr} {ys : List PySem.Str} {Q : Value → Shared → Prop} (H : Hd C) (hx : sc.names.lookup (Str.ofString "set") = some .globalImplicit) (he' : Ev C k sc ρ e (.list (ys.map .str))) (hlen : ys.length ≤ 1000)
    (he : env.scope = sc) (hr : Room k A) (S : St C V s) (F : Frm C env ρ V s.heap) (hst : ∀ env, starEach [e] env = (false, eval e env) :: starEach [] env)
    (q : ∀ V' s' a m, Ext V s V' s' → St C V' s' → s'.heap.SetOf (strKind C.prog C.w) a (fun k => ys.any (· == k)) m → Q (.ref a) s') :
    wpAny C.M A (eval (.Call (.Name (Str.ofString "set") ps) [e] [] pc) env) Q E s := by
  refine wpAny_bind (Name_function_global F.kind (by show env.scope.names.lookup _ = _; rw [he]; exact hx) ((gb_set H).load S F ?_) (by decide))
  show wpAny C.M A (PySem.callWith pc (.type "set") [] (backTo pc (starEach [e] env)) []) _ E s
  rw [hst]
  refine PySem.callWith_type rfl (evalArgs_of rfl (Calls.spliced_cons (he' env A V s he hr S F E _ fun v V1 s1 X1 S1 r => Calls.spliced_nil ?_)))
  refine hid fun G hG => ?_
  obtain ⟨a, vs, rfl, ha, hs⟩ := r.inv_list
  obtain ⟨l, rfl, rfl⟩ := strs_vals hs
  refine hG ?_
  rw [List.length_map] at hlen
  have hz : (strValues l).toArray.size = l.length := by unfold strValues; simp
  refine wp_toks' S1.tk (call_set_strs (val := fun i => (l.getD i (default, 0)).1) hr.2.2 (ha.isList S1) (fun i v hv => ?_) (by rw [hz]; unfold scanBound; lia) fun h' tk m hm hS hk hn => ?_)
  · have hv' : (strValues l)[i]? = some v := by simpa using hv
    unfold strValues at hv'
    rw [List.getElem?_map] at hv'
    obtain ⟨p, hp, rfl⟩ := Option.map_eq_some_iff.mp hv'
    exact ⟨p.2, by simp [List.getD_eq_getElem?_getD, hp]⟩
  · have k1 : ∀ b o, s1.heap.get? b = some o → h'.get? b = some o := fun b o e => hk b o (Heap.lt_size e) e
    rw [hz] at hS
    exact q V1 _ _ m (X1.trans (.keeps k1)) (S1.keeps k1 hn) (PyProof.Rows.SetOf_congr hS (fun k => metS_list l k) rfl)
theorem setOf_parts {prog : Program} {w : World} {h : Heap} {a : Addr} {p : PySem.Str → Bool} {m : Nat} (x : h.SetOf (strKind prog w) a p m) : ∃ es ep tb sl, h.get? a = some { cls := .type "set", dict := none, data := .set es ep tb, slots := sl } := by
  refine hid fun G hG => ?_
  obtain ⟨⟨cls, dd, data, sl⟩, es, ep, tb, ho, hx, hd, _⟩ := x
  refine hG ?_
  have h1 : cls = .type "set" := hx.1
  have h2 : dd = none := hx.2.1
  dsimp only at hd
  subst h1 h2 hd
  exact ⟨es, ep, tb, sl, ho⟩
theorem set_co {ps pc pa : Pos} {e : Expr} {ys : List PySem.Str} {Q : Value → Shared → Prop} (H : Hd C) (hx : sc.names.lookup (Str.ofString "set") = some .globalImplicit) (he' : Ev C k sc ρ e (.list (ys.map .str))) (hlen : ys.length ≤ 1000)
    (he : env.scope = sc) (hr : Room k A) (S : St C V s) (F : Frm C env ρ V s.heap) (hst : ∀ env, starEach [e] env = (false, eval e env) :: starEach [] env)
    (q : ∀ V' s' a b m, Ext V s V' s' → St C V' s' → s'.heap.SetOf (strKind C.prog C.w) a (fun k => ys.any (· == k)) m → s'.heap.get? b = some (boundO a) → Q (.ref b) s') :
    wpAny C.M A (eval (.Attribute (.Call (.Name (Str.ofString "set") ps) [e] [] pc) (Str.ofString "__contains__") pa) env) Q E s := by
  have e0 : eval (.Attribute (.Call (.Name (Str.ofString "set") ps) [e] [] pc) (Str.ofString "__contains__") pa) env = (do
      let o ← attributeBase (.Call (.Name (Str.ofString "set") ps) [e] [] pc) (Str.ofString "__contains__") env (eval (.Call (.Name (Str.ofString "set") ps) [e] [] pc) env)
      standAt pa.atName
      let r ← holding [o] (getAttr o (Str.ofString "__contains__") true)
      letTemporaryGo (.Call (.Name (Str.ofString "set") ps) [e] [] pc) o r
      pure r) := rfl
  have e1 : attributeBase (.Call (.Name (Str.ofString "set") ps) [e] [] pc) (Str.ofString "__contains__") env (eval (.Call (.Name (Str.ofString "set") ps) [e] [] pc) env) = eval (.Call (.Name (Str.ofString "set") ps) [e] [] pc) env := rfl
  rw [e0, e1]
  refine wpAny_bind (set_strs H hx he' hlen he hr S F hst fun V1 s1 a m X1 S1 hS => wpAny_bind (wpAny_standAt (wpAny_bind (wpAny_holding ?_))))
  refine hid fun G hG => ?_
  obtain ⟨es, ep, tb, sl, ho⟩ := setOf_parts hS
  obtain ⟨hp, g, d, tk, os⟩ := s1
  refine hG ?_
  refine getCo ho (wpAny_bind (wpAny_letTemporaryGo (wpAny_pure ?_)))
  have k1 : ∀ b o, hp.get? b = some o → (hp.push (boundO a)).get? b = some o := fun b o e => Heap.get?_push_of_some _ e
  refine q V1 _ a _ m (X1.trans (.keeps (s := ⟨hp, g, d, tk, os⟩) k1)) (S1.keeps (s := ⟨hp, g, d, tk, os⟩) k1 (Nat.le_succ_of_le S1.tk)) ?_ (Heap.get?_push_size _ rfl)
  refine hid fun G hG => ?_
  obtain ⟨o, es, ep, tb, ho, r⟩ := hS
  refine hG ?_
  exact ⟨o, es, ep, tb, k1 _ _ ho, r⟩
theorem Ev.shared {e1 e2 : Expr} {ps pc pa pf pg pl pm : Pos} {xs ys : List PySem.Str} (H : Hd C) (hx : sc.names.lookup (Str.ofString "set") = some .globalImplicit) (hy : sc.names.lookup (Str.ofString "filter") = some .globalImplicit) (hz : sc.names.lookup (Str.ofString "list") = some .globalImplicit)
    (h2 : Ev C k sc ρ e2 (.list (ys.map .str))) (h1 : Ev C k sc ρ e1 (.list (xs.map .str))) (hlen : ys.length ≤ 1000) (hlen1 : xs.length ≤ 1000)
    (hst : ∀ env, starEach [e2] env = (false, eval e2 env) :: starEach [] env := by intro _; rfl) (hst1 : ∀ env, starEach [e1] env = (false, eval e1 env) :: starEach [] env := by intro _; rfl) :
    Ev C k sc ρ (.Call (.Name (Str.ofString "list") pl) [.Call (.Name (Str.ofString "filter") pf) [.Attribute (.Call (.Name (Str.ofString "set") ps) [e2] [] pc) (Str.ofString "__contains__") pa, e1] [] pg] [] pm) (.list ((xs.filter fun x => ys.any (· == x)).map .str)) := fun env A V s he hr S F E Q q => by
  refine wpAny_bind (Name_function_global F.kind (by show env.scope.names.lookup _ = _; rw [he]; exact hz) ((gb_list H).load S F ?_) (by decide))
  show wpAny C.M A (PySem.callWith pm (.type "list") [] (backTo pm (starEach [.Call (.Name (Str.ofString "filter") pf) [.Attribute (.Call (.Name (Str.ofString "set") ps) [e2] [] pc) (Str.ofString "__contains__") pa, e1] [] pg] env)) []) _ E s
  refine PySem.callWith_type rfl (evalArgs_of rfl (Calls.spliced_cons ?_))
  refine wpAny_bind (Name_function_global F.kind (by show env.scope.names.lookup _ = _; rw [he]; exact hy) ((gb_filter H).load S F ?_) (by decide))
  have e3 : ∀ env, starEach [.Attribute (.Call (.Name (Str.ofString "set") ps) [e2] [] pc) (Str.ofString "__contains__") pa, e1] env = (false, eval (.Attribute (.Call (.Name (Str.ofString "set") ps) [e2] [] pc) (Str.ofString "__contains__") pa) env) :: starEach [e1] env := fun _ => rfl
  show wpAny C.M A (PySem.callWith pg (.type "filter") [] (backTo pg (starEach [.Attribute (.Call (.Name (Str.ofString "set") ps) [e2] [] pc) (Str.ofString "__contains__") pa, e1] env)) []) _ E s
  rw [e3, hst1]
  refine PySem.callWith_type rfl (evalArgs_of rfl (Calls.spliced_cons (set_co H hx h2 hlen he hr S F hst fun V1 s1 a b m X1 S1 hS hb => ?_)))
  have F1 := F.ext S X1
  refine Calls.spliced_cons (h1 env A V1 s1 he hr S1 F1 E _ fun v V2 s2 X2 S2 r => Calls.spliced_nil ?_)
  have X02 := X1.trans X2
  refine Rep.elList r fun L vs hL hs => ?_
  obtain ⟨l, rfl, rfl⟩ := strs_vals hs
  rw [List.length_map] at hlen1
  have hLs := hL.isList S2
  have hb2 := X2.keep b _ (S1.tabObj hb (by simp)) hb
  have hS2 : s2.heap.SetOf (strKind C.prog C.w) a (fun k => ys.any (· == k)) m := by
    refine hid fun G hG => ?_
    obtain ⟨o, es, ep, tb, ho, hx, r⟩ := hS
    refine hG ?_
    exact ⟨o, es, ep, tb, X2.keep a _ (S1.tabObj ho (by rw [hx.1]; simp)) ho, hx, r⟩
  refine call_filter hLs fun h3 hf hit hk3 => ?_
  have S3 : St C V2 { s2 with heap := h3 } := S2.keeps (tk := s2.toks) hk3
  have X03 : Ext V s V2 { s2 with heap := h3 } := X02.trans (.keeps (tk := s2.toks) hk3)
  have fil : FilAt C.prog C.w (s2.heap.objs.size + 1) b s2.heap.objs.size L a l (fun k => ys.any (· == k)) m 0 h3 := by
    refine ⟨hf, hk3 _ _ hb2, hit, ?_, ?_⟩
    · obtain ⟨o, e, r⟩ := hLs; exact ⟨o, hk3 _ _ e, r⟩
    · obtain ⟨o, es, ep, tb, ho, r⟩ := hS2; exact ⟨o, es, ep, tb, hk3 _ _ ho, r⟩
  have fst : FilSt C.prog C.w (s2.heap.objs.size + 1) b s2.heap.objs.size L a l (fun k => ys.any (· == k)) m 0 { s2 with heap := h3 } := ⟨0, by simp [kept], fil⟩
  refine Calls.spliced_nil ?_
  refine call_list_fil (filW (by exact hr.2.2)) (fun i s ⟨j, hj, x⟩ => ⟨_, x.f, rfl⟩) fst (fun c hc => ?_) (by simp) (fun s4 acc c hm hS4 hit4 => ?_) ?_
  · simp only [List.mem_cons, List.not_mem_nil, or_false] at hc
    rcases hc with rfl | rfl | rfl | rfl | rfl
    · exact Heap.lt_size fil.f
    · exact Heap.lt_size fil.b
    · obtain ⟨o, e, _⟩ := fil.it; exact Heap.lt_size e
    · obtain ⟨o, e, _⟩ := fil.l; exact Heap.lt_size e
    · obtain ⟨o, _, _, _, e, _⟩ := fil.s; exact Heap.lt_size e
  · obtain ⟨h4, g4, d4, tk4, os4⟩ := s4
    have k4 : ∀ b o, b ∉ [h3.objs.size, s2.heap.objs.size] → s2.heap.get? b = some o → h4.get? b = some o := fun b o hb e => hm.heap b o hb (Heap.get?_push_of_some _ (hk3 b o e))
    have S4 : St C V2 ⟨h4, g4, d4, tk4, os4⟩ := S2.but (s' := ⟨h4, g4, d4, tk4, os4⟩) (fun b => b ∈ [h3.objs.size, s2.heap.objs.size]) (fun b o hb e => k4 b o hb e) (fun b hb => ?_) (fun hb => ?_) hm.gens hm.os (Nat.le_trans S2.tk hm.toks)
    rotate_left
    · simp only [List.mem_cons, List.not_mem_nil, or_false] at hb
      rcases hb with rfl | rfl
      · exact (St.newNone X03 S3 (Nat.le_refl _)).2
      · exact S2.newFree
    · simp only [List.mem_cons, List.not_mem_nil, or_false] at hb
      rcases hb with e | e
      · exact S3.tabNe e
      · exact S2.tabNe e
    have fD := St.newNone X03 S3 (b := h3.objs.size) (Nat.le_refl _)
    have fI := St.newNone X02 S2 (b := s2.heap.objs.size) (Nat.le_refl _)
    have X4 : Ext V s V2 ⟨h4, g4, d4, tk4, os4⟩ := ⟨X02.mono, X02.same, fun a o ha e => k4 a o (fun hb => by
        simp only [List.mem_cons, List.not_mem_nil, or_false] at hb
        rcases hb with rfl | rfl
        · rw [fD.1] at e; cases e
        · rw [fI.1] at e; cases e) (X02.keep a o ha e), fun o e => let ⟨ps, h, _⟩ := S4.tab; ⟨_, h⟩⟩
    obtain ⟨V5, m5, e5, o5, S5⟩ := S4.freeze hS4 fD.2 (S3.tabNe).symm
    refine q _ V5 _ (X4.freeze m5 o5 fD.1) S5 (Reps.list (vs := acc.toList) (.of (n := c) (by simpa using e5)) ⟨?_, fun i v d hv hd => ?_⟩)
    · rw [Array.length_toList, hit4.1, List.length_map, List.filter_map, List.length_map]; rfl
    · rw [Array.getElem?_toList] at hv
      obtain ⟨x, t, hx, rfl⟩ := hit4.2 i v hv
      rw [List.filter_map, List.map_map, List.getElem?_map] at hd
      have hx' : (List.filter ((fun x => ys.any (· == x)) ∘ fun x : PySem.Str × Tok => x.1) l)[i]? = some (x, t) := hx
      rw [hx'] at hd
      cases hd
      exact .str _ _
  · have : (kept l fun k => ys.any (· == k)).length ≤ l.length := List.length_filter_le _ _
    rw [sizeLine_eq]; lia
end
noncomputable def isNoneD : D → Bool
  | .none => true
  | _ => false
noncomputable def pickD (d1 d2 : D) : D := if isNoneD d2 = true then d1 else d2
section
variable {C : Cx} {k : Nat}
theorem Op2.isN' {d : D} : Op2 C k (compareOp .Is) d .none (.bool (isNoneD d)) := by
  have := Op2.isN (C := C) (k := k) (d := d)
  cases d <;> exact this
theorem mergeC (H : Hd C) {xs ys : List PySem.Str} {rs ts : List D} {d1 d2 d3 d4 : D} (hx : xs.length ≤ 1000) (hy : ys.length ≤ 1000) (hr' : rs.length ≤ 1000) (ht : ts.length ≤ 1000) :
    CallR C (k + 20) (.ref 80) [.entry (.list (xs.map .str)) (.list rs) d1 d2, .entry (.list (ys.map .str)) (.list ts) d3 d4]
      (.entry (.list ((xs.filter fun x => ys.any (· == x)).map .str)) (.list (rs ++ ts)) (pickD d1 d3) (pickD d2 d4)) := fun A V s vs hr S rs' E Q q => by
  have Hc := entC H
  have EK := entK H
  refine wpAny_call ?_
  refine' fn_run (k := k + 18) (f := 80) (ids := [i_e1, i_e2]) ?hl ?hcd rfl ?hb ?ok hr S rs' fun env s1 _ he hco hqu hr1 S1 F1 O1 X1 f1 => ?body
  case hl => rw [H.K]; exact rfl
  case hcd => rw [H.K]; kernel_rfl
  case hb => intro vs hv; obtain ⟨_, _, rfl⟩ := len2 hv; exact rfl
  case ok => exact DefOk.of (by decide +kernel)
  case body =>
  refine wpAny_execs_cons (entry_assign (k := k) (i := i_entry) H rfl (.inl rfl) rfl he (hr1.mono (by lia)) S1 F1 X1 f1 fun a dx es n v1 v2 V2 s2 X2 S2 F2 oa od at_ r1 r2 hne n0a n0d nna nnd => ?_)
  have lk1 := F1.locNe nnd
  have ck1 := F1.cellNe nnd
  refine' wpAny_execs_cons (attr_st (k := k + 18) Hc (i := i_entry) rfl (Ev.shared (xs := xs) (ys := ys) H rfl rfl rfl (Ev.attr (Ev.name (i := i_e2) (d := .entry (.list (ys.map .str)) (.list ts) d3 d4) rfl (by walk_at "lk")) (AttrR.entry EK EK.f1 (.inl ⟨rfl, rfl⟩))) (Ev.attr (Ev.name (i := i_e1) (d := .entry (.list (xs.map .str)) (.list rs) d1 d2) rfl (by walk_at "lk")) (AttrR.entry EK EK.f1 (.inl ⟨rfl, rfl⟩))) hy hx) Hc.t1 (fun _ => rfl) he hr1 S2 F2 X2 n0d (by walk_at "lk") oa od hne at_ (by lia) lk1 ck1 fun w1 V3 s3 es3 n3 X3 S3 F3 m3 q1 oa od at3 => ?_)
  rw [entF_agents] at at3
  refine wpAny_execs_cons (attr_st (k := k + 18) Hc (i := i_entry) rfl (Ev.bin (Ev.attr (Ev.name (i := i_e1) (d := .entry (.list (xs.map .str)) (.list rs) d1 d2) rfl (by walk_at "lk")) (AttrR.entry EK EK.f2 (.inr (.inl ⟨rfl, rfl⟩)))) (Ev.attr (Ev.name (i := i_e2) (d := .entry (.list (ys.map .str)) (.list ts) d3 d4) rfl (by walk_at "lk")) (AttrR.entry EK EK.f2 (.inr (.inl ⟨rfl, rfl⟩)))) (Op2.addL (by rw [sizeLine_eq]; lia))) Hc.t2 (fun _ => rfl) he hr1 S3 F3 X3 n0d (by walk_at "lk") oa od hne at3 (by lia) lk1 ck1 fun w2 V4 s4 es4 n4 X4 S4 F4 m4 q2 oa od at4 => ?_)
  rw [entF_rules] at at4
  refine wpAny_execs_cons (attr_st (k := k + 18) Hc (i := i_entry) rfl (d := pickD d1 d3) (Ev.ifexp (c := isNoneD d3) (Tst.cmp (Ev.attr (Ev.name (i := i_e2) (d := .entry (.list (ys.map .str)) (.list ts) d3 d4) rfl (by walk_at "lk")) (AttrR.entry (d := d3) EK EK.f3 (.inr (.inr (.inl ⟨rfl, rfl⟩))))) Ev.none Op2.isN' rfl)
      (fun _ => Ev.attr (Ev.name (i := i_e1) (d := .entry (.list (xs.map .str)) (.list rs) d1 d2) rfl (by walk_at "lk")) (AttrR.entry (d := d1) EK EK.f3 (.inr (.inr (.inl ⟨rfl, rfl⟩))))) fun _ => Ev.attr (Ev.name (i := i_e2) (d := .entry (.list (ys.map .str)) (.list ts) d3 d4) rfl (by walk_at "lk")) (AttrR.entry (d := d3) EK EK.f3 (.inr (.inr (.inl ⟨rfl, rfl⟩)))))
    Hc.t3 (fun _ => rfl) he hr1 S4 F4 X4 n0d (by walk_at "lk") oa od hne at4 (by lia) lk1 ck1 fun w3 V5 s5 es5 n5 X5 S5 F5 m5 q3 oa od at5 => ?_)
  rw [entF_delay] at at5
  refine wpAny_execs_cons (attr_st (k := k + 18) Hc (i := i_entry) rfl (d := pickD d2 d4) (Ev.ifexp (c := isNoneD d4) (Tst.cmp (Ev.attr (Ev.name (i := i_e2) (d := .entry (.list (ys.map .str)) (.list ts) d3 d4) rfl (by walk_at "lk")) (AttrR.entry (d := d4) EK EK.f4 (.inr (.inr (.inr ⟨rfl, rfl⟩))))) Ev.none Op2.isN' rfl)
      (fun _ => Ev.attr (Ev.name (i := i_e1) (d := .entry (.list (xs.map .str)) (.list rs) d1 d2) rfl (by walk_at "lk")) (AttrR.entry (d := d2) EK EK.f4 (.inr (.inr (.inr ⟨rfl, rfl⟩))))) fun _ => Ev.attr (Ev.name (i := i_e2) (d := .entry (.list (ys.map .str)) (.list ts) d3 d4) rfl (by walk_at "lk")) (AttrR.entry (d := d4) EK EK.f4 (.inr (.inr (.inr ⟨rfl, rfl⟩)))))
    Hc.t4 (fun _ => rfl) he hr1 S5 F5 X5 n0d (by walk_at "lk") oa od hne at5 (by lia) lk1 ck1 fun w4 V6 s6 es6 n6 X6 S6 F6 m6 q4 oa od at6 => ?_)
  rw [entF_rate] at at6
  refine wpAny_execs_cons ?_
  rw [exec_Return_some]
  refine wpAny_bind (wpAny_standAt (wpAny_bind (Ev.name (C := C) (k := k + 18) (i := i_entry) (d := .own a) rfl (by walk_at "lk") env _ V6 s6 he hr1 S6 F6 _ _ fun u V7 s7 X7 S7 ru => ?_)))
  obtain rfl := ru.is
  refine wpAny_pure ?_
  have oa7 := oa.ext X7
  have od7 := od.ext X7
  obtain ⟨V8, m8, v8, k8, S8⟩ := S7.freezeL [(a, instObj entryA dx), (dx, dictOf es6 n6)] (by
    intro p hp
    simp only [List.mem_cons, List.mem_nil_iff, or_false] at hp
    rcases hp with rfl | rfl
    · exact oa7
    · exact od7)
  refine q (.ref a) V8 s7 ((X6.trans X7).freezeL _ m8 k8 (by
    intro b hb
    simp only [List.map_cons, List.map_nil, List.mem_cons, List.mem_nil_iff, or_false] at hb
    rcases hb with rfl | rfl
    · exact n0a
    · exact n0d)) S8 ?_
  have u6 : VLe V6 V8 := X7.mono.trans m8
  exact rep_entry (v8 (a, instObj entryA dx) (by simp)) (v8 (dx, dictOf es6 n6) (by simp)) at6 (q1.mono (((m4.trans m5).trans m6).trans u6)) (q2.mono ((m5.trans m6).trans u6)) (q3.mono (m6.trans u6)) (q4.mono u6)
end
noncomputable abbrev baO (b : Array UInt8) : Obj := { cls := .type "bytearray", data := .bytearray b }
noncomputable def ExB (C : Cx) (k : Nat) (sc : Scope) (ρ : Asn) (a : Addr) (b : Array UInt8) (t : Env → Sem Flow) (Pn : Asn → Array UInt8 → Prop) : Prop :=
  ∀ (env : Env) (A : Around) (V : View) (s : Shared) (V0 : View) (s0 : Shared), env.scope = sc → Room k A → St C V s → Frm C env ρ V s.heap → CellsOnce env → Ext V0 s0 V s → Fresh env s0 → s0.heap.get? a = none → Own V s a (baO b) →
    ∀ (E : Value → Shared → Prop) (Q : Flow → Shared → Prop),
      (∀ ρ' b' V' s', Ext V0 s0 V' s' → St C V' s' → Frm C env ρ' V' s'.heap → Own V' s' a (baO b') → Pn ρ' b' → Q .next s') → wpAny C.M A (t env) Q E s
noncomputable def hiddenO (env : Env) (a : Addr) (h : Heap) : Heap := hideAll h (a :: env.locals :: env.cells.map (·.2))
section
variable {C : Cx} {A : Around} {V V' V'' V0 : View} {s s' s'' s0 : Shared} {env : Env} {ρ ρ' : Asn} {x : Addr}
theorem hiddenO_of {h : Heap} {a : Addr} {o : Obj} (e : (hiddenO env x h).get? a = some o) : h.get? a = some o := of_hideAll _ e
theorem hiddenO_get {h : Heap} {a : Addr} {o : Obj} (e : h.get? a = some o) (h0 : a ≠ x) (h1 : a ≠ env.locals) (h2 : a ∉ env.cells.map (·.2)) : (hiddenO env x h).get? a = some o :=
  hideAll_get _ e fun q => (List.mem_cons.mp q).elim h0 fun q => (List.mem_cons.mp q).elim h1 h2
theorem Fresh.hiddenO {h : Heap} {g d t os} : Fresh env ⟨hiddenO env x h, g, d, t, os⟩ := ⟨hideAll_none _ (by simp), fun y c hc => hideAll_none _ (List.mem_cons_of_mem _ (List.mem_cons_of_mem _ (mem_cells hc)))⟩
theorem hiddenO_self {h : Heap} : (Mine.hiddenO env x h).get? x = none := hideAll_none _ (by simp)
theorem Ext.hideO (S : St C V s) : Ext V { s with heap := hiddenO env x s.heap } V s :=
  ⟨.refl V, fun _ _ _ => rfl, fun a o _ e => hiddenO_of e, fun o e => ⟨o, hiddenO_of e⟩⟩
theorem Ext.unhideO (S : St C V s) (O : CellsOnce env) (X : Ext V0 s0 V s) (f : Fresh env s0) (fx : s0.heap.get? x = none) (Y : Ext V { s with heap := hiddenO env x s.heap } V' s') : Ext V0 s0 V' s' := by
  have hn : ∀ a o, s0.heap.get? a = some o → a ≠ x ∧ a ≠ env.locals ∧ a ∉ env.cells.map (·.2) := fun a o e => by
    refine ⟨fun q => ?_, fun q => ?_, fun q => ?_⟩
    · rw [q, fx] at e; cases e
    · rw [q, f.loc] at e; cases e
    · obtain ⟨y, hy⟩ := O.once a q
      rw [f.cell y a hy] at e; cases e
  refine ⟨X.mono.trans Y.mono, fun a o e => ?_, fun a o ha e => ?_, fun o e => ?_⟩
  · by_cases ha : a = tabA
    · subst ha
      obtain ⟨o', e'⟩ := X.tab o e
      exact (Y.same _ _ (hiddenO_get e' (hn _ _ e).1 (hn _ _ e).2.1 (hn _ _ e).2.2)).trans (X.same _ _ e)
    · exact (Y.same _ _ (hiddenO_get (X.keep a o ha e) (hn a o e).1 (hn a o e).2.1 (hn a o e).2.2)).trans (X.same _ _ e)
  · exact Y.keep a o ha (hiddenO_get (X.keep a o ha e) (hn a o e).1 (hn a o e).2.1 (hn a o e).2.2)
  · obtain ⟨o', e'⟩ := X.tab o e
    exact Y.tab o' (hiddenO_get e' (hn _ _ e).1 (hn _ _ e).2.1 (hn _ _ e).2.2)
theorem Frm.neLoc {b : Array UInt8} (F : Frm C env ρ V s.heap) (o : Own V s x (baO b)) : x ≠ env.locals := fun q => by
  obtain ⟨m, ⟨o', es, ep, e, d, _⟩, _⟩ := F.ns
  rw [← q, o.at_] at e; cases e; cases d
theorem Frm.neCell {b : Array UInt8} (F : Frm C env ρ V s.heap) (o : Own V s x (baO b)) : ∀ y c, env.cells.lookup y = some c → c ≠ x := fun y c hc q => by
  obtain ⟨_, v, ⟨o', e, d⟩, _⟩ := F.cells y c hc
  rw [q, o.at_] at e; cases e; cases d
theorem Frm.neTgt {b : Array UInt8} {g : Asn} (F : Frm C env ρ V s.heap) (o : Own V s x (baO b)) : ¬ Tgt env g x := fun q => by
  rcases q with q | ⟨p, _, _, hc⟩
  · exact F.neLoc o q
  · exact F.neCell o _ _ hc rfl
end
section
variable {C : Cx} {k : Nat} {sc : Scope} {ρ : Asn} {a : Addr} {b : Array UInt8} {Pn : Asn → Array UInt8 → Prop}
theorem ExB.nil (h : Pn ρ b) : ExB C k sc ρ a b (execs []) Pn := fun env A V s V0 s0 he hr S F O X f fa o E Q qn => wpAny_execs_nil (qn ρ b V s X S F o h)
theorem ExB.cons {st : Stmt} {ss : List Stmt} {P1 : Asn → Array UInt8 → Prop} (h1 : ExB C k sc ρ a b (exec st) P1) (h2 : ∀ ρ' b', P1 ρ' b' → ExB C k sc ρ' a b' (execs ss) Pn) : ExB C k sc ρ a b (execs (st :: ss)) Pn := fun env A V s V0 s0 he hr S F O X f fa o E Q qn =>
  wpAny_execs_cons (h1 env A V s V0 s0 he hr S F O X f fa o E _ fun ρ' b' V' s' X' S' F' o' hp => h2 ρ' b' hp env A V' s' V0 s0 he hr S' F' O X' f fa o' E Q qn)
theorem ExB.for {α : Type} (xs : List α) (g : α → Asn) (inv : Nat → Asn) (B : Nat → Array UInt8) {tgt iter : Expr} {body : List Stmt} {pos : Pos} (hIt : ItE C k sc ρ iter tgt (xs.map g))
    (hg : ∀ x ∈ xs, ∀ q ∈ g x, sc.names.lookup (nm q.1) = some .local ∨ sc.names.lookup (nm q.1) = some .cell) (h0 : Asn.Le (inv 0) ρ) (B0 : B 0 = b)
    (hb : ∀ i (h : i < xs.length), ExB C k sc (g xs[i] ++ inv i) a (B i) (execs body) (fun ρ' b' => Asn.Le (inv (i + 1)) ρ' ∧ b' = B (i + 1))) (hend : Pn (inv xs.length) (B xs.length))
    (hs : ∀ env x, foldedSetIterable iter env x = pure x := by intro _ _; rfl) : ExB C k sc ρ a b (exec (.For tgt iter body [] pos)) Pn := fun env A V s V0 s0 he hr S F O X f fa o E Q qn => by
  refine wpAny_For (hIt env A V s he hr S F E _ fun it V2 s2 fp wr P X2 S2 I hP hw hfp hal => ?_) (hs env)
  have F2 := F.ext S X2
  have o2 := o.ext X2
  have own : ∀ c, (c = env.locals ∨ c ∈ env.cells.map (·.2) ∨ c = a) → c ∉ fp ∧ c ∉ wr := fun c hc => by
    have h1 : (∃ o, s.heap.get? c = some o) ∧ V2 c = none := by
      rcases hc with rfl | hc | rfl
      · refine hid fun G hG => ?_
        obtain ⟨m, ⟨o, es, ep, e, _⟩, _⟩ := F.ns
        refine hG ?_
        exact ⟨⟨o, e⟩, F2.locFree⟩
      · refine hid fun G hG => ?_
        obtain ⟨x, hx⟩ := O.once c hc
        obtain ⟨_, v, ⟨o, e, _⟩, _⟩ := F.cells x c hx
        refine hG ?_
        exact ⟨⟨o, e⟩, (F2.cells x c hx).1.resolve_right fun q => q (O.own x c hx)⟩
      · exact ⟨⟨_, o.at_⟩, o2.free⟩
    obtain ⟨⟨o, e⟩, h2⟩ := h1
    have h3 : c ∉ fp := fun hm => by
      rcases hfp c hm with h | h
      · rw [h2] at h; cases h
      · rw [h.1] at e; cases e
    exact ⟨h3, fun hm => h3 (I.sub _ hm)⟩
  have ownT : ∀ b c, Tgt env b c → c = env.locals ∨ c ∈ env.cells.map (·.2) ∨ c = a := fun b c h => by
    rcases h with h | ⟨p, _, _, hc⟩
    · exact .inl h
    · exact .inr (.inl (mem_cells hc))
  refine codeAny_forLoop_any (LInv C env inv (fun i V' s' => Own V' s' a (baO (B i))) P xs.length fp wr V0 V2 s0) (fun n s' hI => ?_) (xs.length + 1) ?_
  · obtain ⟨i, V', hi, rfl, hPi, X', S', hV', hVw, F', o', hal'⟩ := hI
    by_cases hlt : i < xs.length
    · have hb' : (xs.map g)[i]? = some (g xs[i]) := by rw [List.getElem?_map, List.getElem?_eq_getElem hlt]; rfl
      have hx : xs[i] ∈ xs := List.getElem_mem hlt
      refine wpAny_mono (I.step i _ hb' env (inv i) V' s' _ (fun s₂ => wpAny C.M A (execs body env) (fun f s₃ => match f with
            | .next | .cont => ∃ m, m < xs.length + 1 - i ∧ LInv C env inv (fun i V' s' => Own V' s' a (baO (B i))) P xs.length fp wr V0 V2 s0 m s₃
            | .brk => Q .next s₃
            | .ret v => Q (.ret v) s₃) _ s₂)
        hV' S' hVw hPi F' (fun c hc => (own c (ownT _ c hc)).1) (fun x c hc => (own c (.inr (.inl (mem_cells hc)))).2) (fun q hq => by rw [he]; exact hg _ hx q hq) fun s3 hP3 S3 F3 hk3 hl3 => ?_)
        (fun r s₁ h => by obtain ⟨v, rfl, h⟩ := h; exact h) fun _ _ e => e
      have X3 : Ext V0 s0 V' s3 := ⟨X'.mono, X'.same, fun a o ha e => hk3 a o (fun hm => by
          have h1 := (hw a hm).1
          rw [X.keep a o ha e] at h1; cases h1) (fun hT => by
          rcases ownT _ a hT with rfl | hc | rfl
          · rw [f.loc] at e; cases e
          · obtain ⟨x, hx⟩ := O.once a hc
            rw [f.cell x a hx] at e; cases e
          · rw [fa] at e; cases e) (X'.keep a o ha e), fun o e => let ⟨ps, h, _⟩ := S3.tab; ⟨_, h⟩⟩
      have o3 : Own V' s3 a (baO (B i)) := ⟨hk3 _ _ (own a (.inr (.inr rfl))).2 (F'.neTgt o') o'.at_, o'.free, o'.tab⟩
      have fpne : ∀ b ∈ fp, b ≠ tabA := fun b hb q => by
        subst q
        rcases hfp _ hb with h | h
        · rw [S2.tabV] at h; cases h
        · obtain ⟨ps, h', _⟩ := S.tab; rw [h.1] at h'; cases h'
      have hal3 : ∀ b ∈ fp, ∃ o, s3.heap.get? b = some o := fun b hb => by
        by_cases hbw : b ∈ wr
        · exact I.alive _ _ hP3 b hbw
        · obtain ⟨o, e⟩ := hal' b hb; exact hl3 b o hbw e
      refine hb i hlt env A V' s3 V' { s3 with heap := hiddenO env a s3.heap } he hr S3 F3 O (Ext.hideO S3) .hiddenO hiddenO_self o3 _ _ fun ρ' b' V4 s4 X4 S4 F4 o4 hp => ?_
      have keep4 : ∀ b ∈ fp, ∀ o, s3.heap.get? b = some o → s4.heap.get? b = some o := fun b hb o e =>
        X4.keep b o (fpne b hb) (hiddenO_get e (fun q => (own b (.inr (.inr q))).1 hb) (fun q => (own b (.inl q)).1 hb) fun q => (own b (.inr (.inl q))).1 hb)
      refine ⟨xs.length + 1 - (i + 1), by lia, i + 1, V4, hlt, rfl, I.frame _ _ _ hP3 keep4, Ext.unhideO S3 O X3 f fa X4, S4, hV'.trans X4.mono, fun b hbw => ?_, F4.le hp.1, hp.2 ▸ o4, fun b hb => let ⟨o, e⟩ := hal3 b hb; ⟨o, keep4 b hb o e⟩⟩
      obtain ⟨o, e⟩ := I.alive _ _ hP3 b hbw
      rw [X4.same b o (hiddenO_get e (fun q => (own b (.inr (.inr q))).2 hbw) (fun q => (own b (.inl q)).2 hbw) fun q => (own b (.inr (.inl q))).2 hbw)]
      exact hVw b hbw
    · have hie : i = xs.length := by lia
      subst hie
      refine wpAny_mono (I.done V' s' _ (fun s₁ => Q .next s₁) S' hVw (by rw [List.length_map]; exact hPi) fun s3 S3 hk3 => ?_) (fun r s₁ h => by obtain ⟨rfl, h⟩ := h; exact wpAny_execs_nil h) fun _ _ e => e
      have X3 : Ext V0 s0 V' s3 := ⟨X'.mono, X'.same, fun a o ha e => hk3 a o (fun hm => by
          have h1 := (hw a hm).1
          rw [X.keep a o ha e] at h1; cases h1) (X'.keep a o ha e), fun o e => let ⟨ps, h, _⟩ := S3.tab; ⟨_, h⟩⟩
      exact qn _ _ V' s3 X3 S3 (F'.stay (fun o e => hk3 _ o (own _ (.inl rfl)).2 e) fun x c o hc e => hk3 _ o (own _ (.inr (.inl (mem_cells hc)))).2 e) ⟨hk3 _ _ (own a (.inr (.inr rfl))).2 o'.at_, o'.free, o'.tab⟩ hend
  · exact ⟨0, V2, Nat.zero_le _, rfl, hP, X.trans X2, S2, .refl V2, fun b hb => (hw b hb).2, F2.le h0, B0 ▸ o2, hal⟩
end
theorem baMro : mroOf (.type "bytearray") = pure [.type "bytearray", .type "object"] := by rw [mroOf_type]; kernel_rfl
theorem baNewL : typeLookup (.type "bytearray") "__new__" = pure (some (.builtin "bytearray.__new__")) := by rw [typeLookup_type, builtinLookup_eq_fast]; kernel_rfl
theorem baInit : Slot "bytearray" "__init__" "bytearray.__init__" :=
  .of (owner := "bytearray") (n := "__init__") (by rw [typeLookup_type, builtinLookup_eq_fast]; kernel_rfl) (by decide +kernel) (by decide +kernel) (by decide +kernel)
    (by first | exact .inl (by decide +kernel) | exact .inr (by decide +kernel)) (by rw [isSubtype_type]; kernel_rfl)
theorem baSet : Slot "bytearray" "__setitem__" "bytearray.__setitem__" :=
  .of (owner := "bytearray") (n := "__setitem__") (by rw [typeLookup_type, builtinLookup_eq_fast]; kernel_rfl) (by decide +kernel) (by decide +kernel) (by decide +kernel)
    (by first | exact .inl (by decide +kernel) | exact .inr (by decide +kernel)) (by rw [isSubtype_type]; kernel_rfl)
theorem baBuf : typeLookup (.type "bytearray") "__buffer__" = pure (some (.builtin "bytearray.__buffer__")) := by rw [typeLookup_type, builtinLookup_eq_fast]; kernel_rfl
theorem baNoBytes : typeLookup (.type "bytearray") "__bytes__" = pure none := by rw [typeLookup_type, builtinLookup_eq_fast]; kernel_rfl
theorem baNoIndex : typeLookup (.type "bytearray") "__index__" = pure none := by rw [typeLookup_type, builtinLookup_eq_fast]; kernel_rfl
theorem baInitE : entryFor table "bytearray.__init__" = some Builtin.«bytearray.__init__» := entryFor_of_tree (by kernel_rfl)
theorem baSetE : entryFor table "bytearray.__setitem__" = some Builtin.«bytearray.__setitem__» := entryFor_of_tree (by kernel_rfl)
theorem baNewE : entryFor table "bytearray.__new__" = some Builtin.«list.__new__» :=
  entryFor_alias (id' := "list.__new__") (by kernel_rfl) (by first | rfl | decide +kernel | (unfold String.splitOn; simp +decide [String.splitOnAux])) (by decide +kernel) (by kernel_rfl)
theorem baCalled : TypeCalled "bytearray" "bytearray.__new__" "bytearray.__init__" :=
  ⟨by decide +kernel, by decide +kernel, ⟨_, _, baMro⟩, madeBy_type baMro baNewL (by decide +kernel), by decide +kernel, by rw [isSubtype_type]; kernel_rfl, baInit⟩
theorem baTc (a : Value) : checkTypeCall "bytearray" ⟨[a], []⟩ = pure () := by kernel_rfl
theorem baNc (a : Value) : checkBuiltinCall "bytearray.__new__" ⟨[.type "bytearray", a], []⟩ = pure () := by kernel_rfl
theorem baSub : isSubtype (.type "bytearray") (.type "bytearray") = pure true := by rw [isSubtype_type]; kernel_rfl
theorem baInitA (a b : Value) : argsOk "bytearray.__init__" ⟨[a, b], []⟩ := by unfold argsOk; kernel_rfl
theorem baSetA (a b c : Value) : argsOk "bytearray.__setitem__" ⟨[a, b, c], []⟩ := by unfold argsOk; kernel_rfl
theorem baBind (v : Value) : Builtin.Bytes.bindOptional "bytearray.__init__" "bytearray" ["source", "encoding", "errors"] [v] [] = pure [some v, none, none] := by kernel_rfl
theorem baPlainNew : plainId "bytearray.__new__" = true := by decide +kernel
theorem baRel : typeLookup (.type "bytearray") (Str.ofString "__release_buffer__") = pure (some (.builtin "bytearray.__release_buffer__")) := by rw [typeLookup_type, builtinLookup_eq_fast]; kernel_rfl
theorem intIdx : typeLookup (.type "int") (Str.ofString "__index__") = pure (some (.builtin "int.__index__")) := by rw [typeLookup_type, builtinLookup_eq_fast]; kernel_rfl
set_option maxRecDepth 1000000 in
set_option maxHeartbeats 4000000 in
theorem baOwner : ("bytearray.__new__".splitOn ".__new__").headD "" = "bytearray" := by simp +decide [String.splitOn, String.splitOnAux]
theorem relEnds : ("bytearray.__release_buffer__".endsWith ("." ++ "__release_buffer__")) = true := by decide +kernel
theorem relDrop : "bytearray.__release_buffer__".dropRight ("__release_buffer__".length + 1) = "bytearray" := by decide +kernel
section
variable {prog : Program} {w : World} {A : Around} {E : Value → Shared → Prop} {s : Shared}
theorem ba_own {a : Addr} {Q : Bool → Shared → Prop} (hT : s.TypeIs (.ref a) "bytearray") (h : Q false s) : wpAny (model prog w) A (Builtin.Bytes.ownRelease (.ref a)) Q E s := by
  unfold Builtin.Bytes.ownRelease Builtin.Bytes.slotIsOwn
  refine wpAny_bind (wpAny_bind (wpAny_specialOf hT baRel ?_))
  dsimp only
  rw [relEnds]
  simp only [Bool.not_true, Bool.false_eq_true, if_false]
  rw [relDrop]
  exact wpAny_isInstance (b := true) hT baSub (wpAny_pure h)
theorem ba_write {a : Addr} {b : Array UInt8} {f : Array UInt8 → Array UInt8} {Q : Unit → Shared → Prop} (hx : s.heap.get? a = some (baO b)) (hz : (f b).size ≤ sizeLine)
    (h : ∀ h', h'.get? a = some (baO (f b)) → (∀ c, c ≠ a → h'.get? c = s.heap.get? c) → Q () { s with heap := h' }) : wpAny (model prog w) A (Builtin.Bytes.write (.ref a) f) Q E s := by
  show wpAny _ _ (updateBytearray a f) _ _ _
  unfold updateBytearray
  refine wpAny_bind (wpAny_load hx ?_)
  show wpAny _ _ (update a (Obj.mapBytearray f) >>= fun _ => lookBehind a) _ _ _
  refine wpAny_bind (wpAny_update hx ?_)
  have hS : (s.heap.update a (Obj.mapBytearray f)).get? a = some (baO (f b)) := Heap.get?_update_self (Obj.mapBytearray f) hx rfl
  refine wpAny_lookBehind hS ?_ ?_
  · show (if (f b).size > sizeLine then some "bytearray:memory" else none) = none
    rw [if_neg (Nat.not_lt.mpr hz)]
  · exact h _ hS fun c hc => Heap.get?_update_other _ _ (Ne.symm hc)
theorem ba_payload {a : Addr} {b : Array UInt8} {Q : Array UInt8 → Shared → Prop} (hx : s.heap.get? a = some (baO b)) (h : Q b s) : wpAny (model prog w) A (Builtin.Bytes.payload (.ref a)) Q E s := by
  unfold Builtin.Bytes.payload Builtin.Bytes.payload?
  exact wpAny_bind (wpAny_bind (wpAny_load hx (wpAny_pure (wpAny_pure h))))
theorem code_ba_new (a : Value) {Q₁ : Value → Shared → Prop}
    (h : Q₁ (.ref s.heap.objs.size) { s with heap := s.heap.push (baO #[]) }) :
    codeAny (model prog w) A (.call (.builtin "bytearray.__new__") ⟨[.type "bytearray", a], []⟩) (wants Q₁ E) s := by
  refine codeAny_of_tree ?_
  show wpAny _ A.in1 (do checkBuiltinCall "bytearray.__new__" ⟨[.type "bytearray", a], []⟩; again (.builtin "bytearray.__new__" ⟨[.type "bytearray", a], []⟩)) _ _ s
  refine wpAny_bind (wpAny_of_eq (baNc a) (wpAny_pure ⟨plainId_quiet baPlainNew _, codeAny_builtin_stack baNewE rfl fun p st => ?_⟩))
  rw [Around.under_plainId baPlainNew _]
  have hsub := baSub
  have hown := baOwner
  obtain ⟨hp, g, d, tk, os⟩ := s
  simp only [hown]
  wp_walk
  exact h
theorem dm_if_false {α : Type} {M : Model} {c : Bool} {a b : Sem α} {Q : α → Shared → Prop} (hc : c = false) (h : wpD M A b Q E s) : wpD M A (if c = true then a else b) Q E s := by
  subst hc; exact h
theorem neg_if {α : Type} {M : Model} {c : Prop} [Decidable c] {a b : Sem α} {Q : α → Shared → Prop} (hc : ¬ c) (h : wpAny M A b Q E s) : wpAny M A (if c then a else b) Q E s := by rw [if_neg hc]; exact h
theorem bind_eq {α β : Type} {M : Model} {m : Sem α} {a : α} {f : α → Sem β} {Q : β → Shared → Prop} (e : m = pure a) (h : wpAny M A (f a) Q E s) : wpAny M A (m >>= f) Q E s := by rw [e]; exact wpAny_bind (wpAny_pure h)
theorem ba_init {a : Addr} {n : Nat} {t : Tok} {Q : Fin → Shared → Prop} (hx : s.heap.get? a = some (baO #[])) (hn : n ≤ sizeLine)
    (h : ∀ h', h'.get? a = some (baO (Array.replicate n 0)) → (∀ c, c ≠ a → h'.get? c = s.heap.get? c) → Q (.done (.ret .none)) { s with heap := h' }) :
    wpD (model prog w) A (Builtin.«bytearray.__init__» ⟨[.ref a, .int n t], []⟩) Q E s := by
  have hT : s.TypeIs (.ref a) "bytearray" := ⟨_, hx, rfl⟩
  rw [sizeLine_eq] at hn
  have f1 : Builtin.Bytes.fitsIndex (n : Int) = true := by unfold Builtin.Bytes.fitsIndex; simp; lia
  have f2 : ¬ ((n : Int) < 0) := by lia
  have f3 : ((n : Int) == 2 ^ 63 - 1) = false := by simp; lia
  have f4 : Builtin.Bytes.tooLong (n : Int).toNat = false := by unfold Builtin.Bytes.tooLong; simp [sizeLine_eq]; lia
  have hTi : ∀ s' : Shared, s'.TypeIs (.int n t) "int" := fun _ => typeIs_int _ _ _
  have ei : asIndex (Value.int n t) = pure (n : Int) := rfl
  have es : asStr? (Value.int n t) = pure none := rfl
  unfold Builtin.«bytearray.__init__»
  dsimp only
  refine wpD_bindL (ba_own hT ?_)
  refine dm_if_false rfl ?_
  refine wpD_bindL (wpAny_of_eq (baBind _) ?_)
  dsimp only
  refine wpD_bindL (wpAny_of_eq (a := ()) rfl (wpD_bindL (wpAny_of_eq (a := ()) rfl ?_)))
  refine wpD_bind ?_
  show wpD _ _ (Builtin.Bytes.exported (Value.ref a) >>= _) _ _ _
  refine wpD_bind (wpD_exported ?_)
  show wpD _ _ (do let n ← Builtin.Bytes.exportsOf (Value.ref a); pure (decide (n > 0))) _ _ _
  refine wpD_of (wpAny_bind ?_)
  unfold Builtin.Bytes.exportsOf
  refine wpAny_bind (wpAny_load hx (wpAny_pure (wpAny_pure (wpD_of ?_))))
  refine bm_if_false rfl ?_
  refine wpAny_bind (ba_write (b := #[]) (f := fun _ => #[]) hx (by rw [sizeLine_eq]; decide) fun h1 e1 k1 => ?_)
  show wpAny _ _ (asStr? (Value.int n t) >>= _) _ _ _
  with_reducible refine bind_eq es ?_
  with_reducible refine bm_if_false ?_ ?_
  · rfl
  with_reducible refine wpAny_bind (bm_if_false ?_ (bm_if_false ?_ (wpAny_pure ?_)))
  · rfl
  · rfl
  with_reducible refine wpAny_bind (wpAny_specialOf (hTi _) intIdx ?_)
  with_reducible refine bm_if_true ?_ ?_
  · rfl
  with_reducible refine wpAny_bind (wpAny_attempt (wpAny_of_eq ei ?_))
  dsimp only
  with_reducible refine bm_if_false ?_ ?_
  · rw [f1]; rfl
  with_reducible refine neg_if f2 ?_
  with_reducible refine bm_if_false f3 ?_
  with_reducible refine bm_if_false f4 ?_
  with_reducible refine wpAny_bind (wpAny_rule ?_)
  by_cases h0 : (n : Int) > 0
  · rw [if_pos h0]
    with_reducible refine wpAny_bind (ba_write (s := { s with heap := h1 }) e1 (by simp [sizeLine_eq]; lia) fun h2 e2 k2 => wpAny_pure ?_)
    exact h h2 (by simpa using e2) fun c hc => (k2 c hc).trans (k1 c hc)
  · rw [if_neg h0]
    have : n = 0 := by lia
    subst this
    exact wpAny_pure (h h1 e1 k1)
end
theorem bufEnds : ("bytearray.__buffer__".endsWith ("." ++ "__buffer__")) = true := by decide +kernel
theorem bufDrop : "bytearray.__buffer__".dropRight ("__buffer__".length + 1) = "bytearray" := by decide +kernel
section
variable {prog : Program} {w : World} {A : Around} {E : Value → Shared → Prop} {s : Shared}
theorem baFine (a : Args) : fine (.builtin "bytearray.__init__" a) = true := by show (!lendIds.contains "bytearray.__init__") = true; decide +kernel
theorem call_ba {n : Nat} {t : Tok} {Q : Value → Shared → Prop} (hn : n ≤ sizeLine)
    (h : ∀ h', h'.get? s.heap.objs.size = some (baO (Array.replicate n 0)) → (∀ c o, s.heap.get? c = some o → h'.get? c = some o) → Q (.ref s.heap.objs.size) { s with heap := h' }) :
    wpD (model prog w) A (call (.type "bytearray") [.int n t]) Q E s := by
  refine wpD_callType (Q₁ := fun obj s₁ => obj = .ref s.heap.objs.size ∧ s₁ = { s with heap := s.heap.push (baO #[]) }) baCalled baFine (baTc _) baInitE (code_ba_new _ ⟨rfl, rfl⟩) fun obj s₁ h₁ => ?_
  obtain ⟨rfl, rfl⟩ := h₁
  have hx : (s.heap.push (baO #[])).get? s.heap.objs.size = some (baO #[]) := Heap.get?_push_size _ rfl
  refine ⟨⟨_, hx, rfl⟩, baInitA _ _, ba_init (s := { s with heap := s.heap.push (baO #[]) }) hx hn fun h' e k => ⟨rfl, h h' e fun c o ho => ?_⟩⟩
  exact (k c (Nat.ne_of_lt (Heap.lt_size ho))).trans (Heap.get?_push_of_some _ ho)
theorem ba_setItem {a : Addr} {b : Array UInt8} {k : Nat} {v : Nat} {t u : Tok} {Q : Unit → Shared → Prop} (hx : s.heap.get? a = some (baO b)) (hk : k < b.size) (hv : v < 256) (hz : b.size ≤ sizeLine)
    (h : ∀ h', h'.get? a = some (baO (b.setIfInBounds k v.toUInt8)) → (∀ c, c ≠ a → h'.get? c = s.heap.get? c) → Q () { s with heap := h' }) :
    wpAny (model prog w) A (setItem (.ref a) (.int k t) (.int v u)) Q E s := by
  have hT : s.TypeIs (.ref a) "bytearray" := ⟨_, hx, rfl⟩
  rw [sizeLine_eq] at hz
  unfold setItem
  refine wpAny_holding (wpAny_bind (wpAny_sequenceKey hT (by decide) ?_))
  refine wpAny_bind (wpAny_callSpecial?_slot (name := Str.ofString "__setitem__") hT baSet (wpAny_call_entry baSet hT baSetE ?_ (baSetA _ _ _)))
  unfold Builtin.«bytearray.__setitem__»
  dsimp only
  with_reducible refine bm_if_false (by simp) ?_
  with_reducible refine wpAny_bind ?_
  unfold Builtin.Bytes.subscript?
  with_reducible refine wpAny_bind (wpAny_specialOf (typeIs_int _ _ _) intIdx ?_)
  with_reducible refine bm_if_false (by simp) ?_
  have ei : asIndex (Value.int k t) = pure (k : Int) := rfl
  with_reducible refine wpAny_bind (wpAny_of_eq ei ?_)
  have f1 : Builtin.Bytes.fitsIndex (k : Int) = true := by unfold Builtin.Bytes.fitsIndex; simp; omega
  rw [f1]
  with_reducible refine bm_if_false (by simp) ?_
  with_reducible refine wpAny_pure ?_
  dsimp only
  with_reducible refine wpAny_bind ?_
  unfold Builtin.Bytes.byteValue
  have ev : asIndex (Value.int v u) = pure (v : Int) := rfl
  with_reducible refine wpAny_bind (wpAny_of_eq ev ?_)
  with_reducible refine bm_if_false (by simp; omega) ?_
  with_reducible refine wpAny_pure ?_
  with_reducible refine wpAny_bind (ba_payload hx ?_)
  have es : PySem.seqIndex? (k : Int) b.size = some k := by
    have hn : ¬ (k : Int) < 0 := by omega
    simp only [PySem.seqIndex?, if_neg hn]
    split
    · rfl
    · next hc => exact absurd (by simp; omega) hc
  rw [es]
  dsimp only
  with_reducible refine wpAny_bind (ba_write (f := fun b => b.setIfInBounds k (v : Int).toNat.toUInt8) hx (by simp [sizeLine_eq]; omega) fun h' e k' => ?_)
  refine wpAny_bind (wpAny_pure (wpAny_pure ⟨_, rfl, wpAny_pure (h h' e k')⟩))
theorem code_bytes_ba {a : Addr} {b : Array UInt8} {Q : Value → Shared → Prop} (hx : s.heap.get? a = some (baO b)) (hz : b.size ≤ sizeLine)
    (hQ : ∀ t k, Q (.bytes b t) { s with toks := k }) :
    codeAny (model prog w) A (.call (.builtin "bytes.__new__") ⟨[.type "bytes", .ref a], []⟩) (wants Q E) s := by
  refine codeAny_of_tree ?_
  show wpAny _ A.in1 (do checkBuiltinCall "bytes.__new__" ⟨[.type "bytes", .ref a], []⟩; again (.builtin "bytes.__new__" ⟨[.type "bytes", .ref a], []⟩)) _ _ s
  refine wpAny_bind (wpAny_of_eq (F.bm_newCall _) (wpAny_pure ⟨plainId_quiet F.bm_plain _, codeAny_builtin F.bm_entry ?_⟩))
  rw [Around.under_plainId F.bm_plain _]
  have hT : s.TypeIs (.ref a) "bytearray" := ⟨_, hx, rfl⟩
  unfold Builtin.«bytes.__new__»
  refine wpAny_bind (wpAny_of_eq (a := true) rfl ?_)
  refine bm_if_false rfl ?_
  refine wpAny_bind (wpAny_of_eq F.bm_sub ?_)
  refine bm_if_false rfl ?_
  refine wpAny_bind (wpAny_of_eq (F.bm_bind _) ?_)
  refine wpAny_bind (wpAny_of_eq (a := ()) rfl ?_)
  refine wpAny_bind (wpAny_of_eq (a := ()) rfl ?_)
  refine bm_if_false rfl ?_
  refine wpAny_bind (wpAny_specialOf hT baNoBytes ?_)
  refine wpAny_bind (wpAny_bind ?_)
  show wpAny _ _ (load a >>= _) _ _ _
  refine wpAny_bind (wpAny_load hx ?_)
  refine wpAny_pure (wpAny_pure ?_)
  refine bm_if_false rfl ?_
  refine wpAny_bind (wpAny_specialOf hT baNoIndex ?_)
  refine bm_if_true rfl ?_
  first
    | show wpAny _ _ (Builtin.Bytes.buffer? "bytes.__new__" (.ref a) true >>= _) _ _ _
    | (refine wpAny_bind ?_; show wpAny _ _ (Builtin.Bytes.buffer? "bytes.__new__" (.ref a) true >>= _) _ _ _)
  refine wpAny_bind ?_
  unfold Builtin.Bytes.buffer?
  refine wpAny_bind (wpAny_specialOf hT baBuf ?_)
  dsimp only
  refine wpAny_bind ?_
  unfold Builtin.Bytes.slotIsOwn
  refine wpAny_bind (wpAny_specialOf hT baBuf ?_)
  dsimp only
  rw [bufEnds]
  refine bm_if_false rfl ?_
  rw [bufDrop]
  refine wpAny_isInstance (b := true) hT baSub ?_
  refine bm_if_false rfl ?_
  refine wpAny_bind (wpAny_specialOf hT baBuf ?_)
  refine wpAny_bind (ba_own hT ?_)
  refine bm_if_false rfl ?_
  refine wpAny_bind (ba_payload hx (wpAny_pure ?_))
  refine wpAny_bind (wpAny_rule (wpAny_bind (wpAny_mkBytes ?_ hz)))
  show wpAny _ _ (if (Value.type "bytes" == Value.type "bytes") = true then _ else _) _ _ _
  refine bm_if_true (by decide) ?_
  first
    | exact wpAny_pure (hQ _ _)
    | exact wpAny_bind (wpAny_pure (wpAny_pure (hQ _ _)))
theorem call_bytes_ba {a : Addr} {b : Array UInt8} {Q : Value → Shared → Prop} (hx : s.heap.get? a = some (baO b)) (hz : b.size ≤ sizeLine)
    (hQ : ∀ t k, Q (.bytes b t) { s with toks := k }) : wpAny (model prog w) A (call (.type "bytes") [.ref a]) Q E s := by
  refine callType_codes (Q₁ := fun obj s₁ => s₁.TypeIs obj "bytes" ∧ Q obj s₁) F.bm_called (F.bm_typeCall _) F.entry_object_init
    (code_bytes_ba hx hz fun t k => ⟨PySem.W.typeIs_bytes _ _ _, hQ t k⟩) fun obj s₁ h₁ => ?_
  exact ⟨h₁.1, F.args_object_init_2 obj _, object_init_meets F.bm_called.init.lookup F.bm_called.made (by decide) prog w A.in1 _ s₁ ⟨h₁.1, rfl, h₁.2⟩⟩
end
theorem fn_runD {C : Cx} {k : Nat} {f : Addr} {name qual : PySem.Str} {params : Arguments} {body : List Stmt} {scope : Scope} {dV kV doc pm cdv ct oc : Value} {an od : Option Addr} {osl : Array (Option Value)} {ids : List Nat} {ds : List D}
    (hl : C.K.lookup f = some ⟨oc, od, .func (fnOf name qual params body scope dV kV doc pm an cdv ct), osl⟩) (hcd : codeIn C.K cdv qual = true) (hlen : ids.length = ds.length)
    (hb : ∀ vs : List Value, vs.length = ids.length → bindArgs (fnOf name qual params body scope dV kV doc pm an cdv ct) ⟨vs, []⟩ = pure ((ids.map nm).zip vs)) (ok : DefOk scope ids)
    {A : Around} {V : View} {s : Shared} {vs : List Value} {R : Result → Shared → Prop} (hr : Room (k + 2) A) (S : St C V s) (rs : Reps V vs ds)
    (h : ∀ (env : Env) (s' : Shared), env.frame = some env.locals → env.scope = scope → env.code = cdv → env.qual = qual ++ ".<locals>." → Room k (A.deeper env) → St C V s' → Frm C env (ids.zip ds) V s'.heap → CellsOnce env → Ext V s V s' → Fresh env s →
      wpD C.M (A.deeper env) (execs body env) (fun fl s'' => R (.ok (.ret (match fl with | .ret v => v | _ => .none))) s'')
        (fun e s'' => wpAny C.M (A.deeper env) (leaving env e) (fun _ s3 => R (.error e) s3) (fun e' s3 => R (.error e') s3) s'') s') :
    codeD C.M A (.call (.ref f) ⟨vs, []⟩) R s := by
  have ho := S.sub _ _ (S.base _ _ (C.inK _ _ hl))
  have hlim : s.heap.NoLimit := by
    obtain ⟨mc, ⟨o, es, ep, e, r⟩, h2⟩ := C.nolimit
    exact ⟨mc, ⟨o, es, ep, S.sub _ _ (S.base _ _ e), r⟩, h2⟩
  have hrec : s.heap.CodeRec cdv qual := (codeRec_of C.inK hcd).keeps fun b o e => S.sub _ _ (S.base _ _ e)
  refine codeD_call_function hr.depth ho rfl ok.co ok.gen rfl hrec ?_
  rw [hb vs (rs.1.trans hlen.symm)]
  refine wpAny_pure ?_
  have bkind : ∀ n, ∀ x ∈ (ids.map nm).zip vs, scope.names.lookup x.1 = some .local ∨ (scope.names.lookup x.1 = some .cell ∧ ((cellsFrom n scope.names []).lookup x.1).isSome = true) := fun n x hx => by
    obtain ⟨i, hi, e⟩ := zip_fst hx
    rw [e]
    refine (ok.params i hi).imp id fun ⟨h1, _⟩ => ⟨h1, ?_⟩
    obtain ⟨c, hc⟩ := lookup_isSome_of_mem (cells_mem (n := n) (acc := []) (.inl (mem_of_lookupN h1)))
    rw [hc]; rfl
  refine wp_toks' S.tk (wpAny_newFunctionEnv_cells ok.kind (bkind _) fun env' he' s' x hn => ?_)
  have hes : env'.scope = scope := by rw [he']; rfl
  have hel : env'.locals = s.heap.objs.size := by rw [he']; rfl
  have hec : env'.cells = cellsFrom (s.heap.objs.size + 1) scope.names [] := by rw [he']; rfl
  obtain ⟨h', tk, rfl, hk⟩ := x.done
  refine ⟨hlim.keeps hk, codeD_func ?_⟩
  have S' : St C V { s with heap := h', toks := tk } := S.keeps hk hn
  have X' : Ext V s V { s with heap := h', toks := tk } := .keeps hk
  have hnd : (env'.cells.map (·.1)).Nodup := by
    rw [hec, cellsFrom_names scope.names (s.heap.objs.size + 1) 0 [] [] rfl]; exact ok.once
  have fr : Fresh env' s := ⟨by rw [hel]; exact get_size, fun y c hc => by
    cases q : s.heap.get? c with
    | none => rfl
    | some o =>
      have h1 : @LT.lt Nat _ env'.locals c := x.above y c (mem_of_lookup hc)
      have h2 := lt_of_get q
      rw [hel] at h1
      omega⟩
  have vnone : ∀ a, s.heap.get? a = none → V a = none := fun a ha => by
    cases q : V a with
    | none => rfl
    | some o => rw [S.sub _ _ q] at ha; cases ha
  have F' : Frm C env' (ids.zip ds) V h' := by
    refine ⟨by rw [hes]; exact ok.kind, by rw [he']; rfl, by rw [he']; rfl, ⟨_, x.toInCall.ns, fun i e hi hk => ?_⟩, vnone _ fr.loc, fun y c hc => ⟨.inl (vnone _ (fr.cell y c hc)), _, x.cell y c hc, fun i e hi hk he => ?_⟩, fun y hy => ?_, fun y z c hy hz => ?_, fun i e hi => ?_⟩
    · obtain ⟨j, h1, h2⟩ := zip_get hi
      have hj : j < vs.length := by have := (List.getElem?_eq_some_iff.mp h2).1; rw [rs.1]; exact this
      exact ⟨vs[j], bindL_get ok.nodup h1 (List.getElem?_eq_getElem hj) hk, rs.2 j _ _ (List.getElem?_eq_getElem hj) h2⟩
    · subst hi
      obtain ⟨j, h1, h2⟩ := zip_get he
      have hj : j < vs.length := by have := (List.getElem?_eq_some_iff.mp h2).1; rw [rs.1]; exact this
      have hk' : env'.kindOf (nm i) = some .cell := by
        rcases hk with hk | hk
        · exact hk
        · rw [hes] at hk; exact absurd rfl (ok.nofree _ (mem_of_lookupN hk))
      exact ⟨vs[j], bindC_get ok.nodup h1 (List.getElem?_eq_getElem hj) hk', rs.2 j _ _ (List.getElem?_eq_getElem hj) h2⟩
    · rw [hes] at hy
      rcases hy with hy | hy
      · rw [hec]; exact lookup_isSome_of_mem (cells_mem (.inl (mem_of_lookupN hy)))
      · exact absurd rfl (ok.nofree _ (mem_of_lookupN hy))
    · exact name_of_addr x.apart (mem_of_lookup hy) (mem_of_lookup hz)
    · obtain ⟨j, h1, _⟩ := zip_get hi
      rw [hes]
      exact (ok.params i (List.mem_of_getElem? h1)).imp id fun h => .inl h.1
  have once : CellsOnce env' := ⟨fun c hc => by
    obtain ⟨⟨y, c'⟩, hm, rfl⟩ := List.mem_map.mp hc
    exact ⟨y, lookup_of_mem_nodup hnd hm⟩, fun y c hc => by
    rw [hes]
    refine ok.cellk y ?_
    rw [← cellsFrom_names scope.names (s.heap.objs.size + 1) 0 [] [] rfl, ← hec]
    exact List.mem_map.mpr ⟨(y, c), mem_of_lookup hc, rfl⟩⟩
  exact h env' _ (by rw [he']; rfl) hes (by rw [he']; rfl) (by rw [he']; rfl) (hr.mono (Nat.le_succ _)).deeper S' F' once X' fr
section
variable {C : Cx} {k : Nat} {sc : Scope} {ρ : Asn}
theorem Op2.itemB {w : List Nat} {i : Nat} (hi : i < w.length) (hw : w.length ≤ 1000) (hb : ∀ c ∈ w, c < 256) : Op2 C k getItem (.bytes (bA w)) (.int i) (.int (w.getD i 0)) := fun A V s v1 v2 hr S r1 r2 => by
  refine Rep.elBytes r1 fun t => ?_
  refine Rep.elInt r2 fun u => ?_
  refine .of_tok S fun E Q q => getItem_bytes (l := w.map Nat.toUInt8) (by simp; (first | lia | omega)) (by (first | lia | omega)) (by simp; (first | lia | omega)) (q _ _ ?_)
  have : (((w.map Nat.toUInt8).getD (i : Int).toNat 0).toNat : Int) = (w.getD i 0 : Nat) := by
    have h1 := hb _ (List.getElem_mem hi)
    simp [List.getD_eq_getElem?_getD, hi]
    (first | lia | omega)
  rw [this]; exact .int _ _
theorem rs2 {n : Nat} (h : 0 < n) : Builtin.Range.rangeSize 0 (2 * n : Nat) n = 2 := by
  rw [rangeSize_pos (by lia) (by lia)]
  have e : ((2 * n : Nat) : Int) + n - 1 = n * 2 + (n - 1) := by push_cast; lia
  rw [e, Int.mul_add_ediv_left _ _ (by lia : (n : Int) ≠ 0), Int.ediv_eq_zero_of_lt (by lia) (by lia)]
  rfl
theorem sm2 {n : Nat} (h : 0 < n) (h2 : n ≤ 1000) : Builtin.Range.small 0 (2 * n : Nat) n = true := by
  unfold Builtin.Range.small
  rw [rs2 h]
  simp only [Builtin.Range.rangeFitsLong, Bool.and_eq_true, Bool.or_eq_true, decide_eq_true_eq, beq_iff_eq, show ((n : Nat) : Int) > 0 by lia, if_true]
  lia
end
section
variable {C : Cx} {k : Nat} {sc : Scope} {ρ : Asn}
theorem ItE.range3N {p pos pt : Pos} {e1 e2 e3 : Expr} {i n : Nat} {x y : PySem.Str} (hy : nm i = y) (hx : sc.names.lookup x = some .globalImplicit) (hf : GFn C x (.type "range")) (h1 : Ev C k sc ρ e1 (.int 0)) (h2 : Ev C k sc ρ e2 (.int (2 * n : Nat))) (h3 : Ev C k sc ρ e3 (.int n)) (hn : 0 < n) (hn2 : n ≤ 1000)
    (hst : ∀ env, starEach [e1, e2, e3] env = [(false, eval e1 env), (false, eval e2 env), (false, eval e3 env)] := by intro _; rfl)
    (hst2 : ∀ env, starEach [e2, e3] env = (false, eval e2 env) :: starEach [e3] env := by intro _; rfl) (hst3 : ∀ env, starEach [e3] env = (false, eval e3 env) :: starEach [] env := by intro _; rfl)
    (hd : (x == ("__debug__" : Str)) = false := by decide) :
    ItE C k sc ρ (.Call (.Name x p) [e1, e2, e3] [] pos) (.Name y pt) ((List.range 2).map fun (j : Nat) => [(i, D.int (j * n : Nat))]) := by
  subst hy
  refine ItE.callOf hx hf (.inr (.inl ⟨_, rfl⟩)) (EvL.cons h1 (EvL.cons h2 (EvL.cons h3 .nil hst3) hst2) fun env => by rw [hst, hst2, hst3]; rfl) (fun A V V1 s s1 vs E Q hr X1 S1 rs q => ?_) (fun env pos => by rw [hst]; rfl) hd
  refine Reps.el3 rs fun v v2 v3 r r2 r3 => ?_
  refine Rep.elInt r fun t => ?_
  refine Rep.elInt r2 fun t2 => ?_
  refine Rep.elInt r3 fun t3 => ?_
  refine call_range_3 (by lia) ?_ (Or.inl (PyProof.noPylong_small (by lia)))
  have hh : ∀ b o, s1.heap.get? b = some o → (s1.heap.push { cls := .type "range", data := .fields #[.int 0 t, .int (2 * n : Nat) t2, .int n t3] }).get? b = some o := fun b o e => Heap.get?_push_of_some _ e
  have S2 : St C V1 { s1 with heap := s1.heap.push { cls := .type "range", data := .fields #[.int 0 t, .int (2 * n : Nat) t2, .int n t3] } } := S1.keeps (tk := s1.toks) hh
  have X2 : Ext V s V1 { s1 with heap := s1.heap.push { cls := .type "range", data := .fields #[.int 0 t, .int (2 * n : Nat) t2, .int n t3] } } := X1.trans (.keeps (tk := s1.toks) hh)
  have hR : IsRange (s1.heap.push { cls := .type "range", data := .fields #[.int 0 t, .int (2 * n : Nat) t2, .int n t3] }) s1.heap.objs.size 0 (2 * n : Nat) n t t2 t3 := Heap.get?_push_size _ rfl
  generalize s1.heap.objs.size = r at *
  generalize (s1.heap.push { cls := .type "range", data := .fields #[.int 0 t, .int (2 * n : Nat) t2, .int n t3] }) = h1 at *
  refine wpAny_pyIter_range (s := { s1 with heap := h1 }) hR (sm2 hn hn2) ?_
  have hf := X2.fresh S2
  rw [Mine.rs2 hn]
  have e1 : ((List.range 2).map fun (j : Nat) => [(i, D.int (j * n : Nat))]) = (((List.range 2).map fun (j : Nat) => D.int (j * n : Nat)).map fun d => [(i, d)]) := by rw [List.map_map]; rfl
  rw [e1] at q
  refine q _ V1 _ _ _ _ (X2.trans (.keeps (tk := s1.toks) fun b o e => Heap.get?_push_of_some _ e)) (S2.push _) (Its.ofWalks (Walks.range hr.2.2 h1.objs.size 0 n 2) (by simp) (fun j v d hv hd => ?_) (fun j h st b hb => ?_) ?_) ?_ (fun b hb => ?_) (fun b hb => ?_) fun b hb => ?_
  · obtain ⟨t, rfl⟩ := hv
    rw [List.getElem?_map] at hd
    obtain ⟨m, hm, rfl⟩ := Option.map_eq_some_iff.mp hd
    obtain ⟨h1, h2⟩ := List.getElem?_eq_some_iff.mp hm
    simp at h2
    subst h2
    have : (0 : Int) + (j : Int) * n = ((j * n : Nat) : Int) := by push_cast; lia
    rw [this]; exact .int _ _
  · simp at hb; subst hb; exact ⟨_, st⟩
  · exact fun q => S2.tabNe (List.mem_singleton.mp q)
  · show IsRangeIter _ _ _ _ _
    have e0 : (0 : Int) + ((0 : Nat) : Int) * n = 0 := by simp
    have e2 : ((2 : Nat) : Int) - ((0 : Nat) : Int) = 2 := by lia
    rw [e0, e2]
    exact Heap.get?_push_size _ rfl
  · simp at hb; subst hb; exact ⟨hf, S2.newFree⟩
  · simp at hb; subst hb; exact .inr ⟨hf, S2.newFree⟩
  · simp at hb; subst hb; exact ⟨_, Heap.get?_push_size _ rfl⟩
end
noncomputable def swp1 (W : List Nat) (n i : Nat) (b : List Nat) (m : Nat) : List Nat := (List.range m).foldl (fun b j => b.set (i + n - 1 - j) (W.getD (i + j) 0)) b
noncomputable def swp (W : List Nat) (n m : Nat) : List Nat := (List.range m).foldl (fun b k => swp1 W n (k * n) b n) (List.replicate (2 * n) 0)
theorem swp1_succ (W : List Nat) (n i : Nat) (b : List Nat) (m : Nat) : swp1 W n i b (m + 1) = (swp1 W n i b m).set (i + n - 1 - m) (W.getD (i + m) 0) := by
  unfold swp1; rw [List.range_succ, List.foldl_append]; rfl
theorem swp_succ (W : List Nat) (n m : Nat) : swp W n (m + 1) = swp1 W n (m * n) (swp W n m) n := by
  unfold swp; rw [List.range_succ, List.foldl_append]; rfl
theorem swp1_len (W : List Nat) (n i : Nat) (b : List Nat) (m : Nat) : (swp1 W n i b m).length = b.length := by
  induction m with
  | zero => rfl
  | succ m ih => rw [swp1_succ, List.length_set, ih]
theorem swp_len (W : List Nat) (n m : Nat) : (swp W n m).length = 2 * n := by
  induction m with
  | zero => simp [swp]
  | succ m ih => rw [swp_succ, swp1_len, ih]
theorem swp1_get (W : List Nat) (n i : Nat) (b : List Nat) (hb : i + n ≤ b.length) : ∀ m, m ≤ n → ∀ p, (swp1 W n i b m)[p]? = if i + n - m ≤ p ∧ p < i + n then some (W.getD (i + (i + n - 1 - p)) 0) else b[p]?
  | 0, _, p => by rw [if_neg (by lia)]; rfl
  | m + 1, hm, p => by
    rw [swp1_succ, List.getElem?_set, swp1_len, swp1_get W n i b hb m (by lia) p]
    by_cases h1 : i + n - 1 - m = p
    · subst h1
      rw [if_pos rfl, if_pos (by lia), if_pos (by lia)]
      congr 2; lia
    · rw [if_neg h1]
      by_cases h2 : i + n - m ≤ p ∧ p < i + n
      · rw [if_pos h2, if_pos (by lia)]
      · rw [if_neg h2, if_neg (by lia)]
theorem swp_two {W : List Nat} {n : Nat} (h : W.length = 2 * n) : swp W n 2 = (W.take n).reverse ++ (W.drop n).reverse := by
  have l0 : (swp W n 0).length = 2 * n := swp_len W n 0
  have l1 : (swp W n 1).length = 2 * n := swp_len W n 1
  refine List.ext_getElem? fun p => ?_
  rw [swp_succ, swp1_get _ _ _ _ (by lia) n (Nat.le_refl _), swp_succ, swp1_get _ _ _ _ (by lia) n (Nat.le_refl _)]
  have hl : (W.take n).length = n := by simp; lia
  by_cases h1 : p < n
  · rw [if_neg (by lia), if_pos (by lia), List.getElem?_append_left (by simp; lia), List.getElem?_reverse (by lia), hl, List.getElem?_take_of_lt (by lia)]
    rw [List.getD_eq_getElem?_getD, List.getElem?_eq_getElem (by lia : 0 * n + (0 * n + n - 1 - p) < W.length)]
    rw [List.getElem?_eq_getElem (by lia : n - 1 - p < W.length)]
    simp
  · by_cases h2 : p < 2 * n
    · rw [if_pos (by lia), List.getElem?_append_right (by simp; lia), List.length_reverse, hl, List.getElem?_reverse (by simp; lia), List.length_drop, List.getElem?_drop]
      rw [List.getD_eq_getElem?_getD, List.getElem?_eq_getElem (by lia : 1 * n + (1 * n + n - 1 - p) < W.length), List.getElem?_eq_getElem (by lia : n + (W.length - n - 1 - (p - n)) < W.length)]
      simp only [Option.getD_some]
      congr 2; lia
    · rw [if_neg (by lia), if_neg (by lia), List.getElem?_eq_none (by lia), List.getElem?_eq_none (by simp; lia)]
theorem bA_set (b : List Nat) (k v : Nat) : bA (b.set k v) = (bA b).setIfInBounds k v.toUInt8 := by
  unfold bA
  simp [List.map_set]
theorem bA_zero (n : Nat) : Array.replicate n (0 : UInt8) = bA (List.replicate n 0) := by
  unfold bA; simp
theorem bA_size (b : List Nat) : (bA b).size = b.length := by simp [bA]
section
variable {C : Cx} {k : Nat} {sc : Scope} {ρ : Asn} {a : Addr} {b : Array UInt8} {Pn : Asn → Array UInt8 → Prop}
theorem ExB.set {i : Nat} {x : PySem.Str} {p sp pos : Pos} {ie ve : Expr} {kk v : Nat} (hx : nm i = x) (hg : ρ.get i = some (.own a)) (hi : Ev C k sc ρ ie (.int kk)) (hv : Ev C k sc ρ ve (.int v)) (hkk : kk < b.size) (hv2 : v < 256) (hz : b.size ≤ sizeLine)
    (hs : ∀ env, swapsWith ve (some (.Subscript (.Name x p) ie sp)) pos.line env = pure false) (hp : Pn ρ (b.setIfInBounds kk v.toUInt8)) : ExB C k sc ρ a b (exec (.Assign [.Subscript (.Name x p) ie sp] ve pos)) Pn := fun env A V s V0 s0 he hr S F O X f fa o E Q qn => by
  subst hx
  refine wpAny_Assign_Subscript (hv env A V s he hr S F E _ fun v1 V1 s1 X1 S1 r1 => ?_) (hs env)
  have F1 := F.ext S X1
  refine Ev.name (C := C) (k := k) (i := i) rfl hg env A V1 s1 he hr S1 F1 E _ fun v2 V2 s2 X2 S2 r2 => ?_
  have F2 := F1.ext S1 X2
  refine hi env A V2 s2 he hr S2 F2 E _ fun v3 V3 s3 X3 S3 r3 => ?_
  have F3 := F2.ext S2 X3
  have o3 := ((o.ext X1).ext X2).ext X3
  obtain rfl := r2.is
  refine Rep.elInt r1 fun t => ?_
  refine Rep.elInt r3 fun u => ?_
  refine ba_setItem o3.at_ hkk hv2 hz fun h' e k' => ?_
  have S4 : St C V3 { s3 with heap := h' } := S3.write (tk := s3.toks) o3.free o3.tab k'
  exact qn ρ _ V3 _ (Ext.write (s' := s3) (((X.trans X1).trans X2).trans X3) S4 fa k') S4 (F3.stay (fun o e => (k' _ (F3.neLoc o3).symm).trans e) fun y c o hc e => (k' _ (F3.neCell o3 y c hc)).trans e) ⟨e, o3.free, o3.tab⟩ hp
end
noncomputable def CallD (C : Cx) (k : Nat) (f : Value) (ds : List D) (d : D) : Prop := ∀ (A : Around) (V : View) (s : Shared) (vs : List Value), Room k A → St C V s → Reps V vs ds →
  ∀ (E : Value → Shared → Prop) (Q : Value → Shared → Prop), (∀ v V' s', Ext V s V' s' → St C V' s' → Rep V' v d → Q v s') → wpD C.M A (PySem.call f vs []) Q E s
section
variable {C : Cx} {k : Nat}
theorem byteswapC (H : Hd C) {W : List Nat} {n : Nat} (hn : 0 < n) (hn2 : n ≤ 100) (hW : W.length = 2 * n) (hb : ∀ c ∈ W, c < 256) : CallD C (k + 2) (.ref 172) [.bytes (bA W), .int n] (.bytes (bA (swp W n 2))) := fun A V s vs hr S rs E Q q => by
  refine wpD_call ?_
  refine' fn_runD (k := k) (f := 172) (ids := [i_data, i_width]) ?hl ?hcd rfl ?hb ?ok hr S rs fun env s1 _ he hco hqu hr1 S1 F1 O1 X1 f1 => ?body
  case hl => rw [H.K]; exact rfl
  case hcd => rw [H.K]; kernel_rfl
  case hb => intro vs hv; obtain ⟨_, _, rfl⟩ := len2 hv; exact rfl
  case ok => exact DefOk.of (by decide +kernel)
  case body =>
  refine wpD_execs_cons ?_
  have e0 : ∀ {x y : PySem.Str} {p pn pc pos : Pos} {args : List Expr} {env : Env}, exec (.Assign [.Name x p] (.Call (.Name y pn) args [] pc) pos) env = (do
      standAt pos
      let v ← eval (.Call (.Name y pn) args [] pc) env
      PySem.assign (.Name x p) env v
      pure .next) := rfl
  rw [e0]
  refine wpD_bindL (wpAny_standAt (wpD_bind ?_))
  refine wpD_bindL (Name_function_global F1.kind (by show env.scope.names.lookup _ = _; rw [he]; rfl) ((gb_bytearray H).load S1 F1 ?_) (by decide))
  refine wpD_callWith_type rfl (evalArgs_of rfl (Calls.spliced_cons ((Ev.call (C := C) (k := k) (x := Str.ofString "len") rfl (gb_len H) (.inl ⟨_, rfl⟩) (EvL.cons (Ev.name (i := i_data) (d := .bytes (bA W)) rfl (by walk_at "lk")) .nil) (CallR.lenB (by rw [bA_size]; lia))) env (A.deeper env) V s1 he hr1 S1 F1 _ _ fun v V2 s2 X2 S2 r => Calls.spliced_nil ?_)))
  refine Rep.elInt r fun t => ?_
  have hsz : (bA W).size ≤ sizeLine := by rw [bA_size, sizeLine_eq]; lia
  refine call_ba (n := (bA W).size) hsz fun h3 e3 k3 => wpD_of ?_
  rw [bA_zero, bA_size, hW] at e3
  have na2 : s2.heap.get? s2.heap.objs.size = none := get_size
  have na : s.heap.get? s2.heap.objs.size = none := (X1.trans X2).none0 na2 S2.tabNe.symm
  have S3 : St C V2 { s2 with heap := h3 } := S2.keeps (tk := s2.toks) k3
  have X3 : Ext V s V2 { s2 with heap := h3 } := (X1.trans X2).trans (.keeps (tk := s2.toks) k3)
  have o3 : Own V2 { s2 with heap := h3 } s2.heap.objs.size (baO (bA (List.replicate (2 * n) 0))) := ⟨e3, S2.newFree, S2.tabNe.symm⟩
  have F3 := (F1.ext S1 X2).ext S2 (.keeps (V := V2) (tk := s2.toks) k3)
  generalize s2.heap.objs.size = a at *
  refine wpAny_bind (wpAny_assign_Name (F3.store (i := i_swapped_data) (d := .own a) S3 (.inl (by rw [he]; rfl)) (.own a) fun h4 tk4 k4 l4 S4 F4 => wpAny_pure (wpD_of ?_)))
  have X4 := Ext.store X3 f1 S4 k4
  have o4 : Own V2 { s2 with heap := h4, toks := tk4 } a (baO (bA (List.replicate (2 * n) 0))) := o3.store k4 (F3.neTgt o3)
  refine wpAny_execs_cons (ExB.for (k := k) (a := a) (b := bA (List.replicate (2 * n) 0)) (Pn := fun ρ' b' => ρ'.get i_swapped_data = some (.own a) ∧ b' = bA (swp W n 2)) (List.range 2) (fun (j : Nat) => [(i_i, .int (j * n : Nat))]) (fun _ => [(i_swapped_data, .own a), (i_data, .bytes (bA W)), (i_width, .int n)]) (fun m => bA (swp W n m))
    (ItE.range3N (n := n) rfl rfl (gb_range H) Ev.int (Ev.cast (Ev.call (x := Str.ofString "len") rfl (gb_len H) (.inl ⟨_, rfl⟩) (EvL.cons (Ev.name (i := i_data) (d := .bytes (bA W)) rfl (by walk_at "lk")) .nil) (CallR.lenB (by rw [bA_size]; lia))) (by rw [bA_size, hW])) (Ev.name (i := i_width) rfl (by walk_at "lk")) hn (by lia))
    (fun j _ p hp => by rcases List.mem_singleton.mp hp with rfl; exact .inl rfl) (.cons (by walk_at "lk") (.cons (by walk_at "lk") (.cons (by walk_at "lk") .nil))) rfl (fun m hm => ?bd) ⟨Asn.here, by rw [List.length_range]⟩ (fun _ _ => rfl) env (A.deeper env) V2 _ V s he hr1 S4 F4 O1 X4 f1 na o4 _ _ fun ρ' b' V5 s5 X5 S5 F5 o5 hp => ?rest)
  case bd =>
    rw [List.length_range] at hm
    rw [List.getElem_range]
    refine ExB.cons (P1 := fun ρ' b' => Asn.Le [(i_swapped_data, .own a), (i_data, .bytes (bA W)), (i_width, .int n)] ρ' ∧ b' = bA (swp W n (m + 1))) (ExB.for (List.range n) (fun (j : Nat) => [(i_j, .int j)]) (fun _ => [(i_i, .int (m * n : Nat)), (i_swapped_data, .own a), (i_data, .bytes (bA W)), (i_width, .int n)]) (fun q => bA (swp1 W n (m * n) (swp W n m) q))
      (ItE.range1N (n := n) (z := n) rfl rfl (gb_range H) (Ev.name (i := i_width) rfl (by walk_at "lk")) rfl (by lia)) (fun j _ p hp => by rcases List.mem_singleton.mp hp with rfl; exact .inl rfl) (.cons (by walk_at "lk") (.cons (by walk_at "lk") (.cons (by walk_at "lk") (.cons (by walk_at "lk") .nil)))) rfl (fun j hj => ?bd2) ⟨.cons (by walk_at "lk") (.cons (by walk_at "lk") (.cons (by walk_at "lk") .nil)), by rw [List.length_range, swp_succ]⟩) fun ρ' b' hp => ExB.nil hp
    rw [List.length_range] at hj
    rw [List.getElem_range]
    have hmn : m * n + n ≤ 2 * n := by
      have : m = 0 ∨ m = 1 := by lia
      rcases this with rfl | rfl <;> lia
    refine ExB.cons (P1 := fun ρ' b' => Asn.Le [(i_i, .int (m * n : Nat)), (i_swapped_data, .own a), (i_data, .bytes (bA W)), (i_width, .int n)] ρ' ∧ b' = bA (swp1 W n (m * n) (swp W n m) (j + 1))) (ExB.set (i := i_swapped_data) (kk := m * n + n - 1 - j) (v := W.getD (m * n + j) 0) rfl (by walk_at "lk")
      (Ev.cast (Ev.bin (Ev.bin (Ev.bin (Ev.name (i := i_i) (d := .int (m * n : Nat)) rfl (by walk_at "lk")) (Ev.name (i := i_width) (d := .int n) rfl (by walk_at "lk")) Op2.addI) Ev.int Op2.subI) (Ev.name (i := i_j) (d := .int j) rfl (by walk_at "lk")) Op2.subI) (by congr 1; lia))
      (Ev.sub (d2 := .int (m * n + j : Nat)) (Ev.name (i := i_data) (d := .bytes (bA W)) rfl (by walk_at "lk")) (Ev.cast (Ev.bin (Ev.name (i := i_i) (d := .int (m * n : Nat)) rfl (by walk_at "lk")) (Ev.name (i := i_j) (d := .int j) rfl (by walk_at "lk")) Op2.addI) (by congr 1)) (by show "bytes" ≠ "?"; decide) PySem.W.FB.slot_bytes_getitem.lookup (Op2.itemB (by lia) (by lia) hb))
      (by rw [bA_size, swp1_len, swp_len]; lia) ?v (by rw [bA_size, swp1_len, swp_len, sizeLine_eq]; lia) (fun _ => rfl) ⟨.cons (by walk_at "lk") (.cons (by walk_at "lk") (.cons (by walk_at "lk") (.cons (by walk_at "lk") .nil))), by rw [swp1_succ, bA_set]⟩) fun ρ' b' hp => ExB.nil hp
    case v =>
      have hlt : m * n + j < W.length := by lia
      rw [List.getD_eq_getElem?_getD, List.getElem?_eq_getElem hlt]
      exact hb _ (List.getElem_mem hlt)
  case rest =>
    obtain ⟨hg, rfl⟩ := hp
    refine wpAny_execs_cons ?_
    rw [exec_Return_some]
    refine wpAny_bind (wpAny_standAt (wpAny_bind ?_))
    refine wpAny_bind (Name_function_global F5.kind (by show env.scope.names.lookup _ = _; rw [he]; rfl) ((gb_bytes H).load S5 F5 ?_) (by decide))
    refine PySem.callWith_type rfl (evalArgs_of rfl (Calls.spliced_cons (Ev.name (C := C) (k := k) (i := i_swapped_data) rfl hg env (A.deeper env) V5 s5 he hr1 S5 F5 _ _ fun v V6 s6 X6 S6 r => Calls.spliced_nil ?_)))
    obtain rfl := r.is
    have o6 := o5.ext X6
    refine wp_toks' S6.tk (call_bytes_ba (b := bA (swp W n 2)) o6.at_ (by rw [bA_size, swp_len, sizeLine_eq]; lia) fun t k hk => wpAny_pure (q _ V6 _ ((X5.trans X6).trans (.keeps (h' := s6.heap) fun _ _ e => e)) (S6.keeps (h' := s6.heap) (fun _ _ e => e) hk) (.bytes _ _)))
end
end
section
open PySem PySem.Sre
noncomputable def Goes (n : Nat) (m m' : M) : Prop := ∀ j, M.runFor (n + j) m = M.runFor j m'
theorem Goes.refl (m : M) : Goes 0 m m := fun j => by rw [Nat.zero_add]
theorem Goes.trans {n k : Nat} {m m' m'' : M} (h : Goes n m m') (h' : Goes k m' m'') : Goes (n + k) m m'' := fun j => by
  rw [Nat.add_assoc, h, h']
theorem Goes.step {m : M} (h : m.outcome.isSome = false) : Goes 1 m m.step := fun j => by
  rw [Nat.add_comm]
  show (if m.outcome.isSome then m else M.runFor j m.step) = _
  rw [h]; rfl
theorem Goes.next {n : Nat} {m m1 m' : M} (h : m.outcome.isSome = false) (e : m.step = m1) (h' : Goes n m1 m') : Goes (1 + n) m m' := (e ▸ Goes.step h).trans h'
theorem runFor_done {m : M} (h : m.outcome.isSome = true) : ∀ j, M.runFor j m = m
  | 0 => rfl
  | j + 1 => by show (if m.outcome.isSome then m else _) = _; rw [h]; rfl
theorem runFor_add (a : Nat) : ∀ (b : Nat) (m : M), M.runFor (a + b) m = M.runFor b (M.runFor a m) := by
  induction a with
  | zero => intro b m; rw [Nat.zero_add]; rfl
  | succ a ih =>
    intro b m
    rw [show a + 1 + b = (a + b) + 1 by lia]
    show (if m.outcome.isSome then m else M.runFor (a + b) m.step) = M.runFor b (if m.outcome.isSome then m else M.runFor a m.step)
    cases h : m.outcome.isSome with
    | true => simp only [if_true]; rw [runFor_done h]
    | false => simp only [Bool.false_eq_true, if_false]; exact ih b m.step
noncomputable abbrev c1 : Array Nat := #[14, 4, 0, 1, 1, 6, 1, 16, 46, 1]
noncomputable abbrev c3 : Array Nat := #[14, 9, 4, 1, 2, 16, 10, 16, 13, 0, 7, 7, 16, 13, 16, 10, 15, 18, 5, 16, 10, 15, 13, 11, 16, 13, 5, 5, 0, 16, 10, 1, 15, 2, 0, 1]
noncomputable abbrev mk (code text : Array Nat) (start last : Nat) (must : Bool) (pc pos handed : Nat) (om : Bool) (fs : List Sre.Frame) (wt : Nat) (ans : Option Bool) (seen : Sre.Seen) : M :=
  { code, text, lim := text.size, start, lastStart := last, wholeText := false, mustAdvance := must, pc, pos, handed, outermost := om, marks := #[], lastmark := -1, lastindex := -1, loops := #[], inner := none, frames := fs, weight := wt, answer := ans, seen, outcome := none }
noncomputable abbrev fr0 (w : Wait) (pc pos : Nat) (om : Bool) : Sre.Frame := { wait := w, pc, pos, outermost := om }
section
variable {code text : Array Nat} {start last pc pos handed wt : Nat} {must om : Bool} {fs : List Sre.Frame} {seen : Sre.Seen}
theorem st_lit_ok {c : Nat} (h0 : code.getD pc 0 = 16) (h1 : code.getD (pc + 1) 0 = c) (hs : pc < code.size) (hp : pos < text.size) (hc : text.getD pos 0 = c) :
    ∃ sn, (mk code text start last must pc pos handed om fs wt none seen).step = mk code text start last must (pc + 2) (pos + 1) handed om fs wt none sn := by
  have e : ops[code.getD pc 0]? = some .LITERAL := by rw [h0]; rfl
  refine ⟨seen.add (code.getD pc 0), ?_⟩
  unfold M.step M.exec M.word
  simp only [Option.isSome_none, Bool.false_eq_true, if_false, hs, if_true, Nat.add_zero, e]
  rw [if_neg (Nat.not_le.mpr hp)]
  unfold accepts itemWidth
  simp only [e, hc, h1, beq_self_eq_true]
theorem st_lit_no {c : Nat} (h0 : code.getD pc 0 = 16) (h1 : code.getD (pc + 1) 0 = c) (hs : pc < code.size) (hc : text.size ≤ pos ∨ text.getD pos 0 ≠ c) :
    ∃ sn, (mk code text start last must pc pos handed om fs wt none seen).step = mk code text start last must pc pos handed om fs wt (some false) sn := by
  have e : ops[code.getD pc 0]? = some .LITERAL := by rw [h0]; rfl
  by_cases hp : text.size ≤ pos
  · refine ⟨seen.add (code.getD pc 0), ?_⟩
    unfold M.step M.exec M.word
    simp only [Option.isSome_none, Bool.false_eq_true, if_false, hs, if_true, Nat.add_zero, e]
    rw [if_pos hp]
    rfl
  · refine ⟨seen.add (code.getD pc 0), ?_⟩
    unfold M.step M.exec M.word
    simp only [Option.isSome_none, Bool.false_eq_true, if_false, hs, if_true, Nat.add_zero, e]
    rw [if_neg hp]
    have hc' : (text.getD pos 0 == c) = false := by simpa using hc.resolve_left hp
    unfold accepts
    simp only [e, h1, hc']
    rfl
theorem st_branch (h0 : code.getD pc 0 = 7) (h1 : code.getD (pc + 1) 0 ≠ 0) (hs : pc < code.size) (hw : wt ≤ 100) :
    ∃ sn, (mk code text start last must pc pos handed om fs wt none seen).step = mk code text start last must (pc + 2) pos pos om (fr0 .nextBranch (pc + 1) pos om :: fs) (wt + 1) none sn := by
  have e : ops[code.getD pc 0]? = some .BRANCH := by rw [h0]; rfl
  refine ⟨seen.add (code.getD pc 0), ?_⟩
  unfold M.step M.exec M.word
  simp only [Option.isSome_none, Bool.false_eq_true, if_false, hs, if_true, Nat.add_zero, e]
  unfold M.alternative M.attempt M.frame M.keep
  have h1' : (code.getD (pc + 1) 0 == 0) = false := by simpa using h1
  simp only [h1', Bool.false_eq_true, if_false]
  rw [if_neg (by show ¬ wt + 1 + 0 > 16777216; lia)]
  rfl
theorem st_alt {p q : Nat} {om' : Bool} (h1 : code.getD (p + code.getD p 0) 0 ≠ 0) (hw : wt ≤ 100) :
    (mk code text start last must pc pos handed om (fr0 .nextBranch p q om' :: fs) wt (some false) seen).step = mk code text start last must (p + code.getD p 0 + 1) q q om' (fr0 .nextBranch (p + code.getD p 0) q om' :: fs) (wt - 1 + 1) none seen := by
  unfold M.step M.resume M.putBack M.alternative M.attempt M.frame
  have h1' : (code.getD (p + code.getD p 0) 0 == 0) = false := by simpa using h1
  simp only [Option.isSome_none, Bool.false_eq_true, if_false, h1']
  rw [if_neg (by show ¬ wt - (1 + 0) + 1 + 0 > 16777216; omega)]
  rfl
theorem st_yes {w : Wait} (hw : w = .nextBranch ∨ w = .nextStart) {p q : Nat} {om' : Bool} :
    (mk code text start last must pc pos handed om (fr0 w p q om' :: fs) wt (some true) seen).step = mk code text start last must p q handed om' fs (wt - 1) (some true) seen := by
  rcases hw with rfl | rfl <;> rfl
theorem st_jump (h0 : code.getD pc 0 = 15) (hs : pc < code.size) :
    ∃ sn, (mk code text start last must pc pos handed om fs wt none seen).step = mk code text start last must (pc + 1 + code.getD (pc + 1) 0) pos handed om fs wt none sn := by
  have e : ops[code.getD pc 0]? = some .JUMP := by rw [h0]; rfl
  refine ⟨seen.add (code.getD pc 0), ?_⟩
  unfold M.step M.exec M.word
  simp only [Option.isSome_none, Bool.false_eq_true, if_false, hs, if_true, Nat.add_zero, e]
theorem st_success (h0 : code.getD pc 0 = 1) (hs : pc < code.size) :
    ∃ sn, (mk code text start last false pc pos handed om fs wt none seen).step = mk code text start last false pc pos pos om fs wt (some true) sn := by
  have e : ops[code.getD pc 0]? = some .SUCCESS := by rw [h0]; rfl
  refine ⟨seen.add (code.getD pc 0), ?_⟩
  unfold M.step M.exec M.word
  simp only [Option.isSome_none, Bool.false_eq_true, if_false, hs, if_true, Nat.add_zero, e, Bool.false_and, Bool.or_self, Bool.and_false]
  rfl
theorem st_not (h0 : code.getD pc 0 = 5) (h2 : code.getD (pc + 2) 0 = 0) (hs : pc < code.size) (hw : wt ≤ 100) :
    ∃ sn, (mk code text start last must pc pos handed om fs wt none seen).step = mk code text start last must (pc + 3) pos pos false (fr0 .lookNot pc pos om :: fs) (wt + 1) none sn := by
  have e : ops[code.getD pc 0]? = some .ASSERT_NOT := by rw [h0]; rfl
  refine ⟨seen.add (code.getD pc 0), ?_⟩
  unfold M.step M.exec M.word
  simp only [Option.isSome_none, Bool.false_eq_true, if_false, hs, if_true, Nat.add_zero, e, h2, Nat.not_lt_zero, Nat.sub_zero]
  unfold M.attempt M.frame M.keep
  rw [if_neg (by show ¬ wt + 1 + 0 > 16777216; omega)]
  rfl
theorem st_not_no {p q : Nat} {om' : Bool} :
    (mk code text start last must pc pos handed om (fr0 .lookNot p q om' :: fs) wt (some false) seen).step = mk code text start last must (p + 1 + code.getD (p + 1) 0) q handed om' fs (wt - 1) none seen := by rfl
theorem st_end {b : Bool} : (mk code text start last must pc pos handed om [] wt (some b) seen).step = { mk code text start last must pc pos handed om [] wt (some b) seen with outcome := some (if b then .matched else .failed) } := rfl
structure Found (m : M) (s e : Nat) : Prop where
  out : m.outcome = some .matched
  start : m.start = s
  handed : m.handed = e
end
noncomputable def Ends (N : Nat) (m : M) (P : M → Prop) : Prop := ∃ n, n ≤ N ∧ ∃ m', Goes n m m' ∧ P m'
theorem Ends.here {N : Nat} {m : M} {P : M → Prop} (h : P m) : Ends N m P := ⟨0, Nat.zero_le _, m, .refl m, h⟩
theorem Ends.eq {N : Nat} {m m1 : M} {P : M → Prop} (ho : m.outcome.isSome = false) (e : m.step = m1) (h : Ends N m1 P) : Ends (N + 1) m P :=
  let ⟨n, hn, m', g, p⟩ := h; ⟨1 + n, by lia, m', .next ho e g, p⟩
theorem Ends.ex {N : Nat} {m : M} {F : Sre.Seen → M} {P : M → Prop} (ho : m.outcome.isSome = false) (e : ∃ sn, m.step = F sn) (h : ∀ sn, Ends N (F sn) P) : Ends (N + 1) m P :=
  let ⟨sn, e⟩ := e; Ends.eq ho e (h sn)
theorem Ends.le {N N' : Nat} {m : M} {P : M → Prop} (h : Ends N m P) (hn : N ≤ N') : Ends N' m P := let ⟨n, h1, r⟩ := h; ⟨n, Nat.le_trans h1 hn, r⟩
section
variable {text : Array Nat} {start last pc pos handed wt : Nat} {must om : Bool} {fs : List Sre.Frame} {seen : Sre.Seen}
theorem fin3 {s : Nat} {p1 q1 q2 : Nat} {o1 o2 : Bool} (hs : pc = 35) : Ends 4 (mk c3 text s last false pc pos handed om [fr0 .nextBranch p1 q1 o1, fr0 .nextStart 10 q2 o2] 2 none seen) fun m => Found m s pos := by
  subst hs
  refine Ends.ex rfl (st_success rfl (by decide)) fun sn => ?_
  refine Ends.eq rfl (st_yes (.inl rfl)) ?_
  refine Ends.eq rfl (st_yes (.inr rfl)) ?_
  refine Ends.eq rfl st_end ?_
  exact Ends.here ⟨rfl, rfl, rfl⟩
theorem go3 {s : Nat} (hs : s < text.size) (hc : text.getD s 0 = 10 ∨ text.getD s 0 = 13) :
    Ends 30 (mk c3 text s last false 10 s s om [fr0 .nextStart 10 s om] 1 none seen) fun m => Found m s (if text.getD s 0 = 13 ∧ s + 1 < text.size ∧ text.getD (s + 1) 0 = 10 then s + 2 else s + 1) := by
  refine Ends.ex rfl (st_branch rfl (by decide) (by decide) (by decide)) fun sn => ?_
  rcases hc with hc | hc
  · rw [if_neg (by rw [hc]; omega)]
    refine Ends.ex rfl (st_lit_no (c := 13) rfl rfl (by decide) (.inr (by omega))) fun sn => ?_
    refine Ends.eq rfl (st_alt (by decide) (by decide)) ?_
    refine Ends.ex rfl (st_lit_ok (c := 10) rfl rfl (by decide) hs hc) fun sn => ?_
    refine Ends.ex rfl (st_jump rfl (by decide)) fun sn => ?_
    exact (fin3 (by rfl)).le (by decide)
  · by_cases h2 : s + 1 < text.size ∧ text.getD (s + 1) 0 = 10
    · rw [if_pos ⟨hc, h2.1, h2.2⟩]
      refine Ends.ex rfl (st_lit_ok (c := 13) rfl rfl (by decide) hs hc) fun sn => ?_
      refine Ends.ex rfl (st_lit_ok (c := 10) rfl rfl (by decide) h2.1 h2.2) fun sn => ?_
      refine Ends.ex rfl (st_jump rfl (by decide)) fun sn => ?_
      exact (fin3 (by rfl)).le (by decide)
    · rw [if_neg (by rintro ⟨_, h⟩; exact h2 h)]
      have hno : text.size ≤ s + 1 ∨ text.getD (s + 1) 0 ≠ 10 := by
        by_cases h3 : s + 1 < text.size
        · exact .inr fun h => h2 ⟨h3, h⟩
        · exact .inl (by omega)
      refine Ends.ex rfl (st_lit_ok (c := 13) rfl rfl (by decide) hs hc) fun sn => ?_
      refine Ends.ex rfl (st_lit_no (c := 10) rfl rfl (by decide) hno) fun sn => ?_
      refine Ends.eq rfl (st_alt (by decide) (by decide)) ?_
      refine Ends.ex rfl (st_lit_no (c := 10) rfl rfl (by decide) (.inr (by omega))) fun sn => ?_
      refine Ends.eq rfl (st_alt (by decide) (by decide)) ?_
      refine Ends.ex rfl (st_lit_ok (c := 13) rfl rfl (by decide) hs hc) fun sn => ?_
      refine Ends.ex rfl (st_not rfl rfl (by decide) (by decide)) fun sn => ?_
      refine Ends.ex rfl (st_lit_no (c := 10) rfl rfl (by decide) hno) fun sn => ?_
      refine Ends.eq rfl st_not_no ?_
      refine Ends.ex rfl (st_jump rfl (by decide)) fun sn => ?_
      exact (fin3 (by rfl)).le (by decide)
end
noncomputable abbrev isEol (c : Nat) : Bool := c == 10 || c == 13
theorem inSet3 (c : Nat) (seen : Sre.Seen) : ∃ sn, inSet c3 c c3.size 5 true seen = .ok (isEol c, sn) := by
  show ∃ sn, inSet c3 c 36 5 true seen = .ok (isEol c, sn)
  by_cases h1 : c = 10
  · subst h1; exact ⟨_, rfl⟩
  · by_cases h2 : c = 13
    · subst h2; exact ⟨_, rfl⟩
    · refine ⟨((seen.add 16).add 16).add 0, ?_⟩
      have e1 : (c == 10) = false := by simpa using h1
      have e2 : (c == 13) = false := by simpa using h2
      show (if c == 10 then _ else inSet c3 c 35 (5 + 2) true (seen.add 16)) = _
      rw [e1]
      simp only [Bool.false_eq_true, if_false]
      show (if c == 13 then _ else inSet c3 c 34 (5 + 2 + 2) true ((seen.add 16).add 16)) = _
      rw [e2]
      simp only [Bool.false_eq_true, if_false]
      show Except.ok (!true, _) = _
      unfold isEol
      rw [e1, e2]; rfl
noncomputable def nx (text : Array Nat) : Nat → Nat → Option Nat
  | 0, _ => none
  | f + 1, s => if s ≥ text.size then none else if isEol (text.getD s 0) = true then some s else nx text f (s + 1)
theorem admitted3 {m : M} {text : Array Nat} (hc : m.code = c3) (ht : m.text = text) (hl : m.lim = text.size) : ∀ (f s : Nat) (seen : Sre.Seen), ∃ sn, M.admitted m f s seen = .ok (nx text f s, sn)
  | 0, _, seen => ⟨seen, rfl⟩
  | f + 1, s, seen => by
    show ∃ sn, (if s ≥ m.lim then Except.ok (none, seen) else match inSet m.code (m.text.getD s 0) m.code.size 5 true seen with
      | .ok (true, seen) => .ok (some s, seen)
      | .ok (false, seen) => m.admitted f (s + 1) seen
      | .error why => .error why) = .ok (if s ≥ text.size then none else if isEol (text.getD s 0) = true then some s else nx text f (s + 1), sn)
    rw [hl, hc, ht]
    by_cases h : s ≥ text.size
    · rw [if_pos h, if_pos h]; exact ⟨_, rfl⟩
    · rw [if_neg h, if_neg h]
      obtain ⟨sn, e⟩ := inSet3 (text.getD s 0) seen
      rw [e]
      cases he : isEol (text.getD s 0) with
      | true => exact ⟨sn, rfl⟩
      | false =>
        simp only [Bool.false_eq_true, if_false]
        exact admitted3 hc ht hl f (s + 1) sn
theorem nx_spec {text : Array Nat} : ∀ {f s r : Nat}, nx text f s = some r → s ≤ r ∧ r < text.size ∧ (text.getD r 0 = 10 ∨ text.getD r 0 = 13) ∧ ∀ i, s ≤ i → i < r → isEol (text.getD i 0) = false
  | 0, _, _, h => by cases h
  | f + 1, s, r, h => by
    unfold nx at h
    by_cases h1 : s ≥ text.size
    · rw [if_pos h1] at h; cases h
    · rw [if_neg h1] at h
      by_cases h2 : isEol (text.getD s 0) = true
      · rw [if_pos h2] at h
        cases h
        exact ⟨Nat.le_refl _, by lia, by simpa [isEol] using h2, fun i h3 h4 => by lia⟩
      · rw [if_neg h2] at h
        obtain ⟨a, b, c, d⟩ := nx_spec h
        refine ⟨by lia, b, c, fun i h3 h4 => ?_⟩
        by_cases h5 : i = s
        · subst h5; simpa using h2
        · exact d i (by lia) h4
theorem nx_none {text : Array Nat} : ∀ {f s : Nat}, nx text f s = none → text.size < s + f → ∀ i, s ≤ i → i < text.size → isEol (text.getD i 0) = false
  | 0, s, _, h => fun i h1 h2 => by lia
  | f + 1, s, h, hf => fun i h1 h2 => by
    unfold nx at h
    by_cases h3 : s ≥ text.size
    · lia
    · rw [if_neg h3] at h
      by_cases h4 : isEol (text.getD s 0) = true
      · rw [if_pos h4] at h; cases h
      · rw [if_neg h4] at h
        by_cases h5 : i = s
        · subst h5; simpa using h4
        · exact nx_none h (by lia) i (by lia) h2
noncomputable def eolEnd (text : Array Nat) (s : Nat) : Nat := if text.getD s 0 = 13 ∧ s + 1 < text.size ∧ text.getD (s + 1) 0 = 10 then s + 2 else s + 1
noncomputable def next3 (text : Array Nat) (s : Nat) : Option (Nat × Nat) := (nx text (text.size + 1 - s) s).map fun r => (r, eolEnd text r)
noncomputable def Says (m : M) : Option (Nat × Nat) → Prop
  | some (s, e) => Found m s e
  | none => m.outcome = some .failed
theorem search3 (text : Array Nat) (start : Nat) (hs : start ≤ text.size) : Ends 40 (forSearch c3 text 0 start text.size false) fun m => Says m (next3 text start) := by
  have e0 : ∃ sn, forSearch c3 text 0 start text.size false = if (decide (start > text.size) || decide (text.size - start < 1)) = true then (mk c3 text start 0 false 10 start start true [] 0 none sn).say false else (mk c3 text start text.size false 10 start start true [] 0 none sn).attemptFrom start true := ⟨_, rfl⟩
  obtain ⟨sn, e0⟩ := e0
  rw [e0]
  by_cases h : text.size - start < 1
  · rw [if_pos (by simp [h])]
    refine Ends.eq rfl rfl (Ends.here ?_)
    have : next3 text start = none := by
      unfold next3
      have : text.size + 1 - start = 0 + 1 := by omega
      rw [this]
      unfold nx
      rw [if_pos (by omega)]; rfl
    rw [this]; rfl
  · rw [if_neg (by simp; omega)]
    obtain ⟨sn2, e1⟩ := admitted3 (m := mk c3 text start text.size false 10 start start true [] 0 none sn) (text := text) rfl rfl rfl (text.size + 1 - start) start sn
    have e2 : (mk c3 text start text.size false 10 start start true [] 0 none sn).attemptFrom start true = match M.admitted (mk c3 text start text.size false 10 start start true [] 0 none sn) (text.size + 1 - start) start sn with
      | .ok (some s, seen) => { mk c3 text start text.size false 10 start start true [] 0 none sn with mustAdvance := false, seen }.attemptAt s true
      | .ok (none, seen) => { mk c3 text start text.size false 10 start start true [] 0 none sn with seen }.say false
      | .error why => (mk c3 text start text.size false 10 start start true [] 0 none sn).stick why := rfl
    rw [e2, e1]
    unfold next3
    cases hn : nx text (text.size + 1 - start) start with
    | none => exact Ends.eq rfl rfl (Ends.here rfl)
    | some r =>
      obtain ⟨a, b, c, d⟩ := nx_spec hn
      exact (go3 (om := true) b c).le (by decide)
noncomputable abbrev atBol (text : Array Nat) (s : Nat) : Bool := s == 0 || text.getD (s - 1) 0 == 10
noncomputable abbrev dotAt (text : Array Nat) (s : Nat) : Bool := atBol text s && decide (s < text.size) && text.getD s 0 == 46
noncomputable def nx1 (text : Array Nat) : Nat → Nat → Option Nat
  | 0, _ => none
  | f + 1, s => if dotAt text s = true then some s else nx1 text f (s + 1)
noncomputable def next1 (text : Array Nat) (s : Nat) : Option (Nat × Nat) := (nx1 text (text.size + 1 - s) s).map fun r => (r, r + 1)
section
variable {text : Array Nat} {start last pc pos handed wt : Nat} {must om : Bool} {fs : List Sre.Frame} {seen : Sre.Seen}
theorem st_at_yes (h : atBol text pos = true) : ∃ sn, (mk c1 text start last must 5 pos handed om fs wt none seen).step = mk c1 text start last must 7 pos handed om fs wt none sn := by
  refine ⟨(seen.add 6).add (43 + 1), ?_⟩
  have e : (mk c1 text start last must 5 pos handed om fs wt none seen).step = if (pos == 0 || text.getD (pos - 1) 0 == 10) = true then mk c1 text start last must 7 pos handed om fs wt none ((seen.add 6).add (43 + 1)) else (mk c1 text start last must 5 pos handed om fs wt none ((seen.add 6).add (43 + 1))).say false := rfl
  rw [e, if_pos h]
theorem st_at_no (h : atBol text pos = false) : ∃ sn, (mk c1 text start last must 5 pos handed om fs wt none seen).step = mk c1 text start last must 5 pos handed om fs wt (some false) sn := by
  refine ⟨(seen.add 6).add (43 + 1), ?_⟩
  have e : (mk c1 text start last must 5 pos handed om fs wt none seen).step = if (pos == 0 || text.getD (pos - 1) 0 == 10) = true then mk c1 text start last must 7 pos handed om fs wt none ((seen.add 6).add (43 + 1)) else (mk c1 text start last must 5 pos handed om fs wt none ((seen.add 6).add (43 + 1))).say false := rfl
  rw [e, if_neg (by rw [show (pos == 0 || text.getD (pos - 1) 0 == 10) = false from h]; decide)]
  rfl
theorem st_start {s : Nat} {om' : Bool} : (mk c1 text start last must pc pos handed om [fr0 .nextStart 5 s om'] 1 (some false) seen).step =
    if s < last then mk c1 text (s + 1) last false 5 (s + 1) (s + 1) false [fr0 .nextStart 5 (s + 1) false] 1 none seen else mk c1 text start last must 5 s handed om' [] 0 (some false) seen := by
  unfold M.step M.resume
  simp only [Option.isSome_none, Bool.false_eq_true, if_false]
  by_cases h : s < last
  · rw [if_pos h, if_pos h]; rfl
  · rw [if_neg h, if_neg h]; rfl
theorem go1 : ∀ (f s : Nat) (om om' : Bool) (seen : Sre.Seen), s + f = text.size + 1 → Ends (5 * f + 5) (mk c1 text s text.size false 5 s s om [fr0 .nextStart 5 s om'] 1 none seen) fun m => Says m ((nx1 text f s).map fun r => (r, r + 1))
  | 0, s, om, om', seen, h => by
    have e : nx1 text 0 s = none := rfl
    rw [e]
    by_cases hb : atBol text s = true
    · refine Ends.ex rfl (st_at_yes hb) fun sn => ?_
      refine Ends.ex rfl (st_lit_no (c := 46) rfl rfl (by decide) (.inl (by lia))) fun sn => ?_
      refine Ends.eq rfl st_start ?_
      rw [if_neg (by lia)]
      exact Ends.eq rfl rfl (Ends.here rfl)
    · refine Ends.ex rfl (st_at_no (by simpa using hb)) fun sn => ?_
      refine Ends.eq rfl st_start ?_
      rw [if_neg (by lia)]
      exact Ends.eq rfl rfl (Ends.here rfl)
  | f + 1, s, om, om', seen, h => by
    unfold nx1
    have back : ∀ (pc pos handed : Nat) (om : Bool) (seen : Sre.Seen), dotAt text s = false → Ends (5 * f + 6) (mk c1 text s text.size false pc pos handed om [fr0 .nextStart 5 s om'] 1 (some false) seen) fun m => Says m ((nx1 text f (s + 1)).map fun r => (r, r + 1)) := fun pc pos handed om seen hd => by
      refine Ends.eq rfl st_start ?_
      by_cases hs : s < text.size
      · rw [if_pos hs]
        exact go1 f (s + 1) false false seen (by lia)
      · rw [if_neg hs]
        have hf : f = 0 := by lia
        subst hf
        refine Ends.le (N := 1) ?_ (by lia)
        exact Ends.eq rfl rfl (Ends.here rfl)
    by_cases hb : atBol text s = true
    · refine Ends.ex rfl (st_at_yes hb) fun sn => ?_
      by_cases hc : s < text.size ∧ text.getD s 0 = 46
      · rw [if_pos (by simp [hb, hc.1, hc.2])]
        refine Ends.ex rfl (st_lit_ok (c := 46) rfl rfl (by decide) hc.1 hc.2) fun sn => ?_
        refine Ends.ex rfl (st_success rfl (by decide)) fun sn => ?_
        refine Ends.eq rfl (st_yes (.inr rfl)) ?_
        exact (Ends.eq rfl st_end (Ends.here ⟨rfl, rfl, rfl⟩) : Ends 1 _ _).le (by lia)
      · have hd : dotAt text s = false := by
          simp only [dotAt, hb, Bool.true_and, Bool.and_eq_false_iff, decide_eq_false_iff_not]
          by_cases h1 : s < text.size
          · exact .inr (by simpa using fun h => hc ⟨h1, h⟩)
          · exact .inl h1
        rw [if_neg (by rw [hd]; decide)]
        refine Ends.ex rfl (st_lit_no (c := 46) rfl rfl (by decide) ?_) fun sn => (back _ _ _ _ _ hd).le (by lia)
        by_cases h1 : s < text.size
        · exact .inr fun h => hc ⟨h1, h⟩
        · exact .inl (by lia)
    · have hd : dotAt text s = false := by simp [hb]
      rw [if_neg (by rw [hd]; decide)]
      exact Ends.ex rfl (st_at_no (by simpa using hb)) fun sn => (back _ _ _ _ _ hd).le (by lia)
theorem search1 (text : Array Nat) (start : Nat) (hs : start ≤ text.size) : Ends (5 * text.size + 20) (forSearch c1 text 0 start text.size false) fun m => Says m (next1 text start) := by
  have e0 : ∃ sn, forSearch c1 text 0 start text.size false = if (decide (start > text.size) || decide (text.size - start < 1)) = true then (mk c1 text start 0 false 5 start start true [] 0 none sn).say false else (mk c1 text start text.size false 5 start start true [] 0 none sn).attemptFrom start true := ⟨_, rfl⟩
  obtain ⟨sn, e0⟩ := e0
  rw [e0]
  by_cases h : text.size - start < 1
  · rw [if_pos (by simp [h])]
    refine Ends.le (Ends.eq rfl rfl (Ends.here ?_) : Ends 1 _ _) (by lia)
    have : next1 text start = none := by
      unfold next1
      have : text.size + 1 - start = 0 + 1 := by lia
      rw [this]
      unfold nx1
      rw [if_neg (by simp; lia)]; rfl
    rw [this]; rfl
  · rw [if_neg (by simp; lia)]
    have e2 : (mk c1 text start text.size false 5 start start true [] 0 none sn).attemptFrom start true = mk c1 text start text.size false 5 start start true [fr0 .nextStart 5 start true] 1 none sn := rfl
    rw [e2]
    exact (go1 (text.size + 1 - start) start true true sn (by lia)).le (by lia)
end
theorem nx1_spec {text : Array Nat} : ∀ {f s r : Nat}, nx1 text f s = some r → s ≤ r ∧ dotAt text r = true ∧ ∀ i, s ≤ i → i < r → dotAt text i = false
  | 0, _, _, h => by cases h
  | f + 1, s, r, h => by
    unfold nx1 at h
    by_cases h2 : dotAt text s = true
    · rw [if_pos h2] at h
      cases h
      exact ⟨Nat.le_refl _, h2, fun i h3 h4 => by omega⟩
    · rw [if_neg h2] at h
      obtain ⟨a, c, d⟩ := nx1_spec h
      refine ⟨by omega, c, fun i h3 h4 => ?_⟩
      by_cases h5 : i = s
      · subst h5; simpa using h2
      · exact d i (by omega) h4
end
section
open PySem PySem.W PySem.Calls PyProof.Rows PySem.Builtin PySem.Builtin.ObjectAttr PySem.Builtin.Re
section
variable {M : Model} {A : Around} {E : Value → Shared → Prop} {s : Shared}
theorem wp_drive {Q : Sre.M → Shared → Prop} : ∀ {turns n : Nat} {m m' : Sre.M}, Goes n m m' → m'.outcome.isSome = true → n + 4 ≤ 4 * turns → Q m' s → wpAny M A (reDrive turns m) Q E s
  | 0, n, m, m', _, _, hn, _ => by lia
  | t + 1, n, m, m', g, ho, hn, h => by
    have g4 : Goes (n - 4) (m.runFor 4) m' := fun j => by
      rw [← runFor_add]
      by_cases h4 : 4 ≤ n
      · rw [show 4 + (n - 4 + j) = n + j by lia]; exact g j
      · rw [show 4 + (n - 4 + j) = n + (4 - n + j) by lia, g, runFor_done ho, runFor_done ho]
    show wpAny M A (if (m.runFor 4).outcome.isSome then pure (m.runFor 4) else do rule "sre.turn"; reDrive t (m.runFor 4)) Q E s
    cases hs : (m.runFor 4).outcome.isSome with
    | true =>
      have e := g4 0
      rw [runFor_done hs] at e
      have e2 : m.runFor 4 = m' := e
      simp only [if_true]
      rw [e2]; exact wpAny_pure h
    | false =>
      simp only [Bool.false_eq_true, if_false]
      have h4 : 4 ≤ n := by
        by_cases h4 : 4 ≤ n
        · exact h4
        · exfalso
          have e := g (4 - n)
          rw [runFor_done ho, show n + (4 - n) = 4 by lia] at e
          rw [e, ho] at hs; cases hs
      exact wpAny_bind (wpAny_rule (wp_drive g4 ho (by lia) h))
theorem wp_forU {α : Type} {body : α → PUnit → Sem (ForInStep PUnit)} (hb : ∀ i r (s : Shared) (Q : ForInStep PUnit → Shared → Prop), Q (.yield ⟨⟩) s → wpAny M A (body i r) Q E s) :
    ∀ (l : List α) {Q : PUnit → Shared → Prop}, Q ⟨⟩ s → wpAny M A (forIn l PUnit.unit body) Q E s
  | [], Q, h => by rw [List.forIn_nil]; exact wpAny_pure h
  | i :: r, Q, h => by
    rw [List.forIn_cons]
    exact wpAny_bind (hb _ _ _ _ (wp_forU hb r h))
noncomputable def Hit (r : Option (Nat × Nat)) (Q : Option Sre.M → Prop) : Prop := match r with
  | some (a, e) => ∀ m : Sre.M, m.start = a → m.handed = e → Q (some m)
  | none => Q none
theorem wp_toEnd {N : Nat} {m : Sre.M} {r : Option (Nat × Nat)} {Q : Option Sre.M → Shared → Prop} (h : Ends N m fun m => Says m r) (hN : N + 4 ≤ 4 * 2 ^ 64) (q : Hit r fun x => Q x s) : wpAny M A (reRunToEnd m) Q E s := by
  obtain ⟨n, hn, m', g, hp⟩ := h
  have ho : m'.outcome.isSome = true := by
    cases r with
    | none => rw [show m'.outcome = some .failed from hp]; rfl
    | some p => obtain ⟨a, e⟩ := p; rw [(show Found m' a e from hp).out]; rfl
  unfold reRunToEnd
  refine wpAny_bind (wp_drive g ho (by lia) (wpAny_bind (wp_forU (fun i r s Q hq => ?_) _ ?_)))
  · refine wpAny_ite ?_
    split
    · exact wpAny_bind (wpAny_rule (wpAny_pure hq))
    · exact wpAny_pure hq
  · cases r with
    | none =>
      rw [show m'.outcome = some .failed from hp]
      exact wpAny_pure q
    | some p =>
      obtain ⟨a, e⟩ := p
      obtain ⟨h1, h2, h3⟩ := (show Found m' a e from hp)
      rw [h1]
      exact wpAny_pure (q m' h2 h3)
end
structure PatK (C : Cx) (pa : Addr) (code : Array Nat) (kind : Nat) : Prop where
  ex : ∃ (fs : Array Value) (ca : Addr) (items : Array Value) (n : Nat) (cl : Value) (dd : Option Addr) (sl : Array (Option Value)), C.K.lookup pa = some { cls := .type "re.Pattern", dict := none, data := .fields fs, slots := #[] } ∧ C.K.lookup ca = some ⟨cl, dd, .seq items n, sl⟩ ∧
    fs.getD 5 .none = .ref ca ∧ reRawNat (fs.getD 6 .none) = kind ∧ reRawNat (fs.getD 2 .none) = 0 ∧ (items.map reRawOf).map (·.toNat) = code
theorem pat1 {C : Cx} (H : Hd C) : PatK C 134 c1 0 := ⟨_, 133, _, _, _, _, _, by rw [H.K]; exact rfl, by rw [H.K]; exact rfl, rfl, rfl, rfl, by decide +kernel⟩
theorem pat2 {C : Cx} (H : Hd C) : PatK C 139 c1 1 := ⟨_, 138, _, _, _, _, _, by rw [H.K]; exact rfl, by rw [H.K]; exact rfl, rfl, rfl, rfl, by decide +kernel⟩
theorem pat3 {C : Cx} (H : Hd C) : PatK C 144 c3 0 := ⟨_, 143, _, _, _, _, _, by rw [H.K]; exact rfl, by rw [H.K]; exact rfl, rfl, rfl, rfl, by decide +kernel⟩
theorem byBuf : typeLookup (.type "bytes") (Str.ofString "__buffer__") = pure (some (.builtin "bytes.__buffer__")) := by rw [typeLookup_type, builtinLookup_eq_fast]; kernel_rfl
theorem byRel : typeLookup (.type "bytes") (Str.ofString "__release_buffer__") = pure none := by rw [typeLookup_type, builtinLookup_eq_fast]; kernel_rfl
theorem byEnds : ("bytes.__buffer__".endsWith ("." ++ "__buffer__")) = true := by decide +kernel
theorem byDrop : "bytes.__buffer__".dropRight ("__buffer__".length + 1) = "bytes" := by decide +kernel
section
variable {prog : Program} {w : World} {A : Around} {E : Value → Shared → Prop} {s : Shared}
theorem by_buffer {b : Array UInt8} {t : Tok} {id : String} {full : Bool} {Q : Option (Array UInt8) → Shared → Prop} (h : Q (some b) s) : wpAny (model prog w) A (Builtin.Bytes.buffer? id (.bytes b t) full) Q E s := by
  have hT : s.TypeIs (.bytes b t) "bytes" := PySem.W.typeIs_bytes _ _ _
  unfold Builtin.Bytes.buffer?
  refine wpAny_bind (wpAny_specialOf hT byBuf ?_)
  dsimp only
  refine wpAny_bind ?_
  unfold Builtin.Bytes.slotIsOwn
  refine wpAny_bind (wpAny_specialOf hT byBuf ?_)
  dsimp only
  rw [byEnds]
  refine bm_if_false rfl ?_
  rw [byDrop]
  refine wpAny_isInstance (b := true) hT F.bm_sub ?_
  refine bm_if_false rfl ?_
  refine wpAny_bind (wpAny_specialOf hT byBuf ?_)
  refine wpAny_bind ?_
  unfold Builtin.Bytes.ownRelease Builtin.Bytes.slotIsOwn
  refine wpAny_bind (wpAny_bind (wpAny_specialOf hT byRel (wpAny_pure (wpAny_pure ?_))))
  refine bm_if_false rfl ?_
  refine wpAny_bind ?_
  unfold Builtin.Bytes.payload Builtin.Bytes.payload?
  exact wpAny_bind (wpAny_pure (wpAny_pure (wpAny_pure h)))
end
structure Tgt3 (t : ReTarget) (cd tx : Array Nat) (kd : Nat) : Prop where
  code : t.code = cd
  text : t.text = tx
  kind : t.kind = kd
  groups : t.groups = 0
  lim : t.lim = tx.size
section
variable {C : Cx} {A : Around} {E : Value → Shared → Prop} {s : Shared}
theorem whole_str {V : View} {pa : Addr} {code : Array Nat} {x : PySem.Str} {t : Tok} {Q : ReTarget → Shared → Prop} (hK : C.K.In s.heap) (P : PatK C pa code 0) (q : ∀ r, Tgt3 r code x.cps 0 → Q r s) : wpAny C.M A (reWholeTarget (.ref pa) (.str x t)) Q E s := by
  refine hid fun G hG => ?_
  obtain ⟨fs, ca, items, n, cl, dd, sl, l1, l2, h5, h6, h2, hc⟩ := P.ex
  refine hG ?_
  unfold reWholeTarget
  refine wpAny_bind (m := fieldsOf (.ref pa)) (wpAny_bind (wpAny_load (hK _ _ l1) (wpAny_pure ?_)))
  refine wpAny_bind (wpAny_of_eq (show reTextOf (.str x t) = pure (x.cps, 0) from rfl) ?_)
  dsimp only
  rw [h6, h5, h2]
  refine bm_if_false rfl ?_
  refine bm_if_false rfl ?_
  refine wpAny_bind (wpAny_of_eq (a := ()) rfl (wpAny_bind ?_))
  refine wpAny_bind (m := seqItems? (.ref ca)) (wpAny_seqItems (hK _ _ l2) rfl (wpAny_pure ?_))
  refine wpAny_pure (q _ ⟨?_, rfl, rfl, rfl, rfl⟩)
  simpa using hc
theorem whole_bytes {V : View} {pa : Addr} {code : Array Nat} {b : Array UInt8} {t : Tok} {Q : ReTarget → Shared → Prop} (hK : C.K.In s.heap) (P : PatK C pa code 1) (q : ∀ r, Tgt3 r code (b.map (·.toNat)) 1 → Q r s) : wpAny C.M A (reWholeTarget (.ref pa) (.bytes b t)) Q E s := by
  refine hid fun G hG => ?_
  obtain ⟨fs, ca, items, n, cl, dd, sl, l1, l2, h5, h6, h2, hc⟩ := P.ex
  refine hG ?_
  unfold reWholeTarget
  refine wpAny_bind (m := fieldsOf (.ref pa)) (wpAny_bind (wpAny_load (hK _ _ l1) (wpAny_pure ?_)))
  refine wpAny_bind ?_
  unfold reTextOf
  refine wpAny_bind (wpAny_of_eq (show asStr? (.bytes b t) = pure none from rfl) ?_)
  dsimp only
  refine wpAny_bind ?_
  unfold Builtin.Bytes.bufferQuiet?
  refine wpAny_bind (wpAny_attempt (by_buffer (wpAny_pure (wpAny_pure ?_))))
  dsimp only
  rw [h6, h5, h2]
  refine bm_if_false rfl ?_
  refine bm_if_false rfl ?_
  refine wpAny_bind ?_
  unfold reNoCollectionInside
  refine bm_if_true rfl ?_
  refine wpAny_bind (wpAny_isInstance (b := true) (PySem.W.typeIs_bytes _ _ _) F.bm_sub ?_)
  refine bm_if_false rfl (wpAny_pure (wpAny_bind ?_))
  refine wpAny_bind (m := seqItems? (.ref ca)) (wpAny_seqItems (hK _ _ l2) rfl (wpAny_pure ?_))
  refine wpAny_pure (q _ ⟨?_, rfl, rfl, rfl, rfl⟩)
  simpa using hc
end
noncomputable def Piece (kd : Nat) (v : Value) (p : List Nat) : Prop := (kd = 0 ∧ ∃ t, v = .str (sL p) t) ∨ (kd = 1 ∧ ∃ t, v = .bytes (bA p) t)
noncomputable def subG (F : Nat → Option (Nat × Nat)) (W R : List Nat) : Nat → Nat → List (List Nat)
  | 0, _ => []
  | f + 1, d => match F d with
    | some (a, e) => (if d < a then [cut W d a] else []) ++ R :: subG F W R f e
    | none => if d < W.length then [cut W d W.length] else []
noncomputable def Pieces (kd : Nat) : List Value → List (List Nat) → Prop
  | [], [] => True
  | v :: vs, p :: ps => Piece kd v p ∧ Pieces kd vs ps
  | _, _ => False
theorem Pieces.app {kd : Nat} : ∀ {vs vs' : List Value} {ps ps' : List (List Nat)}, Pieces kd vs ps → Pieces kd vs' ps' → Pieces kd (vs ++ vs') (ps ++ ps')
  | [], _, [], _, _, h => h
  | v :: vs, _, p :: ps, _, h, h' => ⟨h.1, Pieces.app h.2 h'⟩
  | [], _, _ :: _, _, h, _ => h.elim
  | _ :: _, _, [], _, h, _ => h.elim
theorem Pieces.len {kd : Nat} : ∀ {vs : List Value} {ps : List (List Nat)}, Pieces kd vs ps → vs.length = ps.length
  | [], [], _ => rfl
  | _ :: _, _ :: _, h => by simp [Pieces.len h.2]
  | [], _ :: _, h => h.elim
  | _ :: _, [], h => h.elim
theorem ext_cut (W : List Nat) (b e : Nat) : W.toArray.extract b e = (cut W b e).toArray := by
  unfold cut
  rw [List.extract_toArray]
  congr 1
  rw [List.extract_eq_take_drop, List.drop_take]
section
variable {M : Model} {A : Around} {E : Value → Shared → Prop} {s : Shared}
theorem wp_slice {W : List Nat} {kd b e : Nat} {Q : Value → Shared → Prop} (hk : kd = 0 ∨ kd = 1) (hW : W.length ≤ 1000) (h : ∀ v, Piece kd v (cut W b e) → Q v { s with toks := s.toks + 1 }) : wpAny M A (reSlice W.toArray kd b e) Q E s := by
  have hl : (cut W b e).length ≤ 1000 := Nat.le_trans (cut_len _ _ _) hW
  rcases hk with rfl | rfl
  · show wpAny M A (mkStr ⟨W.toArray.extract b e⟩) Q E s
    rw [ext_cut]
    exact wpAny_mkStr (h _ (.inl ⟨rfl, _, rfl⟩)) (by show (sL _).length ≤ _; rw [sL_len, sizeLine_eq]; lia)
  · show wpAny M A (mkBytes ((W.toArray.extract b e).map (·.toUInt8))) Q E s
    rw [ext_cut]
    have : (cut W b e).toArray.map (·.toUInt8) = bA (cut W b e) := by simp [bA]
    rw [this]
    exact wpAny_mkBytes (h _ (.inr ⟨rfl, _, rfl⟩)) (by rw [bA_size, sizeLine_eq]; lia)
theorem wp_literal {kd : Nat} {v : Value} {p : List Nat} {Q : Unit → Shared → Prop} (h : Piece kd v p) (q : Q () s) : wpAny M A (reLiteralCannotBeTurned v) Q E s := by
  unfold reLiteralCannotBeTurned
  rcases h with ⟨_, t, rfl⟩ | ⟨_, t, rfl⟩
  · refine wpAny_bind (wpAny_of_eq (show asStr? (.str (sL p) t) = pure (some (sL p)) from rfl) ?_)
    exact bm_if_false rfl (wpAny_pure q)
  · refine wpAny_bind (wpAny_of_eq (show asStr? (.bytes (bA p) t) = pure none from rfl) ?_)
    refine bm_if_true rfl ?_
    refine wpAny_bind (wpAny_isInstance (b := true) (PySem.W.typeIs_bytes _ _ _) F.bm_sub ?_)
    exact bm_if_false rfl (wpAny_pure q)
theorem wp_push {Lp : Addr} {acc : Array Value} {c : Nat} {v : Value} {Q : Unit → Shared → Prop} (hL : s.heap.get? Lp = some (listO acc c)) (hz : acc.size ≤ 10000)
    (q : ∀ h' c', h'.get? Lp = some (listO (acc.push v) c') → (∀ b, b ≠ Lp → h'.get? b = s.heap.get? b) → Q () { s with heap := h' }) : wpAny M A (updateSeq Lp (·.push v)) Q E s := by
  refine wpAny_updateSeq hL rfl (q _ _ (Heap.get?_update_self (Obj.mapSeq (·.push v)) hL rfl) fun b hb => Heap.get?_update_other _ _ (Ne.symm hb)) (by rw [sizeLine_eq]; lia) (by show (acc.push v).size ≤ _; rw [Array.size_push, sizeLine_eq]; lia)
end
theorem slE : entryFor table "re.Pattern.sub.loop" = some Builtin.«re.Pattern.sub.loop» := entryFor_of_tree (by kernel_rfl)
theorem slPlain : plainId "re.Pattern.sub.loop" = true := by decide +kernel
structure SubK (C : Cx) (pa : Addr) (code : Array Nat) (kd : Nat) (v repl : Value) (W R : List Nat) (F : Nat → Option (Nat × Nat)) (N : Nat) : Prop where
  hk : kd = 0 ∨ kd = 1
  target : ∀ (A : Around) (E : Value → Shared → Prop) (s : Shared) (Q : ReTarget → Shared → Prop), C.K.In s.heap → (∀ r, Tgt3 r code W.toArray kd → Q r s) → wpAny C.M A (reWholeTarget (.ref pa) v) Q E s
  search : ∀ s, s ≤ W.length → Ends N (Sre.forSearch code W.toArray 0 s W.toArray.size false) fun m => Says m (F s)
  hN : N + 4 ≤ 4 * 2 ^ 64
  rng : ∀ s a e, s ≤ W.length → F s = some (a, e) → s ≤ a ∧ a < e ∧ e ≤ W.length
  repl : Piece kd repl R
  len : W.length ≤ 1000
section
variable {C : Cx} {A : Around} {s : Shared} {pa Lp : Addr} {code : Array Nat} {kd N : Nat} {v repl : Value} {W R : List Nat} {F : Nat → Option (Nat × Nat)} {R' : Result → Shared → Prop}
theorem keepK (hL : C.K.lookup Lp = none) {h h' : Heap} (x : C.K.In h) (k : ∀ b, b ≠ Lp → h'.get? b = h.get? b) : C.K.In h' := fun a o e => (k a fun q => by rw [q, hL] at e; cases e).trans (x a o e)
theorem sub_loop (K : SubK C pa code kd v repl W R F N) (hL : C.K.lookup Lp = none) :
    ∀ (f d : Nat) (n : Int) (s : Shared) (acc : Array Value) (c : Nat), W.length < d + f → d ≤ W.length → C.K.In s.heap → s.heap.get? Lp = some (listO acc c) → acc.size + 2 * (W.length - d) ≤ 5000 →
      (∀ h' tk acc' c' ps j, h'.get? Lp = some (listO acc' c') → acc'.toList = acc.toList ++ ps → Pieces kd ps (subG F W R f d) → (∀ b, b ≠ Lp → h'.get? b = s.heap.get? b) → Piece kd j [] →
        wpAny C.M A.in1 (if acc'.isEmpty = true then pure j else PySem.call (.builtin (if kd == 0 then "str.join" else "bytes.join")) [j, .ref Lp]) (fun v s' => R' (.ok (.ret v)) s') (fun e s' => R' (.error e) s') { s with heap := h', toks := tk }) →
      codeAny C.M A (.builtin "re.Pattern.sub.loop" ⟨[.ref pa, v, repl, rawInt 0, rawInt 0, rawInt n, rawInt d, rawInt d, .bool false, .ref Lp, .bool false], []⟩) R' s := by
  intro f
  induction f with
  | zero => intro d n s acc c h1 h2; lia
  | succ f ih =>
    intro d n s acc c hf hd hK hS hz q
    refine codeAny_builtin slE ?_
    rw [Around.under_plainId slPlain _]
    unfold Builtin.«re.Pattern.sub.loop»
    dsimp only [rawInt]
    refine wpAny_bind (K.target _ _ _ _ hK fun t T => ?_)
    refine bm_if_true rfl ?_
    refine wpAny_bind (wp_literal K.repl ?_)
    refine wpAny_bind (bm_if_false (by simp) ?_)
    unfold reNextFound
    rw [T.code, T.text, T.groups, T.lim, T.kind, Int.toNat_natCast]
    refine wp_toEnd (K.search d hd) K.hN ?_
    cases hFd : F d with
    | some p =>
      obtain ⟨a, e⟩ := p
      obtain ⟨r1, r2, r3⟩ := K.rng d a e hd hFd
      intro m hm1 hm2
      dsimp only
      rw [hm1, hm2]
      have hb : (e == a) = false := by simp; lia
      rw [hb]
      have hne : (repl != Value.none) = true := by
        rcases K.repl with ⟨_, t, rfl⟩ | ⟨_, t, rfl⟩ <;> rfl
      have tail : ∀ (h1 : Heap) (tk1 c1 : Nat) (acc1 : Array Value) (ps1 : List Value), acc1.toList = acc.toList ++ ps1 → Pieces kd ps1 (if d < a then [cut W d a] else []) → h1.get? Lp = some (listO acc1 c1) → (∀ b, b ≠ Lp → h1.get? b = s.heap.get? b) → acc1.size ≤ acc.size + 1 →
          wpAny (model C.prog C.w) A.in1 (do
            updateSeq Lp fun x => x.push repl
            again (Code.builtin "re.Pattern.sub.loop" { pos := [Value.ref pa, v, repl, Value.int 0 0, Value.int 0 0, Value.int (n + 1) 0, Value.int (e : Nat) 0, Value.int (e : Nat) 0, Value.bool false, Value.ref Lp, Value.bool false] }))
          (fun fin s' => match fin with | .done f => R' (.ok f) s' | .again c' => c'.quiet = true ∧ codeAny C.M A c' R' s') (fun e s' => R' (.error e) s') { s with heap := h1, toks := tk1 } := fun h1 tk1 c1 acc1 ps1 e1 p1 g1 k1 z1 => by
        refine wpAny_bind (wp_push (s := { s with heap := h1, toks := tk1 }) g1 (by lia) fun h2 c2 g2 k2 => wpAny_pure ⟨plainId_quiet slPlain _, ?_⟩)
        have k3 : ∀ b, b ≠ Lp → h2.get? b = s.heap.get? b := fun b hb => (k2 b hb).trans (k1 b hb)
        refine ih e (n + 1) { s with heap := h2, toks := tk1 } (acc1.push repl) c2 (by lia) r3 (keepK hL hK k3) g2 (by rw [Array.size_push]; lia) fun h' tk acc' c' ps j f1 f2 f3 f4 f5 => ?_
        refine q h' tk acc' c' (ps1 ++ repl :: ps) j f1 ?_ ?_ (fun b hb => (f4 b hb).trans (k3 b hb)) f5
        · rw [f2, Array.toList_push, e1]; simp
        · unfold subG
          rw [hFd]
          exact Pieces.app p1 ⟨K.repl, f3⟩
      by_cases hda : d < a
      · rw [if_pos hda] at tail ⊢
        refine wpAny_bind (wp_slice K.hk K.len fun pv hpv => wpAny_bind (wp_push hS (by lia) fun h1 c1 g1 k1 => ?_))
        refine bm_if_true (by simp) (wpAny_bind (wpAny_pure (bm_if_true hne ?_)))
        exact tail h1 _ c1 _ [pv] (by simp) ⟨hpv, trivial⟩ g1 k1 (by simp)
      · rw [if_neg hda] at tail ⊢
        refine bm_if_true (by simp) (wpAny_bind (wpAny_pure (bm_if_true hne ?_)))
        exact tail s.heap s.toks c acc [] (by simp) trivial hS (fun _ _ => rfl) (by lia)
    | none =>
      show wpAny _ _ _ _ _ _
      dsimp only
      have fin : ∀ (h1 : Heap) (tk1 c1 : Nat) (acc1 : Array Value) (ps1 : List Value), acc1.toList = acc.toList ++ ps1 → Pieces kd ps1 (subG F W R (f + 1) d) → h1.get? Lp = some (listO acc1 c1) → (∀ b, b ≠ Lp → h1.get? b = s.heap.get? b) →
          wpAny (model C.prog C.w) A.in1 (do
            let joiner ← reSlice W.toArray kd 0 0
            let l ← seqItems? (.ref Lp)
            if (l.getD #[]).isEmpty = true then do
                let text ← pure joiner
                if false = true then do
                    let r ← holding [text] do
                          let k ← mkInt n
                          newTuple [text, k]
                    ret r
                  else ret text
              else do
                let text ← PySem.call (Value.builtin (if (kd == 0) = true then "str.join" else "bytes.join")) [joiner, Value.ref Lp]
                if false = true then do
                    let r ← holding [text] do
                          let k ← mkInt n
                          newTuple [text, k]
                    ret r
                  else ret text)
          (fun fin s' => match fin with | .done f => R' (.ok f) s' | .again c' => c'.quiet = true ∧ codeAny C.M A c' R' s') (fun e s' => R' (.error e) s') { s with heap := h1, toks := tk1 } := fun h1 tk1 c1 acc1 ps1 e1 p1 g1 k1 => by
        refine wpAny_bind (wp_slice K.hk K.len fun jv hj => ?_)
        have := q h1 (tk1 + 1) acc1 c1 ps1 jv g1 e1 p1 k1 (by simpa [cut] using hj)
        refine wpAny_bind (wpAny_seqItems (s := { s with heap := h1, toks := tk1 + 1 }) g1 rfl ?_)
        dsimp only [Option.getD_some]
        by_cases he : acc1.isEmpty = true
        · rw [if_pos he] at this ⊢
          refine wpAny_bind (wpAny_mono this (fun v s' h => ?_) fun _ _ h => h)
          exact bm_if_false rfl (wpAny_pure h)
        · rw [if_neg he] at this ⊢
          refine wpAny_bind (wpAny_mono this (fun v s' h => ?_) fun _ _ h => h)
          exact bm_if_false rfl (wpAny_pure h)
      by_cases hd2 : d < W.toArray.size
      · rw [if_pos hd2]
        have hd3 : d < W.length := by simpa using hd2
        refine wpAny_bind (wp_slice K.hk K.len fun pv hpv => wpAny_bind (wp_push hS (by lia) fun h1 c1 g1 k1 => ?_))
        refine fin h1 _ c1 (acc.push pv) [pv] (by simp) ?_ g1 k1
        unfold subG
        rw [hFd]
        dsimp only
        rw [if_pos hd3]
        exact ⟨by simpa using hpv, trivial⟩
      · rw [if_neg hd2]
        refine fin s.heap s.toks c acc [] (by simp) ?_ hS fun _ _ => rfl
        unfold subG
        rw [hFd]
        dsimp only
        rw [if_neg (by simpa using hd2)]
        trivial
end
theorem bjSlot : Slot "bytes" "join" "bytes.join" :=
  .of (owner := "bytes") (n := "join") (by rw [typeLookup_type, builtinLookup_eq_fast]; kernel_rfl) (by decide +kernel) (by decide +kernel) (by decide +kernel)
    (by first | exact .inl (by decide +kernel) | exact .inr (by decide +kernel)) (by rw [isSubtype_type]; kernel_rfl)
theorem bjE : entryFor table "bytes.join" = some Builtin.«bytes.join» := entryFor_of_tree (by kernel_rfl)
theorem bjA (a b : Value) : argsOk "bytes.join" ⟨[a, b], []⟩ := by unfold argsOk; kernel_rfl
noncomputable abbrev bVals (l : List (Array UInt8 × Tok)) : List Value := l.map fun p => Value.bytes p.1 p.2
section
variable {prog : Program} {w : World} {A : Around} {E : Value → Shared → Prop} {s : Shared}
theorem wp_forS {σ : Type} {M : Model} {body : Nat → σ → Sem (ForInStep σ)} (I : Nat → σ → Prop) : ∀ (len start : Nat) (st : σ) {Q : σ → Shared → Prop}, I start st →
    (∀ i st (Q : ForInStep σ → Shared → Prop), start ≤ i → i < start + len → I i st → (∀ st', I (i + 1) st' → Q (.yield st') s) → wpAny M A (body i st) Q E s) → (∀ st', I (start + len) st' → Q st' s) → wpAny M A (forIn (List.range' start len) st body) Q E s
  | 0, start, st, Q, h, hb, q => by
    rw [List.range'_zero, List.forIn_nil]
    exact wpAny_pure (q st h)
  | len + 1, start, st, Q, h, hb, q => by
    rw [List.range'_succ, List.forIn_cons]
    refine wpAny_bind (hb start st _ (Nat.le_refl _) (by lia) h fun st' h' => ?_)
    exact wp_forS I len (start + 1) st' h' (fun i st Q h1 h2 h3 h4 => hb i st Q (by lia) (by lia) h3 h4) fun st' h => q st' (by rw [show start + (len + 1) = start + 1 + len by lia]; exact h)
noncomputable abbrev bTaken (l : List (Array UInt8 × Tok)) : List (Value × Option Value) := l.map fun p => (Value.bytes p.1 p.2, none)
theorem joinGo {M : Model} {keep : List Value} {Q : Unit → Shared → Prop} (q : Q () s) : ∀ (l : List (Array UInt8 × Tok)), wpAny M A (Builtin.Bytes.joinLetGo (bTaken l) keep) Q E s
  | [] => wpAny_pure q
  | p :: l => by
    unfold bTaken
    rw [List.map_cons]
    unfold Builtin.Bytes.joinLetGo
    exact wpAny_bind (wpAny_letGo (joinGo q l))
theorem take_quiet {b : Array UInt8} {t : Tok} {id : String} {Q : Option (Array UInt8 × Option Value) → Shared → Prop} (h : Q (some (b, none)) s) : wpAny (model prog w) A (Builtin.Bytes.takeBufferQuiet? id (.bytes b t) 0) Q E s := by
  have hT : s.TypeIs (.bytes b t) "bytes" := PySem.W.typeIs_bytes _ _ _
  unfold Builtin.Bytes.takeBufferQuiet? Builtin.Bytes.takeBuffer?
  refine wpAny_bind (wpAny_attempt (wpAny_bind (wpAny_specialOf hT byBuf ?_)))
  dsimp only
  refine wpAny_bind ?_
  unfold Builtin.Bytes.slotIsOwn
  refine wpAny_bind (wpAny_specialOf hT byBuf ?_)
  dsimp only
  rw [byEnds]
  refine bm_if_false rfl ?_
  rw [byDrop]
  refine wpAny_isInstance (b := true) hT F.bm_sub ?_
  refine bm_if_false rfl ?_
  refine wpAny_bind (wpAny_specialOf hT byBuf ?_)
  exact wpAny_bind (by_buffer (wpAny_pure (wpAny_pure h)))
theorem no_one {β : Type} {X : Array Value} (h : ∀ x, X ≠ #[x]) (f : Value → β) (g : Array Value → β) : (match (generalizing := false) X with | #[x] => f x | X => g X) = g X := by
  rcases X with ⟨_ | ⟨x, _ | ⟨y, r⟩⟩⟩
  · rfl
  · exact absurd rfl (h x)
  · rfl
theorem one_yes {β : Type} {X : Array Value} {x : Value} (e : X = #[x]) (f : Value → β) (g : Array Value → β) : (match (generalizing := false) X with | #[x] => f x | X => g X) = f x := by subst e; rfl
theorem bj_code {D : Addr} {l : List (Array UInt8 × Tok)} {t : Tok} {Q : Value → Shared → Prop} {items : Array Value} (hl : s.heap.IsList D items) (hi : items.toList = bVals l)
    (hz : (l.map (·.1)).foldl (fun a p => a + p.size) 0 ≤ sizeLine) (hz2 : (Builtin.Bytes.joined #[] (l.map (·.1))).size ≤ sizeLine) (q1 : ∀ b t, l = [(b, t)] → Q (.bytes b t) s) (q2 : ∀ t k, l.length ≠ 1 → Q (.bytes (Builtin.Bytes.joined #[] (l.map (·.1))) t) { s with toks := k }) :
    wpAny (model prog w) A (Builtin.«bytes.join» ⟨[.bytes #[] t, .ref D], []⟩) (fun fin s' => ∃ v, fin = .done (.ret v) ∧ Q v s') E s := by
  refine hid fun G hG => ?_
  obtain ⟨o, ho, hc, n, hd⟩ := id hl
  refine hG ?_
  have hsz0 : items.size = l.length := by rw [← Array.length_toList, hi]; simp [bVals]
  have hcase : (∃ b u, l = [(b, u)] ∧ items = #[.bytes b u]) ∨ (l.length ≠ 1 ∧ ∀ x, items ≠ #[x]) := by
    by_cases hl1 : l.length = 1
    · refine hid fun G hG => ?_
      obtain ⟨⟨b, u⟩, e⟩ := List.length_eq_one_iff.mp hl1
      refine hG ?_
      exact .inl ⟨b, u, e, Array.ext' (by rw [hi, e]; rfl)⟩
    · exact .inr ⟨hl1, fun x e => hl1 (by rw [← hsz0, e]; rfl)⟩
  unfold Builtin.«bytes.join» Builtin.Bytes.joinM
  refine wpAny_bind (wpAny_of_eq (show selfAndOne _ _ = pure (Value.bytes #[] t, Value.ref D) from rfl) ?_)
  dsimp only
  refine bm_if_true rfl (wpAny_bind ?_)
  unfold Builtin.Bytes.joinItems
  refine wpAny_bind (wpAny_typeOf hl.typeIs (bm_if_true rfl (wpAny_pure (wpAny_bind (wpAny_seqItems ho hd ?_)))))
  dsimp only
  refine bm_if_true rfl ?_
  rcases hcase with hc1 | hc1
  · refine hid fun G hG => ?_
    obtain ⟨b, u, e1, e2⟩ := hc1
    refine hG (wp_eq (one_yes e2 _ _) ?_)
    refine wpAny_bind (wpAny_typeOf (PySem.W.typeIs_bytes _ _ _) (bm_if_true rfl (wpAny_bind (wpAny_rule ?_))))
    exact wpAny_pure ⟨_, rfl, q1 _ _ e1⟩
  · refine wp_eq (no_one hc1.2 _ _) ?_
    · show wpAny _ _ (forIn [:_] _ _ >>= _) _ _ _
      refine wpAny_bind ?_
      rw [Std.Legacy.Range.forIn_eq_forIn_range']
      have hsz : ∀ X : Array Value, X.size = l.length → Std.Legacy.Range.size [:X.size] = l.length := fun X e => by simp [Std.Legacy.Range.size, e]
      refine wp_forS (fun i st => st = (((l.take i).map (·.1)).toArray, bTaken (l.take i))) _ 0 _ rfl (fun i st Q h1 h2 h3 h4 => ?_) fun st' h => ?_
      · rw [hsz _ hsz0] at h2
        subst h3
        refine wpAny_bind (wpAny_seqItems ho hd ?_)
        have hlt : i < l.length := by lia
        have hget : ∀ X : Array Value, X.toList = bVals l → X.getD i Value.none = .bytes l[i].1 l[i].2 := fun X e => by
          have : X.toList[i]? = some (.bytes l[i].1 l[i].2) := by rw [e]; simp [bVals, hlt]
          rw [Array.getElem?_toList] at this
          simp [Array.getD_eq_getD_getElem?, this]
        dsimp only
        rw [hget _ hi]
        have hh : (bTaken (l.take i)).any (fun x => x.1.onHeap) = false := List.any_eq_false.mpr fun y hy => by
          obtain ⟨p, _, rfl⟩ := List.mem_map.mp hy
          exact Bool.false_ne_true
        refine bm_if_false (by rw [hh]; rfl) ?_
        refine wpAny_bind (wpAny_holding (take_quiet ?_))
        dsimp only
        refine wpAny_bind (wpAny_seqItems ho hd ?_)
        dsimp only
        refine bm_if_false (by simp) (wpAny_pure (h4 _ ?_))
        have ht : l.take (i + 1) = l.take i ++ [l[i]] := by rw [List.take_add_one, List.getElem?_eq_getElem hlt]; rfl
        rw [ht]
        refine Prod.ext ?_ ?_
        · show (((l.take i).map (·.1)).toArray).push l[i].1 = ((l.take i ++ [l[i]]).map (·.1)).toArray
          rw [List.map_append, List.push_toArray]; rfl
        · show bTaken (l.take i) ++ [_] = bTaken (l.take i ++ [l[i]])
          unfold bTaken
          rw [List.map_append]; rfl
      · rw [hsz _ hsz0] at h
        subst h
        rw [Nat.zero_add, List.take_length]
        refine wpAny_bind (wpAny_of_eq (show Builtin.Bytes.payload (.bytes #[] t) = pure #[] from rfl) ?_)
        have e1 : Builtin.Bytes.tooLong (Array.foldl (fun x1 x2 => x1 + x2.size) ((#[] : Array UInt8).size * (((l.map (·.1)).toArray).size - 1)) (l.map (·.1)).toArray) = false := by
          unfold Builtin.Bytes.tooLong
          rw [List.foldl_toArray]
          show decide ((l.map (·.1)).foldl _ (0 * _) > sizeLine) = false
          rw [Nat.zero_mul]
          exact decide_eq_false (Nat.not_lt.mpr hz)
        refine bm_if_false e1 ?_
        refine wpAny_bind (m := Builtin.Bytes.Kind.bytes.new (Builtin.Bytes.joined #[] (l.map (·.1)))) (wpAny_mkBytes ?_ hz2)
        refine wpAny_bind (wpAny_holding (wpAny_point (wpAny_bind (joinGo ?_ l))))
        exact wpAny_pure ⟨_, rfl, q2 _ _ hc1.1⟩
theorem joined_list (ps : List (Array UInt8)) : Builtin.Bytes.joined #[] ps = ps.foldl (· ++ ·) #[] := by
  unfold Builtin.Bytes.joined
  have : ∀ (ps : List (Array UInt8)) (k : Nat) (out : Array UInt8), (ps.zipIdx k).foldl (fun out x => (if x.2 > 0 then out ++ #[] else out) ++ x.1) out = ps.foldl (· ++ ·) out := by
    intro ps
    induction ps with
    | nil => intro k out; rfl
    | cons p r ih =>
      intro k out
      rw [List.zipIdx_cons, List.foldl_cons, List.foldl_cons, ih]
      simp
  exact this ps 0 #[]
theorem foldl_bA : ∀ (ps : List (List Nat)) (acc : List Nat), (ps.map bA).foldl (· ++ ·) (bA acc) = bA (acc ++ ps.flatten)
  | [], acc => by simp
  | p :: r, acc => by
    rw [List.map_cons, List.foldl_cons]
    have : bA acc ++ bA p = bA (acc ++ p) := by simp [bA]
    rw [this, foldl_bA r]
    simp
theorem joined_bA (ps : List (List Nat)) : Builtin.Bytes.joined #[] (ps.map bA) = bA ps.flatten := by
  rw [joined_list]
  exact (foldl_bA ps []).trans (by simp)
theorem foldl_size : ∀ (ps : List (List Nat)) (a : Nat), (ps.map bA).foldl (fun a p => a + p.size) a = a + ps.flatten.length
  | [], a => by simp
  | p :: r, a => by
    rw [List.map_cons, List.foldl_cons, foldl_size r, bA_size]
    simp; lia
theorem call_bytes_join {D : Addr} {vs : List Value} {ps : List (List Nat)} {t : Tok} {Q : Value → Shared → Prop} (hl : s.heap.IsList D vs.toArray) (hp : Pieces 1 vs ps) (hz : ps.flatten.length ≤ 1000000)
    (q : ∀ t k, Q (.bytes (bA ps.flatten) t) { s with toks := k }) : wpAny (model prog w) A (call (.builtin "bytes.join") [.bytes #[] t, .ref D]) Q E s := by
  obtain ⟨l, h1, h2⟩ : ∃ l : List (Array UInt8 × Tok), vs = bVals l ∧ l.map (·.1) = ps.map bA := by
    clear hl hz q
    induction vs generalizing ps with
    | nil => cases ps with
      | nil => exact ⟨[], rfl, rfl⟩
      | cons _ _ => exact hp.elim
    | cons v vs ih => cases ps with
      | nil => exact hp.elim
      | cons p ps =>
        obtain ⟨l, e1, e2⟩ := ih hp.2
        rcases hp.1 with ⟨h, _⟩ | ⟨_, t, rfl⟩
        · cases h
        · exact ⟨(bA p, t) :: l, by rw [e1]; rfl, by rw [List.map_cons, e2]; rfl⟩
  subst h1
  refine wpAny_call_entry bjSlot (PySem.W.typeIs_bytes _ _ _) bjE (bj_code (l := l) hl (by simp) ?_ ?_ (fun b u e => ?_) fun u k _ => ?_) (bjA _ _)
  · rw [h2, foldl_size, sizeLine_eq]; lia
  · rw [h2, joined_bA, bA_size, sizeLine_eq]; lia
  · subst e
    have : bA ps.flatten = b := by
      rw [← joined_bA, ← h2, joined_list]
      simp
    rw [← this]
    exact q u s.toks
  · rw [h2, joined_bA]
    exact q u k
end
theorem rpPlain : PlainAttrs "re.Pattern" :=
  ⟨⟨"object.__getattribute__", by rw [typeLookup_type, builtinLookup_eq_fast]; kernel_rfl, by decide +kernel⟩, by rw [typeLookup_type, builtinLookup_eq_fast]; kernel_rfl⟩
theorem rpSub : Slot "re.Pattern" "sub" "re.Pattern.sub" :=
  .of (owner := "re.Pattern") (n := "sub") (by rw [typeLookup_type, builtinLookup_eq_fast]; kernel_rfl) (by decide +kernel) (by decide +kernel) (by decide +kernel)
    (by first | exact .inl (by decide +kernel) | exact .inr (by decide +kernel)) (by rw [isSubtype_type]; kernel_rfl)
theorem rpType : typeOf (.builtin "re.Pattern.sub") = pure (.type "method_descriptor") := by show builtinType _ = _; rw [builtinType_eq_fast]; kernel_rfl
theorem rpE : entryFor table "re.Pattern.sub" = some Builtin.«re.Pattern.sub» := entryFor_of_tree (by kernel_rfl)
theorem rpA (a b c : Value) : argsOk "re.Pattern.sub" ⟨[a, b, c], []⟩ := by unfold argsOk; kernel_rfl
theorem rpNamed (a b : Value) : reNamed "re.Pattern.sub" "sub" ["repl", "string", "count"] 2 [a, b] [] = pure [some a, some b, none] := by kernel_rfl
theorem strNoCall : typeLookup (.type "str") (Str.ofString "__call__") = pure none := by rw [typeLookup_type, builtinLookup_eq_fast]; kernel_rfl
theorem bytesNoCall : typeLookup (.type "bytes") (Str.ofString "__call__") = pure none := by rw [typeLookup_type, builtinLookup_eq_fast]; kernel_rfl
theorem subG_bound {F : Nat → Option (Nat × Nat)} {W R : List Nat} {b : Nat} (hF : ∀ s a e, s ≤ W.length → F s = some (a, e) → s ≤ a ∧ a < e ∧ e ≤ W.length) (hW : W.length ≤ b) (hR : R.length ≤ b) :
    ∀ (f d : Nat), d ≤ W.length → (subG F W R f d).length ≤ 2 * (W.length - d) + 1 ∧ ∀ p ∈ subG F W R f d, p.length ≤ b
  | 0, d, _ => by simp [subG]
  | f + 1, d, hd => by
    unfold subG
    cases h : F d with
    | none =>
      dsimp only
      split
      · have := cut_len W d W.length
        simp; lia
      · simp
    | some p =>
      refine hid fun G hG => ?_
      obtain ⟨a, e⟩ := p
      obtain ⟨h1, h2, h3⟩ := hF d a e hd h
      obtain ⟨i1, i2⟩ := subG_bound hF hW hR f e h3
      refine hG ?_
      dsimp only
      have hc := cut_len W d a
      split
      · refine ⟨by simp; lia, fun p hp => ?_⟩
        simp only [List.cons_append, List.nil_append, List.mem_cons] at hp
        rcases hp with rfl | rfl | hp
        · lia
        · exact hR
        · exact i2 p hp
      · refine ⟨by simp; lia, fun p hp => ?_⟩
        simp only [List.nil_append, List.mem_cons] at hp
        rcases hp with rfl | hp
        · exact hR
        · exact i2 p hp
theorem flat_len {b : Nat} : ∀ {ps : List (List Nat)}, (∀ p ∈ ps, p.length ≤ b) → ps.flatten.length ≤ ps.length * b
  | [], _ => by simp
  | p :: r, h => by
    have := flat_len (ps := r) fun q hq => h q (List.mem_cons_of_mem _ hq)
    have := h p (List.mem_cons_self)
    simp only [List.flatten_cons, List.length_append, List.length_cons, Nat.succ_mul]; lia
theorem joinL_nil : ∀ ps : List (List Nat), joinL [] ps = ps.flatten
  | [] => rfl
  | [p] => by simp [joinL]
  | p :: q :: r => by
    rw [joinL, joinL_nil (q :: r)]; simp
noncomputable def subOut (F : Nat → Option (Nat × Nat)) (W R : List Nat) : List Nat := (subG F W R (W.length + 1) 0).flatten
section
variable {C : Cx} {A : Around} {V : View} {s : Shared} {pa : Addr} {code : Array Nat} {kd N : Nat} {v repl : Value} {W R : List Nat} {F : Nat → Option (Nat × Nat)}
theorem pieces_strs : ∀ {vs : List Value} {ps : List (List Nat)}, Pieces 0 vs ps → ∃ l : List (PySem.Str × Tok), strValues l = vs ∧ l.map (·.1) = ps.map sL
  | [], [], _ => ⟨[], rfl, rfl⟩
  | v :: vs, p :: ps, h => by
    obtain ⟨l, h1, h2⟩ := pieces_strs h.2
    rcases h.1 with ⟨_, t, rfl⟩ | ⟨h, _⟩
    · exact ⟨(sL p, t) :: l, by rw [← h1]; rfl, by rw [List.map_cons, h2]; rfl⟩
    · cases h
  | [], _ :: _, h => h.elim
  | _ :: _, [], h => h.elim
theorem sub_call (K : SubK C pa code kd v repl W R F N) (P : PatK C pa code kd) (hno : 92 ∉ R) (hnb : (bA R).contains 92 = false) (hW : W.length ≤ 400) (hR : R.length ≤ 400) (S : St C V s) {E : Value → Shared → Prop} {Q : Value → Shared → Prop}
    (q : ∀ u h' tk, (∀ b o, s.heap.get? b = some o → h'.get? b = some o) → Piece kd u (subOut F W R) → Q u { s with heap := h', toks := tk }) : wpAny C.M A (PySem.call (.builtin "re.Pattern.sub") [.ref pa, repl, v] []) Q E s := by
  have hK := S.inK
  refine hid fun G hG => ?_
  obtain ⟨fs, ca, items, n, cl, dd, sl, l1, l2, h5, h6, h2, hc⟩ := P.ex
  refine hG ?_
  have hT : s.TypeIs (.ref pa) "re.Pattern" := ⟨_, hK _ _ l1, rfl⟩
  refine wpAny_call (codeAny_call_builtin rpSub.plain rpE (rpSub.check _ _ _ _ _ _ _ _ hT (rpA _ _ _) ?_))
  unfold Builtin.«re.Pattern.sub» reSubstitute
  dsimp only
  refine wpAny_bind (wpAny_of_eq (rpNamed _ _) ?_)
  dsimp only
  refine wpAny_bind (wpAny_pure ?_)
  have hLn : C.K.lookup s.heap.objs.size = none := by
    cases q : C.K.lookup s.heap.objs.size with
    | none => rfl
    | some o => exact absurd (hK _ _ q) (by rw [get_size]; nofun)
  obtain ⟨zb, zl⟩ := subG_bound (F := F) (W := W) (R := R) K.rng hW hR (W.length + 1) 0 (Nat.zero_le _)
  have run : codeAny C.M A (.builtin "re.Pattern.sub.loop" ⟨[.ref pa, v, repl, rawInt 0, rawInt 0, rawInt (0 : Int), rawInt (0 : Nat), rawInt (0 : Nat), .bool false, .ref s.heap.objs.size, .bool false], []⟩) (fun r s' => match r with | .ok (.ret v) => Q v s' | .ok _ => False | .error e => E e s') { s with heap := s.heap.push (listO #[] 0) } := by
    have hg : (s.heap.push (listO #[] 0)).get? s.heap.objs.size = some (listO #[] 0) := Heap.get?_push_size _ rfl
    have hk : ∀ b o, s.heap.get? b = some o → (s.heap.push (listO #[] 0)).get? b = some o := fun b o e => Heap.get?_push_of_some _ e
    refine sub_loop K hLn (W.length + 1) 0 0 _ #[] 0 (by lia) (Nat.zero_le _) (fun a o e => hk a o (hK a o e)) hg (by simp; lia) fun h' tk acc' c' ps j f1 f2 f3 f4 f5 => ?_
    have keep : ∀ b o, s.heap.get? b = some o → h'.get? b = some o := fun b o e => (f4 b fun q => absurd (Heap.lt_size e) (by rw [q]; exact Nat.lt_irrefl _)).trans (hk b o e)
    have fl := flat_len zl
    have fz : (subG F W R (W.length + 1) 0).length ≤ 801 := by lia
    have e0 : acc' = ps.toArray := by rw [← Array.toList_inj, f2]; rfl
    subst e0
    by_cases he : (ps.toArray).isEmpty = true
    · rw [if_pos he]
      have : ps = [] := by simpa using he
      subst this
      have h3 : subG F W R (W.length + 1) 0 = [] := List.length_eq_zero_iff.mp (Pieces.len f3).symm
      refine wpAny_pure (q _ _ _ keep ?_)
      unfold subOut
      rw [h3]
      exact f5
    · rw [if_neg he]
      rcases f5 with ⟨rfl, u, rfl⟩ | ⟨rfl, u, rfl⟩
      · refine hid fun G hG => ?_
        obtain ⟨l, l1, l2⟩ := pieces_strs f3
        refine hG ?_
        subst l1
        refine SC.join (s := { s with heap := h', toks := tk }) ⟨_, f1, rfl, _, rfl⟩ l2 (joinOk_of (n := 400) (m := 801) (fun p hp => ?_) (by rw [List.length_map]; exact fz) (by show 801 * 400 + 801 * (sL []).length ≤ _; rw [sL_len]; decide)) fun t' k => ?_
        · obtain ⟨x, hx, rfl⟩ := List.mem_map.mp hp
          rw [sL_len]
          exact zl x hx
        · rw [join_sL, joinL_nil]
          exact q _ _ _ keep (.inl ⟨rfl, _, rfl⟩)
      · refine call_bytes_join (s := { s with heap := h', toks := tk }) ⟨_, f1, rfl, _, rfl⟩ f3 (by have := Nat.mul_le_mul_right 400 fz; lia) fun t k => ?_
        exact q _ _ _ keep (.inr ⟨rfl, _, rfl⟩)
  rcases K.repl with ⟨h0, t, rfl⟩ | ⟨h1, t, rfl⟩
  · refine wpAny_bind (wpAny_specialOf (typeIs_str _ _ _) strNoCall ?_)
    refine bm_if_false rfl ?_
    refine wpAny_bind (wpAny_of_eq (show asStr? (.str (sL R) t) = pure (some (sL R)) from rfl) ?_)
    dsimp only
    refine wpAny_bind (wpAny_pure ?_)
    refine bm_if_false rfl ?_
    refine bm_if_true (by simpa [sL] using hno) ?_
    refine wpAny_bind (wpAny_pure ?_)
    dsimp only
    refine wpAny_bind (wpAny_holding (K.target _ _ _ _ hK fun r _ => ?_))
    refine bm_if_false rfl ?_
    exact wpAny_bind (wpAny_newList (wpAny_pure ⟨plainId_quiet slPlain _, run⟩))
  · refine wpAny_bind (wpAny_specialOf (PySem.W.typeIs_bytes _ _ _) bytesNoCall ?_)
    refine bm_if_false rfl ?_
    refine wpAny_bind (wpAny_of_eq (show asStr? (.bytes (bA R) t) = pure none from rfl) ?_)
    dsimp only
    refine wpAny_bind ?_
    unfold Builtin.Bytes.bufferQuiet?
    refine wpAny_bind (wpAny_attempt (by_buffer (wpAny_pure ?_)))
    dsimp only
    refine wpAny_bind (wpAny_pure ?_)
    refine bm_if_false rfl ?_
    refine bm_if_true ?_ ?_
    · rw [hnb]; rfl
    refine wpAny_bind (wpAny_pure ?_)
    dsimp only
    refine wpAny_bind (wpAny_holding (K.target _ _ _ _ hK fun r _ => ?_))
    refine bm_if_false rfl ?_
    exact wpAny_bind (wpAny_newList (wpAny_pure ⟨plainId_quiet slPlain _, run⟩))
end
theorem eolEnd_gt (t : Array Nat) (s : Nat) : s < eolEnd t s := by unfold eolEnd; split <;> omega
theorem eolEnd_le (t : Array Nat) (s : Nat) (h : s < t.size) : eolEnd t s ≤ t.size := by
  unfold eolEnd
  by_cases h2 : t.getD s 0 = 13 ∧ s + 1 < t.size ∧ t.getD (s + 1) 0 = 10
  · rw [if_pos h2]; exact h2.2.1
  · rw [if_neg h2]; exact h
theorem next3_rng (t : Array Nat) (s a e : Nat) (h : next3 t s = some (a, e)) : s ≤ a ∧ a < e ∧ e ≤ t.size := by
  unfold next3 at h
  cases h1 : nx t (t.size + 1 - s) s with
  | none => rw [h1] at h; cases h
  | some r =>
    rw [h1] at h
    cases h
    obtain ⟨i1, i2, _, _⟩ := nx_spec h1
    exact ⟨i1, eolEnd_gt _ _, eolEnd_le _ _ i2⟩
theorem dotAt_lt {t : Array Nat} {r : Nat} (h : dotAt t r = true) : r < t.size := by
  unfold dotAt at h
  simp at h
  lia
theorem next1_rng (t : Array Nat) (s a e : Nat) (h : next1 t s = some (a, e)) : s ≤ a ∧ a < e ∧ e ≤ t.size := by
  unfold next1 at h
  cases h1 : nx1 t (t.size + 1 - s) s with
  | none => rw [h1] at h; cases h
  | some r =>
    rw [h1] at h
    cases h
    obtain ⟨i1, i2, _⟩ := nx1_spec h1
    exact ⟨i1, Nat.lt_succ_self _, dotAt_lt i2⟩
noncomputable def eolW (w : List Nat) : List Nat := subOut (next3 w.toArray) w [13, 10]
noncomputable def dotW (w : List Nat) : List Nat := subOut (next1 w.toArray) w [46, 46]
section
variable {C : Cx} {k : Nat} {sc : Scope} {ρ : Asn}
theorem subK3 (H : Hd C) {W R : List Nat} {t u : Tok} (hW : W.length ≤ 400) : SubK C 144 c3 0 (.str (sL W) t) (.str (sL R) u) W R (next3 W.toArray) 40 :=
  ⟨.inl rfl, fun A E s Q hK q => whole_str (V := fun _ => none) hK (pat3 H) q, fun s hs => search3 W.toArray s (by simpa using hs), by decide, fun s a e _ h => by simpa using next3_rng _ _ _ _ h, .inl ⟨rfl, _, rfl⟩, by lia⟩
theorem subK1 (H : Hd C) {W R : List Nat} {t u : Tok} (hW : W.length ≤ 400) : SubK C 134 c1 0 (.str (sL W) t) (.str (sL R) u) W R (next1 W.toArray) 2020 :=
  ⟨.inl rfl, fun A E s Q hK q => whole_str (V := fun _ => none) hK (pat1 H) q, fun s hs => Ends.le (search1 W.toArray s (by simpa using hs)) (by simp; lia), by decide, fun s a e _ h => by simpa using next1_rng _ _ _ _ h, .inl ⟨rfl, _, rfl⟩, by lia⟩
theorem bA_nat {W : List Nat} (h : ∀ c ∈ W, c < 256) : (bA W).map (·.toNat) = W.toArray := by
  unfold bA
  apply Array.ext'
  simp
  refine (List.map_congr_left fun c hc => ?_).trans (List.map_id _)
  have := h c hc
  simp; omega
theorem subK2 (H : Hd C) {W R : List Nat} {t u : Tok} (hW : W.length ≤ 400) (hb : ∀ c ∈ W, c < 256) : SubK C 139 c1 1 (.bytes (bA W) t) (.bytes (bA R) u) W R (next1 W.toArray) 2020 :=
  ⟨.inr rfl, fun A E s Q hK q => whole_bytes (V := fun _ => none) hK (pat2 H) fun r T => q r (bA_nat hb ▸ T), fun s hs => Ends.le (search1 W.toArray s (by simpa using hs)) (by simp; lia), by decide, fun s a e _ h => by simpa using next1_rng _ _ _ _ h, .inr ⟨rfl, _, rfl⟩, by lia⟩
theorem Ev.gname {x : PySem.Str} {p : Pos} {v : Value} {d : D} (hx : sc.names.lookup x = some .globalImplicit) (hf : GFn C x v) (hr : ∀ V, Rep V v d) (hd : (x == ("__debug__" : PySem.Str)) = false := by decide) : Ev C k sc ρ (.Name x p) d := fun env A V s he hr' S F E Q q =>
  Name_function_global F.kind (by show env.scope.names.lookup x = _; rw [he]; exact hx) (hf.load S F (q _ _ _ (.refl V s) S (hr V))) hd
theorem MethR.sub {j pa kd : Nat} {code : Array Nat} {dr dv d : D} (hp : patA j = pa) (P : PatK C pa code kd)
    (h : ∀ (A : Around) (V : View) (s : Shared) (r v : Value) , Rep V r dr → Rep V v dv → St C V s → ∃ N W R F, SubK C pa code kd v r W R F N ∧ 92 ∉ R ∧ (bA R).contains 92 = false ∧ W.length ≤ 400 ∧ R.length ≤ 400 ∧ ∀ u, Piece kd u (subOut F W R) → ∀ V, Rep V u d) :
    MethR C k (.pat j) (Str.ofString "sub") [dr, dv] d := fun A V s v pl hr S r E Q q => by
  obtain rfl := r.is
  rw [hp] at *
  refine hid fun G hG => ?_
  obtain ⟨fs, ca, items, n, cl, dd, sl, l1, _⟩ := id P.ex
  refine hG ?_
  have ho := S.inK _ _ l1
  refine getMethod_builtin (T := "re.Pattern") ⟨_, ho, rfl⟩ rpPlain rpSub rpType (fun a e => by cases e; exact ⟨_, ho, rfl⟩) ?_
  refine q (.builtin "re.Pattern.sub") [.ref pa] V s (.refl V s) S (.inl ⟨_, rfl⟩) fun V'' s'' vs S'' l rs => ?_
  refine hid fun G hG => ?_
  obtain ⟨x, vs1, rfl, r1, rs1⟩ := rs.inv_cons
  obtain ⟨y, vs2, rfl, r2, rs2⟩ := rs1.inv_cons
  obtain rfl := rs2.inv_nil
  obtain ⟨N, W, R, F, K, h1, h2, h3, h4, h5⟩ := h A V'' s'' x y r1 r2 S''
  refine hG ?_
  exact Yl.of_keep S'' fun E Q q => sub_call K P h1 h2 h3 h4 S'' fun u h' tk hk hu => q u h' tk hk (h5 u hu V'')
theorem MethR.sub3 (H : Hd C) {w : List Nat} (hw : w.length ≤ 400) : MethR C k (.pat 3) (Str.ofString "sub") [.str (sL [13, 10]), .str (sL w)] (.str (sL (eolW w))) :=
  MethR.sub (pa := 144) rfl (pat3 H) fun A V s r v h1 h2 S => by
    obtain ⟨_, rfl⟩ := h1.is; obtain ⟨_, rfl⟩ := h2.is
    exact ⟨_, _, [13, 10], _, subK3 H hw, by decide, by decide +kernel, hw, by decide, fun u hu V => by
      rcases hu with ⟨_, t, rfl⟩ | ⟨h, _⟩
      · exact .str _ _
      · cases h⟩
theorem MethR.sub1 (H : Hd C) {w : List Nat} (hw : w.length ≤ 400) : MethR C k (.pat 1) (Str.ofString "sub") [.str (sL [46, 46]), .str (sL w)] (.str (sL (dotW w))) :=
  MethR.sub (pa := 134) rfl (pat1 H) fun A V s r v h1 h2 S => by
    obtain ⟨_, rfl⟩ := h1.is; obtain ⟨_, rfl⟩ := h2.is
    exact ⟨_, _, [46, 46], _, subK1 H hw, by decide, by decide +kernel, hw, by decide, fun u hu V => by
      rcases hu with ⟨_, t, rfl⟩ | ⟨h, _⟩
      · exact .str _ _
      · cases h⟩
theorem MethR.sub2 (H : Hd C) {w : List Nat} (hw : w.length ≤ 400) (hb : ∀ c ∈ w, c < 256) : MethR C k (.pat 2) (Str.ofString "sub") [.bytes (bA [46, 46]), .bytes (bA w)] (.bytes (bA (dotW w))) :=
  MethR.sub (pa := 139) rfl (pat2 H) fun A V s r v h1 h2 S => by
    obtain ⟨_, rfl⟩ := h1.is; obtain ⟨_, rfl⟩ := h2.is
    exact ⟨_, _, [46, 46], _, subK2 H hw hb, by decide, by decide +kernel, hw, by decide, fun u hu V => by
      rcases hu with ⟨h, _⟩ | ⟨_, t, rfl⟩
      · cases h
      · exact .bytes _ _⟩
theorem gPat (H : Hd C) : GFn C (Str.ofString "_twin_re_1") (.ref 134) ∧ GFn C (Str.ofString "_twin_re_2") (.ref 139) ∧ GFn C (Str.ofString "_twin_re_3") (.ref 144) :=
  ⟨.inl (mg_of C.inK C.g (by rw [H.K]; kernel_rfl)), .inl (mg_of C.inK C.g (by rw [H.K]; kernel_rfl)), .inl (mg_of C.inK C.g (by rw [H.K]; kernel_rfl))⟩
theorem gCRLF (H : Hd C) : ∃ t, GFn C (Str.ofString "CRLF") (.str (sL [13, 10]) t) := ⟨_, .inl (mg_of C.inK C.g (by rw [H.K]; exact rfl))⟩
theorem subOut_len {F : Nat → Option (Nat × Nat)} {W R : List Nat} (hF : ∀ s a e, s ≤ W.length → F s = some (a, e) → s ≤ a ∧ a < e ∧ e ≤ W.length) (h1 : 1 ≤ R.length) : (subOut F W R).length ≤ W.length * R.length := by
  have : ∀ f d, d ≤ W.length → ((subG F W R f d).flatten).length ≤ (W.length - d) * R.length := by
    intro f
    induction f with
    | zero => intro d _; simp [subG]
    | succ f ih =>
      intro d hd
      unfold subG
      cases h : F d with
      | none =>
        dsimp only
        split
        · have : (cut W d W.length).length ≤ W.length - d := by unfold cut; simp
          have h2 : W.length - d ≤ (W.length - d) * R.length := Nat.le_mul_of_pos_right _ h1
          simp; lia
        · simp
      | some p =>
        obtain ⟨a, e⟩ := p
        obtain ⟨r1, r2, r3⟩ := hF d a e hd h
        have i := ih e r3
        have e1 : (W.length - d) * R.length = (W.length - e) * R.length + (e - a) * R.length + (a - d) * R.length := by rw [← Nat.add_mul, ← Nat.add_mul]; congr 1; lia
        have e2 : R.length ≤ (e - a) * R.length := Nat.le_mul_of_pos_left _ (by lia)
        have e3 : a - d ≤ (a - d) * R.length := Nat.le_mul_of_pos_right _ h1
        have e4 : (cut W d a).length ≤ a - d := by unfold cut; simp; lia
        dsimp only
        split
        · simp only [List.cons_append, List.nil_append, List.flatten_cons, List.length_append]; lia
        · simp only [List.nil_append, List.flatten_cons, List.length_append]; lia
  exact this _ 0 (Nat.zero_le _)
theorem eolW_len (w : List Nat) : (eolW w).length ≤ w.length * 2 := subOut_len (fun s a e _ h => by simpa using next3_rng _ _ _ _ h) (by decide)
theorem dotW_len (w : List Nat) : (dotW w).length ≤ w.length * 2 := subOut_len (fun s a e _ h => by simpa using next1_rng _ _ _ _ h) (by decide)
theorem quotedataC (H : Hd C) {w : List Nat} (hw : w.length ≤ 200) : CallR C (k + 2) (.ref 151) [.str (sL w)] (.str (sL (dotW (eolW w)))) := by
  refine' CallR.fn (f := 151) (ids := [i_data]) ?hl ?hcd rfl ?hb ?ok ?body
  case hl => rw [H.K]; exact rfl
  case hcd => rw [H.K]; kernel_rfl
  case hb => intro vs hv; obtain ⟨_, rfl⟩ := len1 hv; exact rfl
  case ok => exact DefOk.of (by decide +kernel)
  case body =>
    obtain ⟨t, hc⟩ := gCRLF H
    have h := eolW_len w
    exact Ex.ret (Ev.methG (Ev.gname rfl (gPat H).1 fun V => .pat 1) (MethR.sub1 H (by lia)) (EvL.cons Ev.str (EvL.cons (Ev.methG (Ev.gname rfl (gPat H).2.2 fun V => .pat 3) (MethR.sub3 H (by lia)) (EvL.cons (Ev.gname rfl hc fun V => .str _ _) (EvL.cons (Ev.name (i := i_data) (d := .str (sL w)) rfl (by walk_at "lk")) .nil))) .nil))) rfl
theorem fixEolsC (H : Hd C) {w : List Nat} (hw : w.length ≤ 400) : CallR C (k + 2) (.ref 165) [.str (sL w)] (.str (sL (eolW w))) := by
  refine' CallR.fn (f := 165) (ids := [i_data]) ?hl ?hcd rfl ?hb ?ok ?body
  case hl => rw [H.K]; exact rfl
  case hcd => rw [H.K]; kernel_rfl
  case hb => intro vs hv; obtain ⟨_, rfl⟩ := len1 hv; exact rfl
  case ok => exact DefOk.of (by decide +kernel)
  case body =>
    obtain ⟨t, hc⟩ := gCRLF H
    exact Ex.ret (Ev.methG (Ev.gname rfl (gPat H).2.2 fun V => .pat 3) (MethR.sub3 H hw) (EvL.cons (Ev.gname rfl hc fun V => .str _ _) (EvL.cons (Ev.name (i := i_data) (d := .str (sL w)) rfl (by walk_at "lk")) .nil))) rfl
theorem quotePeriodsC (H : Hd C) {w : List Nat} (hw : w.length ≤ 400) (hb : ∀ c ∈ w, c < 256) : CallR C (k + 2) (.ref 158) [.bytes (bA w)] (.bytes (bA (dotW w))) := by
  refine' CallR.fn (f := 158) (ids := [i_bindata]) ?hl ?hcd rfl ?hb ?ok ?body
  case hl => rw [H.K]; exact rfl
  case hcd => rw [H.K]; kernel_rfl
  case hb => intro vs hv; obtain ⟨_, rfl⟩ := len1 hv; exact rfl
  case ok => exact DefOk.of (by decide +kernel)
  case body =>
    exact Ex.ret (Ev.methG (Ev.gname rfl (gPat H).2.1 fun V => .pat 2) (MethR.sub2 H hw hb) (EvL.cons Ev.bytes (EvL.cons (Ev.name (i := i_bindata) (d := .bytes (bA w)) rfl (by walk_at "lk")) .nil))) rfl
end
end
section
open PySem PySem.W PyProof.Rows PySem.StrLaws PySem.Builtin PySem.Builtin.Str
theorem subAt_two (x : PySem.Str) (c d k : Nat) : subAt x ⟨#[c, d]⟩ k = true ↔ x.cps.toList[k]? = some c ∧ x.cps.toList[k + 1]? = some d := by
  unfold subAt
  rw [beq_iff_eq, ← Array.toList_inj, Array.toList_extract, List.extract_eq_take_drop]
  show ((x.cps.toList.drop k).take (k + 2 - k)) = [c, d] ↔ _
  rw [show k + 2 - k = 2 by lia]
  have h0 : (x.cps.toList.drop k)[0]? = x.cps.toList[k]? := by rw [List.getElem?_drop]; rfl
  have h1 : (x.cps.toList.drop k)[1]? = x.cps.toList[k + 1]? := by rw [List.getElem?_drop]
  rw [← h0, ← h1]
  generalize x.cps.toList.drop k = l
  match l with
  | [] => simp
  | [a] => simp
  | a :: b :: r => simp
theorem part2 (x : PySem.Str) (c d a b : Nat) (hb : b ≤ x.length) (hn : ∀ k, a ≤ k → k < b → ¬ At x ⟨#[c, d]⟩ x.length k) (u v : List Nat) : (strSub x a b).cps.toList ≠ u ++ c :: d :: v := by
  intro h
  rw [strSub_toList] at h
  have hl : u.length + 2 ≤ b - a ∧ a + u.length + 2 ≤ x.cps.toList.length := by
    have := congrArg List.length h
    simp at this
    constructor
    · lia
    · simp; lia
  have e1 : x.cps.toList[a + u.length]? = some c := by
    have : ((x.cps.toList.drop a).take (b - a))[u.length]? = some c := by rw [h]; simp
    rwa [List.getElem?_take_of_lt (by lia), List.getElem?_drop] at this
  have e2 : x.cps.toList[a + u.length + 1]? = some d := by
    have : ((x.cps.toList.drop a).take (b - a))[u.length + 1]? = some d := by rw [h]; simp
    rwa [List.getElem?_take_of_lt (by lia), List.getElem?_drop, ← Nat.add_assoc] at this
  refine hn (a + u.length) (by lia) (by lia) ⟨?_, (subAt_two _ _ _ _).mpr ⟨e1, e2⟩⟩
  show a + u.length + 2 ≤ x.cps.size
  have := hl.2
  simpa using this
theorem parts2 (x : PySem.Str) (c d : Nat) : ∀ (cuts : List Nat) (a f : Nat), ChainG x ⟨#[c, d]⟩ x.length a cuts f → (∀ k, f ≤ k → ¬ At x ⟨#[c, d]⟩ x.length k) → ∀ p ∈ partsFrom x (⟨#[c, d]⟩ : PySem.Str).length a cuts, ∀ u v, p.cps.toList ≠ u ++ c :: d :: v
  | [], a, f, h, hn, p, hp => by
    have e : f = a := h
    subst e
    rw [List.mem_singleton.mp hp]
    exact part2 x c d f x.length (Nat.le_refl _) fun k h1 _ => hn k h1
  | e :: r, a, f, h, hn, p, hp => by
    rcases List.mem_cons.mp hp with rfl | hp'
    · exact part2 x c d a e (by have := h.2.1.1; lia) h.2.2.1
    · exact parts2 x c d r _ f h.2.2.2 hn p hp'
theorem split2 (x : PySem.Str) : ∀ p ∈ Txt.split x (sL [13, 10]), ∀ u v, p.cps.toList ≠ u ++ 13 :: 10 :: v := by
  obtain ⟨f, hG, hn⟩ := occ_tight x ⟨#[13, 10]⟩ (by decide)
  unfold Txt.split
  split
  · rename_i hc
    intro p hp u v e
    rw [List.mem_singleton.mp hp] at e
    have hl : 2 ≤ x.length := by
      have := congrArg List.length e
      simp at this
      show 2 ≤ x.cps.size
      lia
    have hk : 1 ≤ PySem.Builtin.Str.strKind x := by
      unfold PySem.Builtin.Str.strKind
      split
      · exact Nat.le_refl _
      · split <;> lia
    have hk2 : PySem.Builtin.Str.strKind (sL [13, 10]) = 1 := by decide +kernel
    have h2 : (sL [13, 10]).length = 2 := rfl
    rw [hk2, h2, Bool.or_eq_true, decide_eq_true_eq, decide_eq_true_eq] at hc
    lia
  · split
    · rename_i he
      intro p hp
      rw [List.mem_singleton.mp hp]
      have e0 : occurrences x ⟨#[13, 10]⟩ 0 x.length (x.length + 1) = [] := List.isEmpty_iff.mp he
      rw [e0] at hG
      have ef : f = 0 := hG
      subst ef
      intro u v
      have := part2 x 13 10 0 x.length (Nat.le_refl _) (fun k h1 _ => hn k h1) u v
      rwa [sub_whole x] at this
    · rw [partsBetween_eq]
      exact parts2 x 13 10 _ 0 f hG hn
theorem joinL_uniq : ∀ (ps rows : List (List Nat)), ps ≠ [] → rows ≠ [] → (∀ p ∈ ps, ∀ u v, p ≠ u ++ 13 :: 10 :: v) → (∀ r ∈ rows, 13 ∉ r) → joinL [13, 10] ps = joinL [13, 10] rows → ps = rows
  | [], _, h, _, _, _, _ => absurd rfl h
  | _, [], _, h, _, _, _ => absurd rfl h
  | [p], [r], _, _, _, _, h => by simpa [joinL] using h
  | [p], r :: r2 :: rs, _, _, hp, _, h => by
    refine absurd ?_ (hp p (by simp) r (joinL [13, 10] (r2 :: rs)))
    have : p = r ++ [13, 10] ++ joinL [13, 10] (r2 :: rs) := h
    rw [this]; simp
  | p :: p2 :: ps, [r], _, _, _, hr, h => by
    have : p ++ [13, 10] ++ joinL [13, 10] (p2 :: ps) = r := h
    refine absurd ?_ (hr r (by simp))
    rw [← this]; simp
  | p :: p2 :: ps, r :: r2 :: rs, _, _, hp, hr, h => by
    have h' : p ++ (13 :: 10 :: joinL [13, 10] (p2 :: ps)) = r ++ (13 :: 10 :: joinL [13, 10] (r2 :: rs)) := by
      have : p ++ [13, 10] ++ joinL [13, 10] (p2 :: ps) = r ++ [13, 10] ++ joinL [13, 10] (r2 :: rs) := h
      simpa using this
    have fin : p = r := by
      rcases List.append_eq_append_iff.mp h' with ⟨a, e1, e2⟩ | ⟨a, e1, e2⟩
      · match a with
        | [] => simpa using e1.symm
        | z :: a =>
          have : z = 13 := by simp at e2; exact e2.1.symm
          subst this
          refine absurd ?_ (hr r (by simp))
          rw [e1]; simp
      · match a with
        | [] => simpa using e1
        | [z] => simp at e2
        | z :: z2 :: a =>
          have h1 : 13 = z ∧ 10 = z2 := by simp at e2; exact ⟨e2.1, e2.2.1⟩
          obtain ⟨rfl, rfl⟩ := h1
          exact absurd e1 (hp p (by simp) r a)
    subst fin
    have h2 := List.append_cancel_left h'
    simp at h2
    rw [joinL_uniq (p2 :: ps) (r2 :: rs) (by simp) (by simp) (fun q hq => hp q (List.mem_cons_of_mem _ hq)) (fun q hq => hr q (List.mem_cons_of_mem _ hq)) h2]
theorem split_rows {rows : List (List Nat)} (h0 : rows ≠ []) (h : ∀ r ∈ rows, 13 ∉ r) : Txt.split (sL (joinL [13, 10] rows)) (sL [13, 10]) = rows.map sL := by
  have e : ∀ ps : List PySem.Str, ps = (ps.map fun p => p.cps.toList).map sL := fun ps => by
    rw [List.map_map]
    conv => lhs; rw [← List.map_id ps]
    exact List.map_congr_left fun p _ => sL_of p
  have h1 := StrLaws.join_split (sL (joinL [13, 10] rows)) (sL [13, 10])
  have h2 := split2 (sL (joinL [13, 10] rows))
  have h3 := split_pos (sL (joinL [13, 10] rows)) (sL [13, 10])
  generalize Txt.split (sL (joinL [13, 10] rows)) (sL [13, 10]) = ps at *
  rw [e ps] at h1 ⊢
  have h4 : Str.join (sL [13, 10]) ((ps.map fun p => p.cps.toList).map sL) = sL (joinL [13, 10] (ps.map fun p => p.cps.toList)) := by rw [← StrLaws.glued_eq_join]; exact join_sL _ _
  rw [h4] at h1
  have h5 : joinL [13, 10] (ps.map fun p => p.cps.toList) = joinL [13, 10] rows := by
    have := congrArg (fun s : PySem.Str => s.cps.toList) h1
    simpa [sL] using this
  rw [joinL_uniq _ rows (by simpa using h3) h0 (fun p hp => by
    obtain ⟨q, hq, rfl⟩ := List.mem_map.mp hp
    exact h2 q hq) h h5]
end
section
theorem gd (W : List Nat) (i : Nat) : W.toArray.getD i 0 = (W[i]?).getD 0 := by simp [Array.getD_eq_getD_getElem?]
noncomputable def Free (r : List Nat) : Prop := 10 ∉ r ∧ 13 ∉ r
noncomputable def EndOk (e : List Nat) : Prop := e = [10] ∨ e = [13] ∨ e = [13, 10]
noncomputable def GoodL : List (List Nat × List Nat) → Prop
  | [] => True
  | [p] => EndOk p.1 ∧ Free p.2
  | p :: q :: r => EndOk p.1 ∧ Free p.2 ∧ p.2 ≠ [] ∧ GoodL (q :: r)
noncomputable def mailW (r0 : List Nat) (l : List (List Nat × List Nat)) : List Nat := r0 ++ (l.map fun p => p.1 ++ p.2).flatten
theorem free_at {pre r post : List Nat} (h : Free r) {i : Nat} (h1 : pre.length ≤ i) (h2 : i < pre.length + r.length) : isEol (((pre ++ (r ++ post))[i]?).getD 0) = false := by
  rw [List.getElem?_append_right h1, List.getElem?_append_left (by lia)]
  have h3 : i - pre.length < r.length := by lia
  rw [List.getElem?_eq_getElem h3]
  have hm := List.getElem_mem h3
  simp only [Option.getD_some, isEol, Bool.or_eq_false_iff, beq_eq_false_iff_ne]
  exact ⟨fun q => h.1 (q ▸ hm), fun q => h.2 (q ▸ hm)⟩
theorem nx_at {pre r post : List Nat} {c : Nat} (h : Free r) (hc : isEol c = true) : nx (pre ++ (r ++ c :: post)).toArray ((pre ++ (r ++ c :: post)).toArray.size + 1 - pre.length) pre.length = some (pre.length + r.length) := by
  have hcat : isEol ((pre ++ (r ++ c :: post)).toArray.getD (pre.length + r.length) 0) = true := by
    rw [gd, List.getElem?_append_right (by lia), List.getElem?_append_right (by lia)]
    simpa using hc
  cases e : nx (pre ++ (r ++ c :: post)).toArray ((pre ++ (r ++ c :: post)).toArray.size + 1 - pre.length) pre.length with
  | none =>
    have := nx_none e (by simp; lia) (pre.length + r.length) (by lia) (by simp)
    rw [hcat] at this
    cases this
  | some q =>
    obtain ⟨s1, s2, s3, s4⟩ := nx_spec e
    congr 1
    rcases Nat.lt_trichotomy q (pre.length + r.length) with hlt | he | hgt
    · have := free_at (pre := pre) (r := r) (post := c :: post) h s1 hlt
      rw [gd] at s3
      simp [isEol] at this
      lia
    · exact he
    · have := s4 (pre.length + r.length) (by lia) hgt
      rw [hcat] at this
      cases this
theorem nx_end {pre r : List Nat} (h : Free r) (n : Nat) : nx (pre ++ r).toArray n pre.length = none := by
  cases e : nx (pre ++ r).toArray n pre.length with
  | none => rfl
  | some q =>
    obtain ⟨s1, s2, s3, s4⟩ := nx_spec e
    have := free_at (pre := pre) (r := r) (post := []) h s1 (by simpa using s2)
    rw [List.append_nil] at this
    rw [gd] at s3
    simp [isEol] at this
    lia
theorem cut_mid (pre r post : List Nat) : cut (pre ++ (r ++ post)) pre.length (pre.length + r.length) = r := by
  unfold cut
  rw [List.take_append, List.take_of_length_le (by lia), List.drop_append]
  simp
theorem eolEnd_at {pre r e post : List Nat} (he : EndOk e) (hp : e = [13] → ∀ t, post ≠ 10 :: t) : eolEnd (pre ++ (r ++ (e ++ post))).toArray (pre.length + r.length) = pre.length + r.length + e.length := by
  unfold eolEnd
  rw [gd, gd]
  have g0 : ∀ i, (pre ++ (r ++ (e ++ post)))[pre.length + r.length + i]? = (e ++ post)[i]? := fun i => by
    rw [List.getElem?_append_right (by lia), List.getElem?_append_right (by lia)]
    congr 1; lia
  rw [g0 1, show pre.length + r.length = pre.length + r.length + 0 from rfl, g0 0]
  rcases he with rfl | rfl | rfl
  · rw [if_neg (by simp)]; rfl
  · rw [if_neg ?_]; · rfl
    rintro ⟨_, h2, h3⟩
    cases post with
    | nil => simp at h3
    | cons z t =>
      simp at h3
      exact hp rfl t (by rw [h3])
  · rw [if_pos (by simp; lia)]; rfl
theorem endOk_cons {e : List Nat} (h : EndOk e) : ∃ c t, e = c :: t ∧ isEol c = true := by
  rcases h with rfl | rfl | rfl
  · exact ⟨_, _, rfl, rfl⟩
  · exact ⟨_, _, rfl, rfl⟩
  · exact ⟨_, _, rfl, rfl⟩
theorem good_tail {p : List Nat × List Nat} {l : List (List Nat × List Nat)} (h : GoodL (p :: l)) : EndOk p.1 ∧ Free p.2 ∧ GoodL l ∧ (l ≠ [] → p.2 ≠ []) := by
  cases l with
  | nil => exact ⟨h.1, h.2, trivial, fun q => absurd rfl q⟩
  | cons q r => exact ⟨h.1, h.2.1, h.2.2.2, fun _ => h.2.2.1⟩
theorem mail_head {r : List Nat} {l : List (List Nat × List Nat)} (hf : Free r) (hne : l ≠ [] → r ≠ []) (t : List Nat) : mailW r l ≠ 10 :: t := by
  intro h
  unfold mailW at h
  cases r with
  | nil =>
    cases l with
    | nil => cases h
    | cons p l => exact hne (by simp) rfl
  | cons c r =>
    simp at h
    exact hf.1 (by rw [h.1]; simp)
theorem eol_rows (R : List Nat) : ∀ (l : List (List Nat × List Nat)) (r0 pre : List Nat) (f : Nat), Free r0 → GoodL l → (pre ++ mailW r0 l).length < pre.length + f →
    (subG (next3 (pre ++ mailW r0 l).toArray) (pre ++ mailW r0 l) R f pre.length).flatten = joinL R (r0 :: l.map (·.2))
  | _, r0, pre, 0, _, _, hf => by simp at hf; lia
  | [], r0, pre, f + 1, h0, _, hf => by
    have e : mailW r0 [] = r0 := by simp [mailW]
    rw [e]
    unfold subG
    have : next3 (pre ++ r0).toArray pre.length = none := by
      unfold next3
      rw [nx_end h0]; rfl
    rw [this]
    dsimp only
    have h2 := cut_mid pre r0 []
    rw [List.append_nil] at h2
    by_cases hr : r0 = []
    · subst hr; simp [joinL]
    · have : 0 < r0.length := List.length_pos_iff.mpr hr
      rw [if_pos (by simp; lia), List.length_append, h2]
      simp [joinL]
  | p :: l, r0, pre, f + 1, h0, hg, hf => by
    obtain ⟨g1, g2, g3, g4⟩ := good_tail hg
    obtain ⟨c, t, hc, hce⟩ := endOk_cons g1
    have e : mailW r0 (p :: l) = r0 ++ (p.1 ++ mailW p.2 l) := by simp [mailW]
    have hn : next3 (pre ++ mailW r0 (p :: l)).toArray pre.length = some (pre.length + r0.length, pre.length + r0.length + p.1.length) := by
      unfold next3
      have := nx_at (pre := pre) (r := r0) (post := t ++ mailW p.2 l) h0 hce
      rw [e]
      have e2 : c :: (t ++ mailW p.2 l) = p.1 ++ mailW p.2 l := by rw [hc]; rfl
      rw [e2] at this
      rw [this]
      show some (_, _) = _
      rw [eolEnd_at g1 fun _ t => mail_head g2 g4 t]
    have ih := eol_rows R l p.2 (pre ++ r0 ++ p.1) f g2 g3 (by
      rw [e] at hf
      have : 1 ≤ p.1.length := by rw [hc]; simp
      simp at hf ⊢; lia)
    have e3 : pre ++ r0 ++ p.1 ++ mailW p.2 l = pre ++ mailW r0 (p :: l) := by rw [e]; simp
    rw [e3] at ih
    have e4 : (pre ++ r0 ++ p.1).length = pre.length + r0.length + p.1.length := by simp; lia
    rw [e4] at ih
    unfold subG
    rw [hn]
    dsimp only
    have hcut : (if pre.length < pre.length + r0.length then [cut (pre ++ mailW r0 (p :: l)) pre.length (pre.length + r0.length)] else []).flatten = r0 := by
      by_cases hr : r0 = []
      · subst hr; simp
      · have : 0 < r0.length := List.length_pos_iff.mpr hr
        rw [if_pos (by lia), e, cut_mid]; simp
    rw [List.flatten_append, List.flatten_cons, hcut, ih]
    show r0 ++ (R ++ joinL R (p.2 :: l.map (·.2))) = r0 ++ R ++ joinL R (p.2 :: l.map (·.2))
    simp
theorem eolW_mail {r0 : List Nat} {l : List (List Nat × List Nat)} (h0 : Free r0) (hg : GoodL l) : eolW (mailW r0 l) = joinL [13, 10] (r0 :: l.map (·.2)) := by
  have := eol_rows [13, 10] l r0 [] ((mailW r0 l).length + 1) h0 hg (by simp)
  simpa [eolW, subOut] using this
noncomputable def dotsR : Bool → List Nat → List Nat
  | _, [] => []
  | b, c :: r => (if (b && c == 46) = true then [46, 46] else [c]) ++ dotsR (c == 10) r
theorem next1_yes {W : List Nat} {d : Nat} (h : dotAt W.toArray d = true) : next1 W.toArray d = some (d, d + 1) := by
  have hl := dotAt_lt h
  unfold next1
  have : W.toArray.size + 1 - d = (W.toArray.size - d) + 1 := by omega
  rw [this]
  unfold nx1
  rw [if_pos h]; rfl
theorem next1_no {W : List Nat} {d : Nat} (hl : d < W.length) (h : dotAt W.toArray d = false) : next1 W.toArray d = next1 W.toArray (d + 1) := by
  unfold next1
  have : W.toArray.size + 1 - d = (W.toArray.size + 1 - (d + 1)) + 1 := by simp; lia
  rw [this]
  conv => lhs; unfold nx1
  rw [if_neg (by rw [h]; decide)]
theorem next1_end {W : List Nat} : next1 W.toArray W.length = none := by
  cases e : next1 W.toArray W.length with
  | none => rfl
  | some p =>
    obtain ⟨a, b⟩ := p
    have := next1_rng _ _ _ _ e
    simp at this
    lia
theorem cut_cons {pre r : List Nat} {c a : Nat} (h : pre.length < a) : cut (pre ++ c :: r) pre.length a = c :: cut (pre ++ c :: r) (pre.length + 1) a := by
  unfold cut
  have : ((pre ++ c :: r).take a)[pre.length]? = some c := by rw [List.getElem?_take_of_lt h]; simp
  obtain ⟨h1, h2⟩ := List.getElem?_eq_some_iff.mp this
  rw [List.drop_eq_getElem_cons h1, h2]
theorem cut_le {W : List Nat} {a b : Nat} (h : b ≤ a) : cut W a b = [] := by
  unfold cut
  exact List.drop_eq_nil_of_le (by simp; lia)
theorem subG_skip {F : Nat → Option (Nat × Nat)} {pre r R : List Nat} {c f : Nat} (h : F pre.length = F (pre.length + 1)) (hr : ∀ s a e, F s = some (a, e) → s ≤ a) :
    (subG F (pre ++ c :: r) R (f + 1) pre.length).flatten = c :: (subG F (pre ++ c :: r) R (f + 1) (pre.length + 1)).flatten := by
  unfold subG
  rw [h]
  cases e : F (pre.length + 1) with
  | some p =>
    obtain ⟨a, b⟩ := p
    have := hr _ _ _ e
    dsimp only
    rw [if_pos (by lia)]
    by_cases h1 : pre.length + 1 < a
    · rw [if_pos h1]
      simp [cut_cons (r := r) (c := c) (show pre.length < a by lia)]
    · rw [if_neg h1]
      have h2 := cut_cons (r := r) (c := c) (show pre.length < a by lia)
      rw [cut_le (show a ≤ pre.length + 1 by lia)] at h2
      simp [h2]
  | none =>
    dsimp only
    rw [if_pos (by simp)]
    have h2 := cut_cons (pre := pre) (r := r) (c := c) (a := (pre ++ c :: r).length) (by simp)
    by_cases h1 : pre.length + 1 < (pre ++ c :: r).length
    · rw [if_pos h1]; simp only [List.flatten_cons, List.flatten_nil, List.append_nil]; exact h2
    · rw [if_neg h1]
      rw [cut_le (show (pre ++ c :: r).length ≤ pre.length + 1 by lia)] at h2
      simp only [List.flatten_cons, List.flatten_nil, List.append_nil]; exact h2
theorem dots_go : ∀ (rest pre : List Nat) (f : Nat), (pre ++ rest).length < pre.length + f → (subG (next1 (pre ++ rest).toArray) (pre ++ rest) [46, 46] f pre.length).flatten = dotsR (atBol (pre ++ rest).toArray pre.length) rest
  | _, pre, 0, h => by simp at h; omega
  | [], pre, f + 1, h => by
    rw [List.append_nil]
    unfold subG
    rw [next1_end]
    dsimp only
    rw [if_neg (by omega)]
    rfl
  | c :: r, pre, f + 1, h => by
    have e1 : pre ++ [c] ++ r = pre ++ c :: r := by simp
    have e2 : (pre ++ [c]).length = pre.length + 1 := by simp
    have hb : atBol (pre ++ c :: r).toArray (pre.length + 1) = (c == 10) := by
      show (pre.length + 1 == 0 || (pre ++ c :: r).toArray.getD (pre.length + 1 - 1) 0 == 10) = _
      rw [gd, Nat.add_sub_cancel, List.getElem?_append_right (Nat.le_refl _)]
      simp
    have hd : dotAt (pre ++ c :: r).toArray pre.length = (atBol (pre ++ c :: r).toArray pre.length && c == 46) := by
      show (_ && decide (pre.length < (pre ++ c :: r).toArray.size) && (pre ++ c :: r).toArray.getD pre.length 0 == 46) = _
      rw [gd, List.getElem?_append_right (Nat.le_refl _)]
      simp
    show _ = (if (atBol (pre ++ c :: r).toArray pre.length && c == 46) = true then [46, 46] else [c]) ++ dotsR (c == 10) r
    rw [← hd]
    by_cases hy : dotAt (pre ++ c :: r).toArray pre.length = true
    · rw [if_pos hy]
      have ih := dots_go r (pre ++ [c]) f (by simp at h ⊢; omega)
      rw [e1, e2, hb] at ih
      unfold subG
      rw [next1_yes hy]
      dsimp only
      rw [if_neg (Nat.lt_irrefl _), List.nil_append, List.flatten_cons, ih]
    · rw [if_neg hy]
      have ih := dots_go r (pre ++ [c]) (f + 1) (by simp at h ⊢; omega)
      rw [e1, e2, hb] at ih
      rw [subG_skip (next1_no (by simp) (by simpa using hy)) fun s a e h => (next1_rng _ _ _ _ h).1, ih]
      rfl
  termination_by rest _ _ => rest.length
theorem dotW_eq (w : List Nat) : dotW w = dotsR true w := by
  have hb : atBol w.toArray 0 = true := rfl
  have := dots_go w [] (w.length + 1) (by simp)
  simpa [dotW, subOut, hb] using this
noncomputable def dotRow (r : List Nat) : List Nat := if r.head? = some 46 then 46 :: r else r
theorem dotsR_free : ∀ (x y : List Nat), 10 ∉ x → dotsR false (x ++ y) = x ++ dotsR false y
  | [], _, _ => rfl
  | c :: x, y, h => by
    have h1 : c ≠ 10 := fun q => h (by simp [q])
    have h2 : (c == 10) = false := by simpa using h1
    show (if (false && c == 46) = true then _ else [c]) ++ dotsR (c == 10) (x ++ y) = _
    rw [h2, dotsR_free x y fun q => h (List.mem_cons_of_mem _ q)]
    simp
theorem dotsR_row (r y : List Nat) (h : 10 ∉ r) (hy : ∀ c t, y = c :: t → c = 13) : dotsR true (r ++ y) = dotRow r ++ dotsR false y := by
  cases r with
  | nil =>
    cases y with
    | nil => rfl
    | cons c t =>
      have := hy c t rfl
      subst this
      rfl
  | cons c x =>
    have h1 : (c == 10) = false := by simp; intro q; exact h (by simp [q])
    show (if (true && c == 46) = true then _ else [c]) ++ dotsR (c == 10) (x ++ y) = _
    rw [h1, dotsR_free x y fun q => h (List.mem_cons_of_mem _ q)]
    unfold dotRow
    by_cases hc : c = 46
    · subst hc; simp
    · simp [hc]
theorem dots_rows : ∀ rows : List (List Nat), (∀ r ∈ rows, 10 ∉ r) → dotsR true (joinL [13, 10] rows) = joinL [13, 10] (rows.map dotRow)
  | [], _ => rfl
  | [r], h => by
    have := dotsR_row r [] (h r (by simp)) (fun c t e => by cases e)
    simpa [joinL, dotsR] using this
  | r :: r2 :: rs, h => by
    have ih := dots_rows (r2 :: rs) fun q hq => h q (List.mem_cons_of_mem _ hq)
    have := dotsR_row r ([13, 10] ++ joinL [13, 10] (r2 :: rs)) (h r (by simp)) (fun c t e => by cases e; rfl)
    show dotsR true (r ++ [13, 10] ++ joinL [13, 10] (r2 :: rs)) = dotRow r ++ [13, 10] ++ joinL [13, 10] ((r2 :: rs).map dotRow)
    rw [List.append_assoc, this, ← ih]
    simp [dotsR]
theorem dotW_rows {rows : List (List Nat)} (h : ∀ r ∈ rows, 10 ∉ r) : dotW (joinL [13, 10] rows) = joinL [13, 10] (rows.map dotRow) := by rw [dotW_eq, dots_rows rows h]
end
section
open PySem PySem.W PySem.Calls PyProof.Rows PySem.Builtin PySem.Builtin.ObjectAttr
theorem joinL_mail (c : List Nat) : ∀ (rs : List (List Nat)) (r : List Nat), joinL c (r :: rs) = mailW r (rs.map fun q => (c, q))
  | [], r => by simp [joinL, mailW]
  | q :: rs, r => by
    have := joinL_mail c rs q
    show r ++ c ++ joinL c (q :: rs) = _
    rw [this]
    simp [mailW]
theorem goodL_of : ∀ (rs : List (List Nat)), (∀ r ∈ rs, Free r ∧ r ≠ []) → GoodL (rs.map fun q => ([10], q))
  | [], _ => trivial
  | [r], h => ⟨.inl rfl, (h r (by simp)).1⟩
  | r :: q :: rs, h => ⟨.inl rfl, (h r (by simp)).1, (h r (by simp)).2, goodL_of (q :: rs) fun p hp => h p (List.mem_cons_of_mem _ hp)⟩
theorem eol_join {rs : List (List Nat)} (h0 : rs ≠ []) (h : ∀ r ∈ rs, Free r ∧ r ≠ []) : eolW (joinL [10] rs) = joinL [13, 10] rs := by
  cases rs with
  | nil => exact absurd rfl h0
  | cons r rs =>
    rw [joinL_mail, eolW_mail (h r (by simp)).1 (goodL_of rs fun q hq => h q (List.mem_cons_of_mem _ hq)), List.map_map]
    exact congrArg (fun l => joinL [13, 10] (r :: l)) ((List.map_congr_left fun _ _ => rfl).trans (List.map_id rs))
theorem rowsW_ne (w : List Nat) : rowsW w ≠ [] := by
  unfold rowsW
  cases w with
  | nil => simp [splitL]
  | cons a r =>
    unfold splitL
    split
    · simp
    · split <;> simp
theorem rowsW_free {w r : List Nat} (h : r ∈ rowsW w) : Free r ∧ r ≠ [] := by
  obtain ⟨p, _, rfl⟩ := List.mem_map.mp h
  refine ⟨⟨fun q => ?_, fun q => ?_⟩, by simp [List.replicate_succ]⟩ <;> · have := (List.mem_replicate.mp q).2; lia
theorem dotRow_free {r : List Nat} (c : Nat) (hc : c ≠ 46) (h : c ∉ r) : c ∉ dotRow r := by
  unfold dotRow
  split
  · simp [hc, h]
  · exact h
theorem dotRow_len (r : List Nat) : (dotRow r).length ≤ r.length + 1 := by unfold dotRow; split <;> simp
noncomputable def sentW (w : List Nat) : List Nat := wordW ((rowsW w).map dotRow)
theorem rowsW_len (w : List Nat) : (rowsW w).length ≤ w.length + 1 ∧ ∀ r ∈ rowsW w, r.length ≤ w.length + 1 := by
  have h := splitL_len 97 w
  unfold rowsW
  refine ⟨by rw [List.length_map]; exact h.1, fun r hr => ?_⟩
  obtain ⟨p, hp, rfl⟩ := List.mem_map.mp hr
  have := h.2 p hp
  rw [List.length_replicate]; lia
theorem mail_split {rs : List (List Nat)} (h0 : rs ≠ []) (h : ∀ r ∈ rs, Free r) : Txt.split (sL (dotW (joinL [13, 10] rs))) (sL [13, 10]) = (rs.map dotRow).map sL := by
  rw [dotW_rows fun r hr => (h r hr).1, split_rows (by simpa using h0) fun r hr => ?_]
  obtain ⟨q, hq, rfl⟩ := List.mem_map.mp hr
  exact dotRow_free 13 (by decide) (h q hq).2
theorem split_total (c : Nat) : ∀ w : List Nat, ((splitL c w).map List.length).sum + (splitL c w).length = w.length + 1
  | [] => rfl
  | a :: r => by
    have ih := split_total c r
    unfold splitL
    by_cases h : a = c
    · rw [if_pos h]; simp; lia
    · rw [if_neg h]
      cases e : splitL c r with
      | nil => rw [e] at ih; simp at ih
      | cons p ps =>
        rw [e] at ih
        simp at ih ⊢
        lia
theorem joinL_total (c : List Nat) : ∀ ps : List (List Nat), (joinL c ps).length ≤ (ps.map List.length).sum + ps.length * c.length
  | [] => by simp [joinL]
  | [p] => by simp [joinL]
  | p :: q :: r => by
    have ih := joinL_total c (q :: r)
    show (p ++ c ++ joinL c (q :: r)).length ≤ _
    rw [List.map_cons, List.sum_cons, List.length_cons, Nat.succ_mul]
    simp only [List.length_append] at ih ⊢
    lia
theorem rows_total (w : List Nat) : ((rowsW w).map List.length).sum = w.length + 1 := by
  have := split_total 97 w
  rw [← this]
  unfold rowsW
  generalize splitL 97 w = ps
  induction ps with
  | nil => rfl
  | cons p r ih => simp at ih ⊢; lia
theorem rows_join (w : List Nat) : (joinL [10] (rowsW w)).length ≤ 2 * w.length + 2 := by
  have h1 := joinL_total [10] (rowsW w)
  have h2 := rows_total w
  have h3 := (rowsW_len w).1
  simp only [List.length_cons, List.length_nil] at h1
  lia
section
variable {C : Cx} {k : Nat}
theorem sentC (H : Hd C) {w : List Nat} (hw : w.length ≤ 40) : CallR C (k + 4) (.ref 194) [.str (sL w)] (.str (sL (sentW w))) := by
  refine' CallR.fn (f := 194) (ids := [i_name]) ?hl ?hcd rfl ?hb ?ok ?body
  case hl => rw [H.K]; exact rfl
  case hcd => rw [H.K]; kernel_rfl
  case hb => intro vs hv; obtain ⟨_, rfl⟩ := len1 hv; exact rfl
  case ok => exact DefOk.of (by decide +kernel)
  case body =>
  have l1 := rowsW_len w
  have l2 : (joinL [10] (rowsW w)).length ≤ 150 := by have := rows_join w; lia
  have l3 := eolW_len (joinL [10] (rowsW w))
  have l4 := dotW_len (eolW (joinL [10] (rowsW w)))
  have e1 : D.list ((Txt.split (sL (dotW (eolW (joinL [10] (rowsW w))))) (sL [13, 10])).map .str) = D.strs ((rowsW w).map dotRow) := by
    rw [eol_join (rowsW_ne w) fun r => rowsW_free, mail_split (rowsW_ne w) fun r hr => (rowsW_free hr).1]
  have e2 : D.str (Txt.join (sL [10]) ((rowsW w).map sL)) = D.str (sL (joinL [10] (rowsW w))) := by rw [join_sL]
  refine' Ex.ret (Ev.call (x := Str.ofString "_law_word") rfl (gf_law_word H) (KeepR.of (by rw [H.K]; kernel_rfl)) (EvL.cons (Ev.cast (Ev.split (x := sL (dotW (eolW (joinL [10] (rowsW w))))) (y := sL [13, 10]) (Ev.call (x := Str.ofString "quotedata") rfl (gfquotedata H) (KeepR.of (by rw [H.K]; kernel_rfl)) (EvL.cons (Ev.cast (Ev.join (x := sL [10]) (ys := (rowsW w).map sL) Ev.str (Ev.call (x := Str.ofString "_law_rows") rfl (gf_law_rows H) (KeepR.of (by rw [H.K]; kernel_rfl)) (EvL.cons (Ev.name (i := i_name) (d := .str (sL w)) rfl (by walk_at "lk")) .nil) (rowsC H (by lia))) ?jo) e2) .nil) (quotedataC H (by lia))) Ev.str (by decide) ?hx) e1) .nil) (wordC H ?w1 ?w2)) rfl
  case jo =>
    refine joinOk_of (n := 50) (m := 50) (fun p hp => ?_) (by rw [List.length_map]; lia) (by decide)
    obtain ⟨q, hq, rfl⟩ := List.mem_map.mp hp
    have := l1.2 q hq
    rw [sL_len]; lia
  case hx => rw [sL_len]; lia
  case w1 => rw [List.length_map]; lia
  case w2 =>
    intro r hr
    obtain ⟨q, hq, rfl⟩ := List.mem_map.mp hr
    have := l1.2 q hq
    have := dotRow_len q
    lia
end
section
variable {C : Cx} {k : Nat} {sc : Scope} {ρ : Asn} {Pn : Asn → Prop} {Pr : D → Prop}
theorem Op2.eqB {a b : Bool} : Op2 C k (compareOp .Eq) (.bool a) (.bool b) (.bool (a == b)) := fun A V s v1 v2 hr S r1 r2 => by
  obtain rfl := r1.is; obtain rfl := r2.is; exact .of_tok S fun E Q q => PyProof.Rows.eq_bool (q _ s.toks (.bool _))
theorem Ex.forElse {α : Type} (xs : List α) (g : α → Asn) (inv : Nat → Asn) (J : Nat → Prop) {tgt iter : Expr} {body orelse : List Stmt} {pos : Pos} (hIt : ItE C k sc ρ iter tgt (xs.map g))
    (hg : ∀ x ∈ xs, ∀ q ∈ g x, sc.names.lookup (nm q.1) = some .local ∨ sc.names.lookup (nm q.1) = some .cell) (h0 : Asn.Le (inv 0) ρ) (J0 : J 0)
    (hb : ∀ i (h : i < xs.length), J i → Ex C k sc (g xs[i] ++ inv i) body (fun ρ' => Asn.Le (inv (i + 1)) ρ' ∧ J (i + 1)) Pr) (hend : ¬ J xs.length)
    (hs : ∀ env x, foldedSetIterable iter env x = pure x := by intro _ _; rfl) : Ex C k sc ρ [.For tgt iter body orelse pos] Pn Pr := fun env A V s V0 s0 he hr S F O X f E Q qn qr =>
  wpAny_execs_cons (For.raw xs g inv J hIt hg h0 J0 hb he hr S F O X f (fun V' s' _ _ _ hJ => absurd hJ hend) (fun v d V' s' X' S' r hd => qr v d V' s' X' S' r hd) hs)
theorem idx_zip (bs : List Bool) (i : Nat) (h : i < ((List.range (bs.map D.bool).length).zip (bs.map D.bool)).length) (h2 : i < bs.length) : ((List.range (bs.map D.bool).length).zip (bs.map D.bool))[i] = (i, D.bool bs[i]) := by simp
theorem idx_test {b : Bool} {ρ : Asn} {sc : Scope} (hj : ρ.get i_j = some (.bool b)) (hb : ρ.get i_b = some (.bool true)) {n1 n2 n3 n4 : PySem.Str} {p1 p2 p3 p4 q1 q2 q3 : Pos} (e1 : nm i_j = n1) (e2 : nm i_b = n2) (e3 : nm i_j = n3) (e4 : nm i_b = n4)
    (hb1 : behindInMarks .Is (.Name n2 p2) = false := by rfl) (hb2 : behindInMarks .Eq (.Name n4 p4) = false := by rfl) :
    Tst C k sc ρ (.BoolOp .Or [.Compare (.Name n1 p1) [.Is] [.Name n2 p2] q1, .Compare (.Name n3 p3) [.Eq] [.Name n4 p4] q2] q3) b := by
  have t1 : Tst C k sc ρ (.Compare (.Name n1 p1) [.Is] [.Name n2 p2] q1) (b == true) := Tst.cmp (Ev.name (i := i_j) (d := .bool b) e1 hj) (Ev.name (i := i_b) (d := .bool true) e2 hb) Op2.isB hb1
  have t2 : Tst C k sc ρ (.Compare (.Name n3 p3) [.Eq] [.Name n4 p4] q2) (b == true) := Tst.cmp (Ev.name (i := i_j) (d := .bool b) e3 hj) (Ev.name (i := i_b) (d := .bool true) e4 hb) Op2.eqB hb2
  have := Tst.or2 (pos := q3) t1 fun _ => t2
  simpa using this
theorem indexOfC (H : Hd C) {bs : List Bool} {i : Nat} (hi : i < bs.length) (ht : bs[i] = true) (hf : ∀ j (h : j < bs.length), j < i → bs[j] = false) : CallR C (k + 2) (.ref 129) [.list (bs.map .bool), .bool true] (.int i) := by
  refine' CallR.fn (f := 129) (ids := [i_a, i_b]) ?hl ?hcd rfl ?hb ?ok ?body
  case hl => rw [H.K]; exact rfl
  case hcd => rw [H.K]; kernel_rfl
  case hb => intro vs hv; obtain ⟨_, _, rfl⟩ := len2 hv; exact rfl
  case ok => exact DefOk.of (by decide +kernel)
  case body =>
  refine' Ex.forElse ((List.range (bs.map D.bool).length).zip (bs.map D.bool)) (fun d => [(i_j, d.2), (i_i, D.int (d.1 : Nat))]) (fun _ => [(i_b, .bool true)]) (fun j => j ≤ i) (ItE.enumN rfl rfl rfl (gb_enumerate H) (Ev.name (i := i_a) (d := .list (bs.map .bool)) rfl (by walk_at "lk"))) ?hg ?h0 (Nat.zero_le _) ?hbd ?hend
  case hg => intro x _ q hq; rcases List.mem_cons.mp hq with rfl | hq; · exact .inl rfl
             · rcases List.mem_singleton.mp hq with rfl; exact .inl rfl
  case h0 => exact .cons (by walk_at "lk") .nil
  case hend => simp; lia
  case hbd =>
    intro j hj hJ
    have hj2 : j < bs.length := by simpa using hj
    rw [idx_zip bs j hj hj2]
    refine Ex.cons (Ex1.ite (c := bs[j]) (idx_test (by walk_at "lk") (by walk_at "lk") rfl rfl rfl rfl) (fun hc => ?_) fun hc => ?_) fun ρ' h => Ex.nil h
    · have : j = i := by
        rcases Nat.lt_or_ge j i with h | h
        · rw [hf j hj2 h] at hc; cases hc
        · lia
      subst this
      exact Ex.ret (Ev.name (i := i_i) (d := .int (j : Nat)) rfl (by walk_at "lk")) rfl
    · refine Ex.nil ⟨.cons (by walk_at "lk") .nil, ?_⟩
      rcases Nat.lt_or_ge j i with h | h
      · exact h
      · have : j = i := by lia
        subst this
        rw [ht] at hc; cases hc
end
noncomputable abbrev refusal : PySem.Str := Str.ofString "sequence.index(x): x not in sequence"
theorem gb_ValueError {C : Cx} (H : Hd C) : GFn C (Str.ofString "ValueError") (.type "ValueError") := .inr ⟨nsNone (by rw [H.K]; kernel_rfl), (C.blt _ (by decide)).trans (by kernel_rfl)⟩
theorem hideAll2 {h : Heap} {a b c : Addr} {o : Obj} (e : h.get? c = some o) (h1 : c ≠ a) (h2 : c ≠ b) : (hideAll h [a, b]).get? c = some o := hideAll_get _ e fun q => by
  rcases List.mem_cons.mp q with q | q
  · exact h1 q
  · exact h2 (List.mem_singleton.mp q)
section
variable {C : Cx} {k : Nat}
structure Refused (C : Cx) (env₀ : Env) (V : View) (s : Shared) (V' : View) (base : Heap) (e t : Addr) (u : Tok) (s' : Shared) : Prop where
  mono : VLe V V'
  same : ∀ a o, s.heap.get? a = some o → V' a = V a
  frozen : ∀ b o, V' b = some o → base.get? b = some o
  kept : ∀ b o, b ≠ tabA → b ≠ env₀.locals → s.heap.get? b = some o → base.get? b = some o
  tab : TabOk V' base
  tabV : V' tabA = none
  g0 : ∀ b o, C.g₀.get? b = some o → V' b = some o
  slots : ∃ s₂ : Shared, s₂.heap.UpToSlots s'.heap ∧ ∀ b o, b ≠ tabA → s.heap.get? b = some o → s₂.heap.get? b = some o
  fly : Heap.FlyingW base [env₀] e (.type "ValueError") (.ref t) s'.heap
  tup : s'.heap.TupAt t [.str refusal u]
  gens : s'.gens = #[]
  os : s'.os = C.os
  tk : C.n ≤ s'.toks
theorem indexOf_raise (H : Hd C) {bs : List Bool} (hf : ∀ b ∈ bs, b = false) {A : Around} {V : View} {s : Shared} {vs : List Value} {env₀ : Env} {E : Value → Shared → Prop} {Q : Value → Shared → Prop} (hr : Room (k + 2) A) (S : St C V s) (rs : Reps V vs [.list (bs.map .bool), .bool true])
    (hfr : A.frames = some [env₀]) (hk0 : env₀.scope.kind = .function) (hf0 : env₀.frame = some env₀.locals) {m : PySem.Str → Option Value} (hns : s.heap.Ns env₀.locals m) (hV0 : V env₀.locals = none)
    (q : ∀ V' base e t u s', Refused C env₀ V s V' base e t u s' → E (.ref e) s') : wpAny C.M A (PySem.call (.ref 129) vs []) Q E s := by
  refine wpAny_call ?_
  refine' fn_run (k := k) (f := 129) (ids := [i_a, i_b]) ?hl ?hcd rfl ?hb ?ok hr S rs fun env s1 hfe he hco hqu hr1 S1 F1 O1 X1 f1 => ?body
  case hl => rw [H.K]; exact rfl
  case hcd => rw [H.K]; kernel_rfl
  case hb => intro vs hv; obtain ⟨_, _, rfl⟩ := len2 hv; exact rfl
  case ok => exact DefOk.of (by decide +kernel)
  case body =>
  refine wpAny_execs_cons (For.raw ((List.range (bs.map D.bool).length).zip (bs.map D.bool)) (fun d => [(i_j, d.2), (i_i, D.int (d.1 : Nat))]) (fun _ => [(i_b, .bool true)]) (fun _ => True) (Pr := fun _ => False) (V0 := V) (s0 := s) (ItE.enumN rfl rfl rfl (gb_enumerate H) (Ev.name (i := i_a) (d := .list (bs.map .bool)) rfl (by walk_at "lk")))
    ?hg ?h0 trivial ?hbd he hr1 S1 F1 O1 X1 f1 (fun V2 s2 X2 S2 F2 _ => ?hend) fun _ _ _ _ _ _ _ h => h.elim)
  case hg => intro x _ q hq; rcases List.mem_cons.mp hq with rfl | hq; · exact .inl rfl
             · rcases List.mem_singleton.mp hq with rfl; exact .inl rfl
  case h0 => exact .cons (by walk_at "lk") .nil
  case hbd =>
    intro j hj _
    have hj2 : j < bs.length := by simpa using hj
    rw [idx_zip bs j hj hj2]
    refine Ex.cons (Ex1.ite (c := bs[j]) (idx_test (by walk_at "lk") (by walk_at "lk") rfl rfl rfl rfl) (fun hc => ?_) fun hc => Ex.nil ⟨.cons (by walk_at "lk") .nil, trivial⟩) fun ρ' h => Ex.nil h
    rw [hf _ (List.getElem_mem hj2)] at hc; cases hc
  case hend =>
    refine wpAny_passesOwn PassesOwn.leaving ?_
    refine wpAny_execs_cons (Raise_madeB PySem.F.excCall_ValueError PySem.F.excRaise_ValueError hr1.2.2 ?_)
    refine Name_function_global F2.kind (by show env.scope.names.lookup _ = _; rw [he]; rfl) ((gb_ValueError H).load S2 F2 ⟨rfl, ?_⟩) (by decide)
    refine Calls.spliced_cons (wpAny_Constant_str (k := 0) (pos := default) (Calls.spliced_nil ⟨by rw [sizeLine_eq]; show 1 ≤ 16777216; decide, fun h' e hx => ?_⟩))
    have hLs : ∃ o, s.heap.get? env₀.locals = some o ∧ ∀ vs, o.data ≠ .fields vs := by
      refine hid fun G hG => ?_
      obtain ⟨o, es, ep, ho, hd, _⟩ := hns
      refine hG ?_
      exact ⟨o, ho, fun vs q => by rw [hd] at q; cases q⟩
    refine hid fun G hG => ?_
    obtain ⟨oL, hoL, hnL⟩ := hLs
    have hLt : env₀.locals ≠ tabA := by
      obtain ⟨o, es, ep, ho, hd, _⟩ := hns
      exact ne_tab_of_dict S.tab ho hd
    have hL2 : s2.heap.get? env₀.locals = some oL := X2.keep _ _ hLt hoL
    obtain ⟨m2, hm2, _⟩ := F2.ns
    refine hG ?_
    have hee : env.locals ≠ tabA := by
      obtain ⟨o, es, ep, ho, hd, _⟩ := hm2
      exact ne_tab_of_dict S2.tab ho hd
    have hb1 : ∀ b o, (hideAll s2.heap [env₀.locals, env.locals]).get? b = some o → s2.heap.get? b = some o := fun b o e => of_hideAll _ e
    have hV2 : V2 env₀.locals = none := (X2.same _ _ hoL).trans hV0
    refine wpAny_leaves_madeW (base := hideAll s2.heap [env₀.locals, env.locals]) (h := s2.heap) (outer := [env₀]) (L := env.locals) (args := [.str refusal s2.toks]) (Around.frames_deeper hfr) hfe (fun b o e => hb1 b o e) ?_ hx.of fun h3 t hfl htup htn hsl => ?_
    · refine Heap.FunFrames.cons (by rw [F2.kind]; decide) hfe hm2 (hideAll_none _ (by simp)) ⟨by rw [hk0]; decide, ⟨env₀.locals, oL, hf0, hideAll_none _ (by simp), hL2, hnL⟩, trivial⟩
    · refine q V2 _ e t s2.toks _ ⟨X2.mono, X2.same, fun b o hb => ?_, fun b o h1 h2 hb => ?_, ?_, S2.tabV, fun b o hb => X2.mono _ _ (S.base _ _ hb), ⟨s2, ?_, fun b o h1 hb => X2.keep b o h1 hb⟩, hfl, htup, S2.gens, S2.os, Nat.le_succ_of_le S2.tk⟩
      · exact hideAll2 (S2.sub _ _ hb) (fun q => by rw [q, hV2] at hb; cases hb) fun q => by rw [q, F2.locFree] at hb; cases hb
      · exact hideAll2 (X2.keep b o h1 hb) h2 fun q => by rw [q, f1.loc] at hb; cases hb
      · exact S2.tab.at (.refl _) fun o e => hideAll2 e (Ne.symm hLt) (Ne.symm hee)
      · exact (Heap.UpToSlots.of_keeps hx.keeps).trans hsl
end
end
section
open PySem PySem.W PySem.Calls PyProof.Rows
noncomputable def lawF : { b : List Stmt × Scope // ∀ P, ∃ oc od osl qual params dV kV doc pm an cdv ct, (MineTop.hd.heap_39 P).lookup 226 = some ⟨oc, od, .func (fnOf (Str.ofString "law") qual params b.1 b.2 dV kV doc pm an cdv ct), osl⟩ } :=
  ⟨(_, _), fun P => ⟨_, _, _, _, _, _, _, _, _, _, _, _, rfl⟩⟩
noncomputable def ls0 : { s : Stmt // lawF.1.1[0]? = some s } := ⟨_, rfl⟩
noncomputable def ls1 : { s : Stmt // lawF.1.1[1]? = some s } := ⟨_, rfl⟩
noncomputable def ls2 : { s : Stmt // lawF.1.1[2]? = some s } := ⟨_, rfl⟩
noncomputable def ls3 : { s : Stmt // lawF.1.1[3]? = some s } := ⟨_, rfl⟩
noncomputable def ls4 : { s : Stmt // lawF.1.1[4]? = some s } := ⟨_, rfl⟩
noncomputable def ls5 : { s : Stmt // lawF.1.1[5]? = some s } := ⟨_, rfl⟩
noncomputable def ls7 : { s : Stmt // lawF.1.1[7]? = some s } := ⟨_, rfl⟩
noncomputable def lawLoop : { x : Expr × Expr × List Stmt × Pos // lawF.1.1[6]? = some (.For x.1 x.2.1 x.2.2.1 [] x.2.2.2) } := ⟨(_, _, _, _), rfl⟩
noncomputable def lt0 : { s : Stmt // lawLoop.1.2.2.1[0]? = some s } := ⟨_, rfl⟩
noncomputable def lt1 : { s : Stmt // lawLoop.1.2.2.1[1]? = some s } := ⟨_, rfl⟩
noncomputable def lt2 : { s : Stmt // lawLoop.1.2.2.1[2]? = some s } := ⟨_, rfl⟩
noncomputable def lt3 : { s : Stmt // lawLoop.1.2.2.1[3]? = some s } := ⟨_, rfl⟩
noncomputable def lt4 : { s : Stmt // lawLoop.1.2.2.1[4]? = some s } := ⟨_, rfl⟩
noncomputable def lt5 : { s : Stmt // lawLoop.1.2.2.1[5]? = some s } := ⟨_, rfl⟩
noncomputable def lt6 : { s : Stmt // lawLoop.1.2.2.1[6]? = some s } := ⟨_, rfl⟩
noncomputable def lt7 : { s : Stmt // lawLoop.1.2.2.1[7]? = some s } := ⟨_, rfl⟩
noncomputable def lt8 : { s : Stmt // lawLoop.1.2.2.1[8]? = some s } := ⟨_, rfl⟩
noncomputable def lt9 : { s : Stmt // lawLoop.1.2.2.1[9]? = some s } := ⟨_, rfl⟩
noncomputable def lt10 : { s : Stmt // lawLoop.1.2.2.1[10]? = some s } := ⟨_, rfl⟩
noncomputable def lt11 : { s : Stmt // lawLoop.1.2.2.1[11]? = some s } := ⟨_, rfl⟩
noncomputable def lt12 : { s : Stmt // lawLoop.1.2.2.1[12]? = some s } := ⟨_, rfl⟩
noncomputable def lt13 : { s : Stmt // lawLoop.1.2.2.1[13]? = some s } := ⟨_, rfl⟩
noncomputable def lt14 : { s : Stmt // lawLoop.1.2.2.1[14]? = some s } := ⟨_, rfl⟩
noncomputable def lt15 : { s : Stmt // lawLoop.1.2.2.1[15]? = some s } := ⟨_, rfl⟩
noncomputable def lt16 : { s : Stmt // lawLoop.1.2.2.1[16]? = some s } := ⟨_, rfl⟩
noncomputable def lt17 : { s : Stmt // lawLoop.1.2.2.1[17]? = some s } := ⟨_, rfl⟩
noncomputable def lt18 : { s : Stmt // lawLoop.1.2.2.1[18]? = some s } := ⟨_, rfl⟩
noncomputable def lt19 : { s : Stmt // lawLoop.1.2.2.1[19]? = some s } := ⟨_, rfl⟩
noncomputable def lt20 : { s : Stmt // lawLoop.1.2.2.1[20]? = some s } := ⟨_, rfl⟩
noncomputable def lt21 : { s : Stmt // lawLoop.1.2.2.1[21]? = some s } := ⟨_, rfl⟩
noncomputable def lt22 : { s : Stmt // lawLoop.1.2.2.1[22]? = some s } := ⟨_, rfl⟩
noncomputable def lt23 : { s : Stmt // lawLoop.1.2.2.1[23]? = some s } := ⟨_, rfl⟩
noncomputable def lt24 : { s : Stmt // lawLoop.1.2.2.1[24]? = some s } := ⟨_, rfl⟩
noncomputable def lt25 : { s : Stmt // lawLoop.1.2.2.1[25]? = some s } := ⟨_, rfl⟩
noncomputable def lt26 : { s : Stmt // lawLoop.1.2.2.1[26]? = some s } := ⟨_, rfl⟩
noncomputable def lt27 : { s : Stmt // lawLoop.1.2.2.1[27]? = some s } := ⟨_, rfl⟩
noncomputable def lt28 : { s : Stmt // lawLoop.1.2.2.1[28]? = some s } := ⟨_, rfl⟩
noncomputable def lt29 : { s : Stmt // lawLoop.1.2.2.1[29]? = some s } := ⟨_, rfl⟩
noncomputable def lt30 : { s : Stmt // lawLoop.1.2.2.1[30]? = some s } := ⟨_, rfl⟩
noncomputable def lt31 : { s : Stmt // lawLoop.1.2.2.1[31]? = some s } := ⟨_, rfl⟩
noncomputable def lt32 : { s : Stmt // lawLoop.1.2.2.1[32]? = some s } := ⟨_, rfl⟩
noncomputable def lt33 : { s : Stmt // lawLoop.1.2.2.1[33]? = some s } := ⟨_, rfl⟩
noncomputable def lt34 : { s : Stmt // lawLoop.1.2.2.1[34]? = some s } := ⟨_, rfl⟩
noncomputable def lt35 : { s : Stmt // lawLoop.1.2.2.1[35]? = some s } := ⟨_, rfl⟩
noncomputable def lt36 : { s : Stmt // lawLoop.1.2.2.1[36]? = some s } := ⟨_, rfl⟩
noncomputable def lt37 : { s : Stmt // lawLoop.1.2.2.1[37]? = some s } := ⟨_, rfl⟩
noncomputable def lt38 : { s : Stmt // lawLoop.1.2.2.1[38]? = some s } := ⟨_, rfl⟩
noncomputable def lt39 : { s : Stmt // lawLoop.1.2.2.1[39]? = some s } := ⟨_, rfl⟩
noncomputable abbrev lawSc : Scope := lawF.1.2
theorem loop_body : lawLoop.1.2.2.1 = [lt0.1, lt1.1, lt2.1, lt3.1, lt4.1, lt5.1, lt6.1, lt7.1, lt8.1, lt9.1, lt10.1, lt11.1, lt12.1, lt13.1, lt14.1, lt15.1, lt16.1, lt17.1, lt18.1, lt19.1, lt20.1, lt21.1, lt22.1, lt23.1, lt24.1, lt25.1, lt26.1, lt27.1, lt28.1, lt29.1, lt30.1, lt31.1, lt32.1, lt33.1, lt34.1, lt35.1, lt36.1, lt37.1, lt38.1, lt39.1] := rfl
theorem law_body : lawF.1.1 = [ls0.1, ls1.1, ls2.1, ls3.1, ls4.1, ls5.1, .For lawLoop.1.1 lawLoop.1.2.1 lawLoop.1.2.2.1 [] lawLoop.1.2.2.2, ls7.1] := rfl
noncomputable abbrev PickE {α : Type} (β : Type) (_ : α) : Type := β
end
section
open PySem PySem.W PySem.Calls PyProof.Rows PySem.Builtin PySem.Builtin.ObjectAttr
theorem rev_range (n : Nat) : Builtin.Str.strSliceIndices none none (-1) n = (List.range n).map fun k => n - 1 - k := by
  unfold Builtin.Str.strSliceIndices
  simp only [show ¬ (-1 : Int) > 0 by decide, if_false]
  unfold sliceRange
  simp only [show ¬ (-1 : Int) > 0 by decide, if_false]
  have h : (if ((n : Int) - 1) > -1 then ((n : Int) - 1 - -1 - -1 - 1) / (- -1) else 0).toNat = n := by
    split
    · simp
    · lia
  rw [h]
  refine List.map_congr_left fun k hk => ?_
  have := List.mem_range.mp hk
  lia
theorem fm_some {α β : Type} {f : α → Option β} {g : α → β} : ∀ {l : List α}, (∀ a ∈ l, f a = some (g a)) → l.filterMap f = l.map g
  | [], _ => rfl
  | a :: l, h => by rw [List.filterMap_cons, h a List.mem_cons_self, List.map_cons, fm_some fun b hb => h b (List.mem_cons_of_mem _ hb)]
theorem rev_pick (w : List Nat) : ((List.range w.length).map fun k => w.length - 1 - k).filterMap ((sL w).cps[·]?) = w.reverse := by
  have h : ∀ i ∈ (List.range w.length).map fun k => w.length - 1 - k, (sL w).cps[i]? = some (w.getD i 0) := fun i hi => by
    obtain ⟨k, hk, rfl⟩ := List.mem_map.mp hi
    have := List.mem_range.mp hk
    have h2 : w.length - 1 - k < w.length := by omega
    simp [sL, List.getD_eq_getElem?_getD, h2]
  have e : ((List.range w.length).map fun k => w.length - 1 - k).filterMap ((sL w).cps[·]?) = ((List.range w.length).map fun k => w.length - 1 - k).map fun i => w.getD i 0 := fm_some h
  rw [e, List.map_map]
  refine List.ext_getElem (by simp) fun i h1 h2 => ?_
  simp only [List.length_map, List.length_range] at h1
  simp [List.getElem_reverse, List.getD_eq_getElem?_getD, show w.length - 1 - i < w.length by omega]
section
variable {C : Cx} {k : Nat} {sc : Scope} {ρ : Asn} {Pn : Asn → Prop} {Pr : D → Prop}
theorem Ev.rev {e st : Expr} {p pos : Pos} {w : List Nat} (he : Ev C k sc ρ e (.str (sL w))) (hs : Ev C k sc ρ st (.int (-1))) (hw : w.length ≤ 1000) : Ev C k sc ρ (.Subscript e (.Slice Option.none Option.none (some st) p) pos) (.str (sL w.reverse)) := by
  have h := rev_range (sL w).length
  refine Ev.cast (Ev.slice he .none .none (.some hs) (by show "str" ≠ "?"; decide) F.slot_str_getitem.lookup (SlR.str (by decide) (by rw [sL_len]; lia) ?_)) (congrArg D.str ?_)
  · show (Builtin.Str.strSliceIndices Option.none Option.none (-1) (sL w).length).length ≤ sizeLine
    rw [h, sL_len, sizeLine_eq]; simp; lia
  · unfold sliceT
    simp only [Option.getD_some]
    rw [if_neg (by simp), h, sL_len, rev_pick]
noncomputable def starL (t : Nat) : List (List Nat) := [[42]].drop t
theorem Ev.fromL {e u : Expr} {p pos : Pos} {ds : List D} {n : Nat} (he : Ev C k sc ρ e (.list ds)) (hu : Ev C k sc ρ u (.int n)) (hz : ds.length ≤ 2 ^ 20) : Ev C k sc ρ (.Subscript e (.Slice (some u) Option.none Option.none p) pos) (.list (ds.drop n)) := by
  refine Ev.cast (Ev.slice he (.some hu) .none .none (by show "list" ≠ "?"; decide) F.slot_list_getitem.lookup (SlR.list (by simp) hz)) ?_
  rw [sliceL_from]
theorem Ev.lenS (H : Hd C) {e : Expr} {p pos : Pos} {w : List Nat} (hx : sc.names.lookup (Str.ofString "len") = some .globalImplicit) (he : Ev C k sc ρ e (.str (sL w))) (hw : w.length ≤ 1000)
    (hst : ∀ env, starEach [e] env = (false, eval e env) :: starEach [] env := by intro _; rfl) (hp : ∀ env pos, (backTo pos (starEach [e] env)).any (·.1) = false := by intro _ _; rfl) : Ev C k sc ρ (.Call (.Name (Str.ofString "len") p) [e] [] pos) (.int w.length) :=
  Ev.cast (Ev.call (x := Str.ofString "len") hx (gb_len H) (.inl ⟨_, rfl⟩) (EvL.cons he .nil hst) (CallR.len_str (by rw [sL_len]; lia)) hp) (by rw [sL_len])
theorem kr {C : Cx} (H : Hd C) {a : Addr} (h : fnIn C.K a = true) : KeepR C (.ref a) := KeepR.of h
noncomputable abbrev LW (C : Cx) (ρ : Asn) (st : Stmt) (Pn : Asn → Prop) : Prop := Ex1 C 30 lawSc ρ st Pn (fun d => d = .bool true)
theorem t0 (H : Hd C) {w : List Nat} {t : Nat} (hw : w.length ≤ 100) (h1 : ρ.get i_word = some (.str (sL w))) (h2 : ρ.get i_turn = some (.int t)) :
    LW C ρ lt0.1 fun r => r = (i_size, .int w.length) :: (i_other, .str (sL (otherW w))) :: (i_star, .strs (starL t)) :: ρ := by
  refine' Ex1.tripSw (i := i_size) (j := i_other) (l := i_star) rfl rfl rfl (Ev.tuple (EvL.cons (Ev.lenS H rfl (Ev.name rfl h1) (by lia)) (EvL.cons (Ev.call (x := Str.ofString "_law_other") rfl (gf_law_other H) (kr H (by rw [H.K]; kernel_rfl)) (EvL.cons (Ev.name rfl h1) .nil) ((otherC (k := 28) H (by lia)))) (EvL.cons (Ev.cast (Ev.fromL (ds := [.str (sL [42])]) (n := t) (Ev.list (EvL.cons Ev.str .nil) (by show 1 ≤ sizeLine; decide)) (Ev.name rfl h2) (by show 1 ≤ 2 ^ 20; decide)) ?c) .nil))) (by show 3 ≤ sizeLine; decide)) rfl rfl rfl ?hs ?hw
  case c => unfold D.strs starL; rw [List.map_drop, List.map_drop]; rfl
  case hs => intro env; rfl
  case hw => intro env he; unfold swappedStores Env.blockKind Env.kindOf; rw [he]; rfl
end
section
variable {C : Cx} {k : Nat} {sc : Scope} {ρ : Asn} {Pn : Asn → Prop} {Pr : D → Prop}
theorem ItE.zipL {α β : Type} (xs : List α) (F : α → D) (ys : List β) (G : β → D) {x x1 x2 : PySem.Str} {p pos p1 p2 p3 : Pos} {n : Nat} {e1 e2 : Expr} {i j : Nat} (n1 : nm i = x1) (n2 : nm j = x2) (hx : sc.names.lookup x = some .globalImplicit) (hf : GFn C x (.type "zip"))
    (h1 : Ev C k sc ρ e1 (.list (xs.map F))) (h2 : Ev C k sc ρ e2 (.list (ys.map G)))
    (hst : ∀ env, starEach [e1, e2] env = [(false, eval e1 env), (false, eval e2 env)] := by intro _; rfl) (hs2 : ∀ env, starEach [e2] env = (false, eval e2 env) :: starEach [] env := by intro _; rfl) (hd : (x == ("__debug__" : Str)) = false := by decide) :
    ItE C k sc ρ (.Call (.Name x p) [e1, e2] [] pos) (.Tuple [.Name x1 p1, .Name x2 p2] n p3) ((xs.zip ys).map fun d => [(j, G d.2), (i, F d.1)]) := by
  have := ItE.zipN (p := p) (pos := pos) (p1 := p1) (p2 := p2) (p3 := p3) (n := n) n1 n2 hx hf h1 h2 hst hs2 hd
  rw [List.zip_map, List.map_map] at this
  exact this
theorem Tst.cast {e : Expr} {b b' : Bool} (h : Tst C k sc ρ e b) (q : b = b') : Tst C k sc ρ e b' := q ▸ h
noncomputable def AB (w : List Nat) : Prop := ∀ c ∈ w, c = 97 ∨ c = 98
theorem AB.lt {w : List Nat} (h : AB w) : ∀ c ∈ w, c < 256 := fun c hc => by rcases h c hc with rfl | rfl <;> decide
theorem AB.rev {w : List Nat} (h : AB w) : AB w.reverse := fun c hc => h c (List.mem_reverse.mp hc)
theorem AB.other (w : List Nat) : AB (otherW w) := fun c hc => by
  obtain ⟨a, _, rfl⟩ := List.mem_map.mp hc
  by_cases h : a = 97
  · rw [if_pos h]; exact .inr rfl
  · rw [if_neg h]; exact .inl rfl
theorem AB.app {u v : List Nat} (h : AB u) (h2 : AB v) : AB (u ++ v) := fun c hc => (List.mem_append.mp hc).elim (h c) (h2 c)
theorem other_len (w : List Nat) : (otherW w).length = w.length := by simp [otherW]
theorem toUInt8_back {w : List Nat} (h : ∀ c ∈ w, c < 256) : (w.map Nat.toUInt8).map (fun c => c.toNat) = w := by
  rw [List.map_map]
  refine (List.map_congr_left fun c hc => ?_).trans (List.map_id w)
  have := h c hc
  simp; omega
noncomputable abbrev turnedW (w : List Nat) : List Nat := w.reverse ++ (otherW w).reverse
theorem t2 (H : Hd C) {w : List Nat} (hw : w.length ≤ 100) (ha : AB w) (h1 : ρ.get i_word = some (.str (sL w))) (h2 : ρ.get i_other = some (.str (sL (otherW w)))) (h3 : ρ.get i_turned = some (.bytes (bA (turnedW w)))) :
    LW C ρ lt2.1 fun r => r = ρ := by
  have hl : (turnedW w).length ≤ 1000 := by simp [turnedW, other_len]; lia
  refine Ex1.skip (Tst.cast (Tst.or2 (Tst.not (Tst.ev (Ev.call (x := Str.ofString "isinstance") rfl (gb_isinstance H) (.inl ⟨_, rfl⟩) (EvL.cons (Ev.name rfl h3) (EvL.cons (Ev.gtyp rfl (gb_bytes H)) .nil)) CallR.isBytes) Tr.bool)) fun _ =>
    Tst.cmp (Ev.name rfl h3) (Ev.call (x := Str.ofString "_law_octets") rfl (gf_law_octets H) (kr H (by rw [H.K]; kernel_rfl)) (EvL.cons (Ev.cast (Ev.bin (Ev.rev (Ev.name rfl h1) (Ev.neg Ev.int) (by lia)) (Ev.rev (Ev.name rfl h2) (Ev.neg Ev.int) (by rw [other_len]; lia)) (Op2.addS ?_)) (congrArg D.str (sL_append _ _))) .nil) (octetsC (k := 28) H hl ((ha.rev.app (AB.other w).rev).lt))) Op2.neB rfl) ?_)
  · rw [sL_len, sL_len, sizeLine_eq]; simp [other_len]; lia
  · rw [bne_self_eq_false]; rfl
theorem t3 (H : Hd C) {w : List Nat} (hw : w.length ≤ 100) (ha : AB w) (h1 : ρ.get i_size = some (.int w.length)) (h3 : ρ.get i_turned = some (.bytes (bA (turnedW w)))) :
    LW C ρ lt3.1 fun r => r = (i_mirror, .str (sL w.reverse)) :: ρ := by
  have hl : (turnedW w).length ≤ 1000 := by simp [turnedW, other_len]; lia
  have ht : (turnedW w).take w.length = w.reverse := by rw [List.take_left' (by simp)]
  have hb : ((bA w.reverse).toList.map fun c => c.toNat) = w.reverse := by rw [bA_toList, toUInt8_back ha.rev.lt]
  refine' Ex1.assign (i := i_mirror) rfl (Ev.cast (Ev.join (x := Str.ofString "") (ys := (w.reverse.map fun c => [c]).map sL) Ev.str (Ev.cast (Ev.compMap (bA w.reverse).toList (fun c => [(i_code, D.int (c.toNat : Nat))]) (fun c => .str (sL [c.toNat])) []
    (ItE.bytesN rfl (Ev.cast (Ev.cutB (Ev.name rfl h3) (Ev.name rfl h1) hl) (by rw [ht]))) (Sees.of [] ?sees fr_nil) ?loc ?el ?sz) ?cast) ?jo) ?fin) (.inl rfl) ?sw
  case sees => decide +kernel
  case loc => intro c _ p hp; rcases List.mem_singleton.mp hp with rfl; rfl
  case sz => rw [bA_toList, sizeLine_eq]; simp; lia
  case el =>
    intro c hc
    exact Ev.cast (Ev.call (x := Str.ofString "chr") rfl (gb_chr H) (.inl ⟨_, rfl⟩) (EvL.cons (Ev.name (i := i_code) (d := .int (c.toNat : Nat)) rfl (by walk_at "lk")) .nil) (CallR.chr (by lia) (by have := c.toNat_lt; lia))) (by simp)
  case cast =>
    rw [List.map_map, List.map_map]
    refine congrArg D.list ?_
    conv => rhs; rw [← hb, List.map_map]
    rfl
  case jo =>
    refine joinOk_of (n := 1) (m := 100) (fun p hp => ?_) (by simp; lia) (by decide)
    obtain ⟨q, hq, rfl⟩ := List.mem_map.mp hp
    obtain ⟨c, _, rfl⟩ := List.mem_map.mp hq
    exact Nat.le_of_eq (sL_len _)
  case fin =>
    have := join_sL [] (w.reverse.map fun c => [c])
    rw [joinL_singles] at this
    exact congrArg D.str this
  case sw => walk_at "swp"
noncomputable def sumsW (w : List Nat) : List Nat := (List.range (w.length + 1)).map fun j => cntC (w.take j) 97
noncomputable abbrev D.nats (l : List Nat) : D := .list (l.map fun (n : Nat) => .int n)
theorem t4 (H : Hd C) {w : List Nat} (hw : w.length ≤ 100) (ha : AB w) (h0 : ρ.get i_word = some (.str (sL w))) (h1 : ρ.get i_size = some (.int w.length)) :
    LW C ρ lt4.1 fun r => r = (i_sums, .nats (sumsW w)) :: ρ := by
  refine' Ex1.assign (i := i_sums) rfl (Ev.cast (Ev.compMap (List.range (w.length + 1)) (fun (j : Nat) => [(i_k, .int j)]) (fun j => .int (cntC (w.take j) 97)) [(i_word, .str (sL w))]
    (ItE.range1N (n := w.length + 1) rfl rfl (gb_range H) (Ev.bin (Ev.name rfl h1) Ev.int Op2.addI) (by push_cast; rfl) (by lia)) (Sees.of [i_word] ?sees (fr_cons h0 fr_nil)) ?loc ?el ?sz) ?cast) (.inr rfl) ?sw
  case sees => decide +kernel
  case loc => intro c _ p hp; rcases List.mem_singleton.mp hp with rfl; rfl
  case sz => rw [List.length_range, sizeLine_eq]; lia
  case el =>
    intro j hj
    refine Ev.countOf (k := 28) H rfl (Ev.cutHi (Ev.name (i := i_word) (d := .str (sL w)) rfl (by walk_at "lk")) (Ev.name (i := i_k) (d := .int j) rfl (by walk_at "lk")) (by lia)) ?_
    rw [List.all_eq_true]
    intro c hc
    rcases ha c (List.mem_of_mem_take hc) with rfl | rfl <;> rfl
  case cast => unfold D.nats sumsW; rw [List.map_map]; rfl
  case sw => walk_at "swp"
noncomputable def rowC (S : List Nat) (step : Nat) : List Int := ((S.drop step).zip S).map fun d => (d.1 : Int) - d.2
noncomputable abbrev D.ints (l : List Int) : D := .list (l.map .int)
noncomputable def countsOf (w : List Nat) : List (List Int) := (List.range (w.length + 1)).map (rowC (sumsW w))
theorem t5 (H : Hd C) {w : List Nat} (hw : w.length ≤ 100) (h0 : ρ.get i_sums = some (.nats (sumsW w))) (h1 : ρ.get i_size = some (.int w.length)) :
    LW C ρ lt5.1 fun r => r = (i_counts, .list ((countsOf w).map .ints)) :: ρ := by
  have hs : (sumsW w).length = w.length + 1 := by simp [sumsW]
  refine' Ex1.assignCompMap (i := i_counts) (List.range (w.length + 1)) (fun (j : Nat) => [(i_step, .int j)]) (fun j => .ints (rowC (sumsW w) j)) [(i_sums, .nats (sumsW w))] rfl
    (ItE.range1N (n := w.length + 1) rfl rfl (gb_range H) (Ev.bin (Ev.name rfl h1) Ev.int Op2.addI) (by push_cast; rfl) (by lia)) (Sees.of [i_sums] ?sees (fr_cons h0 fr_nil)) ?loc ?el ?sz rfl ?cast ?sw
  case sees => decide +kernel
  case loc => intro c _ p hp; rcases List.mem_singleton.mp hp with rfl; rfl
  case sz => rw [List.length_range, sizeLine_eq]; lia
  case el =>
    intro j hj
    refine' Ev.cast (Ev.compMap (((sumsW w).drop j).zip (sumsW w)) (fun d => [(i_low, .int (d.2 : Nat)), (i_high, .int (d.1 : Nat))]) (fun d => .int ((d.1 : Int) - d.2)) []
      (ItE.zipL ((sumsW w).drop j) (fun n => .int (n : Nat)) (sumsW w) (fun n => .int (n : Nat)) rfl rfl rfl (gb_zip H) (Ev.cast (Ev.fromL (ds := (sumsW w).map fun (n : Nat) => .int n) (n := j) (Ev.name (i := i_sums) (d := .nats (sumsW w)) rfl (by walk_at "lk")) (Ev.name (i := i_step) (d := .int j) rfl (by walk_at "lk")) (by rw [List.length_map, hs]; lia)) (by rw [List.map_drop])) (Ev.name (i := i_sums) (d := .nats (sumsW w)) rfl (by walk_at "lk")))
      (Sees.of [] ?s2 fr_nil) ?l2 ?e2 ?z2) ?c2
    case s2 => decide +kernel
    case l2 =>
      intro x _ p hp
      rcases List.mem_cons.mp hp with rfl | hp
      · rfl
      · rcases List.mem_singleton.mp hp with rfl; rfl
    case z2 => rw [List.length_zip, sizeLine_eq]; lia
    case e2 =>
      intro x hx
      exact Ev.call (x := Str.ofString "sub") rfl (gfsub H) (kr H (by rw [H.K]; kernel_rfl)) (EvL.cons (Ev.name (i := i_high) (d := .int (x.1 : Nat)) rfl (by walk_at "lk")) (EvL.cons (Ev.name (i := i_low) (d := .int (x.2 : Nat)) rfl (by walk_at "lk")) .nil)) (subC (k := 28) H)
    case c2 => unfold rowC D.ints; rw [List.map_map]; rfl
  case cast => unfold countsOf; rw [List.map_map]; rfl
  case sw => walk_at "swp"
end
noncomputable def Cmp (n : Nat) (d : D) : Prop := ∃ p : PyData, d = D.of p ∧ p.canLay0 = true ∧ p.depth ≤ n
noncomputable def CmpL (n : Nat) (ds : List D) : Prop := ∃ ps : List PyData, ds = ps.map D.of ∧ PyData.canLayAll0 ps = true ∧ PyData.depthAll ps ≤ n
theorem CmpL.of {n : Nat} : ∀ {ds : List D}, (∀ d ∈ ds, Cmp n d) → CmpL n ds
  | [], _ => ⟨[], rfl, rfl, by simp [PyData.depthAll]⟩
  | d :: ds, h => by
    obtain ⟨p, e1, e2, e3⟩ := h d List.mem_cons_self
    obtain ⟨ps, f1, f2, f3⟩ := CmpL.of (ds := ds) fun x hx => h x (List.mem_cons_of_mem _ hx)
    exact ⟨p :: ps, by rw [e1, f1]; rfl, by rw [PyData.canLayAll0, e2, f2]; rfl, by simp only [PyData.depthAll]; lia⟩
theorem Cmp.list {n : Nat} {ds : List D} (h : ∀ d ∈ ds, Cmp n d) : Cmp (n + 1) (.list ds) := by
  obtain ⟨ps, f1, f2, f3⟩ := CmpL.of h
  refine ⟨.list ps, ?_, f2, ?_⟩
  · rw [f1]; show _ = D.list (D.ofAll ps); rw [ofAll_map]
  · simp only [PyData.depth]; lia
theorem Cmp.tup {n : Nat} {ds : List D} (h : ∀ d ∈ ds, Cmp n d) : Cmp (n + 1) (.tup ds) := by
  obtain ⟨ps, f1, f2, f3⟩ := CmpL.of h
  refine ⟨.tuple ps, ?_, f2, ?_⟩
  · rw [f1]; show _ = D.tup (D.ofAll ps); rw [ofAll_map]
  · simp only [PyData.depth]; lia
theorem Cmp.int {n : Nat} {i : Int} : Cmp (n + 1) (.int i) := ⟨.int i, rfl, rfl, by simp [PyData.depth]⟩
theorem Cmp.bool {n : Nat} {b : Bool} : Cmp (n + 1) (.bool b) := ⟨.bool b, rfl, rfl, by simp [PyData.depth]⟩
theorem Cmp.none {n : Nat} : Cmp (n + 1) .none := ⟨.none, rfl, rfl, by simp [PyData.depth]⟩
theorem Cmp.str {n : Nat} {x : PySem.Str} (h : x.cps.all (· < 0x110000) = true) : Cmp (n + 1) (.str x) := ⟨.str x, rfl, by rw [PyData.canLay0]; exact h, by simp [PyData.depth]⟩
theorem Cmp.sL {n : Nat} {w : List Nat} (h : ∀ c ∈ w, c < 256) : Cmp (n + 1) (.str (sL w)) := .str (by
  rw [← Array.all_toList, List.all_eq_true]
  intro c hc
  have := h c (by simpa [Mine.sL] using hc)
  simp; lia)
theorem Cmp.strs {n : Nat} {l : List (List Nat)} (h : ∀ w ∈ l, ∀ c ∈ w, c < 256) : Cmp (n + 2) (.strs l) := .list fun d hd => by
  rw [List.map_map] at hd
  obtain ⟨w, hw, rfl⟩ := List.mem_map.mp hd
  exact .sL (h w hw)
section
variable {C : Cx} {k : Nat} {sc : Scope} {ρ : Asn} {Pn : Asn → Prop} {Pr : D → Prop}
theorem Op2.neC {d : D} (h : Cmp 60 d) : Op2 C (k + 2) (compareOp .NotEq) d d (.bool false) := by
  obtain ⟨p, h1, h2, h3⟩ := h
  exact Op2.neSame p h1 (by unfold SeqAt.shaped; rw [h2, decide_eq_true (by lia)]; rfl)
theorem Op2.neC' {d e : D} (h : Cmp 60 d) (q : d = e) : Op2 C (k + 2) (compareOp .NotEq) d e (.bool false) := q ▸ Op2.neC h
noncomputable def foundD (L : Nat) : D := if L = 0 then .str refusal else .int L
theorem t7 (H : Hd C) {L : Nat} (h1 : ρ.get i_found = some (foundD L)) (h2 : ρ.get i_least = some (.int L)) : LW C ρ lt7.1 fun r => r = ρ := by
  refine Ex1.skip ?_
  by_cases h : L = 0
  · subst h
    exact Tst.cast (Tst.cmp (d1 := .str refusal) (d2 := .str refusal) (Ev.name rfl h1) (Ev.cast (Ev.ifexp (c := false) (d1 := .none) (Tst.ev (Ev.name rfl h2) Tr.int) (fun h => by cases h) (fun _ => Ev.str)) rfl) Op2.neS rfl) (by simp)
  · have hL : ((L : Int) != 0) = true := by simp [h]
    refine Tst.cast (Tst.cmp (d1 := .int L) (d2 := .int L) (Ev.cast (Ev.name rfl h1) (if_neg h)) (Ev.cast (Ev.ifexp (c := true) (d1 := .int L) (d2 := .none) (Tst.cast (Tst.ev (Ev.name rfl h2) Tr.int) hL) (fun _ => Ev.name rfl h2) (fun h => by cases h)) rfl) Op2.neI rfl) (by simp)
end
theorem bits_small {n : Nat} (h : n < 2 ^ 60) : Builtin.Int.intBits (n : Int) ≤ 64 := by
  unfold Builtin.Int.intBits
  split
  · lia
  · have : n.log2 < 60 := by
      by_cases h0 : n = 0
      · subst h0; decide
      · exact (Nat.log2_lt h0).mpr h
    simp; lia
theorem pylong_no {a b : Nat} (h : b < 2 ^ 60) : Builtin.divisionGoesByPylong (a : Int) (b : Int) = false := by
  unfold Builtin.divisionGoesByPylong
  have : b.log2 < 60 := by
    by_cases h0 : b = 0
    · subst h0; decide
    · exact (Nat.log2_lt h0).mpr h
  have h2 : (decide ((if (b : Int) == 0 then 0 else (b : Int).natAbs.log2 / 30 + 1) > 300)) = false := by
    refine decide_eq_false ?_
    split
    · lia
    · simp; lia
  simp only [h2, Bool.false_and]
theorem sliceL_mid (ds : List D) (a b : Nat) : sliceL ds (some (a : Int)) (some (b : Int)) Option.none = (ds.take b).drop a := by
  unfold sliceL
  rw [sliceBounds_plain]
  simp only [Option.elim_some]
  rw [clipAt_nat, clipAt_nat, sliceRange_one]
  have := pick_run ds.toArray (min a ds.length) (min b ds.length - min a ds.length)
  have e0 : (((List.range (min b ds.length - min a ds.length)).map (min a ds.length + ·)).filterMap (ds[·]?)) = (((List.range (min b ds.length - min a ds.length)).map (min a ds.length + ·)).filterMap (ds.toArray[·]?)) := by congr 1; funext i; simp
  refine (e0.trans this).trans ?_
  rw [List.drop_take]
  by_cases h : a ≤ ds.length
  · rw [Nat.min_eq_left h]
    by_cases h2 : b ≤ ds.length
    · rw [Nat.min_eq_left h2]
    · rw [Nat.min_eq_right (show ds.length ≤ b by lia), List.take_of_length_le (by simp), List.take_of_length_le (by simp; lia)]
  · rw [Nat.min_eq_right (show ds.length ≤ a by lia), List.drop_eq_nil_of_le (Nat.le_refl _), List.drop_eq_nil_of_le (show ds.length ≤ a by lia)]; simp
noncomputable def floorsW (L He : Nat) : List Nat := (List.range (L - 1)).map fun j => (1 + j) * He / L
section
variable {C : Cx} {k : Nat} {sc : Scope} {ρ : Asn} {Pn : Asn → Prop} {Pr : D → Prop}
theorem ItE.cast {e t : Expr} {bs bs' : List Asn} (h : ItE C k sc ρ e t bs) (q : bs = bs') : ItE C k sc ρ e t bs' := q ▸ h
theorem Ev.midL {e l u : Expr} {p pos : Pos} {ds : List D} {a b : Nat} (he : Ev C k sc ρ e (.list ds)) (hl : Ev C k sc ρ l (.int a)) (hu : Ev C k sc ρ u (.int b)) (hz : ds.length ≤ 2 ^ 20) : Ev C k sc ρ (.Subscript e (.Slice (some l) (some u) Option.none p) pos) (.list ((ds.take b).drop a)) := by
  refine Ev.cast (Ev.slice he (.some hl) (.some hu) .none (by show "list" ≠ "?"; decide) F.slot_list_getitem.lookup (SlR.list (by simp) hz)) ?_
  rw [sliceL_mid]
theorem t8 (H : Hd C) {L He : Nat} (hL : L ≤ 100) (hH : He ≤ 100) (h1 : ρ.get i_least = some (.int L)) (h2 : ρ.get i_held = some (.int He)) : LW C ρ lt8.1 fun r => r = (i_floors, .nats (floorsW L He)) :: ρ := by
  refine' Ex1.assignCompMap (i := i_floors) (List.range (L - 1)) (fun (j : Nat) => [(i_step, .int (1 + j))]) (fun j => .int (((1 + j) * He / L : Nat) : Int)) [(i_held, .int He), (i_least, .int L)] rfl
    (ItE.cast (ItE.range2N (i := i_step) (a := 1) (b := L) rfl rfl (gb_range H) Ev.int (Ev.name rfl h1) (by decide) (by decide) (by lia) (by lia)) ?it) (Sees.of [i_held, i_least] ?sees (fr_cons h2 (fr_cons h1 fr_nil))) ?loc ?el ?sz rfl ?cast ?sw
  case it => rw [show ((L : Int) - 1).toNat = L - 1 by lia]
  case sees => decide +kernel
  case loc => intro c _ p hp; rcases List.mem_singleton.mp hp with rfl; rfl
  case sz => rw [List.length_range, sizeLine_eq]; lia
  case el =>
    intro j hj
    have hj' := List.mem_range.mp hj
    have e1 : ((1 + j : Int)) = ((1 + j : Nat) : Int) := by push_cast; rfl
    refine Ev.cast (Ev.call (x := Str.ofString "floordiv") rfl (gffloordiv H) (kr H (by rw [H.K]; kernel_rfl)) (EvL.cons (Ev.call (x := Str.ofString "mul") rfl (gfmul H) (kr H (by rw [H.K]; kernel_rfl)) (EvL.cons (Ev.name (i := i_step) (d := .int (1 + j)) rfl (by walk_at "lk")) (EvL.cons (Ev.name (i := i_held) (d := .int He) rfl (by walk_at "lk")) .nil))
      (mulC (k := 28) H (.of_left (by rw [e1]; exact bits_small (by lia))))) (EvL.cons (Ev.name (i := i_least) (d := .int L) rfl (by walk_at "lk")) .nil)) (floordivC (k := 28) H (by lia) ?_)) ?_
    · have : (1 + (j : Int)) * (He : Int) = (((1 + j) * He : Nat) : Int) := by push_cast; rfl
      rw [this]
      exact pylong_no (by lia)
    · have : (1 + (j : Int)) * (He : Int) = (((1 + j) * He : Nat) : Int) := by push_cast; rfl
      rw [this, Int.fdiv_eq_ediv_of_nonneg _ (by lia)]
      rfl
  case cast => unfold D.nats floorsW; rw [List.map_map]; rfl
  case sw => walk_at "swp"
end
theorem row_ne {w : List Nat} {r : List Int} (h : r ∈ countsOf w) : r ≠ [] := by
  obtain ⟨j, hj, rfl⟩ := List.mem_map.mp h
  have hj := List.mem_range.mp hj
  intro q
  have := congrArg List.length q
  simp [rowC, sumsW] at this
  omega
theorem floors_len (L He : Nat) : (floorsW L He).length = L - 1 := by simp [floorsW]
noncomputable def lineW (F : List Nat) : List Nat := (F.zip (F.drop 1)).map fun d => if d.2 = d.1 then 98 else 97
noncomputable def marksD (t : Nat) : List D := if t = 0 then [.int 0, .none, .int 9, .int 0] else [.none, .int 5, .int 0, .int 0]
section
variable {C : Cx} {k : Nat} {sc : Scope} {ρ : Asn} {Pn : Asn → Prop} {Pr : D → Prop}
theorem t9 (H : Hd C) {w : List Nat} {L He : Nat} (hw : w.length ≤ 100) (hL : L ≤ 100) (h0 : ρ.get i_counts = some (.list ((countsOf w).map .ints))) (h1 : ρ.get i_least = some (.int L)) (h2 : ρ.get i_floors = some (.nats (floorsW L He)))
    (hq : (((countsOf w).take L).drop 1).map (fun r => (mn r, mx r)) = (floorsW L He).map fun (n : Nat) => ((n : Int), (n : Int) + 1)) : LW C ρ lt9.1 fun r => r = ρ := by
  have hc : (countsOf w).length = w.length + 1 := by simp [countsOf]
  have hrl : (((countsOf w).take L).drop 1).length ≤ 101 := by simp; lia
  refine' Ex1.skip (Tst.cmp (d1 := .list ((((countsOf w).take L).drop 1).map fun r => .tup [.int (mn r), .int (mx r)])) (d2 := .list ((floorsW L He).map fun (n : Nat) => .tup [.int n, .int (n + 1)]))
    (Ev.compMap (((countsOf w).take L).drop 1) (fun r => [(i_row, .ints r)]) (fun r => .tup [.int (mn r), .int (mx r)]) [] (ItE.ofL (((countsOf w).take L).drop 1) D.ints rfl (Ev.cast (Ev.midL (ds := (countsOf w).map .ints) (a := 1) (b := L) (Ev.name rfl h0) Ev.int (Ev.name rfl h1) (by rw [List.length_map, hc]; lia)) ?c1)) (Sees.of [] ?s1 fr_nil) ?l1 ?e1 ?z1)
    (Ev.compMap (floorsW L He) (fun (n : Nat) => [(i_low, .int n)]) (fun (n : Nat) => .tup [.int n, .int (n + 1)]) [] (ItE.ofL (floorsW L He) (fun (n : Nat) => .int n) rfl (Ev.name rfl h2)) (Sees.of [] ?s2 fr_nil) ?l2 ?e2 ?z2) (Op2.neC' ?cmp ?eq) rfl)
  case c1 => rw [List.map_drop, List.map_take]
  case s1 => decide +kernel
  case l1 => intro c _ p hp; rcases List.mem_singleton.mp hp with rfl; rfl
  case e1 =>
    intro r hr
    have hne : r ≠ [] := row_ne (List.mem_of_mem_take (List.mem_of_mem_drop hr))
    exact Ev.tuple (EvL.cons (Ev.call (x := Str.ofString "min") rfl (gb_min H) (.inl ⟨_, rfl⟩) (EvL.cons (Ev.name (i := i_row) (d := .ints r) rfl (by walk_at "lk")) .nil) (CallR.min hne)) (EvL.cons (Ev.call (x := Str.ofString "max") rfl (gb_max H) (.inl ⟨_, rfl⟩) (EvL.cons (Ev.name (i := i_row) (d := .ints r) rfl (by walk_at "lk")) .nil) (CallR.max hne)) .nil)) (by show 2 ≤ sizeLine; decide)
  case z1 => rw [sizeLine_eq]; lia
  case s2 => decide +kernel
  case l2 => intro c _ p hp; rcases List.mem_singleton.mp hp with rfl; rfl
  case e2 =>
    intro n hn
    exact Ev.tuple (EvL.cons (Ev.name (i := i_low) (d := .int n) rfl (by walk_at "lk")) (EvL.cons (Ev.call (x := Str.ofString "add") rfl (gfadd H) (kr H (by rw [H.K]; kernel_rfl)) (EvL.cons (Ev.name (i := i_low) (d := .int n) rfl (by walk_at "lk")) (EvL.cons Ev.int .nil)) (addC (k := 28) H)) .nil)) (by show 2 ≤ sizeLine; decide)
  case z2 => rw [floors_len, sizeLine_eq]; lia
  case cmp =>
    refine Cmp.list (n := 59) fun d hd => ?_
    obtain ⟨r, _, rfl⟩ := List.mem_map.mp hd
    refine Cmp.tup (n := 58) fun d hd => ?_
    rcases List.mem_cons.mp hd with rfl | hd
    · exact .int
    · rw [List.mem_singleton.mp hd]; exact .int
  case eq =>
    have := congrArg (fun l => l.map fun (p : Int × Int) => D.tup [.int p.1, .int p.2]) hq
    simp only [List.map_map] at this
    exact congrArg D.list this
theorem t10 (H : Hd C) {F : List Nat} (hF : F.length ≤ 100) (h1 : ρ.get i_floors = some (.nats F)) (hd : ∀ d ∈ F.zip (F.drop 1), d.2 = d.1 ∨ d.2 = d.1 + 1) : LW C ρ lt10.1 fun r => r = (i_line, .str (sL (lineW F))) :: ρ := by
  have hll : (lineW F).length ≤ 100 := by simp [lineW]; lia
  refine' Ex1.assign (i := i_line) rfl (Ev.cast (Ev.join (x := Str.ofString "") (ys := ((lineW F).map fun c => [c]).map sL) Ev.str (Ev.cast (Ev.compMap (F.zip (F.drop 1)) (fun d => [(i_high, .int (d.2 : Nat)), (i_low, .int (d.1 : Nat))]) (fun d => .str (sL [if d.2 = d.1 then 98 else 97])) []
    (ItE.zipL F (fun n => .int (n : Nat)) (F.drop 1) (fun n => .int (n : Nat)) rfl rfl rfl (gb_zip H) (Ev.name rfl h1) (Ev.cast (Ev.fromL (ds := F.map fun (n : Nat) => .int n) (n := 1) (Ev.name rfl h1) Ev.int (by rw [List.length_map]; lia)) (by rw [List.map_drop]))) (Sees.of [] ?sees fr_nil) ?loc ?el ?sz) ?cast) ?jo) ?fin) (.inl rfl) ?sw
  case sees => decide +kernel
  case loc =>
    intro x _ p hp
    rcases List.mem_cons.mp hp with rfl | hp
    · rfl
    · rcases List.mem_singleton.mp hp with rfl; rfl
  case sz => rw [List.length_zip, sizeLine_eq]; lia
  case el =>
    intro x hx
    refine Ev.sub (d1 := .str (sL [98, 97])) (d2 := .int ((x.2 : Int) - x.1)) Ev.str (Ev.call (x := Str.ofString "sub") rfl (gfsub H) (kr H (by rw [H.K]; kernel_rfl)) (EvL.cons (Ev.name (i := i_high) (d := .int (x.2 : Nat)) rfl (by walk_at "lk")) (EvL.cons (Ev.name (i := i_low) (d := .int (x.1 : Nat)) rfl (by walk_at "lk")) .nil)) (subC (k := 28) H)) (by show "str" ≠ "?"; decide) PySem.F.slot_str_getitem.lookup ?_
    rcases hd x hx with h | h
    · rw [h, if_pos rfl, Int.sub_self]
      exact Op2.itemS (by decide) rfl (by decide)
    · rw [h, if_neg (by lia), show ((x.1 + 1 : Nat) : Int) - (x.1 : Int) = 1 by lia]
      exact Op2.itemS (by decide) rfl (by decide)
  case cast => unfold lineW; rw [List.map_map, List.map_map, List.map_map]; rfl
  case jo =>
    refine joinOk_of (n := 1) (m := 100) (fun p hp => ?_) (by simpa using hll) (by decide)
    obtain ⟨q, hq, rfl⟩ := List.mem_map.mp hp
    obtain ⟨c, _, rfl⟩ := List.mem_map.mp hq
    exact Nat.le_of_eq (sL_len _)
  case fin =>
    have := join_sL [] ((lineW F).map fun c => [c])
    rw [joinL_singles] at this
    exact congrArg D.str this
  case sw => walk_at "swp"
theorem t11 (H : Hd C) {w : List Nat} (hw : w.length ≤ 100) (h0 : ρ.get i_word = some (.str (sL w))) (h1 : ρ.get i_mirror = some (.str (sL w.reverse))) :
    LW C ρ lt11.1 fun r => r = (i_dots, .strs (betweenW w w.reverse 98)) :: (i_ends, .strs (betweenW w w.reverse 97)) :: ρ := by
  refine' Ex1.pairAt (i := i_ends) (j := i_dots) (d := .tup [.strs (betweenW w w.reverse 97), .strs (betweenW w w.reverse 98)]) rfl rfl (Ev.tuple (EvL.cons (Ev.call (x := Str.ofString "_law_between") rfl (gf_law_between H) (kr H (by rw [H.K]; kernel_rfl)) (EvL.cons (Ev.name rfl h0) (EvL.cons (Ev.name rfl h1) (EvL.cons Ev.str .nil))) (betweenC (k := 28) (c := 97) H hw (by simpa using hw)))
    (EvL.cons (Ev.call (x := Str.ofString "_law_between") rfl (gf_law_between H) (kr H (by rw [H.K]; kernel_rfl)) (EvL.cons (Ev.name rfl h0) (EvL.cons (Ev.name rfl h1) (EvL.cons Ev.str .nil))) (betweenC (k := 28) (c := 98) H hw (by simpa using hw))) .nil)) (by show 2 ≤ sizeLine; decide)) (.inl rfl) (.inr rfl) (.inr rfl) ?hs ?hw
  case hs => intro env; rfl
  case hw => intro env he; unfold swappedStores Env.blockKind Env.kindOf; rw [he]; kernel_rfl
theorem ev_marks {l : Expr} {c1 c2 c3 c4 c5 c6 c7 c8 : Expr} {p1 p2 p3 pos : Pos} {t : Nat} {d1 d2 d3 d4 d5 d6 d7 d8 d : D} (hl : Ev C k sc ρ (.List [.List [c1, c2, c3, c4] p1, .List [c5, c6, c7, c8] p2] p3) (.list [.list [d1, d2, d3, d4], .list [d5, d6, d7, d8]])) (hl2 : Ev C k sc ρ l (.int t)) (hd : [D.list [d1, d2, d3, d4], D.list [d5, d6, d7, d8]][t]? = some d)
    (hs : ∀ o i, subscripted l false o i = operate [o, i] (getItem o i)) : Ev C k sc ρ (.Subscript (.List [.List [c1, c2, c3, c4] p1, .List [c5, c6, c7, c8] p2] p3) l pos) d := by
  exact Ev.sub hl hl2 (by show "list" ≠ "?"; decide) F.slot_list_getitem.lookup (Op2.itemL (by lia) (by simpa using hd) (by show 2 ≤ 2 ^ 20; decide)) hs
theorem t12 (H : Hd C) {t : Nat} (ht : t < 2) (h0 : ρ.get i_turn = some (.int t)) : LW C ρ lt12.1 fun r => r = (i_marks, .list (marksD t)) :: ρ := by
  unfold lt12
  with_reducible refine Ex1.assign (i := i_marks) ?hx ?h ?hk ?hs ?hv
  case hx => rfl
  case hk => exact .inl rfl
  case hs => walk_at "swp"
  case hv => intro _; rfl
  case h =>
    with_reducible refine ev_marks (d1 := .int 0) (d2 := .none) (d3 := .int 9) (d4 := .int 0) (d5 := .none) (d6 := .int 5) (d7 := .int 0) (d8 := .int 0) (t := t) ?a ?b ?c ?d
    case b => exact Ev.name rfl h0
    case c => rcases (show t = 0 ∨ t = 1 by lia) with rfl | rfl <;> rfl
    case d => intro _ _; rfl
    case a => 
      with_reducible refine Ev.list ?l ?z
      case z => rw [sizeLine_eq]; simp
      case l =>
       with_reducible refine EvL.cons ?x (EvL.cons ?y .nil ?s2) ?s1
       case s1 => intro _; rfl
       case s2 => intro _; rfl
       case x =>
        with_reducible refine Ev.list ?l ?z
        case z => rw [sizeLine_eq]; simp
        case l => exact EvL.cons Ev.int (EvL.cons Ev.none (EvL.cons Ev.int (EvL.cons Ev.int .nil)))
       case y =>
        with_reducible refine Ev.list ?l ?z
        case z => rw [sizeLine_eq]; simp
        case l => exact EvL.cons Ev.none (EvL.cons Ev.int (EvL.cons Ev.int (EvL.cons Ev.int .nil)))
end
noncomputable def bothW (xs ys : List (List Nat)) : List (List Nat) := xs.filter fun x => ys.any fun y => y == x
theorem both_sL (xs ys : List (List Nat)) : ((xs.map sL).filter fun x => (ys.map sL).any fun y => y == x) = (bothW xs ys).map sL := by
  unfold bothW
  rw [List.filter_map]
  congr 1
  refine List.filter_congr fun x _ => ?_
  rw [Function.comp, List.any_map]
  congr 1
  funext y
  exact sL_beq _ _
noncomputable def markD (t i : Nat) : D := (marksD t).getD i .none
noncomputable def agents1 (E : List (List Nat)) : List (List Nat) := [42] :: [65, 98] :: E
noncomputable def agents2 (Dt S : List (List Nat)) : List (List Nat) := Dt ++ S ++ [[97, 66]]
noncomputable def rules1 (E : List (List Nat)) : List D := (E.map sL).map (ruleD (sL [98]) (sL []))
noncomputable def rules2 (Dt : List (List Nat)) : List D := (Dt.map sL).map (ruleD (sL [97]) (sL [98]))
noncomputable def firstD (E : List (List Nat)) (t : Nat) : D := .entry (.strs (agents1 E)) (.list (rules1 E)) (markD t 0) (markD t 1)
noncomputable def secondD (Dt : List (List Nat)) (t : Nat) : D := .entry (.strs (agents2 Dt (starL t))) (.list (rules2 Dt)) (markD t 2) (markD t 3)
noncomputable def oneD (E Dt : List (List Nat)) (t : Nat) : D := .entry (.strs (bothW (agents1 E) (agents2 Dt (starL t)))) (.list (rules1 E ++ rules2 Dt)) (pickD (markD t 0) (markD t 2)) (pickD (markD t 1) (markD t 3))
noncomputable def twoD (E Dt : List (List Nat)) (t : Nat) : D := .entry (.strs (bothW (agents2 Dt (starL t)) (agents1 E))) (.list (rules2 Dt ++ rules1 E)) (pickD (markD t 2) (markD t 0)) (pickD (markD t 3) (markD t 1))
theorem star_len (t : Nat) : (starL t).length ≤ 1 := by simp [starL]
section
variable {C : Cx} {k : Nat} {sc : Scope} {ρ : Asn} {Pn : Asn → Prop} {Pr : D → Prop}
theorem Ev.mark {p pos p2 : Pos} {t i : Nat} {n : Nat} (ht : t < 2) (hi : i < 4) (h : ρ.get i_marks = some (.list (marksD t))) : Ev C k sc ρ (.Subscript (.Name (Str.ofString "marks") p) (.Constant (.int (i : Nat)) n p2) pos) (markD t i) := by
  refine Ev.sub (d1 := .list (marksD t)) (d2 := .int (i : Nat)) (Ev.name rfl h) Ev.int (by show "list" ≠ "?"; decide) F.slot_list_getitem.lookup (Op2.itemL (by lia) ?_ ?_)
  · unfold markD
    have : i < (marksD t).length := by rcases (show t = 0 ∨ t = 1 by lia) with rfl | rfl <;> exact hi
    rw [List.getD_eq_getElem?_getD, Int.toNat_natCast, List.getElem?_eq_getElem this]; rfl
  · rcases (show t = 0 ∨ t = 1 by lia) with rfl | rfl <;> (show 4 ≤ 2 ^ 20; decide)
theorem addStrs {xs ys : List (List Nat)} (h : xs.length + ys.length ≤ 2000) : Op2 C k (binaryOp .Add) (.strs xs) (.strs ys) (.strs (xs ++ ys)) := by
  have := Op2.addL (C := C) (k := k) (xs := (xs.map sL).map D.str) (ys := (ys.map sL).map D.str) (by simp only [List.length_map, sizeLine_eq]; lia)
  rw [← List.map_append, ← List.map_append] at this
  exact this
theorem t13 (H : Hd C) {E : List (List Nat)} {t : Nat} (ht : t < 2) (hE : E.length ≤ 200) (hn : ∀ n ∈ E, n.length ≤ 100) (h0 : ρ.get i_ends = some (.strs E)) (h1 : ρ.get i_marks = some (.list (marksD t))) :
    LW C ρ lt13.1 fun r => r = (i_first, firstD E t) :: ρ := by
  refine' Ex1.assign (i := i_first) rfl (Ev.call (x := Str.ofString "_law_record") rfl (gf_law_record H) (kr H (by rw [H.K]; kernel_rfl)) (EvL.cons (Ev.bin (Ev.list (EvL.cons Ev.str (EvL.cons Ev.str .nil)) (by show 2 ≤ sizeLine; decide)) (Ev.name rfl h0) (addStrs (xs := [[42], [65, 98]]) (by simp; lia))) (EvL.cons (Ev.name rfl h0) (EvL.cons Ev.str (EvL.cons Ev.str (EvL.cons (Ev.mark (i := 0) ht (by decide) h1) (EvL.cons (Ev.mark (i := 1) ht (by decide) h1) .nil))))))
    (lawRecord (k := 10) (names := E.map sL) (side := sL [98]) (mark := sL []) H (fun n hn' => ?n1) (by decide) (by decide) (by rw [List.length_map]; lia))) (.inl rfl) ?sw
  case n1 =>
    obtain ⟨q, hq, rfl⟩ := List.mem_map.mp hn'
    rw [sL_len]; have := hn q hq; lia
  case sw => walk_at "swp"
theorem t14 (H : Hd C) {Dt : List (List Nat)} {t : Nat} (ht : t < 2) (hE : Dt.length ≤ 200) (hn : ∀ n ∈ Dt, n.length ≤ 100) (h0 : ρ.get i_dots = some (.strs Dt)) (h2 : ρ.get i_star = some (.strs (starL t))) (h1 : ρ.get i_marks = some (.list (marksD t))) :
    LW C ρ lt14.1 fun r => r = (i_second, secondD Dt t) :: ρ := by
  have hs := star_len t
  refine' Ex1.assign (i := i_second) rfl (Ev.call (x := Str.ofString "_law_record") rfl (gf_law_record H) (kr H (by rw [H.K]; kernel_rfl)) (EvL.cons (Ev.bin (Ev.bin (Ev.name rfl h0) (Ev.name rfl h2) (addStrs (by lia))) (Ev.list (EvL.cons Ev.str .nil) (by show 1 ≤ sizeLine; decide)) (addStrs (ys := [[97, 66]]) (by simp; lia))) (EvL.cons (Ev.name rfl h0) (EvL.cons Ev.str (EvL.cons Ev.str (EvL.cons (Ev.mark (i := 2) ht (by decide) h1) (EvL.cons (Ev.mark (i := 3) ht (by decide) h1) .nil))))))
    (lawRecord (k := 10) (names := Dt.map sL) (side := sL [97]) (mark := sL [98]) H (fun n hn' => ?n1) (by decide) (by decide) (by rw [List.length_map]; lia))) (.inl rfl) ?sw
  case n1 =>
    obtain ⟨q, hq, rfl⟩ := List.mem_map.mp hn'
    rw [sL_len]; have := hn q hq; lia
  case sw => walk_at "swp"
theorem t15 (H : Hd C) {E Dt : List (List Nat)} {t : Nat} (hE : E.length ≤ 200) (hD : Dt.length ≤ 200) (h0 : ρ.get i_first = some (firstD E t)) (h1 : ρ.get i_second = some (secondD Dt t)) :
    LW C ρ lt15.1 fun r => r = (i_one, oneD E Dt t) :: (i_two, twoD E Dt t) :: ρ := by
  have hs := star_len t
  have z1 : ((agents1 E).map sL).length ≤ 1000 := by simp [agents1]; lia
  have z2 : ((agents2 Dt (starL t)).map sL).length ≤ 1000 := by simp [agents2]; lia
  have z3 : (rules1 E).length ≤ 1000 := by simp [rules1]; lia
  have z4 : (rules2 Dt).length ≤ 1000 := by simp [rules2]; lia
  have m1 := mergeC (C := C) (k := 10) (d1 := markD t 0) (d2 := markD t 1) (d3 := markD t 2) (d4 := markD t 3) H z1 z2 z3 z4
  have m2 := mergeC (C := C) (k := 10) (d1 := markD t 2) (d2 := markD t 3) (d3 := markD t 0) (d4 := markD t 1) H z2 z1 z4 z3
  rw [both_sL] at m1 m2
  refine' Ex1.pairSw (i := i_one) (j := i_two) rfl rfl (Ev.tuple (EvL.cons (Ev.call (x := Str.ofString "merge_entries") rfl (gfmerge_entries H) (kr H (by rw [H.K]; kernel_rfl)) (EvL.cons (Ev.name rfl h0) (EvL.cons (Ev.name rfl h1) .nil)) m1)
    (EvL.cons (Ev.call (x := Str.ofString "merge_entries") rfl (gfmerge_entries H) (kr H (by rw [H.K]; kernel_rfl)) (EvL.cons (Ev.name rfl h1) (EvL.cons (Ev.name rfl h0) .nil)) m2) .nil)) (by show 2 ≤ sizeLine; decide)) rfl rfl ?hs ?hw
  case hs => intro env; rfl
  case hw => intro env he; unfold swappedStores Env.blockKind Env.kindOf; rw [he]; rfl
end
theorem strs_map (l : List (List Nat)) : D.strs l = .list (l.map fun n => D.str (sL n)) := congrArg D.list (List.map_map ..)
theorem any_sL (ys : List (List Nat)) (x : List Nat) : ((ys.map sL).any fun y => y == sL x) = ys.any fun y => y == x := by
  rw [List.any_map]
  congr 1
  funext y
  exact sL_beq _ _
section
variable {C : Cx} {k : Nat} {sc : Scope} {ρ : Asn} {Pn : Asn → Prop} {Pr : D → Prop}
theorem ItE.strsL {iter : Expr} {i : Nat} {x : PySem.Str} {pos : Pos} {l : List (List Nat)} (hx : nm i = x) (h : Ev C k sc ρ iter (.strs l)) : ItE C k sc ρ iter (.Name x pos) (l.map fun n => [(i, D.str (sL n))]) :=
  ItE.ofL l (fun n => D.str (sL n)) hx (strs_map l ▸ h)
theorem Tst.inL {e1 e2 : Expr} {pos : Pos} {x : List Nat} {ys : List (List Nat)} (h1 : Ev C k sc ρ e1 (.str (sL x))) (h2 : Ev C k sc ρ e2 (.strs ys)) (hb : behindInMarks .In e2 = false) : Tst C k sc ρ (.Compare e1 [.In] [e2] pos) (ys.any fun y => y == x) := by
  have := Tst.cmp (pos := pos) h1 h2 Op2.inStrs hb
  rwa [any_sL] at this
theorem t16 (H : Hd C) {E Dt : List (List Nat)} (hE : E.length ≤ 200) (hD : Dt.length ≤ 200) (h0 : ρ.get i_ends = some (.strs E)) (h1 : ρ.get i_dots = some (.strs Dt)) :
    LW C ρ lt16.1 fun r => r = (i_shared, .strs (bothW E Dt)) :: (i_common, .strs (bothW Dt E)) :: ρ := by
  refine' Ex1.pairSw (i := i_shared) (j := i_common) rfl rfl (Ev.tuple (EvL.cons
    (Ev.cast (Ev.compIf E (fun n => [(i_name, .str (sL n))]) (fun n => Dt.any fun y => y == n) (fun n => .str (sL n)) [(i_dots, .strs Dt)] (ItE.strsL rfl (Ev.name rfl h0)) (Sees.of [i_dots] ?s1 (fr_cons h1 fr_nil)) ?l1 (fun n _ => Tst.inL (Ev.name (i := i_name) rfl (by walk_at "lk")) (Ev.name (i := i_dots) rfl (by walk_at "lk")) rfl) (fun n _ _ => Ev.name (i := i_name) rfl (by walk_at "lk")) ?z1) (strs_map _).symm) (EvL.cons
    (Ev.cast (Ev.compIf Dt (fun n => [(i_name, .str (sL n))]) (fun n => E.any fun y => y == n) (fun n => .str (sL n)) [(i_ends, .strs E)] (ItE.strsL rfl (Ev.name rfl h1)) (Sees.of [i_ends] ?s2 (fr_cons h0 fr_nil)) ?l2 (fun n _ => Tst.inL (Ev.name (i := i_name) rfl (by walk_at "lk")) (Ev.name (i := i_ends) rfl (by walk_at "lk")) rfl) (fun n _ _ => Ev.name (i := i_name) rfl (by walk_at "lk")) ?z2) (strs_map _).symm) .nil)) (by show 2 ≤ sizeLine; decide)) rfl rfl ?hs ?hw
  case s1 => decide +kernel
  case s2 => decide +kernel
  case l1 => intro c _ p hp; rcases List.mem_singleton.mp hp with rfl; rfl
  case l2 => intro c _ p hp; rcases List.mem_singleton.mp hp with rfl; rfl
  case z1 => rw [sizeLine_eq]; lia
  case z2 => rw [sizeLine_eq]; lia
  case hs => intro env; rfl
  case hw => intro env he; unfold swappedStores Env.blockKind Env.kindOf; rw [he]; rfl
noncomputable def Oct (l : List (List Nat)) : Prop := ∀ w ∈ l, ∀ c ∈ w, c < 256
theorem t17 (H : Hd C) {E Dt N M : List (List Nat)} {t : Nat} (ht : t < 2) (hE : E.length ≤ 200) (hD : Dt.length ≤ 200) (oE : Oct E) (oD : Oct Dt) (h0 : ρ.get i_one = some (oneD E Dt t)) (h1 : ρ.get i_two = some (twoD E Dt t)) (h2 : ρ.get i_star = some (.strs (starL t)))
    (h3 : ρ.get i_shared = some (.strs (bothW E Dt))) (h4 : ρ.get i_common = some (.strs (bothW Dt E))) (h5 : ρ.get i_turn = some (.int t)) (h6 : ρ.get i_named = some (.strs N)) (h7 : ρ.get i_dotted = some (.strs M))
    (q1 : bothW (agents1 E) (agents2 Dt (starL t)) = starL t ++ bothW E Dt) (q2 : bothW (agents2 Dt (starL t)) (agents1 E) = bothW Dt E ++ starL t) (q3 : t = 0 ∨ (bothW E Dt = N ∧ bothW Dt E = M)) :
    LW C ρ lt17.1 fun r => r = ρ := by
  have EK := entK H
  have hs := star_len t
  have l1 : (bothW E Dt).length ≤ 200 := Nat.le_trans (List.length_filter_le _ _) hE
  have l2 : (bothW Dt E).length ≤ 200 := Nat.le_trans (List.length_filter_le _ _) hD
  have o1 : Oct (bothW E Dt) := fun w hw => oE w (List.mem_filter.mp hw).1
  have o2 : Oct (bothW Dt E) := fun w hw => oD w (List.mem_filter.mp hw).1
  have oS : Oct (starL t) := fun w hw c hc => by
    have := List.mem_of_mem_drop hw
    rw [List.mem_singleton.mp this] at hc
    rw [List.mem_singleton.mp hc]; decide
  have c1 : Cmp 60 (.strs (bothW (agents1 E) (agents2 Dt (starL t)))) := by
    rw [q1]; exact Cmp.strs (n := 58) fun w hw => (List.mem_append.mp hw).elim (oS w) (o1 w)
  have c2 : Cmp 60 (.strs (bothW (agents2 Dt (starL t)) (agents1 E))) := by
    rw [q2]; exact Cmp.strs (n := 58) fun w hw => (List.mem_append.mp hw).elim (o2 w) (oS w)
  have c3 : Cmp 60 (.tup [.strs (bothW E Dt), .strs (bothW Dt E)]) := Cmp.tup (n := 59) fun d hd => by
    rcases List.mem_cons.mp hd with rfl | hd
    · exact Cmp.strs (n := 57) o1
    · rw [List.mem_singleton.mp hd]; exact Cmp.strs (n := 57) o2
  refine Ex1.skip (Tst.cast (Tst.or3 (b1 := false) (b2 := false) (b3 := ((t : Int) != 0) && false)
    (Tst.cmp (Ev.attr (Ev.name rfl h0) (AttrR.entry EK EK.f1 (.inl ⟨rfl, rfl⟩))) (Ev.bin (Ev.name rfl h2) (Ev.name rfl h3) (addStrs (by lia))) (Op2.neC' c1 (by rw [q1])) rfl)
    (Tst.cmp (Ev.attr (Ev.name rfl h1) (AttrR.entry EK EK.f1 (.inl ⟨rfl, rfl⟩))) (Ev.bin (Ev.name rfl h4) (Ev.name rfl h2) (addStrs (by lia))) (Op2.neC' c2 (by rw [q2])) rfl)
    (Tst.and2 (Tst.ev (Ev.name rfl h5) Tr.int) fun hb => Tst.cmp (Ev.tuple (EvL.cons (Ev.name rfl h3) (EvL.cons (Ev.name rfl h4) .nil)) (by show 2 ≤ sizeLine; decide)) (Ev.tuple (EvL.cons (Ev.name rfl h6) (EvL.cons (Ev.name rfl h7) .nil)) (by show 2 ≤ sizeLine; decide)) (Op2.neC' c3 ?_) rfl)) (by simp))
  rcases q3 with rfl | ⟨e1, e2⟩
  · exact absurd hb (by decide)
  · rw [e1, e2]
end
end
section
open PySem PySem.W PyProof.Rows PySem.StrLaws PySem.Builtin PySem.Builtin.Str
noncomputable def lowC (c : Nat) : Nat := if 65 ≤ c ∧ c ≤ 90 then c + 32 else c
noncomputable def upC (c : Nat) : Nat := if 97 ≤ c ∧ c ≤ 122 then c - 32 else c
noncomputable def Sg (w : List Nat) : Prop := ∀ c ∈ w, c = 42 ∨ c = 97 ∨ c = 98 ∨ c = 65 ∨ c = 66
theorem up_one {c : Nat} (h : c = 42 ∨ c = 97 ∨ c = 98 ∨ c = 65 ∨ c = 66) : Unicode.upperOf c = [upC c] := by
  rcases h with rfl | rfl | rfl | rfl | rfl <;> decide +kernel
theorem low_one {c : Nat} (h : c = 42 ∨ c = 97 ∨ c = 98 ∨ c = 65 ∨ c = 66) : Unicode.lowerOf c = [lowC c] := by
  rcases h with rfl | rfl | rfl | rfl | rfl <;> decide +kernel
theorem placed_one {w : List Nat} {f : Nat → Nat → List Nat} {g : Nat → Nat} (h : ∀ i c, w[i]? = some c → f i c = [g c]) : placed (sL w) f = (w.map g).toArray := by
  have : ((sL w).cps.mapIdx fun i c => (f i c).toArray) = (w.map fun c => #[g c]).toArray := by
    refine Array.ext (by simp [sL]) fun i h1 h2 => ?_
    have hi : i < w.length := by simpa [sL] using h1
    simp [sL, h i w[i] (List.getElem?_eq_getElem hi)]
  show ((sL w).cps.mapIdx fun i c => (f i c).toArray).flatten = _
  rw [this]
  clear h this
  apply Array.ext'
  simp
  induction w with
  | nil => rfl
  | cons a r ih => simpa using ih
theorem upper_sL {w : List Nat} (h : Sg w) : Txt.upper (sL w) = sL (w.map upC) := by
  unfold Txt.upper
  rw [placed_one (f := fun _ c => Unicode.upperOf c) (g := upC) fun i c hc => up_one (h c (List.mem_of_getElem? hc))]
theorem lower_sL {w : List Nat} (h : Sg w) : Txt.lower (sL w) = sL (w.map lowC) := by
  unfold Txt.lower
  have key : ∀ i c, w[i]? = some c → Unicode.lowerAt (sL w).cps i = [lowC c] := fun i c hc => by
    unfold Unicode.lowerAt
    have : (sL w).cps[i]? = some c := by simpa [sL] using hc
    rw [this]
    have hs := h c (List.mem_of_getElem? hc)
    dsimp only
    have h3 : (c == 0x3A3) = false := by rcases hs with rfl | rfl | rfl | rfl | rfl <;> rfl
    rw [h3, Bool.false_and, if_neg (by decide), low_one hs]
  rw [placed_one (f := fun i _ => Unicode.lowerAt (sL w).cps i) (g := lowC) key]
noncomputable def preL : List Nat → List Nat → Bool
  | [], _ => true
  | _ :: _, [] => false
  | a :: x, b :: w => match Nat.beq a b with
    | true => preL x w
    | false => false
noncomputable def hasL (x : List Nat) : List Nat → Bool
  | [] => x.isEmpty
  | b :: r => match preL x (b :: r) with
    | true => true
    | false => hasL x r
theorem preL_iff : ∀ (x w : List Nat), preL x w = true ↔ w.take x.length = x
  | [], w => by simp [preL]
  | a :: x, [] => by simp [preL]
  | a :: x, b :: w => by
    unfold preL
    have h : Nat.beq a b = true ↔ b = a := by rw [Nat.beq_eq]; exact eq_comm
    cases e : Nat.beq a b with
    | true =>
      dsimp only
      rw [preL_iff x w, h.mp e]; simp
    | false =>
      have : b ≠ a := fun q => by rw [h.mpr q] at e; cases e
      simp [this]
theorem hasL_iff (x : List Nat) : ∀ w : List Nat, hasL x w = true ↔ ∃ i, (w.drop i).take x.length = x
  | [] => by
    unfold hasL
    cases x with
    | nil => simp
    | cons a x => simp
  | b :: r => by
    have ih := hasL_iff x r
    unfold hasL
    cases e : preL x (b :: r) with
    | true =>
      simp only [true_iff]
      exact ⟨0, (preL_iff x (b :: r)).mp e⟩
    | false =>
      dsimp only
      rw [ih]
      constructor
      · rintro ⟨i, h⟩; exact ⟨i + 1, h⟩
      · rintro ⟨i, h⟩
        cases i with
        | zero => rw [(preL_iff x (b :: r)).mpr h] at e; cases e
        | succ i => exact ⟨i, h⟩
theorem in_sL (x w : List Nat) : inS (sL x) (sL w) = hasL x w := by
  rw [Bool.eq_iff_iff]
  show (!(occurrences (sL w) (sL x) 0 (sL w).length 1).isEmpty) = true ↔ _
  rw [found_iff, hasL_iff]
  have hs : ∀ i, subAt (sL w) (sL x) i = true ↔ (w.drop i).take x.length = x := fun i => by
    unfold subAt
    rw [beq_iff_eq, ← Array.toList_inj, Array.toList_extract, List.extract_eq_take_drop, sL_len, Nat.add_sub_cancel_left]
  constructor
  · rintro ⟨i, _, h⟩; exact ⟨i, (hs i).mp h⟩
  · rintro ⟨i, h⟩
    refine ⟨min i w.length, ?_, (hs _).mpr ?_⟩
    · rw [sL_len, sL_len]
      have := congrArg List.length h
      simp at this
      omega
    · by_cases hi : i ≤ w.length
      · rw [Nat.min_eq_left hi]; exact h
      · rw [List.drop_eq_nil_of_le (by omega)] at h
        have : x = [] := by simpa using h.symm
        subst this; simp
noncomputable def appL (w : List Nat) (ags : List (List Nat)) : Bool := ags.any fun a => a != [42] && hasL (a.map lowC) w
theorem any_cong {α : Type} {p q : α → Bool} : ∀ {l : List α}, (∀ a ∈ l, p a = q a) → l.any p = l.any q
  | [], _ => rfl
  | a :: l, h => by rw [List.any_cons, List.any_cons, h a List.mem_cons_self, any_cong fun b hb => h b (List.mem_cons_of_mem _ hb)]
theorem app_sL {w : List Nat} {ags : List (List Nat)} (h : ∀ a ∈ ags, Sg a) : appliesS (sL w) (ags.map sL) = appL w ags := by
  unfold appliesS appL
  rw [List.any_map]
  refine any_cong fun a ha => ?_
  show match1 (sL w) (sL a) = _
  unfold match1
  have e1 : (sL a != starS) = (a != [42]) := sL_bne a [42]
  rw [e1, lower_sL (h a ha), in_sL]
noncomputable abbrev RuleN := List Nat × List Nat × List Nat
noncomputable def RuleN.t (r : RuleN) : RuleT := (sL r.1, sL r.2.1, sL r.2.2)
noncomputable def greatL (r : RuleN) : List Nat := (r.2.1 ++ r.1 ++ r.2.1).map fun c => lowC (upC c)
noncomputable def stepL (w : List Nat) (st : Nat × Option (List Nat)) (r : RuleN) : Nat × Option (List Nat) :=
  match hasL (greatL r) w with
  | true => if st.1 < 99 - r.1.length then (99 - r.1.length, some r.2.2) else if st.1 = 99 - r.1.length ∧ st.2 = some [] then (st.1, some r.2.2) else st
  | false => st
noncomputable def allowL (w : List Nat) (rs : List RuleN) : Option (List Nat) := (rs.foldl (stepL w) (0, none)).2
theorem upC_sg {c : Nat} (h : c = 97 ∨ c = 98) : upC c = 65 ∨ upC c = 66 := by rcases h with rfl | rfl <;> decide
theorem ruleM_sL {w : List Nat} {r : RuleN} (h1 : ∀ c ∈ r.1, c = 97 ∨ c = 98) (h2 : r.2.1 = [97] ∨ r.2.1 = [98]) : ruleM (sL w) r.t = (99 - r.1.length) * if hasL (greatL r) w = true then 1 else 0 := by
  have hab : ∀ c ∈ r.2.1 ++ r.1 ++ r.2.1, c = 97 ∨ c = 98 := fun c hc => by
    have h3 : ∀ c ∈ r.2.1, c = 97 ∨ c = 98 := fun c hc => by rcases h2 with h | h <;> rw [h] at hc <;> simp at hc <;> simp [hc]
    simp only [List.mem_append] at hc
    rcases hc with (hc | hc) | hc
    · exact h3 c hc
    · exact h1 c hc
    · exact h3 c hc
  have sg : Sg (r.2.1 ++ r.1 ++ r.2.1) := fun c hc => by rcases hab c hc with rfl | rfl <;> simp
  have sg2 : Sg ((r.2.1 ++ r.1 ++ r.2.1).map upC) := fun c hc => by
    obtain ⟨d, hd, rfl⟩ := List.mem_map.mp hc
    rcases upC_sg (hab d hd) with h | h <;> simp [h]
  have ha : ruleApp (sL w) r.t = hasL (greatL r) w := by
    unfold ruleApp
    have e : [starS, Txt.upper (r.t.2.1 ++ r.t.1 ++ r.t.2.1)] = [[42], (r.2.1 ++ r.1 ++ r.2.1).map upC].map sL := by
      show [starS, Txt.upper (sL r.2.1 ++ sL r.1 ++ sL r.2.1)] = _
      rw [sL_append, sL_append, upper_sL sg]; rfl
    rw [e, app_sL fun a ha => ?_]
    · unfold appL greatL
      rw [List.any_cons, List.any_cons, List.any_nil, List.map_map]
      have hne : ((r.2.1 ++ r.1 ++ r.2.1).map upC != [42]) = true := by
        rcases h2 with h | h <;> rw [h] <;> simp [upC]
      rw [hne]
      simp only [bne_self_eq_false, Bool.false_and, Bool.or_false, Bool.true_and, Bool.false_or]
      rfl
    · simp only [List.mem_cons, List.not_mem_nil, or_false] at ha
      rcases ha with rfl | rfl
      · intro c hc; simp at hc; simp [hc]
      · exact sg2
  unfold ruleM
  rw [ha]
  show (99 - ((sL r.1).length : Int)) * _ = _
  rw [sL_len]
theorem allow_go {w : List Nat} : ∀ (rs : List RuleN) (b : Int) (n : Nat) (o : Option (List Nat)), (∀ r ∈ rs, (∀ c ∈ r.1, c = 97 ∨ c = 98) ∧ (r.2.1 = [97] ∨ r.2.1 = [98]) ∧ r.1.length ≤ 90) → (b = n ∨ (b = -1 ∧ n = 0)) →
    ((rs.map RuleN.t).foldl (alStep (sL w)) (b, o.map sL)).2 = ((rs.foldl (stepL w) (n, o)).2).map sL
  | [], b, n, o, _, _ => rfl
  | r :: rs, b, n, o, h, hb => by
    obtain ⟨h1, h2, h3⟩ := h r List.mem_cons_self
    have hr := fun x hx => h x (List.mem_cons_of_mem _ hx)
    rw [List.map_cons, List.foldl_cons, List.foldl_cons]
    have hm := ruleM_sL (w := w) h1 h2
    cases e : hasL (greatL r) w with
    | false =>
      rw [e] at hm
      have hm0 : ruleM (sL w) r.t = 0 := by rw [hm]; simp
      have e1 : alStep (sL w) (b, o.map sL) r.t = (b, o.map sL) := by unfold alStep; rw [hm0]; rfl
      have e2 : stepL w (n, o) r = (n, o) := by unfold stepL; rw [e]
      rw [e1, e2]
      exact allow_go rs b n o hr hb
    | true =>
      rw [e] at hm
      have hm1 : ruleM (sL w) r.t = ((99 - r.1.length : Nat) : Int) := by rw [hm]; simp; lia
      by_cases hlt : n < 99 - r.1.length
      · have e1 : alStep (sL w) (b, o.map sL) r.t = (((99 - r.1.length : Nat) : Int), (some r.2.2).map sL) := by
          unfold alStep
          rw [hm1, if_pos (by simp; lia), if_pos (by simp; lia)]; rfl
        have e2 : stepL w (n, o) r = (99 - r.1.length, some r.2.2) := by unfold stepL; rw [e]; dsimp only; rw [if_pos hlt]
        rw [e1, e2]
        exact allow_go rs _ _ _ hr (.inl rfl)
      · have hbn : b = n := by
          rcases hb with h | ⟨_, h⟩
          · exact h
          · lia
        subst hbn
        have al : ∀ x : Option (List Nat), (!alTrue (x.map sL)) = true ↔ x = some [] := fun x => by
          cases x with
          | none => simp [alTrue]
          | some v =>
            simp only [Option.map_some, alTrue, sL_len]
            cases v with
            | nil => simp
            | cons a t => simp; lia
        by_cases hc : n = 99 - r.1.length ∧ o = some []
        · have e1 : alStep (sL w) ((n : Int), o.map sL) r.t = ((n : Int), (some r.2.2).map sL) := by
            unfold alStep
            rw [hm1, if_pos (by simp; lia), if_neg (by simp; lia), if_pos]
            · rfl
            · rw [Bool.and_eq_true]
              exact ⟨by simp; lia, (al o).mpr hc.2⟩
          have e2 : stepL w (n, o) r = (n, some r.2.2) := by unfold stepL; rw [e]; dsimp only; rw [if_neg hlt, if_pos hc]
          rw [e1, e2]
          exact allow_go rs _ _ _ hr (.inl rfl)
        · have e1 : alStep (sL w) ((n : Int), o.map sL) r.t = ((n : Int), o.map sL) := by
            unfold alStep
            rw [hm1, if_pos (by simp; lia), if_neg (by simp; lia), if_neg]
            rw [Bool.and_eq_true]
            rintro ⟨h4, h5⟩
            exact hc ⟨by simp at h4; lia, (al o).mp h5⟩
          have e2 : stepL w (n, o) r = (n, o) := by unfold stepL; rw [e]; dsimp only; rw [if_neg hlt, if_neg hc]
          rw [e1, e2]
          exact allow_go rs _ _ _ hr (.inl rfl)
theorem allow_sL {w : List Nat} {rs : List RuleN} (h : ∀ r ∈ rs, (∀ c ∈ r.1, c = 97 ∨ c = 98) ∧ (r.2.1 = [97] ∨ r.2.1 = [98]) ∧ r.1.length ≤ 90) : allowS (sL w) (rs.map RuleN.t) = (allowL w rs).map sL :=
  allow_go rs (-1) 0 none h (.inr ⟨rfl, rfl⟩)
end
section
open PySem PySem.W PySem.Calls PyProof.Rows PySem.Builtin PySem.Builtin.ObjectAttr
noncomputable def verdW (Dt : List (List Nat)) : List (List Nat) := Dt.map fun n => [98] ++ n ++ [98]
noncomputable def verdictD : D → D
  | .rule _ _ v => v
  | d => d
section
variable {C : Cx} {k : Nat} {sc : Scope} {ρ : Asn} {Pn : Asn → Prop} {Pr : D → Prop}
theorem addSL {a b : List Nat} (h : a.length + b.length ≤ 100000) : Op2 C k (binaryOp .Add) (.str (sL a)) (.str (sL b)) (.str (sL (a ++ b))) := by
  have := Op2.addS (C := C) (k := k) (x := sL a) (y := sL b) (by rw [sL_len, sL_len, sizeLine_eq]; lia)
  rwa [sL_append] at this
theorem t18 (H : Hd C) {Dt : List (List Nat)} (hD : Dt.length ≤ 200) (hn : ∀ n ∈ Dt, n.length ≤ 100) (h0 : ρ.get i_dots = some (.strs Dt)) : LW C ρ lt18.1 fun r => r = (i_verdicts, .strs (verdW Dt)) :: ρ := by
  refine' Ex1.assignCompMap (i := i_verdicts) Dt (fun n => [(i_name, .str (sL n))]) (fun n => .str (sL ([98] ++ n ++ [98]))) [] rfl (ItE.strsL rfl (Ev.name rfl h0)) (Sees.of [] ?sees fr_nil) ?loc ?el ?sz rfl ?cast ?sw
  case sees => decide +kernel
  case loc => intro c _ p hp; rcases List.mem_singleton.mp hp with rfl; rfl
  case sz => rw [sizeLine_eq]; lia
  case el =>
    intro n hn'
    have := hn n hn'
    exact Ev.bin (Ev.bin (Ev.str : Ev C 30 _ _ _ (.str (sL [98]))) (Ev.name (i := i_name) (d := .str (sL n)) rfl (by walk_at "lk")) (addSL (by simp; lia))) (Ev.str : Ev C 30 _ _ _ (.str (sL [98]))) (addSL (by simp; lia))
  case cast => rw [strs_map]; unfold verdW; rw [List.map_map]; rfl
  case sw => walk_at "swp"
theorem verd1 (E : List (List Nat)) : (rules1 E).map verdictD = (E.map sL).map .str := by
  unfold rules1
  rw [List.map_map]
  refine List.map_congr_left fun x hx => ?_
  obtain ⟨n, _, rfl⟩ := List.mem_map.mp hx
  show D.str (sL [] ++ sL n ++ sL []) = _
  rw [sL_append, sL_append]; simp
theorem verd2 (Dt : List (List Nat)) : (rules2 Dt).map verdictD = ((verdW Dt).map sL).map .str := by
  unfold rules2 verdW
  rw [List.map_map, List.map_map, List.map_map, List.map_map]
  refine List.map_congr_left fun n _ => ?_
  show D.str (sL [98] ++ sL n ++ sL [98]) = _
  rw [sL_append, sL_append]; rfl
theorem rules_are {E Dt : List (List Nat)} : ∀ d ∈ (rules1 E ++ rules2 Dt) ++ (rules2 Dt ++ rules1 E), ∃ n s v, d = .rule n s v := fun d hd => by
  have h1 : ∀ d ∈ rules1 E, ∃ n s v, d = D.rule n s v := fun d hd => by obtain ⟨n, _, rfl⟩ := List.mem_map.mp hd; exact ⟨_, _, _, rfl⟩
  have h2 : ∀ d ∈ rules2 Dt, ∃ n s v, d = D.rule n s v := fun d hd => by obtain ⟨n, _, rfl⟩ := List.mem_map.mp hd; exact ⟨_, _, _, rfl⟩
  rcases List.mem_append.mp hd with h | h <;> rcases List.mem_append.mp h with h | h
  · exact h1 d h
  · exact h2 d h
  · exact h2 d h
  · exact h1 d h
theorem t19 (H : Hd C) {E Dt : List (List Nat)} {t : Nat} (hE : E.length ≤ 200) (hD : Dt.length ≤ 200) (oE : Oct E) (oD : Oct Dt) (h0 : ρ.get i_one = some (oneD E Dt t)) (h1 : ρ.get i_two = some (twoD E Dt t)) (h2 : ρ.get i_ends = some (.strs E)) (h3 : ρ.get i_verdicts = some (.strs (verdW Dt))) :
    LW C ρ lt19.1 fun r => r = ρ := by
  have EK := entK H
  have hv : (verdW Dt).length = Dt.length := by simp [verdW]
  have z1 : (rules1 E).length = E.length := by simp [rules1]
  have z2 : (rules2 Dt).length = Dt.length := by simp [rules2]
  have oV : Oct (verdW Dt) := fun w hw c hc => by
    obtain ⟨n, hn, rfl⟩ := List.mem_map.mp hw
    simp only [List.mem_append, List.mem_singleton] at hc
    rcases hc with (rfl | hc) | rfl
    · decide
    · exact oD n hn c hc
    · decide
  have eq : D.list (((rules1 E ++ rules2 Dt) ++ (rules2 Dt ++ rules1 E)).map verdictD) = .strs (E ++ verdW Dt ++ verdW Dt ++ E) := by
    simp only [List.map_append, verd1, verd2, D.strs, List.append_assoc]
  refine' Ex1.skip (Tst.cmp (Ev.compMap ((rules1 E ++ rules2 Dt) ++ (rules2 Dt ++ rules1 E)) (fun d => [(i_rule, d)]) verdictD [] (ItE.listN rfl (Ev.bin (Ev.attr (Ev.name rfl h0) (AttrR.entry EK EK.f2 (.inr (.inl ⟨rfl, rfl⟩)))) (Ev.attr (Ev.name rfl h1) (AttrR.entry EK EK.f2 (.inr (.inl ⟨rfl, rfl⟩)))) (Op2.addL ?za))) (Sees.of [] ?s1 fr_nil) ?l1 ?e1 ?z1)
    (Ev.bin (Ev.bin (Ev.bin (Ev.name rfl h2) (Ev.name rfl h3) (addStrs (by lia))) (Ev.name rfl h3) (addStrs ?zb)) (Ev.name rfl h2) (addStrs ?zc)) (Op2.neC' (e := .strs (E ++ verdW Dt ++ verdW Dt ++ E)) ?cm eq) rfl)
  case za => rw [sizeLine_eq]; simp only [List.length_append]; lia
  case zb => simp only [List.length_append]; lia
  case zc => simp only [List.length_append]; lia
  case s1 => decide +kernel
  case l1 => intro c _ p hp; rcases List.mem_singleton.mp hp with rfl; rfl
  case z1 => rw [sizeLine_eq]; simp only [List.length_append]; lia
  case e1 =>
    intro d hd
    obtain ⟨n, s, v, rfl⟩ := rules_are d hd
    exact Ev.attr (Ev.name (i := i_rule) (d := .rule n s v) rfl (by walk_at "lk")) AttrR.rule
  case cm =>
    rw [eq]
    refine Cmp.strs (n := 58) fun w hw => ?_
    simp only [List.mem_append] at hw
    rcases hw with ((h | h) | h) | h
    · exact oE w h
    · exact oV w h
    · exact oV w h
    · exact oE w h
end
noncomputable def partD : D → D
  | .entry a (.list r) x y => .list [a, .int r.length, x, y]
  | d => d
section
variable {C : Cx} {k : Nat} {sc : Scope} {ρ : Asn} {Pn : Asn → Prop} {Pr : D → Prop}
theorem two {t : Nat} (h : t < 2) : t = 0 ∨ t = 1 := by lia
theorem t20 (H : Hd C) {E Dt : List (List Nat)} {t : Nat} (ht : t < 2) (h0 : ρ.get i_one = some (oneD E Dt t)) (h1 : ρ.get i_two = some (twoD E Dt t)) (h2 : ρ.get i_turn = some (.int t)) : LW C ρ lt20.1 fun r => r = ρ := by
  have EK := entK H
  unfold lt20
  with_reducible refine Ex1.skip ?t
  with_reducible refine Tst.cmp (d1 := .list [pickD (markD t 0) (markD t 2), pickD (markD t 1) (markD t 3), pickD (markD t 2) (markD t 0), pickD (markD t 3) (markD t 1)]) (d2 := if t = 0 then .list [.int 9, .int 0, .int 0, .int 0] else .list [.int 0, .int 0, .int 0, .int 5]) ?qa ?qb ?qc ?qd
  case qd => rfl
  case qa =>
    refine Ev.list (EvL.cons (Ev.attr (Ev.name rfl h0) (AttrR.entry EK EK.f3 (.inr (.inr (.inl ⟨rfl, rfl⟩))))) (EvL.cons (Ev.attr (Ev.name rfl h0) (AttrR.entry EK EK.f4 (.inr (.inr (.inr ⟨rfl, rfl⟩))))) (EvL.cons (Ev.attr (Ev.name rfl h1) (AttrR.entry EK EK.f3 (.inr (.inr (.inl ⟨rfl, rfl⟩))))) (EvL.cons (Ev.attr (Ev.name rfl h1) (AttrR.entry EK EK.f4 (.inr (.inr (.inr ⟨rfl, rfl⟩))))) .nil)))) (by show 4 ≤ sizeLine; decide)
  case qb =>
    with_reducible refine ev_marks (d1 := .int 9) (d2 := .int 0) (d3 := .int 0) (d4 := .int 0) (d5 := .int 0) (d6 := .int 0) (d7 := .int 0) (d8 := .int 5) (t := t) ?a ?b ?c ?d
    case b => exact Ev.name rfl h2
    case c => rcases two ht with rfl | rfl <;> rfl
    case d => intro _ _; rfl
    case a =>
      with_reducible refine Ev.list ?l ?z
      case z => rw [sizeLine_eq]; simp
      case l =>
       with_reducible refine EvL.cons ?x (EvL.cons ?y .nil ?s2) ?s1
       case s1 => intro _; rfl
       case s2 => intro _; rfl
       case x =>
        with_reducible refine Ev.list ?l ?z
        case z => rw [sizeLine_eq]; simp
        case l => exact EvL.cons Ev.int (EvL.cons Ev.int (EvL.cons Ev.int (EvL.cons Ev.int .nil)))
       case y =>
        with_reducible refine Ev.list ?l ?z
        case z => rw [sizeLine_eq]; simp
        case l => exact EvL.cons Ev.int (EvL.cons Ev.int (EvL.cons Ev.int (EvL.cons Ev.int .nil)))
  case qc =>
    rcases two ht with rfl | rfl
    · exact Op2.neC' (Cmp.list (n := 59) fun d hd => by
        simp only [List.mem_cons, List.not_mem_nil, or_false] at hd
        rcases hd with rfl | rfl | rfl | rfl <;> exact .int) rfl
    · exact Op2.neC' (Cmp.list (n := 59) fun d hd => by
        simp only [List.mem_cons, List.not_mem_nil, or_false] at hd
        rcases hd with rfl | rfl | rfl | rfl <;> exact .int) rfl
noncomputable abbrev part1 (E : List (List Nat)) (t : Nat) : D := .list [.strs (agents1 E), .int (rules1 E).length, markD t 0, markD t 1]
noncomputable abbrev part2' (Dt : List (List Nat)) (t : Nat) : D := .list [.strs (agents2 Dt (starL t)), .int (rules2 Dt).length, markD t 2, markD t 3]
noncomputable abbrev pks21 {t} {e g s p1 p2} : PickE Scope (Stmt.Assign t (Expr.ListComp e g s p1) p2) := s
noncomputable abbrev s21 : Scope := by change PickE Scope lt21.1; exact pks21
noncomputable abbrev pk21 {t} {e g s p1 p2} : PickE Expr (Stmt.Assign t (Expr.ListComp e g s p1) p2) := e
noncomputable abbrev e21 : Expr := by change PickE Expr lt21.1; exact pk21
theorem t21 (H : Hd C) {E Dt : List (List Nat)} {t : Nat} (hE : E.length ≤ 200) (hD : Dt.length ≤ 200) (h0 : ρ.get i_first = some (firstD E t)) (h1 : ρ.get i_second = some (secondD Dt t)) : LW C ρ lt21.1 fun r => r = (i_behind, .list [part1 E t, part2' Dt t]) :: ρ := by
  have EK := entK H
  have z1 : (rules1 E).length = E.length := by simp [rules1]
  have z2 : (rules2 Dt).length = Dt.length := by simp [rules2]
  refine' Ex1.assignCompMap (i := i_behind) [firstD E t, secondD Dt t] (fun d => [(i_part, d)]) partD [] rfl (ItE.listN rfl (Ev.list (EvL.cons (Ev.name rfl h0) (EvL.cons (Ev.name rfl h1) .nil)) (by show 2 ≤ sizeLine; decide))) (Sees.of [] ?sees fr_nil) ?loc ?el ?sz rfl rfl ?sw
  case sees => decide +kernel
  case loc => intro c _ p hp; rcases List.mem_singleton.mp hp with rfl; rfl
  case sz => show 2 ≤ sizeLine; decide
  case el =>
    have main : ∀ a r x y, r.length < 2 ^ 62 → Ev C 30 (relabelS s21 lawSc) ([(i_part, .entry a (.list r) x y)] ++ []) e21 (.list [a, .int r.length, x, y]) := fun a r x y hr =>
      Ev.list (EvL.cons (Ev.attr (Ev.name (i := i_part) rfl (by walk_at "lk")) (AttrR.entry EK EK.f1 (.inl ⟨rfl, rfl⟩))) (EvL.cons (Ev.call (x := Str.ofString "len") rfl (gb_len H) (.inl ⟨_, rfl⟩) (EvL.cons (Ev.attr (Ev.name (i := i_part) rfl (by walk_at "lk")) (AttrR.entry EK EK.f2 (.inr (.inl ⟨rfl, rfl⟩)))) .nil) (CallR.len_list hr)) (EvL.cons (Ev.attr (Ev.name (i := i_part) rfl (by walk_at "lk")) (AttrR.entry EK EK.f3 (.inr (.inr (.inl ⟨rfl, rfl⟩))))) (EvL.cons (Ev.attr (Ev.name (i := i_part) rfl (by walk_at "lk")) (AttrR.entry EK EK.f4 (.inr (.inr (.inr ⟨rfl, rfl⟩))))) .nil)))) (by show 4 ≤ sizeLine; decide)
    intro d hd
    rcases List.mem_cons.mp hd with rfl | hd
    · exact main _ _ _ _ (by omega)
    · rw [List.mem_singleton.mp hd]; exact main _ _ _ _ (by omega)
  case sw => walk_at "swp"
end
theorem joined_rep (v : Value) : ∀ n : Nat, List.foldl (fun (x1 x2 : Array Value) => x1 ++ x2) #[] (List.replicate n #[v]) = (List.replicate n v).toArray := by
  have : ∀ (n : Nat) (acc : Array Value), List.foldl (fun (x1 x2 : Array Value) => x1 ++ x2) acc (List.replicate n #[v]) = acc ++ (List.replicate n v).toArray := by
    intro n
    induction n with
    | zero => intro acc; simp
    | succ n ih => intro acc; rw [List.replicate_succ, List.foldl_cons, ih, List.replicate_succ]; apply Array.ext'; simp
  intro n
  rw [this]; simp
theorem sliceL_hi (ds : List D) (b : Nat) : sliceL ds Option.none (some (b : Int)) Option.none = ds.take b := by
  have := sliceL_mid ds 0 b
  rw [List.drop_zero] at this
  rw [← this]
  unfold sliceL
  rw [sliceBounds_plain, sliceBounds_plain]
  have h0 : clipAt ds.length 0 = 0 := by have := clipAt_nat ds.length 0; simpa using this
  simp [clipAt_nat, h0]
section
variable {C : Cx} {k : Nat} {sc : Scope} {ρ : Asn} {Pn : Asn → Prop} {Pr : D → Prop}
theorem Op2.mulL1 {d : D} {n : Nat} (hn : n ≤ 10) : Op2 C k (binaryOp .Mult) (.list [d]) (.int n) (.list (List.replicate n d)) := fun A V s v1 v2 hr S r1 r2 => by
  refine hid fun G hG => ?_
  obtain ⟨b, vs, rfl, hb, hs⟩ := r1.inv_list
  obtain ⟨v, vs', rfl, rv, rs⟩ := hs.inv_cons
  obtain rfl := rs.inv_nil
  obtain ⟨u, rfl⟩ := r2.is
  obtain ⟨⟨cls, dd, data, sl⟩, ho, hc, m, hd⟩ := hb.isList S
  refine hG ?_
  simp only at hc hd
  subst hc hd
  have hz : (#[v] : Array Value).size * (n : Int).toNat ≤ 10 := by
    show 1 * (n : Int).toNat ≤ 10
    lia
  have h1 : (!Builtin.List.listFitsIndex (n : Int)) = false := by simp [Builtin.List.listFitsIndex]; lia
  have h2 : Builtin.List.listTooLong ((#[v] : Array Value).size * (n : Int).toNat) = false := by
    generalize (#[v] : Array Value).size * (n : Int).toNat = z at *
    unfold Builtin.List.listTooLong
    rw [sizeLine_eq]
    exact decide_eq_false (by lia)
  have h3 : ¬ (#[v] : Array Value).size * (n : Int).toNat > (2 ^ 63 - 1) / 8 := by
    generalize (#[v] : Array Value).size * (n : Int).toNat = z at *
    lia
  with_reducible (have ML := lm_list_mul_any b #[v] m dd sl (n : Int) u (by rw [h1]; exact Bool.false_ne_true) h3 (by rw [h2]; exact Bool.false_ne_true))
  refine .of_new S fun E Q q => ?_
  have key : wpAny (model C.prog C.w) A (call (.builtin "list.__mul__") [.ref b, .int n u]) Q E s := by
    with_reducible refine call_meets F.slot_list_mul ?x F.entry_list_mul (F.args_list_mul_2 _ _) ML ?y
    case x => exact ⟨_, ho, rfl⟩
    case y =>
      with_reducible refine ⟨ho, ?_⟩
      show Q _ _
      with_reducible refine q (.ref s.heap.objs.size) _ s.toks (fun b o e => Heap.get?_push_of_some _ e) ?_
      have mono : VLe V (grow V s.heap (s.heap.push { cls := .type "list", data := .seq (List.foldl (fun x1 x2 => x1 ++ x2) #[] (List.replicate (if (#[v] : Array Value).isEmpty = true then 0 else (n : Int).toNat) #[v])) })) := fun a o e => by rw [grow_old (S.sub a o e)]; exact e
      refine Reps.list (vs := List.replicate n v) (.of (n := 0) ?_) ?_
      · rw [grow_new get_size, Heap.get?_push_size _ rfl]
        show some (listO _ 0) = _
        rw [if_neg (by simp), joined_rep]; simp
      · refine ⟨by simp, fun i x y hx hy => ?_⟩
        rw [List.getElem?_replicate] at hx hy
        split at hx
        · cases hx
          rename_i hi
          rw [if_pos hi] at hy
          cases hy
          exact rv.mono mono
        · cases hx
  exact wpAny_binaryOp_repeat_ref (T := "list") (U := "int") (by decide) ⟨_, ho, rfl⟩ (fun s' => typeIs_int s' n u) noFill_list_mul F.fills_int_mul F.slot_int_rmul repeat_list F.slot_int_index.lookup
    (call_meets F.slot_int_rmul (typeIs_int s n u) F.entry_int_rmul (F.args_int_rmul_2 _ _) (lm_int_rmul_list_any n u b #[v] m dd sl)
      ⟨ho, rfl, ⟨_, ho, rfl⟩, key⟩)
theorem Ev.hiL {e u : Expr} {p pos : Pos} {ds : List D} {n : Nat} (he : Ev C k sc ρ e (.list ds)) (hu : Ev C k sc ρ u (.int n)) (hz : ds.length ≤ 2 ^ 20) : Ev C k sc ρ (.Subscript e (.Slice Option.none (some u) Option.none p) pos) (.list (ds.take n)) := by
  refine Ev.cast (Ev.slice he .none (.some hu) .none (by show "list" ≠ "?"; decide) F.slot_list_getitem.lookup (SlR.list (by simp) hz)) ?_
  rw [sliceL_hi]
theorem marks_len {t : Nat} (ht : t < 2) : (marksD t).length = 4 := by rcases two ht with rfl | rfl <;> rfl
theorem t22 (H : Hd C) {E Dt : List (List Nat)} {t : Nat} (ht : t < 2) (hE : E.length ≤ 200) (hD : Dt.length ≤ 200) (oE : Oct E) (oD : Oct Dt) (h0 : ρ.get i_behind = some (.list [part1 E t, part2' Dt t])) (h1 : ρ.get i_ends = some (.strs E)) (h2 : ρ.get i_dots = some (.strs Dt)) (h3 : ρ.get i_star = some (.strs (starL t))) (h4 : ρ.get i_marks = some (.list (marksD t))) :
    LW C ρ lt22.1 fun r => r = ρ := by
  have hs := star_len t
  have hm := marks_len ht
  have z1 : (rules1 E).length = E.length := by simp [rules1]
  have z2 : (rules2 Dt).length = Dt.length := by simp [rules2]
  unfold lt22
  with_reducible refine Ex1.skip ?t
  with_reducible refine Tst.cmp (d1 := .list [part1 E t, part2' Dt t]) (d2 := .list [.list ([.strs (agents1 E), .int E.length] ++ (marksD t).take 2), .list ([.strs (agents2 Dt (starL t)), .int Dt.length] ++ (marksD t).drop 2)]) ?qa ?qb ?qc ?qd
  case qd => rfl
  case qa => exact Ev.name rfl h0
  case qc =>
    refine Op2.neC' (Cmp.list (n := 59) fun d hd => ?_) ?_
    · have hm : ∀ i, Cmp 58 (markD t i) := fun i => by
        rcases two ht with rfl | rfl
        · rcases i with _ | _ | _ | _ | i
          · exact .int
          · exact .none
          · exact .int
          · exact .int
          · exact .none
        · rcases i with _ | _ | _ | _ | i
          · exact .none
          · exact .int
          · exact .int
          · exact .int
          · exact .none
      have oS : Oct (starL t) := fun w hw c hc => by
        have := List.mem_of_mem_drop hw
        rw [List.mem_singleton.mp this] at hc
        rw [List.mem_singleton.mp hc]; decide
      simp only [List.mem_cons, List.not_mem_nil, or_false] at hd
      rcases hd with rfl | rfl
      · refine Cmp.list (n := 58) fun d hd => ?_
        simp only [List.mem_cons, List.not_mem_nil, or_false] at hd
        rcases hd with rfl | rfl | rfl | rfl
        · refine Cmp.strs (n := 56) fun w hw => ?_
          simp only [agents1, List.mem_cons] at hw
          rcases hw with rfl | rfl | hw
          · decide
          · decide
          · exact oE w hw
        · exact .int
        · exact hm 0
        · exact hm 1
      · refine Cmp.list (n := 58) fun d hd => ?_
        simp only [List.mem_cons, List.not_mem_nil, or_false] at hd
        rcases hd with rfl | rfl | rfl | rfl
        · refine Cmp.strs (n := 56) fun w hw => ?_
          simp only [agents2, List.mem_append, List.mem_singleton] at hw
          rcases hw with (hw | hw) | rfl
          · exact oD w hw
          · exact oS w hw
          · decide
        · exact .int
        · exact hm 2
        · exact hm 3
    · rw [part1, part2', z1, z2]
      rcases two ht with rfl | rfl <;> rfl
  case qb =>
    with_reducible refine Ev.list ?l ?z
    case z => show 2 ≤ sizeLine; decide
    case l =>
      with_reducible refine EvL.cons ?x (EvL.cons ?y .nil ?s2) ?s1
      case s1 => intro _; rfl
      case s2 => intro _; rfl
      case x =>
        with_reducible refine Ev.bin (d1 := .list [.strs (agents1 E), .int E.length]) (d2 := .list ((marksD t).take 2)) ?u ?v ?w
        case v => exact Ev.hiL (n := 2) (Ev.name rfl h4) Ev.int (by rw [hm]; decide)
        case w => exact Op2.addL (by rw [sizeLine_eq]; simp; lia)
        case u =>
          with_reducible refine Ev.list ?l ?z
          case z => show 2 ≤ sizeLine; decide
          case l =>
            exact EvL.cons (Ev.bin (Ev.list (EvL.cons Ev.str (EvL.cons Ev.str .nil)) (by show 2 ≤ sizeLine; decide)) (Ev.name rfl h1) (addStrs (xs := [[42], [65, 98]]) (by simp; lia))) (EvL.cons (Ev.cast (Ev.call (x := Str.ofString "len") rfl (gb_len H) (.inl ⟨_, rfl⟩) (EvL.cons (Ev.name rfl h1) .nil) (CallR.len_list (by simp; lia))) (by simp)) .nil)
      case y =>
        with_reducible refine Ev.bin (d1 := .list [.strs (agents2 Dt (starL t)), .int Dt.length]) (d2 := .list ((marksD t).drop 2)) ?u ?v ?w
        case v => exact Ev.fromL (n := 2) (Ev.name rfl h4) Ev.int (by rw [hm]; decide)
        case w => exact Op2.addL (by rw [sizeLine_eq]; simp; lia)
        case u =>
          with_reducible refine Ev.list ?l ?z
          case z => show 2 ≤ sizeLine; decide
          case l =>
            exact EvL.cons (Ev.bin (Ev.bin (Ev.name rfl h2) (Ev.name rfl h3) (addStrs (by lia))) (Ev.list (EvL.cons Ev.str .nil) (by show 1 ≤ sizeLine; decide)) (addStrs (ys := [[97, 66]]) (by simp; lia))) (EvL.cons (Ev.cast (Ev.call (x := Str.ofString "len") rfl (gb_len H) (.inl ⟨_, rfl⟩) (EvL.cons (Ev.name rfl h2) .nil) (CallR.len_list (by simp; lia))) (by simp)) .nil)
end
theorem up_low {w : List Nat} (h : AB w) : (w.map upC).map lowC = w := by
  rw [List.map_map]
  refine (List.map_congr_left fun c hc => ?_).trans (List.map_id w)
  rcases h c hc with rfl | rfl <;> rfl
theorem AB.sg {w : List Nat} (h : AB w) : Sg w := fun c hc => by rcases h c hc with rfl | rfl <;> simp
theorem low_AB {w : List Nat} (h : AB w) : w.map lowC = w := by
  refine (List.map_congr_left fun c hc => ?_).trans (List.map_id w)
  rcases h c hc with rfl | rfl <;> rfl
theorem up_Sg {w : List Nat} (h : AB w) : Sg (w.map upC) := fun c hc => by
  obtain ⟨d, hd, rfl⟩ := List.mem_map.mp hc
  rcases h d hd with rfl | rfl <;> simp [upC]
noncomputable def U1 (E Dt : List (List Nat)) (t : Nat) : List (List Nat) := bothW (agents1 E) (agents2 Dt (starL t))
noncomputable def U2 (E Dt : List (List Nat)) (t : Nat) : List (List Nat) := bothW (agents2 Dt (starL t)) (agents1 E)
noncomputable def Names (l : List (List Nat)) : Prop := ∀ w ∈ l, AB w ∧ w.length ≤ 90
theorem sg_agents1 {E : List (List Nat)} (h : Names E) : ∀ a ∈ agents1 E, Sg a ∧ a.length ≤ 90 := fun a ha => by
  simp only [agents1, List.mem_cons] at ha
  rcases ha with rfl | rfl | ha
  · exact ⟨by intro c hc; simp at hc; simp [hc], by decide⟩
  · exact ⟨by intro c hc; simp at hc; rcases hc with rfl | rfl <;> simp, by decide⟩
  · exact ⟨(h a ha).1.sg, (h a ha).2⟩
theorem sg_agents2 {Dt : List (List Nat)} {t : Nat} (h : Names Dt) : ∀ a ∈ agents2 Dt (starL t), Sg a ∧ a.length ≤ 90 := fun a ha => by
  simp only [agents2, List.mem_append, List.mem_singleton] at ha
  rcases ha with (ha | ha) | rfl
  · exact ⟨(h a ha).1.sg, (h a ha).2⟩
  · have := List.mem_of_mem_drop ha
    rw [List.mem_singleton.mp this]
    exact ⟨by intro c hc; simp at hc; simp [hc], by decide⟩
  · exact ⟨by intro c hc; simp at hc; rcases hc with rfl | rfl <;> simp, by decide⟩
theorem slash_free {w : List Nat} (h : Sg w) : 47 ∉ w := fun q => by rcases h 47 q with h | h | h | h | h <;> cases h
section
variable {C : Cx} {k : Nat} {sc : Scope} {ρ : Asn} {Pn : Asn → Prop} {Pr : D → Prop}
theorem applM (H : Hd C) {d2 d3 d4 : D} {ags : List (List Nat)} {u v rest : List Nat} (hs : splitL 47 u = v :: [rest]) (hv : Sg v) (hu : u.length ≤ 1000) (hg : ∀ a ∈ ags, Sg a ∧ a.length ≤ 90) (hl : ags.length ≤ 1000) :
    MethR C (k + 4) (.entry (.strs ags) d2 d3 d4) (Str.ofString "applies_to") [.str (sL u)] (.bool (appL (v.map lowC) ags)) := by
  have EK := entK H
  refine MethR.entry (f := 59) EK (by rw [H.K]; kernel_rfl) (by rw [H.K]; kernel_rfl) (by rw [H.K]; kernel_rfl) (.inl rfl) ?_
  have e0 : Txt.split (sL u) (Str.ofString "/") = [sL v, sL rest] := by
    have := split_sL 47 u
    rw [hs] at this
    exact this
  have hlv : v.length ≤ u.length := (splitL_len 47 u).2 v (by rw [hs]; simp)
  have := appliesStr (C := C) (k := k) (ags := ags.map sL) (u := sL u) (u0 := sL v) (d2 := d2) (d3 := d3) (d4 := d4) H (by rw [e0]; rfl) (by rw [sL_len]; lia) (by rw [sL_len]; lia) (by rw [List.length_map]; lia) (fun a ha => by
    obtain ⟨x, hx, rfl⟩ := List.mem_map.mp ha
    rw [sL_len]; have := (hg x hx).2; lia) (by rw [e0]; show 2 ≤ 2 ^ 20; decide)
  rw [lower_sL hv, app_sL fun a ha => (hg a ha).1] at this
  exact this
theorem t23 (H : Hd C) {E Dt : List (List Nat)} {w : List Nat} {t L : Nat} (hw : w.length ≤ 100) (ha : AB w) (nE : Names E) (nD : Names Dt) (hE : E.length ≤ 200) (hD : Dt.length ≤ 200) (h0 : ρ.get i_one = some (oneD E Dt t)) (h1 : ρ.get i_two = some (twoD E Dt t)) (h2 : ρ.get i_word = some (.str (sL w)))
    (qa : ((U1 E Dt t).any fun a => a == [42]) = decide (t = 0)) (qb : appL (w ++ [42]) (U1 E Dt t) = decide (0 < L)) (qc : appL [] (U2 E Dt t) = decide (L = 2)) :
    LW C ρ lt23.1 fun r => r = (i_asked, .list [.bool (decide (t = 0)), .bool (decide (0 < L)), .bool (decide (L = 2))]) :: ρ := by
  have EK := entK H
  have hs := star_len t
  have g1 : ∀ a ∈ U1 E Dt t, Sg a ∧ a.length ≤ 90 := fun a h => sg_agents1 nE a (List.mem_filter.mp h).1
  have g2 : ∀ a ∈ U2 E Dt t, Sg a ∧ a.length ≤ 90 := fun a h => sg_agents2 nD a (List.mem_filter.mp h).1
  have z1 : (U1 E Dt t).length ≤ 1000 := Nat.le_trans (List.length_filter_le _ _) (by simp [agents1]; lia)
  have z2 : (U2 E Dt t).length ≤ 1000 := Nat.le_trans (List.length_filter_le _ _) (by simp [agents2]; lia)
  have m1 : MethR C 30 (oneD E Dt t) (Str.ofString "applies_to") [.none] (.bool (decide (t = 0))) := by
    refine MethR.entry (f := 59) EK (by rw [H.K]; kernel_rfl) (by rw [H.K]; kernel_rfl) (by rw [H.K]; kernel_rfl) (.inl rfl) ?_
    have := appliesNone (C := C) (k := 26) (ags := (U1 E Dt t).map sL) (d2 := .list (rules1 E ++ rules2 Dt)) (d3 := pickD (markD t 0) (markD t 2)) (d4 := pickD (markD t 1) (markD t 3)) H
    have e : ((U1 E Dt t).map sL).any (fun y => y == starS) = decide (t = 0) := (any_sL (U1 E Dt t) [42]).trans qa
    rw [e] at this
    exact this
  have m2 : MethR C 30 (oneD E Dt t) (Str.ofString "applies_to") [.str (sL (w.map upC ++ [42, 47, 45]))] (.bool (decide (0 < L))) := by
    have hsp : splitL 47 (w.map upC ++ [42, 47, 45]) = (w.map upC ++ [42]) :: [[45]] := by
      have := splitL_cut 47 [45] (w.map upC ++ [42]) (slash_free fun c hc => by
        rcases List.mem_append.mp hc with h | h
        · exact up_Sg ha c h
        · simp at h; simp [h])
      simpa [splitL] using this
    have := applM (k := 26) H (d2 := .list (rules1 E ++ rules2 Dt)) (d3 := pickD (markD t 0) (markD t 2)) (d4 := pickD (markD t 1) (markD t 3)) hsp (fun c hc => by
      rcases List.mem_append.mp hc with h | h
      · exact up_Sg ha c h
      · simp at h; simp [h]) (by simp; lia) g1 z1
    rw [List.map_append, up_low ha] at this
    rw [show ([42].map lowC : List Nat) = [42] from rfl, qb] at this
    exact this
  have m3 : MethR C 30 (twoD E Dt t) (Str.ofString "applies_to") [.str (sL ([47] ++ w))] (.bool (decide (L = 2))) := by
    have hsp : splitL 47 ([47] ++ w) = [] :: [w] := by
      show (if 47 = 47 then [] :: splitL 47 w else _) = _
      rw [if_pos rfl, splitL_free 47 w (slash_free ha.sg)]
    have := applM (k := 26) H (d2 := .list (rules2 Dt ++ rules1 E)) (d3 := pickD (markD t 2) (markD t 0)) (d4 := pickD (markD t 3) (markD t 1)) hsp (fun c hc => by cases hc) (by simp; lia) g2 z2
    rw [show ([].map lowC : List Nat) = [] from rfl, qc] at this
    exact this
  refine' Ex1.assign (i := i_asked) rfl (Ev.list (EvL.cons (Ev.methG (Ev.name rfl h0) m1 (EvL.cons Ev.none .nil)) (EvL.cons (Ev.methG (Ev.name rfl h0) m2 (EvL.cons (Ev.bin (Ev.cast (Ev.upper (Ev.name rfl h2) ?hu) (congrArg D.str (upper_sL ha.sg))) (Ev.str : Ev C 30 _ _ _ (.str (sL [42, 47, 45]))) (addSL ?zu)) .nil)) (EvL.cons (Ev.methG (Ev.name rfl h1) m3 (EvL.cons (Ev.bin (Ev.str : Ev C 30 _ _ _ (.str (sL [47]))) (Ev.name rfl h2) (addSL ?zv)) .nil)) .nil))) (by show 3 ≤ sizeLine; decide)) (.inl rfl) ?sw
  case hu => rw [upper_sL ha.sg, sL_len, sizeLine_eq]; simp; lia
  case zu => simp; lia
  case zv => simp; lia
  case sw => walk_at "swp"
theorem t24 (H : Hd C) {t L : Nat} (h0 : ρ.get i_asked = some (.list [.bool (decide (t = 0)), .bool (decide (0 < L)), .bool (decide (L = 2))])) (h1 : ρ.get i_turn = some (.int t)) (h2 : ρ.get i_least = some (.int L)) : LW C ρ lt24.1 fun r => r = ρ := by
  unfold lt24
  with_reducible refine Ex1.skip ?t
  with_reducible refine Tst.cmp (d1 := .list [.bool true, .bool true, .bool true]) (d2 := .list (List.replicate 3 (.bool true))) ?qa ?qb ?qc ?qd
  case qd => rfl
  case qc => exact Op2.neC' (Cmp.list (n := 59) fun d hd => by
      simp only [List.mem_cons, List.not_mem_nil, or_false, or_self] at hd
      subst hd; exact .bool) rfl
  case qb => exact Ev.bin (Ev.list (EvL.cons Ev.bool .nil) (by show 1 ≤ sizeLine; decide)) Ev.int (Op2.mulL1 (n := 3) (by decide))
  case qa =>
    refine' Ev.cast (Ev.compMap ([D.bool (decide (t = 0)), .bool (decide (0 < L)), .bool (decide (L = 2))].zip [D.bool (decide (t = 0)), .bool (decide (0 < L)), .bool (decide (L = 2))]) (fun d => [(i_right, d.2), (i_answer, d.1)]) (fun _ => .bool true) [] (ItE.zipN rfl rfl rfl (gb_zip H) (Ev.name rfl h0)
      (Ev.list (EvL.cons (Ev.cast (Ev.cmp (Ev.name rfl h1) Ev.int Op2.eqI rfl) ?e1) (EvL.cons (Ev.cast (Ev.cmp (Ev.name rfl h2) Ev.int Op2.gtI rfl) ?e2) (EvL.cons (Ev.cast (Ev.cmp (Ev.name rfl h2) Ev.int Op2.eqI rfl) ?e3) .nil))) (by show 3 ≤ sizeLine; decide))) (Sees.of [] ?s1 fr_nil) ?l1 ?el ?z1) rfl
    case e1 => refine congrArg D.bool ?_; by_cases h : t = 0 <;> simp [h]
    case e2 => refine congrArg D.bool ?_; by_cases h : 0 < L <;> simp [h]
    case e3 => refine congrArg D.bool ?_; by_cases h : L = 2 <;> simp [h]; lia
    case s1 => decide +kernel
    case l1 =>
      intro x _ p hp
      rcases List.mem_cons.mp hp with rfl | hp
      · rfl
      · rcases List.mem_singleton.mp hp with rfl; rfl
    case z1 => show 3 ≤ sizeLine; decide
    case el =>
      intro x hx
      obtain ⟨b, rfl⟩ : ∃ b, x = (D.bool b, D.bool b) := by
        simp only [List.zip_cons_cons, List.zip_nil_right, List.mem_cons, List.not_mem_nil, or_false] at hx
        rcases hx with rfl | rfl | rfl <;> exact ⟨_, rfl⟩
      exact Ev.cast (Ev.cmp (Ev.name (i := i_answer) (d := .bool b) rfl (by walk_at "lk")) (Ev.name (i := i_right) (d := .bool b) rfl (by walk_at "lk")) Op2.isB rfl) (by simp)
end
noncomputable def rn1 (E : List (List Nat)) : List RuleN := E.map fun n => (n, [98], n)
noncomputable def rn2 (Dt : List (List Nat)) : List RuleN := Dt.map fun n => (n, [97], [98] ++ n ++ [98])
theorem rn1_d (E : List (List Nat)) : rules1 E = ((rn1 E).map RuleN.t).map RuleT.d := by
  unfold rules1 rn1
  simp only [List.map_map]
  refine List.map_congr_left fun n _ => ?_
  show D.rule (sL n) (sL [98]) (.str (sL [] ++ sL n ++ sL [])) = D.rule (sL n) (sL [98]) (.str (sL n))
  rw [sL_append, sL_append]; simp
theorem rn2_d (Dt : List (List Nat)) : rules2 Dt = ((rn2 Dt).map RuleN.t).map RuleT.d := by
  unfold rules2 rn2
  simp only [List.map_map]
  refine List.map_congr_left fun n _ => ?_
  show D.rule (sL n) (sL [97]) (.str (sL [98] ++ sL n ++ sL [98])) = D.rule (sL n) (sL [97]) (.str (sL ([98] ++ n ++ [98])))
  rw [sL_append, sL_append]
theorem rn_ok {E Dt : List (List Nat)} (nE : Names E) (nD : Names Dt) : ∀ r ∈ rn1 E ++ rn2 Dt, ((∀ c ∈ r.1, c = 97 ∨ c = 98) ∧ (r.2.1 = [97] ∨ r.2.1 = [98]) ∧ r.1.length ≤ 90) ∧ r.2.2.length ≤ 100 := fun r hr => by
  rcases List.mem_append.mp hr with h | h
  · obtain ⟨n, hn, rfl⟩ := List.mem_map.mp h
    exact ⟨⟨(nE n hn).1, .inr rfl, (nE n hn).2⟩, by have := (nE n hn).2; show n.length ≤ 100; lia⟩
  · obtain ⟨n, hn, rfl⟩ := List.mem_map.mp h
    exact ⟨⟨(nD n hn).1, .inl rfl, (nD n hn).2⟩, by have := (nD n hn).2; show ([98] ++ n ++ [98]).length ≤ 100; simp; lia⟩
noncomputable def due1 (l : List Nat) : List Nat := if l = [] then [98, 98] else l
noncomputable def due2 (l : List Nat) : List Nat := [98] ++ l ++ [98]
noncomputable def toldD (o : Option (List Nat)) : D := alD (o.map sL)
section
variable {C : Cx} {k : Nat} {sc : Scope} {ρ : Asn} {Pn : Asn → Prop} {Pr : D → Prop}
theorem allowM (H : Hd C) {d1 d3 d4 : D} {rs : List RuleN} {w : List Nat} (ha : AB w) (hw : w.length ≤ 100) (hr : ∀ r ∈ rs, ((∀ c ∈ r.1, c = 97 ∨ c = 98) ∧ (r.2.1 = [97] ∨ r.2.1 = [98]) ∧ r.1.length ≤ 90) ∧ r.2.2.length ≤ 100) :
    MethR C (k + 9) (.entry d1 (.list ((rs.map RuleN.t).map RuleT.d)) d3 d4) (Str.ofString "allowance") [.str (sL w)] (toldD (allowL w rs)) := by
  have EK := entK H
  refine MethR.entry (f := 66) EK (by rw [H.K]; kernel_rfl) (by rw [H.K]; kernel_rfl) (by rw [H.K]; kernel_rfl) (.inr rfl) ?_
  have e0 : Txt.split (sL w) (Str.ofString "/") = [sL w] := by
    have := split_sL 47 w
    rw [splitL_free 47 w (slash_free ha.sg)] at this
    exact this
  have := allowance (C := C) (k := k) (rs := rs.map RuleN.t) (f := sL w) (u0 := sL w) (d1 := d1) (d3 := d3) (d4 := d4) H (by rw [e0]; rfl) (by rw [sL_len]; lia) (by rw [sL_len]; lia) (by rw [e0]; show 1 ≤ 2 ^ 20; decide) (fun r h => by
    refine hid fun G hG => ?_
    obtain ⟨x, hx, rfl⟩ := List.mem_map.mp h
    obtain ⟨⟨_, h2, h3⟩, h4⟩ := hr x hx
    refine hG ?_
    refine ⟨?_, ?_, ?_⟩
    · show (sL x.1).length ≤ 1000; rw [sL_len]; lia
    · show (sL x.2.1).length ≤ 100; rw [sL_len]; rcases h2 with h | h <;> rw [h] <;> decide
    · show (sL x.2.2).length ≤ 2000; rw [sL_len]; lia)
  rw [lower_sL ha.sg, low_AB ha, allow_sL fun r h => (hr r h).1] at this
  exact this
theorem t25 (H : Hd C) {E Dt : List (List Nat)} {w l : List Nat} {t : Nat} (hw : w.length ≤ 100) (hl : l.length ≤ 100) (ha : AB w) (nE : Names E) (nD : Names Dt) (h0 : ρ.get i_one = some (oneD E Dt t)) (h1 : ρ.get i_two = some (twoD E Dt t)) (h2 : ρ.get i_word = some (.str (sL w))) (h3 : ρ.get i_mirror = some (.str (sL w.reverse))) (h4 : ρ.get i_line = some (.str (sL l))) :
    LW C ρ lt25.1 fun r => r = (i_told, .list [toldD (allowL w (rn1 E ++ rn2 Dt)), toldD (allowL w.reverse (rn2 Dt ++ rn1 E))]) :: (i_due, .strs [due1 l, due2 l]) :: ρ := by
  have m1 := allowM (C := C) (k := 21) H (d1 := .strs (U1 E Dt t)) (d3 := pickD (markD t 0) (markD t 2)) (d4 := pickD (markD t 1) (markD t 3)) ha hw (rn_ok nE nD)
  have m2 := allowM (C := C) (k := 21) H (d1 := .strs (U2 E Dt t)) (d3 := pickD (markD t 2) (markD t 0)) (d4 := pickD (markD t 3) (markD t 1)) ha.rev (by simpa using hw) (rs := rn2 Dt ++ rn1 E) (fun r hr => rn_ok nE nD r (by
    rcases List.mem_append.mp hr with h | h
    · exact List.mem_append_right _ h
    · exact List.mem_append_left _ h))
  rw [List.map_append, List.map_append, ← rn1_d, ← rn2_d] at m1 m2
  have hne : (Str.ofString "bb" : PySem.Str) = sL [98, 98] := rfl
  refine' Ex1.pairSw (i := i_told) (j := i_due) rfl rfl (Ev.tuple (EvL.cons (Ev.list (EvL.cons (Ev.methG (Ev.name rfl h0) m1 (EvL.cons (Ev.name rfl h2) .nil)) (EvL.cons (Ev.methG (Ev.name rfl h1) m2 (EvL.cons (Ev.name rfl h3) .nil)) .nil)) (by show 2 ≤ sizeLine; decide)) (EvL.cons
    (Ev.list (EvL.cons (Ev.cast (Ev.or2 (Ev.name rfl h4) (Tr.str (by rw [sL_len]; lia)) (fun _ => (Ev.str : Ev C 30 _ _ _ (.str (sL [98, 98]))))) ?c1) (EvL.cons (Ev.bin (Ev.bin (Ev.str : Ev C 30 _ _ _ (.str (sL [98]))) (Ev.name rfl h4) (addSL (by simp; lia))) (Ev.str : Ev C 30 _ _ _ (.str (sL [98]))) (addSL (by simp; lia))) .nil)) (by show 2 ≤ sizeLine; decide)) .nil)) (by show 2 ≤ sizeLine; decide)) rfl rfl ?hs ?hw
  case c1 =>
    rw [sL_len]
    unfold due1
    cases l with
    | nil => rfl
    | cons a r =>
      rw [if_pos (by simp; lia), if_neg (by simp)]
  case hs => intro env; rfl
  case hw => intro env he; unfold swappedStores Env.blockKind Env.kindOf; rw [he]; rfl
noncomputable abbrev pk26 {o} {x os e p1 y p2} {r1 r2 r3} : PickE Expr (Stmt.If (Expr.BoolOp o [Expr.Compare x os [e] p1, y] p2) r1 r2 r3) := e
noncomputable abbrev e26 : Expr := by change PickE Expr lt26.1; exact pk26
theorem t26 (H : Hd C) {l : List Nat} {L : Nat} {o1 o2 : Option (List Nat)} (hl : ∀ c ∈ l, c < 256) (h0 : ρ.get i_told = some (.list [toldD o1, toldD o2])) (h1 : ρ.get i_due = some (.strs [due1 l, due2 l])) (h2 : ρ.get i_least = some (.int L))
    (q1 : L ≠ 0 → o1 = some (due1 l) ∧ o2 = some (due2 l)) (q0 : L = 0 → o1 = none ∧ o2 = none) : LW C ρ lt26.1 fun r => r = ρ := by
  have main : ∀ (d1 d2 : D) (b : Bool), (match d1 with | .bool a => a == true | _ => false) = b → (match d2 with | .bool a => a == true | _ => false) = b → (decide (L = 0)) = b → Cmp 59 d1 → Cmp 59 d2 → ρ.get i_told = some (.list [d1, d2]) →
      Ev C 30 lawSc ρ e26 (.list [d1, d2]) → LW C ρ lt26.1 fun r => r = ρ := by
    intro d1 d2 b e1 e2 e3 c1 c2 ht hr
    unfold lt26
    with_reducible refine Ex1.skip ?t
    with_reducible refine Tst.cast (Tst.or2 (b1 := false) (b2 := false) ?qa ?qb) rfl
    case qa => exact Tst.cmp (d1 := .list [d1, d2]) (d2 := .list [d1, d2]) (Ev.name rfl ht) hr (Op2.neC' (Cmp.list (n := 59) fun d hd => by
        simp only [List.mem_cons, List.not_mem_nil, or_false] at hd
        rcases hd with rfl | rfl
        · exact c1
        · exact c2) rfl) rfl
    case qb =>
      intro _
      with_reducible refine Tst.cmp (d1 := .list [.bool b, .bool b]) (d2 := .list (List.replicate 2 (.bool b))) ?qa ?qb ?qc ?qd
      case qd => rfl
      case qc => exact Op2.neC' (Cmp.list (n := 59) fun d hd => by
          simp only [List.mem_cons, List.not_mem_nil, or_false, or_self] at hd
          subst hd; exact .bool) rfl
      case qb => exact Ev.bin (Ev.list (EvL.cons (Ev.cast (Ev.cmp (Ev.name rfl h2) Ev.int Op2.eqI rfl) (congrArg D.bool (by rw [← e3]; by_cases h : L = 0 <;> simp [h]))) .nil) (by show 1 ≤ sizeLine; decide)) Ev.int (Op2.mulL1 (n := 2) (by decide))
      case qa =>
        refine' Ev.cast (Ev.compMap [d1, d2] (fun d => [(i_answer, d)]) (fun d => .bool (match d with | .bool a => a == true | _ => false)) [] (ItE.listN rfl (Ev.name rfl ht)) (Sees.of [] ?s1 fr_nil) ?l1 ?el ?z1) ?c
        case s1 => decide +kernel
        case l1 => intro x _ p hp; rcases List.mem_singleton.mp hp with rfl; rfl
        case z1 => show 2 ≤ sizeLine; decide
        case el => intro d _; exact Ev.cmp (Ev.name (i := i_answer) (d := d) rfl (by walk_at "lk")) Ev.bool Op2.isB rfl
        case c => simp only [List.map_cons, List.map_nil, e1, e2]
  by_cases h : L = 0
  · obtain ⟨rfl, rfl⟩ := q0 h
    subst h
    refine main (.bool true) (.bool true) true rfl rfl rfl .bool .bool h0 ?_
    exact Ev.cast (Ev.ifexp (c := false) (d1 := .none) (d2 := .list [.bool true, .bool true]) (Tst.ev (Ev.name rfl h2) Tr.int) (fun h => by cases h) (fun _ => Ev.list (EvL.cons Ev.bool (EvL.cons Ev.bool .nil)) (by show 2 ≤ sizeLine; decide))) rfl
  · obtain ⟨rfl, rfl⟩ := q1 h
    have hL : ((L : Int) != 0) = true := by simp [h]
    have o1 : ∀ c ∈ due1 l, c < 256 := fun c hc => by
      unfold due1 at hc
      split at hc
      · simp at hc; omega
      · exact hl c hc
    have o2 : ∀ c ∈ due2 l, c < 256 := fun c hc => by
      simp only [due2, List.mem_append, List.mem_singleton] at hc
      rcases hc with (rfl | hc) | rfl
      · decide
      · exact hl c hc
      · decide
    refine main (.str (sL (due1 l))) (.str (sL (due2 l))) false rfl rfl (decide_eq_false h) (Cmp.sL o1) (Cmp.sL o2) h0 ?_
    exact Ev.cast (Ev.ifexp (c := true) (d1 := .strs [due1 l, due2 l]) (d2 := .none) (Tst.cast (Tst.ev (Ev.name rfl h2) Tr.int) hL) (fun _ => Ev.name rfl h1) (fun h => by cases h)) rfl
end
section
variable {C : Cx} {k : Nat} {sc : Scope} {ρ : Asn} {Pn : Asn → Prop} {Pr : D → Prop}
theorem ItE.tup {iter : Expr} {i : Nat} {x : PySem.Str} {pos : Pos} {ds : List D} (hx : nm i = x) (h : Ev C k sc ρ iter (.tup ds)) : ItE C k sc ρ iter (.Name x pos) (ds.map fun d => [(i, d)]) := fun env A V s he hr S F E Q q => by
  subst hx
  refine h env A V s he hr S F E _ fun v V1 s1 X1 S1 r => ?_
  obtain ⟨a, vs, rfl, ha, hs⟩ := r.inv_tup
  have hL : s1.heap.IsTuple a vs.toArray := ha.isTup S1
  have hne : a ≠ s1.heap.objs.size := let ⟨o, e, _⟩ := hL; Nat.ne_of_lt (Heap.lt_size e)
  have hf := X1.fresh S1
  refine wpAny_pyIter_tuple hL (q _ V1 _ _ _ _ (X1.trans (.keeps (tk := s1.toks) fun b o e => Heap.get?_push_of_some _ e)) (S1.push _) (Its.ofWalks (Walks.tuple hr.2.2 s1.heap.objs.size a hne vs.toArray) (by simpa using hs.1) (fun j v d hv hd => hs.2 j v d (by simpa using hv) hd)
    (fun j h st b hb => ?_) ?_) ⟨⟨_, Heap.get?_push_size _ rfl, rfl, rfl⟩, hL.push _⟩ (fun b hb => ?_) (fun b hb => ?_) fun b hb => ?_)
  · simp at hb; subst hb; obtain ⟨⟨o, e, _⟩, _⟩ := st; exact ⟨o, e⟩
  · exact fun q => S1.tabNe (List.mem_singleton.mp q)
  · simp at hb; subst hb; exact ⟨hf, S1.newFree⟩
  · simp at hb; rcases hb with rfl | rfl
    · exact .inr ⟨hf, S1.newFree⟩
    · exact .inl ha.isSome
  · simp at hb; rcases hb with rfl | rfl
    · exact ⟨_, Heap.get?_push_size _ rfl⟩
    · exact let ⟨o, e, _⟩ := hL; ⟨o, Heap.get?_push_of_some _ e⟩
theorem Op2.itemLN {ds : List D} {n : Nat} {d : D} (h0 : 1 ≤ n) (h2 : n ≤ ds.length) (h1 : ds[ds.length - n]? = some d) (hsz : ds.length ≤ 2 ^ 20) : Op2 C k getItem (.list ds) (.int (-(n : Int))) d := fun A V s v1 v2 hr S r1 r2 => by
  refine Rep.elList r1 fun b vs hb hs => ?_
  refine Rep.elInt r2 fun t => ?_
  have hlen : vs.toArray.size = ds.length := by simpa using hs.1
  have hi : ds.length - n < ds.length := by lia
  have hv : vs[ds.length - n]? = some (vs[ds.length - n]'(by rw [hs.1]; exact hi)) := List.getElem?_eq_getElem _
  refine .of_tok S fun E Q q => wpAny_getItem_list_neg (x := vs[ds.length - n]'(by rw [hs.1]; exact hi)) (hb.isList S) (by lia) (by rw [hlen]; lia) (by lia) ?_ (q _ s.toks (hs.2 _ _ _ hv h1))
  rw [hlen, show (-(n : Int) + (ds.length : Int)).toNat = ds.length - n by lia]
  simpa using hv
theorem sliceL_neg (ds : List D) (n : Nat) (hn : 1 ≤ n) : sliceL ds Option.none (some (-(n : Int))) Option.none = ds.take (ds.length - n) := by
  have := sliceL_hi ds (ds.length - n)
  rw [← this]
  unfold sliceL
  rw [sliceBounds_plain, sliceBounds_plain]
  simp [clipAt_nat, clipAt_neg ds.length n hn]
theorem Ev.hiNeg {e u : Expr} {p pos : Pos} {ds : List D} {n : Nat} (hn : 1 ≤ n) (he : Ev C k sc ρ e (.list ds)) (hu : Ev C k sc ρ u (.int (-(n : Int)))) (hz : ds.length ≤ 2 ^ 20) : Ev C k sc ρ (.Subscript e (.Slice Option.none (some u) Option.none p) pos) (.list (ds.take (ds.length - n))) := by
  refine Ev.cast (Ev.slice he .none (.some hu) .none (by show "list" ≠ "?"; decide) F.slot_list_getitem.lookup (SlR.list (by simp) hz)) ?_
  rw [sliceL_neg ds n hn]
theorem Op2.divN {a b : Nat} (hb : b ≠ 0) (h : b < 2 ^ 60) : Op2 C k (binaryOp .FloorDiv) (.int a) (.int b) (.int (a / b : Nat)) := by
  have := Op2.divI (C := C) (k := k) (a := a) (b := b) (by lia) (pylong_no h)
  rwa [Int.fdiv_eq_ediv_of_nonneg _ (by lia)] at this
theorem Op2.modN {a b : Nat} (hb : b ≠ 0) : Op2 C k (binaryOp .Mod) (.int a) (.int b) (.int (a % b : Nat)) := by
  have := Op2.modI (C := C) (k := k) (a := a) (b := b) (by lia)
  rwa [Int.fmod_eq_emod_of_nonneg _ (by lia)] at this
theorem Op2.powN {a n : Nat} (ha : a < 2 ^ 60) (h : n ≤ 1000) : Op2 C k (binaryOp .Pow) (.int a) (.int n) (.int (a ^ n : Nat)) := by
  have hb := bits_small ha
  have := Op2.powI (C := C) (k := k) (a := a) (n := n) (by lia) (by
    have : (Builtin.Int.intBits (a : Int) : Int) * n ≤ 64 * 1000 := by
      have h1 : (Builtin.Int.intBits (a : Int)) * n ≤ 64 * 1000 := Nat.mul_le_mul hb h
      exact_mod_cast h1
    lia)
  rwa [Int.toNat_natCast, ← Int.natCast_pow] at this
theorem Ev.cell {p p2 pos : Pos} {cs : List Nat} {i n : Nat} (hi : i < cs.length) (hl : cs.length ≤ 1000) (h : ρ.get i_cells = some (.nats cs)) : Ev C k sc ρ (.Subscript (.Name (Str.ofString "cells") p) (.Constant (.int (i : Nat)) n p2) pos) (.int (cs.getD i 0 : Nat)) := by
  refine Ev.sub (d1 := .nats cs) (d2 := .int (i : Nat)) (Ev.name rfl h) Ev.int (by show "list" ≠ "?"; decide) F.slot_list_getitem.lookup (Op2.itemL (by lia) ?_ (by rw [List.length_map]; lia))
  rw [Int.toNat_natCast, List.getElem?_map, List.getElem?_eq_getElem hi, List.getD_eq_getElem?_getD, List.getElem?_eq_getElem hi]; rfl
noncomputable def swapN (cs : List Nat) (t : Nat) : Nat := cs.getD 8 0 / 2 ^ t % 2
theorem t27 (H : Hd C) {cs : List Nat} {t : Nat} (ht : t < 2) (hc : cs.length = 10) (h0 : ρ.get i_cells = some (.nats cs)) (h1 : ρ.get i_turn = some (.int t)) : LW C ρ lt27.1 fun r => r = (i_swap, .int (swapN cs t)) :: ρ := by
  refine' Ex1.assign (i := i_swap) rfl (Ev.bin (Ev.bin (Ev.cell (i := 8) (by lia) (by lia) h0) (Ev.bin Ev.int (Ev.name rfl h1) (Op2.powN (a := 2) (n := t) (by decide) (by lia))) (Op2.divN (b := 2 ^ t) ?b1 ?b2)) Ev.int (Op2.modN (b := 2) (by decide))) (.inl rfl) ?sw
  case b1 => rcases two ht with rfl | rfl <;> decide
  case b2 => rcases two ht with rfl | rfl <;> decide
  case sw => walk_at "swp"
noncomputable def heldN (L He sw : Nat) : Nat := if sw = 0 then He else L - He
theorem t28 (H : Hd C) {L He sw : Nat} (hle : He ≤ L) (h0 : ρ.get i_swap = some (.int sw)) (h1 : ρ.get i_least = some (.int L)) (h2 : ρ.get i_held = some (.int He)) : LW C ρ lt28.1 fun r => r = (i_held, .int (heldN L He sw)) :: ρ := by
  refine' Ex1.assign (i := i_held) rfl (Ev.cast (Ev.ifexp (c := ((sw : Int) != 0)) (Tst.ev (Ev.name rfl h0) Tr.int) (fun _ => Ev.bin (Ev.name rfl h1) (Ev.name rfl h2) Op2.subI) (fun _ => Ev.name rfl h2)) ?c) (.inr rfl) ?sw
  case c =>
    unfold heldN
    by_cases h : sw = 0
    · subst h; rfl
    · rw [if_pos (by simp [h]), if_neg h]
      exact congrArg D.int (by lia)
  case sw => walk_at "swp"
theorem t29 (H : Hd C) {L He : Nat} (h1 : ρ.get i_least = some (.int L)) (h2 : ρ.get i_held = some (.int He)) : LW C ρ lt29.1 fun r => r = (i_least, .int (L + He : Nat)) :: ρ := by
  refine' Ex1.assign (i := i_least) rfl (Ev.cast (Ev.bin (Ev.name rfl h1) (Ev.name rfl h2) Op2.addI) (by push_cast; rfl)) (.inr rfl) ?sw
  case sw => walk_at "swp"
end
noncomputable def pair1 (sw : Nat) (Sh Cm : List (List Nat)) : List (List Nat) := if sw = 0 then Sh else Cm.map otherW
noncomputable def pair2 (sw : Nat) (Sh Cm : List (List Nat)) : List (List Nat) := if sw = 0 then Cm else Sh.map otherW
noncomputable def endsL : List (List Nat) := [[10], [13], [13, 10]]
noncomputable def breaksW (c m : Nat) : List (List Nat) := (List.range m).map fun k => endsL.getD (c / 3 ^ k % 3) []
noncomputable def rowsAll (v tl : List Nat) : List (List Nat) := rowsW v ++ [tl ++ [46], [46] ++ tl, []]
noncomputable def turnW (sw : Nat) (w : List Nat) : List Nat := if sw = 0 then w else otherW w
section
variable {C : Cx} {k : Nat} {sc : Scope} {ρ : Asn} {Pn : Asn → Prop} {Pr : D → Prop}
theorem Ev.others (H : Hd C) {Cm : List (List Nat)} {i : Nat} {p1 p2 p3 p4 p5 pos : Pos} {y : PySem.Str} {scope : Scope} (hl : Cm.length ≤ 1000) (hn : ∀ n ∈ Cm, n.length ≤ 1000) (ny : nm i = y) (h : ρ.get i = some (.strs Cm)) (W : Sees scope sc ρ [])
    (h1 : scope.names.lookup (Str.ofString "name") = some .local) (h2 : (relabelS scope sc).names.lookup (Str.ofString "_law_other") = some .globalImplicit) :
    Ev C (k + 2) sc ρ (.ListComp (.Call (.Name (Str.ofString "_law_other") p1) [.Name (Str.ofString "name") p2] [] p3) [⟨.Name (Str.ofString "name") p4, .Name y p5, [], 0⟩] scope pos) (.strs (Cm.map otherW)) := by
  refine Ev.cast (Ev.compMap Cm (fun n => [(i_name, .str (sL n))]) (fun n => .str (sL (otherW n))) [] (ItE.strsL rfl (Ev.name ny h)) W (fun c _ p hp => ?_) (fun n hn' => ?_) ?_) ?_
  · rcases List.mem_singleton.mp hp with rfl; exact h1
  · exact Ev.call (x := Str.ofString "_law_other") h2 (gf_law_other H) (kr H (by rw [H.K]; kernel_rfl)) (EvL.cons (Ev.name (i := i_name) (d := .str (sL n)) rfl (by walk_at "lk")) .nil) (otherC (k := k) H (hn n hn'))
  · rw [sizeLine_eq]; lia
  · rw [strs_map, List.map_map]; rfl
theorem t30 (H : Hd C) {Sh Cm : List (List Nat)} {sw : Nat} (l1 : Sh.length ≤ 200) (l2 : Cm.length ≤ 200) (n1 : ∀ n ∈ Sh, n.length ≤ 90) (n2 : ∀ n ∈ Cm, n.length ≤ 90) (h0 : ρ.get i_swap = some (.int sw)) (h1 : ρ.get i_shared = some (.strs Sh)) (h2 : ρ.get i_common = some (.strs Cm)) :
    LW C ρ lt30.1 fun r => r = (i_pair, .tup [.strs (pair1 sw Sh Cm), .strs (pair2 sw Sh Cm)]) :: ρ := by
  refine' Ex1.assign (i := i_pair) rfl (Ev.cast (Ev.ifexp (c := ((sw : Int) != 0)) (Tst.ev (Ev.name rfl h0) Tr.int)
    (fun _ => Ev.tuple (EvL.cons (Ev.others (k := 28) H (by lia) (fun n hn => by have := n2 n hn; lia) rfl h2 (Sees.of [] ?s1 fr_nil) rfl rfl) (EvL.cons (Ev.others (k := 28) H (by lia) (fun n hn => by have := n1 n hn; lia) rfl h1 (Sees.of [] ?s2 fr_nil) rfl rfl) .nil)) (by show 2 ≤ sizeLine; decide))
    (fun _ => Ev.tuple (EvL.cons (Ev.name rfl h1) (EvL.cons (Ev.name rfl h2) .nil)) (by show 2 ≤ sizeLine; decide))) ?c) (.inl rfl) ?sw
  case s1 => decide +kernel
  case s2 => decide +kernel
  case c =>
    unfold pair1 pair2
    by_cases h : sw = 0
    · subst h; rfl
    · rw [if_pos (by simp [h]), if_neg h, if_neg h]
  case sw => walk_at "swp"
theorem t31 (H : Hd C) {P1 P2 : List (List Nat)} (l1 : P1.length ≤ 200) (l2 : P2.length ≤ 200) (n1 : ∀ n ∈ P1, n.length ≤ 40) (n2 : ∀ n ∈ P2, n.length ≤ 40) (h0 : ρ.get i_pair = some (.tup [.strs P1, .strs P2])) :
    LW C ρ lt31.1 fun r => r = (i_dotted, .strs (P2.map sentW)) :: (i_named, .strs (P1.map sentW)) :: ρ := by
  refine' Ex1.pairAt (i := i_named) (j := i_dotted) (d := .list [.strs (P1.map sentW), .strs (P2.map sentW)]) rfl rfl (Ev.cast (Ev.compMap [P1, P2] (fun P => [(i_row, .strs P)]) (fun P => .strs (P.map sentW)) [] (ItE.cast (ItE.tup (i := i_row) (ds := [.strs P1, .strs P2]) rfl (Ev.name (i := i_pair) rfl h0)) rfl) (Sees.of [] ?s1 fr_nil) ?l1 ?el ?z1) rfl) (.inr rfl) (.inl rfl) (.inl rfl) ?hs ?hw
  case s1 => decide +kernel
  case l1 => intro c _ p hp; rcases List.mem_singleton.mp hp with rfl; rfl
  case z1 => show 2 ≤ sizeLine; decide
  case el =>
    intro P hP
    have hl : P.length ≤ 200 ∧ ∀ n ∈ P, n.length ≤ 40 := by
      rcases List.mem_cons.mp hP with rfl | hP
      · exact ⟨l1, n1⟩
      · rw [List.mem_singleton.mp hP]; exact ⟨l2, n2⟩
    refine' Ev.cast (Ev.compMap P (fun n => [(i_name, .str (sL n))]) (fun n => .str (sL (sentW n))) [] (ItE.strsL rfl (Ev.name (i := i_row) (d := .strs P) rfl (by walk_at "lk"))) (Sees.of [] ?s2 fr_nil) ?l2 ?e2 ?z2) ?c2
    case s2 => decide +kernel
    case l2 => intro c _ p hp; rcases List.mem_singleton.mp hp with rfl; rfl
    case z2 => rw [sizeLine_eq]; lia
    case e2 =>
      intro n hn
      exact Ev.call (x := Str.ofString "_law_sent") rfl (gf_law_sent H) (kr H (by rw [H.K]; kernel_rfl)) (EvL.cons (Ev.name (i := i_name) (d := .str (sL n)) rfl (by walk_at "lk")) .nil) (sentC (k := 26) H (hl.2 n hn))
    case c2 => rw [strs_map, List.map_map]; rfl
  case hs => intro env; rfl
  case hw => intro env he; rfl
theorem t32 (H : Hd C) {w tl : List Nat} {sw : Nat} (hw : w.length ≤ 100) (ht : tl.length ≤ 10) (h0 : ρ.get i_swap = some (.int sw)) (h1 : ρ.get i_word = some (.str (sL w))) (h2 : ρ.get i_other = some (.str (sL (otherW w)))) (h3 : ρ.get i_tail = some (.str (sL tl))) :
    LW C ρ lt32.1 fun r => r = (i_rows, .strs (rowsAll (turnW sw w) tl)) :: ρ := by
  have hv : (turnW sw w).length = w.length := by unfold turnW; split; · rfl
                                                 exact other_len w
  have hr := (rowsW_len (turnW sw w)).1
  refine' Ex1.assign (i := i_rows) rfl (Ev.bin (Ev.call (x := Str.ofString "_law_rows") rfl (gf_law_rows H) (kr H (by rw [H.K]; kernel_rfl)) (EvL.cons (Ev.cast (Ev.ifexp (c := ((sw : Int) != 0)) (Tst.ev (Ev.name rfl h0) Tr.int) (fun _ => Ev.name rfl h2) (fun _ => Ev.name rfl h1)) ?c) .nil) (rowsC (k := 28) (w := turnW sw w) H (by lia)))
    (Ev.list (EvL.cons (Ev.bin (Ev.name rfl h3) (Ev.str : Ev C 30 _ _ _ (.str (sL [46]))) (addSL (by simp; lia))) (EvL.cons (Ev.bin (Ev.str : Ev C 30 _ _ _ (.str (sL [46]))) (Ev.name rfl h3) (addSL (by simp; lia))) (EvL.cons (Ev.str : Ev C 30 _ _ _ (.str (sL []))) .nil))) (by show 3 ≤ sizeLine; decide)) (addStrs (ys := [tl ++ [46], [46] ++ tl, []]) (by simp; lia))) (.inl rfl) ?sw
  case c =>
    unfold turnW
    by_cases h : sw = 0
    · subst h; rfl
    · rw [if_pos (by simp [h]), if_neg h]
  case sw => walk_at "swp"
theorem t33 (H : Hd C) {R : List (List Nat)} {cs : List Nat} (hc : cs.length = 10) (hR : 1 ≤ R.length) (hR2 : R.length ≤ 35) (h0 : ρ.get i_rows = some (.strs R)) (h1 : ρ.get i_cells = some (.nats cs)) :
    LW C ρ lt33.1 fun r => r = (i_breaks, .strs (breaksW (cs.getD 9 0) (R.length - 1))) :: ρ := by
  refine' Ex1.assignCompMap (i := i_breaks) (List.range (R.length - 1)) (fun (j : Nat) => [(i_k, .int j)]) (fun j => .str (sL (endsL.getD (cs.getD 9 0 / 3 ^ j % 3) []))) [(i_cells, .nats cs)] rfl
    (ItE.range1N (n := R.length - 1) (z := (R.length : Int) - 1) rfl rfl (gb_range H) (Ev.bin (Ev.cast (d' := .int R.length) (Ev.call (x := Str.ofString "len") rfl (gb_len H) (.inl ⟨_, rfl⟩) (EvL.cons (Ev.name rfl h0) .nil) (CallR.len_list (by simp; lia))) (by simp)) Ev.int Op2.subI) (by lia) (by lia)) (Sees.of [i_cells] ?sees (fr_cons h1 fr_nil)) ?loc ?el ?sz rfl ?cast ?sw
  case sees => decide +kernel
  case loc => intro c _ p hp; rcases List.mem_singleton.mp hp with rfl; rfl
  case sz => rw [List.length_range, sizeLine_eq]; lia
  case el =>
    intro j hj
    have hj' := List.mem_range.mp hj
    have hp : (3 : Nat) ^ j < 2 ^ 60 := Nat.lt_of_le_of_lt (Nat.pow_le_pow_right (by decide) (show j ≤ 34 by lia)) (by decide)
    have hm : cs.getD 9 0 / 3 ^ j % 3 < 3 := Nat.mod_lt _ (by decide)
    refine Ev.sub (d1 := .list [.str (sL [10]), .str (sL [13]), .str (sL [13, 10])]) (d2 := .int (cs.getD 9 0 / 3 ^ j % 3 : Nat)) (Ev.list (EvL.cons Ev.str (EvL.cons Ev.str (EvL.cons Ev.str .nil))) (by show 3 ≤ sizeLine; decide))
      (Ev.bin (Ev.bin (Ev.cell (i := 9) (by lia) (by lia) (by walk_at "lk")) (Ev.bin Ev.int (Ev.name (i := i_k) (d := .int j) rfl (by walk_at "lk")) (Op2.powN (a := 3) (n := j) (by decide) (by lia))) (Op2.divN (b := 3 ^ j) (by have := Nat.pow_pos (n := j) (show 0 < 3 by decide); lia) hp)) Ev.int (Op2.modN (b := 3) (by decide))) (by show "list" ≠ "?"; decide) F.slot_list_getitem.lookup (Op2.itemL (by lia) ?_ (by show 3 ≤ 2 ^ 20; decide))
    rw [Int.toNat_natCast]
    generalize cs.getD 9 0 / 3 ^ j % 3 = z at *
    rcases (show z = 0 ∨ z = 1 ∨ z = 2 by lia) with rfl | rfl | rfl <;> rfl
  case cast => rw [strs_map]; unfold breaksW; rw [List.map_map]; rfl
  case sw => walk_at "swp"
end
theorem good_zip : ∀ (B rest : List (List Nat)), B.length = rest.length → (∀ e ∈ B, EndOk e) → (∀ r ∈ rest, Free r) → (∀ r ∈ rest.dropLast, r ≠ []) → GoodL (B.zip rest)
  | [], [], _, _, _, _ => trivial
  | [e], [r], _, h1, h2, _ => ⟨h1 e (by simp), h2 r (by simp)⟩
  | e :: e2 :: B, r :: r2 :: rs, h, h1, h2, h3 => by
    refine ⟨h1 e (by simp), h2 r (by simp), h3 r (by simp [List.dropLast]), ?_⟩
    exact good_zip (e2 :: B) (r2 :: rs) (by simpa using h) (fun x hx => h1 x (List.mem_cons_of_mem _ hx)) (fun x hx => h2 x (List.mem_cons_of_mem _ hx)) fun x hx => h3 x (by
      rw [List.dropLast_cons_of_ne_nil (by simp)]
      exact List.mem_cons_of_mem _ hx)
  | [], _ :: _, h, _, _, _ => by simp at h
  | _ :: _, [], h, _, _, _ => by simp at h
  | [_], _ :: _ :: _, h, _, _, _ => by simp at h
  | _ :: _ :: _, [_], h, _, _, _ => by simp at h
noncomputable def mailOf (R B : List (List Nat)) : List Nat := mailW (R.headD []) (B.zip R.tail)
noncomputable def Plain (c : Nat) : Prop := c < 256 ∧ c ≠ 10 ∧ c ≠ 13 ∧ c ≠ 46
theorem all_free {v : List Nat} {c : Nat} (hc : Plain c) : ∀ r ∈ rowsAll v [c], Free r := fun r hr => by
  rcases List.mem_append.mp hr with h | h
  · exact (rowsW_free h).1
  · obtain ⟨_, h1, h2, _⟩ := hc
    simp only [List.mem_cons, List.not_mem_nil, or_false] at h
    rcases h with rfl | rfl | rfl <;> constructor <;> simp <;> lia
theorem rowsAll_len (v tl : List Nat) : (rowsAll v tl).length = (rowsW v).length + 3 := by simp [rowsAll]
theorem mail_eol {v : List Nat} {c : Nat} {B : List (List Nat)} (hc : Plain c) (hl : B.length = (rowsAll v [c]).length - 1) (hB : ∀ e ∈ B, EndOk e) : eolW (mailOf (rowsAll v [c]) B) = joinL [13, 10] (rowsAll v [c]) := by
  have hf := all_free (v := v) hc
  have hd : ∀ r ∈ (rowsAll v [c]).dropLast, r ≠ [] := fun r hr => by
    have e : (rowsAll v [c]).dropLast = rowsW v ++ [[c, 46], [46, c]] := by
      unfold rowsAll
      rw [List.dropLast_append_of_ne_nil (by simp)]; rfl
    rw [e] at hr
    rcases List.mem_append.mp hr with h | h
    · exact (rowsW_free h).2
    · simp only [List.mem_cons, List.not_mem_nil, or_false] at h
      rcases h with rfl | rfl <;> simp
  have hne : rowsAll v [c] ≠ [] := by unfold rowsAll; simp
  generalize rowsAll v [c] = R at *
  cases R with
  | nil => exact absurd rfl hne
  | cons r rest =>
    unfold mailOf
    have hz : B.length = rest.length := by simpa using hl
    have hd2 : ∀ x ∈ rest.dropLast, x ≠ [] := fun x hx => hd x (by
      cases rest with
      | nil => cases hx
      | cons y ys => rw [List.dropLast_cons_of_ne_nil (by simp)]; exact List.mem_cons_of_mem _ hx)
    have := eolW_mail (r0 := r) (l := B.zip rest) (hf r (by simp)) (good_zip B rest hz hB (fun x hx => hf x (List.mem_cons_of_mem _ hx)) hd2)
    simp only [List.headD_cons, List.tail_cons]
    rw [this]
    congr 2
    exact List.map_snd_zip (by lia)
theorem dot_star {v r : List Nat} (h : r ∈ rowsW v) : dotRow r = [46] ++ r := by
  obtain ⟨p, _, rfl⟩ := List.mem_map.mp h
  unfold dotRow
  rw [if_pos (by simp [List.replicate_succ])]; rfl
theorem all_dots {v : List Nat} {c : Nat} (hc : Plain c) : (rowsAll v [c]).map dotRow = (rowsW v).map (fun r => [46] ++ r) ++ [[c] ++ [46], [46] ++ ([46] ++ [c]), []] := by
  obtain ⟨_, _, _, h⟩ := hc
  unfold rowsAll
  rw [List.map_append]
  congr 1
  · exact List.map_congr_left fun r hr => dot_star hr
  · simp [dotRow, h]
theorem mail_sent {v : List Nat} {c : Nat} {B : List (List Nat)} (hc : Plain c) (hl : B.length = (rowsAll v [c]).length - 1) (hB : ∀ e ∈ B, EndOk e) :
    dotW (eolW (mailOf (rowsAll v [c]) B)) = joinL [13, 10] ((rowsW v).map (fun r => [46] ++ r) ++ [[c] ++ [46], [46] ++ ([46] ++ [c]), []]) := by
  rw [mail_eol hc hl hB, dotW_rows fun r hr => (all_free hc r hr).1, all_dots hc]
theorem ends_ok (c m : Nat) : ∀ e ∈ breaksW c m, EndOk e := fun e he => by
  obtain ⟨j, _, rfl⟩ := List.mem_map.mp he
  have hm : c / 3 ^ j % 3 < 3 := Nat.mod_lt _ (by decide)
  generalize c / 3 ^ j % 3 = z at *
  rcases (show z = 0 ∨ z = 1 ∨ z = 2 by lia) with rfl | rfl | rfl
  · exact .inl rfl
  · exact .inr (.inl rfl)
  · exact .inr (.inr rfl)
section
variable {C : Cx} {k : Nat} {sc : Scope} {ρ : Asn} {Pn : Asn → Prop} {Pr : D → Prop}
theorem t34 (H : Hd C) {R B : List (List Nat)} (hR : 1 ≤ R.length) (hR2 : R.length ≤ 35) (hB : B.length ≤ 35) (lr : ∀ r ∈ R, r.length ≤ 50) (lb : ∀ e ∈ B, e.length ≤ 2) (h0 : ρ.get i_rows = some (.strs R)) (h1 : ρ.get i_breaks = some (.strs B)) :
    LW C ρ lt34.1 fun r => r = (i_mail, .str (sL (mailOf R B))) :: ρ := by
  have hz : (B.zip R.tail).length ≤ 35 := by rw [List.length_zip]; lia
  have hp : ∀ p ∈ (B.zip R.tail).map (fun p => p.1 ++ p.2), p.length ≤ 52 := fun p hp => by
    obtain ⟨⟨a, b⟩, hq, rfl⟩ := List.mem_map.mp hp
    obtain ⟨q1, q2⟩ := List.of_mem_zip hq
    have := lb a q1
    have := lr b (List.mem_of_mem_tail q2)
    simp; lia
  have hfl := flat_len hp
  have h0' : ((strs_map R) ▸ h0 : ρ.get i_rows = some (.list (R.map fun n => D.str (sL n)))) = ((strs_map R) ▸ h0) := rfl
  have hR0 : ρ.get i_rows = some (.list (R.map fun n => D.str (sL n))) := by rw [← strs_map]; exact h0
  have hB0 : ρ.get i_breaks = some (.list (B.map fun n => D.str (sL n))) := by rw [← strs_map]; exact h1
  have hh : R[0]? = some (R.headD []) := by
    cases R with
    | nil => simp at hR
    | cons a r => rfl
  refine' Ex1.assign (i := i_mail) rfl (Ev.bin (Ev.sub (d1 := .list (R.map fun n => D.str (sL n))) (d2 := .int (0 : Nat)) (d := .str (sL (R.headD []))) (Ev.name rfl hR0) Ev.int (by show "list" ≠ "?"; decide) F.slot_list_getitem.lookup (Op2.itemL (by decide) ?it (by rw [List.length_map]; lia)))
    (Ev.cast (Ev.join (x := Str.ofString "") (ys := ((B.zip R.tail).map fun p => p.1 ++ p.2).map sL) Ev.str (Ev.cast (Ev.compMap (B.zip R.tail) (fun p => [(i_row, .str (sL p.2)), (i_end, .str (sL p.1))]) (fun p => .str (sL (p.1 ++ p.2))) []
      (ItE.zipL B (fun n => .str (sL n)) R.tail (fun n => .str (sL n)) rfl rfl rfl (gb_zip H) (Ev.name rfl hB0) (Ev.cast (Ev.fromL (ds := R.map fun n => D.str (sL n)) (n := 1) (Ev.name rfl hR0) Ev.int (by rw [List.length_map]; lia)) (by rw [← List.drop_one, List.map_drop]))) (Sees.of [] ?sees fr_nil) ?loc ?el ?sz) ?cast) ?jo) ?fin) (addSL ?za)) (.inl rfl) ?sw
  case it => rw [List.getElem?_map]; show Option.map _ R[0]? = _; rw [hh]; rfl
  case sees => decide +kernel
  case loc =>
    intro x _ p hp
    rcases List.mem_cons.mp hp with rfl | hp
    · rfl
    · rcases List.mem_singleton.mp hp with rfl; rfl
  case sz => rw [sizeLine_eq]; lia
  case el =>
    intro x hx
    have := hp (x.1 ++ x.2) (List.mem_map.mpr ⟨x, hx, rfl⟩)
    exact Ev.bin (Ev.name (i := i_end) (d := .str (sL x.1)) rfl (by walk_at "lk")) (Ev.name (i := i_row) (d := .str (sL x.2)) rfl (by walk_at "lk")) (addSL (by simp at this; lia))
  case cast => rw [List.map_map, List.map_map]; rfl
  case jo =>
    refine joinOk_of (n := 52) (m := 35) (fun p hp' => ?_) (by simp only [List.length_map]; exact hz) (by decide)
    obtain ⟨q, hq, rfl⟩ := List.mem_map.mp hp'
    rw [sL_len]; exact hp q hq
  case fin =>
    have := join_sL [] ((B.zip R.tail).map fun p => p.1 ++ p.2)
    rw [joinL_nil] at this
    exact congrArg D.str this
  case za =>
    have : (R.headD []).length ≤ 50 := by
      cases R with
      | nil => simp
      | cons a r => exact lr a (by simp)
    simp only [List.length_map] at hfl
    lia
  case sw => walk_at "swp"
theorem t35 (H : Hd C) {m : List Nat} (hm : m.length ≤ 200) (h0 : ρ.get i_mail = some (.str (sL m))) : LW C ρ lt35.1 fun r => r = (i_sent, .str (sL (dotW (eolW m)))) :: (i_fixed, .str (sL (eolW m))) :: ρ := by
  refine' Ex1.pairSw (i := i_sent) (j := i_fixed) rfl rfl (Ev.tuple (EvL.cons (Ev.call (x := Str.ofString "quotedata") rfl (gfquotedata H) (kr H (by rw [H.K]; kernel_rfl)) (EvL.cons (Ev.name rfl h0) .nil) (quotedataC (k := 28) H hm)) (EvL.cons (Ev.call (x := Str.ofString "_fix_eols") rfl (gf_fix_eols H) (kr H (by rw [H.K]; kernel_rfl)) (EvL.cons (Ev.name rfl h0) .nil) (fixEolsC (k := 28) H (by lia))) .nil)) (by show 2 ≤ sizeLine; decide)) rfl rfl ?hs ?hw
  case hs => intro env; rfl
  case hw => intro env he; unfold swappedStores Env.blockKind Env.kindOf; rw [he]; rfl
end
noncomputable def sentRows (v tl : List Nat) : List (List Nat) := (rowsW v).map (fun r => [46] ++ r) ++ [tl ++ [46], [46] ++ ([46] ++ tl), []]
section
variable {C : Cx} {k : Nat} {sc : Scope} {ρ : Asn} {Pn : Asn → Prop} {Pr : D → Prop}
theorem Ev.joinRN {o e : Expr} {apos pos : Pos} {l : List (List Nat)} (ho : Ev C k sc ρ o (.str (sL [13, 10]))) (he : Ev C k sc ρ e (.strs l)) (h1 : ∀ r ∈ l, r.length ≤ 100) (h2 : l.length ≤ 100)
    (hst : ∀ env, starEach [e] env = (false, eval e env) :: starEach [] env := by intro _; rfl) (hbase : ∀ env, attributeBase o "join" env (eval o env) = eval o env := by intro _; rfl) (hline : (apos.endLine == pos.line) = true := by rfl) :
    Ev C k sc ρ (.Call (.Attribute o (Str.ofString "join") apos) [e] [] pos) (.str (sL (joinL [13, 10] l))) := by
  refine Ev.cast (Ev.join (x := sL [13, 10]) (ys := l.map sL) ho he ?_ hst hbase hline) (congrArg D.str (join_sL _ _))
  refine joinOk_of (n := 100) (m := 100) (fun p hp => ?_) (by rw [List.length_map]; exact h2) (by decide)
  obtain ⟨q, hq, rfl⟩ := List.mem_map.mp hp
  rw [sL_len]; exact h1 q hq
theorem Ev.castOp {o : Value → Value → Sem Value} {d1 d2 d d' : D} (h : Op2 C k o d1 d2 d) (q : d = d') : Op2 C k o d1 d2 d' := q ▸ h
theorem t36 (H : Hd C) {v tl S F : List Nat} (hv : v.length ≤ 30) (ht : tl.length ≤ 5) (hS : S = joinL [13, 10] (sentRows v tl)) (hF : F = joinL [13, 10] (rowsAll v tl)) (h0 : ρ.get i_rows = some (.strs (rowsAll v tl))) (h1 : ρ.get i_sent = some (.str (sL S))) (h2 : ρ.get i_fixed = some (.str (sL F))) :
    LW C ρ lt36.1 fun r => r = ρ := by
  have hl := rowsAll_len v tl
  have hr := rowsW_len v
  have hal : ∀ r ∈ rowsAll v tl, r.length ≤ 50 := fun r h => by
    rcases List.mem_append.mp h with h | h
    · have := hr.2 r h; lia
    · simp only [List.mem_cons, List.not_mem_nil, or_false] at h
      rcases h with rfl | rfl | rfl <;> simp <;> lia
  have hR : ρ.get i_rows = some (.list (((rowsAll v tl).map sL).map .str)) := h0
  have hlen : (((rowsAll v tl).map sL).map D.str).length = (rowsW v).length + 3 := by rw [List.length_map, List.length_map, hl]
  refine' Ex1.skip (Tst.cast (Tst.or2 (b1 := false) (b2 := false)
    (Tst.cmp (Ev.name rfl h1) (Ev.cast (Ev.joinRN (l := sentRows v tl) Ev.str (Ev.bin (Ev.cast (Ev.compMap (rowsW v) (fun r => [(i_row, .str (sL r))]) (fun r => .str (sL ([46] ++ r))) [] (ItE.strsL rfl (Ev.cast (Ev.hiNeg (n := 3) (by decide) (Ev.name rfl hR) (Ev.neg Ev.int) ?z0) ?c0)) (Sees.of [] ?s1 fr_nil) ?l1 ?e1 ?z1) ?c1)
      (Ev.list (EvL.cons (Ev.sub (d1 := .list (((rowsAll v tl).map sL).map .str)) (d := .str (sL (tl ++ [46]))) (Ev.name rfl hR) (Ev.neg Ev.int) (by show "list" ≠ "?"; decide) PySem.F.slot_list_getitem.lookup (Op2.itemLN (n := 3) (by decide) ?y1 ?y2 ?y3)) (EvL.cons (Ev.bin (Ev.str : Ev C 30 _ _ _ (.str (sL [46]))) (Ev.sub (d1 := .list (((rowsAll v tl).map sL).map .str)) (d := .str (sL ([46] ++ tl))) (Ev.name rfl hR) (Ev.neg Ev.int) (by show "list" ≠ "?"; decide) PySem.F.slot_list_getitem.lookup (Op2.itemLN (n := 2) (by decide) ?x1 ?x2 ?x3)) (addSL ?za)) (EvL.cons (Ev.str : Ev C 30 _ _ _ (.str (sL []))) .nil))) (by show 3 ≤ sizeLine; decide))
      (addStrs (xs := (rowsW v).map fun r => [46] ++ r) (ys := [tl ++ [46], [46] ++ ([46] ++ tl), []]) ?zb)) ?zc ?zd) (congrArg (fun x => D.str (sL x)) hS.symm)) (Ev.castOp Op2.neS (by simp)) rfl)
    fun _ => Tst.cmp (Ev.name rfl h2) (Ev.cast (Ev.joinRN (l := rowsAll v tl) Ev.str (Ev.name rfl h0) (fun r h => by have := hal r h; lia) (by lia)) (congrArg (fun x => D.str (sL x)) hF.symm)) (Ev.castOp Op2.neS (by simp)) rfl) rfl)
  case z0 => rw [hlen]; lia
  case c0 =>
    rw [hlen, Nat.add_sub_cancel, ← List.map_take, ← List.map_take]
    unfold rowsAll
    rw [List.take_left' rfl]
  case s1 => decide +kernel
  case l1 => intro c _ p hp; rcases List.mem_singleton.mp hp with rfl; rfl
  case e1 =>
    intro r hr'
    have := hr.2 r hr'
    exact Ev.bin (Ev.str : Ev C 30 _ _ _ (.str (sL [46]))) (Ev.name (i := i_row) (d := .str (sL r)) rfl (by walk_at "lk")) (addSL (by simp; lia))
  case z1 => rw [sizeLine_eq]; lia
  case c1 => rw [strs_map, List.map_map]; rfl
  case y1 => rw [hlen]; lia
  case y2 =>
    rw [hlen, Nat.add_sub_cancel, List.getElem?_map, List.getElem?_map]
    unfold rowsAll
    rw [List.getElem?_append_right (Nat.le_refl _), Nat.sub_self]; rfl
  case y3 => rw [hlen]; lia
  case x1 => rw [hlen]; lia
  case x2 =>
    rw [hlen, show (rowsW v).length + 3 - 2 = (rowsW v).length + 1 by lia, List.getElem?_map, List.getElem?_map]
    unfold rowsAll
    rw [List.getElem?_append_right (by lia), show (rowsW v).length + 1 - (rowsW v).length = 1 by lia]; rfl
  case x3 => rw [hlen]; lia
  case za => simp; lia
  case zb => simp; lia
  case zc =>
    intro r h
    rcases List.mem_append.mp h with h | h
    · obtain ⟨q, hq, rfl⟩ := List.mem_map.mp h
      have := hr.2 q hq
      simp; lia
    · simp only [List.mem_cons, List.not_mem_nil, or_false] at h
      rcases h with rfl | rfl | rfl <;> simp <;> lia
  case zd => simp [sentRows]; lia
theorem t37 (H : Hd C) {F : List Nat} (hl : F.length ≤ 400) (ho : ∀ c ∈ F, c < 256) (h0 : ρ.get i_fixed = some (.str (sL F))) : LW C ρ lt37.1 fun r => r = (i_quoted, .bytes (bA (dotW F))) :: ρ := by
  refine' Ex1.assign (i := i_quoted) rfl (Ev.call (x := Str.ofString "_quote_periods") rfl (gf_quote_periods H) (kr H (by rw [H.K]; kernel_rfl)) (EvL.cons (Ev.call (x := Str.ofString "_law_octets") rfl (gf_law_octets H) (kr H (by rw [H.K]; kernel_rfl)) (EvL.cons (Ev.name rfl h0) .nil) (octetsC (k := 28) H (by lia) ho)) .nil) (quotePeriodsC (k := 28) H hl ho)) (.inl rfl) ?sw
  case sw => walk_at "swp"
theorem t38 (H : Hd C) {S : List Nat} (hl : S.length ≤ 1000) (ho : ∀ c ∈ S, c < 256) (h0 : ρ.get i_quoted = some (.bytes (bA S))) (h1 : ρ.get i_sent = some (.str (sL S))) : LW C ρ lt38.1 fun r => r = ρ := by
  refine Ex1.skip (Tst.cast (Tst.or2 (Tst.not (Tst.ev (Ev.call (x := Str.ofString "isinstance") rfl (gb_isinstance H) (.inl ⟨_, rfl⟩) (EvL.cons (Ev.name rfl h0) (EvL.cons (Ev.gtyp rfl (gb_bytes H)) .nil)) CallR.isBytes) Tr.bool)) fun _ =>
    Tst.cmp (Ev.name rfl h0) (Ev.call (x := Str.ofString "_law_octets") rfl (gf_law_octets H) (kr H (by rw [H.K]; kernel_rfl)) (EvL.cons (Ev.name rfl h1) .nil) (octetsC (k := 28) H hl ho)) Op2.neB rfl) ?_)
  rw [bne_self_eq_false]; rfl
theorem sent_split {v : List Nat} {c : Nat} (hc : Plain c) : Txt.split (sL (joinL [13, 10] (sentRows v [c]))) (sL [13, 10]) = (sentRows v [c]).map sL := by
  have e : sentRows v [c] = (rowsAll v [c]).map dotRow := (all_dots hc).symm
  rw [e, ← dotW_rows fun r hr => (all_free hc r hr).1]
  exact mail_split (by unfold rowsAll; simp) (all_free hc)
theorem t39 (H : Hd C) {v S : List Nat} {c : Nat} (hv : v.length ≤ 30) (hc : Plain c) (hl : S.length ≤ 1000) (hS : S = joinL [13, 10] (sentRows v [c])) (h1 : ρ.get i_sent = some (.str (sL S))) : LW C ρ lt39.1 fun r => r = (i_word, .str (sL (sentW v))) :: ρ := by
  have hr := rowsW_len v
  have hz : (sentRows v [c]).length = (rowsW v).length + 3 := by simp [sentRows]
  have e1 : D.list ((Txt.split (sL S) (sL [13, 10])).map .str) = .strs (sentRows v [c]) := by rw [hS, sent_split hc]
  have e2 : (sentRows v [c]).take ((rowsW v).length + 3 - 3) = (rowsW v).map dotRow := by
    rw [Nat.add_sub_cancel]
    unfold sentRows
    rw [List.take_left' (by simp)]
    exact List.map_congr_left fun r hr => (dot_star hr).symm
  have hlen : (((sentRows v [c]).map sL).map D.str).length = (rowsW v).length + 3 := by rw [List.length_map, List.length_map, hz]
  refine' Ex1.assign (i := i_word) rfl (Ev.call (x := Str.ofString "_law_word") rfl (gf_law_word H) (kr H (by rw [H.K]; kernel_rfl)) (EvL.cons (Ev.cast (Ev.hiNeg (n := 3) (ds := ((sentRows v [c]).map sL).map D.str) (by decide) (Ev.cast (Ev.split (x := sL S) (y := sL [13, 10]) (Ev.name rfl h1) Ev.str (by decide) ?hx) e1) (Ev.neg Ev.int) ?z0) ?c0) .nil) (wordC (k := 28) (rs := (rowsW v).map dotRow) H ?w1 ?w2)) (.inr rfl) ?sw
  case hx => rw [sL_len]; lia
  case z0 => rw [hlen]; lia
  case c0 => rw [hlen, ← List.map_take, ← List.map_take, e2]
  case w1 => rw [List.length_map]; lia
  case w2 =>
    intro r h
    obtain ⟨q, hq, rfl⟩ := List.mem_map.mp h
    have := hr.2 q hq
    have := dotRow_len q
    lia
  case sw => walk_at "swp"
end
section
variable {C : Cx} {k : Nat} {sc : Scope} {ρ ρ' : Asn} {Pn P1 : Asn → Prop} {Pr : D → Prop}
noncomputable def ExD (C : Cx) (k : Nat) (sc : Scope) (ρ : Asn) (t : Env → Sem Flow) (Pn : Asn → Prop) (Pr : D → Prop) : Prop :=
  ∀ (env : Env) (A : Around) (V : View) (s : Shared) (V0 : View) (s0 : Shared), env.scope = sc → env.frame = some env.locals → A.frames = some [env] → Room k A → St C V s → Frm C env ρ V s.heap → CellsOnce env → Ext V0 s0 V s → Fresh env s0 →
    ∀ (E : Value → Shared → Prop) (Q : Flow → Shared → Prop),
      (∀ ρ' V' s', Ext V0 s0 V' s' → St C V' s' → Frm C env ρ' V' s'.heap → Pn ρ' → Q .next s') →
      (∀ v d V' s', Ext V0 s0 V' s' → St C V' s' → Rep V' v d → Pr d → Q (.ret v) s') → wpD C.M A (t env) Q E s
theorem ExD.of {t : Env → Sem Flow} (h : ExT C k sc ρ t Pn Pr) : ExD C k sc ρ t Pn Pr := fun env A V s V0 s0 he hf hfr hr S F O X f E Q qn qr => wpD_of (h env A V s V0 s0 he hr S F O X f E Q qn qr)
theorem ExD.cons {st : Stmt} {ss : List Stmt} (h1 : ExD C k sc ρ (exec st) P1 Pr) (h2 : ∀ ρ', P1 ρ' → ExD C k sc ρ' (execs ss) Pn Pr) : ExD C k sc ρ (execs (st :: ss)) Pn Pr := fun env A V s V0 s0 he hf hfr hr S F O X f E Q qn qr =>
  wpD_execs_cons (h1 env A V s V0 s0 he hf hfr hr S F O X f E _ (fun ρ' V' s' X' S' F' hp => h2 ρ' hp env A V' s' V0 s0 he hf hfr hr S' F' O X' f E Q qn qr) fun v d V' s' X' S' r hp => qr v d V' s' X' S' r hp)
theorem ExD.step {st : Stmt} {ss : List Stmt} (h1 : ExD C k sc ρ (exec st) (fun r => r = ρ') Pr) (h2 : ExD C k sc ρ' (execs ss) Pn Pr) : ExD C k sc ρ (execs (st :: ss)) Pn Pr := ExD.cons h1 fun _ e => e ▸ h2
theorem ExD.stepT {st : Stmt} {ss : List Stmt} (h1 : Ex1 C k sc ρ st (fun r => r = ρ') Pr) (h2 : ExD C k sc ρ' (execs ss) Pn Pr) : ExD C k sc ρ (execs (st :: ss)) Pn Pr := ExD.step (.of h1) h2
theorem ExD.nil (h : Pn ρ) : ExD C k sc ρ (execs []) Pn Pr := .of (Ex.nil h)
theorem Ex1.tryOk {body : List Stmt} {h0 : ExceptHandler} {hs : List ExceptHandler} {pos : Pos} (h : Ex C k sc ρ body Pn Pr) : Ex1 C k sc ρ (.Try body (h0 :: hs) [] [] pos) Pn Pr := fun env A V s V0 s0 he hr S F O X f E Q qn qr =>
  wpAny_Try_except (h env A V s V0 s0 he hr S F O X f _ _ (fun ρ' V' s' X' S' F' hp => wpAny_execs_nil (qn ρ' V' s' X' S' F' hp)) fun v d V' s' X' S' r hp => qr v d V' s' X' S' r hp)
noncomputable def wide (r : List Int) : Bool := decide (2 ≤ mx r - mn r)
noncomputable abbrev pk6 {t} {f e b} {ks} {p1 p2} {r1 r2 r3 r4} : PickE Expr (Stmt.Try [Stmt.Assign t (Expr.Call f [e, b] ks p1) p2] r1 r2 r3 r4) := e
noncomputable abbrev e6 : Expr := by change PickE Expr lt6.1; exact pk6
theorem Ev.wides (H : Hd C) {w : List Nat} (hw : w.length ≤ 100) (h0 : ρ.get i_counts = some (.list ((countsOf w).map .ints))) : Ev C 30 lawSc ρ e6 (.list (((countsOf w).map wide).map .bool)) := by
  have hc : (countsOf w).length = w.length + 1 := by simp [countsOf]
  refine' Ev.cast (Ev.compMap (countsOf w) (fun r => [(i_row, .ints r)]) (fun r => .bool (wide r)) [] (ItE.ofL (countsOf w) D.ints rfl (Ev.name rfl h0)) (Sees.of [] ?s1 fr_nil) ?l1 ?e1 ?z1) ?c
  case s1 => decide +kernel
  case l1 => intro c _ p hp; rcases List.mem_singleton.mp hp with rfl; rfl
  case z1 => rw [sizeLine_eq]; lia
  case e1 =>
    intro r hr
    have hne : r ≠ [] := row_ne hr
    exact Ev.call (x := Str.ofString "ge") rfl (gfge H) (kr H (by rw [H.K]; kernel_rfl)) (EvL.cons (Ev.call (x := Str.ofString "sub") rfl (gfsub H) (kr H (by rw [H.K]; kernel_rfl)) (EvL.cons (Ev.call (x := Str.ofString "max") rfl (gb_max H) (.inl ⟨_, rfl⟩) (EvL.cons (Ev.name (i := i_row) (d := .ints r) rfl (by walk_at "lk")) .nil) (CallR.max hne))
      (EvL.cons (Ev.call (x := Str.ofString "min") rfl (gb_min H) (.inl ⟨_, rfl⟩) (EvL.cons (Ev.name (i := i_row) (d := .ints r) rfl (by walk_at "lk")) .nil) (CallR.min hne)) .nil)) (subC (k := 28) H)) (EvL.cons Ev.int .nil)) (geC (k := 28) H)
  case c => rw [List.map_map]; rfl
theorem t6a (H : Hd C) {w : List Nat} {L : Nat} (hw : w.length ≤ 100) (h0 : ρ.get i_counts = some (.list ((countsOf w).map .ints))) (hL : L < ((countsOf w).map wide).length) (ht : ((countsOf w).map wide)[L] = true) (hf : ∀ j (h : j < ((countsOf w).map wide).length), j < L → ((countsOf w).map wide)[j] = false) :
    LW C ρ lt6.1 fun r => r = (i_found, .int L) :: ρ := by
  refine' Ex1.tryOk (Ex.step (Ex1.assign (i := i_found) rfl (Ev.call (x := Str.ofString "indexOf") rfl (gfindexOf H) (kr H (by rw [H.K]; kernel_rfl)) (EvL.cons (Ev.wides H hw h0) (EvL.cons Ev.bool .nil)) (indexOfC (k := 28) H hL ht hf)) (.inl rfl) ?sw) (Ex.nil rfl))
  case sw => walk_at "swp"
end
section
variable {C : Cx} {k : Nat} {sc : Scope} {ρ ρ' : Asn} {Pn P1 : Asn → Prop} {Pr : D → Prop} {env : Env} {V V' V0 : View} {s s' s0 : Shared} {base : Heap} {e t : Addr} {u : Tok}
theorem Refused.frm (R : Refused C env V s V' base e t u s') (S : St C V s) (F : Frm C env ρ V s.heap) {h' : Heap} (hu : s'.heap.UpToSlots h') : Frm C env ρ V' h' := by
  obtain ⟨s₂, hsl, hkk⟩ := R.slots
  have hs := hsl.trans hu
  refine ⟨F.kind, F.glob, F.blt, ?_, ?_, fun x c hc => ?_, F.has, F.inj, F.knd⟩
  · refine hid fun G hG => ?_
    obtain ⟨m, ⟨o, es, ep, ho, hd, r⟩, b⟩ := F.ns
    obtain ⟨sl, h1⟩ := hs _ _ (hkk _ _ (ne_tab_of_dict S.tab ho hd) ho) fun vs q => by rw [hd] at q; cases q
    refine hG ?_
    exact ⟨m, ⟨_, es, ep, h1, hd, r⟩, fun i d hi hk => let ⟨v, hv, hr⟩ := b i d hi hk; ⟨v, hv, hr.mono R.mono⟩⟩
  · obtain ⟨m, ⟨o, es, ep, ho, hd, r⟩, b⟩ := F.ns
    exact (R.same _ _ ho).trans F.locFree
  · refine hid fun G hG => ?_
    obtain ⟨f, v, ⟨o, e, d⟩, g⟩ := F.cells x c hc
    have hne : c ≠ tabA := by
      rintro rfl
      obtain ⟨ps, e', _⟩ := S.tab
      rw [e'] at e; cases e; cases d
    obtain ⟨sl, h1⟩ := hs _ _ (hkk _ _ hne e) fun vs q => by rw [d] at q; cases q
    refine hG ?_
    exact ⟨f.imp (fun q => (R.same _ _ e).trans q) id, v, ⟨_, h1, d⟩, fun i d hi hk e => let ⟨u, hu, hr⟩ := g i d hi hk e; ⟨u, hu, hr.mono R.mono⟩⟩
theorem Refused.st (R : Refused C env V s V' base e t u s') {h' : Heap} (hb : base.StaysIn h') {tk : Nat} (ht : C.n ≤ tk) : St C V' { s' with heap := h', toks := tk } :=
  ⟨R.g0, fun b o e => hb _ _ (R.frozen _ _ e), R.tab.at (.refl _) fun o e => hb _ _ e, R.tabV, R.gens, R.os, ht⟩
theorem Refused.ext (R : Refused C env V s V' base e t u s') (X : Ext V0 s0 V s) (f : Fresh env s0) {h' : Heap} (hb : base.StaysIn h') {tk : Nat} : Ext V0 s0 V' { s' with heap := h', toks := tk } := by
  refine ⟨X.mono.trans R.mono, fun a o e => ?_, fun a o ha e => ?_, fun o e => ?_⟩
  · by_cases ha : a = tabA
    · subst ha
      obtain ⟨o', e'⟩ := X.tab o e
      exact (R.same _ _ e').trans (X.same _ _ e)
    · exact (R.same a o (X.keep a o ha e)).trans (X.same a o e)
  · exact hb _ _ (R.kept a o ha (fun q => by rw [q, f.loc] at e; cases e) (X.keep a o ha e))
  · obtain ⟨ps, h, _⟩ := R.tab
    exact ⟨_, hb _ _ h⟩
theorem assign_raw {A : Around} {x : PySem.Str} {p pos : Pos} {e : Expr} {E : Value → Shared → Prop} {Q : Flow → Shared → Prop} (hs : swapsWithSole [.Name x p] e pos.line env = pure false) (hv : swappedStores [.Name x p] e env = pure none)
    (h : wpAny C.M A (eval e env) (fun v s₁ => wpAny C.M A (storeName env x v) (fun _ s₂ => Q .next s₂) E s₁) E s) : wpAny C.M A (exec (.Assign [.Name x p] e pos) env) Q E s := by
  have e0 : exec (.Assign [.Name x p] e pos) env = (do
      standAt pos
      if ← swapsWithSole [.Name x p] e pos.line env then do
        evalThenUse e env fun v => assignAll v ((assignEach [.Name x p] env).map (·.2))
        pure .next
      else do
        let v ← eval e env
        assignStores env v (← swappedStores [.Name x p] e env) ((assignEach [.Name x p] env).map (·.2))) := rfl
  rw [e0, hs, hv]
  refine wpAny_bind (wpAny_standAt (wpAny_bind (wpAny_pure ?_)))
  simp only [Bool.false_eq_true, if_false]
  refine wpAny_bind (wpAny_mono h (fun v s₁ h₁ => wpAny_bind (wpAny_pure ?_)) fun _ _ x => x)
  show wpAny _ A (do PySem.assign (.Name x p) env v; pure .next) Q E s₁
  exact wpAny_bind (wpAny_assign_Name (wpAny_mono h₁ (fun _ _ h => wpAny_pure h) fun _ _ x => x))
end
section
variable {C : Cx} {ρ : Asn} {Pr : D → Prop}
theorem t6b (H : Hd C) {w : List Nat} (hw : w.length ≤ 100) (h0 : ρ.get i_counts = some (.list ((countsOf w).map .ints))) (hf : ∀ b ∈ (countsOf w).map wide, b = false) (hne : ρ.get i_error = none) :
    ExD C 30 lawSc ρ (exec lt6.1) (fun r => r = (i_found, .str refusal) :: ρ) Pr := fun env A V s V0 s0 he hfe hfr hr S F O X f E Q qn qr => wpD_of (by
  have kE : env.scope.names.lookup (Str.ofString "error") = some .local := by rw [he]; rfl
  have kF : env.scope.names.lookup (Str.ofString "found") = some .local := by rw [he]; rfl
  unfold lt6
  refine wpAny_Try_except (wpAny_execs_cons (assign_raw (x := Str.ofString "found") ?sw1 rfl ?_))
  case sw1 => rfl
  refine wpAny_bind (Name_function_global F.kind (by show env.scope.names.lookup _ = _; rw [he]; rfl) ((gfindexOf H).load S F ?_) (by decide))
  have hkr : KeepR C (.ref 129) := kr H (by rw [H.K]; kernel_rfl)
  rcases hkr with ⟨id, h⟩ | ⟨T, h⟩ | ⟨a, o, fd, h, ho, hd⟩
  · cases h
  · cases h
  cases h
  refine callWith_function (o := o) (fd := fd) (evalArgs_of rfl ((EvL.cons (Ev.wides H hw h0) (EvL.cons Ev.bool .nil)) env A V s _ he hr S F _ _ fun vs V1 s1 X1 S1 rs => ⟨⟨S1.sub _ _ (S1.base _ _ ho), hd⟩, ?_⟩))
  have F1 := F.ext S X1
  obtain ⟨m1, hm1, _⟩ := id F1.ns
  refine indexOf_raise (k := 28) H hf hr S1 rs hfr (by rw [he]; rfl) hfe hm1 F1.locFree fun V' base e t u s' R => ?_
  have hbl : base.get? env.locals = none := by
    refine hid fun G hG => ?_
    obtain ⟨_, ⟨L, oo, hL, hb, _⟩, _⟩ := R.fly.2.2.1
    refine hG ?_
    rw [hfe] at hL
    cases hL
    exact hb
  refine wpAny_looks_onW (outer := []) hfr hfe R.fly fun h₄ hheld₄ hsm₄ => ?_
  refine wpAny_landsW hheld₄ fun h₅ hfl₅ hsm₅ => ?_
  have hs5 := hsm₄.trans hsm₅
  have S5 : St C V' { s' with heap := h₅ } := R.st (tk := s'.toks) hfl₅.1 R.tk
  have F5 : Frm C env ρ V' h₅ := R.frm S1 F1 hs5
  refine wpAny_handleBy_builtin_as (X := "ValueError") (T := "ValueError") (b := true) (by rw [isSubtype_type]; kernel_rfl) (by rw [isSubtype_type]; kernel_rfl) (by rw [isSubtype_type]; kernel_rfl) ?_
  refine Name_function_global F5.kind (by show env.scope.names.lookup _ = _; rw [he]; rfl) ((gb_ValueError H).load S5 F5 ⟨rfl, ?_, ?_⟩) (by decide)
  · refine hid fun G hG => ?_
    obtain ⟨ob, hob, hoc⟩ := hfl₅.there
    refine hG ?_
    exact ⟨ob, hob, hoc⟩
  rw [if_pos rfl]
  refine lands_againW hfl₅ fun h₆ hfl₆ hsm₆ => ?_
  have hs6 := hs5.trans hsm₆
  have S6 : St C V' { s' with heap := h₆ } := R.st (tk := s'.toks) hfl₆.1 R.tk
  have F6 : Frm C env ρ V' h₆ := R.frm S1 F1 hs6
  refine hid fun G hG => ?_
  obtain ⟨oe, ws, hoe, hoec, hoed, hoe0⟩ := hfl₆.first
  obtain ⟨ot, nt, hot, hotc, hotd⟩ := R.tup.of_slots hs6
  obtain ⟨m6, ⟨o6, es6, ep6, ho6, hd6, _⟩, _⟩ := id F6.ns
  refine hG ?_
  have neE : e ≠ env.locals := fun q => by rw [q, ho6] at hoe; cases hoe; rw [hd6] at hoed; cases hoed
  have neT : t ≠ env.locals := fun q => by rw [q, ho6] at hot; cases hot; rw [hd6] at hotd; cases hotd
  refine F6.storeL (i := i_error) S6 kE (.own e) fun h₇ tk₇ k₇ _ S7 F7 => ?_
  refine wpAny_execs_cons (assign_raw (x := Str.ofString "found") ?sw2 rfl ?_)
  case sw2 => rfl
  refine wpAny_bind (Name_function_global F7.kind (by show env.scope.names.lookup _ = _; rw [he]; rfl) ((gb_str H).load S7 F7 ?_) (by decide))
  refine hid fun G hG => ?_
  obtain ⟨m7, hn7, hm7⟩ := id F7.ns
  obtain ⟨v7, hv7, r7⟩ := hm7 i_error (.own e) (by walk_at "lk") kE
  refine hG ?_
  have e7 : v7 = .ref e := r7.is
  subst e7
  refine PySem.callWith_type rfl (evalArgs_of rfl (Calls.spliced_cons ?_))
  rw [if_neg Bool.false_ne_true]
  refine wpAny_Name (x := Str.ofString "error") (wpAny_loadName_local F7.kind kE hn7 hv7 (Calls.spliced_nil ?_)) (by decide)
  refine PySem.P.str_of_exc_one (m := refusal) (tk := u) PySem.F.excStr_ValueError ?hu (t0 := t) ⟨oe, ws, (k₇ e neE).trans hoe, hoec, hoed, hoe0⟩ ⟨ot, nt, (k₇ t neT).trans hot, hotc, hotd⟩ ?_
  case hu => have := hr.2.1; show A.units + 2 < cLine; simp only [cLine]; lia
  refine F7.storeL (i := i_found) S7 kF (.str refusal u) fun h₈ tk₈ k₈ _ S8 F8 => ?_
  refine wpAny_execs_nil ?_
  obtain ⟨m8, hn8, hm8⟩ := id F8.ns
  refine wpAny_nameGoes_keeps kE hn8 (kindFn F8.kind) fun h₉ v9 hn9 hs9 => ?_
  have hb9 : base.StaysIn h₉ := fun b o hb => by
    have hbn : b ≠ env.locals := fun q => by rw [q, hbl] at hb; cases hb
    exact ((hs9.2 b hbn).trans ((k₈ b hbn).trans (k₇ b hbn))).trans (hfl₆.1 b o hb)
  have htk : C.n ≤ tk₈ + 1 := Nat.le_succ_of_le S8.tk
  refine qn ((i_found, .str refusal) :: ρ) V' _ (R.ext (X.trans X1) f hb9) (R.st hb9 htk) ?_ rfl
  refine ⟨F8.kind, F8.glob, F8.blt, ⟨_, hn9, fun i d hi hk => ?_⟩, F8.locFree, fun x c hc => ?_, F8.has, F8.inj, fun i d hi => ?_⟩
  · have hie : i ≠ i_error := fun q => by
      subst q
      rcases Asn.cons_inv hi with ⟨h, _⟩ | ⟨_, h⟩
      · cases h
      · rw [hne] at h; cases h
    have hi8 : Asn.get ((i_found, .str refusal) :: (i_error, .own e) :: ρ) i = some d := by
      rcases Asn.cons_inv hi with ⟨rfl, rfl⟩ | ⟨h1, h⟩
      · exact Asn.here
      · exact Asn.there h1 (Asn.there hie h)
    obtain ⟨v, hv, hr⟩ := hm8 i d hi8 hk
    refine ⟨v, ?_, hr⟩
    show (if nm i = nm i_error then v9 else m8 (nm i)) = some v
    rw [if_neg fun q => hie (nm_inj (j := i_error) q)]
    exact hv
  · refine hid fun G hG => ?_
    obtain ⟨f1, v, ⟨o, e1, d1⟩, g⟩ := F8.cells x c hc
    refine hG ?_
    have hcl : c ≠ env.locals := fun q => by
      obtain ⟨o', es, ep, e', dd', _⟩ := hn8
      rw [q, e'] at e1; cases e1; rw [d1] at dd'; cases dd'
    refine ⟨f1, v, ⟨o, (hs9.2 c hcl).trans e1, d1⟩, fun i d hi hk hg => ?_⟩
    have hie : i ≠ i_error := fun q => by
      subst q
      rcases Asn.cons_inv hg with ⟨h, _⟩ | ⟨_, h⟩
      · cases h
      · rw [hne] at h; cases h
    refine g i d hi hk ?_
    rcases Asn.cons_inv hg with ⟨rfl, rfl⟩ | ⟨h1, h⟩
    · exact Asn.here
    · exact Asn.there h1 (Asn.there hie h)
  · rcases Asn.cons_inv hi with ⟨rfl, rfl⟩ | ⟨h1, h⟩
    · exact .inl kF
    · exact F.knd i d h)
end
section
variable {C : Cx} {ρ : Asn} {Pr : D → Prop} {env : Env} {s : Shared}
theorem assign_rawD {A : Around} {x : PySem.Str} {p pos : Pos} {e : Expr} {E : Value → Shared → Prop} {Q : Flow → Shared → Prop} (hs : swapsWithSole [.Name x p] e pos.line env = pure false) (hv : swappedStores [.Name x p] e env = pure none)
    (h : wpD C.M A (eval e env) (fun v s₁ => wpAny C.M A (storeName env x v) (fun _ s₂ => Q .next s₂) E s₁) E s) : wpD C.M A (exec (.Assign [.Name x p] e pos) env) Q E s := by
  have e0 : exec (.Assign [.Name x p] e pos) env = (do
      standAt pos
      if ← swapsWithSole [.Name x p] e pos.line env then do
        evalThenUse e env fun v => assignAll v ((assignEach [.Name x p] env).map (·.2))
        pure .next
      else do
        let v ← eval e env
        assignStores env v (← swappedStores [.Name x p] e env) ((assignEach [.Name x p] env).map (·.2))) := rfl
  rw [e0, hs, hv]
  refine wpD_bindL (wpAny_standAt (wpD_bindL (wpAny_pure ?_)))
  simp only [Bool.false_eq_true, if_false]
  refine wpD_bindR (wpD_mono h (fun v s₁ h₁ => wpAny_bind (wpAny_pure ?_)) fun _ _ x => x)
  show wpAny _ A (do PySem.assign (.Name x p) env v; pure .next) Q E s₁
  exact wpAny_bind (wpAny_assign_Name (wpAny_mono h₁ (fun _ _ h => wpAny_pure h) fun _ _ x => x))
theorem t1 (H : Hd C) {w : List Nat} (hw0 : 0 < w.length) (hw : w.length ≤ 100) (ha : AB w) (h1 : ρ.get i_word = some (.str (sL w))) (h2 : ρ.get i_other = some (.str (sL (otherW w)))) (h3 : ρ.get i_size = some (.int w.length)) :
    ExD C 30 lawSc ρ (exec lt1.1) (fun r => r = (i_turned, .bytes (bA (turnedW w))) :: ρ) Pr := fun env A V s V0 s0 he hfe hfr hr S F O X f E Q qn qr => by
  have kT : env.scope.names.lookup (Str.ofString "turned") = some .local := by rw [he]; rfl
  have hl : (w ++ otherW w).length = 2 * w.length := by simp [other_len]; lia
  have hlt : ∀ c ∈ w ++ otherW w, c < 256 := (ha.app (AB.other w)).lt
  have hsw : swp (w ++ otherW w) w.length 2 = turnedW w := by
    rw [swp_two hl, List.take_left' rfl, List.drop_left' rfl]
  have hB := byteswapC (C := C) (k := 28) H hw0 hw hl hlt
  rw [hsw] at hB
  unfold lt1
  refine assign_rawD (x := Str.ofString "turned") ?sw1 rfl ?_
  case sw1 => rfl
  refine wpD_bindL (Name_function_global F.kind (by show env.scope.names.lookup _ = _; rw [he]; rfl) ((gf_byteswap H).load S F ?_) (by decide))
  have hkr : KeepR C (.ref 172) := kr H (by rw [H.K]; kernel_rfl)
  rcases hkr with ⟨id, h⟩ | ⟨T, h⟩ | ⟨a, o, fd, h, ho, hd⟩
  · cases h
  · cases h
  cases h
  have args : EvL C 30 lawSc ρ (match lt1.1 with | .Assign _ (.Call _ as _ _) _ => as | _ => []) [.bytes (bA (w ++ otherW w)), .int w.length] :=
    EvL.cons (Ev.call (x := Str.ofString "_law_octets") rfl (gf_law_octets H) (kr H (by rw [H.K]; kernel_rfl)) (EvL.cons (Ev.bin (Ev.name rfl h1) (Ev.name rfl h2) (addSL (by simp [other_len]; lia))) .nil) (octetsC (k := 28) H (by lia) hlt)) (EvL.cons (Ev.name rfl h3) .nil)
  refine wpD_callWith_function (o := o) (fd := fd) (evalArgs_of rfl (args env A V s _ he hr S F _ _ fun vs V1 s1 X1 S1 rs => ⟨⟨S1.sub _ _ (S1.base _ _ ho), hd⟩, ?_⟩))
  have F1 := F.ext S X1
  refine hB A V1 s1 vs hr S1 rs _ _ fun v V2 s2 X2 S2 r => ?_
  have F2 := F1.ext S1 X2
  refine F2.store (i := i_turned) S2 (.inl kT) r fun h' tk k1 k2 S3 F3 => ?_
  exact qn _ V2 _ (Ext.store ((X.trans X1).trans X2) f S3 k1) S3 F3 rfl
end
section
variable {C : Cx} {k : Nat} {sc : Scope} {ρ ρ' : Asn} {Pn P1 : Asn → Prop} {Pr : D → Prop}
theorem ExD.for {α : Type} (xs : List α) (g : α → Asn) (inv : Nat → Asn) (J : Nat → Prop) {tgt iter : Expr} {body : List Stmt} {pos : Pos} (hIt : ItE C k sc ρ iter tgt (xs.map g))
    (hg : ∀ x ∈ xs, ∀ q ∈ g x, sc.names.lookup (nm q.1) = some .local ∨ sc.names.lookup (nm q.1) = some .cell) (h0 : Asn.Le (inv 0) ρ) (J0 : J 0)
    (hb : ∀ i (h : i < xs.length), J i → ExD C k sc (g xs[i] ++ inv i) (execs body) (fun ρ' => Asn.Le (inv (i + 1)) ρ' ∧ J (i + 1)) Pr) (hend : J xs.length → Pn (inv xs.length))
    (hs : ∀ env x, foldedSetIterable iter env x = pure x := by intro _ _; rfl) : ExD C k sc ρ (exec (.For tgt iter body [] pos)) Pn Pr := fun env A V s V0 s0 he hfe hfr hr S F O X f E Q qn qr => by
  refine wpD_For (hIt env A V s he hr S F E _ fun it V2 s2 fp wr P X2 S2 I hP hw hfp hal => ?_) (hs env)
  have F2 := F.ext S X2
  have own : ∀ a, (a = env.locals ∨ a ∈ env.cells.map (·.2)) → a ∉ fp ∧ a ∉ wr := fun a ha => by
    have h1 : (∃ o, s.heap.get? a = some o) ∧ V2 a = none := by
      rcases ha with rfl | ha
      · refine hid fun G hG => ?_
        obtain ⟨m, ⟨o, es, ep, e, _⟩, _⟩ := F.ns
        refine hG ?_
        exact ⟨⟨o, e⟩, F2.locFree⟩
      · refine hid fun G hG => ?_
        obtain ⟨x, hx⟩ := O.once a ha
        obtain ⟨_, v, ⟨o, e, _⟩, _⟩ := F.cells x a hx
        refine hG ?_
        exact ⟨⟨o, e⟩, (F2.cells x a hx).1.resolve_right fun q => q (O.own x a hx)⟩
    obtain ⟨⟨o, e⟩, h2⟩ := h1
    have h3 : a ∉ fp := fun hm => by
      rcases hfp a hm with h | h
      · rw [h2] at h; cases h
      · rw [h.1] at e; cases e
    exact ⟨h3, fun hm => h3 (I.sub _ hm)⟩
  have ownT : ∀ b a, Tgt env b a → a = env.locals ∨ a ∈ env.cells.map (·.2) := fun b a h => h.imp id fun ⟨p, _, _, hc⟩ => mem_cells hc
  refine codeD_forLoop (LInv C env inv (fun i _ _ => J i) P xs.length fp wr V0 V2 s0) (fun n s' hI => ?_) (xs.length + 1) ?_
  · obtain ⟨i, V', hi, rfl, hPi, X', S', hV', hVw, F', hJ, hal'⟩ := hI
    by_cases hlt : i < xs.length
    · have hb' : (xs.map g)[i]? = some (g xs[i]) := by rw [List.getElem?_map, List.getElem?_eq_getElem hlt]; rfl
      have hx : xs[i] ∈ xs := List.getElem_mem hlt
      refine wpAny_mono (I.step i _ hb' env (inv i) V' s' _ (fun s₂ => wpD C.M A (execs body env) (fun f s₃ => match f with
            | .next | .cont => ∃ m, m < xs.length + 1 - i ∧ LInv C env inv (fun i _ _ => J i) P xs.length fp wr V0 V2 s0 m s₃
            | .brk => Q .next s₃
            | .ret v => Q (.ret v) s₃) _ s₂)
        hV' S' hVw hPi F' (fun a ha => (own a (ownT _ a ha)).1) (fun x c hc => (own c (.inr (mem_cells hc))).2) (fun q hq => by rw [he]; exact hg _ hx q hq) fun s3 hP3 S3 F3 hk3 hl3 => ?_)
        (fun r s₁ h => by obtain ⟨v, rfl, h⟩ := h; exact h) fun _ _ e => e
      have X3 : Ext V0 s0 V' s3 := ⟨X'.mono, X'.same, fun a o ha e => hk3 a o (fun hm => by
          have h1 := (hw a hm).1
          rw [X.keep a o ha e] at h1; cases h1) (fun hT => by
          rcases ownT _ a hT with rfl | hc
          · rw [f.loc] at e; cases e
          · obtain ⟨x, hx⟩ := O.once a hc
            rw [f.cell x a hx] at e; cases e) (X'.keep a o ha e), fun o e => let ⟨ps, h, _⟩ := S3.tab; ⟨_, h⟩⟩
      have fpne : ∀ b ∈ fp, b ≠ tabA := fun b hb q => by
        subst q
        rcases hfp _ hb with h | h
        · rw [S2.tabV] at h; cases h
        · obtain ⟨ps, h', _⟩ := S.tab; rw [h.1] at h'; cases h'
      have hal3 : ∀ b ∈ fp, ∃ o, s3.heap.get? b = some o := fun b hb => by
        by_cases hbw : b ∈ wr
        · exact I.alive _ _ hP3 b hbw
        · obtain ⟨o, e⟩ := hal' b hb; exact hl3 b o hbw e
      refine hb i hlt hJ env A V' s3 V' { s3 with heap := hidden env s3.heap } he hfe hfr hr S3 F3 O (Ext.hide S3) .hidden _ _ (fun ρ' V4 s4 X4 S4 F4 hp => ?_) fun v d V4 s4 X4 S4 r hp => qr v d V4 s4 (Ext.unhide S3 F3 O X3 f X4) S4 r hp
      have keep4 : ∀ b ∈ fp, ∀ o, s3.heap.get? b = some o → s4.heap.get? b = some o := fun b hb o e =>
        X4.keep b o (fpne b hb) (hidden_get e (fun q => (own b (.inl q)).1 hb) fun q => (own b (.inr q)).1 hb)
      refine ⟨xs.length + 1 - (i + 1), by lia, i + 1, V4, hlt, rfl, I.frame _ _ _ hP3 keep4, Ext.unhide S3 F3 O X3 f X4, S4, hV'.trans X4.mono, fun b hbw => ?_, F4.le hp.1, hp.2, fun b hb => let ⟨o, e⟩ := hal3 b hb; ⟨o, keep4 b hb o e⟩⟩
      obtain ⟨o, e⟩ := I.alive _ _ hP3 b hbw
      rw [X4.same b o (hidden_get e (fun q => (own b (.inl q)).2 hbw) fun q => (own b (.inr q)).2 hbw)]
      exact hVw b hbw
    · have hie : i = xs.length := by lia
      subst hie
      refine wpAny_mono (I.done V' s' _ (fun s₁ => Q .next s₁) S' hVw (by rw [List.length_map]; exact hPi) fun s3 S3 hk3 => ?_) (fun r s₁ h => by obtain ⟨rfl, h⟩ := h; exact wpAny_execs_nil h) fun _ _ e => e
      have X3 : Ext V0 s0 V' s3 := ⟨X'.mono, X'.same, fun a o ha e => hk3 a o (fun hm => by
          have h1 := (hw a hm).1
          rw [X.keep a o ha e] at h1; cases h1) (X'.keep a o ha e), fun o e => let ⟨ps, h, _⟩ := S3.tab; ⟨_, h⟩⟩
      exact qn _ V' s3 X3 S3 (F'.stay (fun o e => hk3 _ o (own _ (.inl rfl)).2 e) fun x c o hc e => hk3 _ o (own _ (.inr (mem_cells hc))).2 e) (hend hJ)
  · exact ⟨0, V2, Nat.zero_le _, rfl, hP, X.trans X2, S2, .refl V2, fun b hb => (hw b hb).2, F2.le h0, J0, hal⟩
end
noncomputable def basesL : List Nat := [11, 3, 5, 7, 4, 9, 13, 6, 961, 5311]
noncomputable def pickI (xs : List Int) (k : Nat) : List Int := (sliceRange (sliceBounds (some (k : Int)) (some (60 : Int)) (some (10 : Int)) xs.length).1 (sliceBounds (some (k : Int)) (some (60 : Int)) (some (10 : Int)) xs.length).2.1 (sliceBounds (some (k : Int)) (some (60 : Int)) (some (10 : Int)) xs.length).2.2).filterMap (xs[·]?)
theorem pick_D (xs : List Int) (k : Nat) : sliceL (xs.map D.int) (some (k : Int)) (some (60 : Int)) (some (10 : Int)) = (pickI xs k).map D.int := by
  unfold sliceL pickI
  rw [List.length_map, List.map_filterMap]
  congr 1
  funext i
  rw [List.getElem?_map]
section
variable {C : Cx} {k : Nat} {sc : Scope} {ρ ρ' : Asn} {Pn P1 : Asn → Prop} {Pr : D → Prop}
theorem ev_bases : Ev C 30 lawSc ρ (match ls0.1 with | .Assign _ e _ => e | _ => default) (.nats basesL) := by
  unfold ls0
  with_reducible refine Ev.cast (d := .list [.int 11, .int 3, .int 5, .int 7, .int 4, .int 9, .int 13, .int 6, .int 961, .int 5311]) ?y ?x
  case x => rfl
  with_reducible refine Ev.list ?l ?z
  case z => show 10 ≤ sizeLine; decide
  case l =>
    with_reducible refine EvL.cons Ev.int ?a ?b
    case b => intro _; rfl
    case a => exact EvL.cons Ev.int (EvL.cons Ev.int (EvL.cons Ev.int (EvL.cons Ev.int (EvL.cons Ev.int (EvL.cons Ev.int (EvL.cons Ev.int (EvL.cons Ev.int (EvL.cons Ev.int .nil))))))))
theorem pick_len {xs : List Int} {k : Nat} (h : xs.length ≤ 63) : (pickI xs k).length ≤ 100 := by
  unfold pickI
  refine Nat.le_trans (List.length_filterMap_le _ _) ?_
  unfold sliceBounds sliceRange
  simp only [Option.getD_some, show (10 : Int) > 0 by decide, if_true, List.length_map, List.length_range, show ¬ ((k : Int) < 0) by omega, show ¬ ((60 : Int) < 0) by decide, if_false]
  split <;> omega
noncomputable def modI (x : Int) : Nat := (x.fmod 1000000).toNat
theorem mod_ok (x : Int) : x.fmod 1000000 = ((modI x : Nat) : Int) ∧ modI x < 1000000 := by
  unfold modI
  lia
noncomputable def cellN (xs : List Int) (k b : Nat) : Nat := b + ((pickI xs k).map modI).sum
noncomputable def cellsW (xs : List Int) : List Nat := ((List.range basesL.length).zip basesL).map fun d => cellN xs d.1 d.2
theorem cells_len (xs : List Int) : (cellsW xs).length = 10 := by simp [cellsW, basesL]
theorem sum_cast : ∀ l : List Nat, (l.map fun (n : Nat) => (n : Int)).sum = (l.sum : Nat)
  | [] => rfl
  | a :: r => by rw [List.map_cons, List.sum_cons, sum_cast r, List.sum_cons]; push_cast; rfl
theorem s1 (H : Hd C) {xs : List Int} (hx : xs.length ≤ 63) (h0 : ρ.get i_script = some (.list (xs.map .int))) (h1 : ρ.get i_bases = some (.nats basesL)) : LW C ρ ls1.1 fun r => r = (i_cells, .nats (cellsW xs)) :: ρ := by
  refine' Ex1.assign (i := i_cells) rfl (Ev.cast (Ev.compMap ((List.range basesL.length).zip basesL) (fun d => [(i_base, .int (d.2 : Nat)), (i_k, .int (d.1 : Nat))]) (fun d => .int (cellN xs d.1 d.2 : Nat)) [(i_script, .list (xs.map .int))]
    (ItE.enumL basesL (fun n => .int (n : Nat)) rfl rfl rfl (gb_enumerate H) (Ev.name rfl h1)) (Sees.of [i_script] ?sees (fr_cons h0 fr_nil)) ?loc ?el ?sz) ?cast) (.inr rfl) ?sw
  case sees => decide +kernel
  case loc =>
    intro x _ p hp
    rcases List.mem_cons.mp hp with rfl | hp
    · rfl
    · rcases List.mem_singleton.mp hp with rfl; rfl
  case sz => show 10 ≤ sizeLine; decide
  case cast => unfold cellsW D.nats; rw [List.map_map]; rfl
  case sw => walk_at "swp"
  case el =>
    intro d hd
    have hl := pick_len (k := d.1) hx
    refine Ev.cast (Ev.bin (Ev.name (i := i_base) (d := .int (d.2 : Nat)) rfl (by walk_at "lk")) (Ev.call (x := Str.ofString "sum") rfl (gb_sum H) (.inl ⟨_, rfl⟩) (EvL.cons (Ev.cast (Ev.compMap (pickI xs d.1) (fun x => [(i_x, .int x)]) (fun x => .int (modI x : Nat)) [] (ItE.intsN rfl (Ev.cast (Ev.slice (Ev.name (i := i_script) (d := .list (xs.map .int)) rfl (by walk_at "lk")) (.some (Ev.name (i := i_k) (d := .int (d.1 : Nat)) rfl (by walk_at "lk"))) (.some Ev.int) (.some Ev.int) (by show "list" ≠ "?"; decide) PySem.F.slot_list_getitem.lookup (SlR.list (by decide) (by rw [List.length_map]; lia))) (by rw [pick_D])))
      (Sees.of [] ?s2 fr_nil) ?l2 ?e2 ?z2) (d' := .list ((((pickI xs d.1).map modI).map fun (n : Nat) => (n : Int)).map .int)) (by rw [List.map_map, List.map_map]; rfl)) .nil) (CallR.sum ?f1 ?f2)) Op2.addI) ?c2
    case s2 => decide +kernel
    case l2 => intro x _ p hp; rcases List.mem_singleton.mp hp with rfl; rfl
    case z2 => rw [sizeLine_eq]; lia
    case e2 =>
      intro x _
      refine Ev.cast (Ev.bin (Ev.name (i := i_x) (d := .int x) rfl (by walk_at "lk")) (Ev.cast (Ev.bin Ev.int Ev.int (Op2.powN (a := 10) (n := 6) (by decide) (by decide))) (d' := .int 1000000) rfl) (Op2.modI (by decide))) (congrArg D.int (mod_ok x).1)
    case f1 =>
      intro n hn
      obtain ⟨m, hm, rfl⟩ := List.mem_map.mp hn
      obtain ⟨x, _, rfl⟩ := List.mem_map.mp hm
      have := (mod_ok x).2
      lia
    case f2 => rw [List.length_map, List.length_map]; lia
    case c2 =>
      rw [sum_cast]
      unfold cellN
      push_cast; rfl
end
noncomputable def word0 (cs : List Nat) : List Nat := (cs.take 8).map fun c => if c % 2 = 0 then 97 else 98
theorem word0_AB (cs : List Nat) : AB (word0 cs) := fun c hc => by
  obtain ⟨d, _, rfl⟩ := List.mem_map.mp hc
  by_cases h : d % 2 = 0
  · rw [if_pos h]; exact .inl rfl
  · rw [if_neg h]; exact .inr rfl
noncomputable def tailC (cs : List Nat) : Nat := if [10, 13, 46].contains (cs.getD 8 0 / 8 % 256) = true then 99 else cs.getD 8 0 / 8 % 256
theorem tail_plain (cs : List Nat) : Plain (tailC cs) := by
  unfold tailC
  have : cs.getD 8 0 / 8 % 256 < 256 := Nat.mod_lt _ (by decide)
  generalize cs.getD 8 0 / 8 % 256 = z at *
  split
  · exact ⟨by decide, by decide, by decide, by decide⟩
  · rename_i h
    simp at h
    exact ⟨this, h.1, h.2.1, h.2.2⟩
section
variable {C : Cx} {k : Nat} {sc : Scope} {ρ ρ' : Asn} {Pn P1 : Asn → Prop} {Pr : D → Prop}
theorem s2 (H : Hd C) {cs : List Nat} (hc : cs.length = 10) (h0 : ρ.get i_cells = some (.nats cs)) : LW C ρ ls2.1 fun r => r = (i_word, .str (sL (word0 cs))) :: ρ := by
  have hl : (word0 cs).length ≤ 100 := by simp [word0]; lia
  refine' Ex1.assign (i := i_word) rfl (Ev.cast (Ev.join (x := Str.ofString "") (ys := ((word0 cs).map fun c => [c]).map sL) Ev.str (Ev.cast (Ev.compMap (cs.take 8) (fun c => [(i_cell, .int (c : Nat))]) (fun c => .str (sL [if c % 2 = 0 then 97 else 98])) []
    (ItE.ofL (cs.take 8) (fun (n : Nat) => D.int n) rfl (Ev.cast (Ev.hiL (ds := cs.map fun (n : Nat) => D.int n) (n := 8) (Ev.name rfl h0) Ev.int (by rw [List.length_map]; lia)) (by rw [List.map_take]))) (Sees.of [] ?sees fr_nil) ?loc ?el ?sz) ?cast) ?jo) ?fin) (.inr rfl) ?sw
  case sees => decide +kernel
  case loc => intro c _ p hp; rcases List.mem_singleton.mp hp with rfl; rfl
  case sz => rw [List.length_take, sizeLine_eq]; lia
  case el =>
    intro c _
    refine Ev.sub (d1 := .str (sL [97, 98])) (d2 := .int (c % 2 : Nat)) Ev.str (Ev.bin (Ev.name (i := i_cell) (d := .int (c : Nat)) rfl (by walk_at "lk")) Ev.int (Op2.modN (b := 2) (by decide))) (by show "str" ≠ "?"; decide) PySem.F.slot_str_getitem.lookup ?_
    rcases (show c % 2 = 0 ∨ c % 2 = 1 by lia) with h | h
    · rw [h, if_pos rfl]; exact Op2.itemS (by decide) rfl (by decide)
    · rw [h, if_neg (by decide)]; exact Op2.itemS (by decide) rfl (by decide)
  case cast => unfold word0; rw [List.map_map, List.map_map, List.map_map]; rfl
  case jo =>
    refine joinOk_of (n := 1) (m := 100) (fun p hp => ?_) (by simpa using hl) (by decide)
    obtain ⟨q, hq, rfl⟩ := List.mem_map.mp hp
    obtain ⟨c, _, rfl⟩ := List.mem_map.mp hq
    exact Nat.le_of_eq (sL_len _)
  case fin =>
    have := join_sL [] ((word0 cs).map fun c => [c])
    rw [joinL_singles] at this
    exact congrArg D.str this
  case sw => walk_at "swp"
theorem s3 (H : Hd C) {cs : List Nat} (hc : cs.length = 10) (h0 : ρ.get i_cells = some (.nats cs)) : LW C ρ ls3.1 fun r => r = (i_tail, .str (sL [tailC cs])) :: ρ := by
  have ez : ∀ (sc : Scope) (p p2 p3 p4 p5 p6 p7 : Pos) (n1 n2 n3 : Nat), Ev C 30 lawSc ρ (.BinOp (.BinOp (.Subscript (.Name (Str.ofString "cells") p) (.Constant (.int 8) n1 p2) p3) .FloorDiv (.Constant (.int 8) n2 p4) p5) .Mod (.Constant (.int 256) n3 p6) p7) (.int (cs.getD 8 0 / 8 % 256 : Nat)) := fun _ _ _ _ _ _ _ _ _ _ _ =>
    Ev.bin (Ev.bin (Ev.cell (i := 8) (by lia) (by lia) h0) Ev.int (Op2.divN (b := 8) (by decide) (by decide))) Ev.int (Op2.modN (b := 256) (by decide))
  refine' Ex1.assign (i := i_tail) rfl (Ev.cast (Ev.ifexp (c := [10, 13, 46].contains (cs.getD 8 0 / 8 % 256)) (d1 := .str (sL [99])) (d2 := .str (sL [cs.getD 8 0 / 8 % 256])) (Tst.cast (Tst.cmp (d2 := .list (([10, 13, 46] : List Int).map .int)) (ez default _ _ _ _ _ _ _ _ _ _) (Ev.list (EvL.cons Ev.int (EvL.cons Ev.int (EvL.cons Ev.int .nil))) (by show 3 ≤ sizeLine; decide)) Op2.inInts rfl) ?ct) (fun _ => Ev.str) (fun _ => Ev.cast (Ev.call (x := Str.ofString "chr") rfl (gb_chr H) (.inl ⟨_, rfl⟩) (EvL.cons (ez default _ _ _ _ _ _ _ _ _ _) .nil) (CallR.chr (by lia) (by lia))) (by rw [Int.toNat_natCast]))) ?c) (.inl rfl) ?sw
  case ct =>
    generalize cs.getD 8 0 / 8 % 256 = z at *
    by_cases h1 : z = 10
    · subst h1; rfl
    · by_cases h2 : z = 13
      · subst h2; rfl
      · by_cases h3 : z = 46
        · subst h3; rfl
        · have a1 : ((10 : Int) == z) = false := by simp; lia
          have a2 : ((13 : Int) == z) = false := by simp; lia
          have a3 : ((46 : Int) == z) = false := by simp; lia
          simp only [List.any_cons, List.any_nil, a1, a2, a3, Bool.or_false]
          simp [h1, h2, h3]
  case c => unfold tailC; split <;> rfl
  case sw => walk_at "swp"
theorem s4 (H : Hd C) {w : List Nat} {L He : Nat} (hw : w.length ≤ 100) (hb : bendW w = ((L : Int), (He : Int))) (h0 : ρ.get i_word = some (.str (sL w))) : LW C ρ ls4.1 fun r => r = (i_held, .int He) :: (i_least, .int L) :: ρ := by
  have hB := bendC (C := C) (k := 28) H (w := w) (by lia)
  rw [hb] at hB
  refine' Ex1.pairAt (i := i_least) (j := i_held) (d := .tup [.int L, .int He]) rfl rfl (Ev.call (x := Str.ofString "_law_bend") rfl (gf_law_bend H) (kr H (by rw [H.K]; kernel_rfl)) (EvL.cons (Ev.name rfl h0) .nil) hB) (.inl rfl) (.inr rfl) (.inr rfl) ?hs ?hw
  case hs => intro env; rfl
  case hw => intro env he; rfl
theorem s5 (H : Hd C) : LW C ρ ls5.1 fun r => r = (i_named, .strs []) :: (i_dotted, .strs []) :: ρ := by
  refine' Ex1.pairSw (i := i_named) (j := i_dotted) rfl rfl (Ev.tuple (EvL.cons (Ev.list .nil (by show 0 ≤ sizeLine; decide)) (EvL.cons (Ev.list .nil (by show 0 ≤ sizeLine; decide)) .nil)) (by show 2 ≤ sizeLine; decide)) rfl rfl ?hs ?hw
  case hs => intro env; rfl
  case hw => intro env he; unfold swappedStores Env.blockKind Env.kindOf; rw [he]; rfl
end
noncomputable abbrev endsW (w : List Nat) : List (List Nat) := betweenW w w.reverse 97
noncomputable abbrev dotsNW (w : List Nat) : List (List Nat) := betweenW w w.reverse 98
structure TurnOk (w : List Nat) (t L He : Nat) (N M : List (List Nat)) : Prop where
  pos : 0 < w.length
  len : w.length ≤ 30
  ab : AB w
  hL : L ≤ 100
  hH : He ≤ 100
  le : He ≤ L
  none : L = 0 → ∀ b ∈ (countsOf w).map wide, b = false
  some : L ≠ 0 → ∃ h : L < ((countsOf w).map wide).length, ((countsOf w).map wide)[L] = true ∧ ∀ j (h : j < ((countsOf w).map wide).length), j < L → ((countsOf w).map wide)[j] = false
  fl : (((countsOf w).take L).drop 1).map (fun r => (mn r, mx r)) = (floorsW L He).map fun (n : Nat) => ((n : Int), (n : Int) + 1)
  ln : ∀ d ∈ (floorsW L He).zip ((floorsW L He).drop 1), d.2 = d.1 ∨ d.2 = d.1 + 1
  nE : Names (endsW w)
  nD : Names (dotsNW w)
  sE : ∀ n ∈ endsW w, n.length ≤ 40
  sD : ∀ n ∈ dotsNW w, n.length ≤ 40
  lE : (endsW w).length ≤ 200
  lD : (dotsNW w).length ≤ 200
  q1 : bothW (agents1 (endsW w)) (agents2 (dotsNW w) (starL t)) = starL t ++ bothW (endsW w) (dotsNW w)
  q2 : bothW (agents2 (dotsNW w) (starL t)) (agents1 (endsW w)) = bothW (dotsNW w) (endsW w) ++ starL t
  q3 : t = 0 ∨ (bothW (endsW w) (dotsNW w) = N ∧ bothW (dotsNW w) (endsW w) = M)
  qa : ((U1 (endsW w) (dotsNW w) t).any fun a => a == [42]) = decide (t = 0)
  qb : appL (w ++ [42]) (U1 (endsW w) (dotsNW w) t) = decide (0 < L)
  qc : appL [] (U2 (endsW w) (dotsNW w) t) = decide (L = 2)
  d1 : L ≠ 0 → allowL w (rn1 (endsW w) ++ rn2 (dotsNW w)) = Option.some (due1 (lineW (floorsW L He))) ∧ allowL w.reverse (rn2 (dotsNW w) ++ rn1 (endsW w)) = Option.some (due2 (lineW (floorsW L He)))
  d0 : L = 0 → allowL w (rn1 (endsW w) ++ rn2 (dotsNW w)) = Option.none ∧ allowL w.reverse (rn2 (dotsNW w) ++ rn1 (endsW w)) = Option.none
theorem oct_names {l : List (List Nat)} (h : Names l) : Oct l := fun w hw => (h w hw).1.lt
theorem line_oct (F : List Nat) : ∀ c ∈ lineW F, c < 256 := fun c hc => by
  obtain ⟨d, _, rfl⟩ := List.mem_map.mp hc
  split <;> decide
theorem line_len (F : List Nat) : (lineW F).length ≤ F.length := by simp [lineW]
theorem both_sub {xs ys : List (List Nat)} : ∀ n ∈ bothW xs ys, n ∈ xs := fun n h => (List.mem_filter.mp h).1
theorem both_len (xs ys : List (List Nat)) : (bothW xs ys).length ≤ xs.length := List.length_filter_le _ _
section
variable {C : Cx} {ρ : Asn} {Pr : D → Prop}
theorem t6 (H : Hd C) {w : List Nat} {L : Nat} (hw : w.length ≤ 100) (h0 : ρ.get i_counts = some (.list ((countsOf w).map .ints))) (hn : L = 0 → ∀ b ∈ (countsOf w).map wide, b = false)
    (hs : L ≠ 0 → ∃ h : L < ((countsOf w).map wide).length, ((countsOf w).map wide)[L] = true ∧ ∀ j (h : j < ((countsOf w).map wide).length), j < L → ((countsOf w).map wide)[j] = false) (hne : ρ.get i_error = none) :
    ExD C 30 lawSc ρ (exec lt6.1) (fun r => r = (i_found, foundD L) :: ρ) (fun d => d = .bool true) := by
  by_cases h : L = 0
  · have := t6b (Pr := fun d => d = .bool true) H hw h0 (hn h) hne
    unfold foundD
    rw [if_pos h]
    exact this
  · obtain ⟨h1, h2, h3⟩ := hs h
    have := ExD.of (t6a H hw h0 h1 h2 h3)
    unfold foundD
    rw [if_neg h]
    exact this
end
theorem joinL_mem {s : List Nat} {c : Nat} : ∀ {ps : List (List Nat)}, c ∈ joinL s ps → c ∈ s ∨ ∃ p ∈ ps, c ∈ p
  | [], h => by cases h
  | [p], h => .inr ⟨p, by simp, h⟩
  | p :: q :: r, h => by
    have h' : c ∈ p ++ s ++ joinL s (q :: r) := h
    simp only [List.mem_append] at h'
    rcases h' with (h' | h') | h'
    · exact .inr ⟨p, by simp, h'⟩
    · exact .inl h'
    · rcases joinL_mem h' with h | ⟨x, hx, h⟩
      · exact .inl h
      · exact .inr ⟨x, List.mem_cons_of_mem _ hx, h⟩
theorem rows_oct {v r : List Nat} (h : r ∈ rowsW v) : ∀ c ∈ r, c < 256 := fun c hc => by
  obtain ⟨p, _, rfl⟩ := List.mem_map.mp h
  rw [(List.mem_replicate.mp hc).2]; decide
theorem all_oct {v : List Nat} {c : Nat} (hc : Plain c) : ∀ x ∈ joinL [13, 10] (rowsAll v [c]), x < 256 := fun x hx => by
  have hc' := hc.1
  rcases joinL_mem hx with h | ⟨p, hp, h⟩
  · simp at h; lia
  · rcases List.mem_append.mp hp with hp | hp
    · exact rows_oct hp x h
    · simp only [List.mem_cons, List.not_mem_nil, or_false] at hp
      rcases hp with rfl | rfl | rfl <;> simp at h <;> lia
theorem sent_oct {v : List Nat} {c : Nat} (hc : Plain c) : ∀ x ∈ joinL [13, 10] (sentRows v [c]), x < 256 := fun x hx => by
  have hc' := hc.1
  rcases joinL_mem hx with h | ⟨p, hp, h⟩
  · simp at h; lia
  · rcases List.mem_append.mp hp with hp | hp
    · obtain ⟨q, hq, rfl⟩ := List.mem_map.mp hp
      simp only [List.mem_append, List.mem_singleton] at h
      rcases h with rfl | h
      · decide
      · exact rows_oct hq x h
    · simp only [List.mem_cons, List.not_mem_nil, or_false] at hp
      rcases hp with rfl | rfl | rfl <;> simp at h <;> lia
theorem flat_sum (l : List (List Nat × List Nat)) : ((l.map fun p => p.1 ++ p.2).flatten).length = ((l.map fun p => p.1.length).sum + (l.map fun p => p.2.length).sum) := by
  induction l with
  | nil => rfl
  | cons p r ih =>
    simp only [List.map_cons, List.flatten_cons, List.length_append, List.sum_cons, ih]
    lia
theorem sum_le {B : List (List Nat)} (h : ∀ e ∈ B, e.length ≤ 2) : (B.map List.length).sum ≤ 2 * B.length := by
  induction B with
  | nil => simp
  | cons e B ih =>
    have := h e (by simp)
    have := ih fun x hx => h x (List.mem_cons_of_mem _ hx)
    simp; lia
theorem mail_len {R B : List (List Nat)} (hB : ∀ e ∈ B, e.length ≤ 2) (hl : B.length = R.length - 1) : (mailOf R B).length ≤ (R.map List.length).sum + 2 * B.length := by
  unfold mailOf mailW
  rw [List.length_append, flat_sum]
  have e1 : ((B.zip R.tail).map fun p => p.1.length) = B.map List.length := by
    have : (B.zip R.tail).map (fun p => p.1.length) = ((B.zip R.tail).map Prod.fst).map List.length := by rw [List.map_map]; rfl
    rw [this, List.map_fst_zip (by simp; lia)]
  have e2 : ((B.zip R.tail).map fun p => p.2.length) = R.tail.map List.length := by
    have : (B.zip R.tail).map (fun p => p.2.length) = ((B.zip R.tail).map Prod.snd).map List.length := by rw [List.map_map]; rfl
    rw [this, List.map_snd_zip (by simp; lia)]
  rw [e1, e2]
  have := sum_le hB
  cases R with
  | nil => simp at *; lia
  | cons r R => simp at *; lia
theorem all_sum (v : List Nat) (c : Nat) : ((rowsAll v [c]).map List.length).sum = v.length + 5 := by
  unfold rowsAll
  rw [List.map_append, List.sum_append, rows_total]
  simp
theorem breaks_len (c m : Nat) : (breaksW c m).length = m := by simp [breaksW]
theorem ends_two {c m : Nat} : ∀ e ∈ breaksW c m, e.length ≤ 2 := fun e he => by
  rcases ends_ok c m e he with rfl | rfl | rfl <;> decide
theorem turn_len (sw : Nat) (w : List Nat) : (turnW sw w).length = w.length := by
  unfold turnW
  split
  · rfl
  · exact other_len w
noncomputable def invA (cs : List Nat) (w : List Nat) (L He : Nat) (N M : List (List Nat)) : Asn :=
  [(i_word, .str (sL w)), (i_least, .int L), (i_held, .int He), (i_named, .strs N), (i_dotted, .strs M), (i_cells, .nats cs), (i_tail, .str (sL [tailC cs]))]
theorem fl_le {n L : Nat} (h : n = L - 1) (h2 : L ≤ 100) : n ≤ 100 := by omega
section
variable {C : Cx}
set_option maxHeartbeats 8000000 in
theorem turn (H : Hd C) {cs w : List Nat} {t L He : Nat} {N M : List (List Nat)} (T : TurnOk w t L He N M) (hc : cs.length = 10) (ht : t < 2) :
    ExD C 30 lawSc ((i_turn, .int t) :: invA cs w L He N M) (execs lawLoop.1.2.2.1)
      (fun ρ' => Asn.Le (invA cs (sentW (turnW (swapN cs t) w)) (L + heldN L He (swapN cs t)) (heldN L He (swapN cs t)) ((pair1 (swapN cs t) (bothW (endsW w) (dotsNW w)) (bothW (dotsNW w) (endsW w))).map sentW) ((pair2 (swapN cs t) (bothW (endsW w) (dotsNW w)) (bothW (dotsNW w) (endsW w))).map sentW)) ρ') (fun d => d = .bool true) := by
  have hw : w.length ≤ 100 := Nat.le_trans T.len (by decide)
  have hP := tail_plain cs
  generalize hsw : swapN cs t = sw
  have hv : (turnW sw w).length ≤ 30 := by rw [turn_len]; exact T.len
  have hRl := rowsAll_len (turnW sw w) [tailC cs]
  have hRw := rowsW_len (turnW sw w)
  have hR35 : (rowsAll (turnW sw w) [tailC cs]).length ≤ 35 := by lia
  have hR1 : 1 ≤ (rowsAll (turnW sw w) [tailC cs]).length := by lia
  have hBl := breaks_len (cs.getD 9 0) ((rowsAll (turnW sw w) [tailC cs]).length - 1)
  have hB2 := ends_two (c := cs.getD 9 0) (m := (rowsAll (turnW sw w) [tailC cs]).length - 1)
  have hBo := ends_ok (cs.getD 9 0) ((rowsAll (turnW sw w) [tailC cs]).length - 1)
  have hRr : ∀ r ∈ rowsAll (turnW sw w) [tailC cs], r.length ≤ 50 := fun r h => by
    rcases List.mem_append.mp h with h | h
    · have := hRw.2 r h; lia
    · simp only [List.mem_cons, List.not_mem_nil, or_false] at h
      rcases h with rfl | rfl | rfl <;> simp
  have hml := mail_len hB2 hBl
  rw [all_sum, hBl] at hml
  have hS := mail_sent hP hBl hBo
  have hF := mail_eol hP hBl hBo
  have nb := fun n (h : n ∈ bothW (endsW w) (dotsNW w)) => T.sE n (both_sub n h)
  have nc := fun n (h : n ∈ bothW (dotsNW w) (endsW w)) => T.sD n (both_sub n h)
  have lb : (bothW (endsW w) (dotsNW w)).length ≤ 200 := Nat.le_trans (both_len _ _) T.lE
  have lc : (bothW (dotsNW w) (endsW w)).length ≤ 200 := Nat.le_trans (both_len _ _) T.lD
  have p1 : (pair1 sw (bothW (endsW w) (dotsNW w)) (bothW (dotsNW w) (endsW w))).length ≤ 200 ∧ ∀ n ∈ pair1 sw (bothW (endsW w) (dotsNW w)) (bothW (dotsNW w) (endsW w)), n.length ≤ 40 := by
    unfold pair1
    split
    · exact ⟨lb, nb⟩
    · refine ⟨by rw [List.length_map]; exact lc, fun n h => ?_⟩
      obtain ⟨x, hx, rfl⟩ := List.mem_map.mp h
      rw [other_len]; exact nc x hx
  have p2 : (pair2 sw (bothW (endsW w) (dotsNW w)) (bothW (dotsNW w) (endsW w))).length ≤ 200 ∧ ∀ n ∈ pair2 sw (bothW (endsW w) (dotsNW w)) (bothW (dotsNW w) (endsW w)), n.length ≤ 40 := by
    unfold pair2
    split
    · exact ⟨lc, nc⟩
    · refine ⟨by rw [List.length_map]; exact lb, fun n h => ?_⟩
      obtain ⟨x, hx, rfl⟩ := List.mem_map.mp h
      rw [other_len]; exact nb x hx
  have hFl := fl_le (floors_len L He) T.hL
  have hll := Nat.le_trans (line_len (floorsW L He)) hFl
  have hm200 : (mailOf (rowsAll (turnW sw w) [tailC cs]) (breaksW (cs.getD 9 0) ((rowsAll (turnW sw w) [tailC cs]).length - 1))).length ≤ 200 := by lia
  have hE4 : (eolW (mailOf (rowsAll (turnW sw w) [tailC cs]) (breaksW (cs.getD 9 0) ((rowsAll (turnW sw w) [tailC cs]).length - 1)))).length ≤ 400 := Nat.le_trans (eolW_len _) (by lia)
  have hS4 : (dotW (eolW (mailOf (rowsAll (turnW sw w) [tailC cs]) (breaksW (cs.getD 9 0) ((rowsAll (turnW sw w) [tailC cs]).length - 1))))).length ≤ 1000 := Nat.le_trans (dotW_len _) (by lia)
  have oF : ∀ x ∈ eolW (mailOf (rowsAll (turnW sw w) [tailC cs]) (breaksW (cs.getD 9 0) ((rowsAll (turnW sw w) [tailC cs]).length - 1))), x < 256 := by rw [hF]; exact all_oct hP
  have oS : ∀ x ∈ dotW (eolW (mailOf (rowsAll (turnW sw w) [tailC cs]) (breaksW (cs.getD 9 0) ((rowsAll (turnW sw w) [tailC cs]).length - 1)))), x < 256 := by rw [hS]; exact sent_oct hP
  rw [loop_body]
  refine ExD.stepT (t0 H hw rfl rfl) ?_
  refine ExD.step (t1 H T.pos hw T.ab rfl rfl rfl) ?_
  refine ExD.stepT (t2 H hw T.ab rfl rfl rfl) ?_
  refine ExD.stepT (t3 H hw T.ab rfl rfl) ?_
  refine ExD.stepT (t4 H hw T.ab rfl rfl) ?_
  refine ExD.stepT (t5 H hw rfl rfl) ?_
  refine ExD.step (t6 (L := L) H hw rfl T.none T.some rfl) ?_
  refine ExD.stepT (t7 (L := L) H rfl rfl) ?_
  refine ExD.stepT (t8 H T.hL (Nat.le_trans T.le T.hL) rfl rfl) ?_
  refine ExD.stepT (t9 H hw T.hL rfl rfl rfl T.fl) ?_
  refine ExD.stepT (t10 H hFl rfl T.ln) ?_
  refine ExD.stepT (t11 H hw rfl rfl) ?_
  refine ExD.stepT (t12 H ht rfl) ?_
  refine ExD.stepT (t13 H ht T.lE (fun n h => Nat.le_trans (T.sE n h) (by decide)) rfl rfl) ?_
  refine ExD.stepT (t14 H ht T.lD (fun n h => Nat.le_trans (T.sD n h) (by decide)) rfl rfl rfl) ?_
  refine ExD.stepT (t15 H T.lE T.lD rfl rfl) ?_
  refine ExD.stepT (t16 H T.lE T.lD rfl rfl) ?_
  refine ExD.stepT (t17 H ht T.lE T.lD (oct_names T.nE) (oct_names T.nD) rfl rfl rfl rfl rfl rfl rfl rfl T.q1 T.q2 T.q3) ?_
  refine ExD.stepT (t18 H T.lD (fun n h => Nat.le_trans (T.sD n h) (by decide)) rfl) ?_
  refine ExD.stepT (t19 H T.lE T.lD (oct_names T.nE) (oct_names T.nD) rfl rfl rfl rfl) ?_
  refine ExD.stepT (t20 H ht rfl rfl rfl) ?_
  refine ExD.stepT (t21 H T.lE T.lD rfl rfl) ?_
  refine ExD.stepT (t22 H ht T.lE T.lD (oct_names T.nE) (oct_names T.nD) rfl rfl rfl rfl rfl) ?_
  refine ExD.stepT (t23 (L := L) H hw T.ab T.nE T.nD T.lE T.lD rfl rfl rfl T.qa T.qb T.qc) ?_
  refine ExD.stepT (t24 H rfl rfl rfl) ?_
  refine ExD.stepT (t25 H hw hll T.ab T.nE T.nD rfl rfl rfl rfl rfl) ?_
  refine ExD.stepT (t26 H (line_oct _) rfl rfl rfl T.d1 T.d0) ?_
  refine ExD.stepT (t27 H ht hc rfl rfl) ?_
  rw [hsw]
  refine ExD.stepT (t28 H T.le rfl rfl rfl) ?_
  refine ExD.stepT (t29 H rfl rfl) ?_
  refine ExD.stepT (t30 H lb lc (fun n h => Nat.le_trans (nb n h) (by decide)) (fun n h => Nat.le_trans (nc n h) (by decide)) rfl rfl rfl) ?_
  refine ExD.stepT (t31 H p1.1 p2.1 p1.2 p2.2 rfl) ?_
  refine ExD.stepT (t32 (tl := [tailC cs]) H hw (by show 1 ≤ 10; decide) rfl rfl rfl rfl) ?_
  refine ExD.stepT (t33 H hc hR1 hR35 rfl rfl) ?_
  refine ExD.stepT (t34 H hR1 hR35 (by rw [hBl]; lia) hRr hB2 rfl rfl) ?_
  refine ExD.stepT (t35 H hm200 rfl) ?_
  refine ExD.stepT (t36 H hv (by show 1 ≤ 5; decide) hS hF rfl rfl rfl) ?_
  refine ExD.stepT (t37 H hE4 oF rfl) ?_
  refine ExD.stepT (t38 H hS4 oS rfl rfl) ?_
  refine ExD.stepT (t39 H hv hP hS4 hS rfl) ?_
  refine ExD.nil ?_
  exact .cons rfl (.cons rfl (.cons rfl (.cons rfl (.cons rfl (.cons rfl (.cons rfl .nil))))))
end
noncomputable def Good (w : List Nat) (sw : Nat) : Prop := ∃ L He : Nat, bendW w = ((L : Int), (He : Int)) ∧ TurnOk w 0 L He [] [] ∧
  TurnOk (sentW (turnW sw w)) 1 (L + heldN L He sw) (heldN L He sw) ((pair1 sw (bothW (endsW w) (dotsNW w)) (bothW (dotsNW w) (endsW w))).map sentW) ((pair2 sw (bothW (endsW w) (dotsNW w)) (bothW (dotsNW w) (endsW w))).map sentW)
section
variable {C : Cx}
theorem ExD.monoP {k : Nat} {sc : Scope} {ρ : Asn} {t : Env → Sem Flow} {Pn Pn' : Asn → Prop} {Pr : D → Prop} (h : ExD C k sc ρ t Pn Pr) (q : ∀ ρ', Pn ρ' → Pn' ρ') : ExD C k sc ρ t Pn' Pr := fun env A V s V0 s0 he hf hfr hr S F O X f E Q qn qr =>
  h env A V s V0 s0 he hf hfr hr S F O X f E Q (fun ρ' V' s' X' S' F' hp => qn ρ' V' s' X' S' F' (q _ hp)) qr
noncomputable def invT (cs : List Nat) (L He : Nat) : Nat → Asn
  | 0 => invA cs (word0 cs) L He [] []
  | 1 => invA cs (sentW (turnW (swapN cs 0) (word0 cs))) (L + heldN L He (swapN cs 0)) (heldN L He (swapN cs 0)) ((pair1 (swapN cs 0) (bothW (endsW (word0 cs)) (dotsNW (word0 cs))) (bothW (dotsNW (word0 cs)) (endsW (word0 cs)))).map sentW) ((pair2 (swapN cs 0) (bothW (endsW (word0 cs)) (dotsNW (word0 cs))) (bothW (dotsNW (word0 cs)) (endsW (word0 cs)))).map sentW)
  | _ => []
theorem turns (H : Hd C) {cs : List Nat} {L He : Nat} (hc : cs.length = 10) (T0 : TurnOk (word0 cs) 0 L He [] []) (T1 : TurnOk (sentW (turnW (swapN cs 0) (word0 cs))) 1 (L + heldN L He (swapN cs 0)) (heldN L He (swapN cs 0)) ((pair1 (swapN cs 0) (bothW (endsW (word0 cs)) (dotsNW (word0 cs))) (bothW (dotsNW (word0 cs)) (endsW (word0 cs)))).map sentW) ((pair2 (swapN cs 0) (bothW (endsW (word0 cs)) (dotsNW (word0 cs))) (bothW (dotsNW (word0 cs)) (endsW (word0 cs)))).map sentW)) :
    ∀ i (h : i < (List.range 2).length), True → ExD C 30 lawSc ((fun (t : Nat) => [(i_turn, D.int t)]) (List.range 2)[i] ++ invT cs L He i) (execs lawLoop.1.2.2.1) (fun ρ' => Asn.Le (invT cs L He (i + 1)) ρ' ∧ True) (fun d => d = .bool true)
  | 0, _, _ => ExD.monoP (turn (t := 0) H T0 hc (Nat.zero_lt_succ 1)) fun _ h => ⟨h, trivial⟩
  | 1, _, _ => ExD.monoP (turn (t := 1) H T1 hc (Nat.lt_succ_self 1)) fun _ h => ⟨.nil, trivial⟩
  | n + 2, h, _ => absurd h (by simp)
theorem law_it (H : Hd C) {ρ : Asn} : ItE C 30 lawSc ρ lawLoop.1.2.1 lawLoop.1.1 ((List.range 2).map fun (t : Nat) => [(i_turn, D.int t)]) := by
  unfold lawLoop
  exact ItE.range1N (i := i_turn) (n := 2) (z := 2) rfl rfl (gb_range H) Ev.int rfl (by decide)
theorem law_loop (H : Hd C) {ρ : Asn} {cs : List Nat} {L He : Nat} (hc : cs.length = 10) (T0 : TurnOk (word0 cs) 0 L He [] []) (T1 : TurnOk (sentW (turnW (swapN cs 0) (word0 cs))) 1 (L + heldN L He (swapN cs 0)) (heldN L He (swapN cs 0)) ((pair1 (swapN cs 0) (bothW (endsW (word0 cs)) (dotsNW (word0 cs))) (bothW (dotsNW (word0 cs)) (endsW (word0 cs)))).map sentW) ((pair2 (swapN cs 0) (bothW (endsW (word0 cs)) (dotsNW (word0 cs))) (bothW (dotsNW (word0 cs)) (endsW (word0 cs)))).map sentW))
    (h0 : Asn.Le (invT cs L He 0) ρ) : ExD C 30 lawSc ρ (exec (.For lawLoop.1.1 lawLoop.1.2.1 lawLoop.1.2.2.1 [] lawLoop.1.2.2.2)) (fun _ => True) (fun d => d = .bool true) := by
  with_reducible refine ExD.for (List.range 2) (fun (t : Nat) => [(i_turn, D.int t)]) (invT cs L He) (fun _ => True) (law_it H) ?hg h0 trivial (turns H hc T0 T1) ?he ?hs
  case hg => intro x _ p hp; rcases List.mem_singleton.mp hp with rfl; exact .inl rfl
  case he => intro _; trivial
  case hs => intro _ _; rfl
set_option maxHeartbeats 1000000 in
theorem law_rest (H : Hd C) (hG : ∀ w, AB w → w.length = 8 → ∀ sw, sw < 2 → Good w sw) {xs : List Int} (hx : xs.length ≤ 63) :
    ExD C 30 lawSc [(i_bases, .nats basesL), (i_script, .list (xs.map .int))] (execs [ls1.1, ls2.1, ls3.1, ls4.1, ls5.1, .For lawLoop.1.1 lawLoop.1.2.1 lawLoop.1.2.2.1 [] lawLoop.1.2.2.2, ls7.1]) (fun _ => False) (fun d => d = .bool true) := by
  have hc := cells_len xs
  have h8 : (word0 (cellsW xs)).length = 8 := by simp [word0, hc]
  have hsw : swapN (cellsW xs) 0 < 2 := Nat.mod_lt _ (by decide)
  obtain ⟨L, He, hb, T0, T1⟩ := hG _ (word0_AB (cellsW xs)) h8 _ hsw
  have h9 : (word0 (cellsW xs)).length ≤ 100 := by rw [h8]; decide
  with_reducible refine ExD.stepT (s1 H hx ?a1 ?a2) (ExD.stepT (s2 H hc ?a3) (ExD.stepT (s3 H hc ?a4) (ExD.stepT (s4 H h9 hb ?a5) (ExD.stepT (s5 H) (ExD.cons (law_loop H hc T0 T1 ?a6) fun ρ' _ => ?r)))))
  case a1 => rfl
  case a2 => rfl
  case a3 => rfl
  case a4 => rfl
  case a5 => rfl
  case a6 => exact .cons rfl (.cons rfl (.cons rfl (.cons rfl (.cons rfl (.cons rfl (.cons rfl .nil))))))
  case r => exact ExD.cons (P1 := fun _ => False) (ExD.of (Ex1.ret Ev.bool rfl)) fun _ h => h.elim
end
theorem ns_none {h : Heap} {K : Frag} (hK : K.In h) {a : Addr} {m : PySem.Str → Option Value} {x : PySem.Str} (hn : h.Ns a m) (e : nsIn K a x = some none) : m x = none := by
  refine hid fun G hG => ?_
  obtain ⟨o, es, ep, h1, h2, h3, h4⟩ := hn
  refine hG ?_
  unfold nsIn at e
  split at e
  · rename_i es' n' dd sl hl
    have := hK _ _ hl
    rw [h1] at this
    cases this
    cases h2
    split at e
    · cases e
    · rename_i hf
      rw [← h4 x]
      unfold nsFind findBy
      rw [← Array.find?_toList, hf]; rfl
  · cases e
theorem hide1 {h : Heap} {a b : Addr} {o : Obj} (e : h.get? b = some o) (hn : b ≠ a) : (hideAll h [a]).get? b = some o := hideAll_get _ e fun q => hn (List.mem_singleton.mp q)
theorem ns_hide {h : Heap} {a : Addr} {m : PySem.Str → Option Value} (hn : h.Ns a m) (ht : h.get? tabA = some (tabObj #[])) : (hideAll h [tabA]).Ns a m := by
  refine hid fun G hG => ?_
  obtain ⟨o, es, ep, h1, h2, r⟩ := hn
  refine hG ?_
  exact ⟨o, es, ep, hide1 h1 (fun q => by rw [q, ht] at h1; cases h1; cases h2), h2, r⟩
noncomputable def start (prog : Program) (w : World) (s₁ : Shared) (mg mb : PySem.Str → Option Value) (hg : s₁.heap.Ns mainGlobals mg) (hb : s₁.heap.Ns builtinsNs mb) (hl : s₁.heap.NoLimit) (hbt : ∀ x : PySem.Str, x ≠ "__name__" → mb x = bootBuiltins x)
    (hbm : ∃ bm ob, mg "__builtins__" = some (.ref bm) ∧ bm ≠ builtinsNs ∧ s₁.heap.get? bm = some ob ∧ ob.cls = .type "module" ∧ ob.dict = some builtinsNs ∧ ob.data = .plain)
    (hK : (MineTop.hd.heap_39 w.params).In s₁.heap) (hT : s₁.heap.get? tabA = some (tabObj #[])) (hKt : (MineTop.hd.heap_39 w.params).lookup tabA = none) (hnb : NoneBooked s₁.heap) (n : Nat) : Cx where
  prog := prog
  w := w
  g₀ := hideAll s₁.heap [tabA]
  K := MineTop.hd.heap_39 w.params
  mg := mg
  mb := mb
  os := s₁.os
  g := ns_hide hg hT
  b := ns_hide hb hT
  nolimit := let ⟨mc, h1, h2⟩ := hl; ⟨mc, ns_hide h1 hT, h2⟩
  blt := hbt
  inK := fun a o e => hide1 (hK a o e) fun q => by rw [q, hKt] at e; cases e
  tabg := hideAll_none _ (by simp)
  n := n
  nb := let ⟨mc, h1, h2⟩ := hnb; ⟨mc, ns_hide h1 hT, h2⟩
  bmain := let ⟨bm, ob, h1, h2, h3, h4⟩ := hbm; ⟨bm, ob, h1, h2, hide1 h3 (fun q => by rw [q, hT] at h3; cases h3; cases h4.1), h4⟩
theorem keyNone (P : Params) : nsIn (MineTop.hd.heap_39 P) cStatics sharingNotToldKey = some none := by kernel_rfl
theorem tabNone (P : Params) : (MineTop.hd.heap_39 P).lookup tabA = none := by kernel_rfl
section
variable {prog : Program} {w : World} {s₁ : Shared} {mg mb : PySem.Str → Option Value}
set_option maxHeartbeats 1000000 in
theorem law_go (hg : s₁.heap.Ns mainGlobals mg) (hb : s₁.heap.Ns builtinsNs mb) (hl : s₁.heap.NoLimit) (hbt : ∀ x : PySem.Str, x ≠ "__name__" → mb x = bootBuiltins x)
    (hbm : ∃ bm ob, mg "__builtins__" = some (.ref bm) ∧ bm ≠ builtinsNs ∧ s₁.heap.get? bm = some ob ∧ ob.cls = .type "module" ∧ ob.dict = some builtinsNs ∧ ob.data = .plain)
    (hK : (MineTop.hd.heap_39 w.params).In s₁.heap) (hT : s₁.heap.get? tabA = some (tabObj #[])) (hgens : s₁.gens = #[]) (hG : ∀ w, AB w → w.length = 8 → ∀ sw, sw < 2 → Good w sw)
    {l : Addr} {xs : List Int} {vs : List Value} (hx : xs.length ≤ 63) (hL : s₁.heap.IsList l vs.toArray) (hv : ∀ V, Reps V vs (xs.map .int)) {E : Value → Shared → Prop} {Q : Value → Shared → Prop}
    (q : ∀ s', (∀ b o, b ≠ tabA → s₁.heap.get? b = some o → s'.heap.get? b = some o) → (∃ ps, s'.heap.get? tabA = some (tabObj ps)) → s'.os = s₁.os → s'.gens = #[] → Q (.bool true) s') : wpD (model prog w) callerA (PySem.call (.ref 226) [.ref l]) Q E s₁ := by
  have hnb : NoneBooked s₁.heap := let ⟨mc, h1, _⟩ := hl; ⟨mc, h1, ns_none hK h1 (keyNone _)⟩
  obtain ⟨ol, hol, holc, nl, hold⟩ := hL
  have hlt : l ≠ tabA := fun q => by rw [q, hT] at hol; cases hol; cases holc
  let C : Cx := start prog w s₁ mg mb hg hb hl hbt hbm hK hT (tabNone _) hnb 0
  have S0 : St C (fun a => (hideAll s₁.heap [tabA]).get? a) s₁ := ⟨fun b o e => e, fun b o e => of_hideAll _ e, ⟨#[], hT, trivial, fun pos v e => by cases e⟩, hideAll_none _ (by simp), hgens, rfl, Nat.zero_le _⟩
  have rs : Reps (fun a => (hideAll s₁.heap [tabA]).get? a) [.ref l] [.list (xs.map .int)] := .cons (Reps.list (vs := vs) ⟨ol, hide1 hol hlt, holc, nl, hold⟩ (hv _)) .nil
  have hr : Room 32 callerA := ⟨by decide, by decide, rfl⟩
  show wpD C.M callerA (PySem.call (.ref 226) [.ref l]) Q E s₁
  refine wpD_call ?_
  refine' fn_runD (C := C) (k := 30) (f := 226) (body := lawF.1.1) (scope := lawSc) (ids := [i_script]) (ds := [.list (xs.map .int)]) ?hl ?hcd rfl ?hb ?ok hr S0 rs fun env s1 hfe he hco hqu hr1 S1 F1 O1 X1 f1 => ?body
  case hl => exact rfl
  case hcd => show codeIn (MineTop.hd.heap_39 w.params) _ _ = true; kernel_rfl
  case hb => intro vs hv; obtain ⟨_, rfl⟩ := len1 hv; exact rfl
  case ok => exact DefOk.of (by decide +kernel)
  case body =>
    have hfr : (callerA.deeper env).frames = some [env] := Around.frames_deeper rfl
    replace F1 : Frm C env [(i_script, .list (xs.map .int))] (fun a => (hideAll s₁.heap [tabA]).get? a) s1.heap := F1
    have kB : env.scope.names.lookup (Str.ofString "bases") = some .local := by rw [he]; rfl
    rw [law_body]
    with_reducible refine wpD_execs_cons ?_
    with_reducible refine wpD_of ?_
    have hB := ev_bases (C := C) (ρ := [(i_script, .list (xs.map .int))])
    unfold ls0 at hB ⊢
    dsimp only at hB ⊢
    with_reducible refine assign_raw (x := Str.ofString "bases") ?sw ?sv ?_
    case sw => rfl
    case sv => rfl
    unfold Ev Yd Yl at hB
    with_reducible refine hB env (callerA.deeper env) _ s1 he hr1 S1 F1 _ _ ?_
    intro v V2 s2 X2 S2 r2
    clear hB
    have F2 := F1.ext S1 X2
    obtain ⟨m, hn, hm⟩ := id F2.ns
    have hloc : env.locals ≠ tabA := by obtain ⟨o, es, ep, e, dd, _⟩ := hn; exact ne_tab_of_dict S2.tab e dd
    refine wpAny_storeName_local kB hn (fun h' hn' hs => ?_) (kindFn F2.kind)
    let C' : Cx := start prog w s₁ mg mb hg hb hl hbt hbm hK hT (tabNone _) hnb 1
    have S3 : St C' V2 { s2 with heap := h', toks := s2.toks + 1 } := ⟨S2.base, fun b o e => (hs.2 b (fun q => by rw [q, F2.locFree] at e; cases e)).trans (S2.sub b o e), S2.tab.at (.refl _) fun o e => (hs.2 _ (Ne.symm hloc)).trans e, S2.tabV, S2.gens, S2.os, Nat.le_add_left 1 _⟩
    have F3 : Frm C' env [(i_bases, .nats basesL), (i_script, .list (xs.map .int))] V2 h' := by
      have hne : ∀ x c, env.cells.lookup x = some c → (∃ v, s2.heap.IsCell c v) → c ≠ env.locals := fun x c _ hv q => by
        obtain ⟨v, o, e, dd⟩ := hv; obtain ⟨o', es, ep, e', dd', _⟩ := hn; rw [q, e'] at e; cases e; rw [dd] at dd'; cases dd'
      refine ⟨F2.kind, F2.glob, F2.blt, ⟨_, hn', fun j e hj hkj => ?_⟩, F2.locFree, fun x c hc => ?_, F2.has, F2.inj, fun j e hj => ?_⟩
      · rcases Asn.cons_inv hj with ⟨rfl, rfl⟩ | ⟨hne, hj⟩
        · refine ⟨v, ?_, r2⟩
          show (if nm i_bases = nm i_bases then some v else m (nm i_bases)) = some v
          rw [if_pos rfl]
        · obtain ⟨u, hu, hr⟩ := hm j e hj hkj
          refine ⟨u, ?_, hr⟩
          show (if nm j = nm i_bases then some v else m (nm j)) = some u
          rw [if_neg fun e => hne (nm_inj e)]; exact hu
      · refine hid fun G hG => ?_
        obtain ⟨hf, u, hcell, hu⟩ := F2.cells x c hc
        have hcl := hne x c hc ⟨u, hcell⟩
        obtain ⟨o, e, dd⟩ := hcell
        refine hG ?_
        refine ⟨hf, u, ⟨o, (hs.2 c hcl).trans e, dd⟩, fun j e' hji hx hj => ?_⟩
        rcases Asn.cons_inv hj with ⟨rfl, rfl⟩ | ⟨_, hj⟩
        · have kB' : env.scope.names.lookup (nm i_bases) = some .local := kB
          rw [← hji, kB'] at hx; rcases hx with hx | hx <;> cases hx
        · exact hu j e' hji hx hj
      · rcases Asn.cons_inv hj with ⟨rfl, rfl⟩ | ⟨_, hj⟩
        · exact .inl kB
        · exact F2.knd j e hj
    have X3 : Ext (fun a => (hideAll s₁.heap [tabA]).get? a) s₁ V2 { s2 with heap := h', toks := s2.toks + 1 } := Ext.store (b := [(i_bases, .nats basesL)]) (X1.trans X2) f1 S3 fun a ha => hs.2 a fun q => ha (.inl q)
    have H' : Hd C' := ⟨rfl, Nat.one_pos⟩
    refine (law_rest H' hG hx) env (callerA.deeper env) V2 _ _ s₁ he hfe hfr hr1 S3 F3 O1 X3 f1 _ _ (fun _ _ _ _ _ _ h => h.elim) fun v d V' s' X' S' r hd => ?_
    subst hd
    obtain rfl := r.is
    exact q s' (fun b o hb e => X'.keep b o hb e) (let ⟨ps, h, _⟩ := S'.tab; ⟨ps, h⟩) S'.os S'.gens
end
end
section
open PySem PySem.W PySem.Calls PyProof.Rows
theorem ints_reps {V : View} {vs : List Value} {xs : List Int} (h : IntsAre vs xs) : Reps V vs (xs.map .int) := by
  induction h with
  | nil => exact .nil
  | cons n t _ ih => exact .cons (.int n t) ih
theorem lawAt (P : Params) : nsIn (MineTop.hd.heap_39 P) mainGlobals (Str.ofString "law") = some (some (.ref 226)) := by kernel_rfl
theorem tabHd (P : Params) : ∃ dd vs sl, (MineTop.hd.heap_39 P).lookup 215 = some ⟨.type "code", dd, .fields vs, sl⟩ ∧ vs[11]? = some (.ref tabA) := ⟨_, _, _, rfl, rfl⟩
theorem old_of {w : World} {h h' : Heap} (hK : (MineTop.hd.heap_39 w.params).In h) (hT : h.get? tabA = some (tabObj #[])) (k : ∀ b o, b ≠ tabA → h.get? b = some o → h'.get? b = some o) (ht : ∃ ps, h'.get? tabA = some (tabObj ps)) : OldK h h' := by
  obtain ⟨ps, hp⟩ := ht
  refine ⟨fun b o e => ?_, fun b o e => ?_⟩
  · by_cases hb : b = tabA
    · subst hb
      rw [hT] at e
      cases e
      obtain ⟨dd, vs, sl, h1, h2⟩ := tabHd w.params
      exact .inr (.inl ⟨⟨215, _, vs, hK _ _ h1, rfl, rfl, h2⟩, rfl, #[], ps, rfl, by rw [hp]; simp⟩)
    · exact .inl (k b o hb e)
  · by_cases hb : b = tabA
    · subst hb; exact ⟨_, hp⟩
    · exact ⟨o, k b o hb e⟩
set_option maxHeartbeats 1000000 in
theorem closing (hG : ∀ w, AB w → w.length = 8 → ∀ sw, sw < 2 → Good w sw) : PySem.Challenge.rw_wy0011_01.Holds := by
  refine MineTop.hd ?_
  intro w s₀ s₁ mg mb G Y a o pm cd doc dV kV ho hd hcd hD hmg hg args vals as hpre hlay hrd hwl hlo
  have hK := Y.1
  have hT := Y.2 tabA (by simp)
  have T := G.T
  have ha : mg (Str.ofString "law") = some (.ref a) := hmg
  rw [mg_of hK T.g (lawAt _)] at ha
  cases ha
  wrow_args hpre hlay hrd hwl hlo
  clear hd hcd hD ho hmg
  rename_i xs _ _ _ _ _ _ _ l vs _ hL _ _ _ hI _ hc _
  refine law_go T.g T.b T.nolimit T.builtins T.bmain hK hT hg hG (l := l) (xs := xs) (vs := vs) (by omega) hL (fun V => ints_reps hI) fun s' k1 k2 k3 k4 => ?_
  refine ⟨.inl ⟨.bool true, .bool true, [], rfl, fun cls => rfl, .bool true, ?_, fun _ => ⟨List.nodup_nil, fun a h => by cases h⟩⟩, old_of hK hT k1 k2, k3, .of_eq k4⟩
  wrow_post
end
section
theorem nb (a b : Nat) : Nat.beq a b = (a == b) := by rw [Bool.eq_iff_iff, Nat.beq_eq, beq_iff_eq]
noncomputable abbrev eqL : List Nat → List Nat → Bool := Fast.lEq
theorem eqL_eq (x y : List Nat) : eqL x y = (x == y) := by rw [Bool.eq_iff_iff, beq_iff_eq]; exact Fast.lEq_iff
noncomputable def placesL (w : List Nat) (c : Nat) : List Nat := (List.range w.length).filter fun j => Nat.beq (w.getD j 0) c
noncomputable def betweenL (w m : List Nat) (c : Nat) : List (List Nat) := ((pairsL (placesL w c)).filter fun p => eqL (cut w (p.1 + 1) p.2) (cut m (w.length - p.2) (w.length - 1 - p.1))).map fun p => cut w (p.1 + 1) p.2
theorem places_eq (w : List Nat) (c : Nat) : placesW w c = placesL w c := by
  unfold placesW placesL
  refine List.filter_congr fun j _ => ?_
  rw [sL_beq]
  rw [nb]
  simp
theorem between_eq (w m : List Nat) (c : Nat) : betweenW w m c = betweenL w m c := by
  unfold betweenW betweenL
  rw [places_eq]
  congr 1
  refine List.filter_congr fun p _ => ?_
  rw [sL_beq, eqL_eq]
noncomputable def bothL (xs ys : List (List Nat)) : List (List Nat) := xs.filter fun x => ys.any fun y => eqL y x
theorem both_eq (xs ys : List (List Nat)) : bothW xs ys = bothL xs ys := by
  unfold bothW bothL
  refine List.filter_congr fun x _ => any_cong fun y _ => (eqL_eq y x).symm
noncomputable def eqLL : List (List Nat) → List (List Nat) → Bool
  | [], [] => true
  | a :: x, b :: y => match eqL a b with
    | true => eqLL x y
    | false => false
  | _, _ => false
theorem eqLL_iff : ∀ x y : List (List Nat), eqLL x y = true → x = y
  | [], [], _ => rfl
  | [], _ :: _, h => by cases h
  | _ :: _, [], h => by cases h
  | a :: x, b :: y, h => by
    replace h : (match eqL a b with | true => eqLL x y | false => false) = true := h
    cases e : eqL a b with
    | true =>
      rw [e] at h
      rw [eqL_eq] at e
      rw [beq_iff_eq.mp e, eqLL_iff x y h]
    | false => rw [e] at h; cases h
noncomputable def cntL (w : List Nat) (c : Nat) : Nat := (w.filter fun a => Nat.beq a c).length
theorem cnt_eq (w : List Nat) (c : Nat) : cntC w c = cntL w c := by
  unfold cntC cntL
  congr 1
  refine List.filter_congr fun a _ => ?_
  rw [sL_beq]
  rw [nb]
  simp
noncomputable def sumsL (w : List Nat) : List Nat := (List.range (w.length + 1)).map fun j => cntL (w.take j) 97
theorem sums_eq (w : List Nat) : sumsW w = sumsL w := by
  unfold sumsW sumsL
  exact List.map_congr_left fun j _ => cnt_eq _ _
noncomputable def countsL (w : List Nat) : List (List Int) := (List.range (w.length + 1)).map (rowC (sumsL w))
theorem counts_eq (w : List Nat) : countsOf w = countsL w := by unfold countsOf countsL; rw [sums_eq]
noncomputable def optEq : Option (List Nat) → Option (List Nat) → Bool
  | none, none => true
  | some a, some b => eqL a b
  | _, _ => false
theorem optEq_iff : ∀ {a b : Option (List Nat)}, optEq a b = true → a = b
  | none, none, _ => rfl
  | some a, some b, h => by
    have h' : eqL a b = true := h
    rw [eqL_eq] at h'
    rw [beq_iff_eq.mp h']
  | none, some _, h => by cases h
  | some _, none, h => by cases h
noncomputable def bendN (w : List Nat) : Nat × Nat := ((bendW w).1.toNat, (bendW w).2.toNat)
theorem ne_star {x : List Nat} (h : AB x) : x ≠ [42] := fun q => by subst q; rcases h 42 (by simp) with h | h <;> cases h
theorem ne_Ab {x : List Nat} (h : AB x) : x ≠ [65, 98] := fun q => by subst q; rcases h 65 (by simp) with h | h <;> cases h
theorem ne_aB {x : List Nat} (h : AB x) : x ≠ [97, 66] := fun q => by subst q; rcases h 66 (by simp) with h | h <;> cases h
theorem bf {x y : List Nat} (h : x ≠ y) : (x == y) = false := beq_false_of_ne h
theorem cut_mem {w : List Nat} {a b : Nat} : ∀ c ∈ cut w a b, c ∈ w := fun c hc => List.mem_of_mem_take (List.mem_of_mem_drop hc)
theorem between_names {w m : List Nat} {c : Nat} (h : AB w) : ∀ n ∈ betweenW w m c, AB n ∧ n.length ≤ w.length ∧ ∃ a b, n = cut w a b := fun n hn => by
  obtain ⟨p, _, rfl⟩ := List.mem_map.mp hn
  exact ⟨fun d hd => h d (cut_mem d hd), cut_len _ _ _, _, _, rfl⟩
noncomputable def ABs (l : List (List Nat)) : Prop := ∀ n ∈ l, AB n
theorem any_ag2 {Dt : List (List Nat)} {t : Nat} (ht : t < 2) {x : List Nat} (hx : AB x) : (agents2 Dt (starL t)).any (fun y => y == x) = Dt.any fun y => y == x := by
  unfold agents2
  rw [List.any_append, List.any_append, List.any_cons, List.any_nil, bf (ne_aB hx).symm]
  rcases two ht with rfl | rfl
  · show (_ || ([[42]] : List (List Nat)).any _ || _) = _
    rw [List.any_cons, List.any_nil, bf (ne_star hx).symm]; simp
  · show (_ || ([] : List (List Nat)).any _ || _) = _
    simp
theorem any_ag1 {E : List (List Nat)} {x : List Nat} (hx : AB x) : (agents1 E).any (fun y => y == x) = E.any fun y => y == x := by
  unfold agents1
  rw [List.any_cons, List.any_cons, bf (ne_star hx).symm, bf (ne_Ab hx).symm]; simp
theorem none_of {l : List (List Nat)} (h : ABs l) {x : List Nat} (hx : ¬ AB x) : (l.any fun y => y == x) = false := List.any_eq_false.mpr fun y hy q => hx (beq_iff_eq.mp q ▸ h y hy)
theorem nAB {x : List Nat} {c : Nat} (h : c ∈ x) (h1 : c ≠ 97) (h2 : c ≠ 98) : ¬ AB x := fun q => (q c h).elim h1 h2
theorem sound_q1 {E Dt : List (List Nat)} {t : Nat} (ht : t < 2) (hE : ABs E) (hD : ABs Dt) : bothW (agents1 E) (agents2 Dt (starL t)) = starL t ++ bothW E Dt := by
  have h2 : ((agents2 Dt (starL t)).any fun y => y == [65, 98]) = false := by
    unfold agents2
    rw [List.any_append, List.any_append, none_of hD (nAB (c := 65) (by simp) (by decide) (by decide))]
    rcases two ht with rfl | rfl <;> rfl
  have h3 : E.filter (fun x => (agents2 Dt (starL t)).any fun y => y == x) = bothW E Dt := List.filter_congr fun x hx => any_ag2 ht (hE x hx)
  have h1 : ((agents2 Dt (starL t)).any fun y => y == [42]) = decide (t = 0) := by
    unfold agents2
    rw [List.any_append, List.any_append, none_of hD (nAB (c := 42) (by simp) (by decide) (by decide))]
    rcases two ht with rfl | rfl <;> rfl
  show List.filter (fun x => (agents2 Dt (starL t)).any fun y => y == x) ([42] :: [65, 98] :: E) = _
  rw [List.filter_cons, h1, List.filter_cons, h2, h3]
  rcases two ht with rfl | rfl <;> rfl
theorem sound_q2 {E Dt : List (List Nat)} {t : Nat} (ht : t < 2) (hE : ABs E) (hD : ABs Dt) : bothW (agents2 Dt (starL t)) (agents1 E) = bothW Dt E ++ starL t := by
  have h3 : Dt.filter (fun x => (agents1 E).any fun y => y == x) = bothW Dt E := List.filter_congr fun x hx => any_ag1 (hD x hx)
  have h2 : ([[97, 66]] : List (List Nat)).filter (fun x => (agents1 E).any fun y => y == x) = [] := by
    have : ((agents1 E).any fun y => y == [97, 66]) = false := by
      unfold agents1
      rw [List.any_cons, List.any_cons, none_of hE (nAB (c := 66) (by simp) (by decide) (by decide))]; rfl
    rw [List.filter_cons, this]; rfl
  have h1 : (starL t).filter (fun x => (agents1 E).any fun y => y == x) = starL t := by
    rcases two ht with rfl | rfl <;> rfl
  show List.filter (fun x => (agents1 E).any fun y => y == x) (Dt ++ starL t ++ [[97, 66]]) = _
  rw [List.filter_append, List.filter_append, h1, h2, h3, List.append_nil]
theorem appL_app (w : List Nat) (x y : List (List Nat)) : appL w (x ++ y) = (appL w x || appL w y) := List.any_append
theorem appL_star (w : List Nat) (t : Nat) : appL w (starL t) = false := List.any_eq_false.mpr fun a ha => by
  rw [List.mem_singleton.mp (List.mem_of_mem_drop ha)]; simp
theorem has_cut {w : List Nat} (a b : Nat) : hasL (cut w a b) (w ++ [42]) = true := by
  rw [hasL_iff]
  refine ⟨min a w.length, ?_⟩
  unfold cut
  rw [List.drop_append_of_le_length (Nat.min_le_right _ _)]
  by_cases h : a ≤ w.length
  · rw [Nat.min_eq_left h, List.drop_take, List.length_take, List.length_drop]
    rw [List.take_append_of_le_length (by rw [List.length_drop]; omega)]
    rw [List.take_eq_take_iff]
    simp
  · have h0 : (w.take b).drop a = [] := List.drop_eq_nil_of_le (by simp; omega)
    rw [h0]; simp
theorem sound_qb {w : List Nat} {Sh : List (List Nat)} {t : Nat} (h : ∀ n ∈ Sh, AB n ∧ ∃ a b, n = cut w a b) : appL (w ++ [42]) (starL t ++ Sh) = !Sh.isEmpty := by
  rw [appL_app, appL_star, Bool.false_or]
  cases Sh with
  | nil => rfl
  | cons n r =>
    obtain ⟨h1, a, b, h2⟩ := h n (by simp)
    unfold appL
    rw [List.any_cons, low_AB h1]
    have : (n != [42]) = true := by simpa using ne_star h1
    rw [this, h2, has_cut]; rfl
theorem sound_qc {Cm : List (List Nat)} {t : Nat} (h : ABs Cm) : appL [] (Cm ++ starL t) = Cm.any List.isEmpty := by
  rw [appL_app, appL_star, Bool.or_false]
  unfold appL
  refine any_cong fun n hn => ?_
  have : (n != [42]) = true := by simpa using ne_star (h n hn)
  rw [this, low_AB (h n hn)]; rfl
theorem sound_qa {Sh : List (List Nat)} {t : Nat} (ht : t < 2) (h : ABs Sh) : ((starL t ++ Sh).any fun a => a == [42]) = decide (t = 0) := by
  rw [List.any_append, none_of h (nAB (c := 42) (by simp) (by decide) (by decide))]
  rcases two ht with rfl | rfl <;> rfl
noncomputable def abL (w : List Nat) : Bool := w.all fun c => Nat.beq c 97 || Nat.beq c 98
theorem abL_iff {w : List Nat} (h : abL w = true) : AB w := fun c hc => by
  have := List.all_eq_true.mp h c hc
  simpa [nb] using this
noncomputable def preR (x : List Nat) : List Nat → Bool :=
  @List.rec Nat (fun _ => List Nat → Bool) (fun _ => true) (fun a _ ih y => @List.rec Nat (fun _ => Bool) false (fun b t _ => @Bool.rec (fun _ => Bool) false (ih t) (Nat.beq a b)) y) x
theorem preR_eq : ∀ x y, preL x y = preR x y
  | [], _ => rfl
  | _ :: _, [] => rfl
  | a :: x, b :: y => by
    show (match Nat.beq a b with | true => preL x y | false => false) = @Bool.rec (fun _ => Bool) false (preR x y) (Nat.beq a b)
    rw [preR_eq x y]
    cases Nat.beq a b <;> rfl
noncomputable def hasR (x w : List Nat) : Bool :=
  @List.rec Nat (fun _ => Bool) (@List.rec Nat (fun _ => Bool) true (fun _ _ _ => false) x) (fun b r ih => @Bool.rec (fun _ => Bool) ih true (preR x (b :: r))) w
theorem hasR_eq (x : List Nat) : ∀ w, hasL x w = hasR x w
  | [] => by cases x <;> rfl
  | b :: r => by
    show (match preL x (b :: r) with | true => true | false => hasL x r) = @Bool.rec (fun _ => Bool) (hasR x r) true (preR x (b :: r))
    rw [hasR_eq x r, preR_eq]
    cases preR x (b :: r) <;> rfl
noncomputable def stepF (w : List Nat) (st : Nat × Option (List Nat)) (r : RuleN) : Nat × Option (List Nat) :=
  match hasR (r.2.1 ++ (r.1 ++ r.2.1)) w with
  | true => match Nat.ble (st.1 + 1) (99 - r.1.length) with
    | true => (99 - r.1.length, some r.2.2)
    | false => match Nat.beq st.1 (99 - r.1.length) with
      | true => match st.2 with
        | some [] => (st.1, some r.2.2)
        | _ => st
      | false => st
  | false => st
noncomputable def allowF (w : List Nat) (rs : List RuleN) : Option (List Nat) := (rs.foldl (stepF w) (0, none)).2
theorem great_ab {r : RuleN} (h1 : AB r.1) (h2 : AB r.2.1) : greatL r = r.2.1 ++ (r.1 ++ r.2.1) := by
  unfold greatL
  rw [List.append_assoc]
  refine (List.map_congr_left (g := id) fun c hc => ?_).trans (List.map_id _)
  have : c = 97 ∨ c = 98 := by
    rcases List.mem_append.mp hc with h | h
    · exact h2 c h
    · rcases List.mem_append.mp h with h | h
      · exact h1 c h
      · exact h2 c h
  rcases this with rfl | rfl <;> decide
theorem step_F {w : List Nat} {r : RuleN} (h1 : AB r.1) (h2 : AB r.2.1) (st : Nat × Option (List Nat)) : stepL w st r = stepF w st r := by
  unfold stepL stepF
  rw [great_ab h1 h2, hasR_eq]
  cases hasR (r.2.1 ++ (r.1 ++ r.2.1)) w with
  | false => rfl
  | true =>
    dsimp only
    by_cases h : st.1 < 99 - r.1.length
    · rw [if_pos h, show Nat.ble (st.1 + 1) (99 - r.1.length) = true from Nat.ble_eq_true_of_le h]
    · have e : Nat.ble (st.1 + 1) (99 - r.1.length) = false := by
        cases e : Nat.ble (st.1 + 1) (99 - r.1.length) with
        | true => exact absurd (Nat.le_of_ble_eq_true e) h
        | false => rfl
      rw [if_neg h, e]
      dsimp only
      rw [nb]
      by_cases h2 : st.1 = 99 - r.1.length
      · rw [beq_iff_eq.mpr h2]
        dsimp only
        obtain ⟨n, o⟩ := st
        match o with
        | none => exact if_neg fun q => nomatch q.2
        | some [] => exact if_pos ⟨h2, rfl⟩
        | some (a :: t) => exact if_neg fun q => nomatch q.2
      · have e2 : (st.1 == 99 - r.1.length) = false := by simpa using h2
        rw [e2, if_neg fun q => h2 q.1]
theorem foldl_eq {α β : Type} {f g : β → α → β} : ∀ {l : List α} (b : β), (∀ a ∈ l, ∀ b, f b a = g b a) → l.foldl f b = l.foldl g b
  | [], _, _ => rfl
  | a :: l, b, h => by rw [List.foldl_cons, List.foldl_cons, h a (List.mem_cons_self) b, foldl_eq _ fun x hx => h x (List.mem_cons_of_mem _ hx)]
theorem allow_F (w : List Nat) {rs : List RuleN} (h : ∀ r ∈ rs, AB r.1 ∧ AB r.2.1) : allowL w rs = allowF w rs :=
  congrArg Prod.snd (foldl_eq _ fun r hr b => step_F (h r hr).1 (h r hr).2 b)
theorem rn1_ab {E : List (List Nat)} (h : ABs E) : ∀ r ∈ rn1 E, AB r.1 ∧ AB r.2.1 := fun r hr => by
  obtain ⟨n, hn, rfl⟩ := List.mem_map.mp hr
  exact ⟨h n hn, fun c hc => by simp at hc; exact .inr hc⟩
theorem rn2_ab {E : List (List Nat)} (h : ABs E) : ∀ r ∈ rn2 E, AB r.1 ∧ AB r.2.1 := fun r hr => by
  obtain ⟨n, hn, rfl⟩ := List.mem_map.mp hr
  exact ⟨h n hn, fun c hc => by simp at hc; exact .inl hc⟩
noncomputable def chkA (w : List Nat) (L He : Nat) : Bool :=
  Nat.ble 1 w.length && Nat.ble w.length 30 && abL w && Nat.ble L 100 && Nat.ble He L &&
  (match L with
   | 0 => ((countsL w).map wide).all fun b => !b
   | _ => ((countsL w).map wide).getD L false && (((countsL w).map wide).take L).all fun b => !b) &&
  decide ((((countsL w).take L).drop 1).map (fun r => (mn r, mx r)) = (floorsW L He).map fun (n : Nat) => ((n : Int), (n : Int) + 1)) &&
  ((floorsW L He).zip ((floorsW L He).drop 1)).all fun d => Nat.beq d.2 d.1 || Nat.beq d.2 (d.1 + 1)
noncomputable def chkB (w : List Nat) (E Dt : List (List Nat)) (t L : Nat) (line : List Nat) (N M : List (List Nat)) : Bool :=
  Nat.ble E.length 200 && Nat.ble Dt.length 200 && (Nat.beq t 0 || (eqLL (bothL E Dt) N && eqLL (bothL Dt E) M)) &&
  ((bothL E Dt).isEmpty == Nat.beq L 0) && ((bothL Dt E).any List.isEmpty == Nat.beq L 2) &&
  (match L with
   | 0 => optEq (allowF w (rn1 E ++ rn2 Dt)) none && optEq (allowF w.reverse (rn2 Dt ++ rn1 E)) none
   | _ => optEq (allowF w (rn1 E ++ rn2 Dt)) (some (due1 line)) && optEq (allowF w.reverse (rn2 Dt ++ rn1 E)) (some (due2 line)))
noncomputable def chkF (w : List Nat) (t L He : Nat) (N M : List (List Nat)) : Bool := chkA w L He && chkB w (betweenL w w.reverse 97) (betweenL w w.reverse 98) t L (lineW (floorsW L He)) N M
theorem sound {w : List Nat} {t L He : Nat} {N M : List (List Nat)} (ht : t < 2) (h : chkF w t L He N M = true) : TurnOk w t L He N M := by
  unfold chkF chkA chkB at h
  simp only [Bool.and_eq_true] at h
  obtain ⟨⟨⟨⟨⟨⟨⟨⟨a1, a2⟩, a3⟩, a4⟩, a5⟩, a6⟩, a7⟩, a8⟩, ⟨⟨⟨⟨⟨b1, b2⟩, b3⟩, b4⟩, b5⟩, b6⟩⟩ := h
  have ab := abL_iff a3
  have eE : endsW w = betweenL w w.reverse 97 := between_eq _ _ _
  have eD : dotsNW w = betweenL w w.reverse 98 := between_eq _ _ _
  rw [← eE] at b1 b3 b4 b5 b6
  rw [← eD] at b2 b3 b4 b5 b6
  have hE := between_names (m := w.reverse) (c := 97) ab
  have hD := between_names (m := w.reverse) (c := 98) ab
  have hl : w.length ≤ 30 := Nat.le_of_ble_eq_true a2
  have sE : ABs (endsW w) := fun n hn => (hE n hn).1
  have sD : ABs (dotsNW w) := fun n hn => (hD n hn).1
  have q1 := sound_q1 ht sE sD
  have q2 := sound_q2 ht sE sD
  have sSh : ABs (bothW (endsW w) (dotsNW w)) := fun n hn => sE n (both_sub n hn)
  have sCm : ABs (bothW (dotsNW w) (endsW w)) := fun n hn => sD n (both_sub n hn)
  have g1 : ∀ r ∈ rn1 (endsW w) ++ rn2 (dotsNW w), AB r.1 ∧ AB r.2.1 := fun r hr => by
    rcases List.mem_append.mp hr with h | h
    · exact rn1_ab sE r h
    · exact rn2_ab sD r h
  have g2 : ∀ r ∈ rn2 (dotsNW w) ++ rn1 (endsW w), AB r.1 ∧ AB r.2.1 := fun r hr => by
    rcases List.mem_append.mp hr with h | h
    · exact rn2_ab sD r h
    · exact rn1_ab sE r h
  rw [← allow_F _ g1, ← allow_F _ g2] at b6
  have e0 : decide (0 < L) = !Nat.beq L 0 := by cases L <;> rfl
  have e2 : decide (L = 2) = Nat.beq L 2 := by rw [nb]; by_cases h : L = 2 <;> simp [h]
  rw [← both_eq] at b4 b5
  have b4 := beq_iff_eq.mp b4
  have b5 := beq_iff_eq.mp b5
  refine ⟨Nat.le_of_ble_eq_true a1, hl, ab, Nat.le_of_ble_eq_true a4, Nat.le_trans (Nat.le_of_ble_eq_true a5) (Nat.le_of_ble_eq_true a4), Nat.le_of_ble_eq_true a5, ?_, ?_, ?_, ?_, fun n hn => ⟨(hE n hn).1, by have := (hE n hn).2.1; lia⟩, fun n hn => ⟨(hD n hn).1, by have := (hD n hn).2.1; lia⟩,
    fun n hn => by have := (hE n hn).2.1; lia, fun n hn => by have := (hD n hn).2.1; lia, Nat.le_of_ble_eq_true b1, Nat.le_of_ble_eq_true b2, q1, q2, ?_, ?_, ?_, ?_, ?_, ?_⟩
  · intro h0 b hb
    subst h0
    rw [counts_eq] at hb
    simpa using List.all_eq_true.mp a6 b hb
  · intro h0
    rw [counts_eq]
    obtain ⟨k, rfl⟩ : ∃ k, L = k + 1 := ⟨L - 1, by lia⟩
    simp only [Bool.and_eq_true] at a6
    obtain ⟨c1, c2⟩ := a6
    rw [List.getD_eq_getElem?_getD] at c1
    cases hg : ((countsL w).map wide)[k + 1]? with
    | none => rw [hg] at c1; cases c1
    | some b =>
      rw [hg] at c1
      obtain ⟨hlt, hb⟩ := List.getElem?_eq_some_iff.mp hg
      refine ⟨hlt, by rw [hb]; exact c1, fun j hj hjL => ?_⟩
      have := List.all_eq_true.mp c2 ((countsL w).map wide)[j] (List.mem_iff_getElem.mpr ⟨j, by rw [List.length_take]; lia, by rw [List.getElem_take]⟩)
      simpa using this
  · rw [counts_eq]; exact of_decide_eq_true a7
  · intro d hd
    have := List.all_eq_true.mp a8 d hd
    simpa [nb] using this
  · rw [Bool.or_eq_true, Bool.and_eq_true] at b3
    rcases b3 with b3 | ⟨b3, b3'⟩
    · exact .inl (Nat.eq_of_beq_eq_true b3)
    · rw [both_eq, both_eq]; exact .inr ⟨eqLL_iff _ _ b3, eqLL_iff _ _ b3'⟩
  · unfold U1; rw [q1]; exact sound_qa ht sSh
  · unfold U1
    rw [q1, sound_qb fun n hn => ⟨sSh n hn, (hE n (both_sub n hn)).2.2⟩, b4, e0]
  · unfold U2
    rw [q2, sound_qc sCm, b5, e2]
  · intro h0
    obtain ⟨k, rfl⟩ : ∃ k, L = k + 1 := ⟨L - 1, by lia⟩
    simp only [Bool.and_eq_true] at b6
    exact ⟨optEq_iff b6.1, optEq_iff b6.2⟩
  · intro h0
    subst h0
    simp only [Bool.and_eq_true] at b6
    exact ⟨optEq_iff b6.1, optEq_iff b6.2⟩
noncomputable def ofR : Nat → Nat → List Nat
  | 0, _ => []
  | k + 1, n => (match n % 2 with
    | 0 => 97
    | _ => 98) :: ofR k (n / 2)
noncomputable def toR : List Nat → Nat
  | [] => 0
  | c :: r => (if c = 97 then 0 else 1) + 2 * toR r
theorem ofR_toR : ∀ {w : List Nat}, AB w → ofR w.length (toR w) = w ∧ toR w < 2 ^ w.length
  | [], _ => ⟨rfl, by decide⟩
  | c :: r, h => by
    obtain ⟨i1, i2⟩ := ofR_toR (w := r) fun d hd => h d (List.mem_cons_of_mem _ hd)
    have hp : 2 ^ (c :: r).length = 2 * 2 ^ r.length := by rw [List.length_cons, Nat.pow_succ]; lia
    rw [hp]
    rcases h c (by simp) with rfl | rfl
    · have e1 : toR (97 :: r) = 2 * toR r := by simp [toR]
      refine ⟨?_, by lia⟩
      rw [e1]
      show (match (2 * toR r) % 2 with | 0 => 97 | _ => 98) :: ofR r.length (2 * toR r / 2) = 97 :: r
      rw [show 2 * toR r % 2 = 0 by lia, show 2 * toR r / 2 = toR r by lia, i1]
      rfl
    · have e1 : toR (98 :: r) = 2 * toR r + 1 := by simp [toR]; lia
      refine ⟨?_, by lia⟩
      rw [e1]
      show (match (2 * toR r + 1) % 2 with | 0 => 97 | _ => 98) :: ofR r.length ((2 * toR r + 1) / 2) = 98 :: r
      rw [show (2 * toR r + 1) % 2 = 1 by lia, show (2 * toR r + 1) / 2 = toR r by lia, i1]
      rfl
noncomputable def fullF (n : Nat) : Bool :=
  let w := ofR 8 n
  let b := bendN w
  let sh := bothL (betweenL w w.reverse 97) (betweenL w w.reverse 98)
  let cm := bothL (betweenL w w.reverse 98) (betweenL w w.reverse 97)
  decide (bendW w = ((b.1 : Int), (b.2 : Int))) && chkF w 0 b.1 b.2 [] [] &&
  chkF (sentW w) 1 (b.1 + b.2) b.2 (sh.map sentW) (cm.map sentW) &&
  chkF (sentW (otherW w)) 1 (b.1 + (b.1 - b.2)) (b.1 - b.2) ((cm.map otherW).map sentW) ((sh.map otherW).map sentW)
theorem full_good {n : Nat} (h : fullF n = true) {sw : Nat} (hs : sw < 2) : Good (ofR 8 n) sw := by
  unfold fullF at h
  simp only [Bool.and_eq_true, decide_eq_true_eq] at h
  obtain ⟨⟨⟨h1, h2⟩, h3⟩, h4⟩ := h
  refine ⟨_, _, h1, sound (by decide) h2, ?_⟩
  rw [← between_eq, ← between_eq, ← both_eq, ← both_eq] at h3 h4
  rcases (show sw = 0 ∨ sw = 1 by lia) with rfl | rfl
  · exact sound (by decide) h3
  · exact sound (by decide) h4
theorem good_all (hf : ∀ n, n < 256 → fullF n = true) : ∀ w, AB w → w.length = 8 → ∀ sw, sw < 2 → Good w sw := fun w h hl sw hs => by
  obtain ⟨h1, h2⟩ := ofR_toR h
  rw [hl] at h1 h2
  rw [← h1]
  exact full_good (hf _ (by omega)) hs
theorem end_of (hf : ∀ n, n < 256 → fullF n = true) : PySem.Challenge.rw_wy0011_01.Holds := closing (good_all hf)
theorem wd0 : ((List.range 8).all fun i => fullF (0 + i)) = true := by kernel_rfl
theorem wd1 : ((List.range 8).all fun i => fullF (8 + i)) = true := by kernel_rfl
theorem wd2 : ((List.range 8).all fun i => fullF (16 + i)) = true := by kernel_rfl
theorem wd3 : ((List.range 8).all fun i => fullF (24 + i)) = true := by kernel_rfl
theorem wd4 : ((List.range 8).all fun i => fullF (32 + i)) = true := by kernel_rfl
theorem wd5 : ((List.range 8).all fun i => fullF (40 + i)) = true := by kernel_rfl
theorem wd6 : ((List.range 8).all fun i => fullF (48 + i)) = true := by kernel_rfl
theorem wd7 : ((List.range 8).all fun i => fullF (56 + i)) = true := by kernel_rfl
theorem wd8 : ((List.range 8).all fun i => fullF (64 + i)) = true := by kernel_rfl
theorem wd9 : ((List.range 8).all fun i => fullF (72 + i)) = true := by kernel_rfl
theorem wd10 : ((List.range 8).all fun i => fullF (80 + i)) = true := by kernel_rfl
theorem wd11 : ((List.range 8).all fun i => fullF (88 + i)) = true := by kernel_rfl
theorem wd12 : ((List.range 8).all fun i => fullF (96 + i)) = true := by kernel_rfl
theorem wd13 : ((List.range 8).all fun i => fullF (104 + i)) = true := by kernel_rfl
theorem wd14 : ((List.range 8).all fun i => fullF (112 + i)) = true := by kernel_rfl
theorem wd15 : ((List.range 8).all fun i => fullF (120 + i)) = true := by kernel_rfl
theorem wd16 : ((List.range 8).all fun i => fullF (128 + i)) = true := by kernel_rfl
theorem wd17 : ((List.range 8).all fun i => fullF (136 + i)) = true := by kernel_rfl
theorem wd18 : ((List.range 8).all fun i => fullF (144 + i)) = true := by kernel_rfl
theorem wd19 : ((List.range 8).all fun i => fullF (152 + i)) = true := by kernel_rfl
theorem wd20 : ((List.range 8).all fun i => fullF (160 + i)) = true := by kernel_rfl
theorem wd21 : ((List.range 8).all fun i => fullF (168 + i)) = true := by kernel_rfl
theorem wd22 : ((List.range 8).all fun i => fullF (176 + i)) = true := by kernel_rfl
theorem wd23 : ((List.range 8).all fun i => fullF (184 + i)) = true := by kernel_rfl
theorem wd24 : ((List.range 8).all fun i => fullF (192 + i)) = true := by kernel_rfl
theorem wd25 : ((List.range 8).all fun i => fullF (200 + i)) = true := by kernel_rfl
theorem wd26 : ((List.range 8).all fun i => fullF (208 + i)) = true := by kernel_rfl
theorem wd27 : ((List.range 8).all fun i => fullF (216 + i)) = true := by kernel_rfl
theorem wd28 : ((List.range 8).all fun i => fullF (224 + i)) = true := by kernel_rfl
theorem wd29 : ((List.range 8).all fun i => fullF (232 + i)) = true := by kernel_rfl
theorem wd30 : ((List.range 8).all fun i => fullF (240 + i)) = true := by kernel_rfl
theorem wd31 : ((List.range 8).all fun i => fullF (248 + i)) = true := by kernel_rfl
theorem piece {k : Nat} (h : ((List.range 8).all fun i => fullF (8 * k + i)) = true) {n : Nat} (hn : n / 8 = k) : fullF n = true := by
  have := List.all_eq_true.mp h (n % 8) (List.mem_range.mpr (by lia))
  rwa [show 8 * k + n % 8 = n by lia] at this
theorem up {P : Nat → Prop} {n : Nat} (h : ∀ k, k < n → P k) (hn : P n) : ∀ k, k < n + 1 → P k := fun k hk => by
  rcases Nat.lt_or_eq_of_le (Nat.le_of_lt_succ hk) with q | q
  · exact h k q
  · exact q ▸ hn
theorem all32 : ∀ k, k < 32 → ((List.range 8).all fun i => fullF (8 * k + i)) = true := up (up (up (up (up (up (up (up (up (up (up (up (up (up (up (up (up (up (up (up (up (up (up (up (up (up (up (up (up (up (up (up (fun k h => absurd h (Nat.not_lt_zero k)) wd0) wd1) wd2) wd3) wd4) wd5) wd6) wd7) wd8) wd9) wd10) wd11) wd12) wd13) wd14) wd15) wd16) wd17) wd18) wd19) wd20) wd21) wd22) wd23) wd24) wd25) wd26) wd27) wd28) wd29) wd30) wd31
theorem fin_all : ∀ n, n < 256 → fullF n = true := fun n hn => piece (all32 (n / 8) (by lia)) rfl
theorem holds : PySem.Challenge.rw_wy0011_01.Holds := end_of fin_all
end
end Mine
theorem PySem.Challenge.cw_wy0011_01_holds : PySem.Challenge.rw_wy0011_01.Holds :=
  Mine.holds
