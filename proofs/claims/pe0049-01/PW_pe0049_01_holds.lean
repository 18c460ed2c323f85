import PyProof.Rows.All
import Wide.All
import OpenK.AllK
import Wide.FinOn
import PySem.Challenge.RW_pe0049_01
set_option Elab.async false
set_option rowWalk.seconds 0

section
open PySem PySem.W PyProof.Rows PySem.Calls PySem.Spec
open PySem.Sem (wp)
namespace Mine
/-- the built-ins that hold a bytearray while they run -/
def holdIds : List String := ["bytearray.__contains__", "bytearray.__mod__", "bytearray.__rmod__", "_struct.pack_into.held", "bytearray.find.held"] ++ Builtin.Bytes.decodersThatHold
def holds : Code → Bool
  | .builtin id _ => holdIds.contains id
  | _ => false
/-- no such built-in runs anywhere below -/
def Clean (l : List (Code × Pos)) : Prop := ∀ x ∈ l, holds x.1 = false
def wpC {α : Type} (M : Model) (A : Around) (t : Sem α) (Q : α → Shared → Prop) (E : Value → Shared → Prop) (s : Shared) : Prop :=
  ∀ Γ p, Γ.In A → holds Γ.code = false → Clean Γ.below → wp M Γ t (fun a _ s' => Q a s') (fun e _ s' => E e s') p s
def codeC (M : Model) (A : Around) (c : Code) (R : Result → Shared → Prop) (s : Shared) : Prop :=
  ∀ Γ p, Γ.code = c → Γ.Below A → Clean Γ.below → wpCode M Γ R p s
section
variable {α β : Type} {M : Model} {A : Around} {E : Value → Shared → Prop} {s : Shared}
theorem wpC.of_any {t : Sem α} {Q : α → Shared → Prop} (h : wpAny M A t Q E s) : wpC M A t Q E s := fun Γ p hΓ _ _ => h Γ p hΓ
theorem codeC.of_any {c : Code} {R : Result → Shared → Prop} (h : codeAny M A c R s) : codeC M A c R s := fun Γ p hc hΓ _ => h Γ p hc hΓ
theorem wpC_bind {m : Sem α} {f : α → Sem β} {Q : β → Shared → Prop} (h : wpC M A m (fun a s' => wpC M A (f a) Q E s') E s) : wpC M A (m >>= f) Q E s := fun Γ p hΓ hc hb => by
  rw [Sem.wp_bind']
  exact Sem.wp_mono M Γ m (fun a p' s' h' => h' Γ p' hΓ hc hb) (fun _ _ _ h' => h') p s (h Γ p hΓ hc hb)
theorem wpC_mono {t : Sem α} {Q Q' : α → Shared → Prop} {E' : Value → Shared → Prop} (h : wpC M A t Q E s)
    (hQ : ∀ a s, Q a s → Q' a s) (hE : ∀ e s, E e s → E' e s) : wpC M A t Q' E' s :=
  fun Γ p hΓ hc hb => Sem.wp_mono M Γ t (fun a _ s => hQ a s) (fun e _ s => hE e s) p s (h Γ p hΓ hc hb)
theorem wpC_pure {a : α} {Q : α → Shared → Prop} (h : Q a s) : wpC M A (pure a) Q E s := .of_any (wpAny_pure h)
theorem wpC_holding {vs : List Value} {m : Sem α} {Q : α → Shared → Prop} (h : wpC M A m Q E s) : wpC M A (holding vs m) Q E s :=
  fun Γ p hΓ hc hb => by rw [Sem.wp_holding]; exact h Γ p hΓ hc hb
theorem wpC_onRaise {m : Sem α} {k : Value → Sem Unit} {Q : α → Shared → Prop}
    (h : wpC M A m Q (fun e s' => wpC M A (k e) (fun _ s'' => E e s'') E s') s) : wpC M A (m.onRaise k) Q E s := fun Γ p hΓ hc hb => by
  rw [Sem.wp_onRaise]
  exact Sem.wp_mono M Γ m (fun _ _ _ h' => h') (fun e p' s' h' => h' Γ p' hΓ hc hb) p s (h Γ p hΓ hc hb)
theorem wpC_eq {t t' : Sem α} {Q : α → Shared → Prop} (e : t = t') (h : wpC M A t' Q E s) : wpC M A t Q E s := e ▸ h
theorem wpC_if_true {c : Prop} [Decidable c] {a b : Sem α} {Q : α → Shared → Prop} (hc : c) (h : wpC M A a Q E s) : wpC M A (if c then a else b) Q E s := by rw [if_pos hc]; exact h
theorem wpC_if_false {c : Prop} [Decidable c] {a b : Sem α} {Q : α → Shared → Prop} (hc : ¬ c) (h : wpC M A b Q E s) : wpC M A (if c then a else b) Q E s := by rw [if_neg hc]; exact h
theorem ifN {c : Prop} [Decidable c] {a b : Sem α} {Q : α → Shared → Prop} (hc : ¬ c) (h : wpAny M A b Q E s) : wpAny M A (if c then a else b) Q E s := by rw [if_neg hc]; exact h
theorem ifP {c : Prop} [Decidable c] {a b : Sem α} {Q : α → Shared → Prop} (hc : c) (h : wpAny M A a Q E s) : wpAny M A (if c then a else b) Q E s := by rw [if_pos hc]; exact h
theorem codeC_mono {c : Code} {R R' : Result → Shared → Prop} (h : codeC M A c R s) (hR : ∀ r s, R r s → R' r s) : codeC M A c R' s :=
  fun Γ p hc hΓ hb => wpCode_mono hR (h Γ p hc hΓ hb)
theorem clean_enter {Γ : PySem.Ctx} {c : Code} {h : Option Value} {p : Pos} (hc : holds Γ.code = false) (hb : Clean Γ.below) : Clean (Γ.enter c h p).below := by
  intro x hx
  rcases List.mem_cons.mp hx with rfl | hx
  · exact hc
  · exact hb x hx
theorem wpC_run {c : Code} {h : Option Value} {Q : Flow → Shared → Prop}
    (hc : codeC M (A.mark h) c (fun r s' => match r with | .ok f => Q f s' | .error e => E e s') s) (hnb : h ≠ some byPass := by intro x; cases x) : wpC M A (run c h) Q E s :=
  fun Γ p hΓ hcl hb => by rw [Sem.wp_run]; exact hc _ p rfl (hΓ.enter c h p hnb) (clean_enter hcl hb)
theorem wpC_runValue {c : Code} {Q : Value → Shared → Prop}
    (hc : codeC M A c (fun r s' => match r with | .ok (.ret v) => Q v s' | .ok _ => False | .error e => E e s') s) : wpC M A (runValue c) Q E s :=
  fun Γ p hΓ hcl hb => by rw [Sem.wp_runValue]; exact hc _ p rfl (hΓ.enter c none p (by intro x; cases x)) (clean_enter hcl hb)
theorem wpC_call {f : Value} {pos : List Value} {kw : List (Str × Value)} {Q : Value → Shared → Prop}
    (hc : codeC M A (.call f ⟨pos, kw⟩) (fun r s' => match r with | .ok (.ret v) => Q v s' | .ok _ => False | .error e => E e s') s) : wpC M A (call f pos kw) Q E s := wpC_runValue hc
theorem codeC_of_tree {c : Code} {R : Result → Shared → Prop} (hh : holds c = false)
    (h : wpC M (A.under c) (M.den c) (fun fin s' => match fin with | .done f => R (.ok f) s' | .again c' => c'.quiet = true ∧ codeC M A c' R s')
      (fun e s' => R (.error e) s') s) : codeC M A c R s := fun Γ p hc hΓ hb => by
  rw [wpCode_iff_wp, hc]
  refine Sem.wp_mono M Γ _ (fun fin p' s' h' => ?_) (fun _ _ _ h' => h') p s (h Γ p (hc ▸ hΓ.in) (hc ▸ hh) hb)
  cases fin with
  | done f => exact h'
  | again c' => exact ⟨h'.1, h'.2 (Γ.goto c') p' rfl (hΓ.goto c') hb⟩
/-- no bytearray is held -/
theorem wpC_exported {a : Value} {Q : Bool → Shared → Prop} (h : Q false s) : wpC M A (Builtin.Bytes.exported a) Q E s := fun Γ p _ hc hb => by
  unfold Builtin.Bytes.exported
  rw [Sem.wp_bind']
  show wp M Γ stack _ _ p s
  unfold stack
  rw [Sem.wp_stack, Sem.wp_pure, Sem.wp_pure']
  have hall : ∀ x ∈ ((Γ.code, p) :: Γ.below), holds x.1 = false := by
    intro x hx
    rcases List.mem_cons.mp hx with rfl | hx
    · exact hc
    · exact hb x hx
  have e : ∀ l : List (Code × Pos), (∀ x ∈ l, holds x.1 = false) → (l.any fun
    | (.builtin "bytearray.__contains__" ⟨v :: _, _⟩, _) | (.builtin "bytearray.__mod__" ⟨v :: _, _⟩, _)
    | (.builtin "bytearray.__rmod__" ⟨_ :: v :: _, _⟩, _) | (.builtin "_struct.pack_into.held" ⟨v :: _, _⟩, _) => Builtin.Bytes.sameRef v a
    | (.builtin "bytearray.find.held" ⟨_ :: _ :: held, _⟩, _) => held.any (Builtin.Bytes.sameRef a)
    | (.builtin id ⟨v :: _, _⟩, _) => Builtin.Bytes.sameRef v a && Builtin.Bytes.decodersThatHold.contains id
    | _ => false) = false := by
    intro l hl
    rw [List.any_eq_false]
    intro x hx
    have hx' := hl x hx
    obtain ⟨c, q⟩ := x
    cases c with
    | builtin id args =>
      have hx2 : holdIds.contains id = false := hx'
      unfold holdIds at hx2
      simp only [List.contains_eq_mem, List.mem_append, decide_eq_false_iff_not, not_or] at hx2
      obtain ⟨h1, h2⟩ := hx2
      simp only [List.mem_cons, List.not_mem_nil, or_false, not_or] at h1
      split <;> simp_all
    | _ => simp
  exact Eq.mpr (congrArg (fun b => Q b s) (e _ hall)) h
end
end Mine
end

section
open PySem PySem.W PyProof.Rows PySem.Calls PySem.Spec
open PySem.Sem (wp)
namespace Mine
theorem thread_endsC {prog : Program} {w : World} {t : Sem Fin} {s : Shared} {R : Result → Shared → Prop} (hreg : s.asleep)
    (h : wpC (model prog w) callerA t (fun fin s' => ∃ f, fin = .done f ∧ (R (.ok f) s' ∧ leftWithCleanup s'.gens = false)) (fun e s' => R (.error e) s' ∧ leftWithCleanup s'.gens = false) s) :
    ∃ n r s' s'', runN (denote table) prog w n s ⟨t, .builtin "claim.caller" {}, default, []⟩ = .halted (outcomeOf r) s' ∧
      schedN (denote table) prog w n (.single s ⟨t, .builtin "claim.caller" {}, default, []⟩) = .halted (outcomeOf r) s' ∧ s'.forget = s''.forget ∧ R r s'' := by
  have h0 := h ⟨.builtin "claim.caller" {}, none, none, [], none⟩ default caller_in (by decide +kernel) (fun x hx => nomatch hx)
  obtain ⟨n, r, s₁, s₂, hs, hn, hfo, hR⟩ := wp_halts_full (M := model prog w) (R := R) hreg (Sem.wp_mono (model prog w) _ t (post' := Sem.finPost (model prog w) ⟨.builtin "claim.caller" {}, none, none, [], none⟩ fun r s' => R r s' ∧ leftWithCleanup s'.gens = false)
    (fun fin p' s' h' => by obtain ⟨f, rfl, hf⟩ := h'; exact hf) (fun _ _ _ h' => h') default s h0)
  exact ⟨n, r, s₂, s₁, hn, hs, hfo, hR⟩

theorem callFromC {c : ClaimW} {tree : List Value → Sem Fin} {w : World} {s : Shared} {free : Addr → Prop} {gens : Prop} {kept : Heap → Prop} (hz : s.asleep) (hgens : s.gens = #[])
    (hspec : ∀ args, c.pre args = true → WData.layableAll args = true →
      ∀ ord : List DictEntry → List DictEntry, (∀ l, (ord l).Perm l) →
      ∃ vs s₁, layAllW c.records (classAt s.heap) w.params ord args s = some (vs, s₁) ∧
        wpC (model c.prog w) callerA (tree vs) (fun fin s' => ∃ f, fin = .done f ∧ (c.Ends s args vs s₁ (.ok f) s' ∧ s'.os = s.os ∧ AllBare s'.gens ∧ kept s'.heap))
          (fun e s' => c.Ends s args vs s₁ (.error e) s' ∧ s'.os = s.os ∧ AllBare s'.gens ∧ kept s'.heap) s₁) :
    c.CallFrom (fun vs => ⟨tree vs, .builtin "claim.caller" {}, default, []⟩) w free gens kept s := by
  intro args hpre hlay ord hord
  obtain ⟨vs, s₁, hlaid, hcode⟩ := hspec args hpre hlay ord hord
  have hal := layAllW_rest _ _ _ hlaid
  obtain ⟨k, r, s', s'', hrun, hsched, hfo, hcase, hos, hkp⟩ := thread_endsC (prog := c.prog) (w := w) (t := tree vs) (s := s₁)
    (R := fun r s' => c.Ends s args vs s₁ r s' ∧ s'.os = s.os ∧ kept s'.heap) (Shared.asleep_of_life hal.2.2.2 hz)
    (wpC_mono hcode (fun fin s' ⟨f, e, h1, h2, h3, h4⟩ => ⟨f, e, ⟨h1, h2, h4⟩, leftWithCleanup_false_of_bare h3⟩) fun e s' ⟨h1, h2, h3, h4⟩ => ⟨⟨h1, h2, h4⟩, leftWithCleanup_false_of_bare h3⟩)
  obtain ⟨eh, _, _, eo, _⟩ := Shared.forget_eq hfo
  have hcase := hcase.congr eh
  have hkp : kept s'.heap := by rw [eh]; exact hkp
  rw [← eo] at hos
  have hlife : s'.heap.life = s.heap.life := (runN_life _ _ _ hrun).trans hal.2.2.2
  refine ⟨vs, s₁, hlaid, k, _, s', hsched, ?_, (fun _ i x hx => by rw [hgens] at hx; simp at hx), hkp, by rw [hlife], Shared.rest_eq hos⟩
  rcases hcase with ⟨v, rfl, d1, d2, d3, d4, d5⟩ | ⟨e, ob, cls, rfl, d1, d2, d3, d4, d5⟩
  · exact .inl ⟨v, rfl, d1, d2, d3, fun b o y _ => d4 b o y, d5⟩
  · exact .inr ⟨e, ob, cls, rfl, d1, d2, d3, d4, fun b o y _ => d5 b o y⟩

/-- the walk that is left: the call from a clean stack -/
abbrev WalkC (q : Program) (loose : List Str) (XP : (Str → Option Value) → Heap → Prop) (YP : World → Heap → Prop) (r : RowW) (d : DefRec) (kwd : List (Str × Expr)) : Prop :=
  ∀ (w : World) (s₀ s₁ : Shared) (mg mb : Str → Option Value), Ground q loose r.records XP w s₀ mg mb s₁.heap → YP w s₁.heap → ∀ (a : Addr) (o : Obj) (pm cd doc dV kV : Value), s₁.heap.get? a = some o →
    o.data = .func { docDef d.name d.params d.body d.scope pm cd doc with defaults := dV, kwdefaults := kV } → s₁.heap.CodeRec cd d.name → Dflts mg s₁.heap d.params kwd dV kV → mg d.name = some (.ref a) → s₁.gens = #[] →
    ∀ (args : List WData) (vals : List Value) (as : List Addr), r.claim.pre args = true → WData.layableAll args = true → ReadsAllW r.records (classAt s₀.heap) s₁.heap vals args as → WellAll w.params s₁.heap vals args → (∀ a ∈ as, (a == sysModules) = false) →
      wpC (model r.prog w) callerA (call (.ref a) vals) (fun v s' => GoodWG r.claim (classAt s₀.heap) (ExcName.means s₀.heap) args s₁ (.ok (.ret v)) s')
        (fun e s' => GoodWG r.claim (classAt s₀.heap) (ExcName.means s₀.heap) args s₁ (.error e) s') s₁

theorem openC {r : RowW} {q : Program} {loose defs kps : List Str} {writes : Bool} {Xt : Shared → Bool} {XP : (Str → Option Value) → Heap → Prop} {α : Type} {Yf : Shared → α} {Ya : World → α} {YP : World → Heap → Prop} {N : Nat}
    (left : LeftO r.prog q loose Xt Yf Ya N) (hY : ∀ w s, Yf s = Ya w → YP w s.heap) (hYk : ∀ w h h', YP w h → (∀ b o, h.get? b = some o → h'.get? b = some o) → YP w h') (hX : ∀ s, Xt s = true → XP (s.heap.nsMap mainGlobals) s.heap) (hXk : ∀ mg h h', XP mg h → (∀ b o, h.get? b = some o → h'.get? b = some o) → XP mg h')
    (hRf : ∀ s, Xt s = true → RecFacts r.records s.heap) (hwr : (!writes || r.records.isEmpty) = true) (ok : (chainsOk q && opensWell r.prog && (frees r && r.within.isEmpty)) = true) (hb : r.prog.bare) (hw : r.promised)
    (pin : ∀ w s, s.heap.isNs mainGlobals = true → Ground q loose [] XP w s (s.heap.nsMap mainGlobals) (s.heap.nsMap builtinsNs) s.heap → ∀ n ∈ defs, isTheDefsW r.prog s.heap n)
    (go : ∀ (w : World) (s₀ s₁ : Shared) (mg mb : Str → Option Value), Ground q loose r.records XP w s₀ mg mb s₁.heap → YP w s₁.heap → ∀ (args : List WData) (vs : List Value) (as : List Addr),
      r.claim.pre args = true → WData.layableAll args = true → Laid r.records w s₀ s₁ args vs as → sysModules < s₀.heap.objs.size → ∃ f, mg r.name = some f ∧
        wpC (model r.prog w) callerA (call f vs) (fun v s' => GoodWG r.claim (classAt s₀.heap) (ExcName.means s₀.heap) args s₁ (.ok (.ret v)) s')
          (fun e s' => GoodWG r.claim (classAt s₀.heap) (ExcName.means s₀.heap) args s₁ (.error e) s') s₁) : r.claim.HoldsOpenBy (callStub r.name) defs kps writes := by
  obtain ⟨ok, k5⟩ := Bool.and_eq_true_iff.mp ok
  obtain ⟨hch, o1⟩ := Bool.and_eq_true_iff.mp ok
  obtain ⟨k5, k6⟩ := Bool.and_eq_true_iff.mp k5
  obtain ⟨hsame, hu, ha, hap, hm⟩ := frees_parts k5
  refine ⟨⟨hb, o1, by show r.makers.map _ = []; rw [hm]; rfl⟩, hw.witness, fun w => ⟨(left.behind hX hch w).1, fun s' hs' => ?_⟩⟩
  obtain ⟨s₀, hf, hg0, s, hT, hz, hgens, hg, G00, y⟩ := (left.behind (XP := fun mg h => XP mg h ∧ RecFacts r.records h) (fun s hs => ⟨hX s hs, hRf s hs⟩) hch w).2 s' hs'
  have G0 : Ground q loose [] XP w s (s.heap.nsMap mainGlobals) (s.heap.nsMap builtinsNs) s.heap := ⟨G00.T, G00.B, G00.D, G00.TE, G00.TD, G00.W, G00.X.1, G00.cls, G00.has, G00.apart, G00.once, G00.K⟩
  have RF := G00.X.2
  have hT' := hT
  refine ⟨s₀, hf, hg0, s, hT, pin w s hg G0, RF.1, RF.2.1, ?_⟩
  have hgens : s.gens = #[] := Array.eq_empty_of_size_eq_zero (beq_iff_eq.mp hgens)
  have G : Ground q loose r.records XP w s _ _ s.heap := RF.ground G0
  refine callFromC (c := r.claim) (tree := fun vs => do match ← nsGet mainNs r.name with
      | some f => do ret (← call f vs)
      | none => unsupported "claim.caller:no-such-global") hz hgens fun args hpre hlay ord hord => ?_
  obtain ⟨⟨vs, s₁⟩, hlaid⟩ := Option.isSome_iff_exists.mp (layAllW_isSome (P := w.params) (ord := ord) G.has args r.args s (pre_splitW hpre).1)
  have keeps := layAllW_keeps _ _ _ hlaid
  have hal := layAllW_rest _ _ _ hlaid
  obtain ⟨as, hrd, hin, hold⟩ := reads_layAllW hord _ _ _ hlaid hlay s₁.heap (fun _ _ e => e)
  have L : Laid r.records w s s₁ args vs as := ⟨⟨ord, hord, hlaid⟩, hrd, hin, hold, keeps, hal.1.trans hgens, hal.2.2.1⟩
  have G₁ := G.keeps hXk keeps
  obtain ⟨f, hf, h⟩ := go w s s₁ _ _ G₁ (hYk _ _ _ (hY w s y) keeps) args vs as hpre hlay L G.low
  have hi := ident_freeW hu ha hap
  have hwi : r.claim.within = [] := List.isEmpty_iff.mp k6
  refine ⟨vs, s₁, hlaid, wpC_bind (.of_any (wpAny_nsGet G₁.T.g ?_))⟩
  show wpC _ _ (match s.heap.nsMap mainGlobals r.name with | some f => do ret (← call f vs) | none => unsupported "claim.caller:no-such-global") _ _ _
  rw [hf]
  refine wpC_bind (wpC_mono h (fun v s' g => wpC_pure ⟨_, rfl, ?_⟩) fun e s' g => ?_)
  · have z := g.laid (c := r.claim) hsame hwi hi L
    exact ⟨z.1, z.2.1, z.2.2, fun q => ⟨namesKept_of hT' hg kps keeps g.2.1.old, noTable hwr q⟩⟩
  · have z := g.laid (c := r.claim) hsame hwi hi L
    exact ⟨z.1, z.2.1, z.2.2, fun q => ⟨namesKept_of hT' hg kps keeps g.2.1.old, noTable hwr q⟩⟩

theorem PySem.W.holds_open {r : OpenRow} {q : Program} {loose : List Str} {Xt : Shared → Bool} {XP : (Str → Option Value) → Heap → Prop} {α : Type} {Yf : Shared → α} {Ya : World → α} {YP : World → Heap → Prop} {d : DefRec} {kwd : List (Str × Expr)} {N : Nat}
    (left : LeftO r.prog q loose Xt Yf Ya N) (hY : ∀ w s, Yf s = Ya w → YP w s.heap) (hYk : ∀ w h h', YP w h → (∀ b o, h.get? b = some o → h'.get? b = some o) → YP w h')
    (hX : ∀ s, Xt s = true → XP (s.heap.nsMap mainGlobals) s.heap) (hXk : ∀ mg h h', XP mg h → (∀ b o, h.get? b = some o → h'.get? b = some o) → XP mg h')
    (hdef : defOf q r.name = some (d, kwd)) (hp : r.prog.theDef r.name = some (d.params, d.body, d.scope)) (hk : kwWritten? d.params.kwonlyargs d.params.kw_defaults = some kwd) (hRf : ∀ s, Xt s = true → RecFacts r.records s.heap) (hwr : (!r.writes || r.records.isEmpty) = true)
    (k1 : r.wellSaid = true) (ok : (chainsOk q && opensWell r.prog && (frees r.toRowW && r.within.isEmpty)) = true) (hb : r.prog.bare) (hw : r.toRowW.promised)
    (walk : WalkC q loose XP YP r.toRowW d kwd) : r.Holds := by
  refine ⟨k1, hw, openC (r := r.toRowW) left hY hYk hX hXk hRf hwr ok hb hw (fun w s hg G n hn => ?_) fun w s₀ s₁ mg mb G Y args vs as hpre hlay L low => ?_⟩
  · obtain rfl : n = r.name := by split at hn <;> simp_all
    exact pinned_of_view hg G hdef hp hk
  · obtain ⟨a, o, pm, cd, doc, dV, kV, h1, h2, h3, h4, h5⟩ := G.fn hdef
    exact ⟨.ref a, h1, walk w s₀ s₁ mg mb G Y a o pm cd doc dV kV h2 h3 h4 h5 (defOf_name hdef ▸ h1) L.gens args vs as hpre hlay L.reads L.well (L.low low)⟩
end Mine
end

section
open PySem PySem.W PyProof.Rows
namespace Mine
set_option maxRecDepth 100000
set_option maxHeartbeats 8000000
open_top hd for PySem.Challenge.rw_pe0049_01
end Mine
end

section
theorem Mine.freshFw : True := by
  w_top off
  trivial
open PySem PySem.W PyProof.Rows PySem.Calls PySem.Spec
namespace Mine
theorem dpt {a n k c : Nat} (h : a + n < c) (hk : 1 + k ≤ n) : a + 1 + k < c := Nat.lt_of_le_of_lt (by rw [Nat.add_assoc]; exact Nat.add_le_add_left hk a) h
theorem dpt1 {a n c : Nat} (h : a + n < c) (hk : 1 ≤ n) : a + 1 < c := Nat.lt_of_le_of_lt (Nat.add_le_add_left hk a) h
/-- the heap h keeps every object of g -/
structure Kp (g h : Heap) : Prop where
  keep : ∀ b o, g.get? b = some o → h.get? b = some o
  size : g.objs.size ≤ h.objs.size
/-- h holds these objects, none of them g's -/
def Own (g h : Heap) (l : List (Addr × Obj)) : Prop := ∀ p ∈ l, h.get? p.1 = some p.2 ∧ g.get? p.1 = none

/-- room: nothing handled, depth and units within bounds -/
structure Rm (A : Around) (d u : Nat) : Prop where
  hh : A.handled = none
  dep : A.depth ≤ d
  un : A.units ≤ u

section
variable {prog : Program} {w : World} {A : Around} {E : Value → Shared → Prop} {s : Shared} {g : Heap} {K : Frag} {p : Program} {loose : List Str} {mean : ExcName → Option Value} {mg mb : Str → Option Value}

theorem enter {Q : Value → Shared → Prop} {l : List (Addr × Obj)} {name qual : Str} {params : Arguments} {body : List Stmt} {scope : Scope} {cl : List (Str × Addr)} {dV kV doc pm cdv ct : Value} {an : Option Addr} {fo : Obj} {f : Addr} {args : List Value} {binds : List (Str × Value)}
    (hK : Kp g s.heap) (hO : Own g s.heap l) (hlim : g.NoLimit)
    (ho : s.heap.get? f = some fo) (hd : fo.data = .func (fnX name qual params body scope cl dV kV doc pm an cdv ct)) (hcd : s.heap.CodeRec cdv qual) (hroom : A.depth < recursionLimit)
    (hbind : BindsTo s (fnX name qual params body scope cl dV kV doc pm an cdv ct) ⟨args, []⟩ binds) (hloc : ∀ y ∈ binds, scope.names.lookup y.1 = some .local)
    (h : ∀ L h₁, Fr g L h₁ (fun y => binds.reverse.lookup y) → News g L h₁ l → (∀ q ∈ l, q.1 < L) →
      wpAny (model prog w) (A.deeper (envX qual scope L f cdv cl)) (execs body (envX qual scope L f cdv cl))
        (fun fl s' => Q (match fl with | .ret v => v | _ => .none) s') (fun _ _ => False)
        { s with heap := h₁, toks := s.toks + binds.length })
    (hcell : ∀ x ∈ scope.names, x.2 ≠ .cell) (hco : scope.isCoroutine = false := by rfl) (hgen : scope.isGenerator = false := by rfl) (hk : scope.kind = .function := by rfl) :
    wpAny (model prog w) A (call (.ref f) args) Q E s := by
  refine wpAny_call ?_
  refine codeAny_call_def (fd := fnX name qual params body scope cl dV kV doc pm an cdv ct) (body := body) (binds := binds) hroom ho hd (hlim.keeps hK.keep) hcd rfl hbind hcell hloc (fun h₁ hns hk₁ => ?_) hco hgen hk
  refine wpAny_mono (h s.heap.objs.size h₁ ⟨hns, fun b o e => hk₁ b o (hK.keep b o e), hK.size⟩ (fun q hq => ⟨hk₁ _ _ (hO q hq).1, Nat.ne_of_lt (Heap.lt_size (hO q hq).1), (hO q hq).2⟩) (fun q hq => Heap.lt_size (hO q hq).1)) (fun _ _ x => x) (fun _ _ x => x.elim)

theorem enterK {Q : Value → Shared → Prop} {l : List (Addr × Obj)} {name qual : Str} {params : Arguments} {body : List Stmt} {scope : Scope} {dV kV doc pm cdv ct oc : Value} {an od : Option Addr} {osl : Array (Option Value)} {f : Addr} {args : List Value} {binds : List (Str × Value)}
    (hK : Kp g s.heap) (hO : Own g s.heap l) (X : K.In g) (T : Top p loose mean mg mb g)
    (ho : K.lookup f = some ⟨oc, od, .func (fnOf name qual params body scope dV kV doc pm an cdv ct), osl⟩) (hcd : codeIn K cdv qual = true) (hroom : A.depth < recursionLimit)
    (hbind : BindsTo s (fnOf name qual params body scope dV kV doc pm an cdv ct) ⟨args, []⟩ binds) (hloc : ∀ y ∈ binds, scope.names.lookup y.1 = some .local)
    (h : ∀ L h₁, Fr g L h₁ (fun y => binds.reverse.lookup y) → News g L h₁ l → (∀ q ∈ l, q.1 < L) →
      wpAny (model prog w) (A.deeper (envOf qual scope L f cdv)) (execs body (envOf qual scope L f cdv))
        (fun fl s' => Q (match fl with | .ret v => v | _ => .none) s') (fun _ _ => False)
        { s with heap := h₁, toks := s.toks + binds.length })
    (hcell : ∀ x ∈ scope.names, x.2 ≠ .cell) (hco : scope.isCoroutine = false) (hgen : scope.isGenerator = false) (hk : scope.kind = .function) :
    wpAny (model prog w) A (call (.ref f) args) Q E s :=
  enter (cl := []) hK hO T.nolimit (X.keeps hK.keep _ _ ho) rfl (codeRec_of (X.keeps hK.keep) hcd) hroom hbind hloc h hcell hco hgen hk

theorem Kp.of_fr {L : Addr} {h : Heap} {m : Str → Option Value} (F : Fr g L h m) : Kp g h := ⟨F.keep, Nat.le_of_lt (Nat.lt_of_le_of_lt F.above F.ns.lt)⟩
theorem Own.of_news {L : Addr} {h : Heap} {l : List (Addr × Obj)} (N : News g L h l) : Own g h l := fun q hq => ⟨(N q hq).1, (N q hq).2.2⟩
end
end Mine
end

section
theorem Mine.freshCr : True := by
  w_top off
  trivial
open PySem PySem.W PyProof.Rows PySem.Calls PySem.Spec
open PySem.Sem (wp)
set_option maxRecDepth 100000
namespace Mine
section
variable {M : Model} {A : Around} {E : Value → Shared → Prop} {s : Shared} {env : Env}
theorem execs_consC {st : Stmt} {rest : List Stmt} {Q : Flow → Shared → Prop}
    (h : wpC M A (exec st env) (fun f s' => match f with | .next => wpC M A (execs rest env) Q E s' | f => Q f s') E s) :
    wpC M A (execs (st :: rest) env) Q E s := fun Γ p hΓ hc hb => by
  rw [execs_cons, Sem.wp_bind']
  refine Sem.wp_mono M Γ _ (fun f p' s' h' => ?_) (fun _ _ _ h' => h') _ _ (h Γ p hΓ hc hb)
  cases f <;> first | exact h' Γ p' hΓ hc hb | exact h'
theorem assignC {x : Str} {pos' pos : Pos} {value : Expr} {Q : Flow → Shared → Prop}
    (h : wpC M A (eval value env) (fun v s₁ => wpC M A (storeName env x v) (fun _ => Q .next) E s₁) E s)
    (hs : swapsWith value (some (.Name x pos')) pos.line env = pure false := by rfl) :
    wpC M A (exec (.Assign [.Name x pos'] value pos) env) Q E s := fun Γ p hΓ hc hb => by
  simp only [exec_Assign_Name env x pos' value pos hs, Sem.wp_bind', Sem.wp_cmd_standAt, Sem.wp_bindName, Sem.wp_pure']
  exact Sem.wp_mono M Γ _ (fun v _ s₁ h₁ => h₁ Γ _ hΓ hc hb) (fun _ _ _ h' => h') _ _ (h Γ _ hΓ hc hb)
theorem callC_ {func : Expr} {args : List Expr} {pos : Pos} {Q : Value → Shared → Prop}
    (h : wpAny M A (eval func env) (fun f s₁ => wpC M A (callWith pos f [] (backTo pos (starEach args env)) []) Q E s₁) E s)
    (he : eval (.Call func args [] pos) env = (do callWith pos (← eval func env) [] (backTo pos (starEach args env)) (backToKw pos (keywordEach [] env))) := by rfl) :
    wpC M A (eval (.Call func args [] pos) env) Q E s := by
  rw [he]; exact wpC_bind (.of_any h)
theorem wpC_keep {vs : List Value} {m : Sem Value} {Q : Value → Shared → Prop} (h : wpC M A m Q E s) : wpC M A (m.keep vs) Q E s :=
  fun Γ p hΓ hc hb => by rw [Sem.wp_keep]; exact h Γ p hΓ hc hb
theorem wpC_operate {vs : List Value} {m : Sem Value} {Q : Value → Shared → Prop} (h : wpC M A m Q E s) : wpC M A (operate vs m) Q E s :=
  fun Γ p hΓ hc hb => by rw [Sem.wp_operate]; exact h Γ p hΓ hc hb
theorem callWithC {pos : Pos} {f : Value} {first : List Value} {e : Expr} {rest : List Expr} {Q : Value → Shared → Prop} {P : Heap → Prop}
    (hk : ∀ h, P h → ∃ k, Looks M h (keeperOf f) k)
    (h : wpAny M A (spliced (backTo pos (starEach (e :: rest) env))) (fun vs s₁ => P s₁.heap ∧ wpC M A (call f (first ++ vs)) Q E s₁) E s)
    (he : starEach (e :: rest) env = (false, eval e env) :: starEach rest env := by rfl) (hplain : (backTo pos (starEach rest env)).any (·.1) = false := by rfl) :
    wpC M A (callWith pos f first (backTo pos (starEach (e :: rest) env)) []) Q E s := by
  rw [he] at h ⊢
  have hpl : ((backTo pos ((false, eval e env) :: starEach rest env)).any (·.1) || ([] : List (Option Str × Sem Value)).any (·.1.isNone)) = false := by
    show ((false || (backTo pos (starEach rest env)).any (·.1)) || false) = false
    rw [hplain]; rfl
  unfold callWith
  refine wpC_bind (wpC_holding (.of_any (wpAny_mono (evalArgs_plain (Q := fun a s₁ => P s₁.heap ∧ wpC M A (call f (first ++ a.pos) a.kw) Q E s₁) h) (fun a s₁ h₁ => ?_) fun _ _ x => x)))
  refine wpC_bind (.of_any (wpAny_standAt ?_))
  obtain ⟨k, L⟩ := hk _ h₁.1
  simp only [hpl]
  refine wpC_bind (.of_any (L.here ?_))
  have tail : ∀ {t : Sem Value}, wpC M A t Q E s₁ → wpC M A (t >>= fun r => holding [r] point >>= fun _ => pure r) Q E s₁ :=
    fun ht => wpC_bind (wpC_mono ht (fun r s₂ hr => wpC_bind (.of_any (wpAny_holding (wpAny_point (wpC_pure hr))))) fun _ _ x => x)
  have marked (mk : Value) : wpC M A (callMarked mk f (first ++ a.pos) a.kw) Q E s₁ := by unfold callMarked; exact wpC_keep h₁.2
  cases k <;> dsimp only <;> first | exact tail h₁.2 | exact tail (wpC_operate h₁.2) | (split <;> first | exact tail h₁.2 | exact tail (marked _))
end
section
variable {prog : Program} {w : World} {A : Around} {E : Value → Shared → Prop} {s : Shared} {R : Result → Shared → Prop}
theorem codeC_func {body : List Stmt} {env : Env}
    (h : wpC (model prog w) (A.deeper env) (execs body env) (fun f s' => R (.ok (.ret (match f with | .ret v => v | _ => .none))) s') (fun _ _ => False) s) :
    codeC (model prog w) A (.func body env) R s := by
  refine codeC_of_tree rfl ?_
  show wpC _ (A.deeper env) (do point; match ← (execs body env).onRaise (leaving env) with | .ret v => ret v | _ => ret .none) _ _ s
  refine wpC_bind (.of_any (wpAny_point (wpC_bind (wpC_onRaise (wpC_mono h (fun f s' h' => ?_) fun _ _ h' => h'.elim)))))
  cases f <;> exact wpC_pure h'
theorem enterC {g : Heap} {K : Frag} {p : Program} {loose : List Str} {mean : ExcName → Option Value} {mg mb : Str → Option Value} {Q : Value → Shared → Prop} {l : List (Addr × Obj)} {name qual : Str} {params : Arguments} {body : List Stmt} {scope : Scope} {dV kV doc pm cdv ct oc : Value} {an od : Option Addr} {osl : Array (Option Value)} {f : Addr} {args : List Value} {binds : List (Str × Value)}
    (hK : Kp g s.heap) (hO : Own g s.heap l) (X : K.In g) (T : Top p loose mean mg mb g)
    (ho : K.lookup f = some ⟨oc, od, .func (fnOf name qual params body scope dV kV doc pm an cdv ct), osl⟩) (hcd : codeIn K cdv qual = true) (hroom : A.depth < recursionLimit)
    (hbind : BindsTo s (fnOf name qual params body scope dV kV doc pm an cdv ct) ⟨args, []⟩ binds) (hloc : ∀ y ∈ binds, scope.names.lookup y.1 = some .local)
    (h : ∀ L h₁, Fr g L h₁ (fun y => binds.reverse.lookup y) → News g L h₁ l → (∀ q ∈ l, q.1 < L) →
      wpC (model prog w) (A.deeper (envOf qual scope L f cdv)) (execs body (envOf qual scope L f cdv))
        (fun fl s' => Q (match fl with | .ret v => v | _ => .none) s') (fun _ _ => False)
        { s with heap := h₁, toks := s.toks + binds.length })
    (hcell : ∀ x ∈ scope.names, x.2 ≠ .cell) (hco : scope.isCoroutine = false) (hgen : scope.isGenerator = false) (hk : scope.kind = .function) :
    wpC (model prog w) A (call (.ref f) args) Q E s := by
  have X1 := X.keeps hK.keep
  have ho1 := X1 _ _ ho
  obtain ⟨c, oc', vs, tq, hc, hoc, hdc, hq⟩ := codeRec_of X1 hcd
  refine wpC_call (codeC_of_tree rfl ?_)
  refine .of_any ?_
  show wpAny _ A.in1 (callAny (.ref f) ⟨args, []⟩) _ _ s
  simp only [callAny]
  refine wpAny_bind (wpAny_load ho1 ?_)
  simp only [callFunction, hco, hgen, hc]
  refine wpAny_bind (m := field (.ref c) 1) (wpAny_field hoc hdc hq (wpAny_bind (wpAny_pure ?_)))
  have hb := hbind
  rw [hc] at hb
  refine wpAny_bind (hb _ _ _ _ ?_)
  refine wpAny_bind (wpAny_newFunctionEnv hcell hloc (fun h₀ hns₀ hsb₀ => ?_) hk)
  refine wpAny_bind (wpAny_enterFrame ((T.nolimit.keeps hK.keep).fresh _ hsb₀) hroom (wpAny_pure (And.intro rfl (codeC_func ?_))))
  have hk₁ : ∀ b o, s.heap.get? b = some o → h₀.get? b = some o := fun b o e => hsb₀.extBut b o (Nat.ne_of_lt (Heap.lt_size e)) (Heap.get?_push_of_some _ e)
  subst hc
  exact h s.heap.objs.size h₀ ⟨hns₀, fun b o e => hk₁ b o (hK.keep b o e), hK.size⟩ (fun q hq => ⟨hk₁ _ _ (hO q hq).1, Nat.ne_of_lt (Heap.lt_size (hO q hq).1), (hO q hq).2⟩) (fun q hq => Heap.lt_size (hO q hq).1)
end
end Mine
end

section
theorem Mine.freshEn : True := by
  w_top off
  trivial
open PySem PySem.W PyProof.Rows PySem.Calls PySem.Spec
set_option maxRecDepth 100000
namespace Mine
section
variable {prog : Program} {w : World} {A : Around} {E : Value → Shared → Prop} {s : Shared} {g : Heap} {K : Frag} {p : Program} {loose : List Str} {mean : ExcName → Option Value} {mg mb : Str → Option Value} {Q : Value → Shared → Prop} {l : List (Addr × Obj)} {name qual : Str} {params : Arguments} {body : List Stmt} {scope : Scope} {dV kV doc pm cdv ct oc : Value} {an od : Option Addr} {osl : Array (Option Value)} {f : Addr} {args : List Value} {binds : List (Str × Value)}
theorem enterCl
    (hK : Kp g s.heap) (hO : Own g s.heap l) (X : K.In g) (T : Top p loose mean mg mb g)
    (ho : K.lookup f = some ⟨oc, od, .func (fnOf name qual params body scope dV kV doc pm an cdv ct), osl⟩) (hcd : codeIn K cdv qual = true) (hroom : A.depth < recursionLimit)
    (hbind : BindsTo s (fnOf name qual params body scope dV kV doc pm an cdv ct) ⟨args, []⟩ binds) (hkind : (binds.all fun y => scope.names.lookup y.1 == some .local || scope.names.lookup y.1 == some .cell) = true)
    (hnd : ((cellsFrom 0 scope.names []).map (·.1)).Nodup)
    (h : ∀ L h₁ tk cells, Fr g L h₁ (bindL (envOfC qual scope L f cdv).kindOf binds fun _ => none) → News g L h₁ (cells ++ l) →
      CellsAre (bindC (envOfC qual scope L f cdv).kindOf binds fun _ => none) (cellsFrom (L + 1) scope.names []) cells → (∀ q ∈ l, q.1 < L) →
      wpAny (model prog w) (A.deeper (envOfC qual scope L f cdv)) (execs body (envOfC qual scope L f cdv))
        (fun fl s' => Q (match fl with | .ret v => v | _ => .none) s') (fun _ _ => False)
        { s with heap := h₁, toks := tk })
    (hco : scope.isCoroutine = false) (hgen : scope.isGenerator = false) (hk : scope.kind = .function) :
    wpAny (model prog w) A (call (.ref f) args) Q E s := by
  have X1 := X.keeps hK.keep
  refine wpAny_call (codeAny_call_function hroom (X1 _ _ ho) rfl hco hgen rfl (codeRec_of X1 hcd) (hbind _ _ _ _ ?_))
  refine wpAny_newFunctionEnv_cells hk (kindsX hkind _) fun env' he s' x => ?_
  subst he
  refine ⟨(T.nolimit.keeps hK.keep).keeps x.toInCall.keep, codeAny_func ?_⟩
  obtain ⟨h₁, tk, rfl, _⟩ := x.done
  have hk₁ := x.toInCall.keep
  obtain ⟨cells, NC, Y⟩ := Cl.news (h₀ := s.heap) (Nat.le_refl _) fun n c hm => ⟨x.cell n c (lookup_of_mem_nodup (cellsFrom_names scope.names 0 (s.heap.objs.size + 1) [] [] rfl ▸ hnd) hm), x.above n c hm⟩
  refine wpAny_mono (h s.heap.objs.size h₁ tk cells ⟨x.toInCall.ns, fun b o e => hk₁ b o (hK.keep b o e), hK.size⟩ (fun q hq => ?_) Y (fun q hq => Heap.lt_size (hO q hq).1)) (fun _ _ hl => hl) fun _ _ y => y.elim
  rcases List.mem_append.mp hq with hq | hq
  · refine ⟨(NC q hq).1, (NC q hq).2.1, ?_⟩
    cases e : g.get? q.1 with
    | none => rfl
    | some o => have := hK.keep _ _ e; rw [(NC q hq).2.2] at this; cases this
  · exact ⟨hk₁ _ _ (hO q hq).1, Nat.ne_of_lt (Heap.lt_size (hO q hq).1), (hO q hq).2⟩
end
end Mine
end

section
theorem Mine.freshLp : True := by
  w_top off
  trivial
open PySem PySem.W PyProof.Rows PySem.Calls PySem.Spec
namespace Mine
/-- the names of S as u tells them, all others as m -/
abbrev mixM (S : List Str) (u m : Str → Option Value) : Str → Option Value := fun y => if S.contains y = true then u y else m y
theorem mix_set {S : List Str} {x y : Str} {v : Option Value} {u m : Str → Option Value} (hx : S.contains x = true) :
    (if y = x then v else mixM S u m y) = mixM S (fun z => if z = x then v else u z) m y := by
  by_cases h : y = x
  · subst h; simp only [mixM, if_true]; rw [if_pos hx]
  · simp only [mixM, if_neg h]
theorem mix_self (S : List Str) (m : Str → Option Value) : m = mixM S m m := by funext y; simp only [mixM]; split <;> rfl

section
variable {g h h' : Heap} {L d : Addr} {m : Str → Option Value} {pre post : List (Addr × Obj)} {o o' : Obj}
theorem upd_fr (F : Fr g L h m) (N : News g L h (pre ++ (d, o) :: post)) (hs : Heap.SameBut d h h') : Fr g L h' m := by
  have D := N (d, o) (by simp)
  exact ⟨F.ns.sameBut hs (Ne.symm D.2.1), fun b x q => hs.extBut b x (fun z => by have := D.2.2; simp only at this; rw [← z, q] at this; cases this) (F.keep b x q), F.above⟩
theorem upd_news (N : News g L h (pre ++ (d, o) :: post)) (hs : Heap.SameBut d h h') (hg : h'.get? d = some o') (h1 : ∀ p ∈ pre, p.1 ≠ d) (h2 : ∀ p ∈ post, p.1 ≠ d) : News g L h' (pre ++ (d, o') :: post) := by
  have D := N (d, o) (by simp)
  intro p hp
  rcases List.mem_append.mp hp with q | q
  · have P := N p (List.mem_append_left _ q); exact ⟨hs.extBut _ _ (h1 p q) P.1, P.2⟩
  · rcases List.mem_cons.mp q with rfl | q
    · exact ⟨hg, D.2⟩
    · have P := N p (List.mem_append_right _ (.tail _ q)); exact ⟨hs.extBut _ _ (h2 p q) P.1, P.2⟩
end
section
variable {prog : Program} {w : World} {A : Around} {E : Value → Shared → Prop} {s : Shared} {env : Env} {h₀ : Heap} {x : Str} {body : List Stmt} {Q : Flow → Shared → Prop}
theorem iter_rangeJ {r : Addr} {a b c : Int} {t₀ u₀ v₀ : Tok} {n : Nat} {m₀ : Str → Option Value} {news : List (Addr × Obj)}
    (J : Nat → (Str → Option Value) → List (Addr × Obj) → Prop)
    (hh : A.handled = none) (hr : IsRange s.heap r a b c t₀ u₀ v₀) (hsmall : Builtin.Range.small a b c = true) (hn : Builtin.Range.rangeSize a b c = (n : Int)) (F : Fr h₀ env.locals s.heap m₀) (N : News h₀ env.locals s.heap news) (hj : J 0 m₀ news)
    (turn : ∀ (i : Nat) t m₁ news₁ h tk own, i < n → news₁.map (·.1) = news.map (·.1) → OwnOff own (news.map (·.1)) → J i m₁ news₁ → Fr h₀ env.locals h (fun y => if y = x then some (.int (a + i * c) t) else m₁ y) → News h₀ env.locals h (news₁ ++ own) →
      wpAny (model prog w) A (execs body env) (InvPostN h₀ env.locals (J (i + 1)) own (news.map (·.1)) { s with heap := h, toks := tk } Q) E { s with heap := h, toks := tk })
    (done : ∀ m₁ news₁ h tk, J n m₁ news₁ → Fr h₀ env.locals h m₁ → News h₀ env.locals h news₁ → Q .next { s with heap := h, toks := tk }) :
    wpAny (model prog w) A (pyIter (.ref r)) (fun it s₂ => LoopAtV prog w A h₀ env x body Q E it s₂) E s := by
  refine wpAny_pyIter_range hr hsmall ?_
  have W := Walks.range (prog := prog) (w := w) hh s.heap.objs.size a c n
  refine loop_invN J W ?_ ?_ ?_ ?_ (by show IsRangeIter _ _ _ _ _; rw [hn]; simpa using Heap.get?_push_size _ rfl) (F.push _) (fun p hp => ⟨Heap.get?_push_of_some _ (N p hp).1, (N p hp).2⟩) hj ?_ ?_
  · intro hm; exact absurd F.ns.lt ((List.mem_singleton.mp hm) ▸ Nat.lt_irrefl _)
  · intro b hb; rw [List.mem_singleton.mp hb]; exact next_is_new F
  · intro p hp hI; exact absurd (Heap.lt_size (N p hp).1) ((List.mem_singleton.mp hI) ▸ Nat.lt_irrefl _)
  · intro p hp hI; exact absurd (Heap.lt_size (N p hp).1) ((List.mem_singleton.mp hI) ▸ Nat.lt_irrefl _)
  · rintro i v m₁ news₁ h tk own hi ⟨t, rfl⟩ hadr hoff hJ F₁ N₁
    exact turn i t m₁ news₁ h tk own hi hadr hoff hJ F₁ N₁
  · exact done
theorem small_range {a b c : Int} (ha : -1000000 ≤ a) (ha' : a ≤ 1000000) (hb : -1000000 ≤ b) (hb' : b ≤ 1000000) (hc : 0 < c) (hc' : c ≤ 1000000) : Builtin.Range.small a b c = true := by
  have hs : 0 ≤ Builtin.Range.rangeSize a b c ∧ Builtin.Range.rangeSize a b c ≤ 3000000 := by
    unfold Builtin.Range.rangeSize
    rw [if_pos hc]
    split
    · have h1 : 0 ≤ (b - a - 1) / c := Int.ediv_nonneg (by omega) (by omega)
      have h2 : (b - a - 1) / c ≤ b - a - 1 := Int.ediv_le_self _ (by omega)
      omega
    · omega
  unfold Builtin.Range.small
  generalize Builtin.Range.rangeSize a b c = z at hs ⊢
  have hc0 : c > 0 := hc
  simp only [Builtin.Range.rangeFitsLong, if_pos hc0, Bool.and_eq_true, Bool.or_eq_true, decide_eq_true_eq]
  refine ⟨⟨⟨⟨⟨?_, ?_⟩, ⟨?_, ?_⟩⟩, ⟨?_, ?_⟩⟩, ⟨?_, ?_⟩⟩, .inr ⟨?_, ?_⟩⟩ <;> omega
theorem rangeSize_one {a b : Int} (h : a ≤ b) : Builtin.Range.rangeSize a b 1 = ((b - a).toNat : Int) := by
  unfold Builtin.Range.rangeSize
  rw [if_pos (by decide)]
  split
  · rw [Int.ediv_one]; omega
  · omega
theorem rangeSize_step {b c : Int} {n : Nat} (hc : 0 < c) (h : b = n * c) : Builtin.Range.rangeSize 0 b c = (n : Int) := by
  unfold Builtin.Range.rangeSize
  rw [if_pos hc]
  subst h
  split
  · rename_i h0
    have hn : 0 < (n : Int) := by
      rcases Nat.eq_zero_or_pos n with rfl | h1
      · simp at h0
      · omega
    have e : (n : Int) * c - 0 - 1 = (c - 1) + ((n : Int) - 1) * c := by rw [Int.sub_mul]; omega
    rw [e, Int.add_mul_ediv_right _ _ (by omega), Int.ediv_eq_zero_of_lt (by omega) (by omega)]
    omega
  · rename_i h0
    rcases Nat.eq_zero_or_pos n with rfl | h1
    · rfl
    · exact absurd (Int.mul_pos (by omega) hc) h0
end
end Mine
end

section
theorem Mine.freshSp : True := by
  w_top off
  trivial
open PySem PySem.W PyProof.Rows PySem.Calls PySem.Spec
set_option maxRecDepth 100000
namespace Mine
/-- a part of the ledger handed to a callee, all else laid into its ground -/
theorem split_ {g h : Heap} {L : Addr} {m : Str → Option Value} {sub rest : List (Addr × Obj)} (F : Fr g L h m) (N : News g L h (sub ++ rest)) (hd : ∀ p ∈ rest, p.1 ∉ sub.map (·.1)) :
    ∃ g', Kp g' h ∧ Own g' h sub ∧ (∀ b o, g.get? b = some o → g'.get? b = some o) ∧ (∀ p ∈ rest, g'.get? p.1 = some p.2) ∧ g'.objs.size = h.objs.size ∧
      ∀ h' sub', Kp g' h' → Own g' h' sub' → Fr g L h' m ∧ News g L h' (sub' ++ rest) := by
  have nm : ∀ b o, g.get? b = some o → b ∉ sub.map (·.1) := fun b o e q => by
    obtain ⟨p, hp, rfl⟩ := List.mem_map.mp q
    rw [(N p (List.mem_append_left _ hp)).2.2] at e; cases e
  have st : ∀ b o, g.get? b = some o → (hideAll h (sub.map (·.1))).get? b = some o := fun b o e => hideAll_get _ (F.keep b o e) (nm b o e)
  obtain ⟨oL, es, ep, hL, hLr⟩ := F.ns
  have nL : L ∉ sub.map (·.1) := fun q => by
    obtain ⟨p, hp, e⟩ := List.mem_map.mp q
    exact (N p (List.mem_append_left _ hp)).2.1 e
  have hLg := hideAll_get (sub.map (·.1)) hL nL
  have rs : ∀ p ∈ rest, (hideAll h (sub.map (·.1))).get? p.1 = some p.2 := fun p hp => hideAll_get _ (N p (List.mem_append_right _ hp)).1 (hd p hp)
  refine ⟨hideAll h (sub.map (·.1)), ⟨fun b o e => of_hideAll _ e, Nat.le_of_eq (hideAll_size _ _)⟩, fun p hp => ⟨(N p (List.mem_append_left _ hp)).1, hideAll_none _ (List.mem_map_of_mem hp)⟩, st, rs, hideAll_size _ _, fun h' sub' hK hO => ⟨⟨⟨oL, es, ep, hK.keep L oL hLg, hLr⟩, fun b o e => hK.keep b o (st b o e), F.above⟩, fun p hp => ?_⟩⟩
  rcases List.mem_append.mp hp with hp | hp
  · refine ⟨(hO p hp).1, fun q => ?_, ?_⟩
    · have := (hO p hp).2; rw [q, hLg] at this; cases this
    · cases q : g.get? p.1 with
      | none => rfl
      | some o => have := (hO p hp).2; rw [st _ _ q] at this; cases this
  · exact ⟨hK.keep _ _ (rs p hp), (N p (List.mem_append_right _ hp)).2⟩
section
variable {prog : Program} {w : World} {A : Around} {s : Shared} {g : Heap} {K : Frag} {p : Program} {loose : List Str} {mean : ExcName → Option Value} {mg mb : Str → Option Value}
theorem enterCode {R : Result → Shared → Prop} {l : List (Addr × Obj)} {name qual : Str} {params : Arguments} {body : List Stmt} {scope : Scope} {dV kV doc pm cdv ct oc : Value} {an od : Option Addr} {osl : Array (Option Value)} {f : Addr} {args : Args} {binds : List (Str × Value)}
    (hK : Kp g s.heap) (hO : Own g s.heap l) (X : K.In g) (T : Top p loose mean mg mb g)
    (ho : K.lookup f = some ⟨oc, od, .func (fnOf name qual params body scope dV kV doc pm an cdv ct), osl⟩) (hcd : codeIn K cdv qual = true) (hroom : A.depth < recursionLimit)
    (hbind : BindsTo s (fnOf name qual params body scope dV kV doc pm an cdv ct) args binds) (hloc : ∀ y ∈ binds, scope.names.lookup y.1 = some .local)
    (h : ∀ L h₁, Fr g L h₁ (fun y => binds.reverse.lookup y) → News g L h₁ l → (∀ q ∈ l, q.1 < L) →
      wpAny (model prog w) (A.deeper (envOf qual scope L f cdv)) (execs body (envOf qual scope L f cdv))
        (fun fl s' => R (.ok (.ret (match fl with | .ret v => v | _ => .none))) s') (fun _ _ => False)
        { s with heap := h₁, toks := s.toks + binds.length })
    (hcell : ∀ x ∈ scope.names, x.2 ≠ .cell) (hco : scope.isCoroutine = false) (hgen : scope.isGenerator = false) (hk : scope.kind = .function) :
    codeAny (model prog w) A (.call (.ref f) args) R s := by
  have X1 := X.keeps hK.keep
  refine codeAny_call_def (fd := fnOf name qual params body scope dV kV doc pm an cdv ct) (body := body) (binds := binds) hroom (X1 _ _ ho) rfl (T.nolimit.keeps hK.keep) (codeRec_of X1 hcd) rfl hbind hcell hloc (fun h₁ hns hk₁ => ?_) hco hgen hk
  exact wpAny_mono (h s.heap.objs.size h₁ ⟨hns, fun b o e => hk₁ b o (hK.keep b o e), hK.size⟩ (fun q hq => ⟨hk₁ _ _ (hO q hq).1, Nat.ne_of_lt (Heap.lt_size (hO q hq).1), (hO q hq).2⟩) (fun q hq => Heap.lt_size (hO q hq).1)) (fun _ _ x => x) (fun _ _ x => x.elim)
end
end Mine
end

section
theorem Mine.freshI1 : True := by
  w_top off
  trivial
open PySem PySem.W PyProof.Rows PySem.Calls PySem.Spec
namespace Mine
set_option maxRecDepth 100000
set_option maxHeartbeats 4000000
/-- a lexer's dict -/
abbrev lexD (w : World) (k1 k2 k3 k4 : Tok) (line : Int) (tl : Tok) (st : Value) (tw : Tok) (pb : Addr) : List DictEntry :=
  [⟨PyData.keyHash w.params (Str.ofString "lineno"), .str (Str.ofString "lineno") k1, .int line tl⟩, ⟨PyData.keyHash w.params (Str.ofString "instream"), .str (Str.ofString "instream") k2, st⟩,
   ⟨PyData.keyHash w.params (Str.ofString "whitespace"), .str (Str.ofString "whitespace") k3, .str (Str.ofString "\n\t\r ") tw⟩, ⟨PyData.keyHash w.params (Str.ofString "pushback"), .str (Str.ofString "pushback") k4, .ref pb⟩]
theorem newLex {w : World} {A : Around} {s : Shared} {g : Heap} {L : Addr} {m : Str → Option Value} {news : List (Addr × Obj)} {loose : List Str} {mean : ExcName → Option Value} {mg mb : Str → Option Value} {Q : Value → Shared → Prop} {E : Value → Shared → Prop} {v : Value}
   (hdp : A.depth + 1 < recursionLimit) (X : (hd.heap_39 w.params).In g) (T : Top topProg loose mean mg mb g) (F : Fr g L s.heap m) (N : News g L s.heap news)
   (hQ : ∀ x d pb k1 k2 k3 k4 tl tw h' tk, Fr g L h' m → News g L h' ((pb, W.listOf #[] 0) :: (x, instObj 52 d) :: (d, dictOf (lexD w k1 k2 k3 k4 1 tl v tw pb) 4) :: news) → (∀ p ∈ news, p.1 < d) → d < x → x < pb → Q (.ref x) { s with heap := h', toks := tk }) :
   wpAny (model PySem.Challenge.rw_pe0049_01.row.prog w) A (call (.ref 52) [v]) Q E s := by
  revert X; k_fill; intro X
  refine' call_cls F X N ?k4 ?k5 ?k6 ?_
  case k4 => k_is
  case k5 => k_is
  case k6 => k_is
  intro x d h1 F1 N1 lt1 lt2
  have hdis : ∀ p ∈ news, p.1 ∉ ([(x, instObj 52 d), (d, dictOf [] 0)] : List (Addr × Obj)).map (·.1) := by
    intro p hp
    simp only [List.map_cons, List.map_nil, List.mem_cons, List.not_mem_nil, or_false, not_or]
    exact ⟨Nat.ne_of_lt (Nat.lt_trans (lt1 p hp) lt2), Nat.ne_of_lt (lt1 p hp)⟩
  obtain ⟨g', hK, hO, hst, hrs, hsz, back⟩ := split_ (sub := [(x, instObj 52 d), (d, dictOf [] 0)]) F1 N1 hdis
  have X' := X.keeps hst
  have T' := T.keeps hst
  refine' enterCode (binds := [(Str.ofString "self", .ref x), (Str.ofString "fp", v)]) hK hO X' T' ?k6 ?k7 ?k8 ?k9 ?kB ?_ ?c5 ?c2 ?c3 ?c4
  case k6 => k_is
  case k7 => k_is
  case k8 => exact hdp
  case k9 => exact BindsTo.of_eq rfl
  case kB => exact locs rfl
  case c5 => decide
  case c2 => exact rfl
  case c3 => exact rfl
  case c4 => exact rfl
  clear F N F1 N1 X T
  intro L' h2 F N lt
  k_lt lt
  k_lt2 lt2
  k_steps
  rename Fr _ _ _ _ => F'
  rename News _ _ _ _ => N'
  rename (_ < _ ∧ _) => ltp
  obtain ⟨F2, N2⟩ := back _ _ (Kp.of_fr F') (Own.of_news N')
  exact ⟨rfl, hQ _ _ _ _ _ _ _ _ _ _ _ F2 N2 lt1 lt2 ltp.1⟩
end Mine
end

section
theorem Mine.freshTx : True := by
  w_top off
  trivial
open PySem PySem.W PyProof.Rows PySem.Calls PySem.Spec PySem.Builtin PySem.Builtin.Str
namespace Mine
theorem range_cut {α : Type} (l : List α) (a : Nat) : ∀ c, ((List.range c).map (fun k => a + k)).filterMap (fun i => l[i]?) = (l.drop a).take c
  | 0 => by simp
  | c + 1 => by
    rw [List.range_succ, List.map_append, List.filterMap_append, range_cut l a c, List.take_add_one, List.getElem?_drop]
    cases h : l[a + c]? <;> simp [h]
theorem slice_nat (x : Str) (a b : Nat) (hab : a ≤ b) : Txt.slice x (some (a : Int)) (some (b : Int)) = ⟨((x.cps.toList.drop a).take (b - a)).toArray⟩ := by
  have hi : strSliceIndices (some (a : Int)) (some (b : Int)) 1 x.length = (List.range (min b x.length - min a x.length)).map (fun k => min a x.length + k) := by
    unfold strSliceIndices sliceRange
    have h1 : ¬ (a : Int) < 0 := by omega
    have h2 : ¬ (b : Int) < 0 := by omega
    simp only [h1, h2, show (1 : Int) > 0 by decide, if_true, if_false]
    have e1 : max (0 : Int) (min (a : Int) (x.length : Int)) = ((min a x.length : Nat) : Int) := by omega
    have e2 : max (0 : Int) (min (b : Int) (x.length : Int)) = ((min b x.length : Nat) : Int) := by omega
    rw [e1, e2]
    have e3 : (if ((min a x.length : Nat) : Int) < ((min b x.length : Nat) : Int) then (((min b x.length : Nat) : Int) - ((min a x.length : Nat) : Int) + 1 - 1) / 1 else 0) = ((min b x.length - min a x.length : Nat) : Int) := by
      split
      · rw [Int.ediv_one]; omega
      · omega
    rw [e3]
    simp only [Int.toNat_natCast]
    refine List.map_congr_left fun k _ => ?_
    omega
  have hl : x.length = x.cps.toList.length := by simp [Str.length]
  have hcut : (strSliceIndices (some (a : Int)) (some (b : Int)) 1 x.length).filterMap (x.cps[·]?) = (x.cps.toList.drop a).take (b - a) := by
    rw [hi]
    have e : (fun i : Nat => x.cps[i]?) = fun i : Nat => x.cps.toList[i]? := by funext i; simp
    rw [e, range_cut]
    by_cases h : a ≤ x.length
    · rw [Nat.min_eq_left h]
      by_cases h' : b ≤ x.length
      · rw [Nat.min_eq_left h']
      · rw [Nat.min_eq_right (by omega), List.take_of_length_le (by rw [List.length_drop]; omega), List.take_of_length_le (by rw [List.length_drop]; omega)]
    · rw [List.drop_eq_nil_of_le (by omega), List.drop_eq_nil_of_le (by omega)]; simp
  unfold Txt.slice
  split
  · rename_i hc
    simp only [beq_self_eq_true, Bool.true_and, beq_iff_eq] at hc
    rw [hi, List.length_map, List.length_range] at hc
    obtain ⟨⟨l⟩⟩ := x
    have hlen : (⟨⟨l⟩⟩ : Str).length = l.length := by simp [Str.length]
    rw [hlen] at hc
    show (⟨⟨l⟩⟩ : Str) = ⟨⟨(l.drop a).take (b - a)⟩⟩
    rcases Nat.eq_zero_or_pos l.length with h0 | h0
    · have : l = [] := List.eq_nil_of_length_eq_zero h0
      subst this; simp
    · have ha : a = 0 := by omega
      subst ha
      rw [List.drop_zero, List.take_of_length_le (by omega)]
  · rw [hcut]
section
variable {prog : Program} {w : World} {A : Around} {E : Value → Shared → Prop} {h₀ h : Heap} {L : Addr} {m : PySem.Str → Option Value} {news : List (Addr × Obj)} {gs : Array GenState} {dr : Drawn} {tk : Nat} {os : OsState} {value slice : Expr} {x : PySem.Str} {t : Tok} {Q : Value → Shared → Prop}
theorem slice_ss {i j : Int} {ui uj : Tok} (hz : x.length ≤ 16777216) (hF : Fr h₀ L h m) (hN : News h₀ L h news) (k : ∀ h' t' k, Fr h₀ L h' m → News h₀ L h' news → Q (.str (Txt.slice x (some i) (some j)) t') ⟨h', gs, dr, k, os⟩)
    (hs : subscripted slice false (.str x t) (.ref h.objs.size) = operate [.ref h.objs.size, .str x t] (getItem (.str x t) (.ref h.objs.size)) := by with_unfolding_all rfl)
    (ht : ∀ r, letTemporaryGo value (.str x t) r = pure () := by intro _; with_unfolding_all rfl) :
    wpAny (model prog w) A (subscriptTail value slice (.str x t) (.ref h.objs.size)) Q E ⟨h.push { cls := .type "slice", data := .fields #[.int i ui, .int j uj, .none] }, gs, dr, tk, os⟩ :=
  slice_strN_ss (s := ⟨h, gs, dr, tk, os⟩) hF hN k hs ht (by rw [sizeLine_eq]; exact hz)
theorem slice_ns {j : Int} {uj : Tok} (hz : x.length ≤ 16777216) (hF : Fr h₀ L h m) (hN : News h₀ L h news) (k : ∀ h' t' k, Fr h₀ L h' m → News h₀ L h' news → Q (.str (Txt.slice x none (some j)) t') ⟨h', gs, dr, k, os⟩)
    (hs : subscripted slice false (.str x t) (.ref h.objs.size) = operate [.ref h.objs.size, .str x t] (getItem (.str x t) (.ref h.objs.size)) := by with_unfolding_all rfl)
    (ht : ∀ r, letTemporaryGo value (.str x t) r = pure () := by intro _; with_unfolding_all rfl) :
    wpAny (model prog w) A (subscriptTail value slice (.str x t) (.ref h.objs.size)) Q E ⟨h.push { cls := .type "slice", data := .fields #[.none, .int j uj, .none] }, gs, dr, tk, os⟩ :=
  slice_strN_ns (s := ⟨h, gs, dr, tk, os⟩) hF hN k hs ht (by rw [sizeLine_eq]; exact hz)
end
end Mine
end

section
theorem Mine.freshLx : True := by
  w_top off
  trivial
open PySem PySem.W PyProof.Rows PySem.Calls PySem.Spec
namespace Mine
/-- a blank of the lexer's -/
def ws (c : Nat) : Bool := [10, 9, 13, 32].contains c
/-- what is read between quotation marks, and what is left -/
inductive QT : List Nat → List Nat → List Nat → Prop
  | fin {r} : QT (34 :: r) [] r
  | esc {c r t r'} : QT r t r' → QT (92 :: c :: r) (c :: t) r'
  | ch {c r t r'} : c ≠ 34 → c ≠ 92 → QT r t r' → QT (c :: r) (c :: t) r'
/-- what is read up to a blank -/
inductive UT : List Nat → List Nat → List Nat → Prop
  | fin {c r} : ws c = true → UT (c :: r) [] r
  | esc {c r t r'} : UT r t r' → UT (92 :: c :: r) (c :: t) r'
  | ch {c r t r'} : ws c = false → c ≠ 92 → UT r t r' → UT (c :: r) (c :: t) r'
/-- one word -/
inductive LX : List Nat → List Nat → List Nat → Prop
  | eof : LX [] [] []
  | skip {c r t r'} : ws c = true → LX r t r' → LX (c :: r) t r'
  | quo {r t r'} : QT r t r' → LX (34 :: r) t r'
  | esc {c r t r'} : UT r t r' → LX (92 :: c :: r) (c :: t) r'
  | ch {c r t r'} : ws c = false → c ≠ 34 → c ≠ 92 → UT r t r' → LX (c :: r) (c :: t) r'
/-- the sign of the text at p, or none -/
def oneS (text : Str) (p : Nat) : Str := ⟨(text.cps.toList.drop p |>.take 1).toArray⟩
/-- one more line where the sign is a line's end -/
def nl (x : Str) : Int := if x = Str.ofString "\n" then 1 else 0
/-- r is what is left of the text -/
def Rem (text : Str) (r : List Nat) : Prop := ∃ pre, text.cps.toList = pre ++ r
def posOf (text : Str) (r : List Nat) : Nat := text.length - r.length
def cnt (r : List Nat) : Int := (r.count 10 : Nat)
theorem str_len (x : Str) : x.length = x.cps.toList.length := by simp [Str.length]
theorem Rem.len {text : Str} {r : List Nat} (h : Rem text r) : r.length ≤ text.length := by
  obtain ⟨pre, e⟩ := h; rw [str_len, e, List.length_append]; omega
theorem Rem.drop {text : Str} {r : List Nat} (h : Rem text r) : text.cps.toList.drop (posOf text r) = r := by
  obtain ⟨pre, e⟩ := h
  have : posOf text r = pre.length := by unfold posOf; rw [str_len, e, List.length_append]; omega
  rw [this, e, List.drop_left]
theorem Rem.tail {text : Str} {c : Nat} {r : List Nat} (h : Rem text (c :: r)) : Rem text r := by
  obtain ⟨pre, e⟩ := h; exact ⟨pre ++ [c], by rw [e]; simp⟩
theorem Rem.one {text : Str} {c : Nat} {r : List Nat} (h : Rem text (c :: r)) : oneS text (posOf text (c :: r)) = ⟨#[c]⟩ := by
  unfold oneS; rw [h.drop]; rfl
theorem Rem.none {text : Str} (h : Rem text []) : oneS text (posOf text []) = Str.ofString "" := by
  unfold oneS; rw [h.drop]; rfl
theorem Rem.pos {text : Str} {c : Nat} {r : List Nat} (h : Rem text (c :: r)) : posOf text (c :: r) + 1 = posOf text r := by
  have := h.len; unfold posOf; rw [List.length_cons] at *; omega
theorem posOf_le (text : Str) (r : List Nat) : posOf text r ≤ text.length := by unfold posOf; omega
theorem nl_one (c : Nat) (r : List Nat) : cnt (c :: r) = cnt r + nl ⟨#[c]⟩ := by
  unfold cnt nl
  rw [List.count_cons]
  by_cases h : c = 10
  · subst h; rw [if_pos (by rfl), if_pos (by decide)]; push_cast; rfl
  · rw [if_neg (by simpa using h), if_neg]
    · push_cast; omega
    · intro e
      have : (#[c] : Array Nat) = #[10] := congrArg Str.cps (e.trans (by decide))
      simp at this; exact h this
theorem one_len (c : Nat) : (⟨#[c]⟩ : Str).length = 1 := rfl
theorem one_app (t : List Nat) (c : Nat) : (⟨t.toArray⟩ : Str) ++ ⟨#[c]⟩ = ⟨(t ++ [c]).toArray⟩ := by
  show Str.mk (t.toArray ++ #[c]) = _
  simp
theorem one_eq (c : Nat) (d : Nat) (x : Str) (hx : x = ⟨#[d]⟩) : ((⟨#[c]⟩ : Str) == x) = decide (c = d) := by
  subst hx
  by_cases h : c = d
  · subst h; simp
  · rw [decide_eq_false h, beq_eq_false_iff_ne]
    intro e
    have : (#[c] : Array Nat) = #[d] := congrArg Str.cps e
    simp at this; exact h this
theorem ws_in (c : Nat) : (!(Builtin.Str.occurrences (Str.ofString "\n\t\r ") ⟨#[c]⟩ 0 (Str.ofString "\n\t\r ").length 1).isEmpty) = ws c := by
  rw [PySem.StrLaws.found_one]
  have e : (Str.ofString "\n\t\r ").cps.toList = [10, 9, 13, 32] := by decide
  rw [e]
  unfold ws
  rw [List.contains_eq_mem]
theorem LX.short {r t r' : List Nat} (h : LX r t r') : t.length ≤ r.length ∧ r'.length ≤ r.length := by
  have q : ∀ {r t r'}, QT r t r' → t.length ≤ r.length ∧ r'.length ≤ r.length := by
    intro r t r' h
    induction h <;> simp only [List.length_cons, List.length_nil] at * <;> omega
  have u : ∀ {r t r'}, UT r t r' → t.length ≤ r.length ∧ r'.length ≤ r.length := by
    intro r t r' h
    induction h <;> simp only [List.length_cons, List.length_nil] at * <;> omega
  induction h with
  | eof => simp
  | skip _ _ ih => simp only [List.length_cons]; omega
  | quo h => have := q h; simp only [List.length_cons]; omega
  | esc h => have := u h; simp only [List.length_cons]; omega
  | ch _ _ _ h => have := u h; simp only [List.length_cons]; omega
end Mine
end

section
theorem Mine.freshR1 : True := by
  w_top off
  trivial
open PySem PySem.W PyProof.Rows PySem.Calls PySem.Spec
namespace Mine
set_option maxRecDepth 100000
set_option maxHeartbeats 4000000
abbrev fnO (fd : FuncData) : Obj := { cls := .type "function", data := .func fd }
def ReadSpec (w : World) (loose : List Str) (mean : ExcName → Option Value) (mg mb : Str → Option Value) (text : Str) (f : Addr) (fd : FuncData) (c : Addr) (oc : Obj) (l : Addr) (cA : Addr) (oA : Obj) (cT : Addr) (oT : Obj) : Prop :=
  ∀ (A : Around) (s : Shared) (g : Heap) (Q E : Value → Shared → Prop) (p : Nat) (tp t : Tok), A.handled = none → A.depth < recursionLimit → (hd.heap_39 w.params).In g → Top topProg loose mean mg mb g → Kp g s.heap →
    Own g s.heap [(f, fnO fd), (c, oc), (l, W.listOf #[.int p tp] 0), (cA, oA), (cT, oT)] → p ≤ text.length →
    (∀ h' tk t' tp', Kp g h' → Own g h' [(f, fnO fd), (c, oc), (l, W.listOf #[.int ((p + (oneS text p).length : Nat) : Int) tp'] 0), (cA, oA), (cT, oT)] → Q (.str (oneS text p) t') { s with heap := h', toks := tk }) →
    wpAny (model PySem.Challenge.rw_pe0049_01.row.prog w) A (call (.ref f) [.int 1 t]) Q E s
abbrev lexR (w : World) (k1 k2 k3 k4 k5 tl tw : Tok) (pb f : Addr) : List DictEntry :=
  [⟨PyData.keyHash w.params (Str.ofString "lineno"), .str (Str.ofString "lineno") k1, .int 1 tl⟩, ⟨PyData.keyHash w.params (Str.ofString "instream"), .str (Str.ofString "instream") k2, .none⟩,
   ⟨PyData.keyHash w.params (Str.ofString "whitespace"), .str (Str.ofString "whitespace") k3, .str (Str.ofString "\n\t\r ") tw⟩, ⟨PyData.keyHash w.params (Str.ofString "pushback"), .str (Str.ofString "pushback") k4, .ref pb⟩,
   ⟨PyData.keyHash w.params (Str.ofString "read"), .str (Str.ofString "read") k5, .ref f⟩]
/-- a lexer over a stream over a text: where its parts lie -/
structure Mc where
  (pb2 x2 d2 pb1 x1 d1 f c l cA cT : Nat)
  (fd : FuncData)
  (oc oA oT : Obj)
  (k1 k2 k3 k4 tw j1 j2 j3 j4 j5 tl1 tw1 : Tok)
abbrev Mc.top (w : World) (M : Mc) (pbs : Array Value) (npb : Nat) (line : Int) (tl : Tok) : List (Addr × Obj) :=
  [(M.pb2, W.listOf pbs npb), (M.x2, instObj 52 M.d2), (M.d2, dictOf (lexD w M.k1 M.k2 M.k3 M.k4 line tl (.ref M.x1) M.tw M.pb2) 4), (M.pb1, W.listOf #[] 0), (M.x1, instObj 52 M.d1), (M.d1, dictOf (lexR w M.j1 M.j2 M.j3 M.j4 M.j5 M.tl1 M.tw1 M.pb1 M.f) 5)]
abbrev Mc.bot (M : Mc) (p : Nat) (tp : Tok) : List (Addr × Obj) := [(M.f, fnO M.fd), (M.c, M.oc), (M.l, W.listOf #[.int p tp] 0), (M.cA, M.oA), (M.cT, M.oT)]
structure Mc.Ok (w : World) (loose : List Str) (mean : ExcName → Option Value) (mg mb : Str → Option Value) (text : Str) (M : Mc) : Prop where
  read : ReadSpec w loose mean mg mb text M.f M.fd M.c M.oc M.l M.cA M.oA M.cT M.oT
  ord : 96 < M.cT ∧ M.cT < M.cA ∧ M.cA < M.l ∧ M.l < M.c ∧ M.c < M.f ∧ M.f < M.d1 ∧ M.d1 < M.x1 ∧ M.x1 < M.pb1 ∧ M.pb1 < M.d2 ∧ M.d2 < M.x2 ∧ M.x2 < M.pb2
theorem Mc.Ok.top_gt {w : World} {loose : List Str} {mean : ExcName → Option Value} {mg mb : Str → Option Value} {text : Str} {M : Mc} {its : Array Value} {npb : Nat} {line : Int} {tl : Tok} (ok : M.Ok w loose mean mg mb text) : ∀ x ∈ M.top w its npb line tl, M.f < (x.1 : Nat) ∧ (x.1 : Nat) ≤ M.pb2 := by
  obtain ⟨_, _, _, _, _, _, h6, h7, h8, h9, h10, h11⟩ := ok
  have a8 := Nat.lt_trans h6 h7
  have a9 := Nat.lt_trans a8 h8
  have a10 := Nat.lt_trans a9 h9
  have a11 := Nat.lt_trans a10 h10
  have b9 := Nat.le_of_lt (Nat.lt_trans h10 h11)
  have b8 := Nat.le_trans (Nat.le_of_lt h9) b9
  have b7 := Nat.le_trans (Nat.le_of_lt h8) b8
  have b6 := Nat.le_trans (Nat.le_of_lt h7) b7
  intro x hx
  simp only [List.mem_cons, List.not_mem_nil, or_false] at hx
  rcases hx with rfl | rfl | rfl | rfl | rfl | rfl
  · exact ⟨Nat.lt_trans a11 h11, Nat.le_refl _⟩
  · exact ⟨a11, Nat.le_of_lt h11⟩
  · exact ⟨a10, b9⟩
  · exact ⟨a9, b8⟩
  · exact ⟨a8, b7⟩
  · exact ⟨h6, b6⟩
theorem Mc.Ok.bot_le {w : World} {loose : List Str} {mean : ExcName → Option Value} {mg mb : Str → Option Value} {text : Str} {M : Mc} {p : Nat} {tp : Tok} (ok : M.Ok w loose mean mg mb text) : ∀ x ∈ M.bot p tp, 96 < (x.1 : Nat) ∧ (x.1 : Nat) ≤ M.f ∧ (x.1 : Nat) ≤ M.pb2 := by
  obtain ⟨_, h1, h2, h3, h4, h5, h6, h7, h8, h9, h10, h11⟩ := ok
  have e : M.f ≤ M.pb2 := Nat.le_of_lt (Nat.lt_trans h6 (Nat.lt_trans h7 (Nat.lt_trans h8 (Nat.lt_trans h9 (Nat.lt_trans h10 h11)))))
  have a2 := Nat.lt_trans h1 h2
  have a3 := Nat.lt_trans a2 h3
  have a4 := Nat.lt_trans a3 h4
  have b4 := Nat.le_of_lt h5
  have b3 := Nat.le_trans (Nat.le_of_lt h4) b4
  have b2 := Nat.le_trans (Nat.le_of_lt h3) b3
  have b1 := Nat.le_trans (Nat.le_of_lt h2) b2
  intro x hx
  simp only [List.mem_cons, List.not_mem_nil, or_false] at hx
  rcases hx with rfl | rfl | rfl | rfl | rfl
  · exact ⟨Nat.lt_trans a4 h5, Nat.le_refl _, e⟩
  · exact ⟨a4, b4, Nat.le_trans b4 e⟩
  · exact ⟨a3, b3, Nat.le_trans b3 e⟩
  · exact ⟨a2, b2, Nat.le_trans b2 e⟩
  · exact ⟨h1, b1, Nat.le_trans b1 e⟩
theorem mc_le {w : World} {loose : List Str} {mean : ExcName → Option Value} {mg mb : Str → Option Value} {text : Str} {M : Mc} {its : Array Value} {npb : Nat} {line : Int} {tl tp : Tok} {p : Nat} (ok : M.Ok w loose mean mg mb text) : ∀ x ∈ M.top w its npb line tl ++ M.bot p tp, ((x.1 : Nat) ≤ M.pb2) := fun x hx =>
  (List.mem_append.mp hx).elim (fun h => (ok.top_gt x h).2) fun h => (ok.bot_le x h).2.2
theorem mc_gt {w : World} {loose : List Str} {mean : ExcName → Option Value} {mg mb : Str → Option Value} {text : Str} {M : Mc} {its : Array Value} {npb : Nat} {line : Int} {tl tp : Tok} {p : Nat} (ok : M.Ok w loose mean mg mb text) : ∀ x ∈ M.top w its npb line tl ++ M.bot p tp, (96 < (x.1 : Nat)) := fun x hx =>
  (List.mem_append.mp hx).elim (fun h => Nat.lt_trans (by have := ok.ord; omega) (ok.top_gt x h).1) fun h => (ok.bot_le x h).1
/-- addresses above b are none of the list's, all at most b -/
theorem off_of_le {b : Nat} {l : List (Addr × Obj)} (h : ∀ x ∈ l, (x.1 : Nat) ≤ b) {q : Addr × Obj} (hq : b < (q.1 : Nat)) : q.1 ∉ l.map (·.1) := fun hm => by
  obtain ⟨x, hx, e⟩ := List.mem_map.mp hm
  exact Nat.not_le.mpr hq (e ▸ h x hx)
theorem off_of_ge {b : Nat} {l : List (Addr × Obj)} (h : ∀ x ∈ l, b ≤ (x.1 : Nat)) {q : Addr × Obj} (hq : (q.1 : Nat) < b) : q.1 ∉ l.map (·.1) := fun hm => by
  obtain ⟨x, hx, e⟩ := List.mem_map.mp hm
  exact Nat.not_le.mpr hq (e ▸ h x hx)
theorem News.sub {g h : Heap} {L : Addr} {l l' : List (Addr × Obj)} (N : News g L h l) (hs : ∀ x ∈ l', x ∈ l) : News g L h l' := fun x hx => N x (hs x hx)
theorem codeRec_at {h : Heap} {c : Addr} {oc : Obj} {vs : Array Value} {qual : Str} {t : Tok} (hm : h.get? c = some oc) (hd : oc.data = .fields vs) (hv : vs[1]? = some (.str qual t)) : h.CodeRec (.ref c) qual :=
  ⟨c, oc, vs, t, rfl, hm, hd, hv⟩
theorem with_fn {P : Prop} {w : World} {loose : List Str} {mean : ExcName → Option Value} {mg mb : Str → Option Value} {text : Str} {g h : Heap} {L f c l cA cT : Addr} {fd : FuncData} {oc o oA oT : Obj} {rest : List (Addr × Obj)} (N : News g L h ((f, fnO fd) :: (c, oc) :: (l, o) :: (cA, oA) :: (cT, oT) :: rest))
    (spec : ReadSpec w loose mean mg mb text f fd c oc l cA oA cT oT) (k : ∀ fd', ReadSpec w loose mean mg mb text f fd' c oc l cA oA cT oT → News g L h ((f, fnO fd') :: (c, oc) :: (l, o) :: (cA, oA) :: (cT, oT) :: rest) → P) : P := k fd spec N
theorem lm {w : World} {A : Around} {s : Shared} {g : Heap} {loose : List Str} {mean : ExcName → Option Value} {mg mb : Str → Option Value} {Q : Value → Shared → Prop} {E : Value → Shared → Prop}
   {text : Str} {t1 : Tok}
   (hA : A.handled = none) (hdp : A.depth + 3 < recursionLimit) (X : (hd.heap_39 w.params).In g) (T : Top topProg loose mean mg mb g) (hK : Kp g s.heap) (hO : Own g s.heap [(96, tabObj #[])]) (cH : CodeHd g 100 96)
   (hz : text.length ≤ 100000)
   (hQ : ∀ (M : Mc) (tup : Nat) (ps : Array Value) tl tp h' tk, M.Ok w loose mean mg mb text → M.pb2 < tup → Kp g h' → Own g h' ((tup, { cls := .type "tuple", data := .seq #[.ref M.x2, .ref M.l] }) :: (M.top w #[] 0 1 tl ++ (M.bot 0 tp ++ [(96, tabObj ps)]))) → Q (.ref tup) { s with heap := h', toks := tk }) :
   wpAny (model PySem.Challenge.rw_pe0049_01.row.prog w) A (call (.ref 101) [.str text t1]) Q E s := by
  revert X; k_fill; intro X
  refine' enterCl (binds := [(Str.ofString "text", .str text t1)]) ?k1 ?k2 ?k3 ?k4 ?k6 ?k7 ?k8 ?k9 ?kB ?kD ?_ ?c2 ?c3 ?c4
  case k1 => assumption
  case k2 => assumption
  case k3 => assumption
  case k4 => assumption
  case k6 => k_is
  case k7 => k_is
  case k8 => exact Nat.lt_of_le_of_lt (Nat.le_add_right _ _) hdp
  case k9 => exact BindsTo.of_eq rfl
  case kB => exact rfl
  case kD => decide +kernel
  case c2 => exact rfl
  case c3 => exact rfl
  case c4 => exact rfl
  intro L h1 tk cells F N Y lt
  k_lt lt
  k_cells Y
  simp only [List.cons_append, List.nil_append] at N
  iterate 12 walk1
  rename Fr _ _ _ _ => F'
  rename News _ _ _ _ => N'
  refine with_fn (w := w) (loose := loose) (mean := mean) (mg := mg) (mb := mb) (text := text) N' ?_ ?_
  · clear N' F' T X hK hO hA hdp
    intro A s g Q E p tp t hA hdp X T hK hO hp hQ
    refine' enter (binds := [(Str.ofString "size", .int 1 t)]) hK hO T.nolimit (hO _ (List.mem_cons_self ..)).1 rfl ?k7 hdp ?k9 ?kB ?_ ?c5 ?c2 ?c3 ?c4
    case k7 => exact codeRec_at (hO _ (List.mem_cons_of_mem _ (List.mem_cons_self ..))).1 (by assumption) (by assumption)
    case k9 => exact BindsTo.of_eq rfl
    case kB => exact locs rfl
    case c5 => decide
    case c2 => exact rfl
    case c3 => exact rfl
    case c4 => exact rfl
    intro L' h2 F N lt
    k_lt lt
    iterate 19 walk1
    dsimp only
    rename Fr _ _ _ _ => F
    refine slice_ss (by omega) F N ?_
    clear F N
    intro h3 t3 k3 F N
    have e1 : Txt.slice text (some ([(p : Int)].getD (Int.toNat 0) 0)) (some ([(p : Int)].getD (Int.toNat 0) 0 + 1)) = oneS text p := by
      show Txt.slice text (some (p : Int)) (some (((p + 1 : Nat) : Int))) = _
      rw [slice_nat text p (p + 1) (by omega), Nat.add_sub_cancel_left]; rfl
    rw [e1]
    have hl1 : (oneS text p).length ≤ 1 := by show (List.toArray _).size ≤ 1; rw [List.size_toArray]; exact List.length_take_le _ _
    iterate 15 walk1
    refine SBL.len (by omega) ?_
    iterate 4 walk1
    iterate 4 walk1
    rename Fr _ _ _ _ => F
    rename News _ _ _ _ => N
    have e2 : [(p : Int)].getD (Int.toNat 0) 0 + ((oneS text p).length : Int) = ((p + (oneS text p).length : Nat) : Int) := by
      show (p : Int) + _ = _; push_cast; rfl
    rw [e2] at N
    exact hQ _ _ _ _ (Kp.of_fr F) (Own.of_news N)
  · intro fd hspec N'
    dsimp only
    iterate 10 walk1
    rename Fr _ _ _ _ => F'
    rename News _ _ _ _ => N'
    refine newLex (dpt hdp (by decide)) X T F' N' ?_
    clear F' N'
    intro x1 d1 pb1 k1 k2 k3 k4 tl1 tw1 h' tk' F' N' lt1 lt2 lt3
    k_lt lt1
    k_lt2 lt2
    k_lt2 lt3
    iterate 18 walk1
    rename Fr _ _ _ _ => F'
    rename News _ _ _ _ => N'
    refine newLex (dpt hdp (by decide)) X T F' N' ?_
    clear F' N'
    intro x2 d2 pb2 k1' k2' k3' k4' tl2 tw2 h' tk' F' N' lt1' lt2' lt3'
    k_lt lt1'
    k_lt2 lt2'
    k_lt2 lt3'
    iterate 4 walk1
    rename Fr _ _ _ _ => F'
    rename News _ _ _ _ => N'
    exact hQ ⟨_, _, _, _, _, _, _, _, _, _, _, fd, _, _, _, _, _, _, _, _, _, _, _, _, _, _, _⟩ _ _ _ _ _ _ ⟨hspec, by dsimp only; omega⟩ (by dsimp only; omega) (Kp.of_fr F') (Own.of_news N')
end Mine
end

section
theorem Mine.freshC1 : True := by
  w_top off
  trivial
open PySem PySem.W PyProof.Rows PySem.Calls PySem.Spec
namespace Mine
set_option maxRecDepth 100000
set_option maxHeartbeats 4000000
theorem News.swap {g h : Heap} {L : Addr} {a b : List (Addr × Obj)} (N : News g L h (a ++ b)) : News g L h (b ++ a) := fun p hp => N p ((List.mem_append.mp hp).elim (fun h => List.mem_append_right _ h) fun h => List.mem_append_left _ h)
theorem Own.swap {g h : Heap} {a b : List (Addr × Obj)} (N : Own g h (a ++ b)) : Own g h (b ++ a) := fun p hp => N p ((List.mem_append.mp hp).elim (fun h => List.mem_append_right _ h) fun h => List.mem_append_left _ h)
theorem readCharC {w : World} {A : Around} {s : Shared} {g : Heap} {loose : List Str} {mean : ExcName → Option Value} {mg mb : Str → Option Value} {R : Result → Shared → Prop}
   {text : Str} {M : Mc} {pbs : Array Value} {npb : Nat} {line : Int} {tl tp : Tok} {p : Nat}
   (ok : M.Ok w loose mean mg mb text)
   (hA : A.handled = none) (hdp : A.depth + 2 < recursionLimit) (X : (hd.heap_39 w.params).In g) (T : Top topProg loose mean mg mb g) (hK : Kp g s.heap) (hO : Own g s.heap (M.top w pbs npb line tl ++ M.bot p tp)) (hp : p ≤ text.length)
   (hQ : ∀ h' tk t' tl' tp', Kp g h' → Own g h' (M.top w pbs npb (line + nl (oneS text p)) tl' ++ M.bot (p + (oneS text p).length) tp') → R (.ok (.ret (.str (oneS text p) t'))) { s with heap := h', toks := tk }) :
   codeAny (model PySem.Challenge.rw_pe0049_01.row.prog w) A (.call (.ref 35) ⟨[.ref M.x2], []⟩) R s := by
  revert X; k_fill; intro X
  have hdis : ∀ q ∈ M.top w pbs npb line tl, q.1 ∉ (M.bot p tp).map (·.1) := fun q hq => off_of_le (fun x hx => (ok.bot_le x hx).2.1) (ok.top_gt q hq).1
  obtain ⟨pb2, x2, d2, pb1, x1, d1, f, c, l, cA, cT, fd, oc, oA, oT, k1, k2, k3, k4, tw, j1, j2, j3, j4, j5, tl1, tw1⟩ := M
  obtain ⟨hrd, hord⟩ := ok
  dsimp only [Mc.top, Mc.bot] at *
  simp only [List.cons_append, List.nil_append] at hO hQ
  refine' enterCode (binds := [(Str.ofString "self", .ref x2)]) hK hO X T ?k6 ?k7 ?k8 ?k9 ?kB ?_ ?c5 ?c2 ?c3 ?c4
  case k6 => k_is
  case k7 => k_is
  case k8 => exact Nat.lt_of_le_of_lt (Nat.le_add_right _ _) hdp
  case k9 => exact BindsTo.of_eq rfl
  case kB => exact locs rfl
  case c5 => decide
  case c2 => exact rfl
  case c3 => exact rfl
  case c4 => exact rfl
  intro L h1 F N lt
  k_lt lt
  iterate 8 walk1
  dsimp only
  refine callWith_F (FnAt.of N (by k_mem)) ?_
  iterate 3 walk1
  refine ⟨FnAt.of N (by k_mem), ?_⟩
  show wpAny _ _ (call (.ref f) [.int 1 _]) _ _ _
  rename Fr _ _ _ _ => F
  have N2 := News.swap (a := [(pb2, W.listOf pbs npb), (x2, instObj 52 d2), (d2, dictOf (lexD w k1 k2 k3 k4 line tl (Value.ref x1) tw pb2) 4), (pb1, W.listOf #[] 0), (x1, instObj 52 d1), (d1, dictOf (lexR w j1 j2 j3 j4 j5 tl1 tw1 pb1 f) 5)]) N
  obtain ⟨g', hK', hO', hst, hrs, hsz, back⟩ := split_ F N2 hdis
  refine hrd (A.deeper _) _ g' _ _ p tp _ hA (by show A.depth + 1 < _; omega) (X.keeps hst) (T.keeps hst) hK' hO' hp ?_
  intro h2 tk2 t2 tp2 hK2 hO2
  obtain ⟨F2, N2⟩ := back _ _ hK2 hO2
  clear F N hK' hO' hst hrs hsz back
  simp only [List.cons_append, List.nil_append] at N2
  iterate 10 walk1
  · iterate 12 walk1
    rename Fr _ _ _ _ => F
    rename News _ _ _ _ => N
    rename ((oneS text p == Str.ofString "\n") = true) => he
    have hz : nl (oneS text p) = 1 := by unfold nl; rw [if_pos (beq_iff_eq.mp he)]
    rw [hz] at hQ
    exact hQ _ _ _ _ _ (Kp.of_fr F) (Own.swap (a := [_, _, _, _, _]) (Own.of_news N))
  · iterate 5 walk1
    rename Fr _ _ _ _ => F
    rename News _ _ _ _ => N
    rename ((oneS text p == Str.ofString "\n") = false) => hne
    have hz : nl (oneS text p) = 0 := by unfold nl; rw [if_neg]; intro e; rw [e] at hne; simp at hne
    rw [hz, Int.add_zero] at hQ
    exact hQ _ _ _ _ _ (Kp.of_fr F) (Own.swap (a := [_, _, _, _, _]) (Own.of_news N))
theorem readChar {w : World} {A : Around} {s : Shared} {g : Heap} {loose : List Str} {mean : ExcName → Option Value} {mg mb : Str → Option Value} {Q : Value → Shared → Prop} {E : Value → Shared → Prop}
   {text : Str} {M : Mc} {pbs : Array Value} {npb : Nat} {line : Int} {tl tp : Tok} {p : Nat}
   (ok : M.Ok w loose mean mg mb text)
   (hA : A.handled = none) (hdp : A.depth + 2 < recursionLimit) (X : (hd.heap_39 w.params).In g) (T : Top topProg loose mean mg mb g) (hK : Kp g s.heap) (hO : Own g s.heap (M.top w pbs npb line tl ++ M.bot p tp)) (hp : p ≤ text.length)
   (hQ : ∀ h' tk t' tl' tp', Kp g h' → Own g h' (M.top w pbs npb (line + nl (oneS text p)) tl' ++ M.bot (p + (oneS text p).length) tp') → Q (.str (oneS text p) t') { s with heap := h', toks := tk }) :
   wpAny (model PySem.Challenge.rw_pe0049_01.row.prog w) A (call (.ref 35) [.ref M.x2]) Q E s :=
  wpAny_call (readCharC ok hA hdp X T hK hO hp hQ)
end Mine
end

section
theorem Mine.freshCi : True := by
  w_top off
  trivial
open PySem PySem.W PyProof.Rows PySem.Calls PySem.Spec
set_option maxRecDepth 100000
namespace Mine
abbrev citO (f : Value) (x : Str) (t : Tok) : Obj := { cls := .type "callable_iterator", data := .fields #[f, .str x t, .bool false] }
abbrev citEnd : Obj := { cls := .type "callable_iterator", data := .fields #[.none, .none, .bool true] }
theorem ci_slot_next : Slot "callable_iterator" "__next__" "callable_iterator.__next__" :=
  .of (owner := "callable_iterator") (n := "__next__") (by rw [typeLookup_type, builtinLookup_eq_fast]; kernel_rfl) (by decide +kernel) (by decide +kernel) (by decide +kernel)
    (.inl (by decide +kernel)) (by rw [isSubtype_type]; kernel_rfl)
theorem ci_slot_iter : Slot "callable_iterator" "__iter__" "callable_iterator.__iter__" :=
  .of (owner := "callable_iterator") (n := "__iter__") (by rw [typeLookup_type, builtinLookup_eq_fast]; kernel_rfl) (by decide +kernel) (by decide +kernel) (by decide +kernel)
    (.inl (by decide +kernel)) (by rw [isSubtype_type]; kernel_rfl)
theorem ci_entry_next : entryFor table "callable_iterator.__next__" = some Builtin.«callable_iterator.__next__» := by first | exact entryFor_of_fast (by kernel_rfl) | exact entryFor_of_tree (by kernel_rfl)
theorem ci_entry_iter : entryFor table "callable_iterator.__iter__" = some Builtin.«dict_keyiterator.__iter__» :=
  entryFor_alias (id' := "dict_keyiterator.__iter__") (by kernel_rfl) (by first | rfl | decide +kernel | (unfold String.splitOn; simp +decide [String.splitOnAux])) (by decide +kernel) (by kernel_rfl)
theorem ci_args_next (a : Value) : argsOk "callable_iterator.__next__" ⟨[a], []⟩ := by unfold argsOk; kernel_rfl
theorem ci_args_iter (a : Value) : argsOk "callable_iterator.__iter__" ⟨[a], []⟩ := by unfold argsOk; kernel_rfl
theorem ci_args_iter2 (a b : Value) : argsOk "iter" ⟨[a, b], []⟩ := by unfold argsOk; kernel_rfl
theorem ci_method_call : typeLookup (.type "method") "__call__" = pure (some (.builtin "method.__call__")) := by rw [typeLookup_type, builtinLookup_eq_fast]; kernel_rfl
section
variable {prog : Program} {w : World} {A : Around} {E : Value → Shared → Prop} {s : Shared}
set_option maxHeartbeats 1000000
theorem ci_pyIter {it : Addr} {o : Obj} {Q : Value → Shared → Prop} (ho : s.heap.get? it = some o) (hc : o.cls = .type "callable_iterator") (h : Q (.ref it) s) : wpAny (model prog w) A (pyIter (.ref it)) Q E s := by
  have hT : s.TypeIs (.ref it) "callable_iterator" := ⟨_, ho, hc⟩
  refine wpAny_pyIter_slot hT ci_slot_iter (wpAny_call_entry ci_slot_iter hT ci_entry_iter ?_ (ci_args_iter _))
  show wpAny _ _ (ret (.ref it)) _ _ s
  exact wpAny_pure ⟨_, rfl, "callable_iterator", _, hT, ci_slot_next.lookup, h⟩
theorem wpAny_callBorrowed {f : Value} {pos : List Value} {Q : Value → Shared → Prop}
    (hc : codeAny (model prog w) A (.call f ⟨pos, []⟩) (fun r s' => match r with | .ok (.ret v) => Q v s' | .ok _ => False | .error e => E e s') s) : wpAny (model prog w) A (callBorrowed f pos) Q E s := fun Γ p hΓ => by
  unfold callBorrowed
  rw [Sem.wp_call]
  refine wpCode_mono (fun r s' h => ?_) (hc _ p rfl (hΓ.enter _ none p (by intro x; cases x)))
  cases r with
  | error e => exact h
  | ok fl => cases fl <;> first | exact h | exact h.elim
theorem ci_borrows {q fa : Addr} {fo : Obj} {fd : FuncData} {self : Value} {Q : Bool → Shared → Prop} (hq : s.heap.get? q = some (methodObj (.ref fa) self)) (hf : s.heap.get? fa = some fo) (hd : fo.data = .func fd) (h : Q true s) :
    wpAny (model prog w) A (borrowsExactly (.ref q)) Q E s := by
  unfold borrowsExactly
  refine wpAny_bind (wpAny_load hq ?_)
  dsimp only
  refine bm_if_true (by decide) ?_
  show wpAny _ _ (load fa >>= _) _ _ _
  refine wpAny_bind (wpAny_load hf ?_)
  rw [hd]
  exact wpAny_pure h
theorem ci_next {it q fa : Addr} {fo : Obj} {fd : FuncData} {self : Value} {x : Str} {t : Tok} {Q : Option Value → Shared → Prop} (hh : A.handled = none)
    (hit : s.heap.get? it = some (citO (.ref q) x t)) (hq : s.heap.get? q = some (methodObj (.ref fa) self)) (hf : s.heap.get? fa = some fo) (hd : fo.data = .func fd)
    (h : codeAny (model prog w) A.in1 (.call (.ref fa) ⟨[self], []⟩) (fun r s' => ∃ y u, r = .ok (.ret (.str y u)) ∧ s'.heap.get? it = some (citO (.ref q) x t) ∧ s'.heap.get? q = some (methodObj (.ref fa) self) ∧ s'.heap.get? fa = some fo ∧
      (x ≠ y → Q (some (.str y u)) s') ∧ (x = y → ∀ h', Heap.ExtBut it s'.heap h' → h'.get? it = some citEnd → Q none { s' with heap := h' })) s) :
    wpAny (model prog w) A (pyNext (.ref it)) Q E s := by
  have hT : s.TypeIs (.ref it) "callable_iterator" := ⟨_, hit, rfl⟩
  unfold pyNext
  refine wpAny_bind (wpAny_attempt (wpAny_callSpecial?_slot (name := Str.ofString "__next__") hT ci_slot_next (wpAny_call_entry ci_slot_next hT ci_entry_next ?_ (ci_args_next _))))
  unfold Builtin.«callable_iterator.__next__»
  refine wpAny_bind (wpAny_of_eq (a := (.ref it, [])) rfl ?_)
  dsimp only
  refine wpAny_bind (wpAny_field hit rfl (x := .bool false) rfl ?_)
  refine ifN (by decide) ?_
  refine wpAny_bind (wpAny_field hit rfl (x := .ref q) rfl ?_)
  refine wpAny_bind (wpAny_attempt ?_)
  unfold callOutOfASlot
  refine wpAny_bind (ci_borrows hq hf hd ?_)
  refine ifP rfl (wpAny_callBorrowed (method_call hq (codeAny_mono h fun r s' hr => ?_)))
  obtain ⟨y, u, rfl, hit', hq', hf', hne, heq⟩ := hr
  dsimp only
  refine wpAny_bind (wpAny_field hit' rfl (x := .bool false) rfl ?_)
  refine ifN (by decide) ?_
  refine wpAny_bind (wpAny_field hit' rfl (x := .str x t) rfl ?_)
  refine wpAny_bind (wpAny_holding (eqBool_str ?_))
  by_cases e : x = y
  · refine ifN (by rw [beq_iff_eq.mpr e]; decide) ?_
    refine wpAny_bind (wpAny_rule ?_)
    refine wpAny_bind ?_
    show wpAny _ _ (field (.ref it) 0 >>= _) _ _ _
    refine wpAny_bind (wpAny_field hit' rfl (x := .ref q) rfl ?_)
    unfold slotLetsGo
    refine wpAny_bind (wpAny_bind (ci_borrows hq' hf' hd ?_))
    refine ifP rfl (wpAny_pure ?_)
    refine wpAny_bind (wpAny_setField_rec hit' (by simp) fun h1 g1 s1 => ?_)
    refine wpAny_bind (wpAny_setField_rec g1 (by simp) fun h2 g2 s2 => ?_)
    refine wpAny_setField_rec g2 (by simp) fun h3 g3 s3 => ?_
    have sb : Heap.SameBut it s'.heap h3 := (s1.trans s2).trans s3
    show wpAny _ _ (newExc (.type "StopIteration") [] >>= _) _ _ _
    refine wpAny_bind ?_
    simp only [newExc, newTuple]
    refine wpAny_bind (wpAny_newObj_type ?_ (by size_fits))
    refine wpAny_bind (m := firstArgMember _ _) (wpAny_of_eq (a := Value.none) (by first | rfl | (simp only [firstArgMember]; rfl)) ?_)
    refine wpAny_newObj_type ?_ (by size_fits)
    simp only [raiseNew]
    refine wpAny_bind (wpAny_handled ?_)
    rw [show A.in1.handled = none from hh]
    refine wpAny_bind (wpAny_pure (wpAny_throw ?_))
    refine wpAny_bind (wpAny_isInstance (T := "StopIteration") (b := true) ⟨_, Heap.get?_push_size _ rfl, rfl⟩ isSubtype_stop ?_)
    refine wpAny_pure (heq e _ ((sb.extBut.push _).push _) ?_)
    exact Heap.get?_push_of_some _ (Heap.get?_push_of_some _ g3)
  · refine ifP (by rw [beq_eq_false_iff_ne.mpr e]; decide) ?_
    exact wpAny_pure ⟨_, rfl, wpAny_pure (hne e)⟩
theorem ci_iter {g : Heap} {L : Addr} {m : Str → Option Value} {news : List (Addr × Obj)} {q : Addr} {f self : Value} {x : Str} {t : Tok} {Q : Value → Shared → Prop} (F : Fr g L s.heap m) (N : News g L s.heap news) (hq : s.heap.get? q = some (methodObj f self))
    (h : ∀ it h', Fr g L h' m → News g L h' ((it, citO (.ref q) x t) :: news) → (∀ p ∈ news, p.1 < it) → Q (.ref it) { s with heap := h' }) :
    wpAny (model prog w) A (call (.builtin "iter") [.ref q, .str x t]) Q E s := by
  have hT : s.TypeIs (.ref q) "method" := ⟨_, hq, rfl⟩
  refine call_function_entry (by decide +kernel) (by decide +kernel) kdk_entry_iter (ci_args_iter2 _ _) ?_
  unfold Builtin.«iter»
  refine wpAny_bind (m := someArgs "iter" 1 2 _) (wpAny_of_eq (a := [Value.ref q, Value.str x t]) (by first | rfl | kernel_rfl!) ?_)
  dsimp only
  refine wpAny_bind (wpAny_specialOf hT ci_method_call ?_)
  refine ifN (by decide) ?_
  refine wpAny_bind (wpAny_rule ?_)
  unfold newFields
  refine wpAny_bind (wpAny_newObj_type ?_ (by size_fits))
  exact wpAny_pure ⟨_, rfl, h _ _ (F.push _) (News.push F N _ rfl) (fun p hp => Heap.lt_size (N p hp).1)⟩
end
end Mine
end

section
theorem Mine.freshG1 : True := by
  w_top off
  trivial
open PySem PySem.W PyProof.Rows PySem.Calls PySem.Spec
namespace Mine
set_option maxRecDepth 100000
set_option maxHeartbeats 4000000
section
variable {w : World} {A : Around} {s : Shared} {g : Heap} {L : Addr} {m : Str → Option Value} {loose : List Str} {mean : ExcName → Option Value} {mg mb : Str → Option Value} {E : Value → Shared → Prop}
   {text : Str} {M : Mc} {npb : Nat} {line : Int} {tl tp t0 : Tok} {it q : Nat} {r : List Nat}
/-- the ledger while a word is read -/
abbrev Mc.cl (w : World) (M : Mc) (it q : Nat) (o : Obj) (npb : Nat) (line : Int) (tl : Tok) (p : Nat) (tp : Tok) : List (Addr × Obj) := [(it, o), (q, methodObj (.ref 35) (.ref M.x2))] ++ (M.top w #[] npb line tl ++ M.bot p tp)
theorem cl_split {o : Obj} {h : Heap} {p : Nat} (ok : M.Ok w loose mean mg mb text) (hq : M.pb2 < q) (hit : q < it) (F : Fr g L h m) (N : News g L h (M.cl w it q o npb line tl p tp)) :
    ∃ g', Kp g' h ∧ Own g' h (M.top w #[] npb line tl ++ M.bot p tp) ∧ (∀ b o, g.get? b = some o → g'.get? b = some o) ∧ (∀ x ∈ [(it, o), (q, methodObj (.ref 35) (.ref M.x2))], g'.get? x.1 = some x.2) ∧
      ∀ h' l', Kp g' h' → Own g' h' l' → Fr g L h' m ∧ News g L h' ([(it, o), (q, methodObj (.ref 35) (.ref M.x2))] ++ l') := by
  obtain ⟨g', h1, h2, h3, h4, _, h5⟩ := split_ F (News.swap N) (by
    intro x hx
    rcases List.mem_cons.mp hx with rfl | hx
    · exact off_of_le (mc_le ok) (Nat.lt_trans hq hit)
    · rw [List.mem_singleton.mp hx]; exact off_of_le (mc_le ok) hq)
  exact ⟨g', h1, h2, h3, h4, fun h' l' a b => ⟨(h5 h' l' a b).1, News.swap (h5 h' l' a b).2⟩⟩
theorem nextCh {c : Nat} {Q : Option Value → Shared → Prop} (ok : M.Ok w loose mean mg mb text) (hq : M.pb2 < q) (hit : q < it) (hA : A.handled = none) (hdp : A.depth + 2 < recursionLimit) (X : (hd.heap_39 w.params).In g) (T : Top topProg loose mean mg mb g)
    (F : Fr g L s.heap m) (N : News g L s.heap (M.cl w it q (citO (.ref q) (Str.ofString "") t0) npb line tl (posOf text (c :: r)) tp)) (hr : Rem text (c :: r))
    (hQ : ∀ h' tk t' tl' tp', Fr g L h' m → News g L h' (M.cl w it q (citO (.ref q) (Str.ofString "") t0) npb (line + nl ⟨#[c]⟩) tl' (posOf text r) tp') → Q (some (.str ⟨#[c]⟩ t')) { s with heap := h', toks := tk }) :
    wpAny (model PySem.Challenge.rw_pe0049_01.row.prog w) A (pyNext (.ref it)) Q E s := by
  revert X; k_fill; intro X
  obtain ⟨g', hK, hO, hst, hrs, back⟩ := cl_split ok hq hit F N
  obtain ⟨fo, fd, hf, hfd⟩ : ∃ fo fd, g.get? 35 = some fo ∧ fo.data = .func fd := ⟨_, _, X _ _ (by k_is), rfl⟩
  refine ci_next hA (N _ (List.mem_cons_self ..)).1 (N _ (List.mem_cons_of_mem _ (List.mem_cons_self ..))).1 (F.keep _ _ hf) hfd ?_
  refine readCharC ok hA hdp (X.keeps hst) (T.keeps hst) hK hO (posOf_le _ _) ?_
  intro h' tk t' tl' tp' hK' hO'
  rw [hr.one, one_len, hr.pos] at hO'
  obtain ⟨F', N'⟩ := back _ _ hK' hO'
  rw [hr.one]
  refine ⟨_, _, rfl, (N' _ (List.mem_cons_self ..)).1, (N' _ (List.mem_cons_of_mem _ (List.mem_cons_self ..))).1, ?_, fun _ => hQ _ _ _ _ _ F' N', fun e => ?_⟩
  · exact F'.keep _ _ hf
  · have := congrArg Str.length e
    rw [one_len] at this
    exact absurd this (by decide)
theorem nextEnd {Q : Option Value → Shared → Prop} (ok : M.Ok w loose mean mg mb text) (hq : M.pb2 < q) (hit : q < it) (hA : A.handled = none) (hdp : A.depth + 2 < recursionLimit) (X : (hd.heap_39 w.params).In g) (T : Top topProg loose mean mg mb g)
    (F : Fr g L s.heap m) (N : News g L s.heap (M.cl w it q (citO (.ref q) (Str.ofString "") t0) npb line tl (posOf text []) tp)) (hr : Rem text [])
    (hQ : ∀ h' tk tl' tp', Fr g L h' m → News g L h' (M.cl w it q citEnd npb line tl' (posOf text []) tp') → Q none { s with heap := h', toks := tk }) :
    wpAny (model PySem.Challenge.rw_pe0049_01.row.prog w) A (pyNext (.ref it)) Q E s := by
  revert X; k_fill; intro X
  obtain ⟨g', hK, hO, hst, hrs, back⟩ := cl_split ok hq hit F N
  obtain ⟨fo, fd, hf, hfd⟩ : ∃ fo fd, g.get? 35 = some fo ∧ fo.data = .func fd := ⟨_, _, X _ _ (by k_is), rfl⟩
  refine ci_next hA (N _ (List.mem_cons_self ..)).1 (N _ (List.mem_cons_of_mem _ (List.mem_cons_self ..))).1 (F.keep _ _ hf) hfd ?_
  refine readCharC ok hA hdp (X.keeps hst) (T.keeps hst) hK hO (posOf_le _ _) ?_
  intro h' tk t' tl' tp' hK' hO'
  have hz : nl (oneS text (posOf text [])) = 0 := by rw [hr.none]; decide
  have hl : (oneS text (posOf text [])).length = 0 := by rw [hr.none]; decide
  rw [hz, Int.add_zero, hl, Nat.add_zero] at hO'
  obtain ⟨F', N'⟩ := back _ _ hK' hO'
  rw [hr.none]
  refine ⟨_, _, rfl, (N' _ (List.mem_cons_self ..)).1, (N' _ (List.mem_cons_of_mem _ (List.mem_cons_self ..))).1, F'.keep _ _ hf, fun e => absurd rfl e, fun _ h2 he hg => ?_⟩
  have ne : ∀ x ∈ ((q, methodObj (.ref 35) (.ref M.x2)) :: (M.top w #[] npb line tl' ++ M.bot (posOf text []) tp')), x.1 ≠ it := by
    intro x hx e
    rcases List.mem_cons.mp hx with rfl | hx
    · exact Nat.ne_of_lt hit e
    · exact Nat.not_le.mpr (Nat.lt_trans hq hit) (e ▸ mc_le ok x hx)
  have D := N' _ (List.mem_cons_self ..)
  refine hQ h2 tk tl' tp' ⟨?_, fun b o e => he b o (fun z => ?_) (F'.keep b o e), F'.above⟩ ?_
  · obtain ⟨oL, a1, a2, hL, a3⟩ := F'.ns
    exact ⟨oL, a1, a2, he _ _ (fun z => D.2.1 z.symm) hL, a3⟩
  · have := D.2.2; rw [← z] at this; dsimp only at this; rw [e] at this; cases this
  · intro x hx
    rcases List.mem_cons.mp hx with rfl | hx
    · exact ⟨hg, D.2⟩
    · have := N' x (List.mem_cons_of_mem _ hx)
      exact ⟨he _ _ (ne x hx) this.1, this.2⟩
theorem readCh {c : Nat} {o : Obj} {Q : Value → Shared → Prop} (ok : M.Ok w loose mean mg mb text) (hq : M.pb2 < q) (hit : q < it) (hA : A.handled = none) (hdp : A.depth + 2 < recursionLimit) (X : (hd.heap_39 w.params).In g) (T : Top topProg loose mean mg mb g)
    (F : Fr g L s.heap m) (N : News g L s.heap (M.cl w it q o npb line tl (posOf text (c :: r)) tp)) (hr : Rem text (c :: r))
    (hQ : ∀ h' tk t' tl' tp', Fr g L h' m → News g L h' (M.cl w it q o npb (line + nl ⟨#[c]⟩) tl' (posOf text r) tp') → Q (.str ⟨#[c]⟩ t') { s with heap := h', toks := tk }) :
    wpAny (model PySem.Challenge.rw_pe0049_01.row.prog w) A (call (.ref 35) [.ref M.x2]) Q E s := by
  obtain ⟨g', hK, hO, hst, hrs, back⟩ := cl_split ok hq hit F N
  refine readChar ok hA hdp (X.keeps hst) (T.keeps hst) hK hO (posOf_le _ _) ?_
  intro h' tk t' tl' tp' hK' hO'
  rw [hr.one, one_len, hr.pos] at hO'
  obtain ⟨F', N'⟩ := back _ _ hK' hO'
  rw [hr.one]
  exact hQ _ _ _ _ _ F' N'
end
end Mine
end

section
theorem Mine.freshG2b : True := by
  w_top off
  trivial
open PySem PySem.W PyProof.Rows PySem.Calls PySem.Spec
namespace Mine
set_option maxRecDepth 100000
set_option maxHeartbeats 4000000
theorem for_cit {prog : Program} {w : World} {A : Around} {s : Shared} {env : Env} {x : Str} {px : Pos} {it : Value} {body : List Stmt} {Q : Flow → Shared → Prop} {E : Value → Shared → Prop} (I : Nat → Shared → Prop)
    (turn : ∀ n s, I n s → wpAny (model prog w) A (pyNext it) (fun r s₁ => match r with
      | none => Q .next s₁
      | some v => wpAny (model prog w) A (storeName env x v) (fun _ s₂ => wpAny (model prog w) A (execs body env) (fun f s₃ => match f with
          | .next | .cont => ∃ m, m < n ∧ I m s₃
          | .brk => Q .next s₃
          | .ret v => Q (.ret v) s₃) (fun _ _ => False) s₂) (fun _ _ => False) s₁) (fun _ _ => False) s)
    (n : Nat) (h : I n s) : codeAny (model prog w) A (.forLoop (.Name x px) it body [] env) (fun r s' => match r with | .ok f => Q f s' | .error e => cameBackBy (model prog w) A env E e s') s := by
  refine codeAny_forLoop I (fun n s hI => wpAny_mono (turn n s hI) (fun r s₁ h₁ => ?_) fun _ _ h => h.elim) n h
  cases r with
  | none => exact wpAny_execs_nil h₁
  | some v => exact wpAny_assign_Name (wpAny_mono h₁ (fun _ s₂ h₂ => wpAny_mono h₂ (fun f s₃ h₃ => by cases f <;> exact h₃) fun _ _ h => h.elim) fun _ _ h => h.elim)
theorem nf3 {m : Str → Option Value} {a b c : Str} {x y z : Value} (h1 : m a = some x) (h2 : m b = some y) (h3 : m c = some z) :
    m = fun n => if n = a then some x else if n = b then some y else if n = c then some z else m n := by
  funext n
  by_cases e1 : n = a
  · subst e1; simp [h1]
  · by_cases e2 : n = b
    · subst e2; simp [e1, h2]
    · by_cases e3 : n = c
      · subst e3; simp [e1, e2, h3]
      · simp [e1, e2, e3]
/-- amid a word: r₁ is left, tok is told -/
def St (w : World) (M : Mc) (text : Str) (g : Heap) (L it q : Nat) (npb : Nat) (line : Int) (r : List Nat) (s : Shared) (r₁ tok : List Nat) (s' : Shared) : Prop :=
  ∃ m₁ h₁ tk tl₁ tp₁ t0 u, s' = { s with heap := h₁, toks := tk } ∧ Rem text r₁ ∧ Fr g L h₁ m₁ ∧ m₁ (Str.ofString "self") = some (.ref M.x2) ∧ m₁ (Str.ofString "fiter") = some (.ref it) ∧ m₁ (Str.ofString "token") = some (.str ⟨tok.toArray⟩ u) ∧
    News g L h₁ (M.cl w it q (citO (.ref q) (Str.ofString "") t0) npb (line + (cnt r - cnt r₁)) tl₁ (posOf text r₁) tp₁)
theorem St.mk' {w : World} {M : Mc} {text : Str} {g : Heap} {L it q : Nat} {npb : Nat} {line line' : Int} {r r₁ tok : List Nat} {s : Shared} {m : Str → Option Value} {h : Heap} {tk : Nat} {tl tp t0 u : Tok} (hr : Rem text r₁) (F : Fr g L h m) (h1 : m (Str.ofString "self") = some (.ref M.x2)) (h2 : m (Str.ofString "fiter") = some (.ref it)) (h3 : m (Str.ofString "token") = some (.str ⟨tok.toArray⟩ u))
    (N : News g L h (M.cl w it q (citO (.ref q) (Str.ofString "") t0) npb line' tl (posOf text r₁) tp)) (e : line' = line + (cnt r - cnt r₁)) : St w M text g L it q npb line r s r₁ tok { s with heap := h, toks := tk } :=
  ⟨m, h, tk, tl, tp, t0, u, rfl, hr, F, h1, h2, h3, e ▸ N⟩
theorem getTok {w : World} {A : Around} {s : Shared} {g : Heap} {loose : List Str} {mean : ExcName → Option Value} {mg mb : Str → Option Value} {Q : Value → Shared → Prop} {E : Value → Shared → Prop}
   {text : Str} {M : Mc} {npb : Nat} {line : Int} {tl tp : Tok} {r t r' : List Nat}
   (ok : M.Ok w loose mean mg mb text) (hlx : LX r t r') (hrem : Rem text r)
   (hA : A.handled = none) (hdp : A.depth + 4 < recursionLimit) (X : (hd.heap_39 w.params).In g) (T : Top topProg loose mean mg mb g) (hK : Kp g s.heap) (hO : Own g s.heap (M.top w #[] npb line tl ++ M.bot (posOf text r) tp))
   (hz : text.length ≤ 100000)
   (hQ : ∀ h' tk u tl' tp', Kp g h' → Own g h' (M.top w #[] npb (line + (cnt r - cnt r')) tl' ++ M.bot (posOf text r') tp') → Q (.str ⟨t.toArray⟩ u) { s with heap := h', toks := tk }) :
   wpAny (model PySem.Challenge.rw_pe0049_01.row.prog w) A (call (.ref 42) [.ref M.x2]) Q E s := by
  revert X; k_fill; intro X
  have hord := ok.ord
  refine' enterK (binds := [(Str.ofString "self", .ref M.x2)]) hK hO X T ?k6 ?k7 ?k8 ?k9 ?kB ?_ ?c5 ?c2 ?c3 ?c4
  case k6 => k_is
  case k7 => k_is
  case k8 => exact Nat.lt_of_le_of_lt (Nat.le_add_right _ _) hdp
  case k9 => exact BindsTo.of_eq rfl
  case kB => exact locs rfl
  case c5 => decide
  case c2 => exact rfl
  case c3 => exact rfl
  case c4 => exact rfl
  intro L h1 F N lt
  dsimp only [Mc.top, Mc.bot] at N lt
  simp only [List.cons_append, List.nil_append] at N lt
  k_lt lt
  iterate 26 walk1
  rename Fr _ _ _ _ => F
  rename News _ _ _ _ => N
  rename (_ < _ ∧ _) => ltq
  rename Addr => q
  have hq : M.pb2 < q := ltq.1
  refine ci_iter F N (N _ (List.mem_cons_self ..)).1 ?_
  clear F N
  intro it h2 F N lti
  have hit : q < it := ltN (lti _ (List.mem_cons_self ..))
  clear lti ltq lt
  iterate 2 walk1
  refine wpAny_execs_cons (wpAny_For ?_)
  walk1
  rename News _ _ _ _ => N
  refine ci_pyIter (N _ (List.mem_cons_self ..)).1 rfl ?_
  have hLn : L = L := rfl
  refine for_cit (fun n s' => ∃ r₁, n = r₁.length ∧ LX r₁ t r' ∧ St w M text g L it q npb line r s r₁ [] s') ?_ _ ⟨r, rfl, hlx, _, _, _, _, _, _, _, rfl, hrem, by assumption, rfl, rfl, rfl, by rw [Int.sub_self, Int.add_zero]; exact N⟩
  clear N
  rintro n s' ⟨r₁, rfl, hl₁, m₁, h₁, tk₁, tl₁, tp₁, t0, u, rfl, hrem₁, F₁, hs₁, hf₁, ht₁, N₁⟩
  cases hl₁ with
  | eof =>
    refine nextEnd ok hq hit hA (dpt hdp (by decide)) X T F₁ N₁ hrem₁ ?_
    intro h' tk' tl' tp' F' N'
    rw [nf3 hs₁ hf₁ ht₁] at F'
    dsimp only
    iterate 3 walk1
    exact hQ _ _ _ _ _ (Kp.of_fr F') (fun p hp => Own.of_news N' p (List.mem_append_right _ hp))
  | @skip c r₂ _ _ hw hl =>
    refine nextCh ok hq hit hA (dpt hdp (by decide)) X T F₁ N₁ hrem₁ ?_
    intro h' tk' t' tl' tp' F' N'
    rw [nf3 hs₁ hf₁ ht₁] at F'
    clear F₁ N₁
    dsimp only [Mc.cl, Mc.top, Mc.bot] at N'
    simp only [List.cons_append, List.nil_append] at N'
    dsimp only
    iterate 9 walk1
    refine in_str ?_
    rw [ws_in]
    walk1
    rw [if_pos hw]
    iterate 3 walk1
    rename Fr _ _ _ _ => F
    rename News _ _ _ _ => N
    exact ⟨_, Nat.lt_succ_self _, r₂, rfl, hl, St.mk' hrem₁.tail F rfl rfl rfl N (by rw [nl_one c r₂]; omega)⟩
  | @quo r₂ _ _ hqt =>
    obtain ⟨c, hc⟩ : ∃ c : Nat, c = 34 := ⟨34, rfl⟩
    rw [← hc] at hrem₁ N₁
    refine nextCh ok hq hit hA (dpt hdp (by decide)) X T F₁ N₁ hrem₁ ?_
    intro h' tk' t' tl' tp' F' N'
    rw [nf3 hs₁ hf₁ ht₁] at F'
    clear F₁ N₁
    dsimp only [Mc.cl, Mc.top, Mc.bot] at N'
    simp only [List.cons_append, List.nil_append] at N'
    dsimp only
    iterate 9 walk1
    refine in_str ?_
    rw [ws_in]
    walk1
    rw [if_neg (by rw [hc]; decide)]
    iterate 9 walk1
    rw [one_eq c 34 _ (by decide), if_pos (decide_eq_true hc)]
    refine wpAny_execs_cons (wpAny_For ?_)
    walk1
    rename Fr _ _ _ _ => F
    rename News _ _ _ _ => N
    refine ci_pyIter (N _ (List.mem_cons_self ..)).1 rfl ?_
    refine for_cit (fun n s' => ∃ r₁ t₁ tok, n = r₁.length ∧ QT r₁ t₁ r' ∧ t = tok ++ t₁ ∧ St w M text g L it q npb line r s r₁ tok s') ?_ _ ⟨r₂, t, [], rfl, hqt, rfl, St.mk' hrem₁.tail F rfl rfl rfl N (by rw [nl_one c r₂]; omega)⟩
    clear F N
    rintro n s' ⟨r₁, t₁, tok, rfl, hl₁, rfl, m₂, h₂, tk₂, tl₂, tp₂, t02, u2, rfl, hrem₂, F₁, hs₁, hf₁, ht₁, N₁⟩
    cases hl₁ with
    | @fin _ =>
      obtain ⟨c', hc'⟩ : ∃ c : Nat, c = 34 := ⟨34, rfl⟩
      rw [← hc'] at hrem₂ N₁
      refine nextCh ok hq hit hA (dpt hdp (by decide)) X T F₁ N₁ hrem₂ ?_
      intro h' tk' t' tl' tp' F' N'
      rw [nf3 hs₁ hf₁ ht₁] at F'
      clear F₁ N₁
      dsimp only [Mc.cl, Mc.top, Mc.bot] at N'
      simp only [List.cons_append, List.nil_append] at N'
      dsimp only
      iterate 9 walk1
      rw [one_eq c' 34 _ (by decide), if_pos (decide_eq_true hc')]
      iterate 4 walk1
      rename Fr _ _ _ _ => F
      rename News _ _ _ _ => N
      simp only [List.append_nil] at hQ
      rw [show line + (cnt r - cnt r') = line + (cnt r - cnt (c' :: r')) + nl ⟨#[c']⟩ from by rw [nl_one c' r']; omega] at hQ
      exact hQ _ _ _ _ _ (Kp.of_fr F) (fun p hp => Own.of_news N p (List.mem_append_right [_, _] hp))
    | @esc c₂ r₃ t₃ _ hqt' =>
      obtain ⟨c', hc'⟩ : ∃ c : Nat, c = 92 := ⟨92, rfl⟩
      rw [← hc'] at hrem₂ N₁
      refine nextCh ok hq hit hA (dpt hdp (by decide)) X T F₁ N₁ hrem₂ ?_
      intro h' tk' t' tl' tp' F' N'
      rw [nf3 hs₁ hf₁ ht₁] at F'
      clear F₁ N₁
      dsimp only [Mc.cl, Mc.top, Mc.bot] at N'
      simp only [List.cons_append, List.nil_append] at N'
      dsimp only
      iterate 9 walk1
      rw [one_eq c' 34 _ (by decide), if_neg (by rw [hc']; decide)]
      iterate 8 walk1
      rw [one_eq c' 92 _ (by decide), if_pos (decide_eq_true hc')]
      iterate 7 walk1
      rename Fr _ _ _ _ => F
      rename News _ _ _ _ => N
      show wpAny _ _ (call (.ref 35) [.ref M.x2]) _ _ _
      refine readCh ok hq hit hA (dpt hdp (by decide)) X T F N hrem₂.tail ?_
      clear F N
      intro h' tk' t' tl' tp' F' N'
      dsimp only [Mc.cl, Mc.top, Mc.bot] at N'
      simp only [List.cons_append, List.nil_append] at N'
      dsimp only
      iterate 8 walk1
      have hsh := hlx.short.1
      have hlen := hrem.len
      rw [List.length_append] at hsh
      refine PyProof.Rows.iadd_str ?_ (by show tok.toArray.size + 1 ≤ _; rw [List.size_toArray, sizeLine_eq]; omega)
      intro t4 k4
      rw [one_app]
      iterate 2 walk1
      rename Fr _ _ _ _ => F
      rename News _ _ _ _ => N
      exact ⟨_, by rw [List.length_cons, List.length_cons]; omega, r₃, t₃, tok ++ [c₂], rfl, hqt', by simp, St.mk' hrem₂.tail.tail F rfl rfl rfl N (by rw [nl_one c' (c₂ :: r₃), nl_one c₂ r₃]; omega)⟩
    | @ch c' r₃ t₃ _ h1 h2 hqt' =>
      refine nextCh ok hq hit hA (dpt hdp (by decide)) X T F₁ N₁ hrem₂ ?_
      intro h' tk' t' tl' tp' F' N'
      rw [nf3 hs₁ hf₁ ht₁] at F'
      clear F₁ N₁
      dsimp only [Mc.cl, Mc.top, Mc.bot] at N'
      simp only [List.cons_append, List.nil_append] at N'
      dsimp only
      iterate 9 walk1
      rw [one_eq c' 34 _ (by decide), if_neg (by simpa using h1)]
      iterate 8 walk1
      rw [one_eq c' 92 _ (by decide), if_neg (by simpa using h2)]
      iterate 7 walk1
      have hsh := hlx.short.1
      have hlen := hrem.len
      rw [List.length_append] at hsh
      refine PyProof.Rows.iadd_str ?_ (by show tok.toArray.size + 1 ≤ _; rw [List.size_toArray, sizeLine_eq]; omega)
      intro t4 k4
      rw [one_app]
      iterate 2 walk1
      rename Fr _ _ _ _ => F
      rename News _ _ _ _ => N
      exact ⟨_, Nat.lt_succ_self _, r₃, t₃, tok ++ [c'], rfl, hqt', by simp, St.mk' hrem₂.tail F rfl rfl rfl N (by rw [nl_one c' r₃]; omega)⟩
  | @esc c₂ r₂ t₂ _ hu =>
    obtain ⟨c, hc⟩ : ∃ c : Nat, c = 92 := ⟨92, rfl⟩
    rw [← hc] at hrem₁ N₁
    refine nextCh ok hq hit hA (dpt hdp (by decide)) X T F₁ N₁ hrem₁ ?_
    intro h' tk' t' tl' tp' F' N'
    rw [nf3 hs₁ hf₁ ht₁] at F'
    clear F₁ N₁
    dsimp only [Mc.cl, Mc.top, Mc.bot] at N'
    simp only [List.cons_append, List.nil_append] at N'
    dsimp only
    iterate 9 walk1
    refine in_str ?_
    rw [ws_in]
    walk1
    rw [if_neg (by rw [hc]; decide)]
    iterate 9 walk1
    rw [one_eq c 34 _ (by decide), if_neg (by rw [hc]; decide)]
    iterate 8 walk1
    rw [one_eq c 92 _ (by decide), if_pos (decide_eq_true hc)]
    iterate 7 walk1
    rename Fr _ _ _ _ => F
    rename News _ _ _ _ => N
    show wpAny _ _ (call (.ref 35) [.ref M.x2]) _ _ _
    refine readCh ok hq hit hA (dpt hdp (by decide)) X T F N hrem₁.tail ?_
    clear F N
    intro h' tk' t' tl' tp' F' N'
    dsimp only [Mc.cl, Mc.top, Mc.bot] at N'
    simp only [List.cons_append, List.nil_append] at N'
    dsimp only
    iterate 7 walk1
    refine PyProof.Rows.iadd_str ?_ (by show 0 + 1 ≤ _; rw [sizeLine_eq]; omega)
    intro t4 k4
    rw [show (⟨#[]⟩ : Str) ++ ⟨#[c₂]⟩ = ⟨[c₂].toArray⟩ from rfl]
    walk1
    have hrem₃ := hrem₁.tail.tail
    refine wpAny_execs_cons (wpAny_For ?_)
    walk1
    rename Fr _ _ _ _ => F
    rename News _ _ _ _ => N
    refine ci_pyIter (N _ (List.mem_cons_self ..)).1 rfl ?_
    refine for_cit (fun n s' => ∃ r₁ t₁ tok, n = r₁.length ∧ UT r₁ t₁ r' ∧ c₂ :: t₂ = tok ++ t₁ ∧ St w M text g L it q npb line r s r₁ tok s') ?_ _ ⟨r₂, _, [c₂], rfl, hu, rfl, St.mk' hrem₃ F rfl rfl rfl N (by rw [nl_one c (c₂ :: r₂), nl_one c₂ r₂]; omega)⟩
    clear F N
    rintro n s' ⟨r₁, t₁, tok, rfl, hl₁, hte, m₂, h₂, tk₂, tl₂, tp₂, t02, u2, rfl, hrem₂, F₁, hs₁, hf₁, ht₁, N₁⟩
    rw [hte] at hQ hlx
    cases hl₁ with
    | @fin c' _ hw =>
      refine nextCh ok hq hit hA (dpt hdp (by decide)) X T F₁ N₁ hrem₂ ?_
      intro h' tk' t' tl' tp' F' N'
      rw [nf3 hs₁ hf₁ ht₁] at F'
      clear F₁ N₁
      dsimp only [Mc.cl, Mc.top, Mc.bot] at N'
      simp only [List.cons_append, List.nil_append] at N'
      dsimp only
      iterate 9 walk1
      refine in_str ?_
      rw [ws_in]
      walk1
      rw [if_pos hw]
      iterate 4 walk1
      rename Fr _ _ _ _ => F
      rename News _ _ _ _ => N
      simp only [List.append_nil] at hQ
      rw [show line + (cnt r - cnt r') = line + (cnt r - cnt (c' :: r')) + nl ⟨#[c']⟩ from by rw [nl_one c' r']; omega] at hQ
      exact hQ _ _ _ _ _ (Kp.of_fr F) (fun p hp => Own.of_news N p (List.mem_append_right [_, _] hp))
    | @esc c₂ r₃ t₃ _ hqt' =>
      obtain ⟨c', hc'⟩ : ∃ c : Nat, c = 92 := ⟨92, rfl⟩
      rw [← hc'] at hrem₂ N₁
      refine nextCh ok hq hit hA (dpt hdp (by decide)) X T F₁ N₁ hrem₂ ?_
      intro h' tk' t' tl' tp' F' N'
      rw [nf3 hs₁ hf₁ ht₁] at F'
      clear F₁ N₁
      dsimp only [Mc.cl, Mc.top, Mc.bot] at N'
      simp only [List.cons_append, List.nil_append] at N'
      dsimp only
      iterate 9 walk1
      refine in_str ?_
      rw [ws_in]
      walk1
      rw [if_neg (by rw [hc']; decide)]
      iterate 8 walk1
      rw [one_eq c' 92 _ (by decide), if_pos (decide_eq_true hc')]
      iterate 7 walk1
      rename Fr _ _ _ _ => F
      rename News _ _ _ _ => N
      show wpAny _ _ (call (.ref 35) [.ref M.x2]) _ _ _
      refine readCh ok hq hit hA (dpt hdp (by decide)) X T F N hrem₂.tail ?_
      clear F N
      intro h' tk' t' tl' tp' F' N'
      dsimp only [Mc.cl, Mc.top, Mc.bot] at N'
      simp only [List.cons_append, List.nil_append] at N'
      dsimp only
      iterate 8 walk1
      have hsh := hlx.short.1
      have hlen := hrem.len
      rw [List.length_append] at hsh
      refine PyProof.Rows.iadd_str ?_ (by show tok.toArray.size + 1 ≤ _; rw [List.size_toArray, sizeLine_eq]; omega)
      intro t4 k4
      rw [one_app]
      iterate 2 walk1
      rename Fr _ _ _ _ => F
      rename News _ _ _ _ => N
      exact ⟨_, by rw [List.length_cons, List.length_cons]; omega, r₃, t₃, tok ++ [c₂], rfl, hqt', by rw [hte, List.append_assoc]; rfl, St.mk' hrem₂.tail.tail F rfl rfl rfl N (by rw [nl_one c' (c₂ :: r₃), nl_one c₂ r₃]; omega)⟩
    | @ch c' r₃ t₃ _ h1 h2 hqt' =>
      refine nextCh ok hq hit hA (dpt hdp (by decide)) X T F₁ N₁ hrem₂ ?_
      intro h' tk' t' tl' tp' F' N'
      rw [nf3 hs₁ hf₁ ht₁] at F'
      clear F₁ N₁
      dsimp only [Mc.cl, Mc.top, Mc.bot] at N'
      simp only [List.cons_append, List.nil_append] at N'
      dsimp only
      iterate 9 walk1
      refine in_str ?_
      rw [ws_in]
      walk1
      rw [if_neg (by rw [h1]; decide)]
      iterate 8 walk1
      rw [one_eq c' 92 _ (by decide), if_neg (by simpa using h2)]
      iterate 7 walk1
      have hsh := hlx.short.1
      have hlen := hrem.len
      rw [List.length_append] at hsh
      refine PyProof.Rows.iadd_str ?_ (by show tok.toArray.size + 1 ≤ _; rw [List.size_toArray, sizeLine_eq]; omega)
      intro t4 k4
      rw [one_app]
      iterate 2 walk1
      rename Fr _ _ _ _ => F
      rename News _ _ _ _ => N
      exact ⟨_, Nat.lt_succ_self _, r₃, t₃, tok ++ [c'], rfl, hqt', by rw [hte, List.append_assoc]; rfl, St.mk' hrem₂.tail F rfl rfl rfl N (by rw [nl_one c' r₃]; omega)⟩
  | @ch c r₂ t₂ _ h1 h2 h3 hu =>
    refine nextCh ok hq hit hA (dpt hdp (by decide)) X T F₁ N₁ hrem₁ ?_
    intro h' tk' t' tl' tp' F' N'
    rw [nf3 hs₁ hf₁ ht₁] at F'
    clear F₁ N₁
    dsimp only [Mc.cl, Mc.top, Mc.bot] at N'
    simp only [List.cons_append, List.nil_append] at N'
    dsimp only
    iterate 9 walk1
    refine in_str ?_
    rw [ws_in]
    walk1
    rw [if_neg (by rw [h1]; decide)]
    iterate 9 walk1
    rw [one_eq c 34 _ (by decide), if_neg (by simpa using h2)]
    iterate 8 walk1
    rw [one_eq c 92 _ (by decide), if_neg (by simpa using h3)]
    iterate 6 walk1
    refine PyProof.Rows.iadd_str ?_ (by show 0 + 1 ≤ _; rw [sizeLine_eq]; omega)
    intro t4 k4
    rw [show (⟨#[]⟩ : Str) ++ ⟨#[c]⟩ = ⟨[c].toArray⟩ from rfl]
    walk1
    have hrem₃ := hrem₁.tail
    refine wpAny_execs_cons (wpAny_For ?_)
    walk1
    rename Fr _ _ _ _ => F
    rename News _ _ _ _ => N
    refine ci_pyIter (N _ (List.mem_cons_self ..)).1 rfl ?_
    refine for_cit (fun n s' => ∃ r₁ t₁ tok, n = r₁.length ∧ UT r₁ t₁ r' ∧ c :: t₂ = tok ++ t₁ ∧ St w M text g L it q npb line r s r₁ tok s') ?_ _ ⟨r₂, _, [c], rfl, hu, rfl, St.mk' hrem₃ F rfl rfl rfl N (by rw [nl_one c r₂]; omega)⟩
    clear F N
    rintro n s' ⟨r₁, t₁, tok, rfl, hl₁, hte, m₂, h₂, tk₂, tl₂, tp₂, t02, u2, rfl, hrem₂, F₁, hs₁, hf₁, ht₁, N₁⟩
    rw [hte] at hQ hlx
    cases hl₁ with
    | @fin c' _ hw =>
      refine nextCh ok hq hit hA (dpt hdp (by decide)) X T F₁ N₁ hrem₂ ?_
      intro h' tk' t' tl' tp' F' N'
      rw [nf3 hs₁ hf₁ ht₁] at F'
      clear F₁ N₁
      dsimp only [Mc.cl, Mc.top, Mc.bot] at N'
      simp only [List.cons_append, List.nil_append] at N'
      dsimp only
      iterate 9 walk1
      refine in_str ?_
      rw [ws_in]
      walk1
      rw [if_pos hw]
      iterate 4 walk1
      rename Fr _ _ _ _ => F
      rename News _ _ _ _ => N
      simp only [List.append_nil] at hQ
      rw [show line + (cnt r - cnt r') = line + (cnt r - cnt (c' :: r')) + nl ⟨#[c']⟩ from by rw [nl_one c' r']; omega] at hQ
      exact hQ _ _ _ _ _ (Kp.of_fr F) (fun p hp => Own.of_news N p (List.mem_append_right [_, _] hp))
    | @esc c₂ r₃ t₃ _ hqt' =>
      obtain ⟨c', hc'⟩ : ∃ c : Nat, c = 92 := ⟨92, rfl⟩
      rw [← hc'] at hrem₂ N₁
      refine nextCh ok hq hit hA (dpt hdp (by decide)) X T F₁ N₁ hrem₂ ?_
      intro h' tk' t' tl' tp' F' N'
      rw [nf3 hs₁ hf₁ ht₁] at F'
      clear F₁ N₁
      dsimp only [Mc.cl, Mc.top, Mc.bot] at N'
      simp only [List.cons_append, List.nil_append] at N'
      dsimp only
      iterate 9 walk1
      refine in_str ?_
      rw [ws_in]
      walk1
      rw [if_neg (by rw [hc']; decide)]
      iterate 8 walk1
      rw [one_eq c' 92 _ (by decide), if_pos (decide_eq_true hc')]
      iterate 7 walk1
      rename Fr _ _ _ _ => F
      rename News _ _ _ _ => N
      show wpAny _ _ (call (.ref 35) [.ref M.x2]) _ _ _
      refine readCh ok hq hit hA (dpt hdp (by decide)) X T F N hrem₂.tail ?_
      clear F N
      intro h' tk' t' tl' tp' F' N'
      dsimp only [Mc.cl, Mc.top, Mc.bot] at N'
      simp only [List.cons_append, List.nil_append] at N'
      dsimp only
      iterate 8 walk1
      have hsh := hlx.short.1
      have hlen := hrem.len
      rw [List.length_append] at hsh
      refine PyProof.Rows.iadd_str ?_ (by show tok.toArray.size + 1 ≤ _; rw [List.size_toArray, sizeLine_eq]; omega)
      intro t4 k4
      rw [one_app]
      iterate 2 walk1
      rename Fr _ _ _ _ => F
      rename News _ _ _ _ => N
      exact ⟨_, by rw [List.length_cons, List.length_cons]; omega, r₃, t₃, tok ++ [c₂], rfl, hqt', by rw [hte, List.append_assoc]; rfl, St.mk' hrem₂.tail.tail F rfl rfl rfl N (by rw [nl_one c' (c₂ :: r₃), nl_one c₂ r₃]; omega)⟩
    | @ch c' r₃ t₃ _ h1 h2 hqt' =>
      refine nextCh ok hq hit hA (dpt hdp (by decide)) X T F₁ N₁ hrem₂ ?_
      intro h' tk' t' tl' tp' F' N'
      rw [nf3 hs₁ hf₁ ht₁] at F'
      clear F₁ N₁
      dsimp only [Mc.cl, Mc.top, Mc.bot] at N'
      simp only [List.cons_append, List.nil_append] at N'
      dsimp only
      iterate 9 walk1
      refine in_str ?_
      rw [ws_in]
      walk1
      rw [if_neg (by rw [h1]; decide)]
      iterate 8 walk1
      rw [one_eq c' 92 _ (by decide), if_neg (by simpa using h2)]
      iterate 7 walk1
      have hsh := hlx.short.1
      have hlen := hrem.len
      rw [List.length_append] at hsh
      refine PyProof.Rows.iadd_str ?_ (by show tok.toArray.size + 1 ≤ _; rw [List.size_toArray, sizeLine_eq]; omega)
      intro t4 k4
      rw [one_app]
      iterate 2 walk1
      rename Fr _ _ _ _ => F
      rename News _ _ _ _ => N
      exact ⟨_, Nat.lt_succ_self _, r₃, t₃, tok ++ [c'], rfl, hqt', by rw [hte, List.append_assoc]; rfl, St.mk' hrem₂.tail F rfl rfl rfl N (by rw [nl_one c' r₃]; omega)⟩
end Mine
end

section
theorem Mine.freshP1 : True := by
  w_top off
  trivial
open PySem PySem.W PyProof.Rows PySem.Calls PySem.Spec
namespace Mine
set_option maxRecDepth 100000
set_option maxHeartbeats 4000000
/-- a lexer and its line -/
abbrev lexL (w : World) (k1 k2 k3 k4 tl tw : Tok) (x d pb : Nat) (st : Value) (line : Int) (its : Array Value) (n : Nat) : List (Addr × Obj) :=
  [(pb, W.listOf its n), (x, instObj 52 d), (d, dictOf (lexD w k1 k2 k3 k4 line tl st tw pb) 4)]
section
variable {w : World} {A : Around} {s : Shared} {g : Heap} {loose : List Str} {mean : ExcName → Option Value} {mg mb : Str → Option Value} {Q : Value → Shared → Prop} {E : Value → Shared → Prop}
  {k1 k2 k3 k4 tl tw : Tok} {x d pb n : Nat} {st v : Value} {line : Int} {its : Array Value}
theorem pushTok (hdx : d < x) (hxp : x < pb) (hs : its.size + 1 ≤ 1000000)
   (hA : A.handled = none) (hdp : A.depth + 4 < recursionLimit) (X : (hd.heap_39 w.params).In g) (T : Top topProg loose mean mg mb g) (hK : Kp g s.heap) (hO : Own g s.heap (lexL w k1 k2 k3 k4 tl tw x d pb st line its n))
   (hQ : ∀ h' tk, Kp g h' → Own g h' (lexL w k1 k2 k3 k4 tl tw x d pb st line (its.push v) (n + 1)) → Q .none { s with heap := h', toks := tk }) :
   wpAny (model PySem.Challenge.rw_pe0049_01.row.prog w) A (call (.ref 49) [.ref x, v]) Q E s := by
  revert X; k_fill; intro X
  refine' enterK (binds := [(Str.ofString "self", .ref x), (Str.ofString "token", v)]) hK hO X T ?k6 ?k7 ?k8 ?k9 ?kB ?_ ?c5 ?c2 ?c3 ?c4
  case k6 => k_is
  case k7 => k_is
  case k8 => exact Nat.lt_of_le_of_lt (Nat.le_add_right _ _) hdp
  case k9 => exact BindsTo.of_eq rfl
  case kB => exact locs rfl
  case c5 => decide
  case c2 => exact rfl
  case c3 => exact rfl
  case c4 => exact rfl
  intro L h1 F N lt
  dsimp only [lexL] at N lt
  k_lt lt
  iterate 14 walk1
  rename Fr _ _ _ _ => F
  rename News _ _ _ _ => N
  exact hQ _ _ (Kp.of_fr F) (Own.of_news N)
theorem popTok {vs : List Value} (hdx : d < x) (hxp : x < pb) (hs : vs.length + 1 ≤ 1000000)
   (hA : A.handled = none) (hdp : A.depth + 4 < recursionLimit) (X : (hd.heap_39 w.params).In g) (T : Top topProg loose mean mg mb g) (hK : Kp g s.heap) (hO : Own g s.heap (lexL w k1 k2 k3 k4 tl tw x d pb st line ⟨v :: vs⟩ n))
   (hQ : ∀ h' tk, Kp g h' → Own g h' (lexL w k1 k2 k3 k4 tl tw x d pb st line ⟨vs⟩ (n + 1)) → Q v { s with heap := h', toks := tk }) :
   wpAny (model PySem.Challenge.rw_pe0049_01.row.prog w) A (call (.ref 42) [.ref x]) Q E s := by
  revert X; k_fill; intro X
  refine' enterK (binds := [(Str.ofString "self", .ref x)]) hK hO X T ?k6 ?k7 ?k8 ?k9 ?kB ?_ ?c5 ?c2 ?c3 ?c4
  case k6 => k_is
  case k7 => k_is
  case k8 => exact Nat.lt_of_le_of_lt (Nat.le_add_right _ _) hdp
  case k9 => exact BindsTo.of_eq rfl
  case kB => exact locs rfl
  case c5 => decide
  case c2 => exact rfl
  case c3 => exact rfl
  case c4 => exact rfl
  intro L h1 F N lt
  dsimp only [lexL] at N lt
  k_lt lt
  iterate 20 walk1
  rename Fr _ _ _ _ => F
  rename News _ _ _ _ => N
  refine' kl_popAt (its := ⟨v :: vs⟩) (n := n) (p := []) (q := vs) (y := v) (k := 0) F N rfl ?kk rfl ?U ?kz ?kq
  case kk =>
    show seqIndex? 0 (vs.length + 1) = some 0
    unfold seqIndex?
    simp
  case U => k_upd
  case kz =>
    show vs.length + 1 ≤ _
    rw [sizeLine_eq]; omega
  clear F N
  intro h' F N
  exact hQ _ _ (Kp.of_fr F) (Own.of_news N)
end
end Mine
end

section
theorem Mine.freshWd : True := by
  w_top off
  trivial
open PySem PySem.W PyProof.Rows PySem.Calls PySem.Spec
namespace Mine
def endsL : List Nat := [97, 98, 35, 39]
def betwL : List Nat := [97, 34, 92, 32, 10, 9]
def edgeL : List Nat := [32, 10, 9, 13]
def sg (l : List Nat) (i : Nat) : Nat := l.getD i 0
def midL (x n : Nat) : List Nat := [sg betwL (x / 384 % 6), sg betwL (x / 2304 % 6)].take n
def wordL (x : Nat) : List Nat := sg endsL (x / 8 % 4) :: (midL x (x / 128 % 3) ++ [sg endsL (x / 32 % 4)])
theorem fdm (x a b : Nat) : (((x : Int).fdiv (a : Int)).fmod (b : Int)) = ((x / a % b : Nat) : Int) := by
  rw [Int.fdiv_eq_ediv_of_nonneg _ (by omega), Int.fmod_eq_emod_of_nonneg _ (by omega)]; push_cast; rfl
theorem fm_ (x b : Nat) : ((x : Int).fmod (b : Int)) = ((x % b : Nat) : Int) := by
  rw [Int.fmod_eq_emod_of_nonneg _ (by omega)]; push_cast; rfl
theorem fd_ (x b : Nat) : ((x : Int).fdiv (b : Int)) = ((x / b : Nat) : Int) := by
  rw [Int.fdiv_eq_ediv_of_nonneg _ (by omega)]; push_cast; rfl
theorem item_ends {i : Nat} (h : i < 4) : Txt.item (Str.ofString "ab#'") (i : Int) = ⟨#[sg endsL i]⟩ := by
  match i, h with
  | 0, _ => decide
  | 1, _ => decide
  | 2, _ => decide
  | 3, _ => decide
theorem item_edge {i : Nat} (h : i < 4) : Txt.item (Str.ofString " \n\t\r") (i : Int) = ⟨#[sg edgeL i]⟩ := by
  match i, h with
  | 0, _ => decide
  | 1, _ => decide
  | 2, _ => decide
  | 3, _ => decide
theorem item_betw {i : Nat} (h : i < 6) : Txt.item (Str.ofString "a\"\\ \n\t") (i : Int) = ⟨#[sg betwL i]⟩ := by
  match i, h with
  | 0, _ => decide
  | 1, _ => decide
  | 2, _ => decide
  | 3, _ => decide
  | 4, _ => decide
  | 5, _ => decide
theorem ends8 (x : Nat) : Txt.item (Str.ofString "ab#'") (((x : Int).fdiv 8).fmod 4) = ⟨#[sg endsL (x / 8 % 4)]⟩ := (congrArg (Txt.item _) (fdm x 8 4)).trans (item_ends (Nat.mod_lt _ (by decide)))
theorem ends32 (x : Nat) : Txt.item (Str.ofString "ab#'") (((x : Int).fdiv 32).fmod 4) = ⟨#[sg endsL (x / 32 % 4)]⟩ := (congrArg (Txt.item _) (fdm x 32 4)).trans (item_ends (Nat.mod_lt _ (by decide)))
theorem edge2 (x : Nat) : Txt.item (Str.ofString " \n\t\r") (((x : Int).fdiv 2).fmod 4) = ⟨#[sg edgeL (x / 2 % 4)]⟩ := (congrArg (Txt.item _) (fdm x 2 4)).trans (item_edge (Nat.mod_lt _ (by decide)))
theorem betw384 (x : Nat) : Txt.item (Str.ofString "a\"\\ \n\t") (((x : Int).fdiv 384).fmod 6) = ⟨#[sg betwL (x / 384 % 6)]⟩ := (congrArg (Txt.item _) (fdm x 384 6)).trans (item_betw (Nat.mod_lt _ (by decide)))
theorem betw2304 (x : Nat) : Txt.item (Str.ofString "a\"\\ \n\t") (((x : Int).fdiv 2304).fmod 6) = ⟨#[sg betwL (x / 2304 % 6)]⟩ := (congrArg (Txt.item _) (fdm x 2304 6)).trans (item_betw (Nat.mod_lt _ (by decide)))
theorem mid_succ {x k : Nat} (h : k < 2) : midL x k ++ [sg betwL (x / (if k = 0 then 384 else 2304) % 6)] = midL x (k + 1) := by
  match k, h with
  | 0, _ => rfl
  | 1, _ => rfl
theorem mix1 {a k : Str} {v v' c : Option Value} {u m : Str → Option Value} :
    (fun y => if y = a then v else if y = k then c else if y = a then v' else mixM [k] u m y) = fun y => if y = a then v else mixM [k] (fun z => if z = k then c else u z) m y := by
  funext y
  by_cases h : y = a
  · simp only [if_pos h]
  · simp only [if_neg h]
    by_cases h2 : y = k
    · simp [mixM, h2]
    · simp [mixM, h2]
end Mine
end

section
theorem Mine.freshW1 : True := by
  w_top off
  trivial
open PySem PySem.W PyProof.Rows PySem.Calls PySem.Spec
namespace Mine
set_option maxRecDepth 100000
set_option maxHeartbeats 4000000
section
variable {w : World} {A : Around} {s : Shared} {g : Heap} {loose : List Str} {mean : ExcName → Option Value} {mg mb : Str → Option Value} {Q : Value → Shared → Prop} {E : Value → Shared → Prop}
theorem lw {x : Nat} {t : Tok} (hx : x ≤ 100000000)
   (hA : A.handled = none) (hdp : A.depth + 4 < recursionLimit) (X : (hd.heap_39 w.params).In s.heap) (T : Top topProg loose mean mg mb s.heap)
   (hQ : ∀ h' tk u, Kp s.heap h' → Q (.str ⟨(wordL x).toArray⟩ u) { s with heap := h', toks := tk }) :
   wpAny (model PySem.Challenge.rw_pe0049_01.row.prog w) A (call (.ref 75) [.int x t]) Q E s := by
  revert X; k_fill; intro X
  refine' enterK (g := s.heap) (l := []) (binds := [(Str.ofString "x", .int x t)]) ⟨fun _ _ h => h, Nat.le_refl _⟩ (fun _ h => nomatch h) X T ?k6 ?k7 ?k8 ?k9 ?kB ?_ ?c5 ?c2 ?c3 ?c4
  case k6 => k_is
  case k7 => k_is
  case k8 => exact Nat.lt_of_le_of_lt (Nat.le_add_right _ _) hdp
  case k9 => exact BindsTo.of_eq rfl
  case kB => exact locs rfl
  case c5 => decide
  case c2 => exact rfl
  case c3 => exact rfl
  case c4 => exact rfl
  intro L h1 F N lt
  iterate 22 walk1
  rename Fr _ _ _ _ => F
  rename News _ _ _ _ => N
  rename (_ ∧ _) => hjunk
  clear hjunk
  dsimp only at F ⊢
  rw [ends8 x] at F
  refine wpAny_execs_cons (For_invV s.heap rfl rfl ?_)
  iterate 12 walk1
  rw [show (((x : Int).fdiv 128).fmod 3) = ((x / 128 % 3 : Nat) : Int) from fdm x 128 3]
  have hn : x / 128 % 3 < 3 := Nat.mod_lt _ (by decide)
  generalize hne : x / 128 % 3 = n at hn ⊢
  walk1
  rename IsRange _ _ _ _ _ _ _ _ => hr
  rename Fr _ _ _ _ => F
  rename News _ _ _ _ => N
  refine iter_rangeJ (n := n) (fun i m news => ∃ u b, m = (fun y => if y = Str.ofString "word" then some (.str ⟨(sg endsL (x / 8 % 4) :: midL x i).toArray⟩ b) else mixM [Str.ofString "k"] u (fun y => if y = Str.ofString "between" then some (Value.str (Str.ofString "a\"\\ \n\t") (tk + 1 + 1))
      else if y = Str.ofString "ends" then some (Value.str (Str.ofString "ab#'") tk) else List.lookup y [(Str.ofString "x", Value.int (↑x) t)].reverse) y) ∧ news = [])
    hA hr (small_range (by omega) (by omega) (by omega) (by omega) (by omega) (by omega)) ((rangeSize_one (by omega)).trans (by omega)) F N ⟨_, _, by rw [← mix_self]; rfl, rfl⟩ ?_ ?_
  · rintro i t m₁ news₁ h tk own hi hadr hoff ⟨u, b, rfl, rfl⟩ F₁ N₁
    clear F N hr
    rcases (show i = 0 ∨ i = 1 by omega) with rfl | rfl
    · rw [show (0 + ((0 : Nat) : Int) * 1) = 0 from rfl] at F₁
      iterate 24 walk1
      rw [betw384 x, one_app, List.cons_append, show midL x 0 ++ [sg betwL (x / 384 % 6)] = midL x (0 + 1) from rfl]
      walk1
      rename Fr _ _ _ _ => F
      rename News _ _ _ _ => N
      refine wpAny_execs_nil ?_
      show InvEndN _ _ _ _ _ _ _
      exact InvEndN.intro (nx := []) F N ⟨_, _, mix1, rfl⟩ rfl (fun p hp => nomatch hp) (fun p hp => List.mem_cons_of_mem _ hp)
    · rw [show (0 + ((1 : Nat) : Int) * 1) = 1 from rfl] at F₁
      iterate 24 walk1
      rw [betw2304 x, one_app, List.cons_append, show midL x 1 ++ [sg betwL (x / 2304 % 6)] = midL x (1 + 1) from rfl]
      walk1
      rename Fr _ _ _ _ => F
      rename News _ _ _ _ => N
      refine wpAny_execs_nil ?_
      show InvEndN _ _ _ _ _ _ _
      exact InvEndN.intro (nx := []) F N ⟨_, _, mix1, rfl⟩ rfl (fun p hp => nomatch hp) (fun p hp => List.mem_cons_of_mem _ hp)
  · rintro m₁ news₁ h3 tk3 ⟨u', b', rfl, rfl⟩ F₃ N₃
    refine wpAny_execs_cons ?_
    clear F N hr
    dsimp only
    iterate 13 walk1
    rw [ends32 x]
    rename Fr _ _ _ _ => F
    have hml : (midL x n).length ≤ 2 := by unfold midL; rw [List.length_take]; simp; omega
    refine PyProof.Rows.add_str ?_ (by show (sg endsL (x / 8 % 4) :: midL x n).toArray.size + 1 ≤ _; rw [List.size_toArray, List.length_cons, sizeLine_eq]; omega)
    intro t4 k4
    rw [one_app, List.cons_append]
    unfold wordL at hQ
    rw [hne] at hQ
    exact hQ _ _ _ (Kp.of_fr F)
end
end Mine
end

section
theorem Mine.freshUt : True := by
  w_top off
  trivial
open PySem PySem.W PyProof.Rows PySem.Calls PySem.Spec
namespace Mine
theorem Nafter {g h h' : Heap} {L : Addr} {news : List (Addr × Obj)} (N : News g L h news) (hk : ∀ b o, h.get? b = some o → h'.get? b = some o) : News g L h' news :=
  fun p hp => ⟨hk _ _ (N p hp).1, (N p hp).2⟩
theorem cut {prog : Program} {w : World} {A : Around} {s : Shared} {env : Env} {st : Stmt} {rest : List Stmt} {Q : Flow → Shared → Prop} {E : Value → Shared → Prop} (P : Shared → Prop)
    (h : wpAny (model prog w) A (exec st env) (fun f s' => f = .next ∧ P s') (fun _ _ => False) s)
    (k : ∀ s', P s' → wpAny (model prog w) A (execs rest env) Q E s') : wpAny (model prog w) A (execs (st :: rest) env) Q E s := by
  refine wpAny_execs_cons (wpAny_mono h (fun f s' hp => ?_) fun _ _ x => x.elim)
  obtain ⟨rfl, hp⟩ := hp
  exact k _ hp
theorem fmod2 (x : Nat) : ((x : Int).fmod 2) = ((x % 2 : Nat) : Int) := fm_ x 2
def joinL : List Nat → List Nat
  | [] => []
  | [c] => [c]
  | c :: l => c :: 92 :: joinL l
theorem joinL_cons (c d : Nat) (l : List Nat) : joinL (c :: d :: l) = c :: 92 :: joinL (d :: l) := rfl
theorem joinL_len (l : List Nat) : (joinL l).length ≤ 2 * l.length := by
  induction l with
  | nil => simp [joinL]
  | cons c l ih =>
    cases l with
    | nil => simp [joinL]
    | cons d l => rw [joinL_cons]; simp only [List.length_cons] at *; omega
theorem join_signs (l : List Nat) : Txt.join (Str.ofString "\\") (signs ⟨l.toArray⟩) = ⟨(joinL l).toArray⟩ := by
  show Builtin.Str.glued _ _ = _
  rw [StrLaws.glued_eq_join]
  unfold signs
  simp only []
  induction l with
  | nil => rfl
  | cons c l ih =>
    cases l with
    | nil => rfl
    | cons d l =>
      rw [joinL_cons]
      simp only [List.map_cons] at ih ⊢
      rw [PyProof.Rows.join_cons_cons, ih]
      show Str.mk ((#[c] ++ #[92]) ++ _) = _
      simp
end Mine
end

section
theorem Mine.freshW2 : True := by
  w_top off
  trivial
open PySem PySem.W PyProof.Rows PySem.Calls PySem.Spec
namespace Mine
set_option maxRecDepth 100000
set_option maxHeartbeats 4000000
def edge (x : Nat) : Nat := if x % 2 = 0 then 34 else sg edgeL (x / 2 % 4)
theorem edge_even {x : Nat} (h : x % 2 = 0) : edge x = 34 := if_pos h
theorem edge_odd {x : Nat} (h : ¬ x % 2 = 0) : edge x = sg edgeL (x / 2 % 4) := if_neg h
def writL (x : Nat) : List Nat := edge x :: (joinL (wordL x) ++ [edge x])
section
variable {w : World} {A : Around} {s : Shared} {g : Heap} {loose : List Str} {mean : ExcName → Option Value} {mg mb : Str → Option Value} {Q : Value → Shared → Prop} {E : Value → Shared → Prop}
theorem lwr {x : Nat} {t : Tok} (hx : x ≤ 100000000)
   (hA : A.handled = none) (hdp : A.depth + 8 < recursionLimit) (X : (hd.heap_39 w.params).In s.heap) (T : Top topProg loose mean mg mb s.heap)
   (hQ : ∀ h' tk u, Kp s.heap h' → Q (.str ⟨(writL x).toArray⟩ u) { s with heap := h', toks := tk }) :
   wpAny (model PySem.Challenge.rw_pe0049_01.row.prog w) A (call (.ref 82) [.int x t]) Q E s := by
  revert X; k_fill; intro X
  refine' enterK (g := s.heap) (l := []) (binds := [(Str.ofString "x", .int x t)]) ⟨fun _ _ h => h, Nat.le_refl _⟩ (fun _ h => nomatch h) X T ?k6 ?k7 ?k8 ?k9 ?kB ?_ ?c5 ?c2 ?c3 ?c4
  case k6 => k_is
  case k7 => k_is
  case k8 => exact Nat.lt_of_le_of_lt (Nat.le_add_right _ _) hdp
  case k9 => exact BindsTo.of_eq rfl
  case kB => exact locs rfl
  case c5 => decide
  case c2 => exact rfl
  case c3 => exact rfl
  case c4 => exact rfl
  intro L h1 F N lt
  refine cut (fun s' => ∃ h tk u, s' = { s with heap := h, toks := tk } ∧ Fr s.heap L h (fun y => if y = Str.ofString "edge" then some (.str ⟨#[edge x]⟩ u) else List.lookup y [(Str.ofString "x", .int x t)].reverse) ∧ News s.heap L h []) ?_ ?_
  · iterate 10 walk1
    dsimp only
    have eb : (((x : Int).fmod 2) == 0) = decide (x % 2 = 0) := by
      rw [fmod2]
      by_cases he : x % 2 = 0
      · rw [he]; rfl
      · rw [decide_eq_false he, beq_eq_false_iff_ne]; omega
    rw [eb]
    by_cases he : x % 2 = 0
    · rw [if_pos (decide_eq_true he)]
      iterate 2 walk1
      rename Fr _ _ _ _ => F
      rename News _ _ _ _ => N
      rw [show Str.ofString "\"" = ⟨#[34]⟩ from by decide, ← edge_even he] at F
      exact ⟨rfl, _, _, _, rfl, F, N⟩
    · rw [if_neg (by simpa using he)]
      iterate 10 walk1
      rw [edge2 x, ← edge_odd he]
      walk1
      rename Fr _ _ _ _ => F
      rename News _ _ _ _ => N
      exact ⟨rfl, _, _, _, rfl, F, N⟩
  rintro s' ⟨h2, tk2, u2, rfl, F2, N2⟩
  clear F N
  iterate 20 walk1
  refine ⟨X.keeps F2.keep, lw hx hA (dpt hdp (by decide)) (X.keeps F2.keep) (T.keeps F2.keep) ?_⟩
  intro h3 tk3 u3 hk3
  have F3 := F2.after hk3.keep
  have N3 := Nafter N2 hk3.keep
  clear F2 N2
  dsimp only
  walk1
  have hwl : (wordL x).length ≤ 4 := by unfold wordL midL; simp only [List.length_cons, List.length_append, List.length_take, List.length_nil]; omega
  refine list_strD hA F3 N3 ?_ (by show (wordL x).toArray.size ≤ _; rw [List.size_toArray, sizeLine_eq]; omega)
  intro h4 tk4 ys F4 N4 hk4 _ hl _ hc
  walk1
  refine join_listW hl (StrsAre.of_carried hc) (by decide) ?_ ?_
  · have e : ∀ l : List Nat, ((l.map fun n => (⟨#[n]⟩ : Str)).map (·.length)).sum = l.length := by
      intro l; induction l with
      | nil => rfl
      | cons a l ih => simp only [List.map_cons, List.sum_cons, ih, List.length_cons, one_len]; omega
    show ((((wordL x).toArray.toList).map fun n => (⟨#[n]⟩ : Str)).map (·.length)).sum + (((wordL x).toArray.toList).map fun n => (⟨#[n]⟩ : Str)).length ≤ _
    rw [e, List.length_map]; show (wordL x).length + (wordL x).length ≤ _; omega
  intro u5 tk5
  rw [join_signs]
  have hjl := joinL_len (wordL x)
  refine PyProof.Rows.add_str ?_ (by show 1 + (joinL (wordL x)).toArray.size ≤ _; rw [List.size_toArray, sizeLine_eq]; omega)
  intro t6 k6
  walk1
  refine PyProof.Rows.add_str ?_ (by show (#[edge x] ++ (joinL (wordL x)).toArray).size + 1 ≤ _; rw [Array.size_append, sizeLine_eq]; show 1 + (joinL (wordL x)).length + 1 ≤ _; omega)
  intro t7 k7
  rw [show (⟨#[edge x]⟩ : Str) ++ ⟨(joinL (wordL x)).toArray⟩ ++ ⟨#[edge x]⟩ = ⟨(writL x).toArray⟩ from by
    show Str.mk ((#[edge x] ++ _) ++ _) = _
    unfold writL; simp]
  exact hQ _ _ _ (Kp.of_fr F4)
end
end Mine
end

section
theorem Mine.freshLc : True := by
  w_top off
  trivial
open PySem PySem.W PyProof.Rows PySem.Calls PySem.Spec
namespace Mine
open LCg
/-- what a comprehension goes over -/
def SrcX (prog : Program) (w : World) (A : Around) (h₀ : Heap) (L : Addr) (S : List (Addr × Obj) → Prop) (n : Nat) (P : Nat → Value → Prop) (xv : Value) (s₁ : Shared) : Prop :=
  ∀ (Q : Value → Shared → Prop) (E : Value → Shared → Prop), (∀ (o : Obj) (fp : List Addr) (St : Nat → Heap → Prop), Walks prog w A s₁.heap.objs.size fp [s₁.heap.objs.size] n P St → (∀ i h, St i h → ∃ o, h.get? s₁.heap.objs.size = some o) →
    (∀ i h h' o nw, St i h → h.get? s₁.heap.objs.size = some o → h'.get? s₁.heap.objs.size = some o → (∀ b o, h₀.get? b = some o → h'.get? b = some o) → News h₀ L h' nw → S nw → St i h') →
    St 0 (s₁.heap.push o) → (∀ b ∈ fp, b < (s₁.heap.push o).objs.size) → Q (.ref s₁.heap.objs.size) { s₁ with heap := s₁.heap.push o }) → wpAny (model prog w) A (pyIter xv) Q E s₁
section
variable {prog : Program} {w : World} {A : Around} {E : Value → Shared → Prop} {s : Shared} {h₀ : Heap} {L : Addr} {m : Str → Option Value} {env : Env} {news : List (Addr × Obj)}
theorem one_lt {h : Heap} {o : Obj} : ∀ b ∈ [h.objs.size], b < (h.push o).objs.size := fun b hb => by rw [List.mem_singleton.mp hb, Heap.size_push]; exact Nat.lt_succ_self _
theorem src_str {x : Str} {t : Tok} (hA : A.handled = none) : SrcX prog w A h₀ L (fun _ => True) x.cps.size (SignAt x) (.str x t) s := by
  intro Q E hQ
  cases ha : x.cps.all (· < 128)
  · exact wpAny_pyIter_wide ha (hQ _ _ _ (Walks.strWide hA _ x t) (fun i h st => let ⟨o, e, _⟩ := st; ⟨o, e⟩) (fun i h h' o nw st e e' _ _ _ => by obtain ⟨o', q, r⟩ := st; rw [e] at q; cases q; exact ⟨o, e', r⟩) ⟨_, Heap.get?_push_size _ rfl, rfl, rfl⟩ one_lt)
  · exact wpAny_pyIter_ascii ha (hQ _ _ _ (Walks.strAscii hA _ x t) (fun i h st => let ⟨o, e, _⟩ := st; ⟨o, e⟩) (fun i h h' o nw st e e' _ _ _ => by obtain ⟨o', q, r⟩ := st; rw [e] at q; cases q; exact ⟨o, e', r⟩) ⟨_, Heap.get?_push_size _ rfl, rfl, rfl⟩ one_lt)
theorem src_bytes {b : Array UInt8} {t : Tok} (hA : A.handled = none) : SrcX prog w A h₀ L (fun _ => True) b.size (fun i v => ∃ c t, b[i]? = some c ∧ v = .int (c.toNat : Int) t) (.bytes b t) s := by
  intro Q E hQ
  exact KBw.pyIter_bytes (hQ _ _ _ (KBw.walks hA _ b t) (fun i h st => let ⟨o, e, _⟩ := st; ⟨o, e⟩) (fun i h h' o nw st e e' _ _ _ => by obtain ⟨o', q, r⟩ := st; rw [e] at q; cases q; exact ⟨o, e', r⟩) ⟨_, Heap.get?_push_size _ rfl, rfl, rfl⟩ one_lt)
theorem src_list {a : Addr} {its : Array Value} (hA : A.handled = none) (F : Fr h₀ L s.heap m) (N : News h₀ L s.heap news) (hS : SrcAt h₀ a its news) : SrcX prog w A h₀ L (SrcAt h₀ a its) its.size (fun i v => its[i]? = some v) (.ref a) s := by
  intro Q E hQ
  have hl := hS.list F.keep N
  have hlt : a < s.heap.objs.size := by obtain ⟨_, e, _⟩ := hl; exact Heap.lt_size e
  refine wpAny_pyIter_list hl (hQ _ _ _ (Walks.list hA s.heap.objs.size a (Nat.ne_of_lt hlt) its) (fun i h st => by obtain ⟨o, e, _⟩ := st.1; exact ⟨o, e⟩) list_st ⟨⟨_, Heap.get?_push_size _ rfl, rfl, rfl⟩, hl.push _⟩ (fun b hb => ?_))
  rw [Heap.size_push]
  rcases List.mem_cons.mp hb with rfl | hb
  · exact Nat.lt_succ_self _
  · rw [List.mem_singleton.mp hb]; exact Nat.lt_succ_of_lt hlt
theorem src_range {r : Addr} {a b : Int} {t u v : Tok} {n : Nat} (hA : A.handled = none) (hr : IsRange s.heap r a b 1 t u v) (hsm : Builtin.Range.small a b 1 = true) (hn : Builtin.Range.rangeSize a b 1 = ((n : Nat) : Int)) :
    SrcX prog w A h₀ L (fun _ => True) n (fun i v => ∃ t, v = .int (a + (i : Int)) t) (.ref r) s := by
  intro Q E hQ
  exact wpAny_pyIter_range hr hsm (hQ _ _ _ (range_walks hA a n) (fun i h st => ⟨_, st⟩) range_st (by show IsRangeIter _ _ _ _ _; rw [hn]; simpa using Heap.get?_push_size _ rfl) one_lt)
/-- a comprehension by an invariant -/
theorem rest_inv {elt : Expr} {x : Str} {scope : Scope} {cl : List (Str × Addr)} {S : List (Addr × Obj) → Prop} {P : Nat → Value → Prop} {Fin : List Value → List (Addr × Obj) → Prop} {n : Nat} (J : Nat → List Value → List (Addr × Obj) → Prop)
    (turn : ∀ i ys news v I oI C oC D m₂ h tk (E' : Value → Shared → Prop), i < n → J i ys news → P i v → NsObj oC m₂ → m₂ x = some v → Fr h₀ L h m → News h₀ L h ((I, oI) :: (C, oC) :: (D, lst ys) :: news) → Off3 I C D news → ((@Ne Nat I C) ∧ (@Ne Nat I D) ∧ (@Ne Nat C D)) →
      wpAny (model prog w) A (eval elt (compEnvC scope cl C env)) (CompEnd h₀ L m { s with heap := h, toks := tk } I oI C oC D (lst ys) S (fun y news' => J (i + 1) (ys ++ [y]) news')) E' { s with heap := h, toks := tk })
    (fin : ∀ ys news, J n ys news → Fin ys news) (h0 : J 0 [] news) : CompRest prog w A h₀ L m env elt x scope cl s S P Fin n 0 [] news := by
  have key : ∀ (j i : Nat) (ys : List Value) (news : List (Addr × Obj)), i + j = n → J i ys news → CompRest prog w A h₀ L m env elt x scope cl s S P Fin j i ys news := by
    intro j
    induction j with
    | zero => intro i ys news hi hJ; exact CompRest.zero (fin ys news (by rw [← hi]; exact hJ))
    | succ j ih =>
      intro i ys news hi hJ
      refine CompRest.succ ?_
      intro v I oI C oC D m₂ h tk E' hv hC hx F N off ne
      refine wpAny_mono (turn i ys news v I oI C oC D m₂ h tk E' (by omega) hJ hv hC hx F N off ne) (fun y s₂ hq => ?_) fun _ _ e => e
      obtain ⟨h', tk', nw, e, F', N', off', hS, hn⟩ := hq
      exact ⟨h', tk', nw, e, F', N', off', hS, ih (i + 1) _ _ (by omega) hn⟩
  exact key n 0 [] news (by omega) h0
/-- after the source's value is told -/
def AtSrc (prog : Program) (w : World) (A : Around) (h₀ : Heap) (L : Addr) (m : Str → Option Value) (env : Env) (elt : Expr) (x : Str) (scope : Scope) (cl : List (Str × Addr)) (Fin : Shared → List Value → List (Addr × Obj) → Prop) (xv : Value) (s₁ : Shared) : Prop :=
  ∃ S n P news, SrcX prog w A h₀ L S n P xv s₁ ∧ n ≤ sizeLine ∧ Fr h₀ L s₁.heap m ∧ News h₀ L s₁.heap news ∧ S news ∧ ∀ g, CompRest prog w A h₀ L m env elt x scope cl { s₁ with heap := g } S P (Fin { s₁ with heap := g }) n 0 [] news
theorem lcE {elt iter : Expr} {x : Str} {px : Pos} {scope : Scope} {cl : List (Str × Addr)} {pos : Pos} {Q : Value → Shared → Prop}
    (hclos : closureFor scope env = pure cl) (hcell : ∀ y ∈ scope.names, y.2 ≠ .cell) (hkind : scope.kind = .function)
    (hnames : ∀ y ∈ scope.names, y.2 = .local → scope.names.lookup y.1 = some .local) (hx : scope.names.lookup x = some .local)
    (h : wpAny (model prog w) A (eval iter env) (AtSrc prog w A h₀ L m env elt x scope cl (fun s₂ => FinE h₀ L m s₂ Q)) E s)
    (hs : ∀ x, foldedSetIterable iter env x = pure x := by intro _; rfl) :
    wpAny (model prog w) A (eval (.ListComp elt [⟨.Name x px, iter, [], 0⟩] scope pos) env) Q E s := by
  rw [eval_ListComp]
  refine wpAny_comprehension_free (use := none) rfl hs hclos hkind hnames (wpAny_mono h (fun xv s₁ h₁ => ?_) fun _ _ e => e)
  obtain ⟨S, n, P, news, W, hsz, F, N, hS, R⟩ := h₁
  refine W _ _ (fun o fp St W hIo hSt hst hfp => ?_)
  have up : ∀ b o', s₁.heap.get? b = some o' → (s₁.heap.push o).get? b = some o' := fun b o' e => Heap.get?_push_of_some _ e
  refine block_U W hsz hIo hSt hcell hkind hx hst hfp (F.keeps up) (N.grown up) (Nat.ne_of_lt F.ns.lt) (next_is_new F) (fun p hp => Nat.ne_of_lt (Heap.lt_size (N p hp).1)) hS (R _) ?_
  intro D C h tk m' ys news' F' N' o1 hn hC₀ hD₀ hCL hDL hCD offC fin
  refine ⟨m', hn, fun h'' hs'' => fin D h'' tk (F'.change hs'' hCL hC₀) (fun p hp => ?_) o1⟩
  refine ⟨hs''.extBut _ _ ?_ (N' p hp).1, (N' p hp).2⟩
  rcases List.mem_cons.mp hp with rfl | hp
  · exact Ne.symm hCD
  · exact offC p hp
theorem lcA {elt iter : Expr} {x y : Str} {px py : Pos} {scope : Scope} {cl : List (Str × Addr)} {pos spos : Pos} {Q : Flow → Shared → Prop} (hLe : env.locals = L)
    (hsw : swapsWith (.ListComp elt [⟨.Name x px, iter, [], 0⟩] scope pos) (some (.Name y py)) spos.line env = pure true)
    (hclos : closureFor scope env = pure cl) (hcell : ∀ z ∈ scope.names, z.2 ≠ .cell) (hkind : scope.kind = .function)
    (hnames : ∀ z ∈ scope.names, z.2 = .local → scope.names.lookup z.1 = some .local) (hx : scope.names.lookup x = some .local)
    (hy : env.kindOf y = some .local) (hp : (env.scope.kind == .class || (env.scope.kind == .module && env.locals != env.globals)) = false)
    (h : wpAny (model prog w) A (eval iter env) (AtSrc prog w A h₀ L m env elt x scope cl (fun s₂ => FinA h₀ L m s₂ y Q)) E s)
    (hs : ∀ x, foldedSetIterable iter env x = pure x := by intro _; rfl) :
    wpAny (model prog w) A (exec (.Assign [.Name y py] (.ListComp elt [⟨.Name x px, iter, [], 0⟩] scope pos) spos) env) Q E s := by
  subst hLe
  rw [exec_Assign_Name_used _ _ _ _ hsw]
  refine wpAny_bind (wpAny_standAt (wpAny_bind ?_))
  show wpAny _ A (do let _ ← comprehension (.ListComp elt [⟨.Name x px, iter, [], 0⟩] scope pos) scope env _ (newList []) false (eval iter env) (some (assign (.Name y py) env))) _ _ s
  refine wpAny_bind (wpAny_mono (wpAny_comprehension_free (use := some (assign (.Name y py) env)) (Q := fun _ s' => Q .next s') rfl hs hclos hkind hnames
    (wpAny_mono h (fun xv s₁ h₁ => ?_) fun _ _ e => e)) (fun _ s' hq => wpAny_pure (wpAny_pure hq)) fun _ _ e => e)
  obtain ⟨S, n, P, news, W, hsz, F, N, hS, R⟩ := h₁
  refine W _ _ (fun o fp St W hIo hSt hst hfp => ?_)
  have up : ∀ b o', s₁.heap.get? b = some o' → (s₁.heap.push o).get? b = some o' := fun b o' e => Heap.get?_push_of_some _ e
  refine block_U W hsz hIo hSt hcell hkind hx hst hfp (F.keeps up) (N.grown up) (Nat.ne_of_lt F.ns.lt) (next_is_new F) (fun p hp => Nat.ne_of_lt (Heap.lt_size (N p hp).1)) hS (R _) ?_
  intro D C h' tk m' ys news' F' N' o1 hn hC₀ hD₀ hCL hDL hCD offC fin
  show wpAny _ A (assign (.Name y py) env (.ref D)) _ _ _
  refine wpAny_assign_Name (wpAny_storeName_local hy F'.ns (fun h₂ hn₂ hs₂ => ?_) hp)
  have hL₀ : h₀.get? env.locals = none := Heap.get?_none_of_le F'.above
  have F₂ : Fr h₀ env.locals h₂ (fun z => if z = y then some (.ref D) else m z) := ⟨hn₂, fun b o e => hs₂.extBut b o (fun q => by rw [q, hL₀] at e; cases e) (F'.keep b o e), F'.above⟩
  refine ⟨m', hn.sameBut hs₂ hCL, fun h'' hs'' => fin D h'' _ (F₂.change hs'' hCL hC₀) (fun p hp => ?_) o1⟩
  have z : h₂.get? p.1 = some p.2 := hs₂.extBut _ _ (N' p hp).2.1 (N' p hp).1
  refine ⟨hs''.extBut _ _ ?_ z, (N' p hp).2⟩
  rcases List.mem_cons.mp hp with rfl | hp
  · exact Ne.symm hCD
  · exact offC p hp
end
end Mine
end

section
theorem Mine.freshBa : True := by
  w_top off
  trivial
open PySem PySem.W PyProof.Rows PySem.Calls PySem.Spec
open PySem.Sem (wp)
set_option maxRecDepth 100000
namespace Mine
section
variable {prog : Program} {w : World} {A : Around} {E : Value → Shared → Prop} {s : Shared}
theorem codeC_builtin {id : String} {args : Args} {b : Builtin} {R : Result → Shared → Prop} (hh : holdIds.contains id = false) (hb : entryFor table id = some b)
    (h : wpC (model prog w) (A.under (.builtin id args)) (b args) (fun fin s' => match fin with | .done f => R (.ok f) s' | .again c' => c'.quiet = true ∧ codeC (model prog w) A c' R s') (fun e s' => R (.error e) s') s) :
    codeC (model prog w) A (.builtin id args) R s := by
  refine codeC_of_tree hh ?_
  show wpC _ _ (match entryFor table id with | some b => b args | none => unsupported ((withoutEnding? id "#data").getD id)) _ _ _
  rw [hb]; exact h
set_option maxHeartbeats 1000000
theorem callTypeC {T newId initId : String} {Bi : Builtin} {args : List Value} {Q Q₁ : Value → Shared → Prop} (ft : TypeCalled T newId initId)
    (hct : checkTypeCall T ⟨args, []⟩ = pure ()) (entryI : entryFor table initId = some Bi) (hhi : holdIds.contains initId = false)
    (hnew : codeAny (model prog w) A.in1 (.call (.builtin newId) ⟨.type T :: args, []⟩) (wants Q₁ E) s)
    (hnext : ∀ obj s₁, Q₁ obj s₁ → s₁.TypeIs obj T ∧ argsOk initId ⟨obj :: args, []⟩ ∧
      wpC (model prog w) A.in1.in1 (Bi ⟨obj :: args, []⟩)
        (fun fin s' => match fin with | .done f => wants (fun r s₂ => r = .none ∧ Q obj s₂) E (.ok f) s' | .again c' => False)
        (fun e s' => wants (fun r s₂ => r = .none ∧ Q obj s₂) E (.error e) s') s₁) :
    wpC (model prog w) A (call (.type T) args) Q E s := by
  obtain ⟨c, tl, hmro⟩ := ft.mro
  have hmade := ft.made
  have hsub := ft.sub
  have h1 := ft.notType
  have h2 := ft.canCreate
  refine wpC_call (codeC_of_tree rfl ?_)
  show wpC _ _ (callAny (.type T) _) _ _ _
  refine wpC_pure ⟨Code.quiet_builtin _ (by decide +kernel), codeC_builtin (by decide +kernel) F.entry_type_call ?_⟩
  rw [Around.under_plain (weight_type_call_type T args []) rfl]
  unfold Builtin.«type.__call__»
  dsimp only
  rw [if_neg (by rw [h1]; exact Bool.false_ne_true)]
  rw [if_neg (by rw [h2]; exact Bool.false_ne_true)]
  refine wpC_bind (.of_any (wpAny_of_eq hct ?_))
  refine wpC_bind (.of_any (wpAny_of_eq hmro ?_))
  refine wpC_if_false (by simp) ?_
  refine wpC_bind (.of_any (wpAny_of_eq hmade ?_))
  refine wpC_bind (wpC_pure ?_)
  refine wpC_bind (wpC_holding (.of_any (wpAny_call (codeAny_mono hnew fun r s₁ hr => ?_))))
  cases r with
  | error e => exact hr
  | ok fl =>
    cases fl with
    | ret obj =>
      obtain ⟨hT, hok, hsi⟩ := hnext _ _ hr
      refine wpC_bind (.of_any (wpAny_isInstance hT hsub ?_))
      refine wpC_if_false (by simp) ?_
      refine wpC_bind (wpC_holding ?_)
      unfold callSpecial?
      refine wpC_bind (.of_any (wpAny_specialOf hT ft.init.lookup ?_))
      refine wpC_holding (wpC_bind (.of_any (wpAny_of_eq (ft.init.bind obj) ?_)))
      refine wpC_bind (wpC_call (codeC_of_tree rfl ?_))
      show wpC _ _ (do checkBuiltinCall initId ⟨obj :: args, []⟩; again (.builtin initId ⟨obj :: args, []⟩)) _ _ _
      refine wpC_bind (.of_any (ft.init.check _ _ _ _ _ _ _ _ hT hok ?_))
      refine wpC_pure ⟨plainId_quiet ft.init.plain _, codeC_builtin hhi entryI ?_⟩
      rw [Around.under_plainId ft.init.plain _]
      refine wpC_mono hsi (fun fin s₂ hf => ?_) fun e s₂ he => he
      cases fin with
      | again c' => exact hf.elim
      | done f =>
        cases f with
        | ret r =>
          obtain ⟨rfl, hq⟩ := hf
          refine wpC_pure ?_
          dsimp only
          exact wpC_if_false (by simp) (wpC_pure hq)
        | _ => exact hf.elim
    | _ => exact hr.elim
end
theorem ba_mro : mroOf (.type "bytearray") = pure [.type "bytearray", .type "object"] := by rw [mroOf_type]; kernel_rfl
theorem ba_lookup_new : typeLookup (.type "bytearray") "__new__" = pure (some (.builtin "bytearray.__new__")) := by rw [typeLookup_type, builtinLookup_eq_fast]; kernel_rfl
theorem ba_slot_init : Slot "bytearray" "__init__" "bytearray.__init__" :=
  .of (owner := "bytearray") (n := "__init__") (by rw [typeLookup_type, builtinLookup_eq_fast]; kernel_rfl) (by decide +kernel) (by decide +kernel) (by decide +kernel)
    (.inl (by decide +kernel)) (by rw [isSubtype_type]; kernel_rfl)
theorem ba_called : TypeCalled "bytearray" "bytearray.__new__" "bytearray.__init__" :=
  ⟨by decide +kernel, by decide +kernel, ⟨_, _, ba_mro⟩, madeBy_type ba_mro ba_lookup_new (by decide +kernel), by decide +kernel, by rw [isSubtype_type]; kernel_rfl, ba_slot_init⟩
theorem ba_typeCall (a : Value) : checkTypeCall "bytearray" ⟨[a], []⟩ = pure () := by kernel_rfl
theorem ba_newCall (a : Value) : checkBuiltinCall "bytearray.__new__" ⟨[.type "bytearray", a], []⟩ = pure () := by kernel_rfl
theorem ba_plain_new : plainId "bytearray.__new__" = true := by decide +kernel
theorem ba_entry_new : entryFor table "bytearray.__new__" = some Builtin.«list.__new__» :=
  entryFor_alias (id' := "list.__new__") (by kernel_rfl) (by first | rfl | decide +kernel | (unfold String.splitOn; simp +decide [String.splitOnAux])) (by decide +kernel) (by kernel_rfl)
theorem ba_entry_init : entryFor table "bytearray.__init__" = some Builtin.«bytearray.__init__» := by first | exact entryFor_of_fast (by kernel_rfl) | exact entryFor_of_tree (by kernel_rfl)
theorem ba_owner : ("bytearray.__new__".splitOn ".__new__").headD "" = "bytearray" := by simp +decide [String.splitOn, String.splitOnAux]
section
variable {prog : Program} {w : World} {A : Around} {E : Value → Shared → Prop} {s : Shared}
theorem ba_new (a : Value) {Q₁ : Value → Shared → Prop}
    (h : Q₁ (.ref s.heap.objs.size) { s with heap := s.heap.push { cls := .type "bytearray", data := .bytearray #[] } }) :
    codeAny (model prog w) A (.call (.builtin "bytearray.__new__") ⟨[.type "bytearray", a], []⟩) (wants Q₁ E) s := by
  refine codeAny_of_tree ?_
  show wpAny _ A.in1 (do checkBuiltinCall "bytearray.__new__" ⟨[.type "bytearray", a], []⟩; again (.builtin "bytearray.__new__" ⟨[.type "bytearray", a], []⟩)) _ _ s
  refine wpAny_bind (wpAny_of_eq (ba_newCall a) (wpAny_pure ⟨plainId_quiet ba_plain_new _, codeAny_builtin_stack ba_entry_new rfl fun p st => ?_⟩))
  rw [Around.under_plainId ba_plain_new _]
  have hsub := ba_called.sub
  have hown := ba_owner
  obtain ⟨hp, g, d, tk, os⟩ := s
  simp only [hown]
  wp_walk
  exact h
end
end Mine
end

section
theorem Mine.freshBi : True := by
  w_top off
  trivial
open PySem PySem.W PyProof.Rows PySem.Calls PySem.Spec
open PySem.Sem (wp)
set_option maxRecDepth 100000
namespace Mine
theorem ba_lk_release : typeLookup (.type "bytearray") "__release_buffer__" = pure (some (.builtin "bytearray.__release_buffer__")) := by rw [typeLookup_type, builtinLookup_eq_fast]; kernel_rfl
theorem ba_lk_buffer : typeLookup (.type "bytearray") "__buffer__" = pure (some (.builtin "bytearray.__buffer__")) := by rw [typeLookup_type, builtinLookup_eq_fast]; kernel_rfl
theorem ba_end_release : ("bytearray.__release_buffer__" : String).endsWith ("." ++ "__release_buffer__") = true := by decide +kernel
theorem ba_end_buffer : ("bytearray.__buffer__" : String).endsWith ("." ++ "__buffer__") = true := by decide +kernel
theorem ba_cut_release : ("bytearray.__release_buffer__" : String).dropRight (("__release_buffer__" : String).length + 1) = "bytearray" := by decide +kernel
theorem ba_cut_buffer : ("bytearray.__buffer__" : String).dropRight (("__buffer__" : String).length + 1) = "bytearray" := by decide +kernel
theorem ba_bind (v : Value) : Builtin.Bytes.bindOptional "bytearray.__init__" "bytearray" ["source", "encoding", "errors"] [v] [] = pure [some v, none, none] := by kernel_rfl
theorem ba_index_int : typeLookup (.type "int") "__index__" = pure (some (.builtin "int.__index__")) := by rw [typeLookup_type, builtinLookup_eq_fast]; kernel_rfl
section
variable {prog : Program} {w : World} {A : Around} {E : Value → Shared → Prop} {s : Shared}
set_option maxHeartbeats 1000000
abbrev baObj (b : Array UInt8) : Obj := { cls := .type "bytearray", data := .bytearray b }
theorem ba_ownRelease {a : Addr} {Q : Bool → Shared → Prop} (hT : s.TypeIs (.ref a) "bytearray") (h : Q false s) : wpAny (model prog w) A (Builtin.Bytes.ownRelease (.ref a)) Q E s := by
  unfold Builtin.Bytes.ownRelease Builtin.Bytes.slotIsOwn
  refine wpAny_bind (wpAny_bind (wpAny_specialOf hT ba_lk_release ?_))
  dsimp only
  rw [ba_end_release]
  refine wpAny_ite_false rfl ?_
  rw [ba_cut_release]
  exact wpAny_isInstance hT ba_called.sub (wpAny_pure h)
theorem ba_write {a : Addr} {b : Array UInt8} {f : Array UInt8 → Array UInt8} {Q : Unit → Shared → Prop} (ho : s.heap.get? a = some (baObj b)) (hz : (f b).size ≤ sizeLine)
    (h : Q () { s with heap := s.heap.update a (Obj.mapBytearray f) }) : wpAny (model prog w) A (Builtin.Bytes.write (.ref a) f) Q E s := by
  show wpAny _ _ (updateBytearray a f) _ _ _
  unfold updateBytearray
  refine wpAny_bind (wpAny_load ho ?_)
  show wpAny _ _ (update a (Obj.mapBytearray f) >>= fun _ => lookBehind a) _ _ _
  refine wpAny_bind (wpAny_update ho ?_)
  refine wpAny_lookBehind (o := baObj (f b)) (Heap.get?_update_self (Obj.mapBytearray f) ho rfl) ?_ h
  show (if (f b).size > sizeLine then some "bytearray:memory" else none) = none
  rw [if_neg (Nat.not_lt.mpr hz)]
theorem ba_get {h : Heap} {a : Addr} {b : Array UInt8} {f : Array UInt8 → Array UInt8} (ho : h.get? a = some (baObj b)) : (h.update a (Obj.mapBytearray f)).get? a = some (baObj (f b)) :=
  Heap.get?_update_self (Obj.mapBytearray f) ho rfl
theorem ba_init {a : Addr} {n : Int} {t : Tok} {Q : Fin → Shared → Prop} (ho : s.heap.get? a = some (baObj #[])) (h0 : 0 ≤ n) (hn : n ≤ 16777216)
    (h : ∀ h', Heap.SameBut a s.heap h' → h'.get? a = some (baObj (Array.replicate n.toNat 0)) → Q (.done (.ret .none)) { s with heap := h' }) :
    wpC (model prog w) A (Builtin.«bytearray.__init__» ⟨[.ref a, .int n t], []⟩) Q E s := by
  have hT : s.TypeIs (.ref a) "bytearray" := ⟨_, ho, rfl⟩
  unfold Builtin.«bytearray.__init__»
  dsimp only
  refine wpC_bind (.of_any (ba_ownRelease hT ?_))
  refine wpC_if_false Bool.false_ne_true ?_
  refine wpC_bind (.of_any (wpAny_of_eq (ba_bind _) ?_))
  refine wpC_bind (.of_any (wpAny_of_eq (a := ()) rfl ?_))
  refine wpC_bind (.of_any (wpAny_of_eq (a := ()) rfl ?_))
  refine wpC_bind (Q := _) ?_
  refine wpC_bind (wpC_exported ?_)
  refine .of_any ?_
  show wpAny _ _ (Builtin.Bytes.exportsOf (.ref a) >>= fun n => pure (decide (n > 0))) _ _ _
  unfold Builtin.Bytes.exportsOf
  refine wpAny_bind (wpAny_bind (wpAny_load ho (wpAny_pure (wpAny_pure ?_))))
  refine wpC_if_false (by decide) (.of_any ?_)
  refine wpAny_bind (ba_write ho (by simp) ?_)
  have ho1 := ba_get (f := fun _ => #[]) ho
  generalize hH : s.heap.update a (Obj.mapBytearray fun _ => #[]) = H at ho1 ⊢
  dsimp only
  refine wpAny_bind (wpAny_of_eq (a := none) rfl ?_)
  simp only [Option.isSome_none, Bool.false_eq_true, if_false]
  refine wpAny_bind (wpAny_pure ?_)
  refine wpAny_bind (wpAny_specialOf_val rfl ba_index_int ?_)
  simp only [Option.isSome_some, if_true]
  refine wpAny_bind (wpAny_attempt (wpAny_of_eq (a := n) rfl ?_))
  dsimp only
  refine ifN (by rw [show Builtin.Bytes.fitsIndex n = true from by unfold Builtin.Bytes.fitsIndex; simp; omega]; decide) ?_
  refine ifN (by omega) ?_
  refine ifN (by simp; omega) ?_
  refine ifN (by simp [Builtin.Bytes.tooLong, sizeLine_eq]; omega) ?_
  refine wpAny_bind (wpAny_rule ?_)
  by_cases hp : n > 0
  · refine ifP hp (wpAny_bind (ba_write ho1 (by simp [sizeLine_eq]; omega) (wpAny_bind (wpAny_pure (wpAny_pure ?_)))))
    refine h _ ?_ ?_
    · subst hH
      exact (Heap.SameBut.update ..).trans (Heap.SameBut.update ..)
    · exact ba_get (f := fun _ => Array.replicate n.toNat 0) ho1
  · have hz : n = 0 := by omega
    subst hz
    refine ifN hp (wpAny_bind (wpAny_pure (wpAny_pure ?_)))
    refine h _ ?_ ?_
    · subst hH
      exact Heap.SameBut.update ..
    · exact ho1
theorem ba_args (a v : Value) : argsOk "bytearray.__init__" ⟨[a, v], []⟩ := by unfold argsOk; kernel_rfl
theorem call_bytearray {g : Heap} {L : Addr} {m : Str → Option Value} {news : List (Addr × Obj)} {n : Int} {t : Tok} {Q : Value → Shared → Prop} (F : Fr g L s.heap m) (N : News g L s.heap news) (h0 : 0 ≤ n) (hn : n ≤ 16777216)
    (h : ∀ a h', Fr g L h' m → News g L h' ((a, baObj (Array.replicate n.toNat 0)) :: news) → (∀ q ∈ news, q.1 < a) → Q (.ref a) { s with heap := h' }) :
    wpC (model prog w) A (call (.type "bytearray") [.int n t]) Q E s := by
  refine callTypeC (Q₁ := fun obj s₁ => obj = .ref s.heap.objs.size ∧ s₁ = { s with heap := s.heap.push (baObj #[]) }) ba_called (ba_typeCall _) ba_entry_init (by decide +kernel) (ba_new _ ⟨rfl, rfl⟩) ?_
  rintro obj s₁ ⟨rfl, rfl⟩
  have ho : (s.heap.push (baObj #[])).get? s.heap.objs.size = some (baObj #[]) := Heap.get?_push_size _ rfl
  refine ⟨⟨_, ho, rfl⟩, ba_args _ _, ba_init ho h0 hn fun h' hs hg => ⟨rfl, ?_⟩⟩
  have F1 := F.push (baObj #[])
  have N1 := News.push F N (baObj #[])
  have lt : ∀ q ∈ news, q.1 < s.heap.objs.size := fun q hq => Heap.lt_size (N q hq).1
  have hL : L ≠ s.heap.objs.size := Nat.ne_of_lt F.ns.lt
  refine h _ _ ⟨F1.ns.sameBut hs hL, fun b o e => hs.extBut b o ?_ (F1.keep b o e), F1.above⟩ ?_ lt
  · exact fun q => absurd (Heap.lt_size (F.keep b o e)) (q ▸ Nat.lt_irrefl _)
  · intro p hp
    rcases List.mem_cons.mp hp with rfl | hp
    · exact ⟨hg, (N1 _ (List.mem_cons_self ..)).2⟩
    · have := N1 p (List.mem_cons_of_mem _ hp)
      exact ⟨hs.extBut _ _ (Nat.ne_of_lt (lt p hp)) this.1, this.2⟩
end
end Mine
end

section
theorem Mine.freshBs : True := by
  w_top off
  trivial
open PySem PySem.W PyProof.Rows PySem.Calls PySem.Spec
open PySem.Sem (wp)
set_option maxRecDepth 100000
namespace Mine
theorem ba_slot_setitem : Slot "bytearray" "__setitem__" "bytearray.__setitem__" :=
  .of (owner := "bytearray") (n := "__setitem__") (by rw [typeLookup_type, builtinLookup_eq_fast]; kernel_rfl) (by decide +kernel) (by decide +kernel) (by decide +kernel)
    (.inl (by decide +kernel)) (by rw [isSubtype_type]; kernel_rfl)
theorem ba_entry_setitem : entryFor table "bytearray.__setitem__" = some Builtin.«bytearray.__setitem__» := by first | exact entryFor_of_fast (by kernel_rfl) | exact entryFor_of_tree (by kernel_rfl)
theorem ba_args_setitem (a b c : Value) : argsOk "bytearray.__setitem__" ⟨[a, b, c], []⟩ := by unfold argsOk; kernel_rfl
theorem ba_no_bytes : typeLookup (.type "bytearray") "__bytes__" = pure none := by rw [typeLookup_type, builtinLookup_eq_fast]; kernel_rfl
theorem ba_no_index : typeLookup (.type "bytearray") "__index__" = pure none := by rw [typeLookup_type, builtinLookup_eq_fast]; kernel_rfl
section
variable {prog : Program} {w : World} {A : Around} {E : Value → Shared → Prop} {s : Shared}
set_option maxHeartbeats 1000000
theorem ba_setItem {a : Addr} {b : Array UInt8} {k x : Int} {t u : Tok} {Q : Unit → Shared → Prop} (ho : s.heap.get? a = some (baObj b)) (h0 : 0 ≤ k) (hk : k < b.size) (hz : b.size ≤ 16777216) (hx0 : 0 ≤ x) (hx : x < 256)
    (h : ∀ h', Heap.SameBut a s.heap h' → h'.get? a = some (baObj (b.setIfInBounds k.toNat x.toNat.toUInt8)) → Q () { s with heap := h' }) :
    wpAny (model prog w) A (setItem (.ref a) (.int k t) (.int x u)) Q E s := by
  have hT : s.TypeIs (.ref a) "bytearray" := ⟨_, ho, rfl⟩
  unfold setItem
  refine wpAny_holding ?_
  refine wpAny_bind (wpAny_sequenceKey hT (by decide) ?_)
  refine wpAny_bind (wpAny_callSpecial?_slot (name := Str.ofString "__setitem__") hT ba_slot_setitem
    (wpAny_call_entry ba_slot_setitem hT ba_entry_setitem ?_ (ba_args_setitem _ _ _)))
  unfold Builtin.«bytearray.__setitem__»
  dsimp only
  simp only [List.isEmpty_nil, Bool.not_true, Bool.false_eq_true, if_false]
  unfold Builtin.Bytes.subscript?
  refine wpAny_bind (wpAny_bind (wpAny_specialOf_val rfl ba_index_int ?_))
  simp only [Option.isNone_some, Bool.false_eq_true, if_false]
  refine wpAny_bind (wpAny_of_eq (a := k) rfl ?_)
  refine ifN (by rw [show Builtin.Bytes.fitsIndex k = true from by unfold Builtin.Bytes.fitsIndex; simp; omega]; decide) ?_
  refine wpAny_pure ?_
  dsimp only
  unfold Builtin.Bytes.byteValue
  refine wpAny_bind (wpAny_bind (wpAny_of_eq (a := x) rfl ?_))
  refine ifN (by simp; omega) (wpAny_pure ?_)
  refine wpAny_bind ?_
  unfold Builtin.Bytes.payload Builtin.Bytes.payload?
  refine wpAny_bind (wpAny_bind (wpAny_load ho (wpAny_pure (wpAny_pure ?_))))
  have hsi : seqIndex? k b.size = some k.toNat := by
    unfold seqIndex?
    have e1 : ¬ k < 0 := by omega
    have e2 : (decide (0 ≤ k) && decide (k < (b.size : Int))) = true := by simp; omega
    simp only [e1, if_false, e2, if_true]
  rw [hsi]
  dsimp only
  refine wpAny_bind (ba_write ho (by simp [sizeLine_eq]; omega) ?_)
  refine wpAny_bind (wpAny_pure (wpAny_pure ⟨.none, rfl, wpAny_pure ?_⟩))
  exact h _ (Heap.SameBut.update ..) (ba_get (f := fun c => c.setIfInBounds k.toNat x.toNat.toUInt8) ho)

theorem bytes_of_ba {a : Addr} {b : Array UInt8} {Q : Value → Shared → Prop} (ho : s.heap.get? a = some (baObj b)) (hz : b.size ≤ 16777216)
    (h : ∀ t k, Q (.bytes b t) { s with toks := k }) : wpAny (model prog w) A (call (.type "bytes") [.ref a]) Q E s := by
  have hT : s.TypeIs (.ref a) "bytearray" := ⟨_, ho, rfl⟩
  refine callType_codes (Q₁ := fun obj s₁ => s₁.TypeIs obj "bytes" ∧ Q obj s₁) F.bm_called (F.bm_typeCall _) F.entry_object_init ?_ fun obj s₁ h₁ => ?_
  · refine codeAny_of_tree ?_
    show wpAny _ A.in1.in1 (do checkBuiltinCall "bytes.__new__" ⟨[.type "bytes", .ref a], []⟩; again (.builtin "bytes.__new__" ⟨[.type "bytes", .ref a], []⟩)) _ _ s
    refine wpAny_bind (wpAny_of_eq (F.bm_newCall _) (wpAny_pure ⟨plainId_quiet F.bm_plain _, codeAny_builtin F.bm_entry ?_⟩))
    rw [Around.under_plainId F.bm_plain _]
    unfold Builtin.«bytes.__new__»
    refine wpAny_bind (wpAny_of_eq (a := true) rfl ?_)
    refine bm_if_false rfl ?_
    refine wpAny_bind (wpAny_of_eq F.bm_sub ?_)
    refine bm_if_false rfl ?_
    refine wpAny_bind (wpAny_of_eq (F.bm_bind _) ?_)
    refine wpAny_bind (wpAny_of_eq (a := ()) rfl ?_)
    refine wpAny_bind (wpAny_of_eq (a := ()) rfl ?_)
    dsimp only
    simp only [Option.isSome_none, Bool.false_eq_true, if_false]
    refine wpAny_bind (wpAny_specialOf hT ba_no_bytes ?_)
    dsimp only
    refine wpAny_bind (wpAny_bind ?_)
    show wpAny _ _ (load a >>= _) _ _ _
    refine wpAny_bind (wpAny_load ho ?_)
    dsimp only
    refine wpAny_pure (wpAny_pure ?_)
    refine bm_if_false rfl ?_
    refine wpAny_bind (wpAny_specialOf hT ba_no_index ?_)
    refine bm_if_true rfl ?_
    first
      | show wpAny _ _ (Builtin.Bytes.buffer? "bytes.__new__" (.ref a) true >>= _) _ _ _
      | (refine wpAny_bind ?_; show wpAny _ _ (Builtin.Bytes.buffer? "bytes.__new__" (.ref a) true >>= _) _ _ _)
    refine wpAny_bind ?_
    unfold Builtin.Bytes.buffer?
    refine wpAny_bind (wpAny_specialOf hT ba_lk_buffer ?_)
    dsimp only
    unfold Builtin.Bytes.slotIsOwn
    refine wpAny_bind (wpAny_bind (wpAny_specialOf hT ba_lk_buffer ?_))
    dsimp only
    rw [ba_end_buffer]
    refine wpAny_ite_false rfl ?_
    rw [ba_cut_buffer]
    refine wpAny_isInstance hT ba_called.sub ?_
    refine bm_if_false rfl ?_
    refine wpAny_bind (wpAny_specialOf hT ba_lk_buffer ?_)
    refine wpAny_bind (ba_ownRelease hT ?_)
    refine bm_if_false rfl ?_
    unfold Builtin.Bytes.payload Builtin.Bytes.payload?
    refine wpAny_bind (wpAny_bind (wpAny_bind (wpAny_load ho (wpAny_pure (wpAny_pure (wpAny_pure ?_))))))
    dsimp only
    refine wpAny_bind (wpAny_rule ?_)
    refine wpAny_bind (wpAny_mkBytes ?_ (by rw [sizeLine_eq]; exact hz))
    show wpAny _ _ (if (Value.type "bytes" == Value.type "bytes") = true then _ else _) _ _ _
    refine bm_if_true (by decide) ?_
    first
      | exact wpAny_pure ⟨PySem.W.typeIs_bytes _ _ _, h _ _⟩
      | exact wpAny_bind (wpAny_pure (wpAny_pure ⟨PySem.W.typeIs_bytes _ _ _, h _ _⟩))
  · exact ⟨h₁.1, F.args_object_init_2 obj _, object_init_meets F.bm_called.init.lookup F.bm_called.made (by decide) prog w A.in1 _ s₁ ⟨h₁.1, rfl, h₁.2⟩⟩
end
end Mine
end

section
theorem Mine.freshSw : True := by
  w_top off
  trivial
open PySem PySem.W PyProof.Rows PySem.Calls PySem.Spec
namespace Mine
/-- where the octet at k comes from, words of n octets turned about -/
def mir (n k : Nat) : Nat := k / n * n + (n - 1 - k % n)
structure Sw (d b : Array UInt8) (n : Nat) (done : Nat → Prop) : Prop where
  size : b.size = d.size
  at_ : ∀ k, k < d.size → done k → b[k]? = d[mir n k]?
theorem mir_at {n i j : Nat} (hj : j < n) : mir n (i * n + (n - 1 - j)) = i * n + j := by
  have hn : 0 < n := by omega
  have h1 : (i * n + (n - 1 - j)) / n = i := by
    rw [Nat.add_comm, Nat.add_mul_div_right _ _ hn, Nat.div_eq_of_lt (by omega)]; omega
  have h2 : (i * n + (n - 1 - j)) % n = n - 1 - j := by
    rw [Nat.add_comm, Nat.add_mul_mod_self_right, Nat.mod_eq_of_lt (by omega)]
  unfold mir; rw [h1, h2]; omega
theorem sw_step {d b : Array UInt8} {n i j : Nat} {x : UInt8} (hj : j < n) (hb : i * n + n ≤ d.size) (hx : d[i * n + j]? = some x)
    (H : Sw d b n (fun k => k < i * n ∨ (k < i * n + n ∧ i * n + n ≤ k + j))) :
    Sw d (b.setIfInBounds (i * n + (n - 1 - j)) x) n (fun k => k < i * n ∨ (k < i * n + n ∧ i * n + n ≤ k + (j + 1))) := by
  refine ⟨by simp [H.size], fun k hk hd => ?_⟩
  by_cases e : k = i * n + (n - 1 - j)
  · subst e
    rw [mir_at hj, hx]
    rw [Array.getElem?_setIfInBounds_self_of_lt (by rw [H.size]; omega)]
  · rw [Array.getElem?_setIfInBounds_ne (by omega)]
    refine H.at_ k hk ?_
    rcases hd with hd | ⟨h1, h2⟩
    · exact .inl hd
    · exact .inr ⟨h1, by omega⟩
theorem sw_in {d b : Array UInt8} {n i : Nat} (H : Sw d b n (fun k => k < i * n)) : Sw d b n (fun k => k < i * n ∨ (k < i * n + n ∧ i * n + n ≤ k + 0)) :=
  ⟨H.size, fun k hk hd => H.at_ k hk (by omega)⟩
theorem sw_out {d b : Array UInt8} {n i : Nat} (H : Sw d b n (fun k => k < i * n ∨ (k < i * n + n ∧ i * n + n ≤ k + n))) : Sw d b n (fun k => k < (i + 1) * n) :=
  ⟨H.size, fun k hk hd => H.at_ k hk (by rw [Nat.add_mul, Nat.one_mul] at hd; omega)⟩
theorem sw_start (d : Array UInt8) (n : Nat) : Sw d (Array.replicate d.size 0) n (fun k => k < 0 * n) := ⟨by simp, fun k _ hd => by omega⟩
section
variable {prog : Program} {w : World} {A : Around} {E : Value → Shared → Prop} {s : Shared}
theorem ba_setItemN {g : Heap} {L a : Addr} {m : Str → Option Value} {post : List (Addr × Obj)} {b : Array UInt8} {k x : Int} {t u : Tok} {Q : Unit → Shared → Prop} (F : Fr g L s.heap m) (N : News g L s.heap ((a, baObj b) :: post)) (hp : ∀ p ∈ post, p.1 ≠ a)
    (h0 : 0 ≤ k) (hk : k < b.size) (hz : b.size ≤ 16777216) (hx0 : 0 ≤ x) (hx : x < 256)
    (h : ∀ h', Fr g L h' m → News g L h' ((a, baObj (b.setIfInBounds k.toNat x.toNat.toUInt8)) :: post) → Q () { s with heap := h' }) :
    wpAny (model prog w) A (setItem (.ref a) (.int k t) (.int x u)) Q E s :=
  ba_setItem (N _ (List.mem_cons_self ..)).1 h0 hk hz hx0 hx fun h' hs hg => h h' (upd_fr (pre := []) F N hs) (upd_news (pre := []) N hs hg (fun _ hp => nomatch hp) hp)
theorem item_bytesA {value slice : Expr} {b : Array UInt8} {i : Int} {t ui : Tok} {Q : Value → Shared → Prop} (hz : b.size ≤ 1000000) (h0 : 0 ≤ i) (h1 : i < (b.size : Int)) (h : ∀ x k, b[i.toNat]? = some x → Q (.int (x.toNat : Int) k) { s with toks := k + 1 })
    (hs : subscripted slice false (.bytes b t) (.int i ui) = operate [.bytes b t, .int i ui] (getItem (.bytes b t) (.int i ui)) := by with_unfolding_all rfl)
    (ht : ∀ r, letTemporaryGo value (.bytes b t) r = pure () := by intro _; with_unfolding_all rfl) :
    wpAny (model prog w) A (subscriptTail value slice (.bytes b t) (.int i ui)) Q E s := by
  obtain ⟨l⟩ := b
  have hz' : l.length ≤ 1000000 := hz
  have h1' : i < (l.length : Int) := h1
  refine KBy.item_N (x := l) (by omega) h0 h1' ?_ hs ht
  have hl : i.toNat < l.length := by omega
  refine h _ _ ?_
  simp [List.getD, hl]
end
end Mine
end

section
theorem Mine.freshSr : True := by
  w_top off
  trivial
open PySem PySem.W PyProof.Rows PySem.Calls PySem.Spec
namespace Mine
/-- the octets of a text of small signs -/
def octs (l : List Nat) : Array UInt8 := (l.map Nat.toUInt8).toArray
theorem octs_size (l : List Nat) : (octs l).size = l.length := by simp [octs]
theorem octs_app (a b : List Nat) : octs a ++ octs b = octs (a ++ b) := by simp [octs]
theorem sw_rev {l : List Nat} {b : Array UInt8} (hl : 0 < l.length) (h : Sw (octs l) b l.length (fun k => k < 1 * l.length)) : b = octs l.reverse := by
  apply Array.ext
  · rw [h.size, octs_size, octs_size, List.length_reverse]
  · intro k hk hk'
    have hsz := h.size
    rw [octs_size] at hsz
    have hk2 : k < l.length := by omega
    have := h.at_ k (by rw [octs_size]; exact hk2) (by omega)
    have hm : mir l.length k = l.length - 1 - k := by
      unfold mir; rw [Nat.div_eq_of_lt hk2, Nat.mod_eq_of_lt hk2]; omega
    rw [hm] at this
    apply Option.some.inj
    rw [← Array.getElem?_eq_getElem hk, ← Array.getElem?_eq_getElem hk', this]
    unfold octs
    simp only [List.getElem?_toArray, List.getElem?_map, List.getElem?_reverse hk2]
section
variable {M : Model} {A : Around} {E : Value → Shared → Prop} {s : Shared} {env : Env}
theorem binOpC {l : Expr} {op : Operator} {r : Expr} {pos : Pos} {Q : Value → Shared → Prop}
    (h : wpAny M A (eval l env) (fun a s₁ => wpC M A (eval r env) (fun b s₂ => wpAny M A (binaryOp op a b) Q E s₂) E s₁) E s) :
    wpC M A (eval (.BinOp l op r pos) env) Q E s := by
  rw [eval_BinOp]
  exact wpC_bind (.of_any (wpAny_mono h (fun a s₁ h₁ => wpC_bind (wpC_holding (wpC_mono h₁ (fun b s₂ h₂ => wpC_bind (.of_any (wpAny_standAt (wpC_operate (.of_any h₂))))) fun _ _ x => x))) fun _ _ x => x))
end
end Mine
end

section
theorem Mine.freshO1 : True := by
  w_top off
  trivial
open PySem PySem.W PyProof.Rows PySem.Calls PySem.Spec
namespace Mine
set_option maxRecDepth 100000
set_option maxHeartbeats 4000000
section
variable {w : World} {A : Around} {s : Shared} {g : Heap} {loose : List Str} {mean : ExcName → Option Value} {mg mb : Str → Option Value} {Q : Value → Shared → Prop} {E : Value → Shared → Prop}
theorem ints_snoc {k : Int} {t : Tok} : ∀ {vs : List Value} {ks : List Int}, IntsAre vs ks → IntsAre (vs ++ [.int k t]) (ks ++ [k])
  | _, _, .nil => .cons k t .nil
  | _, _, .cons z u r => .cons z u (ints_snoc r)
theorem byteArr_octs (l : List Nat) : byteArr (l.map fun c => ((c : Nat) : Int)) = octs l := by
  unfold byteArr octs; simp [List.map_map, Function.comp_def]
theorem lo {l : List Nat} {t : Tok} (hl : ∀ c ∈ l, c < 256) (hz : l.length ≤ 100000)
   (hA : A.handled = none) (hdp : A.depth + 4 < recursionLimit) (X : (hd.heap_39 w.params).In s.heap) (T : Top topProg loose mean mg mb s.heap)
   (hQ : ∀ h' tk u, Kp s.heap h' → Q (.bytes (octs l) u) { s with heap := h', toks := tk }) :
   wpAny (model PySem.Challenge.rw_pe0049_01.row.prog w) A (call (.ref 87) [.str ⟨l.toArray⟩ t]) Q E s := by
  revert X; k_fill; intro X
  refine' enterK (g := s.heap) (l := []) (binds := [(Str.ofString "text", .str ⟨l.toArray⟩ t)]) ⟨fun _ _ h => h, Nat.le_refl _⟩ (fun _ h => nomatch h) X T ?k6 ?k7 ?k8 ?k9 ?kB ?_ ?c5 ?c2 ?c3 ?c4
  case k6 => k_is
  case k7 => k_is
  case k8 => exact Nat.lt_of_le_of_lt (Nat.le_add_right _ _) hdp
  case k9 => exact BindsTo.of_eq rfl
  case kB => exact locs rfl
  case c5 => decide
  case c2 => exact rfl
  case c3 => exact rfl
  case c4 => exact rfl
  intro L h1 F N lt
  iterate 7 walk1
  refine lcE (h₀ := s.heap) (L := L) (m := fun y => List.lookup y [(Str.ofString "text", .str ⟨l.toArray⟩ t)].reverse) (by with_unfolding_all rfl) (by decide) rfl (by decide) rfl ?_
  walk1
  refine ⟨_, _, _, _, src_str hA, by show l.toArray.size ≤ _; rw [List.size_toArray, sizeLine_eq]; omega, F, N, trivial, fun g' => rest_inv (fun i ys news => news = [] ∧ IntsAre ys ((l.take i).map fun c => ((c : Nat) : Int))) ?_ ?_ ⟨rfl, .nil⟩⟩
  · rintro i ys news v I oI C oC D m₂ h tk' E' hi ⟨rfl, hys⟩ ⟨c, u, hc, rfl⟩ hC hx F' N' off ne
    clear F N
    iterate 7 walk1
    refine ord_of_one rfl ?_
    refine ⟨_, _, [], rfl, F', N', trivial, trivial, rfl, ?_⟩
    have hc' : l[i]? = some c := by simpa using hc
    rw [List.take_add_one, hc', Option.toList_some, List.map_append]
    exact ints_snoc hys
  · rintro ys news ⟨rfl, hys⟩ D h tk' F' N' off
    clear F N
    walk1
    rw [List.size_toArray, List.take_length] at hys
    refine call_bytes_ints ⟨_, (N' _ (List.mem_cons_self ..)).1, rfl, _, rfl⟩ hys ?_ (by rw [hys.length, List.length_map, sizeLine_eq]; omega) hA ?_
    · intro n hn
      obtain ⟨c, hc, rfl⟩ := List.mem_map.mp hn
      have := hl c hc
      omega
    intro h' t' k hk
    rw [byteArr_octs]
    exact hQ _ _ _ (Kp.of_fr (F'.after hk))
end
end Mine
end

section
theorem Mine.freshFc : True := by
  w_top off
  trivial
open PySem PySem.W PyProof.Rows PySem.Calls PySem.Spec
set_option maxRecDepth 100000
namespace Mine
open LCg
section
variable {prog : Program} {w : World} {A : Around} {E : Value → Shared → Prop} {s : Shared} {env : Env} {R : Result → Shared → Prop}
theorem codeC_loop' {c : Code} {R : Result → Shared → Prop} (hh : holds c = false) (hq : c.quiet = true) (I : Nat → Shared → Prop)
    (turn : ∀ n s, I n s → wpC (model prog w) (A.under c) ((model prog w).den c)
      (fun fin s' => match fin with | .done f => R (.ok f) s' | .again c' => (c' = c ∧ ∃ m, m < n ∧ I m s') ∨ (c'.quiet = true ∧ codeC (model prog w) A c' R s')) (fun e s' => R (.error e) s') s)
    (n : Nat) (h : I n s) : codeC (model prog w) A c R s := by
  induction n using Nat.strongRecOn generalizing s with
  | ind n ih =>
    refine codeC_of_tree hh (wpC_mono (turn n s h) (fun fin s' hf => ?_) fun _ _ h' => h')
    cases fin with
    | done f => exact hf
    | again c' =>
      rcases hf with ⟨rfl, m, hm, hI⟩ | hf
      · exact ⟨hq, ih m hm hI⟩
      · exact hf
theorem forLoopC {x : Str} {px : Pos} {it : Value} {body : List Stmt} (I : Nat → Shared → Prop)
    (turn : ∀ n s, I n s → wpAny (model prog w) A (pyNext it) (fun r s₁ => match r with
      | none => R (.ok .next) s₁
      | some v => wpAny (model prog w) A (storeName env x v) (fun _ s₂ => wpC (model prog w) A (execs body env) (fun f s₃ => match f with
          | .next | .cont => ∃ m, m < n ∧ I m s₃
          | .brk => R (.ok .next) s₃
          | .ret v => R (.ok (.ret v)) s₃) (fun _ _ => False) s₂) (fun _ _ => False) s₁) (fun _ _ => False) s)
    (n : Nat) (h : I n s) : codeC (model prog w) A (.forLoop (.Name x px) it body [] env) R s := by
  refine codeC_loop' rfl rfl I (fun n s hI => ?_) n h
  show wpC _ A ((forTurn (.Name x px) it body [] env).onRaise (fun x => do noteFrame x env; theTreesLotGoes x)) _ _ s
  refine wpC_onRaise ?_
  simp only [forTurn]
  refine wpC_bind (.of_any (wpAny_standAt (wpC_bind (.of_any (wpAny_onRaise (wpAny_mono (turn n s hI) (fun r s₁ h₁ => ?_) fun _ _ h' => h'.elim))))))
  cases r with
  | none => exact wpC_pure (.inr ⟨rfl, .of_any (codeAny_block (wpAny_execs_nil h₁))⟩)
  | some v =>
    refine wpC_bind (.of_any (wpAny_of_eq rfl ?_))
    refine wpC_bind (.of_any (wpAny_mono (wpAny_assign_Name h₁) (fun _ s₂ h₂ => wpC_bind (wpC_mono h₂ (fun f s₃ h₃ => ?_) fun _ _ h' => h'.elim)) fun _ _ h' => h'.elim))
    cases f with
    | next => exact wpC_pure (.inl ⟨rfl, h₃⟩)
    | cont => exact wpC_pure (.inl ⟨rfl, h₃⟩)
    | brk => exact wpC_pure h₃
    | ret v => exact wpC_pure h₃
theorem forLoopA {x : Str} {px : Pos} {it : Value} {body : List Stmt} (I : Nat → Shared → Prop)
    (turn : ∀ n s, I n s → wpAny (model prog w) A (pyNext it) (fun r s₁ => match r with
      | none => R (.ok .next) s₁
      | some v => wpAny (model prog w) A (storeName env x v) (fun _ s₂ => wpAny (model prog w) A (execs body env) (fun f s₃ => match f with
          | .next | .cont => ∃ m, m < n ∧ I m s₃
          | .brk => R (.ok .next) s₃
          | .ret v => R (.ok (.ret v)) s₃) (fun _ _ => False) s₂) (fun _ _ => False) s₁) (fun _ _ => False) s)
    (n : Nat) (h : I n s) : codeAny (model prog w) A (.forLoop (.Name x px) it body [] env) R s := by
  refine codeAny_forLoop I (fun n s hI => wpAny_mono (turn n s hI) (fun r s₁ h₁ => ?_) fun _ _ h => h.elim) n h
  cases r with
  | none => exact wpAny_execs_nil h₁
  | some v => exact wpAny_assign_Name (wpAny_mono h₁ (fun _ s₂ h₂ => wpAny_mono h₂ (fun f s₃ h₃ => by cases f <;> exact h₃) fun _ _ h => h.elim) fun _ _ h => h.elim)
theorem ForC {x : Str} {px : Pos} {iter : Expr} {body : List Stmt} {pos : Pos} {Q : Flow → Shared → Prop}
    (h : wpAny (model prog w) A (eval iter env) (fun v s₁ => wpAny (model prog w) A (pyIter v) (fun it s₂ =>
      codeC (model prog w) A (.forLoop (.Name x px) it body [] env) (fun r s' => match r with | .ok f => Q f s' | .error _ => False) s₂) E s₁) E s)
    (hs : ∀ x, foldedSetIterable iter env x = pure x := by intro _; rfl) :
    wpC (model prog w) A (exec (.For (.Name x px) iter body [] pos) env) Q E s := by
  rw [exec_For]
  refine wpC_bind (.of_any (wpAny_standAt (wpC_bind (.of_any (wpAny_mono h (fun x s₁ h₁ => wpC_bind (.of_any (wpAny_of_eq (hs x) (wpC_bind (.of_any (wpAny_standAt (wpC_bind (wpC_holding
    (.of_any (wpAny_mono h₁ (fun it s₂ h₂ => ?_) fun _ _ h' => h'))))))))) ) fun _ _ h' => h')))))
  unfold runOwn
  refine wpC_onRaise (wpC_run (codeC_mono h₂ fun r s' hr => ?_))
  cases r with
  | ok f => exact hr
  | error e => exact hr.elim
end
section
variable {prog : Program} {w : World} {A : Around} {E : Value → Shared → Prop} {s : Shared} {env : Env} {g : Heap} {m : Str → Option Value} {news : List (Addr × Obj)}
theorem srcC {x : Str} {px : Pos} {xv : Value} {body : List Stmt} {Q : Flow → Shared → Prop} {S : List (Addr × Obj) → Prop} {n : Nat} {P : Nat → Value → Prop} (hsrc : SrcX prog w A g env.locals S n P xv s) (F : Fr g env.locals s.heap m) (N : News g env.locals s.heap news) (hS : S news)
    (hx : env.kindOf x = some .local) (hp : (env.scope.kind == .class || (env.scope.kind == .module && env.locals != env.globals)) = false)
    (J : Nat → (Str → Option Value) → List (Addr × Obj) → Prop) (h0 : J 0 m news)
    (turn : ∀ i v I oI m₁ news₁ h tk, i < n → P i v → J i m₁ news₁ → S news₁ → Fr g env.locals h (fun y => if y = x then some v else m₁ y) → News g env.locals h ((I, oI) :: news₁) → (∀ p ∈ news₁, p.1 ≠ I) → s.heap.objs.size = I →
      wpC (model prog w) A (execs body env) (fun f s₃ => match f with
        | .next | .cont => ∃ h' tk' m₂ news₂, s₃ = { s with heap := h', toks := tk' } ∧ Fr g env.locals h' m₂ ∧ News g env.locals h' ((I, oI) :: news₂) ∧ (∀ p ∈ news₂, p.1 ≠ I) ∧ S news₂ ∧ J (i + 1) m₂ news₂
        | .brk => False
        | .ret v => Q (.ret v) s₃) (fun _ _ => False) { s with heap := h, toks := tk })
    (done : ∀ m₁ news₁ h tk, J n m₁ news₁ → Fr g env.locals h m₁ → News g env.locals h news₁ → Q .next { s with heap := h, toks := tk }) :
    wpAny (model prog w) A (pyIter xv) (fun it s₂ => codeC (model prog w) A (.forLoop (.Name x px) it body [] env) (fun r s' => match r with | .ok f => Q f s' | .error _ => False) s₂) E s := by
  refine hsrc _ _ (fun o fp St W hIo hSt hst hfp => ?_)
  have up : ∀ b o', s.heap.get? b = some o' → (s.heap.push o).get? b = some o' := fun b o' e => Heap.get?_push_of_some _ e
  have hIL : env.locals ≠ s.heap.objs.size := Nat.ne_of_lt F.ns.lt
  have hI₀ : g.get? s.heap.objs.size = none := next_is_new F
  refine forLoopC (fun k s' => ∃ i m₁ news₁ h tk, k = n - i ∧ i ≤ n ∧ s' = { s with heap := h, toks := tk } ∧ St i h ∧ Fr g env.locals h m₁ ∧ News g env.locals h news₁ ∧ (∀ p ∈ news₁, p.1 ≠ s.heap.objs.size) ∧ S news₁ ∧ J i m₁ news₁) ?_ n
    ⟨0, m, news, s.heap.push o, s.toks, rfl, Nat.zero_le _, rfl, hst, F.keeps up, N.grown up, fun p hp => Nat.ne_of_lt (Heap.lt_size (N p hp).1), hS, h0⟩
  rintro k s' ⟨i, m₁, news₁, h, tk, rfl, hi, rfl, hst₁, F₁, N₁, off, hS₁, hJ⟩
  by_cases hlt : i < n
  · refine W.item i _ _ _ hlt hst₁ fun v h₂ tk₂ hPv hst₂ hk₂ => ?_
    dsimp only
    have F₂ := fr_but F₁ hk₂ hIL hI₀
    have N₂ := news_but N₁ hk₂ off
    refine wpAny_storeName_local hx F₂.ns (fun h₃ hn₃ hs₃ => ?_) hp
    have hL₀ : g.get? env.locals = none := Heap.get?_none_of_le F₂.above
    have F₃ : Fr g env.locals h₃ (fun z => if z = x then some v else m₁ z) := ⟨hn₃, fun b o e => hs₃.extBut b o (fun q => by rw [q, hL₀] at e; cases e) (F₂.keep b o e), F₂.above⟩
    have hIs : h₃.get? s.heap.objs.size = h₂.get? s.heap.objs.size := hs₃.2 _ (Ne.symm hIL)
    obtain ⟨oI, heI⟩ := hIo _ _ hst₂
    have N₃ : News g env.locals h₃ ((s.heap.objs.size, oI) :: news₁) := fun p hp => by
      rcases List.mem_cons.mp hp with rfl | hp
      · exact ⟨hIs.trans heI, Ne.symm hIL, hI₀⟩
      · exact ⟨hs₃.extBut _ _ (N₂ p hp).2.1 (N₂ p hp).1, (N₂ p hp).2⟩
    refine wpC_mono (turn i v _ oI m₁ news₁ h₃ _ hlt hPv hJ hS₁ F₃ N₃ off rfl) (fun f s₃ hf => ?_) fun _ _ e => e
    have nx : (∃ h' tk' m₂ news₂, s₃ = { s with heap := h', toks := tk' } ∧ Fr g env.locals h' m₂ ∧ News g env.locals h' ((s.heap.objs.size, oI) :: news₂) ∧ (∀ p ∈ news₂, p.1 ≠ s.heap.objs.size) ∧ S news₂ ∧ J (i + 1) m₂ news₂) →
        ∃ m', m' < n - i ∧ ∃ i m₁ news₁ h tk, m' = n - i ∧ i ≤ n ∧ s₃ = { s with heap := h, toks := tk } ∧ St i h ∧ Fr g env.locals h m₁ ∧ News g env.locals h news₁ ∧ (∀ p ∈ news₁, p.1 ≠ s.heap.objs.size) ∧ S news₁ ∧ J i m₁ news₁ := by
      rintro ⟨h', tk', m₂, news₂, rfl, F', N', off', hS', hJ'⟩
      have N'' : News g env.locals h' news₂ := fun p hp => N' p (List.mem_cons_of_mem _ hp)
      exact ⟨n - (i + 1), by omega, i + 1, m₂, news₂, h', tk', rfl, hlt, rfl, hSt _ _ _ _ _ hst₂ heI (N' _ (List.mem_cons_self ..)).1 F'.keep N'' hS', F', N'', off', hS', hJ'⟩
    cases f with
    | next => exact nx hf
    | cont => exact nx hf
    | brk => exact hf.elim
    | ret v => exact hf
  · obtain rfl : i = n := Nat.le_antisymm hi (Nat.not_lt.mp hlt)
    refine W.done _ _ _ hst₁ fun h₂ tk₂ hk₂ => ?_
    exact done m₁ news₁ h₂ tk₂ hJ (fr_but F₁ hk₂ hIL hI₀) (news_but N₁ hk₂ off)
theorem srcA {x : Str} {px : Pos} {xv : Value} {body : List Stmt} {Q : Flow → Shared → Prop} {S : List (Addr × Obj) → Prop} {n : Nat} {P : Nat → Value → Prop} (hsrc : SrcX prog w A g env.locals S n P xv s) (F : Fr g env.locals s.heap m) (N : News g env.locals s.heap news) (hS : S news)
    (hx : env.kindOf x = some .local) (hp : (env.scope.kind == .class || (env.scope.kind == .module && env.locals != env.globals)) = false)
    (J : Nat → (Str → Option Value) → List (Addr × Obj) → Prop) (h0 : J 0 m news)
    (turn : ∀ i v I oI m₁ news₁ h tk, i < n → P i v → J i m₁ news₁ → S news₁ → Fr g env.locals h (fun y => if y = x then some v else m₁ y) → News g env.locals h ((I, oI) :: news₁) → (∀ p ∈ news₁, p.1 ≠ I) → s.heap.objs.size = I →
      wpAny (model prog w) A (execs body env) (fun f s₃ => match f with
        | .next | .cont => ∃ h' tk' m₂ news₂, s₃ = { s with heap := h', toks := tk' } ∧ Fr g env.locals h' m₂ ∧ News g env.locals h' ((I, oI) :: news₂) ∧ (∀ p ∈ news₂, p.1 ≠ I) ∧ S news₂ ∧ J (i + 1) m₂ news₂
        | .brk => False
        | .ret v => Q (.ret v) s₃) (fun _ _ => False) { s with heap := h, toks := tk })
    (done : ∀ m₁ news₁ h tk, J n m₁ news₁ → Fr g env.locals h m₁ → News g env.locals h news₁ → Q .next { s with heap := h, toks := tk }) :
    wpAny (model prog w) A (pyIter xv) (fun it s₂ => codeAny (model prog w) A (.forLoop (.Name x px) it body [] env) (fun r s' => match r with | .ok f => Q f s' | .error e => cameBackBy (model prog w) A env E e s') s₂) E s := by
  refine hsrc _ _ (fun o fp St W hIo hSt hst hfp => ?_)
  have up : ∀ b o', s.heap.get? b = some o' → (s.heap.push o).get? b = some o' := fun b o' e => Heap.get?_push_of_some _ e
  have hIL : env.locals ≠ s.heap.objs.size := Nat.ne_of_lt F.ns.lt
  have hI₀ : g.get? s.heap.objs.size = none := next_is_new F
  refine forLoopA (fun k s' => ∃ i m₁ news₁ h tk, k = n - i ∧ i ≤ n ∧ s' = { s with heap := h, toks := tk } ∧ St i h ∧ Fr g env.locals h m₁ ∧ News g env.locals h news₁ ∧ (∀ p ∈ news₁, p.1 ≠ s.heap.objs.size) ∧ S news₁ ∧ J i m₁ news₁) ?_ n
    ⟨0, m, news, s.heap.push o, s.toks, rfl, Nat.zero_le _, rfl, hst, F.keeps up, N.grown up, fun p hp => Nat.ne_of_lt (Heap.lt_size (N p hp).1), hS, h0⟩
  rintro k s' ⟨i, m₁, news₁, h, tk, rfl, hi, rfl, hst₁, F₁, N₁, off, hS₁, hJ⟩
  by_cases hlt : i < n
  · refine W.item i _ _ _ hlt hst₁ fun v h₂ tk₂ hPv hst₂ hk₂ => ?_
    dsimp only
    have F₂ := fr_but F₁ hk₂ hIL hI₀
    have N₂ := news_but N₁ hk₂ off
    refine wpAny_storeName_local hx F₂.ns (fun h₃ hn₃ hs₃ => ?_) hp
    have hL₀ : g.get? env.locals = none := Heap.get?_none_of_le F₂.above
    have F₃ : Fr g env.locals h₃ (fun z => if z = x then some v else m₁ z) := ⟨hn₃, fun b o e => hs₃.extBut b o (fun q => by rw [q, hL₀] at e; cases e) (F₂.keep b o e), F₂.above⟩
    have hIs : h₃.get? s.heap.objs.size = h₂.get? s.heap.objs.size := hs₃.2 _ (Ne.symm hIL)
    obtain ⟨oI, heI⟩ := hIo _ _ hst₂
    have N₃ : News g env.locals h₃ ((s.heap.objs.size, oI) :: news₁) := fun p hp => by
      rcases List.mem_cons.mp hp with rfl | hp
      · exact ⟨hIs.trans heI, Ne.symm hIL, hI₀⟩
      · exact ⟨hs₃.extBut _ _ (N₂ p hp).2.1 (N₂ p hp).1, (N₂ p hp).2⟩
    refine wpAny_mono (turn i v _ oI m₁ news₁ h₃ _ hlt hPv hJ hS₁ F₃ N₃ off rfl) (fun f s₃ hf => ?_) fun _ _ e => e
    have nx : (∃ h' tk' m₂ news₂, s₃ = { s with heap := h', toks := tk' } ∧ Fr g env.locals h' m₂ ∧ News g env.locals h' ((s.heap.objs.size, oI) :: news₂) ∧ (∀ p ∈ news₂, p.1 ≠ s.heap.objs.size) ∧ S news₂ ∧ J (i + 1) m₂ news₂) →
        ∃ m', m' < n - i ∧ ∃ i m₁ news₁ h tk, m' = n - i ∧ i ≤ n ∧ s₃ = { s with heap := h, toks := tk } ∧ St i h ∧ Fr g env.locals h m₁ ∧ News g env.locals h news₁ ∧ (∀ p ∈ news₁, p.1 ≠ s.heap.objs.size) ∧ S news₁ ∧ J i m₁ news₁ := by
      rintro ⟨h', tk', m₂, news₂, rfl, F', N', off', hS', hJ'⟩
      have N'' : News g env.locals h' news₂ := fun p hp => N' p (List.mem_cons_of_mem _ hp)
      exact ⟨n - (i + 1), by omega, i + 1, m₂, news₂, h', tk', rfl, hlt, rfl, hSt _ _ _ _ _ hst₂ heI (N' _ (List.mem_cons_self ..)).1 F'.keep N'' hS', F', N'', off', hS', hJ'⟩
    cases f with
    | next => exact nx hf
    | cont => exact nx hf
    | brk => exact hf.elim
    | ret v => exact hf
  · obtain rfl : i = n := Nat.le_antisymm hi (Nat.not_lt.mp hlt)
    refine W.done _ _ _ hst₁ fun h₂ tk₂ hk₂ => ?_
    exact done m₁ news₁ h₂ tk₂ hJ (fr_but F₁ hk₂ hIL hI₀) (news_but N₁ hk₂ off)
end
end Mine
end

section
theorem Mine.freshB1 : True := by
  w_top off
  trivial
open PySem PySem.W PyProof.Rows PySem.Calls PySem.Spec
namespace Mine
set_option maxRecDepth 100000
set_option maxHeartbeats 4000000
theorem bs {w : World} {A : Around} {s : Shared} {loose : List Str} {mean : ExcName → Option Value} {mg mb : Str → Option Value} {Q : Value → Shared → Prop} {E : Value → Shared → Prop}
   {data : Array UInt8} {t1 t2 : Tok} {n c : Nat}
   (hA : A.handled = none) (hdp : A.depth < recursionLimit) (X : (hd.heap_39 w.params).In s.heap) (T : Top topProg loose mean mg mb s.heap)
   (hz : data.size ≤ 100000) (hn : 0 < n) (hc : data.size = c * n) (hnz : n ≤ 100000)
   (hQ : ∀ b t' h' tk, Kp s.heap h' → Sw data b n (fun k => k < c * n) → Q (.bytes b t') { s with heap := h', toks := tk }) :
   wpC (model PySem.Challenge.rw_pe0049_01.row.prog w) A (call (.ref 63) [.bytes data t1, .int n t2]) Q E s := by
  revert X; k_fill; intro X
  have hK : Kp s.heap s.heap := ⟨fun _ _ e => e, Nat.le_refl _⟩
  have hO : Own s.heap s.heap [] := fun p hp => nomatch hp
  refine' enterC (binds := [(Str.ofString "data", .bytes data t1), (Str.ofString "width", .int n t2)]) ?k1 ?k2 ?k3 ?k4 ?k6 ?k7 ?k8 ?k9 ?kB ?_ ?c5 ?c2 ?c3 ?c4
  case k1 => assumption
  case k2 => assumption
  case k3 => assumption
  case k4 => assumption
  case k6 => k_is
  case k7 => k_is
  case k8 => exact hdp
  case k9 => exact BindsTo.of_eq rfl
  case kB => exact locs rfl
  case c5 => decide
  case c2 => exact rfl
  case c3 => exact rfl
  case c4 => exact rfl
  intro L h1 F N lt
  refine execs_consC (assignC (callC_ ?_))
  walk1
  refine callWithC (P := fun _ => True) (fun h _ => ⟨_, Looks.of_pure rfl⟩) ?_
  iterate 7 walk1
  refine len_bytes (by omega) ?_
  walk1
  rename Fr _ _ _ _ => F
  refine ⟨trivial, call_bytearray F N (by omega) (by omega) ?_⟩
  clear F N
  intro a h2 F2 N2 lt2
  refine .of_any ?_
  walk1
  refine .of_any ?_
  walk1
  refine wpAny_execs_cons (For_invV s.heap rfl rfl ?_)
  iterate 17 walk1
  rename IsRange _ _ _ _ _ _ _ _ => hr
  rename Fr _ _ _ _ => F
  rename News _ _ _ _ => N
  refine iter_rangeJ (n := c) (fun i m news => ∃ u b, m = mixM [Str.ofString "i", Str.ofString "j"] u (fun y => if y = Str.ofString "swapped_data" then some (Value.ref a) else List.lookup y [(Str.ofString "data", Value.bytes data t1), (Str.ofString "width", Value.int (n : Int) t2)].reverse) ∧ news = [(a, baObj b)] ∧ Sw data b n (fun k => k < i * n))
    hA hr (small_range (by omega) (by omega) (by omega) (by omega) (by omega) (by omega)) (rangeSize_step (by omega) (by rw [hc]; simp)) F N ⟨_, _, mix_self _ _, rfl, sw_start data n⟩ ?_ ?_
  · rintro i t m₁ news₁ h tk own hi hadr hoff ⟨u, b, rfl, rfl, H⟩ F₁ N₁
    clear F N hr
    refine wpAny_execs_cons (For_invV s.heap rfl rfl ?_)
    iterate 7 walk1
    rename IsRange _ _ _ _ _ _ _ _ => hr
    rename Fr _ _ _ _ => F
    rename News _ _ _ _ => N
    have hsz : (i : Nat) * n + n ≤ data.size := by
      rw [hc, ← Nat.succ_mul]; exact Nat.mul_le_mul_right _ hi
    refine iter_rangeJ (n := n) (fun j m news => ∃ u' b, m = mixM [Str.ofString "j"] u' (fun y => if y = Str.ofString "i" then some (Value.int (0 + (i : Int) * n) t) else mixM [Str.ofString "i", Str.ofString "j"] u (fun y => if y = Str.ofString "swapped_data" then some (Value.ref a) else List.lookup y [(Str.ofString "data", Value.bytes data t1), (Str.ofString "width", Value.int (n : Int) t2)].reverse) y) ∧ news = (a, baObj b) :: own ∧ Sw data b n (fun k => k < i * n ∨ (k < i * n + n ∧ i * n + n ≤ k + j)))
      hA hr (small_range (by omega) (by omega) (by omega) (by omega) (by omega) (by omega)) ((rangeSize_one (by omega)).trans (by omega)) F N ⟨_, _, mix_self _ _, rfl, sw_in H⟩ ?_ ?_
    · rintro j t' m₁ news₁ h3 tk3 own3 hj hadr3 hoff3 ⟨u', b', rfl, rfl, H'⟩ F₃ N₃
      clear F N hr
      refine wpAny_execs_cons (wpAny_Assign_Subscript ?_)
      iterate 6 walk1
      have e1 : 0 + (i : Int) * n + (0 + (j : Int) * 1) = ((i * n + j : Nat) : Int) := by push_cast; omega
      rw [e1]
      refine item_bytesA (by omega) (by omega) (by omega) ?_
      intro x k hx
      rw [show (((i * n + j : Nat) : Int)).toNat = i * n + j from rfl] at hx
      iterate 11 walk1
      have e2 : 0 + (i : Int) * n + n - 1 - (0 + (j : Int) * 1) = ((i * n + (n - 1 - j) : Nat) : Int) := by
        have : ((n - 1 - j : Nat) : Int) = (n : Int) - 1 - j := by omega
        push_cast; rw [this]; omega
      rw [e2]
      rename Fr _ _ _ _ => F
      refine ba_setItemN F N₃ ?_ (by omega) ?_ ?_ (by omega) ?_ ?_
      · intro p hp
        rcases List.mem_append.mp hp with hp | hp
        · exact hoff p hp a (by simp)
        · exact hoff3 p hp a (by simp)
      · rw [H'.size]; omega
      · rw [H'.size]; omega
      · have := x.toNat_lt; omega
      · intro h4 F4 N4
        refine wpAny_execs_nil ?_
        show InvEndN _ _ _ _ _ _ _
        refine InvEndN.intro (nx := (a, baObj (b'.setIfInBounds ((i * n + (n - 1 - j) : Nat) : Int).toNat ((x.toNat : Int)).toNat.toUInt8)) :: own) F4 N4 ?_ rfl (fun p hp => List.mem_append_left own3 hp) (fun p hp => List.mem_append_right (_ :: own) hp)
        refine ⟨_, _, by funext y; simp only [mix_set (S := [Str.ofString "j"]) (x := Str.ofString "j") rfl]; rfl, rfl, ?_⟩
        rw [show ((i * n + (n - 1 - j) : Nat) : Int).toNat = i * n + (n - 1 - j) from rfl, show ((x.toNat : Int)).toNat.toUInt8 = x from by simp]
        exact sw_step hj hsz hx H'
    · rintro m₁ news₁ h3 tk3 ⟨u', b', rfl, rfl, H'⟩ F₃ N₃
      refine wpAny_execs_nil ?_
      show InvEndN _ _ _ _ _ _ _
      refine InvEndN.intro (nx := [(a, baObj b')]) F₃ N₃ ?_ rfl (fun p hp => List.mem_append_left own hp) (fun p hp => List.mem_cons_of_mem _ hp)
      refine ⟨fun z => if z = Str.ofString "j" then u' z else if z = Str.ofString "i" then some (Value.int (0 + (i : Int) * n) t) else u z, _, ?_, rfl, sw_out H'⟩
      funext y
      simp only [mixM]
      by_cases h1 : y = Str.ofString "j"
      · subst h1; rfl
      · by_cases h2 : y = Str.ofString "i"
        · subst h2; rfl
        · simp [h1, h2]
  · rintro m₁ news₁ h3 tk3 ⟨u', b', rfl, rfl, H'⟩ F₃ N₃
    refine wpAny_execs_cons ?_
    clear F N hr
    iterate 7 walk1
    rename Fr _ _ _ _ => F
    exact bytes_of_ba (N₃ _ (List.mem_cons_self ..)).1 (by rw [H'.size]; omega) fun t k => hQ _ _ _ _ (Kp.of_fr F) H'
end Mine
end

section
theorem Mine.freshT1 : True := by
  w_top off
  trivial
open PySem PySem.W PyProof.Rows PySem.Calls PySem.Spec
namespace Mine
set_option maxRecDepth 100000
set_option maxHeartbeats 4000000
def tapeF (t q : List Nat) : List Nat := t ++ q ++ t.reverse
def tapeL : List (List Nat) → List Nat
  | [] => []
  | p :: ps => ps.foldl tapeF p
abbrev mkS (l : List Nat) : Str := ⟨l.toArray⟩
theorem strs_at : ∀ {vs : List Value} {ys : List Str} {i : Nat} {v : Value}, StrsAre vs ys → vs[i]? = some v → ∃ y t, ys[i]? = some y ∧ v = .str y t
  | _, _, 0, _, .cons y t _, e => ⟨y, t, rfl, by simpa using e.symm⟩
  | _, _, i + 1, _, .cons _ _ r, e => strs_at (i := i) r (by simpa using e)
section
variable {w : World} {A : Around} {s : Shared} {g : Heap} {loose : List Str} {mean : ExcName → Option Value} {mg mb : Str → Option Value} {Q : Value → Shared → Prop} {E : Value → Shared → Prop}
theorem ltp {p : List Nat} {ps : List (List Nat)} {v : Value} {vs : List Value} {a : Addr} (hp : ∀ q ∈ p :: ps, (∀ c ∈ q, c < 256) ∧ q.length ≤ 20 ∧ 0 < q.length) (hps : ps.length ≤ 3) (hl : s.heap.IsList a (v :: vs).toArray) (hv : StrsAre (v :: vs) ((p :: ps).map mkS))
   (hA : A.handled = none) (hdp : A.depth + 8 < recursionLimit) (X : (hd.heap_39 w.params).In s.heap) (T : Top topProg loose mean mg mb s.heap)
   (hQ : ∀ h' tk u, Kp s.heap h' → Q (.bytes (octs (tapeL (p :: ps))) u) { s with heap := h', toks := tk }) :
   wpC (model PySem.Challenge.rw_pe0049_01.row.prog w) A (call (.ref 94) [.ref a]) Q E s := by
  revert X; k_fill; intro X
  refine' enterC (g := s.heap) (l := []) (binds := [(Str.ofString "pieces", .ref a)]) ⟨fun _ _ h => h, Nat.le_refl _⟩ (fun _ h => nomatch h) X T ?k6 ?k7 ?k8 ?k9 ?kB ?_ ?c5 ?c2 ?c3 ?c4
  case k6 => k_is
  case k7 => k_is
  case k8 => exact Nat.lt_of_le_of_lt (Nat.le_add_right _ _) hdp
  case k9 => exact BindsTo.of_eq rfl
  case kB => exact locs rfl
  case c5 => decide
  case c2 => exact rfl
  case c3 => exact rfl
  case c4 => exact rfl
  intro L h1 F N lt
  have hl1 := F.lst hl
  cases hv with
  | @cons _ tv _ _ hvs =>
  refine execs_consC (.of_any ?_)
  iterate 8 walk1
  refine item_litK hl1 (by decide) (by decide) rfl ?_
  walk1
  refine ⟨X.keeps F.keep, ?_⟩
  refine lo (hp p (List.mem_cons_self ..)).1 (by have := (hp p (List.mem_cons_self ..)).2.1; omega) hA (dpt hdp (by decide)) (X.keeps F.keep) (T.keeps F.keep) ?_
  intro h2 tk2 u2 hk2
  have F2 := F.after hk2.keep
  have N2 := Nafter N hk2.keep
  clear F N hl1
  walk1
  rename Fr _ _ _ _ => F
  rename News _ _ _ _ => N
  have hl1 := F.lst hl
  refine execs_consC (ForC ?_)
  iterate 7 walk1
  refine kmk_slice (s := ⟨_, s.gens, s.drawn, _, s.os⟩) F N hl1 (IsPart.int 1 _) .none ?_ (by with_unfolding_all rfl) (by intro _; with_unfolding_all rfl) ?_
  · intro D h3 F3 N3 lt3
    rw [show (some (1 : Int)) = some ((1 : Nat) : Int) from rfl, slicePick_from'] at N3
    clear F N hl1
    have hvl : vs.length = ps.length := by have := hvs.length; rwa [List.length_map] at this
    have hsz1 : (((Value.str (mkS p) tv :: vs).toArray.toList.drop 1).toArray).size = ps.length := by
      show vs.length = _
      exact hvl
    refine srcC (g := s.heap) (m := fun y => if y = Str.ofString "tape" then some (Value.bytes (octs p) u2) else List.lookup y [(Str.ofString "pieces", Value.ref a)].reverse) (src_list hA F3 N3 (.inr ⟨_, List.mem_cons_self .., rfl, _, rfl⟩)) F3 N3 (.inr ⟨_, List.mem_cons_self .., rfl, _, rfl⟩) rfl rfl
      (fun i m news => ∃ tt u b, m = (fun y => if y = Str.ofString "tape" then some (.bytes (octs tt) b) else mixM [Str.ofString "piece"] u (fun y => List.lookup y [(Str.ofString "pieces", Value.ref a)].reverse) y) ∧ news = [(D, W.listOf (((Value.str (mkS p) tv :: vs).toArray.toList.drop 1).toArray) 0)] ∧ tt = (ps.take i).foldl tapeF p ∧ (∀ c ∈ tt, c < 256) ∧ tt.length + 20 ≤ 40 * 2 ^ i ∧ 0 < tt.length)
      ⟨p, _, _, by rw [← mix_self], rfl, rfl, (hp p (List.mem_cons_self ..)).1, by have := (hp p (List.mem_cons_self ..)).2.1; omega, (hp p (List.mem_cons_self ..)).2.2⟩ ?_ ?_
    · rintro i v I oI m₁ news₁ h4 tk4 hi hv4 ⟨tt, u, b, rfl, rfl, htt, htc, htl, htp⟩ hS4 F4 N4 off4 hI
      clear F3 N3
      rw [hsz1] at hi
      have hvi : vs[i]? = some v := by simpa using hv4
      obtain ⟨q, hq⟩ : ∃ q, ps[i]? = some q := ⟨_, List.getElem?_eq_getElem hi⟩
      obtain ⟨tq, rfl⟩ : ∃ tq, v = .str (mkS q) tq := by
        obtain ⟨y, t, hy, rfl⟩ := strs_at hvs hvi
        rw [List.getElem?_map, hq] at hy
        cases hy
        exact ⟨t, rfl⟩
      have hqm : q ∈ p :: ps := List.mem_cons_of_mem _ (List.mem_of_getElem? hq)
      obtain ⟨hq1, hq2, hq3⟩ := hp q hqm
      have hpw : 2 ^ i ≤ 4 := by
        have : i = 0 ∨ i = 1 ∨ i = 2 := by omega
        rcases this with rfl | rfl | rfl <;> decide
      refine execs_consC (assignC (binOpC ?_))
      clear hI
      iterate 8 walk1
      refine ⟨X.keeps F4.keep, ?_⟩
      refine lo hq1 (by omega) hA (dpt hdp (by decide)) (X.keeps F4.keep) (T.keeps F4.keep) ?_
      intro h5 tk5 u5 hk5
      have F5 := F4.after hk5.keep
      have N5 := Nafter N4 hk5.keep
      clear F4 N4
      refine KBy.add_bytes (by rw [octs_size, octs_size]; omega) ?_
      intro t6 k6
      rw [octs_app]
      refine callC_ ?_
      walk1
      refine callWithC (P := (hd.heap_39 w.params).In) (fun h X => let ⟨k, _, L⟩ := keeps_K (by k_is) h X; ⟨k, L⟩) ?_
      iterate 9 walk1
      refine len_bytes (by rw [octs_size]; omega) ?_
      walk1
      refine ⟨X.keeps F5.keep, ?_⟩
      rw [octs_size]
      refine bs (n := tt.length) (c := 1) hA (dpt1 hdp (by decide)) (X.keeps F5.keep) (T.keeps F5.keep) (by rw [octs_size]; omega) htp (by rw [octs_size, Nat.one_mul]) (by omega) ?_
      intro b' t' h6 tk6 hk6 hsw
      have F6 := F5.after hk6.keep
      have N6 := Nafter N5 hk6.keep
      clear F5 N5
      rw [sw_rev htp hsw]
      refine KBy.add_bytes (by rw [octs_size, octs_size, List.length_append, List.length_reverse]; omega) ?_
      intro t7 k7
      rw [octs_app]
      refine .of_any ?_
      walk1
      rename Fr _ _ _ _ => F7
      rename News _ _ _ _ => N7
      refine .of_any (wpAny_execs_nil ?_)
      refine ⟨_, _, _, _, rfl, F7, N7, off4, hS4, tapeF tt q, _, _, mix1, rfl, ?_, ?_, ?_, ?_⟩
      · rw [List.take_add_one, hq, Option.toList_some, List.foldl_append, ← htt]; rfl
      · intro c hc
        unfold tapeF at hc
        simp only [List.mem_append, List.mem_reverse] at hc
        rcases hc with (hc | hc) | hc
        · exact htc c hc
        · exact hq1 c hc
        · exact htc c hc
      · unfold tapeF; simp only [List.length_append, List.length_reverse]; rw [Nat.pow_succ]; omega
      · unfold tapeF; simp only [List.length_append, List.length_reverse]; omega
    · rintro m₁ news₁ h4 tk4 ⟨tt, u, b, rfl, rfl, htt, htc, htl, htp⟩ F4 N4
      clear F3 N3
      refine .of_any ?_
      iterate 3 walk1
      rw [hsz1, List.take_length] at htt
      subst htt
      exact hQ _ _ _ (Kp.of_fr F4)
  · show (Value.str (mkS p) tv :: vs).length ≤ _
    have hvl : vs.length = ps.length := by have := hvs.length; rwa [List.length_map] at this
    rw [List.length_cons, hvl, sizeLine_eq]; omega
end
end Mine
end

section
theorem Mine.freshWh : True := by
  w_top off
  trivial
open PySem PySem.W PyProof.Rows PySem.Calls PySem.Spec
namespace Mine
section
variable {prog : Program} {w : World} {A : Around} {E : Value → Shared → Prop} {s : Shared} {env : Env}
theorem whileA {test : Expr} {body : List Stmt} {pos : Pos} {Q : Flow → Shared → Prop} (I : Nat → Shared → Prop)
    (turn : ∀ n s, I n s → wpAny (model prog w) A (isTrue test env (eval test env)) (fun b s₂ =>
        if b then wpAny (model prog w) A (execs body env) (fun f s₃ => match f with
            | .next | .cont => ∃ m, m < n ∧ I m s₃
            | .brk => Q .next s₃
            | .ret v => Q (.ret v) s₃) (fun _ _ => False) s₂
        else Q .next s₂) (fun _ _ => False) s)
    (n : Nat) (h : I n s) : wpAny (model prog w) A (exec (.While test body [] pos) env) Q E s := by
  refine wpAny_While (codeAny_whileLoop I (fun n s hI => wpAny_mono (turn n s hI) (fun b s₂ h₂ => ?_) fun _ _ x => x.elim) n h)
  cases b with
  | false =>
    simp only [Bool.false_eq_true, if_false] at h₂ ⊢
    exact wpAny_execs_nil h₂
  | true =>
    simp only [if_true] at h₂ ⊢
    exact wpAny_mono h₂ (fun f s₃ h₃ => by cases f <;> exact h₃) fun _ _ x => x.elim
end
theorem shadow2 {a b : Str} {x y x' y' : Option Value} {m : Str → Option Value} : (fun n => if n = a then x else if n = b then y else if n = a then x' else if n = b then y' else m n) = fun n => if n = a then x else if n = b then y else m n := by
  funext n
  by_cases h : n = a
  · simp only [if_pos h]
  · by_cases h2 : n = b
    · simp only [if_neg h, if_pos h2]
    · simp only [if_neg h, if_neg h2]
theorem mix2 {a k l : Str} {v v' c d : Option Value} {u m : Str → Option Value} :
    (fun y => if y = a then v else if y = l then d else if y = k then c else if y = a then v' else mixM [k, l] u m y) = fun y => if y = a then v else mixM [k, l] (fun z => if z = l then d else if z = k then c else u z) m y := by
  funext y
  by_cases h : y = a
  · simp only [if_pos h]
  · simp only [if_neg h]
    by_cases h2 : y = k
    · simp [mixM, h2]
    · by_cases h3 : y = l
      · simp [mixM, h3]
      · simp [mixM, h2, h3]
theorem rev_is (l : List Nat) (u : Tok) : Txt.sliceBy ⟨l.toArray⟩ none none (-1, u) = ⟨l.reverse.toArray⟩ := by
  have h := step_rev_list ⟨l.toArray⟩ u
  have e : (Txt.sliceBy ⟨l.toArray⟩ none none (-1, u)).cps.toList = l.reverse := by
    rw [h]
    apply List.ext_getElem?
    intro i
    simp only [Str.length, List.size_toArray, List.getElem?_map]
    by_cases hi : i < l.length
    · rw [List.getElem?_range hi, List.getElem?_reverse hi, Option.map_some]
      have : l.length - 1 - i < l.length := by omega
      simp [this]
    · rw [List.getElem?_eq_none (by simpa using hi), List.getElem?_eq_none (by simpa using hi)]; rfl
  generalize Txt.sliceBy ⟨l.toArray⟩ none none (-1, u) = z at e
  obtain ⟨⟨z⟩⟩ := z
  simp only at e
  rw [e]
theorem slice_rev {prog : Program} {w : World} {A : Around} {E : Value → Shared → Prop} {h₀ h : Heap} {L : Addr} {m : Str → Option Value} {news : List (Addr × Obj)} {gs : Array GenState} {dr : Drawn} {tk : Nat} {os : OsState} {value slice : Expr} {l : List Nat} {t uk : Tok} {Q : Value → Shared → Prop}
    (hz : l.length ≤ 16777216) (hF : Fr h₀ L h m) (hN : News h₀ L h news) (k : ∀ h' t' k, Fr h₀ L h' m → News h₀ L h' news → Q (.str ⟨l.reverse.toArray⟩ t') ⟨h', gs, dr, k, os⟩)
    (hs : subscripted slice false (.str ⟨l.toArray⟩ t) (.ref h.objs.size) = operate [.ref h.objs.size, .str ⟨l.toArray⟩ t] (getItem (.str ⟨l.toArray⟩ t) (.ref h.objs.size)) := by with_unfolding_all rfl)
    (ht : ∀ r, letTemporaryGo value (.str ⟨l.toArray⟩ t) r = pure () := by intro _; with_unfolding_all rfl) :
    wpAny (model prog w) A (subscriptTail value slice (.str ⟨l.toArray⟩ t) (.ref h.objs.size)) Q E ⟨h.push { cls := .type "slice", data := .fields #[.none, .none, .int (-1) uk] }, gs, dr, tk, os⟩ :=
  slice_strK_nn (s := ⟨h, gs, dr, tk, os⟩) hF hN rfl (fun h' t' c F' N' => by rw [rev_is]; exact k h' t' c F' N') hs ht (by rw [sizeLine_eq]; show l.toArray.size ≤ _; rw [List.size_toArray]; exact hz)
/-- m is o, odd, times 2 to the j -/
structure Odd2 (m o j : Nat) : Prop where
  eq : m = o * 2 ^ j
  odd : o % 2 = 1
end Mine
end

section
theorem Mine.freshCf : True := by
  w_top off
  trivial
open PySem PySem.W PyProof.Rows PySem.Calls PySem.Spec
namespace Mine
theorem mix_two {a b : Str} {v x : Option Value} {u m : Str → Option Value} :
    (fun y => if y = b then v else if y = a then x else mixM [a, b] u m y) = mixM [a, b] (fun z => if z = b then v else if z = a then x else u z) m := by
  funext y
  by_cases h2 : y = b
  · simp [mixM, h2]
  · by_cases h3 : y = a
    · simp [mixM, h3]
    · simp [mixM, h2, h3]
theorem mix_three {k i l : Str} {v : Option Value} {u u' m : Str → Option Value} :
    mixM [i, l] u' (fun y => if y = k then v else mixM [k, i, l] u m y) = mixM [k, i, l] (fun z => if [i, l].contains z = true then u' z else if z = k then v else u z) m := by
  funext y
  by_cases h1 : y = i
  · simp [mixM, h1]
  · by_cases h2 : y = l
    · simp [mixM, h2]
    · by_cases h3 : y = k
      · subst h3; simp [mixM, h1, h2]
      · simp [mixM, h1, h2, h3]
/-- a word as drawn or backwards -/
def facing (o : Nat) (q : List Nat) : List Nat := if o % 4 = 1 then q else q.reverse
/-- the word at crease m, the words from the k-th on -/
def cre (ws : List (List Nat)) (k m : Nat) : List Nat :=
  if h : m = 0 then [] else if m % 2 = 1 then facing m (ws.getD k []) else cre ws (k + 1) (m / 2)
termination_by m
decreasing_by omega
theorem cre_odd {ws : List (List Nat)} {k m : Nat} (h : m % 2 = 1) : cre ws k m = facing m (ws.getD k []) := by
  rw [cre, dif_neg (by omega), if_pos h]
theorem cre_even {ws : List (List Nat)} {k m : Nat} (h : 0 < m) : cre ws k (2 * m) = cre ws (k + 1) m := by
  rw [cre, dif_neg (by omega), if_neg (by omega), show 2 * m / 2 = m from by omega]
theorem cre_at {ws : List (List Nat)} {o : Nat} (h : o % 2 = 1) : ∀ j k, cre ws k (o * 2 ^ j) = facing o (ws.getD (k + j) [])
  | 0, k => by rw [Nat.pow_zero, Nat.mul_one]; exact cre_odd h
  | j + 1, k => by
    have h0 : 0 < o * 2 ^ j := Nat.mul_pos (by omega) (Nat.two_pow_pos j)
    rw [Nat.pow_succ, ← Nat.mul_assoc, Nat.mul_comm, cre_even h0, cre_at h j (k + 1), show k + 1 + j = k + (j + 1) from by omega]
theorem odd2 : ∀ m, 0 < m → ∃ o j, Odd2 m o j := by
  intro m
  induction m using Nat.strongRecOn with
  | ind m ih =>
    intro hm
    by_cases h : m % 2 = 1
    · exact ⟨m, 0, by simp, h⟩
    · obtain ⟨o, j, e, ho⟩ := ih (m / 2) (by omega) (by omega)
      exact ⟨o, j + 1, by rw [Nat.pow_succ, ← Nat.mul_assoc, ← e]; omega, ho⟩
theorem odd2_lt {m o j K : Nat} (h : Odd2 m o j) (hm : m < 2 ^ K) : j < K := by
  have h1 : 1 ≤ o := by have := h.odd; omega
  have h2 : 2 ^ j ≤ m := by rw [h.eq]; exact Nat.le_mul_of_pos_left _ h1
  exact (Nat.pow_lt_pow_iff_right (by decide)).mp (Nat.lt_of_le_of_lt h2 hm)
/-- the line while round k has put out i words -/
def lineQ (ws : List (List Nat)) (k N i : Nat) : List (List Nat) := ((List.range (N - i)).map fun x => cre ws k (i + x + 1)) ++ (List.range (i / 2)).map fun x => cre ws (k + 1) (x + 1)
theorem lineQ_start (ws : List (List Nat)) (k N : Nat) : lineQ ws k N 0 = (List.range N).map fun x => cre ws k (x + 1) := by
  unfold lineQ; simp
theorem lineQ_end (ws : List (List Nat)) (k N : Nat) : lineQ ws k N N = (List.range (N / 2)).map fun x => cre ws (k + 1) (x + 1) := by
  unfold lineQ; simp
theorem lineQ_cons {ws : List (List Nat)} {k N i : Nat} (h : i < N) : lineQ ws k N i = cre ws k (i + 1) :: (((List.range (N - (i + 1))).map fun x => cre ws k (i + 1 + x + 1)) ++ (List.range (i / 2)).map fun x => cre ws (k + 1) (x + 1)) := by
  unfold lineQ
  rw [show N - i = (N - (i + 1)) + 1 from by omega, List.range_succ_eq_map, List.map_cons, List.map_map, List.cons_append]
  congr 2
  apply List.map_congr_left
  intro x _
  show cre ws k (i + (x + 1) + 1) = _
  rw [show i + (x + 1) + 1 = i + 1 + x + 1 from by omega]
theorem lineQ_keep {ws : List (List Nat)} {k N i : Nat} (h : i < N) (he : i % 2 = 0) : lineQ ws k N i = cre ws k (i + 1) :: lineQ ws k N (i + 1) := by
  rw [lineQ_cons h]; unfold lineQ; rw [show (i + 1) / 2 = i / 2 from by omega]
theorem lineQ_push {ws : List (List Nat)} {k N i : Nat} (h : i < N) (he : i % 2 = 1) : ∃ r, lineQ ws k N i = cre ws k (i + 1) :: r ∧ lineQ ws k N (i + 1) = r ++ [cre ws k (i + 1)] := by
  refine ⟨_, lineQ_cons h, ?_⟩
  unfold lineQ
  rw [show (i + 1) / 2 = i / 2 + 1 from by omega, List.range_succ, List.map_append, List.append_assoc]
  congr 2
  show [cre ws (k + 1) (i / 2 + 1)] = _
  rw [← cre_even (by omega), show 2 * (i / 2 + 1) = i + 1 from by omega]
end Mine
end

section
theorem Mine.freshK1 : True := by
  w_top off
  trivial
open PySem PySem.W PyProof.Rows PySem.Calls PySem.Spec
namespace Mine
set_option maxRecDepth 100000
set_option maxHeartbeats 4000000
section
variable {w : World} {A : Around} {s : Shared} {g : Heap} {loose : List Str} {mean : ExcName → Option Value} {mg mb : Str → Option Value} {Q : Value → Shared → Prop} {E : Value → Shared → Prop}
theorem lcr {vs : List Value} {ps : List (List Nat)} {q : List Nat} {a : Addr} {m o j : Nat} {t : Tok} (hm : Odd2 m o j) (hmz : m ≤ 100) (hq : ps[j]? = some q) (hqz : q.length ≤ 1000) (hpz : ps.length ≤ 100) (hl : s.heap.IsList a vs.toArray) (hv : StrsAre vs (ps.map mkS))
   (hA : A.handled = none) (hdp : A.depth + 8 < recursionLimit) (X : (hd.heap_39 w.params).In s.heap) (T : Top topProg loose mean mg mb s.heap)
   (hQ : ∀ h' tk u, Kp s.heap h' → Q (.str (mkS (facing o q)) u) { s with heap := h', toks := tk }) :
   wpAny (model PySem.Challenge.rw_pe0049_01.row.prog w) A (call (.ref 108) [.ref a, .int m t]) Q E s := by
  revert X; k_fill; intro X
  refine' enterK (g := s.heap) (l := []) (binds := [(Str.ofString "words", .ref a), (Str.ofString "m", .int m t)]) ⟨fun _ _ h => h, Nat.le_refl _⟩ (fun _ h => nomatch h) X T ?k6 ?k7 ?k8 ?k9 ?kB ?_ ?c5 ?c2 ?c3 ?c4
  case k6 => k_is
  case k7 => k_is
  case k8 => exact Nat.lt_of_le_of_lt (Nat.le_add_right _ _) hdp
  case k9 => exact BindsTo.of_eq rfl
  case kB => exact locs rfl
  case c5 => decide
  case c2 => exact rfl
  case c3 => exact rfl
  case c4 => exact rfl
  intro L h1 F N lt
  iterate 9 walk1
  rename Fr _ _ _ _ => F
  rename News _ _ _ _ => N
  dsimp only at F ⊢
  refine wpAny_execs_cons (whileA (fun n s' => ∃ h tk i u1 u2, i + n = j ∧ s' = { s with heap := h, toks := tk } ∧ Fr s.heap L h (fun y => if y = Str.ofString "j" then some (.int (i : Nat) u1) else if y = Str.ofString "odd" then some (.int ((o * 2 ^ (j - i) : Nat) : Int) u2) else List.lookup y [(Str.ofString "words", .ref a), (Str.ofString "m", .int (m : Int) t)].reverse) ∧ News s.heap L h []) ?_ j ?_)
  · rintro n s' ⟨h, tk, i, u1, u2, hin, rfl, F', N'⟩
    clear F N
    iterate 8 walk1
    dsimp only
    cases n with
    | zero =>
      have eb : ((((o * 2 ^ (j - i) : Nat) : Int).fmod 2) == 0) = false := by
        rw [fmod2, show j - i = 0 from by omega, Nat.pow_zero, Nat.mul_one, hm.odd]; rfl
      rw [eb, if_neg Bool.false_ne_true]
      clear eb
      obtain rfl : i = j := by omega
      rw [Nat.sub_self, Nat.pow_zero, Nat.mul_one] at F'
      obtain ⟨v, hvi⟩ : ∃ v, vs[i]? = some v := by
        have hlt : i < ps.length := (List.getElem?_eq_some_iff.mp hq).1
        have := hv.length
        rw [List.length_map] at this
        exact ⟨_, List.getElem?_eq_getElem (by omega)⟩
      obtain ⟨y, tq, hy, rfl⟩ := strs_at hv hvi
      rw [List.getElem?_map, hq] at hy
      cases hy
      have hl' := F'.lst hl
      have hiz : i < ps.length := (List.getElem?_eq_some_iff.mp hq).1
      iterate 11 walk1
      dsimp only
      have e4 : ((((o : Nat) : Int).fmod 4) == 1) = decide (o % 4 = 1) := by
        rw [show (((o : Nat) : Int).fmod 4) = ((o % 4 : Nat) : Int) from fm_ o 4]
        by_cases he : o % 4 = 1
        · rw [he]; rfl
        · rw [decide_eq_false he, beq_eq_false_iff_ne]; omega
      rw [e4]
      unfold facing at hQ
      by_cases he : o % 4 = 1
      · rw [if_pos (decide_eq_true he)]
        rw [if_pos he] at hQ
        iterate 3 walk1
        refine item_litK hl' (by omega) (by omega) (by simpa using hvi) ?_
        exact hQ _ _ _ (Kp.of_fr F')
      · rw [if_neg (by simpa using he)]
        rw [if_neg he] at hQ
        iterate 4 walk1
        refine item_litK hl' (by omega) (by omega) (by simpa using hvi) ?_
        iterate 7 walk1
        refine slice_rev (by omega) F' N' ?_
        intro h' t' k' F'' _
        exact hQ _ _ _ (Kp.of_fr F'')
    | succ n =>
      have eb : ((((o * 2 ^ (j - i) : Nat) : Int).fmod 2) == 0) = true := by
        rw [fmod2, show j - i = (j - i - 1) + 1 from by omega, Nat.pow_succ, ← Nat.mul_assoc, Nat.mul_mod_left]; rfl
      rw [eb, if_pos rfl]
      iterate 14 walk1
      rename Fr _ _ _ _ => F
      rename News _ _ _ _ => N
      have e1 : (((o * 2 ^ (j - i) : Nat) : Int).fdiv 2) = ((o * 2 ^ (j - (i + 1)) : Nat) : Int) := by
        rw [show (((o * 2 ^ (j - i) : Nat) : Int).fdiv 2) = ((o * 2 ^ (j - i) / 2 : Nat) : Int) from fd_ _ 2, show j - i = (j - (i + 1)) + 1 from by omega, Nat.pow_succ, ← Nat.mul_assoc, Nat.mul_div_cancel _ (by decide)]
      rw [e1] at F
      walk1
      rename Fr _ _ _ _ => F
      rename News _ _ _ _ => N
      rw [shadow2] at F
      exact wpAny_execs_nil ⟨n, Nat.lt_succ_self _, _, _, i + 1, _, _, by omega, rfl, F, N⟩
  · have e0 : ((o * 2 ^ (j - 0) : Nat) : Int) = m := by rw [Nat.sub_zero, ← hm.eq]
    refine' ⟨_, _, 0, ?u1, ?u2, Nat.zero_add _, rfl, ?F, N⟩
    case F => rw [e0]; exact F
end
end Mine
end

section
theorem Mine.freshM2 : True := by
  w_top off
  trivial
open PySem PySem.W PyProof.Rows PySem.Calls PySem.Spec
namespace Mine
set_option maxRecDepth 100000
set_option maxHeartbeats 4000000
section
variable {w : World} {A : Around} {s : Shared} {g : Heap} {L : Addr} {m : Str → Option Value} {loose : List Str} {mean : ExcName → Option Value} {mg mb : Str → Option Value} {Q : Value → Shared → Prop} {E : Value → Shared → Prop}
   {text : Str} {M : Mc} {npb : Nat} {line : Int} {tl tp : Tok} {r t r' : List Nat} {rest : List (Addr × Obj)}
theorem lexF {its : Array Value} {p : Nat} {h : Heap} (ok : M.Ok w loose mean mg mb text) (F : Fr g L h m) (N : News g L h (rest ++ (M.top w its npb line tl ++ M.bot p tp))) (hrest : ∀ p ∈ rest, (M.pb2 < (p.1 : Nat))) :
    ∃ g', Kp g' h ∧ Own g' h (lexL w M.k1 M.k2 M.k3 M.k4 tl M.tw M.x2 M.d2 M.pb2 (.ref M.x1) line its npb) ∧ (∀ b o, g.get? b = some o → g'.get? b = some o) ∧
      ∀ h' its' npb', Kp g' h' → Own g' h' (lexL w M.k1 M.k2 M.k3 M.k4 tl M.tw M.x2 M.d2 M.pb2 (.ref M.x1) line its' npb') → Fr g L h' m ∧ News g L h' (rest ++ (M.top w its' npb' line tl ++ M.bot p tp)) := by
  have hord := ok.ord
  have N1 : News g L h (lexL w M.k1 M.k2 M.k3 M.k4 tl M.tw M.x2 M.d2 M.pb2 (.ref M.x1) line its npb ++ (rest ++ ([(M.pb1, W.listOf #[] 0), (M.x1, instObj 52 M.d1), (M.d1, dictOf (lexR w M.j1 M.j2 M.j3 M.j4 M.j5 M.tl1 M.tw1 M.pb1 M.f) 5)] ++ M.bot p tp))) := News.sub N fun x hx => by
    rcases List.mem_append.mp hx with hx | hx
    · exact List.mem_append_right _ (List.mem_append_left _ (List.mem_append_left [(M.pb1, W.listOf #[] 0), (M.x1, instObj 52 M.d1), (M.d1, dictOf (lexR w M.j1 M.j2 M.j3 M.j4 M.j5 M.tl1 M.tw1 M.pb1 M.f) 5)] hx))
    · rcases List.mem_append.mp hx with hx | hx
      · exact List.mem_append_left _ hx
      · rcases List.mem_append.mp hx with hx | hx
        · exact List.mem_append_right _ (List.mem_append_left _ (List.mem_append_right (lexL w M.k1 M.k2 M.k3 M.k4 tl M.tw M.x2 M.d2 M.pb2 (.ref M.x1) line its npb) hx))
        · exact List.mem_append_right _ (List.mem_append_right _ hx)
  obtain ⟨g', hK, hO, hst, _, _, back⟩ := split_ F N1 (by
    intro x hx
    rcases List.mem_append.mp hx with hx | hx
    · refine off_of_le (b := M.pb2) (fun y hy => ?_) (hrest x hx)
      simp only [List.mem_cons, List.not_mem_nil, or_false] at hy
      rcases hy with rfl | rfl | rfl <;> show (_ : Nat) ≤ _ <;> omega
    · refine off_of_ge (b := M.d2) (fun y hy => ?_) ?_
      · simp only [List.mem_cons, List.not_mem_nil, or_false] at hy
        rcases hy with rfl | rfl | rfl <;> show (_ : Nat) ≤ _ <;> omega
      · rcases List.mem_append.mp hx with hx | hx
        · simp only [List.mem_cons, List.not_mem_nil, or_false] at hx
          rcases hx with rfl | rfl | rfl <;> show (_ : Nat) < _ <;> omega
        · have h1 := (ok.bot_le x hx).2.1
          exact Nat.lt_of_le_of_lt h1 (by omega))
  refine ⟨g', hK, hO, hst, fun h' its' npb' hK' hO' => ⟨(back _ _ hK' hO').1, News.sub (back _ _ hK' hO').2 fun x hx => ?_⟩⟩
  rcases List.mem_append.mp hx with hx | hx
  · exact List.mem_append_right _ (List.mem_append_left _ hx)
  · rcases List.mem_append.mp hx with hx | hx
    · have hx' : x ∈ lexL w M.k1 M.k2 M.k3 M.k4 tl M.tw M.x2 M.d2 M.pb2 (.ref M.x1) line its' npb' ++ [(M.pb1, W.listOf #[] 0), (M.x1, instObj 52 M.d1), (M.d1, dictOf (lexR w M.j1 M.j2 M.j3 M.j4 M.j5 M.tl1 M.tw1 M.pb1 M.f) 5)] := hx
      rcases List.mem_append.mp hx' with hx | hx
      · exact List.mem_append_left _ hx
      · exact List.mem_append_right _ (List.mem_append_right _ (List.mem_append_left _ hx))
    · exact List.mem_append_right _ (List.mem_append_right _ (List.mem_append_right _ hx))
theorem getTokF (ok : M.Ok w loose mean mg mb text) (hlx : LX r t r') (hrem : Rem text r)
   (hA : A.handled = none) (hdp : A.depth + 4 < recursionLimit) (X : (hd.heap_39 w.params).In g) (T : Top topProg loose mean mg mb g) (F : Fr g L s.heap m) (N : News g L s.heap (rest ++ (M.top w #[] npb line tl ++ M.bot (posOf text r) tp)))
   (hrest : ∀ p ∈ rest, (M.pb2 < (p.1 : Nat))) (hz : text.length ≤ 100000)
   (hQ : ∀ h' tk u tl' tp', Fr g L h' m → News g L h' (rest ++ (M.top w #[] npb (line + (cnt r - cnt r')) tl' ++ M.bot (posOf text r') tp')) → Q (.str ⟨t.toArray⟩ u) { s with heap := h', toks := tk }) :
   wpAny (model PySem.Challenge.rw_pe0049_01.row.prog w) A (call (.ref 42) [.ref M.x2]) Q E s := by
  obtain ⟨g', hK, hO, hst, _, _, back⟩ := split_ F (News.swap N) (fun x hx => off_of_le (mc_le ok) (hrest x hx))
  refine getTok ok hlx hrem hA hdp (X.keeps hst) (T.keeps hst) hK hO hz ?_
  intro h' tk u tl' tp' hK' hO'
  obtain ⟨F', N'⟩ := back _ _ hK' hO'
  exact hQ _ _ _ _ _ F' (News.swap N')
theorem pushTokF {its : Array Value} {p : Nat} {v : Value} (ok : M.Ok w loose mean mg mb text) (hs : its.size + 1 ≤ 1000000)
   (hA : A.handled = none) (hdp : A.depth + 4 < recursionLimit) (X : (hd.heap_39 w.params).In g) (T : Top topProg loose mean mg mb g) (F : Fr g L s.heap m) (N : News g L s.heap (rest ++ (M.top w its npb line tl ++ M.bot p tp)))
   (hrest : ∀ p ∈ rest, (M.pb2 < (p.1 : Nat)))
   (hQ : ∀ h' tk, Fr g L h' m → News g L h' (rest ++ (M.top w (its.push v) (npb + 1) line tl ++ M.bot p tp)) → Q .none { s with heap := h', toks := tk }) :
   wpAny (model PySem.Challenge.rw_pe0049_01.row.prog w) A (call (.ref 49) [.ref M.x2, v]) Q E s := by
  have hord := ok.ord
  obtain ⟨g', hK, hO, hst, back⟩ := lexF ok F N hrest
  refine pushTok (by omega) (by omega) hs hA hdp (X.keeps hst) (T.keeps hst) hK hO ?_
  intro h' tk hK' hO'
  obtain ⟨F', N'⟩ := back _ _ _ hK' hO'
  exact hQ _ _ F' N'
theorem popTokF {vs : List Value} {p : Nat} {v : Value} (ok : M.Ok w loose mean mg mb text) (hs : vs.length + 1 ≤ 1000000)
   (hA : A.handled = none) (hdp : A.depth + 4 < recursionLimit) (X : (hd.heap_39 w.params).In g) (T : Top topProg loose mean mg mb g) (F : Fr g L s.heap m) (N : News g L s.heap (rest ++ (M.top w ⟨v :: vs⟩ npb line tl ++ M.bot p tp)))
   (hrest : ∀ p ∈ rest, (M.pb2 < (p.1 : Nat)))
   (hQ : ∀ h' tk, Fr g L h' m → News g L h' (rest ++ (M.top w ⟨vs⟩ (npb + 1) line tl ++ M.bot p tp)) → Q v { s with heap := h', toks := tk }) :
   wpAny (model PySem.Challenge.rw_pe0049_01.row.prog w) A (call (.ref 42) [.ref M.x2]) Q E s := by
  have hord := ok.ord
  obtain ⟨g', hK, hO, hst, back⟩ := lexF ok F N hrest
  refine popTok (by omega) (by omega) hs hA hdp (X.keeps hst) (T.keeps hst) hK hO ?_
  intro h' tk hK' hO'
  obtain ⟨F', N'⟩ := back _ _ _ hK' hO'
  exact hQ _ _ F' N'
end
end Mine
end

section
theorem Mine.freshSu : True := by
  w_top off
  trivial
open PySem PySem.W PyProof.Rows PySem.Calls PySem.Spec PySem.Builtin PySem.Builtin.Str
namespace Mine
theorem slice_up (x : Str) (b : Nat) : Txt.slice x none (some (b : Int)) = ⟨(x.cps.toList.take b).toArray⟩ := by
  have e : Txt.slice x none (some (b : Int)) = Txt.slice x (some ((0 : Nat) : Int)) (some (b : Int)) := by
    have ei : strSliceIndices none (some (b : Int)) 1 x.length = strSliceIndices (some ((0 : Nat) : Int)) (some (b : Int)) 1 x.length := by
      unfold strSliceIndices
      have h1 : ¬ (((0 : Nat) : Int) < 0) := by omega
      have e0 : max (0 : Int) (min (((0 : Nat) : Int)) (x.length : Int)) = 0 := by omega
      simp only [show (1 : Int) > 0 by decide, if_true, h1, if_false, e0]
    unfold Txt.slice
    rw [ei]
  rw [e, slice_nat x 0 b (Nat.zero_le _), List.drop_zero, Nat.sub_zero]
theorem cnt_is (l : List Nat) : PyProof.Rows.cnt 10 l = Mine.cnt l := by
  unfold Mine.cnt
  induction l with
  | nil => rfl
  | cons c l ih =>
    rw [PyProof.Rows.cnt_cons, ih, List.count_cons]
    by_cases h : c = 10
    · rw [if_pos h, if_pos (by simpa using h)]; push_cast; omega
    · rw [if_neg h, if_neg (by simpa using h)]; omega
theorem count_nl (l : List Nat) : Txt.count ⟨l.toArray⟩ (PySem.Str.ofString "\n") = Mine.cnt l := by
  rw [show PySem.Str.ofString "\n" = ⟨#[10]⟩ from by decide]
  exact (count_is ⟨l.toArray⟩ 10).trans (cnt_is l)
end Mine
end

section
theorem Mine.freshA1 : True := by
  w_top off
  trivial
open PySem PySem.W PyProof.Rows PySem.Calls PySem.Spec
namespace Mine
set_option maxRecDepth 100000
set_option maxHeartbeats 4000000
/-- how a text is told word by word -/
structure Plan (text : Str) (ws ps : List (List Nat)) (n : Nat) (fw fp rs : Nat → List Nat) : Prop where
  start : text.cps.toList = rs 0
  step : ∀ m, m < n → rs m = fp (m + 1) ++ rs (m + 1)
  lex : ∀ m, m < n → LX (rs m) (fw (m + 1)) (rs (m + 1))
  stop : rs n = []
  cr : ∀ m, 1 ≤ m → m ≤ n → ∃ o j qw qp, Odd2 m o j ∧ ws[j]? = some qw ∧ ps[j]? = some qp ∧ fw m = facing o qw ∧ fp m = facing o qp
section
variable {text : Str} {ws ps : List (List Nat)} {n : Nat} {fw fp rs : Nat → List Nat}
theorem Plan.rem (P : Plan text ws ps n fw fp rs) : ∀ m, m ≤ n → Rem text (rs m)
  | 0, _ => ⟨[], P.start⟩
  | m + 1, h => by
    obtain ⟨pre, e⟩ := P.rem m (by omega)
    exact ⟨pre ++ fp (m + 1), by rw [e, P.step m (by omega), List.append_assoc]⟩
theorem Plan.pos (P : Plan text ws ps n fw fp rs) {m : Nat} (h : m < n) : posOf text (rs m) + (fp (m + 1)).length = posOf text (rs (m + 1)) := by
  have h1 := (P.rem m (by omega)).len
  have h2 := (P.rem (m + 1) h).len
  have h3 := congrArg List.length (P.step m h)
  rw [List.length_append] at h3
  unfold posOf; omega
theorem pos_zero (P : Plan text ws ps n fw fp rs) : posOf text (rs 0) = 0 := by
  unfold posOf; rw [← P.start, str_len]; omega
theorem cnt_take {r : List Nat} (h : Rem text r) : (((text.cps.toList.take (posOf text r)).count 10 : Nat) : Int) = cnt text.cps.toList - cnt r := by
  obtain ⟨pre, e⟩ := h
  have : posOf text r = pre.length := by unfold posOf; rw [str_len, e, List.length_append]; omega
  rw [this, e, List.take_left]
  unfold cnt
  rw [List.count_append]; push_cast; omega
end
section
variable {w : World} {A : Around} {s : Shared} {g : Heap} {loose : List Str} {mean : ExcName → Option Value} {mg mb : Str → Option Value} {Q : Value → Shared → Prop} {E : Value → Shared → Prop}
theorem lar {text : Str} {ws ps : List (List Nat)} {n : Nat} {fw fp rs : Nat → List Nat} {M : Mc} {npb : Nat} {tl tp t1 : Tok} {aw ap : Addr} {vw vp : List Value}
   (P : Plan text ws ps n fw fp rs) (ok : M.Ok w loose mean mg mb text) (hn : n + 1 = 2 ^ ws.length) (hws : ws.length ≤ 4) (hpl : ps.length ≤ 4) (hwz : ∀ q ∈ ws, q.length ≤ 100) (hpz : ∀ q ∈ ps, q.length ≤ 100)
   (hlw : g.IsList aw vw.toArray) (hvw : StrsAre vw (ws.map mkS)) (hlp : g.IsList ap vp.toArray) (hvp : StrsAre vp (ps.map mkS))
   (hA : A.handled = none) (hdp : A.depth + 20 < recursionLimit) (X : (hd.heap_39 w.params).In g) (T : Top topProg loose mean mg mb g) (hK : Kp g s.heap) (hO : Own g s.heap (M.top w #[] npb 1 tl ++ M.bot 0 tp))
   (hz : text.length ≤ 100000)
   (hQ : ∀ h' tk told npb' line tl' tp', StrsAre told (((List.range n).map fun m => fw (m + 1)).map mkS) → Kp g h' → Own g h' (M.top w told.toArray npb' line tl' ++ M.bot text.length tp') → Q (.bool true) { s with heap := h', toks := tk }) :
   wpAny (model PySem.Challenge.rw_pe0049_01.row.prog w) A (call (.ref 115) [.ref M.x2, .ref M.l, .str text t1, .ref aw, .ref ap]) Q E s := by
  revert X; k_fill; intro X
  have hord := ok.ord
  refine' enterK (binds := [(Str.ofString "machine", .ref M.x2), (Str.ofString "at", .ref M.l), (Str.ofString "text", .str text t1), (Str.ofString "words", .ref aw), (Str.ofString "pieces", .ref ap)]) hK hO X T ?k6 ?k7 ?k8 ?k9 ?kB ?_ ?c5 ?c2 ?c3 ?c4
  case k6 => k_is
  case k7 => k_is
  case k8 => exact Nat.lt_of_le_of_lt (Nat.le_add_right _ _) hdp
  case k9 => exact BindsTo.of_eq rfl
  case kB => exact locs rfl
  case c5 => decide
  case c2 => exact rfl
  case c3 => exact rfl
  case c4 => exact rfl
  intro L h1 F N lt
  dsimp only [Mc.top, Mc.bot] at N lt
  simp only [List.cons_append, List.nil_append] at N lt
  k_lt lt
  iterate 5 walk1
  rename Addr => D
  rename (_ < _ ∧ _) => ltd
  have hD : M.pb2 < (D : Nat) := ltd.1
  iterate 6 walk1
  rename Fr _ _ _ _ => F
  rename News _ _ _ _ => N
  clear ltd lt
  dsimp only at F ⊢
  refine wpAny_execs_cons (wpAny_For ?_)
  iterate 14 walk1
  refine len_list (F.lst hlw) (by show ((vw.length : Nat) : Int) < _; have := hvw.length; rw [List.length_map] at this; omega) ?_
  refine pow_int (by omega) ?_ ?_
  · show ((Builtin.Int.intBits 2 : Nat) : Int) * ((vw.length : Nat) : Int) ≤ _
    have := hvw.length; rw [List.length_map] at this
    rw [show Builtin.Int.intBits 2 = 2 from by decide]; omega
  have e2 : ((2 : Int) ^ (((vw.toArray.size : Nat) : Int)).toNat) = ((n + 1 : Nat) : Int) := by
    have := hvw.length; rw [List.length_map] at this
    rw [Int.toNat_natCast, List.size_toArray, this, hn]; push_cast; rfl
  rw [e2]
  have hnz : n ≤ 15 := by
    have : ws.length = 0 ∨ ws.length = 1 ∨ ws.length = 2 ∨ ws.length = 3 ∨ ws.length = 4 := by omega
    rcases this with h | h | h | h | h <;> rw [h] at hn <;> omega
  iterate 2 walk1
  rename IsRange _ _ _ _ _ _ _ _ => hr
  rename Fr _ _ _ _ => F
  rename News _ _ _ _ => N
  have hsz := ltN (Heap.lt_size (N (M.pb2, _) (List.mem_cons_of_mem _ (List.mem_cons_self ..))).1)
  refine srcA (n := n) (src_range hA hr (small_range (by omega) (by omega) (by omega) (by omega) (by omega) (by omega)) ((rangeSize_one (by omega)).trans (by omega))) F N trivial rfl rfl
    (fun i m news => ∃ told u c tl' tp' nD, m = (fun y => if y = Str.ofString "seen" then some (.int ((posOf text (rs i) : Nat) : Int) c) else mixM [Str.ofString "m", Str.ofString "word"] u (fun y => if y = Str.ofString "told" then some (Value.ref D) else List.lookup y
          [(Str.ofString "machine", Value.ref M.x2), (Str.ofString "at", Value.ref M.l), (Str.ofString "text", Value.str text t1), (Str.ofString "words", Value.ref aw), (Str.ofString "pieces", Value.ref ap)].reverse) y) ∧
        news = (D, W.listOf told.toArray nD) :: (M.top w #[] npb (1 + (cnt text.cps.toList - cnt (rs i))) tl' ++ M.bot (posOf text (rs i)) tp') ∧ StrsAre told (((List.range i).map fun m => fw (m + 1)).map mkS))
    ⟨[], _, _, tl, tp, 0, by rw [← mix_self, pos_zero P]; rfl, by rw [pos_zero P, ← P.start, Int.sub_self]; rfl, .nil⟩ ?_ ?_
  · rintro i v I oI m₁ news₁ h4 tk4 hi ⟨tv, rfl⟩ ⟨told, u, c, tl', tp', nD, rfl, rfl, htold⟩ _ F4 N4 off4 hI
    clear F N hr
    rw [show (1 + (i : Int)) = ((i + 1 : Nat) : Int) from by omega] at F4
    have hI2 : M.pb2 < (I : Nat) := hI ▸ hsz
    clear hI
    iterate 6 walk1
    show wpAny _ _ (call (.ref 42) [.ref M.x2]) _ _ _
    refine getTokF (rest := [(I, oI), (D, W.listOf told.toArray nD)]) ok (P.lex i hi) (P.rem i (by omega)) hA (dpt hdp (by decide)) X T F4 N4 ?_ hz ?_
    · intro p hp
      simp only [List.mem_cons, List.not_mem_nil, or_false] at hp
      rcases hp with rfl | rfl
      · exact hI2
      · exact hD
    intro h5 tk5 u5 tl5 tp5 F5 N5
    clear F4 N4
    rw [show 1 + (cnt text.cps.toList - cnt (rs i)) + (cnt (rs i) - cnt (rs (i + 1))) = 1 + (cnt text.cps.toList - cnt (rs (i + 1))) from by omega] at N5
    generalize hline : 1 + (cnt text.cps.toList - cnt (rs (i + 1))) = line at N5
    dsimp only [Mc.top, Mc.bot] at N5
    simp only [List.cons_append, List.nil_append] at N5
    obtain ⟨o, j, qw, qp, ho, hjw, hjp, hfw, hfp⟩ := P.cr (i + 1) (by omega) (by omega)
    have hqwz := hwz qw (List.mem_of_getElem? hjw)
    have hqpz := hpz qp (List.mem_of_getElem? hjp)
    have hpos := P.pos hi
    iterate 17 walk1
    rename Fr _ _ _ _ => F
    rename News _ _ _ _ => N
    refine ⟨X.keeps F.keep, lcr ho (by omega) hjp (by omega) (by omega) (F.lst hlp) hvp hA (dpt hdp (by decide)) (X.keeps F.keep) (T.keeps F.keep) ?_⟩
    intro h6 tk6 u6 hk6
    have F6 := F.after hk6.keep
    have N6 := Nafter N hk6.keep
    clear F N F5 N5
    rw [← hfp]
    walk1
    have hfz : (fp (i + 1)).length ≤ 100 := by rw [hfp]; unfold facing; split <;> (try rw [List.length_reverse]) <;> omega
    refine SBL.len (by show (((fp (i + 1)).length : Nat) : Int) < _; omega) ?_
    walk1
    rw [show (((posOf text (rs i) : Nat) : Int) + (((mkS (fp (i + 1))).length : Nat) : Int)) = ((posOf text (rs (i + 1)) : Nat) : Int) from by
      rw [← hpos]; show _ + (((fp (i + 1)).toArray.size : Nat) : Int) = _; rw [List.size_toArray]; push_cast; rfl]
    walk1
    dsimp only
    iterate 14 walk1
    rename Fr _ _ _ _ => F
    rename News _ _ _ _ => N
    refine ⟨X.keeps F.keep, lcr ho (by omega) hjw (by omega) (by omega) (F.lst hlw) hvw hA (dpt hdp (by decide)) (X.keeps F.keep) (T.keeps F.keep) ?_⟩
    intro h7 tk7 u7 hk7
    have F7 := F.after hk7.keep
    have N7 := Nafter N hk7.keep
    clear F N
    rw [← hfw]
    iterate 2 walk1
    rw [if_neg (show ¬ (((⟨(fw (i + 1)).toArray⟩ : Str) != mkS (fw (i + 1))) = true) from by simp)]
    iterate 8 walk1
    rw [show (((posOf text (rs (i + 1)) : Nat) : Int) != ((posOf text (rs (i + 1)) : Nat) : Int)) = false from by simp]
    walk1
    rw [if_neg Bool.false_ne_true]
    iterate 20 walk1
    refine slice_ns (by omega) F7 N7 ?_
    clear F7 N7
    intro h8 t8 k8 F8 N8
    rw [slice_up]
    iterate 6 walk1
    rw [count_nl]
    walk1
    have el : 1 + cnt (text.cps.toList.take (posOf text (rs (i + 1)))) = line := by
      rw [← hline, ← cnt_take (P.rem (i + 1) hi)]; rfl
    rw [el]
    walk1
    rw [show (line != line) = false from by simp]
    walk1
    rw [if_neg Bool.false_ne_true]
    iterate 11 walk1
    have N8' : News g L h8 ([(I, oI)] ++ (D, W.listOf told.toArray nD) :: (M.top w #[] npb line tl5 ++ M.bot (posOf text (rs (i + 1))) tp5)) := N8
    have hDI : (D : Nat) ≠ I := off4 _ (List.mem_cons_self ..)
    have htl : told.length = i := by have := htold.length; simpa using this
    refine append_at (hsz := by show told.toArray.size ≤ _; rw [List.size_toArray, sizeLine_eq]; omega) (N8' (D, W.listOf told.toArray nD) (List.mem_cons_of_mem _ (List.mem_cons_self ..))).1 fun h9 hs9 ho9 => ?_
    have F9 := upd_fr F8 N8' hs9
    have N9 := upd_news N8' hs9 ho9 (fun p hp => by rw [List.mem_singleton.mp hp]; exact Ne.symm hDI) (fun p hp e => Nat.not_le.mpr hD (e ▸ mc_le ok p hp))
    clear F8 N8 N8'
    refine wpAny_execs_nil ⟨_, _, _, _, rfl, F9, N9, ?_, trivial, told ++ [.str ⟨(fw (i + 1)).toArray⟩ u5], _, _, tl5, tp5, nD + 1, mix2, ?_, ?_⟩
    · intro p hp
      rcases List.mem_cons.mp hp with rfl | hp
      · exact hDI
      · exact fun e => Nat.not_le.mpr hI2 (e ▸ mc_le ok p hp)
    · rw [← List.push_toArray]; rfl
    · rw [List.range_succ, List.map_append, List.map_append]
      exact kct_snoc htold
  · rintro m₁ news₁ h4 tk4 ⟨told, u, c, tl', tp', nD, rfl, rfl, htold⟩ F4 N4
    clear F N hr
    rw [P.stop] at N4 F4
    generalize hline : 1 + (cnt text.cps.toList - cnt []) = line at N4
    iterate 7 walk1
    show wpAny _ _ (call (.ref 42) [.ref M.x2]) _ _ _
    refine getTokF (rest := [(D, W.listOf told.toArray nD)]) ok LX.eof (P.stop ▸ P.rem n (Nat.le_refl _)) hA (dpt hdp (by decide)) X T F4 N4 ?_ hz ?_
    · intro p hp
      rw [List.mem_singleton.mp hp]
      exact hD
    intro h5 tk5 u5 tl5 tp5 F5 N5
    clear F4 N4
    rw [Int.sub_self, Int.add_zero] at N5
    iterate 6 walk1
    refine wpAny_execs_cons (wpAny_For ?_)
    walk1
    have hsz5 := ltN (Heap.lt_size (N5 (M.pb2, W.listOf #[] npb) (List.mem_cons_of_mem _ (List.mem_cons_self ..))).1)
    have hDlt := ltN (Heap.lt_size (N5 (D, W.listOf told.toArray nD) (List.mem_cons_self ..)).1)
    have htl : told.length = n := by have := htold.length; simpa using this
    refine srcA (src_list hA F5 N5 (.inr ⟨_, List.mem_cons_self .., rfl, _, rfl⟩)) F5 N5 (.inr ⟨_, List.mem_cons_self .., rfl, _, rfl⟩) rfl rfl
      (fun i m news => ∃ u', m = mixM [Str.ofString "word"] u' (fun y => if y = Str.ofString "seen" then some (.int ((posOf text [] : Nat) : Int) c) else mixM [Str.ofString "m", Str.ofString "word"] u (fun y => if y = Str.ofString "told" then some (Value.ref D) else List.lookup y
          [(Str.ofString "machine", Value.ref M.x2), (Str.ofString "at", Value.ref M.l), (Str.ofString "text", Value.str text t1), (Str.ofString "words", Value.ref aw), (Str.ofString "pieces", Value.ref ap)].reverse) y) ∧
        news = (D, W.listOf told.toArray nD) :: (M.top w (told.take i).toArray (npb + i) line tl5 ++ M.bot (posOf text []) tp5))
      ⟨_, mix_self _ _, rfl⟩ ?_ ?_
    · rintro i v I oI m₁ news₁ h6 tk6 hi hv ⟨u', rfl, rfl⟩ hS6 F6 N6 off6 hI
      clear F5 N5
      have hI2 : M.pb2 < (I : Nat) := hI ▸ hsz5
      have hDI : (D : Nat) ≠ I := hI ▸ Nat.ne_of_lt hDlt
      clear hI
      have hv' : told[i]? = some v := by simpa using hv
      have hi' : i < told.length := by simpa using hi
      iterate 9 walk1
      refine ⟨X.keeps F6.keep, ?_⟩
      refine pushTokF (rest := [(I, oI), (D, W.listOf told.toArray nD)]) ok (by show (told.take i).length + 1 ≤ _; rw [List.length_take]; omega) hA (dpt hdp (by decide)) X T F6 N6 ?_ ?_
      · intro p hp
        simp only [List.mem_cons, List.not_mem_nil, or_false] at hp
        rcases hp with rfl | rfl
        · exact hI2
        · exact hD
      intro h7 tk7 F7 N7
      clear F6 N6
      refine wpAny_execs_nil ⟨_, _, _, _, rfl, F7, N7, ?_, .inr ⟨_, List.mem_cons_self .., rfl, _, rfl⟩, _, by funext y; exact mix_set rfl, ?_⟩
      · intro p hp
        rcases List.mem_cons.mp hp with rfl | hp
        · exact hDI
        · exact fun e => Nat.not_le.mpr hI2 (e ▸ mc_le ok p hp)
      · rw [List.take_add_one, hv', Option.toList_some, ← List.push_toArray]; rfl
    · rintro m₁ news₁ h6 tk6 ⟨u', rfl, rfl⟩ F6 N6
      clear F5 N5
      iterate 3 walk1
      rw [List.size_toArray, List.take_length] at N6
      rw [show posOf text [] = text.length from by unfold posOf; rfl] at N6
      exact hQ _ _ told _ _ _ _ htold (Kp.of_fr F6) (fun p hp => Own.of_news N6 p (List.mem_cons_of_mem _ hp))
end
end Mine
end

section
theorem Mine.freshPl : True := by
  w_top off
  trivial
open PySem PySem.W PyProof.Rows PySem.Calls PySem.Spec
namespace Mine
/-- a word's writing between edges -/
def wr (e : Nat) (v : List Nat) : List Nat := e :: (joinL v ++ [e])
theorem qt_join (rest : List Nat) : ∀ r, QT ((joinL r).drop 0 ++ rest) [] rest → True := fun _ _ => trivial
/-- behind the first sign, each sign behind a backslash -/
def tailL : List Nat → List Nat
  | [] => []
  | c :: l => 92 :: c :: tailL l
theorem joinL_tail (c : Nat) (l : List Nat) : joinL (c :: l) = c :: tailL l := by
  induction l generalizing c with
  | nil => rfl
  | cons d l ih => rw [joinL_cons, ih d]; rfl
theorem qt_tail (rest : List Nat) : ∀ l, QT (tailL l ++ 34 :: rest) l rest
  | [] => .fin
  | c :: l => .esc (qt_tail rest l)
theorem ut_tail {e : Nat} (he : ws e = true) (rest : List Nat) : ∀ l, UT (tailL l ++ e :: rest) l rest
  | [] => .fin he
  | c :: l => .esc (ut_tail he rest l)
theorem lx_wr {e c : Nat} {l rest : List Nat} (he : e = 34 ∨ ws e = true) (h1 : ws c = false) (h2 : c ≠ 34) (h3 : c ≠ 92) : LX (wr e (c :: l) ++ rest) (c :: l) rest := by
  have e1 : wr e (c :: l) ++ rest = e :: c :: (tailL l ++ e :: rest) := by unfold wr; rw [joinL_tail]; simp
  rw [e1]
  rcases he with rfl | he
  · exact .quo (.ch h2 h3 (qt_tail rest l))
  · exact .skip he (.ch h1 h2 h3 (ut_tail he rest l))
theorem joinL_snoc (c : Nat) (l : List Nat) (hl : l ≠ []) : joinL (l ++ [c]) = joinL l ++ [92, c] := by
  induction l with
  | nil => exact absurd rfl hl
  | cons d l ih =>
    cases l with
    | nil => rfl
    | cons d' l => rw [List.cons_append, List.cons_append, joinL_cons, joinL_cons, ← List.cons_append, ih (by simp)]; rfl
theorem joinL_rev : ∀ l : List Nat, (joinL l).reverse = joinL l.reverse
  | [] => rfl
  | [_] => rfl
  | c :: d :: l => by
    rw [joinL_cons, List.reverse_cons, List.reverse_cons, joinL_rev (d :: l), List.reverse_cons (a := c), joinL_snoc c _ (by simp)]
    simp
theorem wr_rev (e : Nat) (v : List Nat) : (wr e v).reverse = wr e v.reverse := by
  unfold wr; rw [List.reverse_cons, List.reverse_append, joinL_rev]; simp
theorem facing_wr (o e : Nat) (v : List Nat) : facing o (wr e v) = wr e (facing o v) := by
  unfold facing; split
  · rfl
  · exact wr_rev e v
end Mine
end

section
theorem Mine.freshPt : True := by
  w_top off
  trivial
open PySem PySem.W PyProof.Rows PySem.Calls PySem.Spec
namespace Mine
def cat (f : Nat → List Nat) (n : Nat) : List Nat := (List.range n).flatMap fun i => f (i + 1)
theorem cat_succ (f : Nat → List Nat) (n : Nat) : cat f (n + 1) = cat f n ++ f (n + 1) := by
  unfold cat; rw [List.range_succ, List.flatMap_append]; simp
theorem cat_add (f : Nat → List Nat) (a : Nat) : ∀ b, cat f (a + b) = cat f a ++ cat (fun i => f (a + i)) b
  | 0 => by simp [cat]
  | b + 1 => by rw [← Nat.add_assoc, cat_succ, cat_add f a b, cat_succ, List.append_assoc]; rfl
theorem cat_cons (f : Nat → List Nat) (n : Nat) : cat f (n + 1) = f 1 ++ cat (fun i => f (1 + i)) n := by
  rw [Nat.add_comm n 1, cat_add]; congr 1; simp [cat]
theorem cat_congr {f g : Nat → List Nat} {n : Nat} (h : ∀ i, 1 ≤ i → i ≤ n → f i = g i) : cat f n = cat g n := by
  unfold cat
  induction n with
  | zero => rfl
  | succ n ih =>
    rw [List.range_succ, List.flatMap_append, List.flatMap_append, ih (fun i h1 h2 => h i h1 (by omega))]
    simp [h (n + 1) (by omega) (by omega)]
theorem cat_rev (f : Nat → List Nat) : ∀ n, (cat f n).reverse = cat (fun i => (f (n + 1 - i)).reverse) n
  | 0 => rfl
  | n + 1 => by
    rw [cat_succ, List.reverse_append, cat_rev f n, cat_cons]
    congr 1
    refine cat_congr fun i h1 h2 => ?_
    rw [show n + 1 + 1 - (1 + i) = n + 1 - i from by omega]
theorem facing_flip {o o' : Nat} (h : o % 2 = 1) (ho : (o + o') % 4 = 0) (q : List Nat) : facing o q = (facing o' q).reverse := by
  unfold facing
  by_cases h1 : o % 4 = 1
  · rw [if_pos h1, if_neg (by omega), List.reverse_reverse]
  · rw [if_neg h1, if_pos (by omega)]
theorem cre_mirror {ps : List (List Nat)} {K i : Nat} (h1 : 1 ≤ i) (h2 : i < 2 ^ K) : cre ps 0 (2 ^ K + i) = (cre ps 0 (2 ^ K - i)).reverse := by
  obtain ⟨o, j, ho⟩ := odd2 i h1
  have hj := odd2_lt ho h2
  have hb : 2 ^ K = 2 ^ (K - j) * 2 ^ j := by rw [← Nat.pow_add]; congr 1; omega
  have hk : 2 ^ (K - j) = 2 * 2 ^ (K - j - 1) := by rw [← Nat.pow_succ']; congr 1; omega
  have hlt : o < 2 ^ (K - j) := by
    have : o * 2 ^ j < 2 ^ (K - j) * 2 ^ j := by rw [← ho.eq, ← hb]; exact h2
    exact Nat.lt_of_mul_lt_mul_right this
  have e1 : 2 ^ K + i = (2 ^ (K - j) + o) * 2 ^ j := by rw [Nat.add_mul, ← ho.eq, ← hb]
  have e2 : 2 ^ K - i = (2 ^ (K - j) - o) * 2 ^ j := by rw [Nat.sub_mul, ← ho.eq, ← hb]
  have hodd := ho.odd
  rw [e1, e2, cre_at (by omega), cre_at (by omega)]
  refine facing_flip (by omega) ?_ _
  omega
theorem cre_snoc {ps : List (List Nat)} {q : List Nat} {m : Nat} (h1 : 1 ≤ m) (h2 : m < 2 ^ ps.length) : cre (ps ++ [q]) 0 m = cre ps 0 m := by
  obtain ⟨o, j, ho⟩ := odd2 m h1
  have hj := odd2_lt ho h2
  rw [ho.eq, cre_at ho.odd, cre_at ho.odd, Nat.zero_add]
  congr 1
  rw [List.getD_eq_getElem?_getD, List.getD_eq_getElem?_getD, List.getElem?_append_left hj]
theorem tape_snoc (p : List Nat) (ps : List (List Nat)) (q : List Nat) : tapeL (p :: ps ++ [q]) = tapeF (tapeL (p :: ps)) q := by
  show (ps ++ [q]).foldl tapeF p = _
  rw [List.foldl_append]; rfl
theorem tape_one (p : List Nat) : tapeL [p] = cat (cre [p] 0) 1 := by
  have : cre [p] 0 1 = p := by rw [cre_odd (by decide)]; rfl
  unfold cat; simp [this, tapeL]
theorem tape_step {ps : List (List Nat)} {q : List Nat} (h : tapeL ps = cat (cre ps 0) (2 ^ ps.length - 1)) : tapeF (tapeL ps) q = cat (cre (ps ++ [q]) 0) (2 ^ (ps ++ [q]).length - 1) := by
  have hp := Nat.two_pow_pos ps.length
  have e : 2 ^ (ps ++ [q]).length - 1 = (2 ^ ps.length - 1) + (1 + (2 ^ ps.length - 1)) := by
    rw [List.length_append, List.length_singleton, Nat.pow_succ]; omega
  rw [e, cat_add, cat_add]
  unfold tapeF
  rw [h, List.append_assoc]
  congr 1
  · exact cat_congr fun i h1 h2 => (cre_snoc h1 (by omega)).symm
  congr 1
  · have : cre (ps ++ [q]) 0 (2 ^ ps.length - 1 + 1) = q := by
      rw [show 2 ^ ps.length - 1 + 1 = 1 * 2 ^ ps.length from by omega, cre_at (by decide), Nat.zero_add]
      rw [List.getD_eq_getElem?_getD, List.getElem?_append_right (Nat.le_refl _)]
      simp [facing]
    unfold cat; simp [this]
  · rw [cat_rev]
    refine cat_congr fun i h1 h2 => ?_
    rw [show 2 ^ ps.length - 1 + (1 + i) = 2 ^ ps.length + i from by omega, show 2 ^ ps.length - 1 + 1 - i = 2 ^ ps.length - i from by omega, cre_mirror h1 (by omega), cre_snoc (by omega) (by omega)]
theorem tape_cat : ∀ ps : List (List Nat), ps ≠ [] → tapeL ps = cat (cre ps 0) (2 ^ ps.length - 1) := by
  intro ps
  induction hn : ps.length generalizing ps with
  | zero => intro h; exact absurd (List.eq_nil_of_length_eq_zero hn) h
  | succ n ih =>
    intro hne
    obtain ⟨r, q, rfl⟩ : ∃ r q, ps = r ++ [q] := ⟨ps.dropLast, ps.getLast hne, (List.dropLast_concat_getLast hne).symm⟩
    cases r with
    | nil => simp at hn; subst hn; exact tape_one q
    | cons p r =>
      have hl : (p :: r).length = n := by simpa using hn
      rw [tape_snoc, tape_step (by rw [hl]; exact ih (p :: r) hl (by simp)), hn]
end Mine
end

section
theorem Mine.freshQ1 : True := by
  w_top off
  trivial
open PySem PySem.W PyProof.Rows PySem.Calls PySem.Spec
namespace Mine
set_option maxRecDepth 100000
set_option maxHeartbeats 4000000
section
variable {w : World} {A : Around} {s : Shared} {g : Heap} {loose : List Str} {mean : ExcName → Option Value} {mg mb : Str → Option Value} {Q : Value → Shared → Prop} {E : Value → Shared → Prop}
theorem lpo {text : Str} {ws : List (List Nat)} {M : Mc} {npb : Nat} {line : Int} {tl tp : Tok} {aw : Addr} {vw told : List Value}
   (ok : M.Ok w loose mean mg mb text) (hws : ws.length ≤ 4) (hwz : ∀ q ∈ ws, q.length ≤ 100)
   (hlw : g.IsList aw vw.toArray) (hvw : StrsAre vw (ws.map mkS)) (htold : StrsAre told (((List.range (2 ^ ws.length - 1)).map fun m => cre ws 0 (m + 1)).map mkS))
   (hA : A.handled = none) (hu : A.units + 100 < cLine) (hdp : A.depth + 20 < recursionLimit) (X : (hd.heap_39 w.params).In g) (T : Top topProg loose mean mg mb g) (hK : Kp g s.heap) (hO : Own g s.heap (M.top w told.toArray npb line tl ++ M.bot text.length tp))
   (hz : text.length ≤ 100000)
   (hQ : ∀ h' tk, Kp g h' → Q (.bool true) { s with heap := h', toks := tk }) :
   wpAny (model PySem.Challenge.rw_pe0049_01.row.prog w) A (call (.ref 122) [.ref M.x2, .ref aw]) Q E s := by
  revert X; k_fill; intro X
  have hord := ok.ord
  refine' enterK (binds := [(Str.ofString "machine", .ref M.x2), (Str.ofString "words", .ref aw)]) hK hO X T ?k6 ?k7 ?k8 ?k9 ?kB ?_ ?c5 ?c2 ?c3 ?c4
  case k6 => k_is
  case k7 => k_is
  case k8 => exact Nat.lt_of_le_of_lt (Nat.le_add_right _ _) hdp
  case k9 => exact BindsTo.of_eq rfl
  case kB => exact locs rfl
  case c5 => decide
  case c2 => exact rfl
  case c3 => exact rfl
  case c4 => exact rfl
  intro L h1 F N lt
  have hvl : vw.length = ws.length := by have := hvw.length; rwa [List.length_map] at this
  refine wpAny_execs_cons (wpAny_For ?_)
  iterate 10 walk1
  refine len_list (F.lst hlw) (by show ((vw.length : Nat) : Int) < _; omega) ?_
  rw [List.size_toArray, hvl]
  iterate 2 walk1
  rename IsRange _ _ _ _ _ _ _ _ => hr
  rename Fr _ _ _ _ => F
  rename News _ _ _ _ => N
  have hsz := ltN (Heap.lt_size (N (M.pb2, _) (List.mem_cons_self ..)).1)
  clear lt
  refine srcA (n := ws.length) (src_range hA hr (small_range (by omega) (by omega) (by omega) (by omega) (by omega) (by omega)) ((rangeSize_one (by omega)).trans (by omega))) F N trivial rfl rfl
    (fun k m news => ∃ u q npb', m = mixM [Str.ofString "k", Str.ofString "i", Str.ofString "word"] u (fun y => List.lookup y [(Str.ofString "machine", Value.ref M.x2), (Str.ofString "words", Value.ref aw)].reverse) ∧
        news = M.top w (List.toArray q) npb' line tl ++ M.bot text.length tp ∧ StrsAre q (((List.range (2 ^ (ws.length - k) - 1)).map fun m => cre ws k (m + 1)).map mkS))
    ⟨_, told, npb, mix_self _ _, rfl, htold⟩ ?_ ?_
  · rintro k v I oI m₁ news₁ h4 tk4 hk ⟨tv, rfl⟩ ⟨u, q, npb', rfl, rfl, hq⟩ _ F4 N4 off4 hI
    clear F N hr
    rw [show (0 + (k : Int)) = (k : Int) from by omega] at F4
    have hI2 : M.pb2 < (I : Nat) := hI ▸ hsz
    clear hI
    refine wpAny_execs_cons (wpAny_For ?_)
    iterate 14 walk1
    refine len_list (F4.lst hlw) (by show ((vw.length : Nat) : Int) < _; omega) ?_
    rw [List.size_toArray, hvl]
    iterate 2 walk1
    rw [show ((ws.length : Nat) : Int) - (k : Int) = ((ws.length - k : Nat) : Int) from by omega]
    refine pow_int (by omega) ?_ ?_
    · rw [show Builtin.Int.intBits 2 = 2 from by decide]; omega
    iterate 3 walk1
    have hpw := Nat.two_pow_pos (ws.length - k)
    have eN : ((2 : Int) ^ (((ws.length - k : Nat) : Int)).toNat - 1) = ((2 ^ (ws.length - k) - 1 : Nat) : Int) := by
      rw [Int.toNat_natCast]
      have : ((2 ^ (ws.length - k) : Nat) : Int) = (2 : Int) ^ (ws.length - k) := by push_cast; rfl
      rw [← this]; omega
    rw [eN]
    have hNz : 2 ^ (ws.length - k) - 1 ≤ 15 := by
      have : ws.length - k = 0 ∨ ws.length - k = 1 ∨ ws.length - k = 2 ∨ ws.length - k = 3 ∨ ws.length - k = 4 := by omega
      rcases this with h | h | h | h | h <;> rw [h] <;> decide
    have hNh : (2 ^ (ws.length - k) - 1) / 2 = 2 ^ (ws.length - (k + 1)) - 1 := by
      rw [show ws.length - k = (ws.length - (k + 1)) + 1 from by omega, Nat.pow_succ]
      have := Nat.two_pow_pos (ws.length - (k + 1)); omega
    generalize 2 ^ (ws.length - k) - 1 = N2 at hNz hNh hq ⊢
    walk1
    rename IsRange _ _ _ _ _ _ _ _ => hr
    rename Fr _ _ _ _ => F
    rename News _ _ _ _ => N
    have hsz2 := ltN (Heap.lt_size (N (M.pb2, W.listOf q.toArray npb') (List.mem_cons_of_mem _ (List.mem_cons_self ..))).1)
    have hszI := ltN (Heap.lt_size (N (I, oI) (List.mem_cons_self ..)).1)
    rw [← lineQ_start] at hq
    refine srcA (n := N2) (src_range hA hr (small_range (by omega) (by omega) (by omega) (by omega) (by omega) (by omega)) ((rangeSize_one (by omega)).trans (by omega))) F N trivial rfl rfl
      (fun i m news => ∃ u' q npb', m = mixM [Str.ofString "i", Str.ofString "word"] u' (fun y => if y = Str.ofString "k" then some (.int (k : Int) tv) else mixM [Str.ofString "k", Str.ofString "i", Str.ofString "word"] u (fun y => List.lookup y [(Str.ofString "machine", Value.ref M.x2), (Str.ofString "words", Value.ref aw)].reverse) y) ∧
          news = (I, oI) :: (M.top w (List.toArray q) npb' line tl ++ M.bot text.length tp) ∧ StrsAre q ((lineQ ws k N2 i).map mkS))
      ⟨_, q, npb', mix_self _ _, rfl, hq⟩ ?_ ?_
    · rintro i v I2 oI2 m₁ news₁ h6 tk6 hi ⟨ti, rfl⟩ ⟨u', q, npb', rfl, rfl, hq⟩ _ F6 N6 off6 hI
      clear F N hr off4
      rw [show (0 + (i : Int)) = (i : Int) from by omega] at F6
      have hI3 : M.pb2 < (I2 : Nat) := hI ▸ hsz2
      have hII : (I : Nat) ≠ I2 := hI ▸ Nat.ne_of_lt hszI
      clear hI
      have hrest : ∀ p ∈ [(I2, oI2), (I, oI)], (M.pb2 < (p.1 : Nat)) := by
        intro p hp
        simp only [List.mem_cons, List.not_mem_nil, or_false] at hp
        rcases hp with rfl | rfl
        · exact hI3
        · exact hI2
      have hql : q.length ≤ 100 := by
        have := hq.length
        rw [List.length_map] at this
        unfold lineQ at this
        simp only [List.length_append, List.length_map, List.length_range] at this
        omega
      have hoff : ∀ (its : Array Value) (nn : Nat), ∀ p ∈ (I, oI) :: (M.top w its nn line tl ++ M.bot text.length tp), p.1 ≠ I2 := by
        intro its nn p hp
        rcases List.mem_cons.mp hp with rfl | hp
        · exact hII
        · exact fun e => Nat.not_le.mpr hI3 (e ▸ mc_le ok p hp)
      have hq0 := hq
      rw [lineQ_cons hi, List.map_cons] at hq0
      cases hq0 with
      | @cons _ tq q' _ hq' =>
      iterate 6 walk1
      show wpAny _ _ (call (.ref 42) [.ref M.x2]) _ _ _
      refine popTokF (rest := [(I2, oI2), (I, oI)]) ok (by rw [List.length_cons] at hql; omega) hA (dpt hdp (by decide)) X T F6 N6 hrest ?_
      intro h7 tk7 F7 N7
      clear F6 N6
      iterate 11 walk1
      dsimp only
      have eb : (((i : Int).fmod 2) == 1) = decide (i % 2 = 1) := by
        rw [fmod2]
        by_cases he : i % 2 = 1
        · rw [he]; rfl
        · rw [decide_eq_false he, beq_eq_false_iff_ne]; omega
      rw [eb]
      rename Fr _ _ _ _ => F8
      rename News _ _ _ _ => N8
      by_cases he : i % 2 = 1
      · rw [if_pos (decide_eq_true he)]
        iterate 10 walk1
        refine ⟨X.keeps F8.keep, ?_⟩
        refine pushTokF (rest := [(I2, oI2), (I, oI)]) ok (by show q'.length + 1 ≤ _; rw [List.length_cons] at hql; omega) hA (dpt hdp (by decide)) X T F8 N8 hrest ?_
        intro h9 tk9 F9 N9
        clear F8 N8
        refine wpAny_execs_nil ?_
        dsimp only
        refine wpAny_execs_nil ⟨_, _, _, _, rfl, F9, N9, hoff _ _, trivial, _, q' ++ [.str (mkS (cre ws k (i + 1))) tq], npb' + 1 + 1, mix_two, ?_, ?_⟩
        · rw [← List.push_toArray]; rfl
        · obtain ⟨r, hr1, hr2⟩ := lineQ_push (ws := ws) (k := k) hi he
          rw [lineQ_cons hi] at hr1
          rw [hr2, List.map_append, ← (List.cons.inj hr1).2]
          exact kct_snoc hq'
      · rw [if_neg (by simpa using he)]
        have hk' : k < vw.length := by omega
        obtain ⟨v, hv⟩ : ∃ v, vw[k]? = some v := ⟨_, List.getElem?_eq_getElem hk'⟩
        obtain ⟨y, ty, hy, rfl⟩ := strs_at hvw hv
        rw [List.getElem?_map] at hy
        obtain ⟨z, hz1⟩ : ∃ z, ws[k]? = some z := ⟨_, List.getElem?_eq_getElem hk⟩
        rw [hz1] at hy
        cases hy
        have hzz := hwz z (List.mem_of_getElem? hz1)
        have hcz : cre ws k (i + 1) = facing (i + 1) z := by
          rw [cre_odd (by omega), List.getD_eq_getElem?_getD, hz1]; rfl
        have hl8 := F8.lst hlw
        have fin : ∀ h9 tk9, Fr g L h9 (fun y => if y = Str.ofString "word" then some (Value.str (mkS (cre ws k (i + 1))) tq) else if y = Str.ofString "i" then some (Value.int (↑i) ti) else mixM [Str.ofString "i", Str.ofString "word"] u' (fun y => if y = Str.ofString "k" then some (.int (k : Int) tv) else mixM [Str.ofString "k", Str.ofString "i", Str.ofString "word"] u (fun y => List.lookup y [(Str.ofString "machine", Value.ref M.x2), (Str.ofString "words", Value.ref aw)].reverse) y) y) →
            News g L h9 ([(I2, oI2), (I, oI)] ++ (M.top w ⟨q'⟩ (npb' + 1) line tl ++ M.bot text.length tp)) →
            ∃ h' tk' m₂ news₂, ({ s with heap := h9, toks := tk9 } : Shared) = { s with heap := h', toks := tk' } ∧ Fr g L h' m₂ ∧ News g L h' ((I2, oI2) :: news₂) ∧ (∀ p ∈ news₂, p.1 ≠ I2) ∧ True ∧
              ∃ u' q npb', m₂ = mixM [Str.ofString "i", Str.ofString "word"] u' (fun y => if y = Str.ofString "k" then some (.int (k : Int) tv) else mixM [Str.ofString "k", Str.ofString "i", Str.ofString "word"] u (fun y => List.lookup y [(Str.ofString "machine", Value.ref M.x2), (Str.ofString "words", Value.ref aw)].reverse) y) ∧
                news₂ = (I, oI) :: (M.top w (List.toArray q) npb' line tl ++ M.bot text.length tp) ∧ StrsAre q ((lineQ ws k N2 (i + 1)).map mkS) := by
          intro h9 tk9 F9 N9
          refine ⟨_, _, _, _, rfl, F9, N9, hoff _ _, trivial, _, q', npb' + 1, mix_two, rfl, ?_⟩
          have := hq
          rw [lineQ_keep hi (by omega), List.map_cons] at this
          cases this with
          | cons _ _ h => exact h
        iterate 13 walk1
        dsimp only
        have e4 : (((i : Int).fmod 4) == 0) = decide (i % 4 = 0) := by
          rw [show ((i : Int).fmod 4) = ((i % 4 : Nat) : Int) from fm_ i 4]
          by_cases he : i % 4 = 0
          · rw [he]; rfl
          · rw [decide_eq_false he, beq_eq_false_iff_ne]; omega
        rw [e4]
        by_cases h4 : i % 4 = 0
        · rw [if_pos (decide_eq_true h4)]
          have hcf : cre ws k (i + 1) = z := by rw [hcz]; unfold facing; rw [if_pos (by omega)]
          rw [hcf] at F8 fin ⊢
          iterate 3 walk1
          refine item_litK hl8 (by omega) (by omega) (by simpa using hv) ?_
          iterate 2 walk1
          rw [if_neg (show ¬ ((mkS z != mkS z) = true) from by simp)]
          refine wpAny_execs_nil ?_
          dsimp only
          refine wpAny_execs_nil ?_
          dsimp only
          exact wpAny_execs_nil (fin _ _ F8 N8)
        · rw [if_neg (by simpa using h4)]
          have hcf : cre ws k (i + 1) = z.reverse := by rw [hcz]; unfold facing; rw [if_neg (by omega)]
          rw [hcf] at F8 fin ⊢
          iterate 4 walk1
          refine item_litK hl8 (by omega) (by omega) (by simpa using hv) ?_
          iterate 7 walk1
          refine slice_rev (by omega) F8 N8 ?_
          intro h9 t9 k9 F9 N9
          iterate 2 walk1
          rw [if_neg (show ¬ ((mkS z.reverse != mkS z.reverse) = true) from by simp)]
          refine wpAny_execs_nil ?_
          dsimp only
          refine wpAny_execs_nil ?_
          dsimp only
          exact wpAny_execs_nil (fin _ _ F9 N9)
    · rintro m₁ news₁ h6 tk6 ⟨u', q, npb', rfl, rfl, hq⟩ F6 N6
      clear F N hr
      rw [lineQ_end, hNh] at hq
      exact wpAny_execs_nil ⟨_, _, _, _, rfl, F6, N6, (fun p hp e => Nat.not_le.mpr hI2 (e ▸ mc_le ok p hp)), trivial, _, q, _, mix_three, rfl, hq⟩
  · rintro m₁ news₁ h4 tk4 ⟨u, q, npb', rfl, rfl, hq⟩ F4 N4
    clear F N hr
    rw [Nat.sub_self] at hq
    cases hq
    dsimp only [Mc.top, Mc.bot] at N4
    simp only [List.cons_append, List.nil_append] at N4
    iterate 10 walk1
    rename Fr _ _ _ _ => F5
    rename News _ _ _ _ => N5
    rename (_ < _ ∧ _) => ltd
    rename Addr => D
    have hD : M.pb2 < (D : Nat) := ltd.1
    refine ke_eq_ints (xs := []) (ys := []) (ns := []) (ms := []) ⟨_, (N5 (M.pb2, W.listOf #[] npb') (List.mem_cons_of_mem _ (List.mem_cons_self ..))).1, rfl, _, rfl⟩ ⟨_, (N5 (D, W.listOf #[] 0) (List.mem_cons_self ..)).1, rfl, _, rfl⟩ .nil .nil (by show A.units + 3 + 64 < _; omega) ?_
    rw [show decide (([] : List Int) = []) = true from rfl]
    iterate 8 walk1
    have hpe : posOf text [] = text.length := by unfold posOf; rfl
    show wpAny _ _ (call (.ref 42) [.ref M.x2]) _ _ _
    rw [← hpe] at N5
    refine getTokF (rest := [(D, W.listOf #[] 0)]) ok LX.eof ⟨text.cps.toList, by simp⟩ hA (dpt hdp (by decide)) X T F5 N5 ?_ hz ?_
    · intro p hp
      rw [List.mem_singleton.mp hp]
      exact hD
    intro h7 tk7 u7 tl7 tp7 F7 N7
    clear F5 N5
    iterate 2 walk1
    exact hQ _ _ (Kp.of_fr F7)
end
end Mine
end

section
theorem Mine.freshD1 : True := by
  w_top off
  trivial
open PySem PySem.W PyProof.Rows PySem.Calls PySem.Spec
namespace Mine
set_option maxRecDepth 100000
set_option maxHeartbeats 4000000
theorem u8 {n : Nat} (h : n < 256) : (Nat.toUInt8 n).toNat = n := by
  show (UInt8.ofNat n).toNat = n
  rw [UInt8.toNat_ofNat']; exact Nat.mod_eq_of_lt h
theorem join_nosep (l : List Nat) : Txt.join (Str.ofString "") (l.map fun c => (⟨#[c]⟩ : Str)) = ⟨l.toArray⟩ := by
  show Builtin.Str.glued _ _ = _
  rw [StrLaws.glued_eq_join]
  induction l with
  | nil => rfl
  | cons c l ih =>
    cases l with
    | nil => rfl
    | cons d l =>
      simp only [List.map_cons] at ih ⊢
      rw [PyProof.Rows.join_cons_cons, ih]
      show Str.mk ((#[c] ++ #[]) ++ _) = _
      simp
section
variable {w : World} {A : Around} {s : Shared} {g : Heap} {loose : List Str} {mean : ExcName → Option Value} {mg mb : Str → Option Value} {Q : Value → Shared → Prop} {E : Value → Shared → Prop}
theorem lrp {l : List Nat} {ws ps : List (List Nat)} {n : Nat} {fp rs : Nat → List Nat} {t1 : Tok} {aw ap : Addr} {vw vp : List Value}
   (P : Plan ⟨l.toArray⟩ ws ps n (fun m => cre ws 0 m) fp rs) (hn : n + 1 = 2 ^ ws.length) (hws : ws.length ≤ 4) (hpl : ps.length ≤ 4) (hwz : ∀ q ∈ ws, q.length ≤ 100) (hpz : ∀ q ∈ ps, q.length ≤ 100)
   (hlc : ∀ c ∈ l, c < 256) (hlw : g.IsList aw vw.toArray) (hvw : StrsAre vw (ws.map mkS)) (hlp : g.IsList ap vp.toArray) (hvp : StrsAre vp (ps.map mkS))
   (hA : A.handled = none) (hu : A.units + 200 < cLine) (hdp : A.depth + 30 < recursionLimit) (X : (hd.heap_39 w.params).In g) (T : Top topProg loose mean mg mb g) (hK : Kp g s.heap) (hO : Own g s.heap [(96, tabObj #[])]) (cH : CodeHd g 100 96)
   (hz : l.length ≤ 100000)
   (hQ : ∀ h' tk ps, Kp g h' → h'.get? 96 = some (tabObj ps) → Q (.bool true) { s with heap := h', toks := tk }) :
   wpAny (model PySem.Challenge.rw_pe0049_01.row.prog w) A (call (.ref 127) [.bytes (octs l) t1, .ref aw, .ref ap]) Q E s := by
  revert X; k_fill; intro X
  refine' enterK (binds := [(Str.ofString "tape", .bytes (octs l) t1), (Str.ofString "words", .ref aw), (Str.ofString "pieces", .ref ap)]) hK hO X T ?k6 ?k7 ?k8 ?k9 ?kB ?_ ?c5 ?c2 ?c3 ?c4
  case k6 => k_is
  case k7 => k_is
  case k8 => exact Nat.lt_of_le_of_lt (Nat.le_add_right _ _) hdp
  case k9 => exact BindsTo.of_eq rfl
  case kB => exact locs rfl
  case c5 => decide
  case c2 => exact rfl
  case c3 => exact rfl
  case c4 => exact rfl
  intro L h1 F N lt
  iterate 8 walk1
  refine lcE (h₀ := g) (L := L) (m := fun y => List.lookup y [(Str.ofString "tape", .bytes (octs l) t1), (Str.ofString "words", .ref aw), (Str.ofString "pieces", .ref ap)].reverse) (by with_unfolding_all rfl) (by decide) rfl (by decide) rfl ?_
  walk1
  refine ⟨_, _, _, _, src_bytes hA, by rw [octs_size, sizeLine_eq]; omega, F, N, trivial, fun g' => rest_inv (fun i ys news => news = [(96, tabObj #[])] ∧ StrsAre ys ((l.take i).map fun c => (⟨#[c]⟩ : Str))) ?_ ?_ ⟨rfl, .nil⟩⟩
  · rintro i ys news v I oI C oC D m₂ h tk' E' hi ⟨rfl, hys⟩ ⟨c, u, hc, rfl⟩ hC hx F' N' off ne
    clear F N
    iterate 7 walk1
    have hc256 := c.toNat_lt
    refine chr_of_range (by omega) (by omega) ?_
    refine ⟨_, _, [(96, tabObj #[])], rfl, F', N', off, trivial, rfl, ?_⟩
    have hil : i < l.length := by rw [octs_size] at hi; exact hi
    have hc' : l[i]? = some c.toNat := by
      rw [List.getElem?_eq_getElem hil]
      unfold octs at hc
      simp only [List.getElem?_toArray, List.getElem?_map, List.getElem?_eq_getElem hil, Option.map_some, Option.some.injEq] at hc
      rw [← hc, u8 (hlc l[i] (List.getElem_mem hil))]
    rw [List.take_add_one, hc', Option.toList_some, List.map_append]
    exact kct_snoc hys
  · rintro ys news ⟨rfl, hys⟩ D h tk' F' N' off
    clear F N
    walk1
    rw [octs_size, List.take_length] at hys
    refine join_listW ⟨_, (N' _ (List.mem_cons_self ..)).1, rfl, _, rfl⟩ hys (by decide) ?_ ?_
    · have e : ∀ l : List Nat, ((l.map fun n => (⟨#[n]⟩ : Str)).map (·.length)).sum = l.length := by
        intro l; induction l with
        | nil => rfl
        | cons a l ih => simp only [List.map_cons, List.sum_cons, ih, List.length_cons, one_len]; omega
      rw [e, List.length_map]; omega
    intro u5 tk5
    rw [join_nosep]
    iterate 10 walk1
    rename Fr _ _ _ _ => F
    rename News _ _ _ _ => N
    have N1 := News.swap (a := [(D, LCg.lst ys)]) (b := [(96, tabObj #[])]) N
    have hD96 : (D : Nat) ≠ 96 := fun e => off.1 e.symm
    obtain ⟨g1, hK1, hO1, hst, hrs1, _, back⟩ := split_ (sub := [(96, tabObj #[])]) F N1 (by
      intro p hp
      rw [List.mem_singleton.mp hp]
      simp only [List.map_cons, List.map_nil, List.mem_singleton]
      exact hD96)
    refine ⟨X.keeps F.keep, lm hA (dpt hdp (by decide)) (X.keeps hst) (T.keeps hst) hK1 hO1 (cH.keeps hst) (by show l.toArray.size ≤ _; rw [List.size_toArray]; omega) ?_⟩
    intro M tup ptb tl tp h3 tk3 ok htup hK3 hO3
    obtain ⟨F3, N3⟩ := back _ _ hK3 hO3
    clear F N
    have N4 : News g L h3 ([(tup, ({ cls := Value.type "tuple", data := Data.seq #[Value.ref M.x2, Value.ref M.l] } : Obj)), (96, tabObj ptb), (D, LCg.lst ys)] ++ (M.top w #[] 0 1 tl ++ M.bot 0 tp)) := fun x hx => N3 x (by
      rcases List.mem_append.mp hx with hx | hx
      · rcases List.mem_cons.mp hx with rfl | hx
        · exact List.mem_append_left _ (List.mem_cons_self ..)
        · rcases List.mem_cons.mp hx with rfl | hx
          · exact List.mem_append_left _ (.tail _ (List.mem_append_right _ (List.mem_append_right _ (List.mem_singleton.mpr rfl))))
          · exact List.mem_append_right _ hx
      · rcases List.mem_append.mp hx with hx | hx
        · exact List.mem_append_left _ (.tail _ (List.mem_append_left _ hx))
        · exact List.mem_append_left _ (.tail _ (List.mem_append_right _ (List.mem_append_left _ hx))))
    clear N3
    dsimp only [Mc.top, Mc.bot] at N4
    simp only [List.cons_append, List.nil_append] at N4
    refine' unpackN_ F3 N4 (News.isTup N4 (List.mem_cons_self ..)) ?k4 ?k5 ?k6 ?_
    case k4 => exact hA
    case k5 => exact rfl
    case k6 => exact rfl
    clear F3 N4
    intro h4 F4 N4
    have hDoff : ∀ p ∈ M.top w #[] 0 1 tl ++ M.bot 0 tp, p.1 ≠ D := fun p hp e => by
      have h1 := (hO3 p (List.mem_cons_of_mem _ (by
        rcases List.mem_append.mp hp with hp | hp
        · exact List.mem_append_left _ hp
        · exact List.mem_append_right _ (List.mem_append_left _ hp)))).2
      have h2 := hrs1 (D, LCg.lst ys) (List.mem_singleton.mpr rfl)
      rw [e] at h1
      rw [h1] at h2
      cases h2
    iterate 26 walk1
    rename Fr _ _ _ _ => F
    rename News _ _ _ _ => N
    have hord := ok.ord
    obtain ⟨g2, hK2, hO2, hst2, hrs2, _, back2⟩ := split_ (sub := M.top w #[] 0 1 tl ++ M.bot 0 tp) (rest := [(tup, ({ cls := Value.type "tuple", data := Data.seq #[Value.ref M.x2, Value.ref M.l] } : Obj)), (96, tabObj ptb), (D, LCg.lst ys)]) F (News.swap (a := [(tup, ({ cls := Value.type "tuple", data := Data.seq #[Value.ref M.x2, Value.ref M.l] } : Obj)), (96, tabObj ptb), (D, LCg.lst ys)]) N) (by
      intro p hp hq
      obtain ⟨x, hx, e⟩ := List.mem_map.mp hq
      simp only [List.mem_cons, List.not_mem_nil, or_false] at hp
      rcases hp with rfl | rfl | rfl
      · have e' : x.1 = tup := e
        exact Nat.not_le.mpr htup (e' ▸ mc_le ok x hx)
      · have e' : x.1 = 96 := e
        exact Nat.lt_irrefl _ (e' ▸ mc_gt ok x hx)
      · exact hDoff x hx e)
    refine ⟨X.keeps F.keep, lar P ok hn hws hpl hwz hpz (let ⟨o, ho, r⟩ := hlw; ⟨o, hst2 _ _ ho, r⟩) hvw (let ⟨o, ho, r⟩ := hlp; ⟨o, hst2 _ _ ho, r⟩) hvp hA (dpt hdp (by decide)) (X.keeps hst2) (T.keeps hst2) hK2 hO2 (by show l.toArray.size ≤ _; rw [List.size_toArray]; omega) ?_⟩
    intro h5 tk5 told npb5 line5 tl5 tp5 htold hK5 hO5
    obtain ⟨F5, N5⟩ := back2 _ _ hK5 hO5
    clear F N
    iterate 14 walk1
    rename Fr _ _ _ _ => F
    rename News _ _ _ _ => N
    obtain ⟨g3, hK6, hO6, hst3, hrs3, hsz3, back3⟩ := split_ F N (by
      intro p hp hq
      obtain ⟨x, hx, e⟩ := List.mem_map.mp hq
      have h1 := (hO5 x hx).2
      rw [e, hrs2 p hp] at h1
      cases h1)
    rw [show n = 2 ^ ws.length - 1 from by omega] at htold
    refine lpo ok hws hwz (let ⟨o, ho, r⟩ := hlw; ⟨o, hst3 _ _ ho, r⟩) hvw htold hA (by show A.units + 3 + 100 < _; omega) (dpt hdp (by decide)) (X.keeps hst3) (T.keeps hst3) hK6 hO6 (by show l.toArray.size ≤ _; rw [List.size_toArray]; omega) ?_
    intro h7 tk7 hK7
    exact hQ _ _ ptb ⟨fun b o e => hK7.keep _ _ (hst3 _ _ e), Nat.le_trans (hsz3 ▸ (Kp.of_fr F).size) hK7.size⟩ (hK7.keep _ _ (hrs3 (96, tabObj ptb) (by simp)))
end
end Mine
end

section
theorem Mine.freshPx : True := by
  w_top off
  trivial
open PySem PySem.W PyProof.Rows PySem.Calls PySem.Spec
namespace Mine
def goodC (c : Nat) : Prop := ws c = false ∧ c ≠ 34 ∧ c ≠ 92 ∧ c < 256
theorem sg_ends (i : Nat) (h : i < 4) : goodC (sg endsL i) := by
  match i, h with
  | 0, _ => exact ⟨by decide, by decide, by decide, by decide⟩
  | 1, _ => exact ⟨by decide, by decide, by decide, by decide⟩
  | 2, _ => exact ⟨by decide, by decide, by decide, by decide⟩
  | 3, _ => exact ⟨by decide, by decide, by decide, by decide⟩
theorem edge_ok (x : Nat) : (edge x = 34 ∨ ws (edge x) = true) ∧ edge x < 256 := by
  unfold edge
  split
  · exact ⟨.inl rfl, by decide⟩
  · have h : x / 2 % 4 < 4 := Nat.mod_lt _ (by decide)
    generalize x / 2 % 4 = i at h
    match i, h with
    | 0, _ => exact ⟨.inr (by decide), by decide⟩
    | 1, _ => exact ⟨.inr (by decide), by decide⟩
    | 2, _ => exact ⟨.inr (by decide), by decide⟩
    | 3, _ => exact ⟨.inr (by decide), by decide⟩
theorem betw_lt (i : Nat) (h : i < 6) : sg betwL i < 256 := by
  match i, h with
  | 0, _ => decide
  | 1, _ => decide
  | 2, _ => decide
  | 3, _ => decide
  | 4, _ => decide
  | 5, _ => decide
theorem midL_lt (x n : Nat) : ∀ c ∈ midL x n, c < 256 := by
  intro c hc
  have := List.mem_of_mem_take hc
  simp only [List.mem_cons, List.not_mem_nil, or_false] at this
  rcases this with rfl | rfl
  · exact betw_lt _ (Nat.mod_lt _ (by decide))
  · exact betw_lt _ (Nat.mod_lt _ (by decide))
theorem midL_len (x n : Nat) : (midL x n).length ≤ 2 := by unfold midL; rw [List.length_take]; simp; omega
theorem wordL_lt (x : Nat) : ∀ c ∈ wordL x, c < 256 := by
  intro c hc
  unfold wordL at hc
  simp only [List.mem_cons, List.mem_append, List.not_mem_nil, or_false] at hc
  rcases hc with rfl | hc | rfl
  · exact (sg_ends _ (Nat.mod_lt _ (by decide))).2.2.2
  · exact midL_lt _ _ c hc
  · exact (sg_ends _ (Nat.mod_lt _ (by decide))).2.2.2
theorem wordL_len (x : Nat) : (wordL x).length ≤ 4 := by
  unfold wordL; have := midL_len x (x / 128 % 3); simp only [List.length_cons, List.length_append, List.length_nil]; omega
theorem joinL_lt : ∀ l : List Nat, (∀ c ∈ l, c < 256) → ∀ c ∈ joinL l, c < 256
  | [], _, c, hc => by simp [joinL] at hc
  | [d], h, c, hc => by simp only [joinL] at hc; exact h c hc
  | d :: e :: l, h, c, hc => by
    rw [joinL_cons] at hc
    simp only [List.mem_cons] at hc
    rcases hc with rfl | rfl | hc
    · exact h _ (List.mem_cons_self ..)
    · decide
    · exact joinL_lt (e :: l) (fun c hc => h c (List.mem_cons_of_mem _ hc)) c hc
theorem writL_lt (x : Nat) : ∀ c ∈ writL x, c < 256 := by
  intro c hc
  unfold writL at hc
  simp only [List.mem_cons, List.mem_append, List.not_mem_nil, or_false] at hc
  rcases hc with rfl | hc | rfl
  · exact (edge_ok x).2
  · exact joinL_lt _ (wordL_lt x) c hc
  · exact (edge_ok x).2
theorem writL_len (x : Nat) : (writL x).length ≤ 20 ∧ 0 < (writL x).length := by
  unfold writL; have := joinL_len (wordL x); have := wordL_len x; simp only [List.length_cons, List.length_append, List.length_nil]; omega
theorem face_head (o x : Nat) : ∃ c l, facing o (wordL x) = c :: l ∧ goodC c := by
  unfold facing
  split
  · exact ⟨_, _, rfl, sg_ends _ (Nat.mod_lt _ (by decide))⟩
  · refine ⟨sg endsL (x / 32 % 4), (midL x (x / 128 % 3)).reverse ++ [sg endsL (x / 8 % 4)], ?_, sg_ends _ (Nat.mod_lt _ (by decide))⟩
    unfold wordL
    rw [List.reverse_cons, List.reverse_append]; rfl
theorem lx_face (o x : Nat) (rest : List Nat) : LX (facing o (writL x) ++ rest) (facing o (wordL x)) rest := by
  have e : writL x = wr (edge x) (wordL x) := rfl
  rw [e, facing_wr]
  obtain ⟨c, l, h, g⟩ := face_head o x
  rw [h]
  exact lx_wr (edge_ok x).1 g.1 g.2.1 g.2.2.1
theorem cre_odd2 {xs : List (List Nat)} {m o j : Nat} {q : List Nat} (h : Odd2 m o j) (hq : xs[j]? = some q) : cre xs 0 m = facing o q := by
  rw [h.eq, cre_at h.odd, Nat.zero_add, List.getD_eq_getElem?_getD, hq]; rfl
theorem the_plan (xs : List Nat) (h : xs ≠ []) :
    Plan ⟨(tapeL (xs.map writL)).toArray⟩ (xs.map wordL) (xs.map writL) (2 ^ xs.length - 1) (fun m => cre (xs.map wordL) 0 m) (fun m => cre (xs.map writL) 0 m)
      (fun m => cat (fun i => cre (xs.map writL) 0 (m + i)) (2 ^ xs.length - 1 - m)) := by
  have hst : ∀ m, m < 2 ^ xs.length - 1 → cat (fun i => cre (xs.map writL) 0 (m + i)) (2 ^ xs.length - 1 - m) = cre (xs.map writL) 0 (m + 1) ++ cat (fun i => cre (xs.map writL) 0 (m + 1 + i)) (2 ^ xs.length - 1 - (m + 1)) := by
    intro m hm
    rw [show 2 ^ xs.length - 1 - m = (2 ^ xs.length - 1 - (m + 1)) + 1 from by omega, cat_cons]
    congr 1
    refine cat_congr fun i _ _ => ?_
    rw [show m + (1 + i) = m + 1 + i from by omega]
  have hcr : ∀ m, 1 ≤ m → m ≤ 2 ^ xs.length - 1 → ∃ o j x, Odd2 m o j ∧ xs[j]? = some x := by
    intro m h1 h2
    obtain ⟨o, j, ho⟩ := odd2 m h1
    have hj := odd2_lt (K := xs.length) ho (by omega)
    exact ⟨o, j, _, ho, List.getElem?_eq_getElem hj⟩
  refine ⟨?_, hst, ?_, ?_, ?_⟩
  · show tapeL (xs.map writL) = _
    rw [tape_cat _ (by simpa using h), List.length_map, Nat.sub_zero]
    exact cat_congr fun i _ _ => by rw [Nat.zero_add]
  · intro m hm
    rw [hst m hm]
    obtain ⟨o, j, x, ho, hx⟩ := hcr (m + 1) (by omega) (by omega)
    rw [cre_odd2 ho (show (xs.map writL)[j]? = some (writL x) by rw [List.getElem?_map, hx]; rfl), cre_odd2 ho (show (xs.map wordL)[j]? = some (wordL x) by rw [List.getElem?_map, hx]; rfl)]
    exact lx_face o x _
  · rw [Nat.sub_self]; rfl
  · intro m h1 h2
    obtain ⟨o, j, x, ho, hx⟩ := hcr m h1 h2
    have e1 : (xs.map writL)[j]? = some (writL x) := by rw [List.getElem?_map, hx]; rfl
    have e2 : (xs.map wordL)[j]? = some (wordL x) := by rw [List.getElem?_map, hx]; rfl
    exact ⟨o, j, _, _, ho, e2, e1, cre_odd2 ho e2, cre_odd2 ho e1⟩
/-- the tape's signs -/
theorem tapeF_all {P : Nat → Prop} {t q : List Nat} (ht : ∀ c ∈ t, P c) (hq : ∀ c ∈ q, P c) : ∀ c ∈ tapeF t q, P c := by
  intro c hc
  unfold tapeF at hc
  simp only [List.mem_append, List.mem_reverse] at hc
  rcases hc with (hc | hc) | hc
  · exact ht c hc
  · exact hq c hc
  · exact ht c hc
theorem tape_lt (xs : List Nat) : ∀ c ∈ tapeL (xs.map writL), c < 256 := by
  cases xs with
  | nil => intro c hc; simp [tapeL] at hc
  | cons x xs =>
    show ∀ c ∈ (xs.map writL).foldl tapeF (writL x), c < 256
    have : ∀ (l : List Nat) (t : List Nat), (∀ c ∈ t, c < 256) → ∀ c ∈ (l.map writL).foldl tapeF t, c < 256 := by
      intro l
      induction l with
      | nil => intro t h; exact h
      | cons y l ih => intro t h; exact ih _ (tapeF_all h (writL_lt y))
    exact this xs _ (writL_lt x)
theorem tape_len (xs : List Nat) (h : xs.length ≤ 4) : (tapeL (xs.map writL)).length ≤ 1000 := by
  have hf : ∀ (l : List Nat) (t : List Nat), ((l.map writL).foldl tapeF t).length + 20 ≤ (t.length + 20) * 2 ^ l.length := by
    intro l
    induction l with
    | nil => intro t; simp
    | cons y l ih =>
      intro t
      refine Nat.le_trans (ih _) ?_
      rw [List.length_cons, Nat.pow_succ, ← Nat.mul_assoc, Nat.mul_right_comm]
      refine Nat.mul_le_mul_right _ ?_
      have := (writL_len y).1
      unfold tapeF; simp only [List.length_append, List.length_reverse]; omega
  cases xs with
  | nil => simp [tapeL]
  | cons x xs =>
    have h1 := hf xs (writL x)
    have h2 := (writL_len x).1
    have h3 : 2 ^ xs.length ≤ 8 := by
      have : xs.length ≤ 3 := by simpa using h
      calc 2 ^ xs.length ≤ 2 ^ 3 := Nat.pow_le_pow_right (by decide) this
        _ = 8 := rfl
    have h4 : ((writL x).length + 20) * 2 ^ xs.length ≤ 40 * 8 := Nat.mul_le_mul (by omega) h3
    show ((xs.map writL).foldl tapeF (writL x)).length ≤ _
    omega
/-- the tape turned about is the tape but for its middle -/
theorem turned_is {ps : List (List Nat)} {q : List Nat} (h : ps ≠ []) : ∃ t, tapeL (ps ++ [q]) = t ++ q ++ t.reverse ∧ (tapeL (ps ++ [q])).reverse = t ++ q.reverse ++ t.reverse := by
  cases ps with
  | nil => exact absurd rfl h
  | cons p ps =>
    refine ⟨tapeL (p :: ps), tape_snoc p ps q, ?_⟩
    rw [tape_snoc]; unfold tapeF; simp
end Mine
end

section
theorem Mine.freshDr : True := by
  w_top off
  trivial
open PySem PySem.W PyProof.Rows PySem.Calls PySem.Spec
namespace Mine
set_option maxRecDepth 100000
set_option maxHeartbeats 4000000
theorem lcEF {prog : Program} {w : World} {A : Around} {E : Value → Shared → Prop} {s : Shared} {h₀ : Heap} {L : Addr} {m : Str → Option Value} {env : Env} {elt iter : Expr} {x : Str} {px : Pos} {scope : Scope} {cl : List (Str × Addr)} {pos : Pos} {Q : Value → Shared → Prop} (F₀ : Fr h₀ L s.heap m)
    (hclos : closureFor scope env = pure cl) (hcell : ∀ y ∈ scope.names, y.2 ≠ .cell) (hkind : scope.kind = .function)
    (hnames : ∀ y ∈ scope.names, y.2 = .local → scope.names.lookup y.1 = some .local) (hx : scope.names.lookup x = some .local)
    (h : wpAny (model prog w) A (eval iter env) (AtSrc prog w A h₀ L m env elt x scope cl (fun s₂ => LCg.FinE h₀ L m s₂ Q)) E s)
    (hs : ∀ x, foldedSetIterable iter env x = pure x := by intro _; rfl) :
    wpAny (model prog w) A (eval (.ListComp elt [⟨.Name x px, iter, [], 0⟩] scope pos) env) Q E s := lcE hclos hcell hkind hnames hx h hs
theorem sum_small : ∀ {l : List Int} {B : Nat}, (∀ k ∈ l, 0 ≤ k ∧ k < 1000000) → l.length ≤ B → ∃ m : Nat, l.sum = (m : Int) ∧ m ≤ B * 1000000
  | [], B, _, _ => ⟨0, rfl, Nat.zero_le _⟩
  | k :: l, B, h, hl => by
    rw [List.length_cons] at hl
    obtain ⟨m, e, hm⟩ := sum_small (l := l) (B := B - 1) (fun k hk => h k (List.mem_cons_of_mem _ hk)) (by omega)
    have := h k (List.mem_cons_self ..)
    refine ⟨k.toNat + m, by rw [List.sum_cons, e]; omega, ?_⟩
    have : (B - 1) * 1000000 + 1000000 = B * 1000000 := by rw [← Nat.succ_mul]; congr 1; omega
    omega
theorem pick_mem {ns : List Int} {lo hi st : Option Int} : ∀ k ∈ pickNums ns lo hi st, k ∈ ns := by
  intro k hk
  unfold pickNums at hk
  obtain ⟨i, _, e⟩ := List.mem_filterMap.mp hk
  exact List.mem_of_getElem? e
theorem fmod_small (k : Int) : 0 ≤ k.fmod 1000000 ∧ k.fmod 1000000 < 1000000 := by
  rw [Int.fmod_eq_emod_of_nonneg _ (by decide)]
  omega
section
variable {w : World} {A : Around} {s : Shared} {g : Heap} {loose : List Str} {mean : ExcName → Option Value} {mg mb : Str → Option Value} {Q : Value → Shared → Prop} {E : Value → Shared → Prop}
theorem ldr {a : Addr} {vs : List Value} {ks : List Int} {n : Nat} {t : Tok} (hl : s.heap.IsList a vs.toArray) (hv : IntsAre vs ks) (hz : ks.length ≤ 63) (hn : n ≤ 4) (h0 : 0 < n)
   (hA : A.handled = none) (hdp : A.depth + 8 < recursionLimit) (X : (hd.heap_39 w.params).In s.heap) (T : Top topProg loose mean mg mb s.heap)
   (hQ : ∀ h' tk D ys (xs : List Nat), Kp s.heap h' → Own s.heap h' [(D, LCg.lst ys)] → IntsAre ys (xs.map fun x => ((x : Nat) : Int)) → xs.length = n → (∀ x ∈ xs, x ≤ 100000000) → Q (.ref D) { s with heap := h', toks := tk }) :
   wpAny (model PySem.Challenge.rw_pe0049_01.row.prog w) A (call (.ref 68) [.ref a, .int n t]) Q E s := by
  revert X; k_fill; intro X
  refine' enterCl (g := s.heap) (l := []) (binds := [(Str.ofString "script", .ref a), (Str.ofString "count", .int n t)]) ⟨fun _ _ h => h, Nat.le_refl _⟩ (fun _ h => nomatch h) X T ?k6 ?k7 ?k8 ?k9 ?kB ?kD ?_ ?c2 ?c3 ?c4
  case k6 => k_is
  case k7 => k_is
  case k8 => exact Nat.lt_of_le_of_lt (Nat.le_add_right _ _) hdp
  case k9 => exact BindsTo.of_eq rfl
  case kB => exact rfl
  case kD => decide +kernel
  case c2 => exact rfl
  case c3 => exact rfl
  case c4 => exact rfl
  intro L h1 tk cells F N Y lt
  k_lt lt
  k_cells Y
  simp only [List.append_nil] at N
  iterate 14 walk1
  dsimp only
  rename_i oF o2 oC dF d2 dC D0 hx lD h2 oB F N dB
  have dC' : oC.data = .cell (some (.int n t)) := dC
  have dF' : oF.data = .cell none := dF
  clear dC dF d2 hx o2
  refine wpAny_execs_cons (wpAny_Assign_Name (lcEF F (by with_unfolding_all rfl) (by decide) rfl (by decide) rfl ?_))
  iterate 8 walk1
  rename_i D1 ws1 h3 F N hI hC hL lD1
  clear hC hL
  dsimp only
  refine ⟨_, _, _, _, src_list hA F N (.inr ⟨_, List.mem_cons_self .., rfl, _, rfl⟩), ?_, F, N, .inr ⟨_, List.mem_cons_self .., rfl, _, rfl⟩, fun g' => rest_inv (fun i ys news => news = [(D1, W.listOf ws1.toArray 0), (D0, W.listOf #[Value.int 544 tk, Value.int 10315 (tk + 1), Value.int 24 (tk + 1 + 1), Value.int 1397 (tk + 1 + 1 + 1)] 0), (L + 1 + 1 + 1, oF), (L + 1 + 1, oB), (L + 1, oC)] ∧ IntsAre ys (((ks.take 60).take i).map fun k => k.fmod 1000000)) ?_ ?_ ⟨rfl, .nil⟩⟩
  · show ws1.length ≤ _
    have := hI.length
    rw [List.length_take] at this
    rw [sizeLine_eq]; omega
  · rintro i ys news v I oI C oC' D m₂ h tk' E' hi ⟨rfl, hys⟩ hv1 hC hx F' N' off ne
    clear F N
    have hv1' : ws1[i]? = some v := by simpa using hv1
    obtain ⟨k, hk⟩ : ∃ k, (ks.take 60)[i]? = some k := ⟨_, List.getElem?_eq_getElem (by rw [← hI.length]; exact hi)⟩
    obtain ⟨tv, hv2⟩ := hI.get i k hk
    rw [hv2] at hv1'
    cases hv1'
    iterate 6 walk1
    dsimp only
    rw [show ((10 : Int) ^ Int.toNat 6) = 1000000 from by decide]
    walk1
    dsimp only
    refine ⟨_, _, _, rfl, F', N', off, .inr ⟨_, List.mem_cons_self .., rfl, _, rfl⟩, rfl, ?_⟩
    rw [List.take_add_one, hk, Option.toList_some, List.map_append]
    exact ints_snoc hys
  · rintro ys news ⟨rfl, hys⟩ D h tk' F' N' off
    clear F N
    iterate 1 walk1
    rename_i h4 oF2 F N dF2
    simp only [List.cons_append, List.nil_append] at N
    dsimp only
    refine wpAny_execs_cons (wpAny_Return_some (lcEF F (by with_unfolding_all rfl) (by decide) rfl (by decide) rfl ?_))
    iterate 7 walk1
    rename IsRange _ _ _ _ _ _ _ _ => hr
    rename Fr _ _ _ _ => F
    rename News _ _ _ _ => N
    dsimp only
    refine ⟨_, _, _, _, src_range hA hr (small_range (by omega) (by omega) (by omega) (by omega) (by omega) (by omega)) ((rangeSize_one (by omega)).trans (by omega)), ?_, F, N, trivial, fun g' => rest_inv (n := n) (fun i ys' news => news = [(D, LCg.lst ys), (D1, W.listOf ws1.toArray 0), (D0, W.listOf #[Value.int 544 tk, Value.int 10315 (tk + 1), Value.int 24 (tk + 1 + 1), Value.int 1397 (tk + 1 + 1 + 1)] 0), (L + 1 + 1 + 1, oF2), (L + 1 + 1, oB), (L + 1, oC)] ∧ ∃ xs : List Nat, IntsAre ys' (xs.map fun x => ((x : Nat) : Int)) ∧ xs.length = i ∧ ∀ x ∈ xs, x ≤ 100000000) ?_ ?_ ⟨rfl, [], .nil, rfl, fun _ h => nomatch h⟩⟩
    · rw [sizeLine_eq]; omega
    · rintro i ys' news v I oI C oC' D' m₂ h5 tk5 E' hi ⟨rfl, xs, hxs, hxl, hxb⟩ ⟨tv, rfl⟩ hC hx F' N' off' ne
      rw [show (0 + (i : Int)) = ((i : Nat) : Int) from by omega] at hx
      iterate 4 walk1
      obtain ⟨b, tb, hb, hbz⟩ : ∃ (b : Nat) (tb : Tok), #[Value.int 544 tk, Value.int 10315 (tk + 1), Value.int 24 (tk + 1 + 1), Value.int 1397 (tk + 1 + 1 + 1)][i]? = some (.int ((b : Nat) : Int) tb) ∧ b ≤ 10315 := by
        rcases (show i = 0 ∨ i = 1 ∨ i = 2 ∨ i = 3 by omega) with rfl | rfl | rfl | rfl
        · exact ⟨544, _, rfl, by omega⟩
        · exact ⟨10315, _, rfl, by omega⟩
        · exact ⟨24, _, rfl, by omega⟩
        · exact ⟨1397, _, rfl, by omega⟩
      refine item_litK (News.isList N' (by k_mem)) (by omega) (by omega) (by simpa using hb) ?_
      iterate 12 walk1
      dsimp only
      have hlD : h5.IsList D ys.toArray := ⟨_, (N' (D, LCg.lst ys) (by k_mem)).1, rfl, _, rfl⟩
      refine kmk_slice3_lit (s := ⟨h5, s.gens, s.drawn, _, s.os⟩) F' N' hlD (IsPart.int _ _) .none (IsPart.int _ _) (by simp; omega) rfl ?_ (by with_unfolding_all rfl) (by intro _; with_unfolding_all rfl) ?_
      · intro D2 h6 F6 N6 lt6
        have hlk : ys.length ≤ 60 := by have := hys.length; rw [this, List.length_map, List.length_take, List.length_take]; omega
        have hp := hys.pick (some ((i : Nat) : Int)) none (some ((n : Nat) : Int))
        have hpl := length_pickNums_le hys (some ((i : Nat) : Int)) none (some ((n : Nat) : Int))
        rw [← hys.length] at hpl
        obtain ⟨mm, hm1, hm2⟩ := sum_small (l := pickNums (List.map (fun k => k.fmod 1000000) (List.take ws1.toArray.size (List.take 60 ks))) (some ((i : Nat) : Int)) none (some ((n : Nat) : Int))) (B := 60) (fun k hk => by
          obtain ⟨z, _, rfl⟩ := List.mem_map.mp (pick_mem k hk)
          exact fmod_small z) (by omega)
        clear F' N'
        walk1
        refine LSm.sum_ints F6 N6 hA ⟨_, (N6 _ (List.mem_cons_self ..)).1, rfl, _, rfl⟩ hp ?_
        intro h7 tk7 t7 F7 N7
        clear F6 N6
        rw [hm1]
        walk1
        refine ⟨_, _, _, rfl, F7, (fun p hp => N7 p (List.mem_cons_of_mem _ hp)), off', trivial, rfl, xs ++ [b + mm], ?_, ?_, ?_⟩
        · rw [List.map_append]
          exact ints_snoc hxs
        · rw [List.length_append, hxl]; rfl
        · intro x hx
          rcases List.mem_append.mp hx with hx | hx
          · exact hxb x hx
          · rw [List.mem_singleton.mp hx]; omega
      · rw [List.size_toArray, sizeLine_eq]
        have := hys.length; rw [this, List.length_map, List.length_take, List.length_take]; omega
    · rintro ys2 news2 ⟨rfl, xs, hxs, hxl, hxb⟩ D3 h8 tk8 F8 N8 off8
      have hm := N8 _ (List.mem_cons_self ..)
      exact hQ _ _ D3 ys2 xs (Kp.of_fr F8) (fun p hp => by rw [List.mem_singleton.mp hp]; exact ⟨hm.1, hm.2.2⟩) hxs hxl hxb
end
end Mine
end

section
theorem Mine.freshLa : True := by
  w_top off
  trivial
open PySem PySem.W PyProof.Rows PySem.Calls PySem.Spec
namespace Mine
set_option maxRecDepth 100000
set_option maxHeartbeats 4000000
theorem tape_pos (xs : List Nat) (h : xs ≠ []) : 0 < (tapeL (xs.map writL)).length := by
  have hf : ∀ (l : List Nat) (t : List Nat), 0 < t.length → 0 < ((l.map writL).foldl tapeF t).length := by
    intro l
    induction l with
    | nil => intro t h; exact h
    | cons y l ih => intro t h; exact ih _ (by unfold tapeF; simp only [List.length_append]; omega)
  cases xs with
  | nil => exact absurd rfl h
  | cons x xs => exact hf xs _ (writL_len x).2
theorem cutC {prog : Program} {w : World} {A : Around} {s : Shared} {env : Env} {st : Stmt} {rest : List Stmt} {Q : Flow → Shared → Prop} {E : Value → Shared → Prop} (P : Shared → Prop)
    (h : wpC (model prog w) A (exec st env) (fun f s' => f = .next ∧ P s') (fun _ _ => False) s)
    (k : ∀ s', P s' → wpC (model prog w) A (execs rest env) Q E s') : wpC (model prog w) A (execs (st :: rest) env) Q E s := by
  refine execs_consC (wpC_mono h (fun f s' hp => ?_) fun _ _ x => x.elim)
  obtain ⟨rfl, hp⟩ := hp
  exact k _ hp
theorem lcAF {prog : Program} {w : World} {A : Around} {E : Value → Shared → Prop} {s : Shared} {h₀ : Heap} {L : Addr} {m : Str → Option Value} {env : Env} {elt iter : Expr} {x y : Str} {px py : Pos} {scope : Scope} {cl : List (Str × Addr)} {pos spos : Pos} {Q : Flow → Shared → Prop} (F₀ : Fr h₀ L s.heap m) (hLe : env.locals = L)
    (hsw : swapsWith (.ListComp elt [⟨.Name x px, iter, [], 0⟩] scope pos) (some (.Name y py)) spos.line env = pure true)
    (hclos : closureFor scope env = pure cl) (hcell : ∀ z ∈ scope.names, z.2 ≠ .cell) (hkind : scope.kind = .function)
    (hnames : ∀ z ∈ scope.names, z.2 = .local → scope.names.lookup z.1 = some .local) (hx : scope.names.lookup x = some .local)
    (hy : env.kindOf y = some .local) (hp : (env.scope.kind == .class || (env.scope.kind == .module && env.locals != env.globals)) = false)
    (h : wpAny (model prog w) A (eval iter env) (AtSrc prog w A h₀ L m env elt x scope cl (fun s₂ => LCg.FinA h₀ L m s₂ y Q)) E s)
    (hs : ∀ x, foldedSetIterable iter env x = pure x := by intro _; rfl) :
    wpAny (model prog w) A (exec (.Assign [.Name y py] (.ListComp elt [⟨.Name x px, iter, [], 0⟩] scope pos) spos) env) Q E s := lcA hLe hsw hclos hcell hkind hnames hx hy hp h hs
theorem News.two {g h h' : Heap} {L : Addr} {m : Str → Option Value} {l new : List (Addr × Obj)} (F : Fr g L h m) (N : News g L h l) (hk : Kp h h') (hO : Own h h' new) : News g L h' (new ++ l) := by
  intro p hp
  rcases List.mem_append.mp hp with hp | hp
  · refine ⟨(hO p hp).1, fun q => ?_, ?_⟩
    · obtain ⟨o, _, _, ho, _⟩ := F.ns
      have := (hO p hp).2; rw [q, ho] at this; cases this
    · cases e : g.get? p.1 with
      | none => rfl
      | some o => have := (hO p hp).2; rw [F.keep _ _ e] at this; cases this
  · exact ⟨hk.keep _ _ (N p hp).1, (N p hp).2⟩
theorem item_negK {prog : Program} {w : World} {A : Around} {E : Value → Shared → Prop} {s : Shared} {value slice : PySem.Expr} {l : Addr} {vs : Array Value} {k : Int} {u : Tok} {v : Value} {Q : Value → Shared → Prop} (hl : s.heap.IsList l vs) (h0 : k < 0) (h1 : -(vs.size : Int) ≤ k) (hfit : -(2 ^ 63) ≤ k) (hx : vs[(k + vs.size).toNat]? = some v) (h : Q v s)
    (hs : subscripted slice false (.ref l) (.int k u) = operate [.ref l, .int k u] (getItem (.ref l) (.int k u)) := by with_unfolding_all rfl) :
    wpAny (model prog w) A (subscriptTail value slice (.ref l) (.int k u)) Q E s :=
  tail_any hl.typeIs slot_list_getitem.lookup (wpAny_getItem_list_neg hl h0 h1 hfit hx h) hs
theorem octs_list (l : List Nat) : (octs l).toList = l.map Nat.toUInt8 := by simp [octs]
theorem pick_octs (l : List Nat) (lo hi : Option Int) : KBy.picked (octs l) lo hi = octs ((l.drop (lo.elim 0 (clipAt l.length))).take (hi.elim l.length (clipAt l.length) - lo.elim 0 (clipAt l.length))) := by
  rw [KBc.picked_eq, octs_list, octs_size]
  unfold octs
  rw [List.map_take, List.map_drop]
theorem pick_pre (a b : List Nat) : KBy.picked (octs (a ++ b)) none (some ((a.length : Nat) : Int)) = octs a := by
  rw [pick_octs]
  simp only [Option.elim, clipAt_nat, List.drop_zero, Nat.sub_zero]
  rw [List.length_append, Nat.min_eq_left (by omega), List.take_left]
theorem pick_post (a b : List Nat) : KBy.picked (octs (a ++ b)) (some ((a.length : Nat) : Int)) none = octs b := by
  rw [pick_octs]
  simp only [Option.elim, clipAt_nat]
  rw [List.length_append, Nat.min_eq_left (by omega), List.drop_left, List.take_of_length_le (by omega)]
section
variable {w : World} {A : Around} {s : Shared} {g : Heap} {loose : List Str} {mean : ExcName → Option Value} {mg mb : Str → Option Value} {Q : Value → Shared → Prop} {E : Value → Shared → Prop}
theorem law01 {a : Addr} {vs : List Value} {ks : List Int} (hl : g.IsList a vs.toArray) (hv : IntsAre vs ks) (hz : ks.length ≤ 63)
   (hA : A.handled = none) (hu : A.units + 300 < cLine) (hdp : A.depth + 40 < recursionLimit) (X : (hd.heap_39 w.params).In g) (T : Top topProg loose mean mg mb g) (hK : Kp g s.heap) (hO : Own g s.heap [(96, tabObj #[])]) (cH : CodeHd g 100 96)
   (hQ : ∀ h' tk ps, Kp g h' → h'.get? 96 = some (tabObj ps) → Q (.bool true) { s with heap := h', toks := tk }) :
   wpC (model PySem.Challenge.rw_pe0049_01.row.prog w) A (call (.ref 132) [.ref a]) Q E s := by
  revert X; k_fill; intro X
  refine' enterC (binds := [(Str.ofString "script", .ref a)]) hK hO X T ?k6 ?k7 ?k8 ?k9 ?kB ?_ ?c5 ?c2 ?c3 ?c4
  case k6 => k_is
  case k7 => k_is
  case k8 => exact Nat.lt_of_le_of_lt (Nat.le_add_right _ _) hdp
  case k9 => exact BindsTo.of_eq rfl
  case kB => exact locs rfl
  case c5 => decide
  case c2 => exact rfl
  case c3 => exact rfl
  case c4 => exact rfl
  intro L h1 F N lt
  obtain ⟨n, hn, hn2, hn4⟩ : ∃ n : Nat, n = 2 + (ks.length + 1) % 3 ∧ 2 ≤ n ∧ n ≤ 4 := ⟨_, rfl, by omega, by omega⟩
  refine cutC (fun s' => ∃ h tk u, s' = { s with heap := h, toks := tk } ∧ Fr g L h (fun y => if y = Str.ofString "count" then some (.int ((n : Nat) : Int) u) else List.lookup y [(Str.ofString "script", .ref a)].reverse) ∧ News g L h [(96, tabObj #[])]) (.of_any ?_) ?_
  · iterate 16 walk1
    dsimp only
    rw [show (((ks.length : Int) + 1).fmod 3) = ((n - 2 : Nat) : Int) from by rw [Int.fmod_eq_emod_of_nonneg _ (by decide)]; omega]
    walk1
    rw [show (2 + ((n - 2 : Nat) : Int)) = ((n : Nat) : Int) from by omega]
    walk1
    rename Fr _ _ _ _ => F
    rename News _ _ _ _ => N
    exact ⟨trivial, _, _, _, rfl, F, N⟩
  rintro s' ⟨h2, tk2, u2, rfl, F2, N2⟩
  clear F N
  refine cutC (fun s' => ∃ (h : Heap) (tk : Nat) (D : Addr) (ys : List Value) (xs : List Nat), s' = { s with heap := h, toks := tk } ∧ Fr g L h (fun y => if y = Str.ofString "drawn" then some (.ref D) else if y = Str.ofString "count" then some (.int ((n : Nat) : Int) u2) else List.lookup y [(Str.ofString "script", .ref a)].reverse) ∧ News g L h [(D, LCg.lst ys), (96, tabObj #[])] ∧ IntsAre ys (xs.map fun x => ((x : Nat) : Int)) ∧ xs.length = n ∧ (∀ x ∈ xs, x ≤ 100000000) ∧ D ≠ 96) (.of_any ?_) ?_
  · iterate 9 walk1
    refine ⟨X.keeps F2.keep, ldr (F2.lst hl) hv hz hn4 (by omega) hA (dpt hdp (by decide)) (X.keeps F2.keep) (T.keeps F2.keep) ?_⟩
    intro h3 tk3 D ys xs hk3 hO3 hys hxl hxb
    have hD : D ≠ 96 := fun e => by
      have h1 := (hO3 _ (List.mem_cons_self ..)).2
      have h2 := (N2 _ (List.mem_cons_self ..)).1
      rw [e] at h1; rw [h1] at h2; cases h2
    have N3 := News.two F2 N2 hk3 hO3
    have F3 := F2.after hk3.keep
    clear F2 N2
    walk1
    rename Fr _ _ _ _ => F
    rename News _ _ _ _ => N
    exact ⟨trivial, _, _, D, ys, xs, rfl, F, N, hys, hxl, hxb, hD⟩
  rintro s' ⟨h3, tk3, D, ys, xs, rfl, F3, N3, hys, hxl, hxb, hD⟩
  clear F2 N2
  refine cutC (fun s' => ∃ (h : Heap) (tk : Nat) (W : Addr) (vw : List Value), s' = { s with heap := h, toks := tk } ∧ Fr g L h (fun y => if y = Str.ofString "words" then some (.ref W) else if y = Str.ofString "drawn" then some (.ref D) else if y = Str.ofString "count" then some (.int ((n : Nat) : Int) u2) else List.lookup y [(Str.ofString "script", .ref a)].reverse) ∧ News g L h [(W, LCg.lst vw), (D, LCg.lst ys), (96, tabObj #[])] ∧ StrsAre vw ((xs.map wordL).map mkS) ∧ W ≠ 96) (.of_any ?_) ?_
  · refine lcAF F3 rfl (by with_unfolding_all rfl) (by with_unfolding_all rfl) (by decide) rfl (by decide) rfl rfl rfl ?_
    walk1
    refine ⟨_, _, _, _, src_list hA F3 N3 (.inr ⟨_, List.mem_cons_self .., rfl, _, rfl⟩), ?_, F3, N3, .inr ⟨_, List.mem_cons_self .., rfl, _, rfl⟩, fun g' => rest_inv (fun i zs news => news = [(D, LCg.lst ys), (96, tabObj #[])] ∧ StrsAre zs (((xs.take i).map wordL).map mkS)) ?_ ?_ ⟨rfl, .nil⟩⟩
    · show ys.length ≤ _
      have := hys.length; rw [List.length_map] at this
      rw [sizeLine_eq]; omega
    · rintro i zs news v I oI C oC D' m₂ h4 tk4 E' hi ⟨rfl, hzs⟩ hv1 hC hx F' N' off ne
      have hi' : i < xs.length := by have := hys.length; rw [List.length_map] at this; rw [← this]; exact hi
      obtain ⟨x, hxi⟩ : ∃ x, xs[i]? = some x := ⟨_, List.getElem?_eq_getElem hi'⟩
      obtain ⟨tv, hv2⟩ := hys.get i (x : Int) (by rw [List.getElem?_map, hxi]; rfl)
      have hv1' : ys[i]? = some v := by simpa using hv1
      rw [hv2] at hv1'
      cases hv1'
      iterate 7 walk1
      refine ⟨X.keeps F'.keep, lw (hxb x (List.mem_of_getElem? hxi)) hA (dpt hdp (by decide)) (X.keeps F'.keep) (T.keeps F'.keep) ?_⟩
      intro h5 tk5 u5 hk5
      refine ⟨_, _, [(D, LCg.lst ys), (96, tabObj #[])], rfl, F'.after hk5.keep, Nafter N' hk5.keep, off, .inr ⟨_, List.mem_cons_self .., rfl, _, rfl⟩, rfl, ?_⟩
      rw [List.take_add_one, hxi, Option.toList_some, List.map_append, List.map_append]
      exact kct_snoc hzs
    · rintro zs news ⟨rfl, hzs⟩ D' h4 tk4 F4 N4 off4
      have := hys.length; rw [List.length_map] at this
      rw [List.size_toArray, this, List.take_length] at hzs
      exact ⟨rfl, _, _, D', zs, rfl, F4, N4, hzs, fun e => off4.2.1 e.symm⟩
  rintro s' ⟨h4, tk4, W, vw, rfl, F4, N4, hvw, hW⟩
  clear F3 N3
  refine cutC (fun s' => ∃ (h : Heap) (tk : Nat) (P : Addr) (vp : List Value), s' = { s with heap := h, toks := tk } ∧ Fr g L h (fun y => if y = Str.ofString "pieces" then some (.ref P) else if y = Str.ofString "words" then some (.ref W) else if y = Str.ofString "drawn" then some (.ref D) else if y = Str.ofString "count" then some (.int ((n : Nat) : Int) u2) else List.lookup y [(Str.ofString "script", .ref a)].reverse) ∧ News g L h [(P, LCg.lst vp), (W, LCg.lst vw), (D, LCg.lst ys), (96, tabObj #[])] ∧ StrsAre vp ((xs.map writL).map mkS) ∧ P ≠ 96) (.of_any ?_) ?_
  · refine lcAF F4 rfl (by with_unfolding_all rfl) (by with_unfolding_all rfl) (by decide) rfl (by decide) rfl rfl rfl ?_
    walk1
    refine ⟨_, _, _, _, src_list hA F4 N4 (.inr ⟨_, List.mem_cons_of_mem _ (List.mem_cons_self ..), rfl, _, rfl⟩), ?_, F4, N4, .inr ⟨_, List.mem_cons_of_mem _ (List.mem_cons_self ..), rfl, _, rfl⟩, fun g' => rest_inv (fun i zs news => news = [(W, LCg.lst vw), (D, LCg.lst ys), (96, tabObj #[])] ∧ StrsAre zs (((xs.take i).map writL).map mkS)) ?_ ?_ ⟨rfl, .nil⟩⟩
    · show ys.length ≤ _
      have := hys.length; rw [List.length_map] at this
      rw [sizeLine_eq]; omega
    · rintro i zs news v I oI C oC D' m₂ h5 tk5 E' hi ⟨rfl, hzs⟩ hv1 hC hx F' N' off ne
      have hi' : i < xs.length := by have := hys.length; rw [List.length_map] at this; rw [← this]; exact hi
      obtain ⟨x, hxi⟩ : ∃ x, xs[i]? = some x := ⟨_, List.getElem?_eq_getElem hi'⟩
      obtain ⟨tv, hv2⟩ := hys.get i (x : Int) (by rw [List.getElem?_map, hxi]; rfl)
      have hv1' : ys[i]? = some v := by simpa using hv1
      rw [hv2] at hv1'
      cases hv1'
      iterate 7 walk1
      refine ⟨X.keeps F'.keep, lwr (hxb x (List.mem_of_getElem? hxi)) hA (dpt hdp (by decide)) (X.keeps F'.keep) (T.keeps F'.keep) ?_⟩
      intro h6 tk6 u6 hk6
      refine ⟨_, _, [(W, LCg.lst vw), (D, LCg.lst ys), (96, tabObj #[])], rfl, F'.after hk6.keep, Nafter N' hk6.keep, off, .inr ⟨_, List.mem_cons_of_mem _ (List.mem_cons_self ..), rfl, _, rfl⟩, rfl, ?_⟩
      rw [List.take_add_one, hxi, Option.toList_some, List.map_append, List.map_append]
      exact kct_snoc hzs
    · rintro zs news ⟨rfl, hzs⟩ D' h5 tk5 F5 N5 off5
      have := hys.length; rw [List.length_map] at this
      rw [List.size_toArray, this, List.take_length] at hzs
      exact ⟨rfl, _, _, D', zs, rfl, F5, N5, hzs, fun e => off5.2.2.1 e.symm⟩
  rintro s' ⟨h5, tk5, P, vp, rfl, F5, N5, hvp, hP⟩
  clear F4 N4
  have hpne : xs ≠ [] := by intro e; rw [e] at hxl; simp at hxl; omega
  have htl := tape_len xs (by omega)
  have htc := tape_lt xs
  have htp : 0 < (tapeL (xs.map writL)).length := tape_pos xs hpne
  obtain ⟨x0, xr, hx0⟩ : ∃ x0 xr, xs = x0 :: xr := by
    cases xs with
    | nil => exact absurd rfl hpne
    | cons x0 xr => exact ⟨_, _, rfl⟩
  obtain ⟨v0, vr, hv0⟩ : ∃ v0 vr, vp = v0 :: vr := by
    cases vp with
    | nil => have := hvp.length; rw [hx0] at this; simp at this
    | cons v0 vr => exact ⟨_, _, rfl⟩
  refine cutC (fun s' => ∃ (h : Heap) (tk : Nat) (t6 : Tok), s' = { s with heap := h, toks := tk } ∧ Fr g L h (fun y => if y = Str.ofString "tape" then some (.bytes (octs (tapeL (xs.map writL))) t6) else if y = Str.ofString "pieces" then some (.ref P) else if y = Str.ofString "words" then some (.ref W) else if y = Str.ofString "drawn" then some (.ref D) else if y = Str.ofString "count" then some (.int ((n : Nat) : Int) u2) else List.lookup y [(Str.ofString "script", .ref a)].reverse) ∧ News g L h [(P, LCg.lst vp), (W, LCg.lst vw), (D, LCg.lst ys), (96, tabObj #[])]) (assignC (callC_ ?_)) ?_
  · walk1
    refine callWithC (P := (hd.heap_39 w.params).In) (fun h X => let ⟨k, _, L⟩ := keeps_K (by k_is) h X; ⟨k, L⟩) ?_
    iterate 3 walk1
    refine ⟨X.keeps F5.keep, ?_⟩
    rw [hv0] at N5
    rw [hv0, hx0] at hvp
    rw [hx0]
    refine ltp (p := writL x0) (ps := xr.map writL) (v := v0) (vs := vr) ?_ (by rw [List.length_map]; rw [hx0] at hxl; simp at hxl; omega) ⟨_, (N5 _ (List.mem_cons_self ..)).1, rfl, _, rfl⟩ hvp hA (dpt hdp (by decide)) (X.keeps F5.keep) (T.keeps F5.keep) ?_
    · intro q hq
      obtain ⟨x, _, rfl⟩ : ∃ x, x ∈ x0 :: xr ∧ writL x = q := List.mem_map.mp (by simpa using hq)
      exact ⟨writL_lt x, writL_len x⟩
    intro h6 tk6 u6 hk6
    refine .of_any ?_
    have F6 := F5.after hk6.keep
    have N6 := Nafter N5 hk6.keep
    clear F5 N5
    walk1
    rename Fr _ _ _ _ => F
    rename News _ _ _ _ => N
    rw [← hv0] at N
    exact ⟨trivial, _, _, _, rfl, F, N⟩
  rintro s' ⟨h6, tk6, t6, rfl, F6, N6⟩
  clear F5 N5
  refine cutC (fun s' => ∃ (h : Heap) (tk : Nat) (t7 : Tok), s' = { s with heap := h, toks := tk } ∧ Fr g L h (fun y => if y = Str.ofString "turned" then some (.bytes (octs (tapeL (xs.map writL)).reverse) t7) else if y = Str.ofString "tape" then some (.bytes (octs (tapeL (xs.map writL))) t6) else if y = Str.ofString "pieces" then some (.ref P) else if y = Str.ofString "words" then some (.ref W) else if y = Str.ofString "drawn" then some (.ref D) else if y = Str.ofString "count" then some (.int ((n : Nat) : Int) u2) else List.lookup y [(Str.ofString "script", .ref a)].reverse) ∧ News g L h [(P, LCg.lst vp), (W, LCg.lst vw), (D, LCg.lst ys), (96, tabObj #[])]) (assignC (callC_ ?_)) ?_
  · walk1
    refine callWithC (P := (hd.heap_39 w.params).In) (fun h X => let ⟨k, _, L⟩ := keeps_K (by k_is) h X; ⟨k, L⟩) ?_
    iterate 9 walk1
    refine len_bytes (by rw [octs_size]; omega) ?_
    walk1
    refine ⟨X.keeps F6.keep, ?_⟩
    rw [octs_size]
    refine bs (n := (tapeL (xs.map writL)).length) (c := 1) hA (dpt1 hdp (by decide)) (X.keeps F6.keep) (T.keeps F6.keep) (by rw [octs_size]; omega) htp (by rw [octs_size, Nat.one_mul]) (by omega) ?_
    intro b' t' h7 tk7 hk7 hsw
    have F7 := F6.after hk7.keep
    have N7 := Nafter N6 hk7.keep
    clear F6 N6
    rw [sw_rev htp hsw]
    refine .of_any ?_
    walk1
    rename Fr _ _ _ _ => F
    rename News _ _ _ _ => N
    exact ⟨trivial, _, _, _, rfl, F, N⟩
  rintro s' ⟨h7, tk7, t7, rfl, F7, N7⟩
  clear F6 N6
  obtain ⟨xi, xl, hxil⟩ : ∃ xi xl, xs = xi ++ [xl] := ⟨_, _, (List.dropLast_concat_getLast hpne).symm⟩
  have hxine : xi.map writL ≠ [] := by
    intro e
    have : xi = [] := by simpa using e
    rw [this] at hxil; rw [hxil] at hxl; simp at hxl; omega
  obtain ⟨T0, e1, e2⟩ := turned_is (q := writL xl) hxine
  rw [show xi.map writL ++ [writL xl] = xs.map writL from by rw [hxil, List.map_append]; rfl] at e1 e2
  have hvpl : vp.length = n := by have := hvp.length; rw [List.length_map, List.length_map] at this; omega
  obtain ⟨vl, hvl⟩ : ∃ vl, vp[n - 1]? = some vl := ⟨_, List.getElem?_eq_getElem (by omega)⟩
  obtain ⟨y, tq, hy, rfl⟩ := strs_at hvp hvl
  rw [List.getElem?_map, List.getElem?_map, hxil, List.getElem?_append_right (by rw [hxil] at hxl; simp at hxl; omega), show n - 1 - xi.length = 0 from by rw [hxil] at hxl; simp at hxl; omega] at hy
  obtain rfl : mkS (writL xl) = y := by simpa using hy
  have hwl := writL_len xl
  have hT0 : T0.length + T0.length + (writL xl).length ≤ 1000 := by rw [e1] at htl; simp only [List.length_append, List.length_reverse] at htl; omega
  generalize htape : tapeL (xs.map writL) = tape at *
  refine cutC (fun s' => ∃ (h : Heap) (tk : Nat) (t8 : Tok), s' = { s with heap := h, toks := tk } ∧ Fr g L h (fun y => if y = Str.ofString "middle" then some (.bytes (octs (writL xl).reverse) t8) else if y = Str.ofString "turned" then some (.bytes (octs tape.reverse) t7) else if y = Str.ofString "tape" then some (.bytes (octs tape) t6) else if y = Str.ofString "pieces" then some (.ref P) else if y = Str.ofString "words" then some (.ref W) else if y = Str.ofString "drawn" then some (.ref D) else if y = Str.ofString "count" then some (.int ((n : Nat) : Int) u2) else List.lookup y [(Str.ofString "script", .ref a)].reverse) ∧ News g L h [(P, LCg.lst vp), (W, LCg.lst vw), (D, LCg.lst ys), (96, tabObj #[])]) (.of_any ?_) ?_
  · iterate 11 walk1
    refine item_negK (vs := vp.toArray) ⟨_, (N7 _ (List.mem_cons_self ..)).1, rfl, _, rfl⟩ (by decide) (by rw [List.size_toArray, hvpl]; omega) (by decide) (by rw [List.size_toArray, hvpl]; simpa [show ((-1 : Int) + (n : Int)).toNat = n - 1 from by omega] using hvl) ?_
    iterate 7 walk1
    refine slice_rev (by omega) F7 N7 ?_
    intro h8 t8 k8 F8 N8
    clear F7 N7
    walk1
    refine ⟨X.keeps F8.keep, lo (l := (writL xl).reverse) (fun c hc => writL_lt xl c (by simpa using hc)) (by rw [List.length_reverse]; omega) hA (dpt hdp (by decide)) (X.keeps F8.keep) (T.keeps F8.keep) ?_⟩
    intro h9 tk9 u9 hk9
    have F9 := F8.after hk9.keep
    have N9 := Nafter N8 hk9.keep
    clear F8 N8
    walk1
    rename Fr _ _ _ _ => F
    rename News _ _ _ _ => N
    exact ⟨trivial, _, _, _, rfl, F, N⟩
  rintro s' ⟨h8, tk8, t8, rfl, F8, N8⟩
  clear F7 N7
  refine cutC (fun s' => ∃ (h : Heap) (tk : Nat) (t9 : Tok), s' = { s with heap := h, toks := tk } ∧ Fr g L h (fun y => if y = Str.ofString "half" then some (.int ((T0.length : Nat) : Int) t9) else if y = Str.ofString "middle" then some (.bytes (octs (writL xl).reverse) t8) else if y = Str.ofString "turned" then some (.bytes (octs tape.reverse) t7) else if y = Str.ofString "tape" then some (.bytes (octs tape) t6) else if y = Str.ofString "pieces" then some (.ref P) else if y = Str.ofString "words" then some (.ref W) else if y = Str.ofString "drawn" then some (.ref D) else if y = Str.ofString "count" then some (.int ((n : Nat) : Int) u2) else List.lookup y [(Str.ofString "script", .ref a)].reverse) ∧ News g L h [(P, LCg.lst vp), (W, LCg.lst vw), (D, LCg.lst ys), (96, tabObj #[])]) (.of_any ?_) ?_
  · iterate 9 walk1
    refine len_bytes (by rw [octs_size]; omega) ?_
    iterate 6 walk1
    refine len_bytes (by rw [octs_size, List.length_reverse]; omega) ?_
    iterate 2 walk1
    rw [octs_size, octs_size, List.length_reverse]
    dsimp only
    rw [show ((tape.length : Int) - ((writL xl).length : Int)) = ((T0.length * 2 : Nat) : Int) from by rw [e1]; simp only [List.length_append, List.length_reverse]; push_cast; omega]
    walk1
    dsimp only
    rw [show (((T0.length * 2 : Nat) : Int).fdiv 2) = ((T0.length : Nat) : Int) from by rw [show (((T0.length * 2 : Nat) : Int).fdiv 2) = ((T0.length * 2 / 2 : Nat) : Int) from fd_ _ 2, Nat.mul_div_cancel _ (by decide)]]
    walk1
    rename Fr _ _ _ _ => F
    rename News _ _ _ _ => N
    exact ⟨trivial, _, _, _, rfl, F, N⟩
  rintro s' ⟨h9, tk9, t9, rfl, F9, N9⟩
  clear F8 N8
  refine .of_any ?_
  iterate 12 walk1
  iterate 2 walk1
  dsimp only
  have hp1 : KBy.picked (octs tape) none (some ((T0.length : Nat) : Int)) = octs T0 := by rw [e1, List.append_assoc]; exact pick_pre _ _
  have hp2 : KBy.picked (octs tape) (some (((T0 ++ writL xl).length : Nat) : Int)) none = octs T0.reverse := by rw [e1]; exact pick_post _ _
  iterate 10 walk1
  iterate 6 walk1
  refine KBc.slice_K (s := ⟨_, _, _, _, _⟩) F9 N9 (ks := KBw.bInts (octs tape)) rfl .none (.int _ _) ?_ ?_
  · rw [KBw.ints_length, octs_size]; omega
  intro h10 t10 k10 F10 N10 _
  rw [hp1]
  clear F9 N9
  walk1
  refine KBy.add_bytes (by rw [octs_size, octs_size, List.length_reverse]; omega) ?_
  intro t11 k11
  rw [octs_app]
  iterate 12 walk1
  refine len_bytes (by rw [octs_size, List.length_reverse]; omega) ?_
  walk1
  rw [octs_size, List.length_reverse, show (((T0.length : Nat) : Int) + (((writL xl).length : Nat) : Int)) = (((T0 ++ writL xl).length : Nat) : Int) from by rw [List.length_append]; push_cast; rfl]
  iterate 2 walk1
  refine KBc.slice_K (s := ⟨_, _, _, _, _⟩) F10 N10 (ks := KBw.bInts (octs tape)) rfl (.int _ _) .none ?_ ?_
  · rw [KBw.ints_length, octs_size]; omega
  intro h12 t12 k12 F12 N12 _
  rw [hp2]
  clear F10 N10
  refine KBy.add_bytes (by rw [octs_size, octs_size, List.length_append, List.length_reverse, List.length_reverse]; omega) ?_
  intro t13 k13
  rw [octs_app, ← e2]
  iterate 2 walk1
  dsimp only
  rw [if_neg (show ¬ (((octs tape.reverse).toList != (octs tape.reverse).toList) = true) from by simp)]
  iterate 13 walk1
  have N13 := News.swap (a := [(P, LCg.lst vp), (W, LCg.lst vw), (D, LCg.lst ys)]) (b := [(96, tabObj #[])]) N12
  obtain ⟨g1, hK1, hO1, hst, hrs1, hsz1, back⟩ := split_ (sub := [(96, tabObj #[])]) F12 N13 (by
    intro p hp
    simp only [List.map_cons, List.map_nil, List.mem_singleton]
    simp only [List.mem_cons, List.not_mem_nil, or_false] at hp
    rcases hp with rfl | rfl | rfl
    · exact hP
    · exact hW
    · exact hD)
  have hn1 : 2 ^ n - 1 + 1 = 2 ^ n := by have := Nat.two_pow_pos n; omega
  refine ⟨X.keeps F12.keep, ?_⟩
  have hplan := the_plan xs hpne
  rw [hxl, htape] at hplan
  refine lrp (l := tape) (ws := xs.map wordL) (ps := xs.map writL) (n := 2 ^ n - 1) (vw := vw) (vp := vp) hplan (by rw [List.length_map, hxl]; exact hn1) (by rw [List.length_map, hxl]; exact hn4) (by rw [List.length_map, hxl]; exact hn4) ?_ ?_ htc ⟨_, hrs1 (W, LCg.lst vw) (by simp), rfl, _, rfl⟩ hvw ⟨_, hrs1 (P, LCg.lst vp) (by simp), rfl, _, rfl⟩ hvp hA (by show A.units + 3 + 200 < _; omega) (dpt hdp (by decide)) (X.keeps hst) (T.keeps hst) hK1 hO1 (cH.keeps hst) (by omega) ?_
  · intro q hq
    obtain ⟨x, _, rfl⟩ := List.mem_map.mp hq
    have := wordL_len x; omega
  · intro q hq
    obtain ⟨x, _, rfl⟩ := List.mem_map.mp hq
    have := writL_len x; omega
  intro h14 tk14 ps14 hK14 h96
  exact hQ _ _ ps14 ⟨fun b o e => hK14.keep _ _ (hst _ _ e), Nat.le_trans (hsz1 ▸ (Kp.of_fr F12).size) hK14.size⟩ h96
end
end Mine
end

section
theorem Mine.freshGd : True := by
  w_top off
  trivial
open PySem PySem.W PyProof.Rows PySem.Calls PySem.Spec
namespace Mine
/-- the law came back with True, the one code table that nests a function grown -/
theorem good_law {cw : ClaimW} {cl : Str → Option Addr} {mean : ExcName → Option Value} {args : List WData} {s₁ s' : Shared} {c P : Addr} {ps : Array Value} (hT : TabsAt [(c, P)] s₁.heap) (hg : s₁.gens = #[]) (hK : Kp (ghostOf s₁.heap [(c, P)]) s'.heap) (hP : s'.heap.get? P = some (tabObj ps))
    (hos : s'.os = s₁.os) (hgs : s'.gens = s₁.gens) (hr : ∀ cls, cw.raises args cls = false) (hp : cw.post args (.bool true) args = true) : GoodWG cw cl mean args s₁ (.ok (.ret (.bool true))) s' := by
  have h0 := hT (c, P) (List.mem_singleton.mpr rfl)
  have stay : ∀ b o, b ≠ P → s₁.heap.get? b = some o → s'.heap.get? b = some o := fun b o hb e => hK.keep b o (ghost_ne e (by simpa using hb))
  have was : ∀ b o, b = P → s₁.heap.get? b = some o → o = tabObj #[] := fun b o hb e => by rw [hb, h0.2] at e; exact (Option.some.inj e).symm
  refine ⟨.inl ⟨_, .bool true, [], rfl, hr, .bool true, hp, fun _ => ⟨.nil, fun _ ha => nomatch ha⟩⟩, ⟨fun b o e => ?_, fun b o e => ?_⟩, hos, .of_eq (hgs.trans hg)⟩
  · by_cases hb : b = P
    · have h2 := was b o hb e
      subst h2 hb
      exact .inr (.inl ⟨(h0.1.tab h0.2).isCodeTable, rfl, #[], ps, rfl, by rw [Array.empty_append]; exact hP⟩)
    · exact .inl (stay b o hb e)
  · by_cases hb : b = P
    · subst hb; exact ⟨_, hP⟩
    · exact ⟨o, stay b o hb e⟩
end Mine
end

section
theorem Mine.freshFix01 : True := by
  w_top off
  trivial
open PySem PySem.W PyProof.Rows PySem.Calls PySem.Spec
set_option maxRecDepth 100000
set_option maxHeartbeats 4000000
theorem PySem.Challenge.cw_pe0049_01_holds : PySem.Challenge.rw_pe0049_01.Holds := by
  refine Mine.hd ?_
  k_fill
  intro w s₀ s₁ mg mb G Y fa o pm cd doc dV kV ho hd hcd hD hmg hg args vals as hpre hlay hrd hwl hlo
  have KX := km_in_of Y
  km_tabs Y
  have X := (Ground.X G).1
  have T := Ground.T G
  have hfa := mg_of KX T.g (n := Str.ofString "law") (v := .ref 132) (by kernel_rfl)
  rw [hmg] at hfa
  cases hfa
  clear hd hD hcd ho hmg
  wrow_args hpre hlay hrd hwl hlo
  rename_i ks _ _ _ _ _ _ _ a vs _ hl _ _ _ hI _ hlen _
  have hT : TabsAt [(100, 96)] s₁.heap := fun q hq => by
    rw [List.mem_singleton.mp hq]
    exact ⟨codeHd_of_K KX (by kernel_rfl), hT8 96 (List.mem_singleton.mpr rfl)⟩
  have X' := ghost_K hT KX (by kernel_rfl)
  have T' := ghost_top hT T
  have hl' := ghost_list hT hl
  have cH := (ghost_code hT).1
  dsimp only at cH
  have hO : Mine.Own (ghostOf s₁.heap [(100, 96)]) s₁.heap [(96, tabObj #[])] := fun p hp => by
    rw [List.mem_singleton.mp hp]
    exact ⟨hT8 96 (List.mem_singleton.mpr rfl), hideAll_none _ (by simp)⟩
  have hK : Mine.Kp (ghostOf s₁.heap [(100, 96)]) s₁.heap := ⟨fun b o e => of_hideAll _ e, Nat.le_of_eq (hideAll_size _ _)⟩
  refine Mine.law01 hl' hI (by omega) (by decide) (by decide) (by decide) X' T' hK hO cH ?_
  intro h' tk ps hk h96
  exact Mine.good_law hT hg hk h96 rfl rfl (fun _ => rfl) (by wrow_post)
end
