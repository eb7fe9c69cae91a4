import PyProof.Rows.All
import Wide.All
import OpenK.AllK
import Wide.FinOn
import KE.BytesMake
import Lean
import PySem.Challenge.RW_aq6016_01
-- part AqC
open PySem PySem.W PyProof.Rows
set_option Elab.async false
namespace Aq
open PySem.Builtin.Bytes (decodersThatHold)

/-- a decoder's code: what `exported` looks for beside the guard codes -/
def isDec : Code → Bool
  | .builtin id _ => decodersThatHold.contains id
  | _ => false

/-- no decoder stands on the stack -/
def Cl (Γ : Ctx) : Prop := isDec Γ.code = false ∧ ∀ x ∈ Γ.below, isDec x.1 = false

def wpC {α : Type} (M : Model) (A : Around) (t : Sem α) (Q : α → Shared → Prop) (s : Shared) : Prop :=
  ∀ Γ p, Γ.In A → Cl Γ → Sem.wp M Γ t (fun a _ s' => Q a s') (fun _ _ _ => False) p s

def okOf (R : Flow → Shared → Prop) : Result → Shared → Prop := fun r s' => match r with
  | .ok f => R f s'
  | .error _ => False

def codeC (M : Model) (A : Around) (c : Code) (R : Flow → Shared → Prop) (s : Shared) : Prop :=
  ∀ Γ p, Γ.code = c → Γ.Below A → (∀ x ∈ Γ.below, isDec x.1 = false) → wpCode M Γ (okOf R) p s

section
variable {α β : Type} {M : Model} {A : Around} {s : Shared}

theorem wpC_of_any {t : Sem α} {Q : α → Shared → Prop} (h : wpAny M A t Q (fun _ _ => False) s) : wpC M A t Q s :=
  fun Γ p hΓ _ => h Γ p hΓ

theorem wpC_mono {t : Sem α} {Q Q' : α → Shared → Prop} (h : wpC M A t Q s) (hQ : ∀ a s, Q a s → Q' a s) : wpC M A t Q' s :=
  fun Γ p hΓ hc => Sem.wp_mono M Γ t (fun a _ s => hQ a s) (fun _ _ _ x => x) p s (h Γ p hΓ hc)

theorem wpC_bind {m : Sem α} {f : α → Sem β} {Q : β → Shared → Prop} (h : wpC M A m (fun a s' => wpC M A (f a) Q s') s) :
    wpC M A (m >>= f) Q s := fun Γ p hΓ hc => by
  rw [Sem.wp_bind']
  exact Sem.wp_mono M Γ m (fun a p' s' h' => h' Γ p' hΓ hc) (fun _ _ _ h' => h') p s (h Γ p hΓ hc)

theorem wpC_bind_any {m : Sem α} {f : α → Sem β} {Q : β → Shared → Prop} (h : wpAny M A m (fun a s' => wpC M A (f a) Q s') (fun _ _ => False) s) :
    wpC M A (m >>= f) Q s := wpC_bind (wpC_of_any h)

theorem wpC_pure {a : α} {Q : α → Shared → Prop} (h : Q a s) : wpC M A (pure a) Q s := fun _ _ _ _ => h

theorem wpC_standAt {pos : Pos} {f : Unit → Sem β} {Q : β → Shared → Prop} (h : wpC M A (f ()) Q s) : wpC M A (standAt pos >>= f) Q s :=
  wpC_bind_any (wpAny_standAt h)

theorem wpC_onRaise {m : Sem α} {k : Value → Sem Unit} {Q : α → Shared → Prop} (h : wpC M A m Q s) : wpC M A (m.onRaise k) Q s := fun Γ p hΓ hc => by
  rw [Sem.wp_onRaise]
  exact Sem.wp_mono M Γ m (fun _ _ _ h' => h') (fun _ _ _ h' => h'.elim) p s (h Γ p hΓ hc)

theorem wpC_tryCatch {m : Sem α} {k : Value → Sem α} {Q : α → Shared → Prop} (h : wpC M A m Q s) : wpC M A (tryCatch m k) Q s := fun Γ p hΓ hc => by
  rw [Sem.wp_tryCatch']
  exact Sem.wp_mono M Γ m (fun _ _ _ h' => h') (fun _ _ _ h' => h'.elim) p s (h Γ p hΓ hc)

theorem wpC_attempt {m : Sem α} {Q : Except Value α → Shared → Prop} (h : wpC M A m (fun a => Q (.ok a)) s) : wpC M A m.attempt Q s := fun Γ p hΓ hc => by
  rw [Sem.wp_attempt]
  exact Sem.wp_mono M Γ m (fun _ _ _ h' => h') (fun _ _ _ h' => h'.elim) p s (h Γ p hΓ hc)

theorem wpC_holding {vs : List Value} {m : Sem α} {Q : α → Shared → Prop} (h : wpC M A m Q s) : wpC M A (holding vs m) Q s :=
  fun Γ p hΓ hc => by rw [Sem.wp_holding]; exact h Γ p hΓ hc

theorem codeC_mono {c : Code} {R R' : Flow → Shared → Prop} (h : codeC M A c R s) (hR : ∀ f s, R f s → R' f s) : codeC M A c R' s :=
  fun Γ p hc hΓ hb => wpCode_mono (fun r s' hr => by cases r with | ok f => exact hR f s' hr | error e => exact hr) (h Γ p hc hΓ hb)

theorem codeC_of_any {c : Code} {R : Flow → Shared → Prop} (h : codeAny M A c (okOf R) s) : codeC M A c R s := fun Γ p hc hΓ _ => h Γ p hc hΓ

theorem codeC_of_tree {c : Code} {R : Flow → Shared → Prop} (hd : isDec c = false)
    (h : wpC M (A.under c) (M.den c) (fun fin s' => match fin with | .done f => R f s' | .again c' => c'.quiet = true ∧ codeC M A c' R s') s) :
    codeC M A c R s := fun Γ p hc hΓ hb => by
  rw [wpCode_iff_wp, hc]
  refine Sem.wp_mono M Γ _ (fun fin p' s' h' => ?_) (fun _ _ _ h' => h'.elim) p s (h Γ p (hc ▸ hΓ.in) ⟨hc ▸ hd, hb⟩)
  cases fin with
  | done f => exact h'
  | again c' => exact ⟨h'.1, h'.2 (Γ.goto c') p' rfl (hΓ.goto c') hb⟩

theorem codeC_loop {c : Code} {R : Flow → Shared → Prop} (hd : isDec c = false) (hq : c.quiet = true) (I : Nat → Shared → Prop)
    (turn : ∀ n s, I n s → wpC M (A.under c) (M.den c) (fun fin s' => match fin with | .done f => R f s' | .again c' => c' = c ∧ ∃ m, m < n ∧ I m s') s)
    (n : Nat) (h : I n s) : codeC M A c R s := by
  induction n using Nat.strongRecOn generalizing s with
  | ind n ih =>
    refine codeC_of_tree hd (wpC_mono (turn n s h) fun fin s' hf => ?_)
    cases fin with
    | done f => exact hf
    | again c' => obtain ⟨rfl, m, hm, hI⟩ := hf; exact ⟨hq, ih m hm hI⟩

theorem cl_enter {Γ : Ctx} (h : Cl Γ) (c : Code) (hd : Option Value) (p : Pos) : ∀ x ∈ (Γ.enter c hd p).below, isDec x.1 = false := fun x hx => by
  rcases List.mem_cons.mp (show x ∈ (Γ.code, p) :: Γ.below from hx) with rfl | hx
  · exact h.1
  · exact h.2 x hx

theorem wpC_run {c : Code} {h : Option Value} {Q : Flow → Shared → Prop} (hc : codeC M (A.mark h) c Q s) (hnb : h ≠ some byPass := by intro x; cases x) :
    wpC M A (run c h) Q s := fun Γ p hΓ hcl => by
  rw [Sem.wp_run]
  refine wpCode_mono (fun r s' hr => ?_) (hc _ p rfl (hΓ.enter c h p hnb) (cl_enter hcl c h p))
  cases r with
  | ok f => exact hr
  | error e => exact hr

def retOf (Q : Value → Shared → Prop) : Flow → Shared → Prop := fun f s' => match f with
  | .ret v => Q v s'
  | _ => False

theorem wpC_runValue {c : Code} {Q : Value → Shared → Prop} (hc : codeC M A c (retOf Q) s) : wpC M A (runValue c) Q s := fun Γ p hΓ hcl => by
  rw [Sem.wp_runValue]
  refine wpCode_mono (fun r s' hr => ?_) (hc _ p rfl (hΓ.enter c none p (by intro x; cases x)) (cl_enter hcl c none p))
  cases r with
  | ok f => cases f <;> first | exact hr | exact hr.elim
  | error e => exact hr

theorem wpC_call {f : Value} {pos : List Value} {kw : List (Str × Value)} {Q : Value → Shared → Prop} (hc : codeC M A (.call f ⟨pos, kw⟩) (retOf Q) s) :
    wpC M A (call f pos kw) Q s := wpC_runValue hc

theorem wpC_eq {t t' : Sem α} {Q : α → Shared → Prop} (e : t = t') (h : wpC M A t' Q s) : wpC M A t Q s := e ▸ h

theorem wpC_in1 {t : Sem α} {Q : α → Shared → Prop} (h : wpC M A.in1 t Q s) : wpC M A t Q s :=
  fun Γ p hΓ hc => h Γ p ⟨hΓ.1, hΓ.2.1, hΓ.2.2.1, hΓ.2.2.2.1, Nat.le_succ_of_le hΓ.2.2.2.2⟩ hc
end

/-- the look through the stack finds nothing -/
theorem exported_no {M : Model} {A : Around} {s : Shared} {v : Value} {Q : Bool → Shared → Prop} (hg : A.guards = some []) (h : Q false s) :
    wpC M A (PySem.Builtin.Bytes.exported v) Q s := fun Γ p hΓ hc => by
  have hguards : Γ.code.guards ++ guardsOf Γ.below = [] := hΓ.2.2.2.1 [] hg
  have hcode : Γ.code.isGuard = false := by
    cases hq : Γ.code.isGuard with
    | false => rfl
    | true => have := (List.append_eq_nil_iff.mp hguards).1; simp [Code.guards, hq] at this
  have hbelow : ∀ x ∈ Γ.below, x.1.isGuard = false := fun x hx => by
    cases hq : x.1.isGuard with
    | false => rfl
    | true =>
      have h2 := (List.append_eq_nil_iff.mp hguards).2
      have : x.1 ∈ guardsOf Γ.below := by
        unfold guardsOf
        exact List.mem_filter.mpr ⟨List.mem_map_of_mem hx, hq⟩
      rw [h2] at this; cases this
  have all : ∀ x ∈ (Γ.code, p) :: Γ.below, x.1.isGuard = false ∧ isDec x.1 = false := fun x hx => by
    rcases List.mem_cons.mp hx with rfl | hx
    · exact ⟨hcode, hc.1⟩
    · exact ⟨hbelow x hx, hc.2 x hx⟩
  unfold PySem.Builtin.Bytes.exported
  rw [Sem.wp_bind']
  show Q (((Γ.code, p) :: Γ.below).any _) s
  refine (congrArg (fun b => Q b s) (?_ : _ = false)).mpr h
  rw [List.any_eq_false]
  rintro ⟨c, p'⟩ hx
  obtain ⟨h1, h2⟩ := all _ hx
  simp only at h1 h2
  split
  all_goals (rename_i heq; try (cases heq))
  · simp [Code.isGuard, guardIds] at h1
  · simp [Code.isGuard, guardIds] at h1
  · simp [Code.isGuard, guardIds] at h1
  · simp [Code.isGuard, guardIds] at h1
  · simp [Code.isGuard, guardIds] at h1
  · rw [show decodersThatHold.contains _ = false from h2, Bool.and_false]
    exact Bool.false_ne_true
  · exact Bool.false_ne_true

end Aq
-- part AqH
open PySem PySem.W PyProof.Rows
set_option Elab.async false
namespace Aq
open PySem PySem.W PySem.Calls PyProof.Rows PySem.Spec

theorem cl_caller : Cl ⟨.builtin "claim.caller" {}, none, none, [], none⟩ :=
  ⟨by decide +kernel, fun _ h => nomatch h⟩

/-- a thread from the logic over clean contexts -/
theorem thread_endsC {prog : Program} {w : World} {t : Sem Fin} {s : Shared} {R : Flow → Shared → Prop} (hreg : s.asleep)
    (h : wpC (model prog w) callerA t (fun fin s' => ∃ f, fin = .done f ∧ (R f s' ∧ leftWithCleanup s'.gens = false)) s) :
    ∃ n f s' s'', runN (denote table) prog w n s ⟨t, .builtin "claim.caller" {}, default, []⟩ = .halted (outcomeOf (.ok f)) s' ∧
      schedN (denote table) prog w n (.single s ⟨t, .builtin "claim.caller" {}, default, []⟩) = .halted (outcomeOf (.ok f)) s' ∧ s'.forget = s''.forget ∧ R f s'' := by
  have h0 : Sem.wp (model prog w) ⟨.builtin "claim.caller" {}, none, none, [], none⟩ t
      (Sem.finPost (model prog w) ⟨.builtin "claim.caller" {}, none, none, [], none⟩ fun r s' => okOf R r s' ∧ leftWithCleanup s'.gens = false)
      (fun e _ s' => okOf R (.error e) s' ∧ leftWithCleanup s'.gens = false) default s := by
    refine Sem.wp_mono _ _ t (fun fin p' s' hq => ?_) (fun _ _ _ x => x.elim) default s (h _ default caller_in cl_caller)
    obtain ⟨f, rfl, hf⟩ := hq
    exact hf
  obtain ⟨n, r, s₁, s₂, hs, hn, hfo, hR⟩ := wp_halts_full (M := model prog w) (R := okOf R) hreg h0
  cases r with
  | error e => exact hR.elim
  | ok f => exact ⟨n, f, s₂, s₁, hn, hs, hfo, hR⟩

theorem callFromC {c : ClaimW} {tree : List Value → Sem Fin} {w : World} {s : Shared} {free : Addr → Prop} {gens : Prop} {kept : Heap → Prop} (hz : s.asleep) (hgens : s.gens = #[])
    (hspec : ∀ args, c.pre args = true → WData.layableAll args = true →
      ∀ ord : List DictEntry → List DictEntry, (∀ l, (ord l).Perm l) →
      ∃ vs s₁, layAllW c.records (classAt s.heap) w.params ord args s = some (vs, s₁) ∧
        wpC (model c.prog w) callerA (tree vs) (fun fin s' => ∃ f, fin = .done f ∧ (c.Ends s args vs s₁ (.ok f) s' ∧ s'.os = s.os ∧ AllBare s'.gens ∧ kept s'.heap)) s₁) :
    c.CallFrom (fun vs => ⟨tree vs, .builtin "claim.caller" {}, default, []⟩) w free gens kept s := by
  intro args hpre hlay ord hord
  obtain ⟨vs, s₁, hlaid, hcode⟩ := hspec args hpre hlay ord hord
  have hal := layAllW_rest _ _ _ hlaid
  obtain ⟨k, f, s', s'', hrun, hsched, hfo, hcase, hos, hkp⟩ := thread_endsC (prog := c.prog) (w := w) (t := tree vs) (s := s₁)
    (R := fun f s' => c.Ends s args vs s₁ (.ok f) s' ∧ s'.os = s.os ∧ kept s'.heap) (Shared.asleep_of_life hal.2.2.2 hz)
    (wpC_mono hcode fun fin s' ⟨f, e, h1, h2, h3, h4⟩ => ⟨f, e, ⟨h1, h2, h4⟩, leftWithCleanup_false_of_bare h3⟩)
  obtain ⟨eh, _, _, eo, _⟩ := Shared.forget_eq hfo
  have hcase := hcase.congr eh
  have hkp : kept s'.heap := by rw [eh]; exact hkp
  rw [← eo] at hos
  have hlife : s'.heap.life = s.heap.life := (runN_life _ _ _ hrun).trans hal.2.2.2
  refine ⟨vs, s₁, hlaid, k, _, s', hsched, ?_, (fun _ i x hx => by rw [hgens] at hx; simp at hx), hkp, by rw [hlife], Shared.rest_eq hos⟩
  rcases hcase with ⟨v, e, d1, d2, d3, d4, d5⟩ | ⟨e, ob, cls, q, _⟩
  · cases e
    exact .inl ⟨v, rfl, d1, d2, d3, fun b o y _ => d4 b o y, d5⟩
  · cases q

/-- the call of the law, over clean contexts -/
abbrev WalkC (q : Program) (loose : List Str) (XP : (Str → Option Value) → Heap → Prop) (YP : World → Heap → Prop) (r : RowW) (d : DefRec) (kwd : List (Str × Expr)) : Prop :=
  ∀ (w : World) (s₀ s₁ : Shared) (mg mb : Str → Option Value), Ground q loose r.records XP w s₀ mg mb s₁.heap → YP w s₁.heap → ∀ (a : Addr) (o : Obj) (pm cd doc dV kV : Value), s₁.heap.get? a = some o →
    o.data = .func { docDef d.name d.params d.body d.scope pm cd doc with defaults := dV, kwdefaults := kV } → s₁.heap.CodeRec cd d.name → Dflts mg s₁.heap d.params kwd dV kV → mg d.name = some (.ref a) → s₁.gens = #[] →
    ∀ (args : List WData) (vals : List Value) (as : List Addr), r.claim.pre args = true → WData.layableAll args = true → ReadsAllW r.records (classAt s₀.heap) s₁.heap vals args as → WellAll w.params s₁.heap vals args → (∀ a ∈ as, (a == sysModules) = false) →
      wpC (model r.prog w) callerA (PySem.call (.ref a) vals) (fun v s' => GoodWG r.claim (classAt s₀.heap) (ExcName.means s₀.heap) args s₁ (.ok (.ret v)) s') s₁

theorem open_anyC {r : RowW} {tree : List Value → Sem Fin} {q : Program} {loose defs kps : List Str} {writes : Bool} {Xt : Shared → Bool} {XP : (Str → Option Value) → Heap → Prop} {α : Type} {Yf : Shared → α} {Ya : World → α} {YP : World → Heap → Prop} {N : Nat}
    (left : LeftO r.prog q loose Xt Yf Ya N) (hY : ∀ w s, Yf s = Ya w → YP w s.heap) (hYk : ∀ w h h', YP w h → (∀ b o, h.get? b = some o → h'.get? b = some o) → YP w h')
    (hX : ∀ s, Xt s = true → XP (s.heap.nsMap mainGlobals) s.heap) (hXk : ∀ mg h h', XP mg h → (∀ b o, h.get? b = some o → h'.get? b = some o) → XP mg h')
    (hRf : ∀ s, Xt s = true → RecFacts r.records s.heap) (hwr : (!writes || r.records.isEmpty) = true) (ok : (chainsOk q && opensWell r.prog && (frees r && r.within.isEmpty)) = true) (hb : r.prog.bare) (hw : r.promised)
    (ht : ∀ vs (w : World) (s : Shared) mg f (Q : Fin → Shared → Prop), s.heap.Ns mainGlobals mg → mg r.name = some f → wpC (model r.prog w) callerA (PySem.call f vs) (fun v s' => Q (.done (.ret v)) s') s → wpC (model r.prog w) callerA (tree vs) Q s)
    (pin : ∀ w s, s.heap.isNs mainGlobals = true → Ground q loose [] XP w s (s.heap.nsMap mainGlobals) (s.heap.nsMap builtinsNs) s.heap → ∀ n ∈ defs, isTheDefsW r.prog s.heap n)
    (call : ∀ (w : World) (s₀ s₁ : Shared) (mg mb : Str → Option Value), Ground q loose r.records XP w s₀ mg mb s₁.heap → YP w s₁.heap → ∀ (args : List WData) (vs : List Value) (as : List Addr),
      r.claim.pre args = true → WData.layableAll args = true → Laid r.records w s₀ s₁ args vs as → sysModules < s₀.heap.objs.size → ∃ f, mg r.name = some f ∧
        wpC (model r.prog w) callerA (PySem.call f vs) (fun v s' => GoodWG r.claim (classAt s₀.heap) (ExcName.means s₀.heap) args s₁ (.ok (.ret v)) s') s₁) :
    r.claim.HoldsOpenBy (fun vs => ⟨tree vs, .builtin "claim.caller" {}, default, []⟩) defs kps writes := by
  obtain ⟨ok1, ok2⟩ := Bool.and_eq_true_iff.mp ok
  obtain ⟨hch, o1⟩ := Bool.and_eq_true_iff.mp ok1
  obtain ⟨k5, k6⟩ := Bool.and_eq_true_iff.mp ok2
  obtain ⟨hsame, hu, ha, hap, hm⟩ := frees_parts k5
  refine ⟨⟨hb, o1, by show r.makers.map _ = []; rw [hm]; rfl⟩, hw.witness, fun w => ⟨(left.behind hX hch w).1, fun s' hs' => ?_⟩⟩
  obtain ⟨s₀, hf, hg0, s, hT, hz, hgens, hg, G00, y⟩ := (left.behind (XP := fun mg h => XP mg h ∧ RecFacts r.records h) (fun s hs => ⟨hX s hs, hRf s hs⟩) hch w).2 s' hs'
  have RF := G00.X.2
  have G0 : Ground q loose [] XP w s (s.heap.nsMap mainGlobals) (s.heap.nsMap builtinsNs) s.heap :=
    ⟨G00.T, G00.B, G00.D, G00.TE, G00.TD, G00.W, G00.X.1, G00.cls, G00.has, G00.apart, G00.once, G00.K⟩
  refine ⟨s₀, hf, hg0, s, hT, pin w s hg G0, RF.1, RF.2.1, ?_⟩
  have hgens : s.gens = #[] := Array.eq_empty_of_size_eq_zero (beq_iff_eq.mp hgens)
  have G : Ground q loose r.records XP w s _ _ s.heap := RF.ground G0
  refine callFromC (c := r.claim) hz hgens fun args hpre hlay ord hord => ?_
  obtain ⟨⟨vs, s₁⟩, hlaid⟩ := Option.isSome_iff_exists.mp (layAllW_isSome (P := w.params) (ord := ord) G.has args r.args s (pre_splitW hpre).1)
  have keeps := layAllW_keeps _ _ _ hlaid
  have hal := layAllW_rest _ _ _ hlaid
  obtain ⟨as, hrd, hin, hold⟩ := reads_layAllW hord _ _ _ hlaid hlay s₁.heap (fun _ _ e => e)
  have L : Laid r.records w s s₁ args vs as := ⟨⟨ord, hord, hlaid⟩, hrd, hin, hold, keeps, hal.1.trans hgens, hal.2.2.1⟩
  have G₁ := G.keeps hXk keeps
  obtain ⟨f, hfn, h⟩ := call w s s₁ _ _ G₁ (hYk _ _ _ (hY w s y) keeps) args vs as hpre hlay L G.low
  have hi := ident_freeW hu ha hap
  have hwi : r.claim.within = [] := List.isEmpty_iff.mp k6
  refine ⟨vs, s₁, hlaid, ht vs w s₁ _ f _ G₁.T.g hfn (wpC_mono h fun v s' g => ?_)⟩
  have z := g.laid (c := r.claim) hsame hwi hi L
  exact ⟨_, rfl, z.1, z.2.1, z.2.2, fun _ => ⟨namesKept_of hT hg kps keeps g.2.1.old, noTable hwr ‹_›⟩⟩

theorem PySem.W.holds_open {r : OpenRow} {q : Program} {loose : List Str} {Xt : Shared → Bool} {XP : (Str → Option Value) → Heap → Prop} {α : Type} {Yf : Shared → α} {Ya : World → α} {YP : World → Heap → Prop} {d : DefRec} {kwd : List (Str × Expr)} {N : Nat}
    (left : LeftO r.prog q loose Xt Yf Ya N) (hY : ∀ w s, Yf s = Ya w → YP w s.heap) (hYk : ∀ w h h', YP w h → (∀ b o, h.get? b = some o → h'.get? b = some o) → YP w h')
    (hX : ∀ s, Xt s = true → XP (s.heap.nsMap mainGlobals) s.heap) (hXk : ∀ mg h h', XP mg h → (∀ b o, h.get? b = some o → h'.get? b = some o) → XP mg h')
    (hdef : defOf q r.name = some (d, kwd)) (hp : r.prog.theDef r.name = some (d.params, d.body, d.scope)) (hk : kwWritten? d.params.kwonlyargs d.params.kw_defaults = some kwd) (hRf : ∀ s, Xt s = true → RecFacts r.records s.heap) (hwr : (!r.writes || r.records.isEmpty) = true)
    (k1 : r.wellSaid = true) (ok : (chainsOk q && opensWell r.prog && (frees r.toRowW && r.within.isEmpty)) = true) (hb : r.prog.bare) (hw : r.toRowW.promised)
    (call : WalkC q loose XP YP r.toRowW d kwd) : r.Holds := by
  refine ⟨k1, hw, open_anyC (r := r.toRowW) (tree := fun vs => do match ← nsGet mainNs r.name with
      | some f => do ret (← PySem.call f vs)
      | none => unsupported "claim.caller:no-such-global") left hY hYk hX hXk hRf hwr ok hb hw
    (fun vs w s mg f Q hg hf h => wpC_bind_any (wpAny_nsGet hg (by rw [hf]; exact wpC_bind (wpC_mono h fun _ _ x => wpC_pure x))))
    (fun w s hg G n hn => ?_) fun w s₀ s₁ mg mb G Y args vs as hpre hlay L low => ?_⟩
  · obtain rfl : n = r.name := by split at hn <;> simp_all
    exact pinned_of_view hg G hdef hp hk
  · obtain ⟨a, o, pm, cd, doc, dV, kV, h1, h2, h3, h4, h5⟩ := G.fn hdef
    exact ⟨.ref a, h1, call w s₀ s₁ mg mb G Y a o pm cd doc dV kV h2 h3 h4 h5 (defOf_name hdef ▸ h1) L.gens args vs as hpre hlay L.reads L.well (L.low low)⟩

end Aq
-- part HdC
open PySem PySem.W PyProof.Rows
set_option Elab.async false
namespace Aq
set_option maxRecDepth 100000 in
set_option maxHeartbeats 8000000 in
open_top hd for PySem.Challenge.rw_aq6016_01
end Aq
namespace Aq
theorem walk_top_off : True := by
  w_top off
  trivial
end Aq
-- part AqR
open PySem PySem.W PyProof.Rows
set_option Elab.async false
set_option maxRecDepth 100000
namespace Aq
open PySem PySem.W PySem.Calls PyProof.Rows PySem.Spec

section
variable {prog : Program} {w : World} {A : Around} {s : Shared}

theorem codeC_call_function {a : Addr} {args : Args} {o : Obj} {fd : FuncData} {body : List Stmt} {R : Flow → Shared → Prop} (hroom : A.depth < recursionLimit)
    (ho : s.heap.get? a = some o) (hd : o.data = .func fd) (hco : fd.scope.isCoroutine = false) (hgen : fd.scope.isGenerator = false) (hbody : fd.body = .stmts body) (hcd : s.heap.CodeRec fd.code fd.qualname)
    (h : wpAny (model prog w) A.in1 (bindArgs fd args) (fun binds s₁ =>
      wpAny (model prog w) A.in1 (newFunctionEnv fd.scope fd.globals fd.closure binds (fd.qualname ++ ".<locals>.") (some a) fd.code none fd.builtins)
        (fun env s₂ => s₂.heap.NoLimit ∧ codeC (model prog w) A (.func body env) R s₂) (fun _ _ => False) s₁) (fun _ _ => False) s) :
    codeC (model prog w) A (.call (.ref a) args) R s := by
  refine codeC_of_tree rfl ?_
  show wpC _ A.in1 (callAny (.ref a) args) _ s
  obtain ⟨c, oc, vs, tq, hc, hoc, hdc, hq⟩ := hcd
  simp only [callAny]
  refine wpC_bind_any (wpAny_load ho ?_)
  simp only [hd, callFunction, hco, hgen, hbody, hc]
  rw [hc] at h
  refine wpC_bind_any (m := field (.ref c) 1) (wpAny_field hoc hdc hq ?_)
  refine wpC_bind (wpC_pure ?_)
  refine wpC_bind_any (wpAny_mono h (fun binds s₁ h₁ => ?_) fun _ _ x => x)
  refine wpC_bind_any (wpAny_mono h₁ (fun env s₂ h₂ => ?_) fun _ _ x => x)
  exact wpC_bind_any (wpAny_enterFrame h₂.1 hroom (wpC_pure (And.intro rfl h₂.2)))

theorem codeC_func {body : List Stmt} {env : Env} {R : Flow → Shared → Prop}
    (h : wpC (model prog w) (A.deeper env) (execs body env) (fun f s' => R (.ret (match f with | .ret v => v | _ => .none)) s') s) :
    codeC (model prog w) A (.func body env) R s := by
  refine codeC_of_tree rfl ?_
  show wpC _ (A.deeper env) (do point; match ← (execs body env).onRaise (leaving env) with | .ret v => ret v | _ => ret .none) _ s
  refine wpC_bind_any (wpAny_point (wpC_bind (wpC_onRaise (wpC_mono h fun f s' h' => ?_))))
  cases f <;> exact wpC_pure h'

theorem codeC_block {stmts : List Stmt} {env : Env} {R : Flow → Shared → Prop} (h : wpC (model prog w) A (execs stmts env) R s) :
    codeC (model prog w) A (.block stmts env) R s := by
  refine codeC_of_tree rfl ?_
  show wpC _ _ (do return Fin.done (← (execs stmts env).onRaise (fun x => do noteFrame x env; theTreesLotGoes x))) _ s
  exact wpC_bind (wpC_onRaise (wpC_mono h fun f s' h' => wpC_pure h'))
end

section
variable {prog : Program} {w : World} {A₀ A : Around} {s : Shared} {base h₀ : Heap} {outer : List Env} {L : Addr} {m : Str → Option Value} {env : Env} {news : List (Addr × Obj)}
  {R : Flow → Shared → Prop} {name qual : Str} {params : Arguments} {body : List Stmt} {scope : Scope} {dV kV doc pm cdv ct : Value} {an : Option Addr} {fo : Obj} {f : Addr} {args : Args} {binds : List (Str × Value)}

/-- a def called over clean contexts, its binds whatever they make -/
theorem callC_plain (B : Below A₀ base outer h₀) (F : Fr h₀ L s.heap m) (N : News h₀ L s.heap news) (hlim : h₀.NoLimit) (hA : A.frames = some (env :: outer)) (hf : env.frame = some L) (hke : env.scope.kind = .function)
    (ho : s.heap.get? f = some fo) (hd : fo.data = .func (fnX name qual params body scope [] dV kV doc pm an cdv ct)) (hcd : s.heap.CodeRec cdv qual) (hroom : A.depth < recursionLimit)
    (hbind : BindsTo s (fnX name qual params body scope [] dV kV doc pm an cdv ct) args binds) (hloc : ∀ y ∈ binds, scope.names.lookup y.1 = some .local)
    (h : ∀ g L' h₁, Fr h₀ L g m → Fr g L' h₁ (fun y => binds.reverse.lookup y) → News g L' h₁ news → Below A base (env :: outer) g → h₀.StaysIn g → (∀ p ∈ news, p.1 < L') →
      wpC (model prog w) (A.deeper (envX qual scope L' f cdv [])) (execs body (envX qual scope L' f cdv []))
        (fun fl s' => LeaveK h₀ L m g (okOf R) (match fl with | .ret v => v | _ => .none) s') { s with heap := h₁, toks := s.toks + binds.length })
    (hcell : ∀ x ∈ scope.names, x.2 ≠ .cell) (hco : scope.isCoroutine = false := by rfl) (hgen : scope.isGenerator = false := by rfl) (hk : scope.kind = .function := by rfl) : codeC (model prog w) A (.call (.ref f) args) R s := by
  obtain ⟨FG, BG, st, lv⟩ := groundX (R := okOf R) B F N hA hf hke
  refine codeC_call_function hroom ho hd hco hgen rfl hcd (hbind _ _ _ _ ?_)
  refine wpAny_newFunctionEnv hcell hloc (fun h₁ hns hsb => ⟨(hlim.keeps F.keep).fresh _ hsb, codeC_func ?_⟩) hk
  have hk₁ : ∀ b o, s.heap.get? b = some o → h₁.get? b = some o := fun b o e => hsb.extBut b o (Nat.ne_of_lt (Heap.lt_size e)) (Heap.get?_push_of_some _ e)
  exact wpC_mono (h _ s.heap.objs.size h₁ FG ⟨hns, fun b o e => hk₁ b o (of_hideAll _ e), Nat.le_of_eq (hideAll_size _ _)⟩
    (fun p hp => ⟨hk₁ _ _ (N p hp).1, Nat.ne_of_lt (Heap.lt_size (N p hp).1), hideAll_none _ (List.mem_map_of_mem hp)⟩) BG st fun p hp => Heap.lt_size (N p hp).1) fun fl s' hl => lv _ _ hl
end

section
variable {prog : Program} {w : World} {A : Around} {s : Shared} {R : Flow → Shared → Prop} {name : Str} {params : Arguments} {body : List Stmt} {scope : Scope} {pm cd doc : Value} {a : Addr} {o : Obj} {args : List Value} {binds : List (Str × Value)}

/-- the law's own call: a def with cells -/
theorem callC_cells (hroom : A.depth < recursionLimit) (ho : s.heap.get? a = some o) (hdata : o.data = .func (Calls.docDef name params body scope pm cd doc)) (hlim : s.heap.NoLimit) (hcd : s.heap.CodeRec cd name)
    (hbind : bindArgs (Calls.docDef name params body scope pm cd doc) ⟨args, []⟩ = pure binds)
    (hkind : ∀ x ∈ binds, scope.names.lookup x.1 = some .local ∨ (scope.names.lookup x.1 = some .cell ∧ ((cellsFrom (s.heap.objs.size + 1) scope.names []).lookup x.1).isSome = true))
    (hnd : ((cellsFrom 0 scope.names []).map (·.1)).Nodup)
    (h : ∀ h₁ tk cells, Fr s.heap s.heap.objs.size h₁ (bindL (envOfC name scope s.heap.objs.size a cd).kindOf binds fun _ => none) → News s.heap s.heap.objs.size h₁ cells →
      CellsAre (bindC (envOfC name scope s.heap.objs.size a cd).kindOf binds fun _ => none) (cellsFrom (s.heap.objs.size + 1) scope.names []) cells →
      wpC (model prog w) (A.deeper (envOfC name scope s.heap.objs.size a cd)) (execs body (envOfC name scope s.heap.objs.size a cd))
        (fun f s' => R (.ret (match f with | .ret v => v | _ => .none)) s') { s with heap := h₁, toks := tk })
    (hco : scope.isCoroutine = false := by rfl) (hgen : scope.isGenerator = false := by rfl) (hk : scope.kind = .function := by rfl) :
    codeC (model prog w) A (.call (.ref a) ⟨args, []⟩) R s := by
  refine codeC_call_function hroom ho hdata hco hgen rfl hcd ?_
  rw [hbind]
  refine wpAny_pure (wpAny_newFunctionEnv_cells hk hkind fun env' he s' x => ?_)
  subst he
  refine ⟨hlim.keeps x.toInCall.keep, codeC_func ?_⟩
  obtain ⟨h₁, tk, rfl, _⟩ := x.done
  obtain ⟨cells, NC, Y⟩ := Cl.news (h₀ := s.heap) (Nat.le_refl _) fun n c hm => ⟨x.cell n c (lookup_of_mem_nodup (cellsFrom_names scope.names 0 (s.heap.objs.size + 1) [] [] rfl ▸ hnd) hm), x.above n c hm⟩
  exact h h₁ tk cells ⟨x.toInCall.ns, x.toInCall.keep, Nat.le_refl _⟩ NC Y
end
end Aq
-- part AqS
open PySem PySem.W PyProof.Rows
set_option Elab.async false
set_option maxRecDepth 100000
namespace Aq
open PySem PySem.W PySem.Calls PyProof.Rows PySem.Spec

/-- no exception -/
abbrev noE : Value → Shared → Prop := fun _ _ => False

section
variable {M : Model} {A : Around} {s : Shared} {env : Env}

theorem wpC_operate {vs : List Value} {m : Sem Value} {Q : Value → Shared → Prop} (h : wpC M A m Q s) : wpC M A (operate vs m) Q s :=
  fun Γ p hΓ hc => by rw [Sem.wp_operate]; exact h Γ p hΓ hc
theorem wpC_keep {α : Type} {vs : List Value} {m : Sem α} {Q : α → Shared → Prop} (h : wpC M A m Q s) : wpC M A (m.keep vs) Q s :=
  fun Γ p hΓ hc => by rw [Sem.wp_keep]; exact h Γ p hΓ hc
theorem wpC_release {vs keep : List Value} {Q : Unit → Shared → Prop} (h : Q () s) : wpC M A (release vs keep) Q s :=
  fun Γ p _ _ => by rw [Sem.wp_release]; exact h

theorem wpC_execs_nil {Q : Flow → Shared → Prop} (h : Q .next s) : wpC M A (execs [] env) Q s := fun _ _ _ _ => h
theorem wpC_execs_cons {st : Stmt} {rest : List Stmt} {Q : Flow → Shared → Prop}
    (h : wpC M A (exec st env) (fun f s' => match f with | .next => wpC M A (execs rest env) Q s' | f => Q f s') s) :
    wpC M A (execs (st :: rest) env) Q s := by
  rw [execs_cons]
  refine wpC_bind (wpC_mono h fun f s' h' => ?_)
  cases f with
  | next => exact h'
  | brk => exact wpC_pure h'
  | cont => exact wpC_pure h'
  | ret v => exact wpC_pure h'

/-- one statement by the library's own walk -/
theorem wpC_stmt {st : Stmt} {rest : List Stmt} {Q : Flow → Shared → Prop}
    (h : wpAny M A (exec st env) (fun f s' => match f with | .next => wpC M A (execs rest env) Q s' | f => Q f s') noE s) :
    wpC M A (execs (st :: rest) env) Q s := wpC_execs_cons (wpC_of_any h)

theorem wpC_If {test : Expr} {body orelse : List Stmt} {pos : Pos} {Q : Flow → Shared → Prop}
    (h : wpC M A (isTrue test env (eval test env)) (fun b s₂ => if b then wpC M A (execs body env) Q s₂ else wpC M A (execs orelse env) Q s₂) s) :
    wpC M A (exec (.If test body orelse pos) env) Q s := by
  rw [exec_If]
  refine wpC_standAt (wpC_bind (wpC_mono h fun b s₂ h₂ => ?_))
  cases b <;> exact h₂

theorem wpC_Return {e : Expr} {pos : Pos} {Q : Flow → Shared → Prop} (h : wpC M A (eval e env) (fun v => Q (.ret v)) s) : wpC M A (exec (.Return (some e) pos) env) Q s := by
  rw [exec_Return_some]
  exact wpC_standAt (wpC_bind (wpC_mono h fun v s' h' => wpC_pure h'))

theorem wpC_Compare1 {l r : Expr} {op : CmpOp} {pos : Pos} {Q : Value → Shared → Prop}
    (h : wpC M A (eval l env) (fun a s₁ => wpAny M A (eval r env) (fun b s₂ => wpAny M A (compareOp op a b) Q noE s₂) noE s₁) s)
    (hm : behindInMarks op r = false := by with_unfolding_all rfl) : wpC M A (eval (.Compare l [op] [r] pos) env) Q s := by
  rw [eval_Compare1]
  refine wpC_bind (wpC_mono h fun a s₁ h₁ => ?_)
  rw [markedBehindIn_of_false hm]
  refine wpC_bind_any (wpAny_holding (wpAny_mono h₁ (fun b s₂ h₂ => ?_) fun _ _ x => x))
  exact wpC_standAt (wpC_operate (wpC_of_any h₂))

theorem wpC_Assign_Name {x : Str} {pos' pos : Pos} {value : Expr} {Q : Flow → Shared → Prop}
    (h : wpC M A (eval value env) (fun v s₁ => wpAny M A (storeName env x v) (fun _ => Q .next) noE s₁) s)
    (hs : swapsWith value (some (.Name x pos')) pos.line env = pure false := by rfl) : wpC M A (exec (.Assign [.Name x pos'] value pos) env) Q s := by
  rw [exec_Assign_Name env x pos' value pos hs]
  refine wpC_standAt (wpC_bind (wpC_mono h fun v s₁ h₁ => ?_))
  refine wpC_standAt (wpC_bind_any (wpAny_bindName (wpAny_mono h₁ (fun _ _ x => wpC_pure x) fun _ _ x => x)))

theorem wpC_Assign_Tuple {elts : List Expr} {k : Nat} {tpos pos : Pos} {value : Expr} {Q : Flow → Shared → Prop}
    (h : wpC M A (eval value env) (fun v s₁ => wpAny M A (assign (.Tuple elts k tpos) env v) (fun _ => Q .next) noE s₁) s)
    (hs : swapsWithSole [.Tuple elts k tpos] value pos.line env = pure false := by rfl)
    (hw : swappedStores [.Tuple elts k tpos] value env = pure none := by rfl) : wpC M A (exec (.Assign [.Tuple elts k tpos] value pos) env) Q s := by
  rw [exec_Assign, hs]
  refine wpC_standAt (wpC_bind (wpC_pure ?_))
  rw [if_neg (by decide)]
  refine wpC_bind (wpC_mono h fun v s₁ h₁ => ?_)
  rw [hw]
  refine wpC_bind (wpC_pure ?_)
  show wpC M A (do assignAll v [assign (.Tuple elts k tpos) env]; pure .next) Q s₁
  exact wpC_bind_any (wpAny_mono h₁ (fun _ _ x => wpC_pure x) fun _ _ x => x)

theorem wpC_Assign_Attribute {o value : Expr} {attr : Str} {pos' pos : Pos} {Q : Flow → Shared → Prop}
    (h : wpC M A (eval value env) (fun v s₁ => wpAny M A (eval o env) (fun ov s₂ => wpAny M A (setAttr ov attr v) (fun _ => Q .next) noE s₂) noE s₁) s)
    (hs : swapsWith value (some (.Attribute o attr pos')) pos.line env = pure false := by rfl) : wpC M A (exec (.Assign [.Attribute o attr pos'] value pos) env) Q s := by
  rw [plainObj_exec_Assign_Attribute o attr pos' value pos hs]
  refine wpC_standAt (wpC_bind (wpC_mono h fun v s₁ h₁ => ?_))
  rw [assign_Attribute]
  refine wpC_bind ?_
  refine wpC_bind_any (wpAny_holding (wpAny_mono h₁ (fun ov s₂ h₂ => ?_) fun _ _ x => x))
  refine wpC_standAt (wpC_bind_any (wpAny_holding (wpAny_mono h₂ (fun _ _ h₃ => ?_) fun _ _ x => x)))
  exact wpC_release (wpC_pure h₃)

theorem wpC_Assign_Subscript {o i value : Expr} {pos' pos : Pos} {Q : Flow → Shared → Prop}
    (h : wpAny M A (eval value env) (fun v s₁ => wpAny M A (eval o env) (fun ov s₂ => wpAny M A (eval i env) (fun iv s₃ => wpC M A (setItem ov iv v) (fun _ => Q .next) s₃) noE s₂) noE s₁) noE s)
    (hs : swapsWith value (some (.Subscript o i pos')) pos.line env = pure false := by rfl) : wpC M A (exec (.Assign [.Subscript o i pos'] value pos) env) Q s := by
  rw [exec_Assign_Subscript o i pos' value pos hs]
  refine wpC_standAt (wpC_bind_any (wpAny_mono h (fun v s₁ h₁ => ?_) fun _ _ x => x))
  rw [assign_Subscript]
  refine wpC_bind ?_
  refine wpC_bind_any (wpAny_holding (wpAny_mono h₁ (fun ov s₂ h₂ => ?_) fun _ _ x => x))
  refine wpC_bind_any (wpAny_holding (wpAny_mono h₂ (fun iv s₃ h₃ => ?_) fun _ _ x => x))
  refine wpC_standAt (wpC_bind (wpC_holding (wpC_mono h₃ fun _ _ h₄ => ?_)))
  exact wpC_release (wpC_pure h₄)

theorem wpC_AugAssign_Attribute {o value : Expr} {attr : Str} {tpos pos : Pos} {op : Operator} {Q : Flow → Shared → Prop}
    (h : wpAny M A (eval o env) (fun ov s₁ => wpAny M A (getAttr ov attr true) (fun old s₂ =>
          wpAny M A (eval value env) (fun v s₃ => wpC M A (inplaceOp op old v) (fun new s₄ =>
            wpAny M A (setAttr ov attr new) (fun _ => Q .next) noE s₄) s₃) noE s₂) noE s₁) noE s) :
    wpC M A (exec (.AugAssign (.Attribute o attr tpos) op value pos) env) Q s := by
  have e : exec (.AugAssign (.Attribute o attr tpos) op value pos) env = (do
      standAt pos
      let ov ← eval o env
      let new ← holding [ov] do
        standAt tpos.atName
        let old ← getAttr ov attr true
        let v ← holding [old] (eval value env)
        standAt pos
        operate [old, v] (inplaceOp op old v)
      standAt tpos.atName
      holding [new, ov] (setAttr ov attr new)
      release [new, ov] []
      pure .next) := rfl
  rw [e]
  refine wpC_standAt (wpC_bind_any (wpAny_mono h (fun ov s₁ h₁ => ?_) fun _ _ x => x))
  refine wpC_bind (wpC_holding (wpC_standAt (wpC_bind_any (wpAny_mono h₁ (fun old s₂ h₂ => ?_) fun _ _ x => x))))
  refine wpC_bind_any (wpAny_holding (wpAny_mono h₂ (fun v s₃ h₃ => ?_) fun _ _ x => x))
  refine wpC_standAt (wpC_operate (wpC_mono h₃ fun new s₄ h₄ => ?_))
  refine wpC_standAt (wpC_bind_any (wpAny_holding (wpAny_mono h₄ (fun _ _ h₅ => ?_) fun _ _ x => x)))
  exact wpC_bind (wpC_release (wpC_pure h₅))

theorem wpC_isTrue_not {x : Expr} {pos : Pos} {whole : Sem Value} {Q : Bool → Shared → Prop} (h : wpC M A (isTrue x env (eval x env)) (fun c s' => Q (!c) s') s) :
    wpC M A (isTrue (.UnaryOp .Not x pos) env whole) Q s := by
  show wpC M A (do return !(← isTrue x env (eval x env))) Q s
  exact wpC_bind (wpC_mono h fun c s' h' => wpC_pure h')

theorem wpC_isTrue_plain {e : Expr} {whole : Sem Value} {Q : Bool → Shared → Prop} (h : wpC M A whole (fun v s₁ => wpAny M A (truthy v) Q noE s₁) s)
    (he : isTrue e env whole = (do let v ← whole; standAt e.pos; holding [v] (truthy v)) := by rfl) : wpC M A (isTrue e env whole) Q s := by
  rw [he]
  exact wpC_bind (wpC_mono h fun v s₁ h₁ => wpC_standAt (wpC_holding (wpC_of_any h₁)))

/-- a call, its callee read and its arguments reckoned by the library's walk -/
theorem wpC_callWith {pos : Pos} {f : Value} {first : List Value} {args : List (Bool × Sem Value)} {kws : List (Option Str × Sem Value)} {Q : Value → Shared → Prop}
    (h : wpAny M A (evalArgs f true args kws) (fun a s₁ => (∃ k, Looks M s₁.heap (keeperOf f) k) ∧ wpC M A (call f (first ++ a.pos) a.kw) Q s₁) noE s) :
    wpC M A (callWith pos f first args kws) Q s := by
  unfold callWith
  refine wpC_bind_any (wpAny_holding (wpAny_mono h (fun a s₁ h₁ => ?_) fun _ _ x => x))
  obtain ⟨⟨k, L⟩, hc⟩ := h₁
  refine wpC_standAt ?_
  have tail : ∀ {t : Sem Value}, wpC M A t Q s₁ → wpC M A (t >>= fun r => holding [r] point >>= fun _ => pure r) Q s₁ :=
    fun ht => wpC_bind (wpC_mono ht fun r s₂ hr => wpC_bind_any (wpAny_holding (wpAny_point (wpC_pure hr))))
  have marked (mk : Value) : wpC M A (callMarked mk f (first ++ a.pos) a.kw) Q s₁ := by unfold callMarked; exact wpC_keep hc
  have oper (vs : List Value) : wpC M A (operate vs (call f (first ++ a.pos) a.kw)) Q s₁ := wpC_operate hc
  dsimp only
  refine wpC_bind_any (L A _ _ s₁ (fun _ _ e => e) ?_)
  split <;> first | exact tail (marked _) | exact tail hc | exact tail (oper _) | (split <;> first | exact tail hc | exact tail (marked _))

/-- a call by a name (or by any callee that is no attribute) -/
theorem wpC_Call {func : Expr} {args : List Expr} {kws : List Keyword} {pos : Pos} {Q : Value → Shared → Prop}
    (h : wpAny M A (eval func env) (fun f s₁ => wpC M A (callWith pos f [] (backTo pos (starEach args env)) (backToKw pos (keywordEach kws env))) Q s₁) noE s)
    (he : eval (.Call func args kws pos) env = (do callWith pos (← eval func env) [] (backTo pos (starEach args env)) (backToKw pos (keywordEach kws env))) := by rfl) :
    wpC M A (eval (.Call func args kws pos) env) Q s := by
  rw [he]
  exact wpC_bind_any h

/-- a method called, no star among its arguments -/
theorem wpC_methodCall {o : Expr} {name : Str} {apos pos : Pos} {args : List Expr} {kws : List Keyword} {pl : Sem Bool} {Q : Value → Shared → Prop}
    (h : wpAny M A (eval o env) (fun ov s₁ => wpAny M A (getMethod ov name pl) (fun fx s₂ => wpC M A (callWith pos fx.1 fx.2 (backTo pos (starEach args env)) (backToKw pos (keywordEach kws env))) Q s₂) noE s₁) noE s)
    (he : eval (.Call (.Attribute o name apos) args kws pos) env = (do
      let ov ← eval o env
      standAt apos.atName
      let (f, first) ← holding [ov] (getMethod ov name pl)
      callWith pos f first (backTo pos (starEach args env)) (backToKw pos (keywordEach kws env))) := by rfl) :
    wpC M A (eval (.Call (.Attribute o name apos) args kws pos) env) Q s := by
  rw [he]
  refine wpC_bind_any (wpAny_mono h (fun ov s₁ h₁ => ?_) fun _ _ x => x)
  refine wpC_standAt (wpC_bind_any (wpAny_holding (wpAny_mono h₁ (fun fx s₂ h₂ => ?_) fun _ _ x => x)))
  exact h₂

/-- a method called with a star among its arguments -/
theorem wpC_methodStar {o : Expr} {name : Str} {apos pos : Pos} {args : List Expr} {kws : List Keyword} {Q : Value → Shared → Prop}
    (h : wpAny M A (eval o env) (fun ov s₁ => wpAny M A (getAttr ov name true) (fun f s₂ => wpC M A (callWith pos f [] (backTo pos (starEach args env)) (backToKw pos (keywordEach kws env))) Q s₂) noE s₁) noE s)
    (he : eval (.Call (.Attribute o name apos) args kws pos) env = (do
      let ov ← eval o env
      standAt apos.atName
      let (f, first) ← holding [ov] (do pure (← getAttr ov name true, []))
      callWith pos f first (backTo pos (starEach args env)) (backToKw pos (keywordEach kws env))) := by rfl) :
    wpC M A (eval (.Call (.Attribute o name apos) args kws pos) env) Q s := by
  rw [he]
  refine wpC_bind_any (wpAny_mono h (fun ov s₁ h₁ => ?_) fun _ _ x => x)
  refine wpC_standAt (wpC_bind_any (wpAny_holding (wpAny_bind (wpAny_mono h₁ (fun f s₂ h₂ => ?_) fun _ _ x => x))))
  exact wpAny_pure h₂

theorem wpC_spliced_cons {x : Sem Value} {rest : List (Bool × Sem Value)} {Q : List Value → Shared → Prop}
    (h : wpC M A x (fun v s₁ => wpC M A (spliced rest) (fun vs s₂ => Q (v :: vs) s₂) s₁) s) : wpC M A (spliced ((false, x) :: rest)) Q s := by
  show wpC M A (do
    let v ← x
    let here ← (pure [v] : Sem (List Value))
    return here ++ (← holding here (spliced rest))) Q s
  refine wpC_bind (wpC_mono h fun v s₁ h₁ => wpC_bind (wpC_pure ?_))
  exact wpC_bind (wpC_holding (wpC_mono h₁ fun vs s₂ h₂ => wpC_pure h₂))
theorem wpC_spliced_nil {Q : List Value → Shared → Prop} (h : Q [] s) : wpC M A (spliced []) Q s := wpC_pure h

theorem wpC_Tuple {elts : List Expr} {k : Nat} {pos : Pos} {Q : Value → Shared → Prop}
    (h : wpC M A (spliced (backTo pos (starEach elts env))) (fun vs s₁ => wpAny M A (newTuple vs) Q noE s₁) s) : wpC M A (eval (.Tuple elts k pos) env) Q s := by
  show wpC M A (do standAt pos; newTuple (← spliced (backTo pos (starEach elts env)))) Q s
  exact wpC_standAt (wpC_bind (wpC_mono h fun _ _ x => wpC_of_any x))
theorem wpC_List {elts : List Expr} {pos : Pos} {Q : Value → Shared → Prop}
    (h : wpC M A (spliced (backTo pos (starEach elts env))) (fun vs s₁ => wpAny M A (newList vs) Q noE s₁) s) : wpC M A (eval (.List elts pos) env) Q s := by
  show wpC M A (do standAt pos; newList (← spliced (backTo pos (starEach elts env)))) Q s
  exact wpC_standAt (wpC_bind (wpC_mono h fun _ _ x => wpC_of_any x))

end
end Aq
-- part AqB
open PySem PySem.W PyProof.Rows
set_option Elab.async false
set_option maxRecDepth 100000
namespace Aq
open PySem PySem.W PySem.Calls PyProof.Rows PySem.Spec

section
variable {prog : Program} {w : World} {A : Around} {s : Shared}

theorem wpC_neg {M : Model} {α : Type} {c : Prop} [Decidable c] {a b : Sem α} {Q : α → Shared → Prop} (hc : ¬ c) (h : wpC M A b Q s) : wpC M A (if c then a else b) Q s := by rw [if_neg hc]; exact h
theorem wpC_pos {M : Model} {α : Type} {c : Prop} [Decidable c] {a b : Sem α} {Q : α → Shared → Prop} (hc : c) (h : wpC M A a Q s) : wpC M A (if c then a else b) Q s := by rw [if_pos hc]; exact h
theorem wpC_rule {M : Model} {β : Type} {tag : String} {f : Unit → Sem β} {Q : β → Shared → Prop} (h : wpC M A (f ()) Q s) : wpC M A (rule tag >>= f) Q s := wpC_bind_any (wpAny_rule h)

abbrev finOf (prog : Program) (w : World) (A : Around) (R : Flow → Shared → Prop) : Fin → Shared → Prop :=
  fun fin s' => match fin with | .done f => R f s' | .again c' => c'.quiet = true ∧ codeC (model prog w) A c' R s'

theorem codeC_builtin {id : String} {args : Args} {b : Builtin} {R : Flow → Shared → Prop} (hd : isDec (.builtin id args) = false) (hb : entryFor table id = some b)
    (h : wpC (model prog w) (A.under (.builtin id args)) (b args) (finOf prog w A R) s) : codeC (model prog w) A (.builtin id args) R s := by
  refine codeC_of_tree hd ?_
  show wpC _ _ (match entryFor table id with | some b => b args | none => unsupported ((withoutEnding? id "#data").getD id)) _ s
  rw [hb]; exact h

theorem codeC_call_builtin {id : String} {args : Args} {b : Builtin} {R : Flow → Shared → Prop} (hq : plainId id = true) (hd : isDec (.builtin id args) = false) (hb : entryFor table id = some b)
    (h : wpAny (model prog w) A.in1 (checkBuiltinCall id args) (fun _ s₁ => wpC (model prog w) A.in1 (b args) (finOf prog w A R) s₁) noE s) :
    codeC (model prog w) A (.call (.builtin id) args) R s := by
  refine codeC_of_tree rfl ?_
  show wpC _ A.in1 (do checkBuiltinCall id args; again (.builtin id args)) _ s
  refine wpC_bind_any (wpAny_mono h (fun _ s₁ h₁ => wpC_pure (And.intro (plainId_quiet hq args) (codeC_builtin hd hb ?_))) fun _ _ x => x)
  rw [Around.under_plainId hq args]; exact h₁

theorem wpC_callSpecial_slot {M : Model} {self : Value} {T : String} {name : Str} {id : String} {args : List Value} {kw : List (Str × Value)} {Q : Option Value → Shared → Prop} (hT : s.TypeIs self T) (h : Slot T name id)
    (hc : wpC M A (call (.builtin id) (self :: args) kw) (fun v => Q (some v)) s) : wpC M A (callSpecial? self name args kw) Q s := by
  simp only [callSpecial?]
  refine wpC_bind_any (wpAny_specialOf hT h.lookup ?_)
  simp only [h.bind]
  exact wpC_holding (wpC_bind (wpC_pure (wpC_bind (wpC_mono hc fun v s' h' => wpC_pure h'))))

/-- a built-in type called: made by its __new__, then its __init__ over clean contexts -/
theorem callTypeC {T newId initId : String} {Bi : Builtin} {args : List Value} {Q Q₁ : Value → Shared → Prop} (ft : TypeCalled T newId initId)
    (hct : checkTypeCall T ⟨args, []⟩ = pure ()) (hdi : ∀ a, isDec (.builtin initId a) = false) (entryI : entryFor table initId = some Bi)
    (hnew : codeAny (model prog w) A.in1 (.call (.builtin newId) ⟨.type T :: args, []⟩) (wants Q₁ noE) s)
    (hnext : ∀ obj s₁, Q₁ obj s₁ → s₁.TypeIs obj T ∧ argsOk initId ⟨obj :: args, []⟩ ∧
      wpC (model prog w) A.in1.in1 (Bi ⟨obj :: args, []⟩) (finOf prog w A.in1 (retOf fun r s₂ => r = .none ∧ Q obj s₂)) s₁) :
    wpC (model prog w) A (call (.type T) args) Q s := by
  obtain ⟨c, tl, hmro⟩ := ft.mro
  have hmade := ft.made
  have hsub := ft.sub
  refine wpC_call (codeC_of_tree rfl ?_)
  show wpC _ _ (callAny (.type T) _) _ _
  refine wpC_pure ⟨Code.quiet_builtin _ (by decide +kernel), codeC_builtin (show PySem.Builtin.Bytes.decodersThatHold.contains "type.__call__" = false by decide +kernel) F.entry_type_call ?_⟩
  rw [Around.under_plain (weight_type_call_type T args []) (units_type_call_type T args [])]
  have h1 := ft.notType
  have h2 := ft.canCreate
  unfold Builtin.«type.__call__»
  dsimp only
  refine wpC_neg (by rw [h1]; exact Bool.false_ne_true) ?_
  refine wpC_bind (wpC_pure ?_)
  refine wpC_neg (by rw [h2]; exact Bool.false_ne_true) ?_
  refine wpC_bind_any (wpAny_of_eq hct ?_)
  refine wpC_bind_any (wpAny_of_eq hmro ?_)
  refine wpC_neg (by simp) ?_
  refine wpC_bind_any (wpAny_of_eq hmade ?_)
  dsimp only
  refine wpC_bind (wpC_pure ?_)
  refine wpC_bind_any (wpAny_holding (wpAny_call (codeAny_mono hnew fun r s₁ hr => ?_)))
  cases r with
  | error e => exact hr
  | ok fl =>
    cases fl with
    | ret obj =>
      obtain ⟨hT, hok, hsi⟩ := hnext _ _ hr
      refine wpC_bind_any (wpAny_isInstance hT hsub ?_)
      refine wpC_neg (by simp) ?_
      refine wpC_bind (wpC_holding (wpC_callSpecial_slot hT ft.init (wpC_call (codeC_mono (codeC_call_builtin ft.init.plain (hdi _) entryI (ft.init.check _ _ _ _ _ _ _ _ hT hok hsi)) fun f s₂ hf => ?_))))
      cases f with
      | ret r =>
        obtain ⟨rfl, hq⟩ := hf
        refine wpC_neg (by simp) ?_
        exact wpC_pure hq
      | _ => exact hf.elim
    | _ => exact hr.elim
end
end Aq
-- part AqBF
open PySem PySem.W PyProof.Rows
set_option Elab.async false
set_option maxRecDepth 100000
namespace Aq
open PySem PySem.W PySem.Calls PyProof.Rows PySem.Spec
theorem ba_mro : mroOf (.type "bytearray") = pure [.type "bytearray", .type "object"] := by rw [mroOf_type]; kernel_rfl
theorem ba_lookup_new : typeLookup (.type "bytearray") "__new__" = pure (some (.builtin "bytearray.__new__")) := by rw [typeLookup_type, builtinLookup_eq_fast]; kernel_rfl
theorem ba_slot_init : Slot "bytearray" "__init__" "bytearray.__init__" :=
  .of (owner := "bytearray") (n := "__init__") (by rw [typeLookup_type, builtinLookup_eq_fast]; kernel_rfl) (by decide +kernel) (by decide +kernel) (by decide +kernel)
    (by first | exact .inl (by decide +kernel) | exact .inr (by decide +kernel)) (by rw [isSubtype_type]; kernel_rfl)
theorem ba_called : TypeCalled "bytearray" "bytearray.__new__" "bytearray.__init__" :=
  ⟨by decide +kernel, by decide +kernel, ⟨_, _, ba_mro⟩, madeBy_type ba_mro ba_lookup_new (by decide +kernel), by decide +kernel, by rw [isSubtype_type]; kernel_rfl, ba_slot_init⟩
theorem ba_typeCall (a : Value) : checkTypeCall "bytearray" ⟨[a], []⟩ = pure () := by kernel_rfl
theorem ba_newCall (a : Value) : checkBuiltinCall "bytearray.__new__" ⟨[.type "bytearray", a], []⟩ = pure () := by kernel_rfl
theorem ba_plain_new : plainId "bytearray.__new__" = true := by decide +kernel
theorem ba_entry_new : entryFor table "bytearray.__new__" = some Builtin.«list.__new__» :=
  entryFor_alias (id' := "list.__new__") (by kernel_rfl) (by first | rfl | decide +kernel) (by decide +kernel) (by kernel_rfl)
theorem ba_entry_init : entryFor table "bytearray.__init__" = some Builtin.«bytearray.__init__» := by first | exact entryFor_of_fast (by kernel_rfl) | exact entryFor_of_tree (by kernel_rfl)
theorem ba_sub : isSubtype (.type "bytearray") (.type "bytearray") = pure true := by rw [isSubtype_type]; kernel_rfl
theorem ba_release : typeLookup (.type "bytearray") "__release_buffer__" = pure (some (.builtin "bytearray.__release_buffer__")) := by rw [typeLookup_type, builtinLookup_eq_fast]; kernel_rfl
theorem ba_index : typeLookup (.type "bytearray") "__index__" = pure none := by rw [typeLookup_type, builtinLookup_eq_fast]; kernel_rfl
theorem ba_buffer : typeLookup (.type "bytearray") "__buffer__" = pure (some (.builtin "bytearray.__buffer__")) := by rw [typeLookup_type, builtinLookup_eq_fast]; kernel_rfl
theorem by_index : typeLookup (.type "bytes") "__index__" = pure none := by rw [typeLookup_type, builtinLookup_eq_fast]; kernel_rfl
theorem by_buffer : typeLookup (.type "bytes") "__buffer__" = pure (some (.builtin "bytes.__buffer__")) := by rw [typeLookup_type, builtinLookup_eq_fast]; kernel_rfl
theorem by_release : typeLookup (.type "bytes") "__release_buffer__" = pure none := by rw [typeLookup_type, builtinLookup_eq_fast]; kernel_rfl
theorem ba_bind (v : Value) : Builtin.Bytes.bindOptional "bytearray.__init__" "bytearray" ["source", "encoding", "errors"] [v] [] = pure [some v, none, none] := by kernel_rfl
theorem ba_args (a b : Value) : argsOk "bytearray.__init__" ⟨[a, b], []⟩ := by unfold argsOk; kernel_rfl
set_option maxRecDepth 1000000 in
set_option maxHeartbeats 4000000 in
theorem owner_ba_new : ("bytearray.__new__".splitOn ".__new__").headD "" = "bytearray" := by simp +decide [String.splitOn, String.splitOnAux]
end Aq
-- part AqBI
open PySem PySem.W PyProof.Rows
set_option Elab.async false
set_option maxRecDepth 100000
set_option linter.deprecated false
namespace Aq
open PySem PySem.W PySem.Calls PyProof.Rows PySem.Spec

/-- a bytearray as the heap holds it -/
abbrev baObj (b : Array UInt8) : Obj := { cls := .type "bytearray", data := .bytearray b }

section
variable {prog : Program} {w : World} {A : Around} {s : Shared}

theorem code_ba_new (a : Value) {Q₁ : Value → Shared → Prop} (h : Q₁ (.ref s.heap.objs.size) { s with heap := s.heap.push (baObj #[]) }) :
    codeAny (model prog w) A (.call (.builtin "bytearray.__new__") ⟨[.type "bytearray", a], []⟩) (wants Q₁ noE) s := by
  refine codeAny_of_tree ?_
  show wpAny _ A.in1 (do checkBuiltinCall "bytearray.__new__" ⟨[.type "bytearray", a], []⟩; again (.builtin "bytearray.__new__" ⟨[.type "bytearray", a], []⟩)) _ _ s
  refine wpAny_bind (wpAny_of_eq (ba_newCall a) (wpAny_pure ⟨plainId_quiet ba_plain_new _, codeAny_builtin_stack ba_entry_new rfl fun p st => ?_⟩))
  rw [Around.under_plainId ba_plain_new _]
  have hsub := ba_sub
  have hown := owner_ba_new
  obtain ⟨hp, g, d, tk, os⟩ := s
  simp only [hown]
  wp_walk
  exact h

theorem ownRelease_ba {M : Model} {E : Value → Shared → Prop} {v : Value} {Q : Bool → Shared → Prop} (hT : s.TypeIs v "bytearray") (h : Q false s) : wpAny M A (PySem.Builtin.Bytes.ownRelease v) Q E s := by
  unfold PySem.Builtin.Bytes.ownRelease PySem.Builtin.Bytes.slotIsOwn
  refine wpAny_bind (wpAny_bind (wpAny_specialOf hT ba_release ?_))
  dsimp only
  refine wpAny_ite ?_
  rw [if_neg (by decide +kernel)]
  refine wpAny_isInstance (U := "bytearray.__release_buffer__".dropRight ("__release_buffer__".length + 1)) (b := true) hT ?_ (wpAny_pure h)
  rw [show "bytearray.__release_buffer__".dropRight ("__release_buffer__".length + 1) = "bytearray" by decide +kernel]
  exact ba_sub

theorem slotIsOwn_ba {M : Model} {E : Value → Shared → Prop} {v : Value} {Q : Bool → Shared → Prop} (hT : s.TypeIs v "bytearray") (h : Q true s) : wpAny M A (PySem.Builtin.Bytes.slotIsOwn v "__buffer__") Q E s := by
  unfold PySem.Builtin.Bytes.slotIsOwn
  refine wpAny_bind (wpAny_specialOf hT ba_buffer ?_)
  dsimp only
  refine wpAny_ite ?_
  rw [if_neg (by decide +kernel)]
  refine wpAny_isInstance (U := "bytearray.__buffer__".dropRight ("__buffer__".length + 1)) (b := true) hT ?_ h
  rw [show "bytearray.__buffer__".dropRight ("__buffer__".length + 1) = "bytearray" by decide +kernel]
  exact ba_sub

theorem by_sub : isSubtype (.type "bytes") (.type "bytes") = pure true := by rw [isSubtype_type]; kernel_rfl

theorem slotIsOwn_by {M : Model} {E : Value → Shared → Prop} {v : Value} {Q : Bool → Shared → Prop} (hT : s.TypeIs v "bytes") (h : Q true s) : wpAny M A (PySem.Builtin.Bytes.slotIsOwn v "__buffer__") Q E s := by
  unfold PySem.Builtin.Bytes.slotIsOwn
  refine wpAny_bind (wpAny_specialOf hT by_buffer ?_)
  dsimp only
  refine wpAny_ite ?_
  rw [if_neg (by decide +kernel)]
  refine wpAny_isInstance (U := "bytes.__buffer__".dropRight ("__buffer__".length + 1)) (b := true) hT ?_ h
  rw [show "bytes.__buffer__".dropRight ("__buffer__".length + 1) = "bytes" by decide +kernel]
  exact by_sub

theorem ownRelease_by {M : Model} {E : Value → Shared → Prop} {v : Value} {Q : Bool → Shared → Prop} (hT : s.TypeIs v "bytes") (h : Q false s) : wpAny M A (PySem.Builtin.Bytes.ownRelease v) Q E s := by
  unfold PySem.Builtin.Bytes.ownRelease PySem.Builtin.Bytes.slotIsOwn
  exact wpAny_bind (wpAny_bind (wpAny_specialOf hT by_release (wpAny_pure (wpAny_pure h))))

theorem typeIs_ba {y : Addr} {b : Array UInt8} (hy : s.heap.get? y = some (baObj b)) : s.TypeIs (.ref y) "bytearray" := ⟨_, hy, rfl⟩
theorem typeIs_by (s : Shared) (b : Array UInt8) (t : Tok) : s.TypeIs (.bytes b t) "bytes" := rfl

theorem payload_ba {M : Model} {E : Value → Shared → Prop} {y : Addr} {b : Array UInt8} {Q : Array UInt8 → Shared → Prop} (hy : s.heap.get? y = some (baObj b)) (h : Q b s) : wpAny M A (PySem.Builtin.Bytes.payload (.ref y)) Q E s := by
  unfold PySem.Builtin.Bytes.payload PySem.Builtin.Bytes.payload?
  exact wpAny_bind (wpAny_bind (wpAny_load hy (wpAny_pure (wpAny_pure h))))
theorem payload_by {M : Model} {E : Value → Shared → Prop} {t : Tok} {b : Array UInt8} {Q : Array UInt8 → Shared → Prop} (h : Q b s) : wpAny M A (PySem.Builtin.Bytes.payload (.bytes b t)) Q E s := by
  unfold PySem.Builtin.Bytes.payload PySem.Builtin.Bytes.payload?
  exact wpAny_bind (wpAny_pure (wpAny_pure h))

/-- a bytes or a bytearray: what `buffer?` gives -/
def BufAt (s : Shared) (v : Value) (b : Array UInt8) : Prop := (∃ y, v = .ref y ∧ s.heap.get? y = some (baObj b)) ∨ ∃ t, v = .bytes b t
theorem BufAt.keeps {s s' : Shared} {v : Value} {b : Array UInt8} (h : BufAt s v b) (hk : ∀ a o, s.heap.get? a = some o → s'.heap.get? a = some o) : BufAt s' v b := by
  rcases h with ⟨y, rfl, hy⟩ | h
  · exact .inl ⟨y, rfl, hk _ _ hy⟩
  · exact .inr h

theorem buffer_at {M : Model} {E : Value → Shared → Prop} {id : String} {full : Bool} {v : Value} {b : Array UInt8} {Q : Option (Array UInt8) → Shared → Prop} (hv : BufAt s v b) (h : Q (some b) s) :
    wpAny M A (PySem.Builtin.Bytes.buffer? id v full) Q E s := by
  unfold PySem.Builtin.Bytes.buffer?
  rcases hv with ⟨y, rfl, hy⟩ | ⟨t, rfl⟩
  · have hT := typeIs_ba hy
    refine wpAny_bind (wpAny_specialOf hT ba_buffer ?_)
    refine wpAny_bind (slotIsOwn_ba hT ?_)
    refine wpAny_ite ?_
    rw [if_neg (by simp)]
    refine wpAny_bind (wpAny_specialOf hT ba_buffer ?_)
    refine wpAny_bind (ownRelease_ba hT ?_)
    refine wpAny_ite ?_
    rw [if_neg (by simp)]
    exact wpAny_bind (payload_ba hy (wpAny_pure h))
  · have hT := typeIs_by s b t
    refine wpAny_bind (wpAny_specialOf hT by_buffer ?_)
    refine wpAny_bind (slotIsOwn_by hT ?_)
    refine wpAny_ite ?_
    rw [if_neg (by simp)]
    refine wpAny_bind (wpAny_specialOf hT by_buffer ?_)
    refine wpAny_bind (ownRelease_by hT ?_)
    refine wpAny_ite ?_
    rw [if_neg (by simp)]
    exact wpAny_bind (payload_by (wpAny_pure h))

theorem write_ba {M : Model} {E : Value → Shared → Prop} {y : Addr} {b : Array UInt8} {f : Array UInt8 → Array UInt8} {Q : Unit → Shared → Prop} (hy : s.heap.get? y = some (baObj b)) (hz : (f b).size ≤ sizeLine)
    (h : Q () { s with heap := s.heap.update y (Obj.mapBytearray f) }) : wpAny M A (PySem.Builtin.Bytes.write (.ref y) f) Q E s := by
  show wpAny M A (updateBytearray y f) Q E s
  unfold updateBytearray
  refine wpAny_bind (wpAny_load hy ?_)
  show wpAny _ _ (update y (Obj.mapBytearray f) >>= fun _ => lookBehind y) _ _ _
  refine wpAny_bind (wpAny_update hy ?_)
  refine wpAny_lookBehind (o := baObj (f b)) (Heap.get?_update_self _ hy rfl) ?_ h
  show (if (f b).size > sizeLine then some _ else none) = none
  rw [if_neg (Nat.not_lt.mpr hz)]

theorem exportsOf_ba {M : Model} {E : Value → Shared → Prop} {y : Addr} {b : Array UInt8} {Q : Nat → Shared → Prop} (hy : s.heap.get? y = some (baObj b)) (h : Q 0 s) : wpAny M A (PySem.Builtin.Bytes.exportsOf (.ref y)) Q E s := by
  unfold PySem.Builtin.Bytes.exportsOf
  exact wpAny_bind (wpAny_load hy (wpAny_pure h))

theorem asStr_buf {M : Model} {E : Value → Shared → Prop} {v : Value} {b : Array UInt8} {Q : Option Str → Shared → Prop} (hv : BufAt s v b) (h : Q none s) : wpAny M A (asStr? v) Q E s := by
  rcases hv with ⟨y, rfl, hy⟩ | ⟨t, rfl⟩
  · exact wpAny_bind (wpAny_load hy (wpAny_pure h))
  · exact wpAny_pure h

theorem index_buf {M : Model} {E : Value → Shared → Prop} {v : Value} {b : Array UInt8} {Q : Option Value → Shared → Prop} (hv : BufAt s v b) (h : Q none s) : wpAny M A (specialOf v "__index__") Q E s := by
  rcases hv with ⟨y, rfl, hy⟩ | ⟨t, rfl⟩
  · exact wpAny_specialOf (typeIs_ba hy) ba_index h
  · exact wpAny_specialOf (typeIs_by s b t) by_index h

theorem size_upd (h : Heap) (a : Addr) (f : Obj → Obj) : (h.update a f).objs.size = h.objs.size := by cases h; simp [Heap.update]

/-- bytearray(x), x a bytes or a bytearray -/
theorem init_buf {y : Addr} {v : Value} {b₀ b : Array UInt8} {Q : Shared → Prop} (hg : A.guards = some []) (hy : s.heap.get? y = some (baObj b₀)) (hv : BufAt s v b) (hne : v ≠ .ref y) (hz : b.size ≤ sizeLine)
    (h : ∀ h', h'.get? y = some (baObj b) → (∀ a, a ≠ y → h'.get? a = s.heap.get? a) → h'.objs.size = s.heap.objs.size → Q { s with heap := h' }) :
    wpC (model prog w) A (Builtin.«bytearray.__init__» ⟨[.ref y, v], []⟩) (fun fin s' => fin = .done (.ret .none) ∧ Q s') s := by
  have hT := typeIs_ba hy
  unfold Builtin.«bytearray.__init__»
  dsimp only
  refine wpC_bind_any (ownRelease_ba hT ?_)
  refine wpC_neg (by first | exact Bool.false_ne_true | simp | (intro h9; cases h9)) ?_
  refine wpC_bind_any (wpAny_of_eq (ba_bind v) ?_)
  dsimp only
  refine wpC_bind_any (wpAny_of_eq (a := ()) rfl ?_)
  refine wpC_bind_any (wpAny_of_eq (a := ()) rfl ?_)
  refine wpC_bind (wpC_bind (exported_no hg ?_))
  refine wpC_bind_any (exportsOf_ba hy (wpC_pure ?_))
  refine wpC_neg (by first | exact Bool.false_ne_true | simp | (intro h9; cases h9)) ?_
  refine wpC_bind_any (write_ba (b := b₀) (f := fun _ => #[]) hy (Nat.zero_le _) ?_)
  have hy1 : (s.heap.update y (Obj.mapBytearray fun _ => #[])).get? y = some (baObj #[]) := Heap.get?_update_self _ hy rfl
  have hk1 : ∀ a, a ≠ y → (s.heap.update y (Obj.mapBytearray fun _ => #[])).get? a = s.heap.get? a := fun a ha => Heap.get?_update_ne _ _ _ _ ha
  have hv1 : BufAt { s with heap := s.heap.update y (Obj.mapBytearray fun _ => #[]) } v b := by
    rcases hv with ⟨x, rfl, hx⟩ | hv
    · exact .inl ⟨x, rfl, (hk1 x fun e => hne (by rw [e])).trans hx⟩
    · exact .inr hv
  refine wpC_bind_any (asStr_buf hv1 ?_)
  refine wpC_neg (by first | exact Bool.false_ne_true | simp | (intro h9; cases h9)) ?_
  refine wpC_bind (wpC_neg (by intro h9; cases h9) (wpC_neg (by intro h9; cases h9) (wpC_pure ?_)))
  refine wpC_bind_any (index_buf hv1 ?_)
  refine wpC_neg (by first | exact Bool.false_ne_true | simp | (intro h9; cases h9)) ?_
  refine wpC_bind_any (buffer_at hv1 ?_)
  dsimp only
  refine wpC_rule ?_
  refine wpC_bind_any (write_ba (b := #[]) (f := fun _ => b) hy1 hz ?_)
  refine wpC_pure ⟨rfl, h _ ?_ ?_ ?_⟩
  · exact Heap.get?_update_self _ hy1 rfl
  · intro a ha
    exact (Heap.get?_update_ne _ _ _ _ ha).trans (hk1 a ha)
  · rw [size_upd, size_upd]

theorem asStr_list {M : Model} {E : Value → Shared → Prop} {l : Addr} {xs : Array Value} {Q : Option Str → Shared → Prop} (hl : s.heap.IsList l xs) (h : Q none s) : wpAny M A (asStr? (.ref l)) Q E s := by
  obtain ⟨o, ho, hc, n, hd⟩ := hl
  refine wpAny_bind (wpAny_load ho ?_)
  rw [hd]
  exact wpAny_pure h

theorem buffer_list {M : Model} {E : Value → Shared → Prop} {id : String} {full : Bool} {l : Addr} {xs : Array Value} {Q : Option (Array UInt8) → Shared → Prop} (hl : s.heap.IsList l xs) (h : Q none s) :
    wpAny M A (PySem.Builtin.Bytes.buffer? id (.ref l) full) Q E s := by
  unfold PySem.Builtin.Bytes.buffer?
  refine wpAny_bind (wpAny_specialOf hl.typeIs F.bm_no_buffer ?_)
  exact wpAny_bind (wpAny_specialOf hl.typeIs F.bm_no_buffer (wpAny_pure h))

theorem tw_ints {vs : List Value} {ns : List Int} (hi : IntsAre vs ns) (hr : ∀ n ∈ ns, 0 ≤ n ∧ n < 256) {p : Value → Bool} (hp : ∀ i t, 0 ≤ i → i < 256 → p (.int i t) = true) : vs.takeWhile p = vs := by
  induction hi with
  | nil => rfl
  | @cons n t vs ns _ ih =>
    have h0 := hr n List.mem_cons_self
    rw [List.takeWhile_cons, hp n t h0.1 h0.2, if_pos rfl, ih fun k hk => hr k (List.mem_cons_of_mem _ hk)]
theorem fm_ints {vs : List Value} {ns : List Int} (hi : IntsAre vs ns) {α : Type} {g : Int → α} {q : Value → Option α} (hq : ∀ i t, q (.int i t) = some (g i)) : vs.filterMap q = ns.map g := by
  induction hi with
  | nil => rfl
  | @cons n t vs ns _ ih => rw [List.filterMap_cons, hq n t, ih]; rfl

/-- bytearray(xs), xs a list of octets -/
theorem init_list {y l : Addr} {vs : List Value} {ns : List Int} {b₀ : Array UInt8} {Q : Shared → Prop} (hg : A.guards = some []) (hy : s.heap.get? y = some (baObj b₀)) (hl : s.heap.IsList l vs.toArray) (hi : IntsAre vs ns) (hr : ∀ n ∈ ns, 0 ≤ n ∧ n < 256)
    (hz : ns.length ≤ sizeLine) (h : ∀ h', h'.get? y = some (baObj (byteArr ns)) → (∀ a, a ≠ y → h'.get? a = s.heap.get? a) → h'.objs.size = s.heap.objs.size → Q { s with heap := h' }) :
    wpC (model prog w) A (Builtin.«bytearray.__init__» ⟨[.ref y, .ref l], []⟩) (fun fin s' => fin = .done (.ret .none) ∧ Q s') s := by
  have hT := typeIs_ba hy
  have hly : l ≠ y := fun e => by
    obtain ⟨o, ho, hc, _⟩ := hl
    rw [e, hy] at ho
    cases ho
    exact absurd hc (by simp)
  unfold Builtin.«bytearray.__init__»
  dsimp only
  refine wpC_bind_any (ownRelease_ba hT ?_)
  refine wpC_neg (by first | exact Bool.false_ne_true | simp | (intro h9; cases h9)) ?_
  refine wpC_bind_any (wpAny_of_eq (ba_bind _) ?_)
  dsimp only
  refine wpC_bind_any (wpAny_of_eq (a := ()) rfl ?_)
  refine wpC_bind_any (wpAny_of_eq (a := ()) rfl ?_)
  refine wpC_bind (wpC_bind (exported_no hg ?_))
  refine wpC_bind_any (exportsOf_ba hy (wpC_pure ?_))
  refine wpC_neg (by first | exact Bool.false_ne_true | simp | (intro h9; cases h9)) ?_
  refine wpC_bind_any (write_ba (b := b₀) (f := fun _ => #[]) hy (Nat.zero_le _) ?_)
  have hy1 : (s.heap.update y (Obj.mapBytearray fun _ => #[])).get? y = some (baObj #[]) := Heap.get?_update_self _ hy rfl
  have hk1 : ∀ a, a ≠ y → (s.heap.update y (Obj.mapBytearray fun _ => #[])).get? a = s.heap.get? a := fun a ha => Heap.get?_update_ne _ _ _ _ ha
  have hl1 : (s.heap.update y (Obj.mapBytearray fun _ => #[])).IsList l vs.toArray := by
    obtain ⟨o, ho, r⟩ := hl
    exact ⟨o, (hk1 l hly).trans ho, r⟩
  refine wpC_bind_any (asStr_list (s := { s with heap := s.heap.update y (Obj.mapBytearray fun _ => #[]) }) hl1 ?_)
  refine wpC_neg (by first | exact Bool.false_ne_true | simp | (intro h9; cases h9)) ?_
  refine wpC_bind (wpC_neg (by intro h9; cases h9) (wpC_neg (by intro h9; cases h9) (wpC_pure ?_)))
  refine wpC_bind_any (wpAny_specialOf hl1.typeIs F.bm_no_index ?_)
  refine wpC_neg (by first | exact Bool.false_ne_true | simp | (intro h9; cases h9)) ?_
  refine wpC_bind_any (buffer_list (s := { s with heap := s.heap.update y (Obj.mapBytearray fun _ => #[]) }) hl1 ?_)
  dsimp only
  refine wpC_bind_any (wpAny_typeOf hl1.typeIs ?_)
  refine wpC_pos (by simp) ?_
  obtain ⟨ol, hol, hcl, nl, hdl⟩ := id hl1
  refine wpC_bind_any (wpAny_seqItems hol hdl ?_)
  dsimp only
  rw [tw_ints hi hr (fun i t h0 h1 => by simp [h0, h1]), fm_ints hi (g := fun n => n.toNat.toUInt8) (fun i t => rfl)]
  rw [show vs.toArray[vs.length]? = none by simp]
  refine wpC_rule ?_
  refine wpC_bind_any (write_ba (b := #[]) (f := fun _ => byteArr ns) hy1 (by rw [byteArr_size]; exact hz) ?_)
  refine wpC_pure ⟨rfl, h _ ?_ ?_ ?_⟩
  · exact Heap.get?_update_self _ hy1 rfl
  · intro a ha
    exact (Heap.get?_update_ne _ _ _ _ ha).trans (hk1 a ha)
  · rw [size_upd, size_upd]
end

section
variable {prog : Program} {w : World} {A : Around} {s : Shared}

theorem dec_init (a : Args) : isDec (.builtin "bytearray.__init__" a) = false := show PySem.Builtin.Bytes.decodersThatHold.contains "bytearray.__init__" = false by decide +kernel

theorem fin_of {A : Around} {obj : Value} {Q : Value → Shared → Prop} {t : Sem Fin} {Q' : Shared → Prop} (h : wpC (model prog w) A t (fun fin s' => fin = .done (.ret .none) ∧ Q' s') s) (hq : ∀ s', Q' s' → Q obj s') {A₁ : Around} :
    wpC (model prog w) A t (finOf prog w A₁ (retOf fun r s₂ => r = .none ∧ Q obj s₂)) s :=
  wpC_mono h fun fin s' ⟨e, q⟩ => by subst e; exact ⟨rfl, hq s' q⟩

/-- bytearray(v): a new one with v's octets -/
theorem call_bytearray_buf {v : Value} {b : Array UInt8} {Q : Value → Shared → Prop} (hg : A.guards = some []) (hv : BufAt s v b) (hz : b.size ≤ sizeLine)
    (h : ∀ h', h'.get? s.heap.objs.size = some (baObj b) → (∀ a o, s.heap.get? a = some o → h'.get? a = some o) → Q (.ref s.heap.objs.size) { s with heap := h' }) :
    wpC (model prog w) A (call (.type "bytearray") [v]) Q s := by
  refine callTypeC (Q₁ := fun obj s₁ => obj = .ref s.heap.objs.size ∧ s₁ = { s with heap := s.heap.push (baObj #[]) }) ba_called (ba_typeCall v) dec_init ba_entry_init (code_ba_new v ⟨rfl, rfl⟩) ?_
  rintro obj s₁ ⟨rfl, rfl⟩
  have hy : (s.heap.push (baObj #[])).get? s.heap.objs.size = some (baObj #[]) := Heap.get?_push_size _ rfl
  refine ⟨⟨_, hy, rfl⟩, ba_args _ _, fin_of (Q' := Q (.ref s.heap.objs.size)) (init_buf (A := A.in1.in1) (s := { s with heap := s.heap.push (baObj #[]) }) hg hy (hv.keeps fun a o e => Heap.get?_push_of_some _ e) ?_ hz fun h' h1 h2 h3 => ?_) fun _ x => x⟩
  · rintro rfl
    rcases hv with ⟨y, e, hy'⟩ | ⟨t, e⟩
    · cases e
      exact absurd (Heap.lt_size hy') (Nat.lt_irrefl _)
    · cases e
  · exact h h' h1 fun a o e => (h2 a fun q => absurd (Heap.lt_size e) (q ▸ Nat.lt_irrefl _)).trans (Heap.get?_push_of_some _ e)

/-- bytearray(xs): a new one with the list's octets -/
theorem call_bytearray_list {l : Addr} {vs : List Value} {ns : List Int} {Q : Value → Shared → Prop} (hg : A.guards = some []) (hl : s.heap.IsList l vs.toArray) (hi : IntsAre vs ns) (hr : ∀ n ∈ ns, 0 ≤ n ∧ n < 256) (hz : ns.length ≤ sizeLine)
    (h : ∀ h', h'.get? s.heap.objs.size = some (baObj (byteArr ns)) → (∀ a o, s.heap.get? a = some o → h'.get? a = some o) → Q (.ref s.heap.objs.size) { s with heap := h' }) :
    wpC (model prog w) A (call (.type "bytearray") [.ref l]) Q s := by
  refine callTypeC (Q₁ := fun obj s₁ => obj = .ref s.heap.objs.size ∧ s₁ = { s with heap := s.heap.push (baObj #[]) }) ba_called (ba_typeCall _) dec_init ba_entry_init (code_ba_new _ ⟨rfl, rfl⟩) ?_
  rintro obj s₁ ⟨rfl, rfl⟩
  have hy : (s.heap.push (baObj #[])).get? s.heap.objs.size = some (baObj #[]) := Heap.get?_push_size _ rfl
  refine ⟨⟨_, hy, rfl⟩, ba_args _ _, fin_of (Q' := Q (.ref s.heap.objs.size)) (init_list (A := A.in1.in1) (s := { s with heap := s.heap.push (baObj #[]) }) hg hy (hl.push _) hi hr hz fun h' h1 h2 h3 => ?_) fun _ x => x⟩
  exact h h' h1 fun a o e => (h2 a fun q => absurd (Heap.lt_size e) (q ▸ Nat.lt_irrefl _)).trans (Heap.get?_push_of_some _ e)
end
end Aq
-- part AqBO
open PySem PySem.W PyProof.Rows
set_option Elab.async false
set_option maxRecDepth 100000
set_option linter.deprecated false
namespace Aq
open PySem PySem.W PySem.Calls PyProof.Rows PySem.Spec

theorem ba_fill_i : fillsInplaceSlot (.type "bytearray") "add" (Operator.Add == .Add) = pure false := by kernel_rfl
theorem ba_fill : fillsNumberSlot (.type "bytearray") "add" = pure false := by kernel_rfl
theorem by_fill : fillsNumberSlot (.type "bytes") "add" = pure false := by kernel_rfl
theorem ba_slot_iadd : Slot "bytearray" "__iadd__" "bytearray.__iadd__" :=
  .of (owner := "bytearray") (n := "__iadd__") (by rw [typeLookup_type, builtinLookup_eq_fast]; kernel_rfl) (by decide +kernel) (by decide +kernel) (by decide +kernel)
    (by first | exact .inl (by decide +kernel) | exact .inr (by decide +kernel)) ba_sub
theorem ba_seq_iadd : seqSlot? (.type "bytearray") (dunderI "add") = pure (some (.builtin "bytearray.__iadd__")) := PySem.seqSlot_of ba_slot_iadd.lookup (by decide +kernel)
theorem ba_entry_iadd : entryFor table "bytearray.__iadd__" = some Builtin.«bytearray.__iadd__» := by first | exact entryFor_of_fast (by kernel_rfl) | exact entryFor_of_tree (by kernel_rfl)
theorem ba_args_iadd (a b : Value) : argsOk "bytearray.__iadd__" ⟨[a, b], []⟩ := by unfold argsOk; kernel_rfl
theorem ba_slotArgs_iadd (a b : Value) : slotArgs "__iadd__" 1 ⟨[a, b], []⟩ = pure (a, [b]) := by kernel_rfl
theorem dec_iadd (a : Args) : isDec (.builtin "bytearray.__iadd__" a) = false := show PySem.Builtin.Bytes.decodersThatHold.contains "bytearray.__iadd__" = false by decide +kernel
theorem ba_slot_setitem : Slot "bytearray" "__setitem__" "bytearray.__setitem__" :=
  .of (owner := "bytearray") (n := "__setitem__") (by rw [typeLookup_type, builtinLookup_eq_fast]; kernel_rfl) (by decide +kernel) (by decide +kernel) (by decide +kernel)
    (by first | exact .inl (by decide +kernel) | exact .inr (by decide +kernel)) ba_sub
theorem ba_entry_setitem : entryFor table "bytearray.__setitem__" = some Builtin.«bytearray.__setitem__» := by first | exact entryFor_of_fast (by kernel_rfl) | exact entryFor_of_tree (by kernel_rfl)
theorem ba_args_setitem (a b c : Value) : argsOk "bytearray.__setitem__" ⟨[a, b, c], []⟩ := by unfold argsOk; kernel_rfl
theorem dec_setitem (a : Args) : isDec (.builtin "bytearray.__setitem__" a) = false := show PySem.Builtin.Bytes.decodersThatHold.contains "bytearray.__setitem__" = false by decide +kernel

section
variable {prog : Program} {w : World} {A : Around} {s : Shared}

theorem checkResize_ba {M : Model} {y : Addr} {b : Array UInt8} {Q : Unit → Shared → Prop} (hg : A.guards = some []) (hy : s.heap.get? y = some (baObj b)) (h : Q () s) : wpC M A (PySem.Builtin.Bytes.checkResize (.ref y)) Q s := by
  unfold PySem.Builtin.Bytes.checkResize
  refine wpC_bind (wpC_bind (exported_no hg ?_))
  refine wpC_bind_any (exportsOf_ba hy (wpC_pure ?_))
  exact wpC_neg (by simp) (wpC_pure h)

theorem inplace_ba {y : Addr} {v : Value} {T : String} {Q : Value → Shared → Prop} (hy : s.TypeIs (.ref y) "bytearray") (hv : s.TypeIs v T) (hne : (Value.type "bytearray" == Value.type T) = false) (hf : fillsNumberSlot (.type T) "add" = pure false)
    (h : wpC (model prog w) A (call (.builtin "bytearray.__iadd__") [.ref y, v]) Q s) : wpC (model prog w) A (inplaceOp .Add (.ref y) v) Q s := by
  unfold inplaceOp
  refine wpC_holding ?_
  refine wpC_bind_any (wpAny_typeOf hy ?_)
  refine wpC_bind_any (wpAny_of_eq ba_fill_i ?_)
  refine wpC_neg (by simp) ?_
  refine wpC_bind_any ?_
  simp only [binaryOp1]
  refine wpAny_bind (wpAny_typeOf hy (wpAny_bind (wpAny_typeOf hv (wpAny_bind (wpAny_of_eq ba_fill ?_)))))
  simp only [hne, Bool.false_eq_true, if_false]
  refine wpAny_bind (wpAny_of_eq hf ?_)
  simp only [pure_bind, Bool.false_and, Bool.false_eq_true, if_false]
  refine wpAny_pure ?_
  refine wpC_bind_any (wpAny_of_eq ba_seq_iadd ?_)
  exact wpC_rule h

theorem takeQuiet_by {M : Model} {E : Value → Shared → Prop} {id : String} {c : Array UInt8} {t : Tok} {n : Int} {Q : Option (Array UInt8 × Option Value) → Shared → Prop} (h : Q (some (c, none)) s) :
    wpAny M A (PySem.Builtin.Bytes.takeBufferQuiet? id (.bytes c t) n) Q E s := by
  unfold PySem.Builtin.Bytes.takeBufferQuiet? PySem.Builtin.Bytes.takeBuffer?
  refine wpAny_bind (wpAny_attempt ?_)
  have hT := typeIs_by s c t
  refine wpAny_bind (wpAny_specialOf hT by_buffer ?_)
  refine wpAny_bind (slotIsOwn_by hT ?_)
  refine wpAny_ite ?_
  rw [if_neg (by simp)]
  refine wpAny_bind (wpAny_specialOf hT by_buffer ?_)
  exact wpAny_bind (buffer_at (.inr ⟨t, rfl⟩) (wpAny_pure (wpAny_pure h)))

/-- data += octets -/
theorem iadd_ba {y : Addr} {b c : Array UInt8} {t : Tok} {Q : Value → Shared → Prop} (hg : A.guards = some []) (hy : s.heap.get? y = some (baObj b)) (hz : b.size + c.size ≤ sizeLine)
    (h : ∀ h', h'.get? y = some (baObj (b ++ c)) → (∀ a, a ≠ y → h'.get? a = s.heap.get? a) → Q (.ref y) { s with heap := h' }) :
    wpC (model prog w) A (inplaceOp .Add (.ref y) (.bytes c t)) Q s := by
  refine inplace_ba (typeIs_ba hy) (typeIs_by s c t) (by decide) by_fill ?_
  refine wpC_call (codeC_call_builtin ba_slot_iadd.plain (dec_iadd _) ba_entry_iadd (ba_slot_iadd.check _ _ _ _ _ _ _ _ (typeIs_ba hy) (ba_args_iadd _ _) ?_))
  unfold Builtin.«bytearray.__iadd__»
  refine wpC_bind_any (wpAny_of_eq (ba_slotArgs_iadd _ _) ?_)
  dsimp only
  refine wpC_bind_any (takeQuiet_by ?_)
  dsimp only
  unfold PySem.Builtin.Bytes.thenGiveBack
  dsimp only
  have hq : Q (.ref y) { s with heap := s.heap.update y (Obj.mapBytearray (· ++ c)) } := h _ (Heap.get?_update_self _ hy rfl) fun a ha => Heap.get?_update_ne _ _ _ _ ha
  by_cases hc : c.isEmpty = true
  · refine wpC_neg (by simp [hc]) ?_
    refine wpC_bind_any (payload_ba hy ?_)
    refine wpC_neg (by simp [PySem.Builtin.Bytes.tooLong]; omega) ?_
    exact wpC_bind_any (write_ba (b := b) (f := (· ++ c)) hy (by rw [Array.size_append]; exact hz) (wpC_pure hq))
  · refine wpC_pos (by simp [hc]) ?_
    refine wpC_neg (by simp [PySem.Builtin.Bytes.sameRef]) ?_
    refine wpC_bind (checkResize_ba (A := A.in1) hg hy ?_)
    refine wpC_bind_any (payload_ba hy ?_)
    refine wpC_neg (by simp [PySem.Builtin.Bytes.tooLong]; omega) ?_
    exact wpC_bind_any (write_ba (b := b) (f := (· ++ c)) hy (by rw [Array.size_append]; exact hz) (wpC_pure hq))
end
end Aq
-- part AqBS
open PySem PySem.W PyProof.Rows
set_option Elab.async false
set_option maxRecDepth 100000
set_option linter.deprecated false
namespace Aq
open PySem PySem.W PySem.Calls PyProof.Rows PySem.Spec

theorem by_int : typeLookup (.type "bytes") "__int__" = pure none := by rw [typeLookup_type, builtinLookup_eq_fast]; kernel_rfl
theorem by_float : typeLookup (.type "bytes") "__float__" = pure none := by rw [typeLookup_type, builtinLookup_eq_fast]; kernel_rfl
theorem by_complex : isSubtype (.type "bytes") (.type "complex") = pure false := by rw [isSubtype_type]; kernel_rfl
theorem by_ba : isSubtype (.type "bytes") (.type "bytearray") = pure false := by rw [isSubtype_type]; kernel_rfl

section
variable {prog : Program} {w : World} {A : Around} {s : Shared}

theorem sliceParts_ok {M : Model} {E : Value → Shared → Prop} {a : Addr} {l u : Value} {lo hi : Option Int} {Q : Value × Value × Value → Shared → Prop} (hs : s.heap.IsSliceOf a l u .none) (hl : IsPart l lo) (hu : IsPart u hi)
    (h : Q (rawPart lo, rawPart hi, .none) s) : wpAny M A (PySem.Builtin.Bytes.sliceParts (.ref a)) Q E s := by
  obtain ⟨o, ho, hc, hd⟩ := hs
  unfold PySem.Builtin.Bytes.sliceParts
  refine wpAny_bind (wpAny_field ho hd (x := .none) rfl ?_)
  kby_none
  refine wpAny_ite (KBy.ite_no (show ¬ ((Value.none == rawInt 0) = true) from Bool.false_ne_true) ?_)
  refine wpAny_bind (wpAny_field (x := l) ho hd rfl ?_)
  cases hl <;> cases hu <;> (first
    | (kby_none; (refine wpAny_bind (wpAny_field (x := .none) ho hd rfl ?_)); kby_none)
    | (kby_none; (refine wpAny_bind (wpAny_field (x := .int _ _) ho hd rfl ?_)); kby_int)
    | (kby_int; (refine wpAny_bind (wpAny_field (x := .none) ho hd rfl ?_)); kby_none)
    | (kby_int; (refine wpAny_bind (wpAny_field (x := .int _ _) ho hd rfl ?_)); kby_int)) <;> exact wpAny_pure h

theorem slice_typeIs {a : Addr} {l u st : Value} (hs : s.heap.IsSliceOf a l u st) : s.TypeIs (.ref a) "slice" := let ⟨o, ho, hc, _⟩ := hs; ⟨o, ho, hc⟩

theorem subscript_slice {M : Model} {E : Value → Shared → Prop} {a : Addr} {l u st : Value} {Q : Option Int → Shared → Prop} (hs : s.heap.IsSliceOf a l u st) (h : Q none s) : wpAny M A (PySem.Builtin.Bytes.subscript? (.ref a)) Q E s := by
  unfold PySem.Builtin.Bytes.subscript?
  exact wpAny_bind (wpAny_specialOf (slice_typeIs hs) slice_no_index (wpAny_pure h))

theorem ba_slot_getitem : Slot "bytearray" "__getitem__" "bytearray.__getitem__" :=
  .of (owner := "bytearray") (n := "__getitem__") (by rw [typeLookup_type, builtinLookup_eq_fast]; kernel_rfl) (by decide +kernel) (by decide +kernel) (by decide +kernel)
    (by first | exact .inl (by decide +kernel) | exact .inr (by decide +kernel)) ba_sub
theorem ba_entry_getitem : entryFor table "bytearray.__getitem__" = some Builtin.«bytearray.__getitem__» := by first | exact entryFor_of_fast (by kernel_rfl) | exact entryFor_of_tree (by kernel_rfl)
theorem ba_args_getitem (a b : Value) : argsOk "bytearray.__getitem__" ⟨[a, b], []⟩ := by unfold argsOk; kernel_rfl
theorem ba_slotArgs_getitem (a b : Value) : slotArgs "__getitem__" 1 ⟨[a, b], []⟩ = pure (a, [b]) := by kernel_rfl

/-- data[lo:hi]: a new bytearray -/
theorem getItem_ba_slice {E : Value → Shared → Prop} {y sl : Addr} {b : Array UInt8} {l u : Value} {lo hi : Option Int} {Q : Value → Shared → Prop} (hy : s.heap.get? y = some (baObj b)) (hs : s.heap.IsSliceOf sl l u .none) (hl : IsPart l lo) (hu : IsPart u hi)
    (hz : b.size ≤ sizeLine) (h : Q (.ref s.heap.objs.size) { s with heap := s.heap.push (baObj (KBy.picked b lo hi)) }) : wpAny (model prog w) A (getItem (.ref y) (.ref sl)) Q E s := by
  refine wpAny_getItem_slot (typeIs_ba hy) (by decide) ba_slot_getitem (wpAny_call_entry ba_slot_getitem (typeIs_ba hy) ba_entry_getitem ?_ (ba_args_getitem _ _))
  unfold Builtin.«bytearray.__getitem__»
  refine wpAny_bind (wpAny_of_eq (ba_slotArgs_getitem _ _) ?_)
  dsimp only
  refine wpAny_bind (subscript_slice hs ?_)
  dsimp only
  refine wpAny_bind (wpAny_typeOf (slice_typeIs hs) ?_)
  refine wpAny_ite ?_
  rw [if_neg (by decide)]
  refine wpAny_bind (sliceParts_ok hs hl hu ?_)
  dsimp only
  refine wpAny_bind (payload_ba hy ?_)
  refine wpAny_bind (wpAny_of_eq (sliceIndices_raw lo hi none b.size (fun e => nomatch e)) ?_)
  have hp : (KBy.picked b lo hi).size ≤ sizeLine := Nat.le_trans (KBc.size_picked_le b lo hi) hz
  refine wpAny_bind (wpAny_newObj_type (wpAny_pure ⟨_, rfl, h⟩) hp)

theorem extract_lo (b : Array UInt8) (k : Nat) : b.extract 0 (min k b.size) = b.extract 0 k := by
  apply Array.ext'
  simp only [Array.toList_extract, List.extract_eq_take_drop, Nat.sub_zero, List.drop_zero]
  rw [← Array.length_toList, ← List.take_take]
  rw [List.take_of_length_le (Nat.le_refl _)]
theorem extract_hi (b : Array UInt8) (k : Nat) : b.extract (min k b.size) b.size = b.extract k b.size := by
  by_cases h : k ≤ b.size
  · rw [Nat.min_eq_left h]
  · rw [Nat.min_eq_right (by omega)]
    rw [Array.extract_eq_empty_of_le (by omega), Array.extract_eq_empty_of_le (by omega)]

/-- data[p:q] = octets -/
theorem setItem_ba_slice {y sl : Addr} {b c : Array UInt8} {t t1 t2 : Tok} {p q : Int} {Q : Unit → Shared → Prop} (hg : A.guards = some []) (hy : s.heap.get? y = some (baObj b)) (hs : s.heap.IsSliceOf sl (.int p t1) (.int q t2) .none)
    (hp : 0 ≤ p) (hq : p ≤ q) (hz : b.size + c.size ≤ sizeLine)
    (h : ∀ h', h'.get? y = some (baObj (b.extract 0 p.toNat ++ c ++ b.extract q.toNat b.size)) → (∀ a o, a ≠ y → s.heap.get? a = some o → h'.get? a = some o) → Q () { s with heap := h' }) :
    wpC (model prog w) A (setItem (.ref y) (.ref sl) (.bytes c t)) Q s := by
  have hT := typeIs_ba hy
  unfold setItem
  refine wpC_holding ?_
  refine wpC_bind_any (wpAny_sequenceKey hT (by decide) ?_)
  refine wpC_bind (wpC_callSpecial_slot hT ba_slot_setitem ?_)
  refine wpC_call (codeC_call_builtin ba_slot_setitem.plain (dec_setitem _) ba_entry_setitem (ba_slot_setitem.check _ _ _ _ _ _ _ _ hT (ba_args_setitem _ _ _) ?_))
  unfold Builtin.«bytearray.__setitem__»
  dsimp only
  refine wpC_neg (by simp) ?_
  refine wpC_bind_any (subscript_slice hs ?_)
  dsimp only
  refine wpC_bind_any (wpAny_typeOf (slice_typeIs hs) ?_)
  refine wpC_neg (by decide) ?_
  refine wpC_bind_any (sliceParts_ok hs (.int p t1) (.int q t2) ?_)
  dsimp only
  refine wpC_neg (by simp [PySem.Builtin.Bytes.sameRef]) ?_
  refine wpC_bind_any (wpAny_isInstance (typeIs_by s c t) by_ba ?_)
  refine wpC_pos (by simp) ?_
  refine wpC_bind_any (wpAny_bind (wpAny_bind (wpAny_specialOf (typeIs_by s c t) by_index (wpAny_pure ?_))))
  refine wpAny_bind (wpAny_bind (wpAny_specialOf (typeIs_by s c t) by_int (wpAny_pure ?_)))
  refine wpAny_bind (wpAny_bind (wpAny_specialOf (typeIs_by s c t) by_float (wpAny_pure ?_)))
  refine wpAny_isInstance (typeIs_by s c t) by_complex ?_
  refine wpC_bind_any (asStr_buf (.inr ⟨t, rfl⟩) ?_)
  refine wpC_neg (by simp) ?_
  refine wpC_rule ?_
  refine wpC_bind (call_bytearray_buf (A := A.in1) hg (.inr ⟨t, rfl⟩) (by omega) fun h₁ hy₁ hk₁ => ?_)
  have hne : y ≠ s.heap.objs.size := fun e => absurd (Heap.lt_size hy) (e ▸ Nat.lt_irrefl _)
  obtain ⟨os, hos, hcs, hds⟩ := id hs
  have hs₁ : h₁.IsSliceOf sl (.int p t1) (.int q t2) .none := ⟨os, hk₁ _ _ hos, hcs, hds⟩
  refine wpC_bind_any (wpAny_holding (sliceParts_ok (s := { s with heap := h₁ }) hs₁ (.int p t1) (.int q t2) ?_))
  refine wpC_bind_any (payload_ba (s := { s with heap := h₁ }) hy₁ ?_)
  have hyy : h₁.get? y = some (baObj b) := hk₁ _ _ hy
  refine wpC_bind_any (payload_ba (s := { s with heap := h₁ }) hyy ?_)
  refine wpC_bind_any (wpAny_of_eq (sliceIndices_raw (some p) (some q) none b.size (fun e => nomatch e)) ?_)
  have hb : sliceBounds (some p) (some q) none b.size = (((min p.toNat b.size : Nat) : Int), ((min q.toNat b.size : Nat) : Int), 1) := by
    simp only [sliceBounds, Option.getD_none, if_neg (show ¬ p < 0 by omega), if_neg (show ¬ q < 0 by omega)]
    simp only [show (1 : Int) > 0 from by decide, if_true, Prod.mk.injEq, and_true]
    constructor <;> omega
  rw [hb]
  dsimp only
  refine wpC_pos (by decide) ?_
  refine wpC_rule ?_
  have e1 : ((min p.toNat b.size : Nat) : Int).toNat = min p.toNat b.size := Int.toNat_natCast _
  have e2 : (max ((min p.toNat b.size : Nat) : Int) ((min q.toNat b.size : Nat) : Int)).toNat = min q.toNat b.size := by omega
  have ew : b.extract 0 ((min p.toNat b.size : Nat) : Int).toNat ++ c ++ b.extract (max ((min p.toNat b.size : Nat) : Int) ((min q.toNat b.size : Nat) : Int)).toNat b.size = b.extract 0 p.toNat ++ c ++ b.extract q.toNat b.size := by
    rw [e1, e2, extract_lo, extract_hi]
  have last : wpC (model prog w) A.in1 (PySem.Builtin.Bytes.write (.ref y) (fun b' : Array UInt8 => b'.extract 0 ((min p.toNat b.size : Nat) : Int).toNat ++ c ++ b'.extract (max ((min p.toNat b.size : Nat) : Int) ((min q.toNat b.size : Nat) : Int)).toNat b'.size) >>= fun _ => ret .none)
      (finOf prog w A (retOf fun v s' => wpC (model prog w) A (pure ()) Q s')) { s with heap := h₁ } := by
    refine wpC_bind_any (write_ba (s := { s with heap := h₁ }) (b := b) hyy ?_ (wpC_pure (wpC_pure (h _ ?_ ?_))))
    · rw [ew]
      simp only [Array.size_append, Array.size_extract]
      omega
    · have := Heap.get?_update_self (Obj.mapBytearray (fun b' : Array UInt8 => b'.extract 0 ((min p.toNat b.size : Nat) : Int).toNat ++ c ++ b'.extract (max ((min p.toNat b.size : Nat) : Int) ((min q.toNat b.size : Nat) : Int)).toNat b'.size)) hyy rfl
      rw [← ew]
      exact this
    · intro a o ha e
      exact (Heap.get?_update_ne _ _ _ _ ha).trans (hk₁ a o e)
  by_cases hr : (c.size : Int) = max ((min p.toNat b.size : Nat) : Int) ((min q.toNat b.size : Nat) : Int) - ((min p.toNat b.size : Nat) : Int)
  · exact wpC_neg (by simp [hr]) last
  · exact wpC_pos (by simpa using hr) (wpC_bind (checkResize_ba (s := { s with heap := h₁ }) (A := A.in1) hg hyy last))
end
end Aq
-- part AqF
open PySem PySem.W PyProof.Rows
set_option Elab.async false
set_option maxRecDepth 100000
set_option linter.deprecated false
namespace Aq
open PySem PySem.W PySem.Calls PyProof.Rows PySem.Spec

/-- the six formats and their fields' sizes -/
inductive IsForm : Str → List Nat → Prop
  | b : IsForm (Str.ofString "!B") [1]
  | h : IsForm (Str.ofString "!H") [2]
  | hh : IsForm (Str.ofString "!HH") [2, 2]
  | hhi : IsForm (Str.ofString "!HHI") [2, 2, 4]
  | bb : IsForm (Str.ofString "!BB") [1, 1]
  | hbb : IsForm (Str.ofString "!HBB") [2, 1, 1]

def charOf : Nat → Char
  | 1 => 'B'
  | 2 => 'H'
  | _ => 'I'
def codesFrom : Nat → List Nat → List PySem.Builtin.Struct.Code
  | _, [] => []
  | at_, z :: r => ⟨charOf z, 1, at_, z⟩ :: codesFrom (at_ + z) r
def fmtOf (zs : List Nat) : PySem.Builtin.Struct.Format := { bigEndian := true, native := false, codes := codesFrom 0 zs, size := zs.sum, items := zs.length }

theorem moduleFormat_form {fs : Str} {zs : List Nat} (hf : IsForm fs zs) (t : Tok) : PySem.Builtin.Struct.moduleFormat (.str fs t) = pure (fmtOf zs) := by
  cases hf <;> kernel_rfl

theorem cs_kind : builtinKind "_struct.calcsize" = none := by decide +kernel
theorem cs_plain : plainId "_struct.calcsize" = true := by decide +kernel
theorem cs_entry : entryFor table "_struct.calcsize" = some Builtin.«_struct.calcsize» := by first | exact entryFor_of_fast (by kernel_rfl) | exact entryFor_of_tree (by kernel_rfl)
theorem cs_args (a : Value) : argsOk "_struct.calcsize" ⟨[a], []⟩ := by unfold argsOk; kernel_rfl
theorem pk_kind : builtinKind "_struct.pack" = none := by decide +kernel
theorem pk_plain : plainId "_struct.pack" = true := by decide +kernel
theorem pk_entry : entryFor table "_struct.pack" = some Builtin.«_struct.pack» := by first | exact entryFor_of_fast (by kernel_rfl) | exact entryFor_of_tree (by kernel_rfl)
theorem pk_args (l : List Value) : argsOk "_struct.pack" ⟨l, []⟩ := by unfold argsOk; kernel_rfl
theorem up_kind : builtinKind "_struct.unpack" = none := by decide +kernel
theorem up_plain : plainId "_struct.unpack" = true := by decide +kernel
theorem up_entry : entryFor table "_struct.unpack" = some Builtin.«_struct.unpack» := by first | exact entryFor_of_fast (by kernel_rfl) | exact entryFor_of_tree (by kernel_rfl)
theorem up_args (a b : Value) : argsOk "_struct.unpack" ⟨[a, b], []⟩ := by unfold argsOk; kernel_rfl

section
variable {prog : Program} {w : World} {A : Around} {E : Value → Shared → Prop} {s : Shared}

theorem calcsize_form {fs : Str} {zs : List Nat} {t : Tok} {Q : Value → Shared → Prop} (hf : IsForm fs zs) (h : Q (.int (zs.sum : Nat) s.toks) { s with toks := s.toks + 1 }) :
    wpAny (model prog w) A (call (.builtin "_struct.calcsize") [.str fs t]) Q E s := by
  refine Calls.call_function_entry cs_kind cs_plain cs_entry (cs_args _) ?_
  unfold Builtin.«_struct.calcsize»
  refine wpAny_bind (wpAny_of_eq (a := .str fs t) rfl ?_)
  refine wpAny_bind (wpAny_of_eq (moduleFormat_form hf t) ?_)
  exact wpAny_ret_mkInt h
end
end Aq
-- part AqG
open PySem PySem.W PyProof.Rows
set_option Elab.async false
set_option maxRecDepth 100000
set_option linter.deprecated false
namespace Aq
open PySem PySem.W PySem.Calls PyProof.Rows PySem.Spec

/-- a number's octets, most significant first -/
def octs (z : Nat) (n : Int) : List Int := (List.range z).map fun j => (n.fdiv (256 ^ (z - 1 - j))).fmod 256
def wireL : List Int → List Nat → List Int
  | n :: ns, z :: zs => octs z n ++ wireL ns zs
  | _, _ => []
inductive FitAll : List Int → List Nat → Prop
  | nil : FitAll [] []
  | cons {n : Int} {z : Nat} {ns : List Int} {zs : List Nat} : 0 ≤ n → n < 256 ^ z → FitAll ns zs → FitAll (n :: ns) (z :: zs)


theorem wireL_snoc {ms : List Int} {ds : List Nat} (hl : ms.length = ds.length) (n : Int) (z : Nat) : wireL (ms ++ [n]) (ds ++ [z]) = wireL ms ds ++ octs z n := by
  induction ms generalizing ds with
  | nil =>
    cases ds with
    | nil => simp [wireL]
    | cons _ _ => cases hl
  | cons m ms ih =>
    cases ds with
    | nil => cases hl
    | cons d ds =>
      simp only [List.cons_append, wireL]
      rw [ih (by simpa using hl), List.append_assoc]

theorem octs_length (z : Nat) (n : Int) : (octs z n).length = z := by simp [octs]

theorem place_app (raw : List UInt8) (pre : Array UInt8) (P i m : Nat) (hp : pre.size = P + i) :
    (raw.zipIdx i).foldl (fun out (x : UInt8 × Nat) => out.setIfInBounds (P + x.2) x.1) (pre ++ Array.replicate (raw.length + m) 0) = pre ++ raw.toArray ++ Array.replicate m 0 := by
  induction raw generalizing pre i with
  | nil => simp
  | cons c r ih =>
    rw [List.zipIdx_cons, List.foldl_cons]
    have e : (pre ++ Array.replicate ((c :: r).length + m) 0).setIfInBounds (P + i) c = pre.push c ++ Array.replicate (r.length + m) 0 := by
      apply Array.ext'
      simp only [Array.toList_setIfInBounds, Array.toList_append, Array.toList_replicate, Array.toList_push, List.length_cons]
      have hq : pre.toList.length = P + i := by rw [Array.length_toList, hp]
      rw [List.set_append, if_neg (by omega), hq, Nat.sub_self]
      rw [show r.length + 1 + m = (r.length + m) + 1 by omega, List.replicate_succ, List.set_cons_zero]
      simp
    show List.foldl _ ((pre ++ Array.replicate ((c :: r).length + m) 0).setIfInBounds (P + i) c) _ = _
    rw [e, ih (pre.push c) (i + 1) (by rw [Array.size_push]; omega)]
    apply Array.ext'
    simp

theorem byteArr_append (a b : List Int) : byteArr (a ++ b) = byteArr a ++ byteArr b := by simp [byteArr]

theorem intBytes_octs {n : Int} {z : Nat} (hz : z = 1 ∨ z = 2 ∨ z = 4) (h0 : 0 ≤ n) (h1 : n < 256 ^ z) : PySem.Builtin.Struct.intBytes true z n = byteArr (octs z n) := by
  rcases hz with rfl | rfl | rfl <;>
    simp [PySem.Builtin.Struct.intBytes, PySem.Builtin.Memoryview.toLittleEndian, byteArr, octs, List.range, List.range.loop]
  all_goals
    simp only [Int.fdiv_eq_ediv_of_nonneg n (show (0 : Int) ≤ 256 by decide), Int.fdiv_eq_ediv_of_nonneg n (show (0 : Int) ≤ 65536 by decide), Int.fdiv_eq_ediv_of_nonneg n (show (0 : Int) ≤ 16777216 by decide),
      Int.fmod_eq_emod_of_nonneg _ (show (0 : Int) ≤ 256 by decide)]
  · exact congrArg UInt8.ofNat (by omega)
  · exact ⟨congrArg UInt8.ofNat (by omega), congrArg UInt8.ofNat (by omega)⟩
  · exact ⟨congrArg UInt8.ofNat (by omega), congrArg UInt8.ofNat (by omega), congrArg UInt8.ofNat (by omega), congrArg UInt8.ofNat (by omega)⟩

/-- what one field's turn of the packing does -/
theorem pack_turn {ds zr : List Nat} {ms : List Int} {z : Nat} {n : Int} {out : Array UInt8} (hl : ms.length = ds.length) (hz : z = 1 ∨ z = 2 ∨ z = 4) (h0 : 0 ≤ n) (h1 : n < 256 ^ z) (e4 : (wireL ms ds).length = ds.sum)
    (e5 : out = byteArr (wireL ms ds) ++ Array.replicate (z :: zr).sum 0) :
    (PySem.Builtin.Struct.intBytes true z n).toList.zipIdx.foldl (fun out (x : UInt8 × Nat) => out.setIfInBounds (ds.sum + 0 * z + x.2) x.1) out = byteArr (wireL (ms ++ [n]) (ds ++ [z])) ++ Array.replicate zr.sum 0 := by
  rw [intBytes_octs hz h0 h1, wireL_snoc hl, byteArr_append, e5]
  have hlen : (byteArr (octs z n)).toList.length = z := by rw [Array.length_toList, byteArr_size, octs_length]
  have := place_app (byteArr (octs z n)).toList (byteArr (wireL ms ds)) ds.sum 0 zr.sum (by rw [byteArr_size, e4, Nat.add_zero])
  rw [hlen] at this
  simp only [Nat.zero_mul, Nat.add_zero, List.sum_cons]
  rw [this, Array.toArray_toList]

section
variable {prog : Program} {w : World} {A : Around} {E : Value → Shared → Prop} {s : Shared}
theorem pack_form {fs : Str} {zs : List Nat} {t : Tok} {vs : List Value} {ns : List Int} {Q : Value → Shared → Prop} (hf : IsForm fs zs) (hi : IntsAre vs ns) (hr : FitAll ns zs)
    (h : ∀ k u, Q (.bytes (byteArr (wireL ns zs)) k) { s with toks := u }) :
    wpAny (model prog w) A (call (.builtin "_struct.pack") (.str fs t :: vs)) Q E s := by
  refine Calls.call_function_entry pk_kind pk_plain pk_entry (pk_args _) ?_
  unfold Builtin.«_struct.pack»
  refine wpAny_bind (wpAny_of_eq (a := ()) rfl ?_)
  dsimp only
  refine wpAny_bind (wpAny_of_eq (moduleFormat_form hf t) ?_)
  unfold PySem.Builtin.Struct.packed PySem.Builtin.Struct.packEach
  have hlen : vs.length = ns.length := hi.length
  have hl2 : ns.length = zs.length := by
    clear h hi hlen hf
    induction hr with
    | nil => rfl
    | cons _ _ _ ih => simp [ih]
  refine wpAny_ite ?_
  rw [if_neg (by simp [fmtOf, hlen, hl2])]
  refine wpAny_ite ?_
  rw [if_neg (by cases hf <;> decide)]
  refine wpAny_bind (wpAny_bind ?_)
  have hz : ∀ z ∈ zs, z = 1 ∨ z = 2 ∨ z = 4 := by cases hf <;> decide
  have hsum : zs.sum ≤ sizeLine := by cases hf <;> decide
  refine wpAny_forIn_list _ (fun cs st s' => s' = s ∧ ∃ (ds : List Nat) (ms : List Int) (zr : List Nat) (nr : List Int), ms.length = ds.length ∧ zs = ds ++ zr ∧ wireL ns zs = wireL ms ds ++ wireL nr zr ∧ cs = codesFrom ds.sum zr ∧ (wireL ms ds).length = ds.sum ∧
      IntsAre st.2 nr ∧ FitAll nr zr ∧ st.1 = byteArr (wireL ms ds) ++ Array.replicate zr.sum 0) _ ?_ ?_ _ _ ⟨rfl, [], [], zs, ns, rfl, rfl, rfl, rfl, rfl, hi, hr, by simp [byteArr, wireL, fmtOf]⟩
  · rintro c cs ⟨out, rest⟩ s' ⟨rfl, ds, ms, zr, nr, e0, e1, e2, e3, e4, hi', hr', e5⟩
    cases hr' with
    | nil => cases e3
    | @cons n z nr zr h0 h1 hr' =>
      cases hi' with
      | cons _ u hi' =>
        simp only [codesFrom, List.cons.injEq] at e3
        obtain ⟨rfl, rfl⟩ := e3
        have hz' := hz z (by rw [e1]; simp)
        rcases hz' with rfl | rfl | rfl
        all_goals
          simp only [charOf]
          refine wpAny_ite ?_
          rw [if_neg (by decide)]
          refine wpAny_ite ?_
          rw [if_neg (by decide)]
          refine wpAny_bind ?_
          rw [Std.Legacy.Range.forIn_eq_forIn_range', show List.range' _ _ _ = [0] from rfl, List.forIn_cons]
          try dsimp only
          refine wpAny_bind (wpAny_bind ?_)
          wp_delta
          refine wpAny_bind (wpAny_attempt ?_)
          wp_delta
          refine wpAny_bind (wpAny_of_eq (a := some n) rfl ?_)
          refine wpAny_pure ?_
          try dsimp only
          refine wpAny_bind (wpAny_pure ?_)
          try dsimp only
          refine wpAny_ite ?_
          rw [if_neg (by
            simp only [show Char.isLower 'B' = false from by decide, show Char.isLower 'H' = false from by decide, show Char.isLower 'I' = false from by decide, Bool.false_eq_true, if_false, Bool.or_eq_true, decide_eq_true_eq]
            omega)]
          refine wpAny_pure ?_
          refine wpAny_bind (wpAny_pure (wpAny_pure ?_))
          try dsimp only
          rw [List.forIn_nil]
          refine wpAny_pure (wpAny_pure ?_)
          try dsimp only
        · exact ⟨rfl, ds ++ [1], ms ++ [n], zr, nr, by simp [e0], by rw [e1]; simp, by rw [e2, wireL_snoc e0, wireL, List.append_assoc], by simp, by rw [wireL_snoc e0, List.length_append, octs_length, e4]; simp, hi', hr', pack_turn e0 (by decide) h0 h1 e4 e5⟩
        · exact ⟨rfl, ds ++ [2], ms ++ [n], zr, nr, by simp [e0], by rw [e1]; simp, by rw [e2, wireL_snoc e0, wireL, List.append_assoc], by simp, by rw [wireL_snoc e0, List.length_append, octs_length, e4]; simp, hi', hr', pack_turn e0 (by decide) h0 h1 e4 e5⟩
        · exact ⟨rfl, ds ++ [4], ms ++ [n], zr, nr, by simp [e0], by rw [e1]; simp, by rw [e2, wireL_snoc e0, wireL, List.append_assoc], by simp, by rw [wireL_snoc e0, List.length_append, octs_length, e4]; simp, hi', hr', pack_turn e0 (by decide) h0 h1 e4 e5⟩
  · rintro ⟨out, rest⟩ s' ⟨rfl, ds, ms, zr, nr, e0, e1, e2, e3, e4, hi', hr', e5⟩
    cases zr with
    | cons _ _ => cases e3
    | nil =>
      have : wireL nr [] = [] := by cases nr <;> rfl
      rw [this, List.append_nil] at e2
      simp only [List.sum_nil, Array.replicate_zero, Array.append_empty] at e5
      subst e5
      rw [← e2]
      refine wpAny_pure (wpAny_bind (wpAny_mkBytes (wpAny_pure ⟨_, rfl, h _ _⟩) ?_))
      rw [byteArr_size, e2, e4]
      rw [List.append_nil] at e1
      rw [← e1]
      exact hsum
end
end Aq
-- part AqU
open PySem PySem.W PyProof.Rows
set_option Elab.async false
set_option maxRecDepth 100000
set_option linter.deprecated false
namespace Aq
open PySem PySem.W PySem.Calls PyProof.Rows PySem.Spec

/-- the number that octets tell, most significant first -/
def natBE (l : List Int) : Int := l.foldl (fun a x => a * 256 + x) 0
def readL : List Int → List Nat → List Int
  | os, z :: zs => natBE (os.take z) :: readL (os.drop z) zs
  | _, [] => []

theorem bInts_extract (b : Array UInt8) (i j : Nat) : KBw.bInts (b.extract i j) = ((KBw.bInts b).drop i).take (j - i) := by
  show (b.extract i j).toList.map _ = ((b.toList.map _).drop i).take (j - i)
  rw [Array.toList_extract, List.extract_eq_take_drop, List.map_take, List.map_drop]

theorem foldr_rev (l : List UInt8) : ∀ a : Nat, ((l.foldl (fun n c => n * 256 + c.toNat) a : Nat) : Int) = (l.map fun c => (c.toNat : Int)).foldl (fun a x => a * 256 + x) (a : Int) := by
  induction l with
  | nil => intro a; rfl
  | cons c r ih =>
    intro a
    simp only [List.foldl_cons, List.map_cons]
    rw [ih]
    congr 1

theorem natOf_be (b : Array UInt8) : ((PySem.Builtin.Struct.natOf true b : Nat) : Int) = natBE (KBw.bInts b) := by
  unfold PySem.Builtin.Struct.natOf PySem.Builtin.Memoryview.littleEndian
  rw [if_pos rfl, Array.foldr_reverse, ← Array.foldl_toList, foldr_rev]
  rfl

theorem ints_snoc {vs : List Value} {ns : List Int} (h : IntsAre vs ns) (n : Int) (t : Tok) : IntsAre (vs ++ [.int n t]) (ns ++ [n]) := by
  induction h with
  | nil => exact .cons n t .nil
  | cons m u _ ih => exact .cons m u ih

theorem unpack_turn {zs ds zr : List Nat} {rs : List Int} {b : Array UInt8} {z : Nat} {out : Array Value} {u : Tok} (e1 : zs = ds ++ z :: zr) (el : rs.length = ds.length) (e2 : readL (KBw.bInts b) zs = rs ++ readL ((KBw.bInts b).drop ds.sum) (z :: zr)) (hi : IntsAre out.toList rs) :
    ∃ (ds' zr' : List Nat) (rs' : List Int), zs = ds' ++ zr' ∧ rs'.length = ds'.length ∧ readL (KBw.bInts b) zs = rs' ++ readL ((KBw.bInts b).drop ds'.sum) zr' ∧ codesFrom (ds.sum + z) zr = codesFrom ds'.sum zr' ∧
      IntsAre (out.push (.int ((PySem.Builtin.Struct.natOf true (b.extract (0 + ds.sum + 0 * z) (0 + ds.sum + (0 + 1) * z)) : Nat) : Int) u)).toList rs' := by
  refine ⟨ds ++ [z], zr, rs ++ [natBE (((KBw.bInts b).drop ds.sum).take z)], by rw [e1]; simp, by simp [el], ?_, by simp, ?_⟩
  · rw [e2, readL, List.append_assoc]
    simp only [List.sum_append, List.sum_cons, List.sum_nil, Nat.add_zero, List.cons_append, List.nil_append, List.drop_drop]
  · rw [Array.toList_push, natOf_be, bInts_extract]
    have e : natBE (((KBw.bInts b).drop (0 + ds.sum + 0 * z)).take (0 + ds.sum + (0 + 1) * z - (0 + ds.sum + 0 * z))) = natBE (((KBw.bInts b).drop ds.sum).take z) := by
      simp only [Nat.zero_add, Nat.zero_mul, Nat.add_zero, Nat.one_mul, Nat.add_sub_cancel_left]
    rw [e]
    exact ints_snoc hi _ _

section
variable {prog : Program} {w : World} {A : Around} {E : Value → Shared → Prop} {s : Shared}
theorem unpack_form {fs : Str} {zs : List Nat} {t tb : Tok} {b : Array UInt8} {Q : Value → Shared → Prop} (hf : IsForm fs zs) (hb : b.size = zs.sum)
    (h : ∀ vs k, IntsAre vs (readL (KBw.bInts b) zs) → Q (.ref s.heap.objs.size) { s with heap := s.heap.push { cls := .type "tuple", data := .seq vs.toArray }, toks := k }) :
    wpAny (model prog w) A (call (.builtin "_struct.unpack") [.str fs t, .bytes b tb]) Q E s := by
  refine Calls.call_function_entry up_kind up_plain up_entry (up_args _ _) ?_
  unfold Builtin.«_struct.unpack»
  refine wpAny_bind (wpAny_of_eq (a := ()) rfl ?_)
  refine wpAny_bind (wpAny_of_eq (a := ()) rfl ?_)
  dsimp only
  refine wpAny_bind (wpAny_of_eq (moduleFormat_form hf t) ?_)
  unfold PySem.Builtin.Struct.unpackExact
  refine wpAny_bind ?_
  unfold PySem.Builtin.Bytes.bytesLike
  refine wpAny_bind (buffer_at (.inr ⟨tb, rfl⟩) ?_)
  refine wpAny_pure ?_
  refine wpAny_bind (wpAny_pure ?_)
  refine wpAny_ite ?_
  rw [if_neg (by simp [fmtOf, hb])]
  refine wpAny_bind ?_
  unfold PySem.Builtin.Struct.unpacked
  refine wpAny_bind ?_
  have hz : ∀ z ∈ zs, z = 1 ∨ z = 2 ∨ z = 4 := by cases hf <;> decide
  have hlen : zs.length ≤ sizeLine := by cases hf <;> decide
  refine wpAny_forIn_list _ (fun cs (out : Array Value) s' => (∃ k, s' = { s with toks := k }) ∧ ∃ (ds zr : List Nat) (rs : List Int), zs = ds ++ zr ∧ rs.length = ds.length ∧ readL (KBw.bInts b) zs = rs ++ readL ((KBw.bInts b).drop ds.sum) zr ∧ cs = codesFrom ds.sum zr ∧ IntsAre out.toList rs) _ ?_ ?_ _ _
    ⟨⟨s.toks, rfl⟩, [], zs, [], rfl, rfl, rfl, rfl, .nil⟩
  · rintro c cs out s' ⟨⟨k, rfl⟩, ds, zr, rs, e1, el, e2, e3, hi⟩
    cases zr with
    | nil => cases e3
    | cons z zr =>
      simp only [codesFrom, List.cons.injEq] at e3
      obtain ⟨rfl, rfl⟩ := e3
      have hz' := hz z (by rw [e1]; simp)
      rcases hz' with rfl | rfl | rfl
      all_goals
        simp only [charOf]
        refine wpAny_ite ?_
        rw [if_neg (by decide)]
        rw [Std.Legacy.Range.forIn_eq_forIn_range', show List.range' _ _ _ = [0] from rfl, List.forIn_cons]
        refine wpAny_bind (wpAny_bind ?_)
        refine wpAny_bind (m := mkInt _) (wpAny_mkInt (wpAny_pure ?_))
        dsimp only
        rw [List.forIn_nil]
        refine wpAny_pure (wpAny_pure ⟨⟨_, rfl⟩, ?_⟩)
        rw [if_neg (by
          simp only [show Char.isLower 'B' = false from by decide, show Char.isLower 'H' = false from by decide, show Char.isLower 'I' = false from by decide, Bool.false_and]
          exact Bool.false_ne_true)]
        exact unpack_turn e1 el e2 hi
  · rintro out s' ⟨⟨k, rfl⟩, ds, zr, rs, e1, el, e2, e3, hi⟩
    cases zr with
    | cons _ _ => cases e3
    | nil =>
      have : readL ((KBw.bInts b).drop ds.sum) [] = [] := by unfold readL; rfl
      rw [this, List.append_nil] at e2
      rw [List.append_nil] at e1
      refine wpAny_newObj_type (wpAny_pure ⟨_, rfl, ?_⟩) ?_
      · have h9 := h out.toList k (e2 ▸ hi)
        rw [Array.toArray_toList] at h9
        exact h9
      · show out.toList.toArray.size ≤ sizeLine
        rw [List.size_toArray, hi.length, el, ← e1]
        exact hlen
end
end Aq
-- part AqI
open PySem PySem.W PyProof.Rows
set_option Elab.async false
set_option maxRecDepth 100000
set_option linter.deprecated false
namespace Aq
open PySem PySem.W PySem.Calls PyProof.Rows PySem.Spec

theorem bi_slot_next : Slot "bytearray_iterator" "__next__" "bytearray_iterator.__next__" :=
  .of (owner := "bytearray_iterator") (n := "__next__") (by rw [typeLookup_type, builtinLookup_eq_fast]; kernel_rfl) (by decide +kernel) (by decide +kernel) (by decide +kernel)
    (by first | exact .inl (by decide +kernel) | exact .inr (by decide +kernel)) (by rw [isSubtype_type]; kernel_rfl)
theorem bi_slot_self : Slot "bytearray_iterator" "__iter__" "bytearray_iterator.__iter__" :=
  .of (owner := "bytearray_iterator") (n := "__iter__") (by rw [typeLookup_type, builtinLookup_eq_fast]; kernel_rfl) (by decide +kernel) (by decide +kernel) (by decide +kernel)
    (by first | exact .inl (by decide +kernel) | exact .inr (by decide +kernel)) (by rw [isSubtype_type]; kernel_rfl)
theorem bi_entry_next : entryFor table "bytearray_iterator.__next__" = some Builtin.«bytearray_iterator.__next__» := by first | exact entryFor_of_fast (by kernel_rfl) | exact entryFor_of_tree (by kernel_rfl)
theorem bi_entry_self : entryFor table "bytearray_iterator.__iter__" = some Builtin.«dict_keyiterator.__iter__» :=
  entryFor_alias (id' := "dict_keyiterator.__iter__") (by kernel_rfl) (by first | rfl | decide +kernel) (by decide +kernel) (by kernel_rfl)
theorem bi_args_next (a : Value) : argsOk "bytearray_iterator.__next__" ⟨[a], []⟩ := by unfold argsOk; kernel_rfl
theorem bi_args_self (a : Value) : argsOk "bytearray_iterator.__iter__" ⟨[a], []⟩ := by unfold argsOk; kernel_rfl
theorem ba_slot_iter : Slot "bytearray" "__iter__" "bytearray.__iter__" :=
  .of (owner := "bytearray") (n := "__iter__") (by rw [typeLookup_type, builtinLookup_eq_fast]; kernel_rfl) (by decide +kernel) (by decide +kernel) (by decide +kernel)
    (by first | exact .inl (by decide +kernel) | exact .inr (by decide +kernel)) ba_sub
theorem ba_entry_iter : entryFor table "bytearray.__iter__" = some Builtin.«bytearray.__iter__» := by first | exact entryFor_of_fast (by kernel_rfl) | exact entryFor_of_tree (by kernel_rfl)
theorem ba_args_iter (a : Value) : argsOk "bytearray.__iter__" ⟨[a], []⟩ := by unfold argsOk; kernel_rfl
theorem ba_slot_len : Slot "bytearray" "__len__" "bytearray.__len__" :=
  .of (owner := "bytearray") (n := "__len__") (by rw [typeLookup_type, builtinLookup_eq_fast]; kernel_rfl) (by decide +kernel) (by decide +kernel) (by decide +kernel)
    (by first | exact .inl (by decide +kernel) | exact .inr (by decide +kernel)) ba_sub
theorem ba_entry_len : entryFor table "bytearray.__len__" = some Builtin.«bytearray.__len__» := by first | exact entryFor_of_fast (by kernel_rfl) | exact entryFor_of_tree (by kernel_rfl)
theorem ba_args_len (a : Value) : argsOk "bytearray.__len__" ⟨[a], []⟩ := by unfold argsOk; kernel_rfl

def IsBaIter (h : Heap) (a y : Addr) (i : Nat) : Prop := ∃ o, h.get? a = some o ∧ o.cls = .type "bytearray_iterator" ∧ o.data = .fields #[.ref y, .int i 0]
theorem bi_typeIs {s : Shared} {a y : Addr} {i : Nat} (x : IsBaIter s.heap a y i) : s.TypeIs (.ref a) "bytearray_iterator" := let ⟨o, ho, hc, _⟩ := x; ⟨o, ho, hc⟩

section
variable {prog : Program} {w : World} {A : Around} {E : Value → Shared → Prop} {s : Shared} {b : Array UInt8} {y : Addr}

theorem pyIter_ba {Q : Value → Shared → Prop} (hy : s.heap.get? y = some (baObj b)) (hQ : Q (.ref s.heap.objs.size) { s with heap := s.heap.push { cls := .type "bytearray_iterator", data := .fields #[.ref y, .int 0 0] } }) :
    wpAny (model prog w) A (pyIter (.ref y)) Q E s := by
  refine wpAny_pyIter_slot (typeIs_ba hy) ba_slot_iter (wpAny_call_entry ba_slot_iter (typeIs_ba hy) ba_entry_iter ?_ (ba_args_iter _))
  show wpAny _ _ (do ret (← newFields "bytearray_iterator" [.ref y, rawInt 0])) _ _ s
  exact wpAny_bind (wpAny_newObj_type (wpAny_pure ⟨_, rfl, "bytearray_iterator", _, ⟨_, Heap.get?_push_size _ rfl, rfl⟩, bi_slot_next.lookup, hQ⟩))

theorem pyIter_bi {it : Addr} {i : Nat} {Q : Value → Shared → Prop} (hit : IsBaIter s.heap it y i) (h : Q (.ref it) s) : wpAny (model prog w) A (pyIter (.ref it)) Q E s := by
  refine wpAny_pyIter_slot (bi_typeIs hit) bi_slot_self (wpAny_call_entry bi_slot_self (bi_typeIs hit) bi_entry_self ?_ (bi_args_self _))
  show wpAny _ _ (ret (.ref it)) _ _ s
  exact wpAny_pure ⟨_, rfl, "bytearray_iterator", _, bi_typeIs hit, bi_slot_next.lookup, h⟩

theorem ba_next_item {it : Addr} {i : Nat} {c : UInt8} {Q : Option Value → Shared → Prop} (hit : IsBaIter s.heap it y i) (hy : s.heap.get? y = some (baObj b)) (hx : b[i]? = some c)
    (hQ : ∀ h', IsBaIter h' it y (i + 1) → Heap.SameBut it s.heap h' → Q (some (.int (c.toNat : Int) s.toks)) { s with heap := h', toks := s.toks + 1 }) : wpAny (model prog w) A (pyNext (.ref it)) Q E s := by
  obtain ⟨o, ho, hc, hd⟩ := id hit
  unfold pyNext
  refine wpAny_bind (wpAny_attempt (wpAny_callSpecial?_slot (name := PySem.Str.ofString "__next__") (bi_typeIs hit) bi_slot_next
    (wpAny_call_entry bi_slot_next (bi_typeIs hit) bi_entry_next ?_ (bi_args_next _))))
  unfold Builtin.«bytearray_iterator.__next__»
  refine wpAny_bind (wpAny_of_eq (a := (Value.ref it, [])) rfl ?_)
  dsimp only
  refine wpAny_bind (wpAny_field ho hd (x := .ref y) rfl ?_)
  dsimp only
  refine wpAny_bind (wpAny_load hy ?_)
  dsimp only
  refine wpAny_bind (wpAny_field ho hd (x := .int i 0) rfl ?_)
  simp only [Int.toNat_natCast, hx]
  refine wpAny_bind (wpAny_setField ho hd (by simp) (wpAny_bind (wpAny_mkInt (wpAny_pure ⟨_, rfl, wpAny_pure (hQ _ ?_ (Heap.SameBut.update ..))⟩))))
  exact ⟨_, Heap.get?_update_self _ ho (Obj.isFreed_of_fields (Obj.data_mapFields hd _)), (Obj.cls_mapFields ..).trans hc, by
    rw [Obj.data_mapFields hd]; simp [rawInt]⟩

theorem ba_next_end {it : Addr} {i : Nat} {Q : Option Value → Shared → Prop} (hh : A.handled = none) (hit : IsBaIter s.heap it y i) (hy : s.heap.get? y = some (baObj b)) (hx : b[i]? = none)
    (hQ : ∀ h', Heap.ExtBut it s.heap h' → Q none { s with heap := h' }) : wpAny (model prog w) A (pyNext (.ref it)) Q E s := by
  obtain ⟨o, ho, hc, hd⟩ := id hit
  unfold pyNext
  refine wpAny_bind (wpAny_attempt (wpAny_callSpecial?_slot (name := PySem.Str.ofString "__next__") (bi_typeIs hit) bi_slot_next
    (wpAny_call_entry bi_slot_next (bi_typeIs hit) bi_entry_next ?_ (bi_args_next _))))
  unfold Builtin.«bytearray_iterator.__next__»
  refine wpAny_bind (wpAny_of_eq (a := (Value.ref it, [])) rfl ?_)
  dsimp only
  refine wpAny_bind (wpAny_field ho hd (x := .ref y) rfl ?_)
  dsimp only
  refine wpAny_bind (wpAny_load hy ?_)
  dsimp only
  refine wpAny_bind (wpAny_field ho hd (x := .int i 0) rfl ?_)
  simp only [Int.toNat_natCast, hx]
  refine wpAny_bind (wpAny_rule (wpAny_bind (wpAny_setField ho hd (by simp) ?_)))
  refine wpAny_bind (wpAny_letGo ?_)
  show wpAny _ _ (newExc (.type "StopIteration") [] >>= _) _ _ _
  refine wpAny_bind ?_
  simp only [newExc, newTuple]
  refine wpAny_bind (wpAny_newObj_type ?_ (by size_fits))
  refine wpAny_bind (m := firstArgMember _ _) (wpAny_of_eq (a := Value.none) (by first | rfl | (simp only [firstArgMember]; rfl)) ?_)
  refine wpAny_newObj_type ?_ (by size_fits)
  simp only [raiseNew]
  refine wpAny_bind (wpAny_handled ?_)
  rw [show A.in1.handled = none from hh]
  refine wpAny_bind (wpAny_pure (wpAny_throw ?_))
  refine wpAny_bind (wpAny_isInstance (T := "StopIteration") (b := true) ⟨_, Heap.get?_push_size _ rfl, rfl⟩ isSubtype_stop ?_)
  exact wpAny_pure (hQ _ (((Heap.SameBut.update ..).extBut.push _).push _))
end

theorem ba_walks {prog : Program} {w : World} {A : Around} (hh : A.handled = none) (I y : Addr) (hne : y ≠ I) (b : Array UInt8) :
    Walks prog w A I [I, y] [I] b.size (fun i v => ∃ c u, b[i]? = some c ∧ v = .int (c.toNat : Int) u) (fun i h => IsBaIter h I y i ∧ h.get? y = some (baObj b)) where
  sub := fun b hb => by simp at hb; simp [hb]
  frame := fun _ _ _ st hk => ⟨let ⟨o, ho, r⟩ := st.1; ⟨o, hk I (by simp) o ho, r⟩, hk y (by simp) _ st.2⟩
  item := fun i s Q E hi st hQ => by
    refine ba_next_item st.1 st.2 (c := b[i]) (by simp [hi]) fun h' hit' hs' => ?_
    exact hQ _ h' (s.toks + 1) ⟨_, _, by simp [hi], rfl⟩ ⟨hit', (hs'.2 y hne).trans st.2⟩ fun b o hb e => hs'.extBut b o (fun h => hb (by simp [h])) e
  done := fun s Q E st hQ => ba_next_end hh st.1 st.2 (by simp) fun h' he' => hQ h' s.toks fun b o hb e => he' b o (fun h => hb (by simp [h])) e
  self := fun _ _ _ _ st hQ => pyIter_bi st.1 hQ
end Aq
-- part AqJ
open PySem PySem.W PyProof.Rows
set_option Elab.async false
set_option maxRecDepth 100000
set_option linter.deprecated false
namespace Aq
open PySem PySem.W PySem.Calls PyProof.Rows PySem.Spec

theorem ba_slotArgs_len (a : Value) : slotArgs "__len__" 0 ⟨[a], []⟩ = pure (a, []) := by kernel_rfl
theorem ba_no_bytes : typeLookup (.type "bytearray") "__bytes__" = pure none := by rw [typeLookup_type, builtinLookup_eq_fast]; kernel_rfl
theorem ba_split_len : splitId "bytearray.__len__" = some ("bytearray", "__len__") := by decide +kernel
theorem slotArgs_set (a b c : Value) : slotArgs "__setitem__" 2 ⟨[a, b, c], []⟩ = pure (a, [b, c]) := by kernel_rfl

section
variable {prog : Program} {w : World} {A : Around} {E : Value → Shared → Prop} {s : Shared} {b : Array UInt8} {y : Addr}

/-- len(data) -/
theorem len_ba {Q : Value → Shared → Prop} (hy : s.heap.get? y = some (baObj b)) (hz : b.size ≤ sizeLine) (h : Q (.int (b.size : Nat) (s.toks + 1)) { s with toks := s.toks + 1 + 1 }) :
    wpAny (model prog w) A (call (.builtin "len") [.ref y]) Q E s := by
  have hz' : b.size ≤ 16777216 := hz
  refine Calls.call_function_entry kind_len plain_len entry_len (args_len1 _) ?_
  unfold Builtin.«len»
  refine wpAny_bind (m := oneArg "len" _) (wpAny_pure ?_)
  refine wpAny_bind (m := callSpecial? (.ref y) (Str.ofString "__len__")) (wpAny_callSpecial?_slot (name := Str.ofString "__len__") (typeIs_ba hy) ba_slot_len
    (wpAny_call_entry ba_slot_len (typeIs_ba hy) ba_entry_len ?_ (ba_args_len _)))
  unfold Builtin.«bytearray.__len__»
  refine wpAny_bind (wpAny_of_eq (ba_slotArgs_len _) ?_)
  dsimp only
  refine wpAny_bind (payload_ba hy ?_)
  refine wpAny_bind (wpAny_mkInt (wpAny_pure ⟨_, rfl, ?_⟩))
  show wpAny _ _ _ _ _ { s with toks := s.toks + 1 }
  refine wpAny_bind (wpAny_holding (wpAny_pure ?_))
  refine wpAny_bind (wpAny_letGo ?_)
  show wpAny _ _ (if ((b.size : Nat) : Int) < 0 then _ else _) _ _ _
  rw [if_neg (by omega)]
  show wpAny _ _ (if ((b.size : Nat) : Int) ≥ 2 ^ 63 then _ else _) _ _ _
  rw [if_neg (by omega)]
  exact wpAny_bind (wpAny_mkInt (wpAny_pure ⟨_, rfl, h⟩))

/-- data[k] = n -/
theorem setItem_ba_int {k n : Int} {t u : Tok} {Q : Unit → Shared → Prop} (hy : s.heap.get? y = some (baObj b)) (h0 : 0 ≤ k) (hk : k < (b.size : Int)) (hz : b.size ≤ sizeLine) (n0 : 0 ≤ n) (n1 : n < 256)
    (h : ∀ h', h'.get? y = some (baObj (b.setIfInBounds k.toNat n.toNat.toUInt8)) → (∀ a, a ≠ y → h'.get? a = s.heap.get? a) → Q () { s with heap := h' }) :
    wpAny (model prog w) A (setItem (.ref y) (.int k t) (.int n u)) Q E s := by
  have hT := typeIs_ba hy
  have hz' : b.size ≤ 16777216 := hz
  unfold setItem
  refine wpAny_holding ?_
  refine wpAny_bind (wpAny_sequenceKey hT (by decide) ?_)
  refine wpAny_bind (wpAny_callSpecial?_slot (name := Str.ofString "__setitem__") hT ba_slot_setitem (wpAny_call_entry ba_slot_setitem hT ba_entry_setitem ?_ (ba_args_setitem _ _ _)))
  unfold Builtin.«bytearray.__setitem__»
  dsimp only
  refine wpAny_ite ?_
  rw [if_neg (by simp)]
  refine wpAny_bind (m := PySem.Builtin.Bytes.subscript? _) ?_
  unfold PySem.Builtin.Bytes.subscript?
  refine wpAny_bind (wpAny_specialOf (T := "int") (typeIs_int s k t) F.slot_int_index.lookup ?_)
  refine wpAny_ite ?_
  rw [if_neg (by simp)]
  refine wpAny_bind (wpAny_of_eq (a := k) rfl ?_)
  refine wpAny_ite ?_
  rw [if_neg (by simp [PySem.Builtin.Bytes.fitsIndex]; omega)]
  refine wpAny_pure ?_
  dsimp only
  refine wpAny_bind (m := PySem.Builtin.Bytes.byteValue _) ?_
  unfold PySem.Builtin.Bytes.byteValue
  refine wpAny_bind (wpAny_of_eq (a := n) rfl ?_)
  refine wpAny_ite ?_
  rw [if_neg (by simp only [Bool.or_eq_true, decide_eq_true_eq]; omega)]
  refine wpAny_pure ?_
  refine wpAny_bind (payload_ba hy ?_)
  have hs : seqIndex? k b.size = some k.toNat := by
    unfold seqIndex?
    simp [h0, hk, Int.not_lt.mpr h0]
  rw [hs]
  dsimp only
  refine wpAny_bind (write_ba (b := b) (f := (·.setIfInBounds k.toNat n.toNat.toUInt8)) hy (by simpa using hz) (wpAny_pure ⟨_, rfl, wpAny_pure (h _ ?_ ?_)⟩))
  · exact Heap.get?_update_self (Obj.mapBytearray (·.setIfInBounds k.toNat n.toNat.toUInt8)) hy rfl
  · exact fun a ha => Heap.get?_update_ne _ _ _ _ ha

/-- bytes(data) -/
theorem call_bytes_ba {Q : Value → Shared → Prop} (hy : s.heap.get? y = some (baObj b)) (hz : b.size ≤ sizeLine)
    (hQ : ∀ t k, Q (.bytes b t) { s with toks := k }) : wpAny (model prog w) A (call (.type "bytes") [.ref y]) Q E s := by
  have hT := typeIs_ba hy
  refine callType_codes (Q₁ := fun obj s₁ => s₁.TypeIs obj "bytes" ∧ Q obj s₁) F.bm_called (F.bm_typeCall _) F.entry_object_init ?_ fun obj s₁ h₁ => ?_
  · refine codeAny_of_tree ?_
    show wpAny _ A.in1.in1 (do checkBuiltinCall "bytes.__new__" ⟨[.type "bytes", .ref y], []⟩; again (.builtin "bytes.__new__" ⟨[.type "bytes", .ref y], []⟩)) _ _ s
    refine wpAny_bind (wpAny_of_eq (F.bm_newCall _) (wpAny_pure ⟨plainId_quiet F.bm_plain _, codeAny_builtin F.bm_entry ?_⟩))
    rw [Around.under_plainId F.bm_plain _]
    unfold Builtin.«bytes.__new__»
    refine wpAny_bind (wpAny_of_eq (a := true) rfl ?_)
    refine bm_if_false rfl ?_
    refine wpAny_bind (wpAny_of_eq F.bm_sub ?_)
    refine bm_if_false rfl ?_
    refine wpAny_bind (wpAny_of_eq (F.bm_bind _) ?_)
    refine wpAny_bind (wpAny_of_eq (a := ()) rfl ?_)
    refine wpAny_bind (wpAny_of_eq (a := ()) rfl ?_)
    refine bm_if_false rfl ?_
    refine wpAny_bind (wpAny_specialOf hT ba_no_bytes ?_)
    refine wpAny_bind (wpAny_bind (asStr_buf (.inl ⟨y, rfl, hy⟩) (wpAny_pure ?_)))
    refine bm_if_false rfl ?_
    refine wpAny_bind (wpAny_specialOf hT ba_index ?_)
    refine bm_if_true rfl ?_
    wp_delta
    refine wpAny_bind (buffer_at (.inl ⟨y, rfl, hy⟩) ?_)
    dsimp only
    refine wpAny_bind (wpAny_rule ?_)
    refine wpAny_bind (wpAny_mkBytes ?_ hz)
    wp_delta
    refine bm_if_true (by decide) ?_
    exact wpAny_pure ⟨typeIs_by _ _ _, hQ _ _⟩
  · exact ⟨h₁.1, F.args_object_init_2 obj _, object_init_meets F.bm_called.init.lookup F.bm_called.made (by decide) prog w A.in1 _ s₁ ⟨h₁.1, rfl, h₁.2⟩⟩
end
end Aq
-- part AqK
open PySem PySem.W PyProof.Rows
set_option Elab.async false
set_option maxRecDepth 100000
set_option linter.deprecated false
namespace Aq
open PySem PySem.W PySem.Calls PyProof.Rows PySem.Spec

/-- items that are a bytearray's octets are ints -/
theorem ints_of_items {b : Array UInt8} {acc : Array Value} (h : ItemsOf (fun i v => ∃ c u, b[i]? = some c ∧ v = .int (c.toNat : Int) u) acc b.size) : IntsAre acc.toList (KBw.bInts b) := by
  obtain ⟨hs, hi⟩ := h
  have gen : ∀ (l : List Value) (m : List UInt8), l.length = m.length → (∀ (i : Nat) (v : Value), l[i]? = some v → ∃ c u, m[i]? = some c ∧ v = .int (c.toNat : Int) u) → IntsAre l (m.map fun c => (c.toNat : Int)) := by
    intro l
    induction l with
    | nil => intro m hm _; cases m with | nil => exact .nil | cons _ _ => cases hm
    | cons v l ih =>
      intro m hm hv
      cases m with
      | nil => cases hm
      | cons c m =>
        obtain ⟨c', u, hc, rfl⟩ := hv 0 v rfl
        cases hc
        exact .cons _ u (ih m (by simpa using hm) fun i v e => hv (i + 1) v e)
  refine gen acc.toList b.toList (by simp [hs]) fun i v e => ?_
  obtain ⟨c, u, hc, rfl⟩ := hi i v (by simpa using e)
  exact ⟨c, u, by simpa using hc, rfl⟩

section
variable {prog : Program} {w : World} {A : Around} {E : Value → Shared → Prop} {s : Shared} {b : Array UInt8} {y : Addr}

/-- list(data) -/
theorem call_list_ba {Q : Value → Shared → Prop} (hh : A.handled = none) (hy : s.heap.get? y = some (baObj b)) (hz : b.size ≤ sizeLine)
    (h : ∀ vs c h' k, IntsAre vs (KBw.bInts b) → h'.get? s.heap.objs.size = some { cls := .type "list", data := .seq vs.toArray c } → (∀ a o, s.heap.get? a = some o → h'.get? a = some o) → Q (.ref s.heap.objs.size) { s with heap := h', toks := k }) :
    wpAny (model prog w) A (call (.type "list") [.ref y]) Q E s := by
  refine callType_codes (Q₁ := fun obj s₁ => obj = .ref s.heap.objs.size ∧ s₁ = { s with heap := s.heap.push { cls := .type "list", data := .seq #[] } }) F.called_list (F.typeCall_list_1 _) F.entry_list_init
    (code_list_new _ ⟨rfl, rfl⟩) fun obj s₁ h₁ => ?_
  obtain ⟨rfl, rfl⟩ := h₁
  have hS : (s.heap.push { cls := .type "list", data := .seq #[] }).get? s.heap.objs.size = some { cls := .type "list", data := .seq #[] } := Heap.get?_push_size _ rfl
  refine ⟨⟨_, hS, rfl⟩, F.args_list_init_2 _ _, ?_⟩
  generalize hS0 : s.heap.objs.size = S at *
  have hy1 : (s.heap.push { cls := .type "list", data := .seq #[] }).get? y = some (baObj b) := Heap.get?_push_of_some _ hy
  have hk1 : ∀ a o, s.heap.get? a = some o → a ≠ S := fun a o e q => absurd (Heap.lt_size e) (by rw [hS0, q]; exact Nat.lt_irrefl _)
  have hyS : y ≠ S := hk1 _ _ hy
  show wpAny _ A.in1.in1 (do let old ← Builtin.List.listItems (.ref S); Builtin.List.listUpdate (.ref S) (fun _ => #[]); letGo old.toList.reverse; Builtin.List.listExtendWith (.ref S) (.ref y) .none) _ _ _
  refine wpAny_bind ?_
  unfold Builtin.List.listItems
  refine wpAny_bind (wpAny_seqItems hS rfl (wpAny_pure ?_))
  show wpAny _ A.in1.in1 (updateSeq S (fun _ => #[]) >>= fun _ => letGo (#[] : Array Value).toList.reverse >>= fun _ => Builtin.List.listExtendWith (.ref S) (.ref y) .none) _ _ _
  refine wpAny_bind (wpAny_updateSeq hS rfl ?_)
  have hS₂ := Heap.get?_update_self (Obj.mapSeq (fun _ => (#[] : Array Value))) hS rfl
  have oth : ∀ a o, a ≠ S → (s.heap.push { cls := .type "list", data := .seq #[] }).get? a = some o → ((s.heap.push { cls := .type "list", data := .seq #[] }).update S (Obj.mapSeq (fun _ => (#[] : Array Value)))).get? a = some o :=
    fun a o ha e => (Heap.get?_update_other _ _ (Ne.symm ha)).trans e
  refine wpAny_bind (wpAny_letGo ?_)
  have hy2 := oth y _ hyS hy1
  generalize hH : (s.heap.push { cls := .type "list", data := .seq #[] }).update S (Obj.mapSeq (fun _ => (#[] : Array Value))) = H at *
  have hkH : ∀ a o, s.heap.get? a = some o → H.get? a = some o := fun a o e => oth a o (hk1 a o e) (Heap.get?_push_of_some _ e)
  have hTy : ({ s with heap := H } : Shared).TypeIs (.ref y) "bytearray" := ⟨_, hy2, rfl⟩
  unfold Builtin.List.listExtendWith
  refine wpAny_bind (wpAny_typeOf hTy ?_)
  have g1 : Builtin.List.listSameRef (.ref S) (.ref y) = false := by simp [Builtin.List.listSameRef, Ne.symm hyS]
  refine wpAny_ite ?_
  rw [if_neg (by simp [g1])]
  refine wpAny_bind (pyIter_ba (s := { s with heap := H }) hy2 ?_)
  have hTy2 : ({ s with heap := H.push { cls := .type "bytearray_iterator", data := .fields #[.ref y, .int 0 0] } } : Shared).TypeIs (.ref y) "bytearray" := ⟨_, Heap.get?_push_of_some _ hy2, rfl⟩
  refine wpAny_bind (wpAny_holding ?_)
  unfold Builtin.List.listLengthHint
  refine wpAny_bind (wpAny_specialOf hTy2 ba_slot_len.lookup ?_)
  dsimp only
  rw [ba_split_len]
  dsimp only
  refine wpAny_bind (wpAny_isInstance hTy2 ba_sub ?_)
  refine wpAny_ite ?_
  rw [if_neg (by simp)]
  refine bm_if_true (by decide +kernel) ?_
  refine wpAny_bind (wpAny_typeOf hTy2 ?_)
  dsimp only
  refine wpAny_pure ?_
  refine bm_if_false (by decide +kernel) ?_
  have hI : H.objs.size ≠ S := fun q => by
    have := Heap.lt_size hS₂
    rw [q] at this
    exact Nat.lt_irrefl _ this
  have W := (ba_walks (prog := prog) (w := w) (A := A.in1.in1) hh H.objs.size y (fun q => absurd (Heap.lt_size hy2) (q ▸ Nat.lt_irrefl _)) b).toS
  refine wpAny_pure ⟨plainId_quiet F.plain_extend_loop _, codeAny_extend_loopS W hz S (by simp [Ne.symm hI, Ne.symm hyS]) .none b.size 0 _ _ _ rfl (Nat.zero_le _)
    ⟨⟨_, Heap.get?_push_size _ rfl, rfl, rfl⟩, Heap.get?_push_of_some _ hy2⟩ (Heap.get?_push_of_some _ hS₂) (ItemsOf.nil _) fun s' acc' c' hm hS' hacc => ⟨rfl, ?_⟩⟩
  obtain ⟨h', g', d', t', o'⟩ := s'
  obtain ⟨k1, k2, k3, k4, k5⟩ := hm
  simp only at k2 k3 k4
  subst k2 k3 k4
  have h9 := h acc'.toList c' h' t' (ints_of_items hacc) (by rw [Array.toArray_toList]; exact hS') fun a o e => k1 a o (by
    simp only [List.mem_cons, List.not_mem_nil, or_false, not_or]
    exact ⟨hk1 a o e, fun q => absurd (Heap.lt_size (hkH a o e)) (q ▸ Nat.lt_irrefl _)⟩) (Heap.get?_push_of_some _ (hkH a o e))
  exact h9
end
end Aq
-- part AqE
open PySem PySem.W PyProof.Rows
set_option Elab.async false
set_option maxRecDepth 100000
namespace Aq
open PySem PySem.W PySem.Calls PyProof.Rows PySem.Spec
section
variable {prog : Program} {w : World} {A₀ A : Around} {s : Shared} {base h₀ : Heap} {outer : List Env} {L : Addr} {m mg mb : Str → Option Value} {env : Env} {news : List (Addr × Obj)} {K : Frag} {p : Program} {loose : List Str} {mean : ExcName → Option Value}
  {R : Flow → Shared → Prop} {name qual : Str} {params : Arguments} {body : List Stmt} {scope : Scope} {dV kV doc pm cdv ct oc : Value} {an od : Option Addr} {osl : Array (Option Value)} {f : Addr} {args : Args} {binds : List (Str × Value)}

theorem codeC_def (B : Below A₀ base outer h₀) (F : Fr h₀ L s.heap m) (X₀ : K.In h₀) (N : News h₀ L s.heap news) (T : Top p loose mean mg mb h₀) (hA : A.frames = some (env :: outer)) (hf : env.frame = some L) (hke : env.scope.kind = .function)
    (ho : K.lookup f = some ⟨oc, od, .func (fnOf name qual params body scope dV kV doc pm an cdv ct), osl⟩) (hcd : codeIn K cdv qual = true) (hroom : A.depth < recursionLimit)
    (hbind : BindsTo s (fnOf name qual params body scope dV kV doc pm an cdv ct) args binds) (hloc : ∀ y ∈ binds, scope.names.lookup y.1 = some .local)
    (h : ∀ g L' h₁, Fr h₀ L g m → Fr g L' h₁ (fun y => binds.reverse.lookup y) → News g L' h₁ news → Below A base (env :: outer) g → K.In g → Top p loose mean mg mb g →
      wpC (model prog w) (A.deeper (envOf qual scope L' f cdv)) (execs body (envOf qual scope L' f cdv))
        (fun fl s' => LeaveK h₀ L m g (okOf R) (match fl with | .ret v => v | _ => .none) s') { s with heap := h₁, toks := s.toks + binds.length })
    (hco : scope.isCoroutine = false) (hgen : scope.isGenerator = false) (hk : scope.kind = .function)
    (hcell : ∀ x ∈ scope.names, x.2 ≠ .cell) : codeC (model prog w) A (.call (.ref f) args) R s :=
  callC_plain B F N T.nolimit hA hf hke ((X₀.keeps F.keep) _ _ ho) rfl (codeRec_of (X₀.keeps F.keep) hcd) hroom hbind hloc (fun g L' h₁ FG F' N' B' st _ => h g L' h₁ FG F' N' B' (X₀.keeps st) (T.keeps st)) hcell hco hgen hk

/-- one object more on the ledger -/
theorem grow1 {x : Addr} {o : Obj} {h' : Heap} (F : Fr h₀ L s.heap m) (N : News h₀ L s.heap news) (hk : ∀ a o, s.heap.get? a = some o → h'.get? a = some o) (hx : h'.get? x = some o) (hn : s.heap.get? x = none) : Fr h₀ L h' m ∧ News h₀ L h' ((x, o) :: news) := by
  refine ⟨⟨F.ns.keeps hk, fun b o e => hk b o (F.keep b o e), F.above⟩, fun q hq => ?_⟩
  rcases List.mem_cons.mp hq with rfl | hq
  · refine ⟨hx, fun e => ?_, ?_⟩
    · obtain ⟨oL, _, _, hL, _⟩ := F.ns
      rw [← e] at hL
      rw [show s.heap.get? x = some oL from hL] at hn
      cases hn
    · cases q : h₀.get? x with
      | none => rfl
      | some o' => rw [F.keep _ _ q] at hn; cases hn
  · exact ⟨hk _ _ (N q hq).1, (N q hq).2⟩
theorem fresh_none (h : Heap) : h.get? h.objs.size = none := by
  cases q : h.get? h.objs.size with
  | none => rfl
  | some o => exact absurd (Heap.lt_size q) (Nat.lt_irrefl _)
/-- nothing new on the ledger -/
theorem same1 {h' : Heap} (F : Fr h₀ L s.heap m) (N : News h₀ L s.heap news) (hk : ∀ a o, s.heap.get? a = some o → h'.get? a = some o) : Fr h₀ L h' m ∧ News h₀ L h' news :=
  ⟨⟨F.ns.keeps hk, fun b o e => hk b o (F.keep b o e), F.above⟩, fun q hq => ⟨hk _ _ (N q hq).1, (N q hq).2⟩⟩
/-- one object of the ledger turned -/
theorem turn1 {y : Addr} {o o' : Obj} {h' : Heap} {news' : List (Addr × Obj)} (F : Fr h₀ L s.heap m) (N : News h₀ L s.heap news) (U : Upd y o o' news news') (hk : ∀ a o, a ≠ y → s.heap.get? a = some o → h'.get? a = some o) (hy : h'.get? y = some o') :
    Fr h₀ L h' m ∧ News h₀ L h' news' := by
  obtain ⟨pre, post, rfl, rfl, h1, h2⟩ := U.split
  have Y := N (y, o) (by simp)
  refine ⟨⟨?_, fun b ob e => hk b ob (fun q => ?_) (F.keep b ob e), F.above⟩, fun q hq => ?_⟩
  · obtain ⟨oL, es, ep, hL, r⟩ := F.ns
    exact ⟨oL, es, ep, hk L oL (Ne.symm Y.2.1) hL, r⟩
  · rw [q, Y.2.2] at e; cases e
  · rcases List.mem_append.mp hq with hq | hq
    · have Z := N q (List.mem_append_left _ hq)
      exact ⟨hk _ _ (h1 q hq) Z.1, Z.2⟩
    · rcases List.mem_cons.mp hq with rfl | hq
      · exact ⟨hy, Y.2⟩
      · have Z := N q (List.mem_append_right _ (.tail _ hq))
        exact ⟨hk _ _ (h2 q hq) Z.1, Z.2⟩
theorem upd_mem {y : Addr} {o o' : Obj} {news' : List (Addr × Obj)} (U : Upd y o o' news news') : (y, o) ∈ news := by
  obtain ⟨pre, post, rfl, rfl, _, _⟩ := U.split
  simp
end
end Aq
-- part AqQ
open PySem PySem.W PyProof.Rows
set_option Elab.async false
set_option maxRecDepth 100000
namespace Aq
open PySem PySem.W PySem.Calls PyProof.Rows PySem.Spec
section
variable {prog : Program} {w : World} {A₀ A : Around} {s : Shared} {base h₀ : Heap} {outer : List Env} {L : Addr} {m mg mb : Str → Option Value} {env : Env} {news : List (Addr × Obj)} {K : Frag} {p : Program} {loose : List Str} {mean : ExcName → Option Value}
  {R : Flow → Shared → Prop} {name qual : Str} {params : Arguments} {body : List Stmt} {scope : Scope} {dV kV doc pm cdv ct oc : Value} {an od : Option Addr} {osl : Array (Option Value)} {f : Addr} {args : Args} {binds : List (Str × Value)}

theorem codeC_defC (B : Below A₀ base outer h₀) (F : Fr h₀ L s.heap m) (X₀ : K.In h₀) (N : News h₀ L s.heap news) (T : Top p loose mean mg mb h₀) (hA : A.frames = some (env :: outer)) (hf : env.frame = some L) (hke : env.scope.kind = .function)
    (ho : K.lookup f = some ⟨oc, od, .func (fnOf name qual params body scope dV kV doc pm an cdv ct), osl⟩) (hcd : codeIn K cdv qual = true) (hroom : A.depth < recursionLimit)
    (hbind : BindsTo s (fnOf name qual params body scope dV kV doc pm an cdv ct) args binds) (hkind : (binds.all fun y => scope.names.lookup y.1 == some .local || scope.names.lookup y.1 == some .cell) = true)
    (hnd : ((cellsFrom 0 scope.names []).map (·.1)).Nodup)
    (h : ∀ g L' h₁ tk cells, Fr h₀ L g m → Fr g L' h₁ (bindL (envOfC qual scope L' f cdv).kindOf binds fun _ => none) → News g L' h₁ (cells ++ news) →
      CellsAre (bindC (envOfC qual scope L' f cdv).kindOf binds fun _ => none) (cellsFrom (L' + 1) scope.names []) cells → Below A base (env :: outer) g → K.In g → Top p loose mean mg mb g → (∀ p ∈ news, p.1 < L') →
      wpC (model prog w) (A.deeper (envOfC qual scope L' f cdv)) (execs body (envOfC qual scope L' f cdv))
        (fun fl s' => LeaveK h₀ L m g (okOf R) (match fl with | .ret v => v | _ => .none) s') { s with heap := h₁, toks := tk })
    (hco : scope.isCoroutine = false) (hgen : scope.isGenerator = false) (hk : scope.kind = .function) : codeC (model prog w) A (.call (.ref f) args) R s := by
  obtain ⟨FG, BG, st, lv⟩ := groundX (R := okOf R) B F N hA hf hke
  refine codeC_call_function hroom ((X₀.keeps F.keep) _ _ ho) rfl hco hgen rfl (codeRec_of (X₀.keeps F.keep) hcd) (hbind _ _ _ _ ?_)
  refine wpAny_newFunctionEnv_cells hk (kindsX hkind _) fun env' he s' x => ?_
  subst he
  refine ⟨(T.nolimit.keeps F.keep).keeps x.toInCall.keep, codeC_func ?_⟩
  obtain ⟨h₁, tk, rfl, _⟩ := x.done
  have hk₁ := x.toInCall.keep
  obtain ⟨cells, NC, Y⟩ := Cl.news (h₀ := s.heap) (Nat.le_refl _) fun n c hm => ⟨x.cell n c (lookup_of_mem_nodup (cellsFrom_names scope.names 0 (s.heap.objs.size + 1) [] [] rfl ▸ hnd) hm), x.above n c hm⟩
  refine wpC_mono (h _ s.heap.objs.size h₁ tk cells FG ⟨x.toInCall.ns, fun b o e => hk₁ b o (of_hideAll _ e), Nat.le_of_eq (hideAll_size _ _)⟩ (fun p hp => ?_) Y BG (X₀.keeps st) (T.keeps st) (fun p hp => Heap.lt_size (N p hp).1)) (fun fl s' hl => lv _ _ hl)
  rcases List.mem_append.mp hp with hp | hp
  · refine ⟨(NC p hp).1, (NC p hp).2.1, ?_⟩
    cases q : (hideAll s.heap (news.map (·.1))).get? p.1 with
    | none => rfl
    | some o => have := of_hideAll _ q; rw [(NC p hp).2.2] at this; cases this
  · exact ⟨hk₁ _ _ (N p hp).1, Nat.ne_of_lt (Heap.lt_size (N p hp).1), hideAll_none _ (List.mem_map_of_mem hp)⟩
end
end Aq
-- part D0
open PySem PySem.W PyProof.Rows
set_option Elab.async false
namespace Aq
open PySem PySem.W PySem.Calls PyProof.Rows PySem.Spec

theorem allLt_ne {D x : Nat} : ∀ {own : List (Addr × Obj)}, AllLt D own → D ≤ x → ∀ p ∈ own, p.1 ≠ x
  | [], _, _ => fun p hp => nomatch hp
  | q :: r, h, hx => fun p hp => by
    rcases List.mem_cons.mp hp with rfl | hp
    · exact Nat.ne_of_lt (Nat.lt_of_lt_of_le h.1 hx)
    · exact allLt_ne h.2 hx p hp

/-- addresses that lie apart (kept from the eyes of `omega`) -/
structure Apart (l : List Nat) : Prop where
  nodup : l.Nodup
theorem Apart.ne {l : List Nat} (h : Apart l) {x y i j : Nat} (hx : l[i]? = some x) (hy : l[j]? = some y) (hij : i ≠ j) : x ≠ y := by
  intro e
  subst e
  obtain ⟨hi, ei⟩ := List.getElem?_eq_some_iff.mp hx
  obtain ⟨hj, ej⟩ := List.getElem?_eq_some_iff.mp hy
  have P := List.pairwise_iff_getElem.mp h.nodup
  rcases Nat.lt_or_gt_of_ne hij with q | q
  · exact P i j hi hj q (ei.trans ej.symm)
  · exact P j i hj hi q (ej.trans ei.symm)

theorem Apart.of {l : List Nat} (h : l.Pairwise (· ≠ ·)) : Apart l := ⟨h⟩
theorem ix0 {a : Nat} {l : List Nat} : (a :: l)[0]? = some a := rfl
theorem ix1 {a b : Nat} {l : List Nat} : (a :: b :: l)[1]? = some b := rfl
theorem ix2 {a b c : Nat} {l : List Nat} : (a :: b :: c :: l)[2]? = some c := rfl
theorem ix3 {a b c d : Nat} {l : List Nat} : (a :: b :: c :: d :: l)[3]? = some d := rfl
theorem ix4 {a b c d e : Nat} {l : List Nat} : (a :: b :: c :: d :: e :: l)[4]? = some e := rfl
theorem ix5 {a b c d e f : Nat} {l : List Nat} : (a :: b :: c :: d :: e :: f :: l)[5]? = some f := rfl
theorem ix6 {a b c d e f g : Nat} {l : List Nat} : (a :: b :: c :: d :: e :: f :: g :: l)[6]? = some g := rfl
theorem ix7 {a b c d e f g h : Nat} {l : List Nat} : (a :: b :: c :: d :: e :: f :: g :: h :: l)[7]? = some h := rfl
theorem ix8 {a b c d e f g h i : Nat} {l : List Nat} : (a :: b :: c :: d :: e :: f :: g :: h :: i :: l)[8]? = some i := rfl
theorem ixS {a x i : Nat} {l : List Nat} (h : l[i]? = some x) : (a :: l)[i + 1]? = some x := h
theorem News.sub {h₀ h : Heap} {L : Addr} {l l' : List (Addr × Obj)} (N : News h₀ L h l) (hs : ∀ p ∈ l', p ∈ l) : News h₀ L h l' := fun p hp => N p (hs p hp)

set_option maxRecDepth 100000 in
theorem forms_tail {value slice : Expr} {w : World} {A : Around} {E : Value → Shared → Prop} {s : Shared} {h₀ : Heap} {L : Addr} {m : Str → Option Value} {x : Int} {tk : Tok} {Q : Value → Shared → Prop}
    (F : Fr h₀ L s.heap m) (X : (hd.heap_39 w.params).In h₀) (hx0 : 0 ≤ x) (hx : x < 6)
    (h : ∀ t sz fs k zv zs zi, IsTup h₀ t #[.str fs k, .ref sz] → h₀.IsList sz (List.toArray zv) → IntsAre zv zi → IsForm fs zs → zi = zs.map Int.ofNat → zi.length ≤ 3 → (∀ z ∈ zi, 1 ≤ z ∧ z ≤ 4) → Q (.ref t) s)
    (hs : subscripted slice false (.ref 151) (.int x tk) = operate [.ref 151, .int x tk] (getItem (.ref 151) (.int x tk)) := by with_unfolding_all rfl) :
    wpAny (model PySem.Challenge.rw_aq6016_01.row.toRowW.prog w) A (subscriptTail value slice (.ref 151) (.int x tk)) Q E s := by
  revert X; k_fill; intro X
  have hc : x = 0 ∨ x = 1 ∨ x = 2 ∨ x = 3 ∨ x = 4 ∨ x = 5 := by omega
  have one {t sz : Addr} {fs : Str} {k : Tok} {zv : List Value} {zs : List Nat} {cl₁ cl₂ : Option Addr} {n₁ n₂ : Nat} {sl₁ sl₂ : Array (Option Value)}
     (e₁ : (hd.heap_39 w.params).lookup t = some ⟨.type "tuple", cl₁, .seq [.str fs k, .ref sz].toArray n₁, sl₁⟩) (e₂ : (hd.heap_39 w.params).lookup sz = some ⟨.type "list", cl₂, .seq zv.toArray n₂, sl₂⟩)
     (hi : IntsAre zv (zs.map Int.ofNat)) (hf : IsForm fs zs) : Q (.ref t) s := h t sz fs k zv zs _ (tupK X e₁) (lstK X e₂) hi hf rfl (by cases hf <;> decide) (by cases hf <;> decide)
  rcases hc with rfl | rfl | rfl | rfl | rfl | rfl
  · refine' topList_K F X ?l0 (by decide) (by decide) ?x0 ?y0 hs
    case l0 => k_is
    case x0 => rfl
    case y0 => refine' one (zs := [1]) ?e₁0 ?e₂0 ?hi0 ?hf0; (case e₁0 => k_is); (case e₂0 => k_is); (case hi0 => exact .cons _ _ .nil); exact .b
  · refine' topList_K F X ?l1 (by decide) (by decide) ?x1 ?y1 hs
    case l1 => k_is
    case x1 => rfl
    case y1 => refine' one (zs := [2]) ?e₁1 ?e₂1 ?hi1 ?hf1; (case e₁1 => k_is); (case e₂1 => k_is); (case hi1 => exact .cons _ _ .nil); exact .h
  · refine' topList_K F X ?l2 (by decide) (by decide) ?x2 ?y2 hs
    case l2 => k_is
    case x2 => rfl
    case y2 => refine' one (zs := [2, 2]) ?e₁2 ?e₂2 ?hi2 ?hf2; (case e₁2 => k_is); (case e₂2 => k_is); (case hi2 => exact .cons _ _ (.cons _ _ .nil)); exact .hh
  · refine' topList_K F X ?l3 (by decide) (by decide) ?x3 ?y3 hs
    case l3 => k_is
    case x3 => rfl
    case y3 => refine' one (zs := [2, 2, 4]) ?e₁3 ?e₂3 ?hi3 ?hf3; (case e₁3 => k_is); (case e₂3 => k_is); (case hi3 => exact .cons _ _ (.cons _ _ (.cons _ _ .nil))); exact .hhi
  · refine' topList_K F X ?l4 (by decide) (by decide) ?x4 ?y4 hs
    case l4 => k_is
    case x4 => rfl
    case y4 => refine' one (zs := [1, 1]) ?e₁4 ?e₂4 ?hi4 ?hf4; (case e₁4 => k_is); (case e₂4 => k_is); (case hi4 => exact .cons _ _ (.cons _ _ .nil)); exact .bb
  · refine' topList_K F X ?l5 (by decide) (by decide) ?x5 ?y5 hs
    case l5 => k_is
    case x5 => rfl
    case y5 => refine' one (zs := [2, 1, 1]) ?e₁5 ?e₂5 ?hi5 ?hf5; (case e₁5 => k_is); (case e₂5 => k_is); (case hi5 => exact .cons _ _ (.cons _ _ (.cons _ _ .nil))); exact .hbb

section
variable {prog : Program} {w : World} {A : Around} {E : Value → Shared → Prop} {s : Shared} {h₀ : Heap} {L l : Addr} {m : Str → Option Value} {vs : List Value} {zi : List Int} {k : Int} {u : Tok}
theorem item9 {value slice : Expr} {Q : Value → Shared → Prop} (F : Fr h₀ L s.heap m) (hl : h₀.IsList l vs.toArray) (hi : IntsAre vs zi) (hM : zi.length ≤ 3) (h0 : 0 ≤ k) (h1 : k < 0 + ((((zi.length : Int) - 0).toNat : Nat) : Int))
    (h : ∀ t, Q (.int (zi.getD k.toNat 0) t) s)
    (hs : subscripted slice false (.ref l) (.int k u) = operate [.ref l, .int k u] (getItem (.ref l) (.int k u)) := by with_unfolding_all rfl) (hg : ∀ r, letTemporaryGo value (.ref l) r = pure () := by intro _; with_unfolding_all rfl) :
    wpAny (model prog w) A (subscriptTail value slice (.ref l) (.int k u)) Q E s :=
  item_list_ints (Fr.lst F hl) hi h0 (by omega) (by omega) h hs hg
/-- a pair's item set -/
theorem set_pair {x y v : Value} {l : Addr} {c : Nat} {news news' : List (Addr × Obj)} {t : Tok} {Q : Unit → Shared → Prop} (F : Fr h₀ L s.heap m) (N : News h₀ L s.heap news) (U : Upd l (listOf #[x, y] c) (listOf #[v, y] c) news news')
    (h : ∀ h', Fr h₀ L h' m → News h₀ L h' news' → Q () { s with heap := h' }) : wpAny (model prog w) A (setItem (.ref l) (.int 0 t) v) Q E s := by
  have hm := N _ (upd_mem U)
  refine ki_setAt hm.1 (by decide) (by decide) (by simp) ?_
  have e := Heap.get?_update_self (Obj.mapSeq (·.setIfInBounds (0 : Int).toNat v)) hm.1 rfl
  have X := turn1 F N U (fun a o ha e => (Heap.get?_update_ne _ _ _ _ ha).trans e) e
  exact h _ X.1 X.2
theorem set_pair1 {x y v : Value} {l : Addr} {c : Nat} {news news' : List (Addr × Obj)} {t : Tok} {Q : Unit → Shared → Prop} (F : Fr h₀ L s.heap m) (N : News h₀ L s.heap news) (U : Upd l (listOf #[x, y] c) (listOf #[x, v] c) news news')
    (h : ∀ h', Fr h₀ L h' m → News h₀ L h' news' → Q () { s with heap := h' }) : wpAny (model prog w) A (setItem (.ref l) (.int 1 t) v) Q E s := by
  have hm := N _ (upd_mem U)
  refine ki_setAt hm.1 (by decide) (by decide) (by simp) ?_
  have e := Heap.get?_update_self (Obj.mapSeq (·.setIfInBounds (1 : Int).toNat v)) hm.1 rfl
  have X := turn1 F N U (fun a o ha e => (Heap.get?_update_ne _ _ _ _ ha).trans e) e
  exact h _ X.1 X.2
theorem getD_le9 (hb : ∀ z ∈ zi, 1 ≤ z ∧ z ≤ 4) (j : Nat) : 0 ≤ zi.getD j 0 ∧ zi.getD j 0 ≤ 4 := by
  rw [List.getD_eq_getElem?_getD]
  cases q : zi[j]? with
  | none => decide
  | some z =>
    have := hb z (List.mem_of_getElem? q)
    simp only [Option.getD_some]
    omega
theorem pow9 {a : Int} {t u : Tok} {j : Nat} {Q : Value → Shared → Prop} (hb : ∀ z ∈ zi, 1 ≤ z ∧ z ≤ 4) (ha : a.natAbs < 2 ^ 64) (h : Q (.int (a ^ (zi.getD j 0).toNat) s.toks) { s with toks := s.toks + 1 }) :
    wpAny (model prog w) A (binaryOp .Pow (.int a t) (.int (zi.getD j 0) u)) Q E s :=
  pow_int_small (getD_le9 hb j).1 (by have := (getD_le9 hb j).2; omega) ha h
theorem pow_ne9 (n : Nat) : (256 : Int) ^ n ≠ 0 := by
  have h : (256 : Int) ≠ 0 := by decide
  exact Int.pow_ne_zero h
end
end Aq
-- part AqL
open PySem PySem.W PyProof.Rows
set_option Elab.async false
set_option maxRecDepth 100000
namespace Aq
open PySem PySem.W PySem.Calls PyProof.Rows PySem.Spec

/-- the iterator over a range of step one -/
abbrev ritObj (x left : Int) : Obj := { cls := .type "range_iterator", dict := none, data := .fields #[rawInt x, rawInt left, rawInt 1], slots := #[] }

section
variable {prog : Program} {w : World} {A : Around} {s : Shared} {env : Env} {target iter : Expr} {body : List Stmt} {pos : Pos} {Q : Flow → Shared → Prop} {n : Nat}

/-- a for over range(n), its invariant upon the whole state -/
def RunsAny (prog : Program) (w : World) (A : Around) (env : Env) (target : Expr) (body : List Stmt) (n : Nat) (Q : Flow → Shared → Prop) (I : Addr) (s : Shared) : Prop :=
  ∃ J : Nat → Shared → Prop, J 0 s ∧
    (∀ i s₂, i < n → J i s₂ → IsRangeIter s₂.heap I i ((n : Int) - i) 1 ∧ ∀ h', IsRangeIter h' I (i + 1 : Nat) ((n : Int) - (i + 1 : Nat)) 1 → Heap.SameBut I s₂.heap h' →
      wpAny (model prog w) A (assign target env (.int i s₂.toks)) (fun _ s₃ => wpAny (model prog w) A (execs body env) (fun f s₄ => match f with
        | .next | .cont => J (i + 1) s₄
        | .brk => Q .next s₄
        | .ret v => Q (.ret v) s₄) noE s₃) noE { s₂ with heap := h', toks := s₂.toks + 1 }) ∧
    (∀ s₂, J n s₂ → IsRangeIter s₂.heap I n 0 1 ∧ ∀ h', Heap.ExtBut I s₂.heap h' → Q .next { s₂ with heap := h' })

theorem For_range_any (hh : A.handled = none)
    (h : wpAny (model prog w) A (eval iter env) (fun x s₁ => ∃ r t u v, x = .ref r ∧ IsRange s₁.heap r 0 n 1 t u v ∧
      RunsAny prog w A env target body n Q s₁.heap.objs.size { s₁ with heap := s₁.heap.push (ritObj 0 n) }) noE s) (hn : n < 2 ^ 62)
    (hs : ∀ x, foldedSetIterable iter env x = pure x := by intro _; rfl) (ht : ∀ it v, letOwnedTupleGo target it v = pure () := by intro _ _; rfl) :
    wpAny (model prog w) A (exec (.For target iter body [] pos) env) Q noE s := by
  refine wpAny_For (wpAny_mono h (fun x s₁ h₁ => ?_) fun _ _ e => e) hs
  obtain ⟨r, t, u, v, rfl, hr, J, h0, turn, done⟩ := h₁
  have hsz : Builtin.Range.rangeSize 0 (n : Int) 1 = n := by
    unfold Builtin.Range.rangeSize
    split <;> omega
  refine wpAny_pyIter_range hr (small_one (by decide) (by decide) (by omega) (by omega)) ?_
  rw [hsz]
  let I' : Nat → Shared → Prop := fun k s' => ∃ i, i ≤ n ∧ k = n + 1 - i ∧ J i s'
  refine codeAny_forLoop I' ?_ (n + 1) ⟨0, Nat.zero_le _, rfl, h0⟩ (ht _)
  rintro k s₂ ⟨i, hi, rfl, hJ⟩
  by_cases hlt : i < n
  · obtain ⟨hit, tn⟩ := turn i s₂ hlt hJ
    refine wpAny_pyNext_range_item hit (by omega) fun h' hit' hsb => ?_
    refine wpAny_noRaise (wpAny_mono (tn h' ?_ hsb) (fun _ s₃ h₃ => wpAny_noRaise (wpAny_mono h₃ (fun f s₄ h₄ => ?_) fun _ _ e => e)) fun _ _ e => e)
    · have e1 : ((i : Int) + 1) = ((i + 1 : Nat) : Int) := by omega
      have e2 : ((n : Int) - i - 1) = ((n : Int) - ((i + 1 : Nat) : Int)) := by omega
      rw [e1, e2] at hit'; exact hit'
    · cases f with
      | next => exact ⟨n + 1 - (i + 1), by omega, i + 1, hlt, rfl, h₄⟩
      | cont => exact ⟨n + 1 - (i + 1), by omega, i + 1, hlt, rfl, h₄⟩
      | brk => exact h₄
      | ret v => exact h₄
  · have e : i = n := by omega
    subst e
    obtain ⟨hit, dn⟩ := done s₂ hJ
    exact wpAny_pyNext_range_end hh hit (Int.le_refl _) fun h' hx => wpAny_execs_nil (dn h' hx)

section
variable {h₀ : Heap} {L : Addr} {m₀ : Str → Option Value} {news₀ : List (Addr × Obj)}
/-- the invariant on frame and ledger -/
theorem runs_L (P : Nat → (Str → Option Value) → List (Addr × Obj) → Prop) (F : Fr h₀ L s.heap m₀) (N : News h₀ L s.heap news₀) (h0 : P 0 m₀ news₀)
    (hP : ∀ i m news, P i m news → ∀ p ∈ news, p.1 ≠ s.heap.objs.size)
    (turn : ∀ i m news h tk, i < n → P i m news → Fr h₀ L h m → News h₀ L h ((s.heap.objs.size, ritObj (i + 1 : Nat) ((n : Int) - (i + 1 : Nat))) :: news) →
      wpAny (model prog w) A (assign target env (.int i tk)) (fun _ s₃ => wpAny (model prog w) A (execs body env) (fun f s₄ => match f with
        | .next | .cont => ∃ h' tk' m' news', s₄ = { s with heap := h', toks := tk' } ∧ P (i + 1) m' news' ∧ Fr h₀ L h' m' ∧ News h₀ L h' ((s.heap.objs.size, ritObj (i + 1 : Nat) ((n : Int) - (i + 1 : Nat))) :: news')
        | .brk => Q .next s₄
        | .ret v => Q (.ret v) s₄) noE s₃) noE { s with heap := h, toks := tk + 1 })
    (done : ∀ h tk m news, P n m news → Fr h₀ L h m → News h₀ L h news → Q .next { s with heap := h, toks := tk }) :
    RunsAny prog w A env target body n Q s.heap.objs.size { s with heap := s.heap.push (ritObj 0 n) } := by
  refine ⟨fun i s₂ => ∃ h tk m news, s₂ = { s with heap := h, toks := tk } ∧ P i m news ∧ Fr h₀ L h m ∧ News h₀ L h ((s.heap.objs.size, ritObj i ((n : Int) - i)) :: news), ?_, ?_, ?_⟩
  · have X := grow1 F N (fun a o e => Heap.get?_push_of_some _ e) (Heap.get?_push_size (o := ritObj 0 n) _ rfl) (fresh_none _)
    have e : ((n : Int) - ((0 : Nat) : Int)) = n := by omega
    exact ⟨_, s.toks, m₀, news₀, rfl, h0, X.1, by rw [e]; exact X.2⟩
  · rintro i s₂ hi ⟨h, tk, m, news, rfl, hp, F', N'⟩
    have hI := N' _ (.head _)
    refine ⟨hI.1, fun h' hit hsb => ?_⟩
    have Y := turn1 (s := { s with heap := h, toks := tk }) (h' := h') F' N' (Upd.head (o' := ritObj (i + 1 : Nat) ((n : Int) - (i + 1 : Nat))) (hP i m news hp)) (fun a o ha e => (hsb.2 a ha).trans e) hit
    exact turn i m news h' tk hi hp Y.1 Y.2
  · rintro s₂ ⟨h, tk, m, news, rfl, hp, F', N'⟩
    have hI := N' _ (.head _)
    have e : ((n : Int) - (n : Int)) = 0 := by omega
    rw [e] at hI
    refine ⟨hI.1, fun h' hx => ?_⟩
    have hk : ∀ b o, b ≠ s.heap.objs.size → h.get? b = some o → h'.get? b = some o := fun b o hb e => hx b o hb e
    refine done h' tk m news hp ⟨F'.ns.at' fun o e => hk _ o (Ne.symm hI.2.1) e, fun b o e => hk b o (fun q => ?_) (F'.keep b o e), F'.above⟩ fun p hp' => ⟨hk _ _ (hP n m news hp p hp') (N' p (.tail _ hp')).1, (N' p (.tail _ hp')).2⟩
    rw [q, hI.2.2] at e; cases e

/-- the end of a turn -/
def TurnEnd (h₀ : Heap) (L : Addr) (m₀ : Str → Option Value) (I : Addr) (n i : Nat) (P : List (Addr × Obj) → Prop) (s s₄ : Shared) : Prop :=
  ∃ h' tk' m' news', s₄ = { s with heap := h', toks := tk' } ∧ P news' ∧ (∀ y, m' y = m₀ y) ∧ Fr h₀ L h' m' ∧ News h₀ L h' ((I, ritObj (i + 1 : Nat) ((n : Int) - (i + 1 : Nat))) :: news')
/-- the frame stands still -/
theorem runs_N (P : Nat → List (Addr × Obj) → Prop) (F : Fr h₀ L s.heap m₀) (N : News h₀ L s.heap news₀) (h0 : P 0 news₀)
    (hP : ∀ i news, P i news → news.map (·.1) = news₀.map (·.1))
    (turn : ∀ i news h tk, i < n → AllLt s.heap.objs.size news₀ → P i news → Fr h₀ L h m₀ → News h₀ L h ((s.heap.objs.size, ritObj (i + 1 : Nat) ((n : Int) - (i + 1 : Nat))) :: news) →
      wpAny (model prog w) A (assign target env (.int i tk)) (fun _ s₃ => wpAny (model prog w) A (execs body env) (fun f s₄ => match f with
        | .next | .cont => TurnEnd h₀ L m₀ s.heap.objs.size n i (P (i + 1)) s s₄
        | .brk => Q .next s₄
        | .ret v => Q (.ret v) s₄) noE s₃) noE { s with heap := h, toks := tk + 1 })
    (done : ∀ h tk news, P n news → Fr h₀ L h m₀ → News h₀ L h news → Q .next { s with heap := h, toks := tk }) :
    RunsAny prog w A env target body n Q s.heap.objs.size { s with heap := s.heap.push (ritObj 0 n) } := by
  refine runs_L (fun i m news => m = m₀ ∧ P i news) F N ⟨rfl, h0⟩ (fun i m news x p hp => ?_) (fun i m news h tk hi x F' N' => ?_) fun h tk m news x F' N' => ?_
  · have h1 : p.1 ∈ news.map (·.1) := List.mem_map.mpr ⟨p, hp, rfl⟩
    rw [hP i news x.2] at h1
    obtain ⟨q, hq1, hq2⟩ := List.mem_map.mp h1
    rw [← hq2]
    exact Nat.ne_of_lt (Heap.lt_size (N q hq1).1)
  · obtain ⟨rfl, hp⟩ := x
    refine wpAny_mono (turn i news h tk hi (allLt_of fun q hq => Heap.lt_size (N q hq).1) hp F' N') (fun _ s₃ h₃ => wpAny_mono h₃ (fun f s₄ h₄ => ?_) fun _ _ e => e) fun _ _ e => e
    have fin : TurnEnd h₀ L m s.heap.objs.size n i (P (i + 1)) s s₄ →
        ∃ h' tk' m' news', s₄ = { s with heap := h', toks := tk' } ∧ (m' = m ∧ P (i + 1) news') ∧ Fr h₀ L h' m' ∧ News h₀ L h' ((s.heap.objs.size, ritObj (i + 1 : Nat) ((n : Int) - (i + 1 : Nat))) :: news') := by
      rintro ⟨h', tk', m', news', e, hp', hm, F₁, N₁⟩
      exact ⟨h', tk', m', news', e, ⟨funext hm, hp'⟩, F₁, N₁⟩
    cases f with
    | next => exact fin h₄
    | cont => exact fin h₄
    | brk => exact h₄
    | ret v => exact h₄
  · obtain ⟨rfl, hp⟩ := x
    exact done h tk news hp F' N'
end
end
end Aq
-- part AqM
open PySem PySem.W PyProof.Rows
set_option Elab.async false
set_option maxRecDepth 100000
namespace Aq
open PySem PySem.W PySem.Calls PyProof.Rows PySem.Spec
theorem ls_fill_i : fillsInplaceSlot (.type "list") "add" (Operator.Add == .Add) = pure false := by kernel_rfl
theorem ls_fill : fillsNumberSlot (.type "list") "add" = pure false := by kernel_rfl
theorem ls_sub : isSubtype (.type "list") (.type "list") = pure true := by kernel_rfl
theorem ls_slot_iadd : Slot "list" "__iadd__" "list.__iadd__" :=
  .of (owner := "list") (n := "__iadd__") (by rw [typeLookup_type, builtinLookup_eq_fast]; kernel_rfl) (by decide +kernel) (by decide +kernel) (by decide +kernel)
    (by first | exact .inl (by decide +kernel) | exact .inr (by decide +kernel)) ls_sub
theorem ls_seq_iadd : seqSlot? (.type "list") (dunderI "add") = pure (some (.builtin "list.__iadd__")) := PySem.seqSlot_of ls_slot_iadd.lookup (by decide +kernel)
theorem ls_entry_iadd : entryFor table "list.__iadd__" = some Builtin.«list.__iadd__» := by first | exact entryFor_of_fast (by kernel_rfl) | exact entryFor_of_tree (by kernel_rfl)
theorem ls_args_iadd (a b : Value) : argsOk "list.__iadd__" ⟨[a, b], []⟩ := by unfold argsOk; kernel_rfl
section
variable {prog : Program} {w : World} {A : Around} {s : Shared} {E : Value → Shared → Prop}
theorem iadd_list {l b : Addr} {items items2 : Array Value} {n n2 : Nat} {Q : Value → Shared → Prop} (hl : s.heap.get? l = some (listOf items n)) (hb : s.heap.get? b = some (listOf items2 n2)) (hz : items.size + items2.size ≤ sizeLine)
    (h : Q (.ref l) { s with heap := s.heap.update l (Obj.mapSeq fun x => x ++ items2) }) : wpAny (model prog w) A (inplaceOp .Add (.ref l) (.ref b)) Q E s := by
  have hT : s.TypeIs (.ref l) "list" := ⟨_, hl, rfl⟩
  have hT2 : s.TypeIs (.ref b) "list" := ⟨_, hb, rfl⟩
  unfold inplaceOp
  refine wpAny_holding ?_
  refine wpAny_bind (wpAny_typeOf hT ?_)
  refine wpAny_bind (wpAny_of_eq ls_fill_i ?_)
  refine wpAny_ite ?_
  rw [if_neg (by simp)]
  refine wpAny_bind ?_
  simp only [binaryOp1]
  refine wpAny_bind (wpAny_typeOf hT (wpAny_bind (wpAny_typeOf hT2 (wpAny_bind (wpAny_of_eq ls_fill ?_)))))
  simp only [beq_self_eq_true, if_true, pure_bind, Bool.false_and, Bool.false_eq_true, if_false]
  refine wpAny_pure ?_
  refine wpAny_bind (wpAny_of_eq ls_seq_iadd ?_)
  refine wpAny_bind (wpAny_rule ?_)
  exact call_meets ls_slot_iadd hT ls_entry_iadd (ls_args_iadd _ _) (AutoSeq1.list___iadd___list_list_0 l items n b items2 n2 (extend_door hz) (by omega) (by omega)) ⟨hl, hb, h⟩
end
theorem upd_of_F {d : Addr} {o : Obj} : ∀ {l : List (Addr × Obj)} {g : Obj → List (Addr × Obj)}, UpdF d o l g → ∀ o', Upd d o o' l (g o')
  | _, _, .head h, _ => .head h
  | _, _, .tail h r, o' => .tail h (upd_of_F r o')
section
variable {prog : Program} {w : World} {A : Around} {s : Shared} {E : Value → Shared → Prop} {h₀ : Heap} {L : Addr} {m : Str → Option Value} {news : List (Addr × Obj)} {g : Obj → List (Addr × Obj)}
/-- one list of the ledger prolonged by another -/
theorem iadd_LL {l b : Addr} {us vs : List Value} {ns ms : List Int} {n n2 : Nat} {Q : Value → Shared → Prop} (F : Fr h₀ L s.heap m) (N : News h₀ L s.heap news) (U : UpdF l (listOf us.toArray n) news g) (hb : (b, listOf vs.toArray n2) ∈ news)
    (hi : IntsAre us ns) (hj : IntsAre vs ms) (hz : ns.length + ms.length ≤ 1000000)
    (h : ∀ h' n', Fr h₀ L h' m → News h₀ L h' (g (listOf (us ++ vs).toArray n')) → IntsAre (us ++ vs) (ns ++ ms) → Q (.ref l) { s with heap := h' }) : wpAny (model prog w) A (inplaceOp .Add (.ref l) (.ref b)) Q E s := by
  have hm := N _ (upd_mem (upd_of_F U (listOf us.toArray n)))
  refine iadd_list hm.1 (N _ hb).1 (by have := hi.length; have := hj.length; simp only [List.size_toArray, sizeLine_eq]; omega) ?_
  have e := Heap.get?_update_self (Obj.mapSeq fun x => x ++ vs.toArray) hm.1 rfl
  have X := turn1 F N (upd_of_F U _) (fun a o ha e => (Heap.get?_update_ne _ _ _ _ ha).trans e) e
  rw [mapSeq_app] at X
  have e2 : us.toArray ++ vs.toArray = (us ++ vs).toArray := by simp
  rw [e2] at X
  exact h _ _ X.1 X.2 (hi.append hj)
end
end Aq
-- part AqV
open PySem PySem.W PyProof.Rows
set_option Elab.async false
namespace Aq
def wireUp (xs zi : List Int) : Nat → List Int
  | 0 => []
  | i + 1 => wireUp xs zi i ++ (rangeKs 0 (zi.getD i 0).toNat).map fun j => ((xs.getD i 0).fdiv (256 ^ (zi.getD i 0 - 1 - j).toNat)).fmod 256
theorem octs_range {n z : Int} : (rangeKs 0 z.toNat).map (fun j => (n.fdiv (256 ^ (z - 1 - j).toNat)).fmod 256) = octs z.toNat n := by
  unfold rangeKs octs
  rw [List.map_map]
  refine List.map_congr_left fun j hj => ?_
  have := List.mem_range.mp hj
  have e : (z - 1 - (0 + (j : Int))).toNat = z.toNat - 1 - j := by omega
  simp only [Function.comp_apply, e]
theorem wireUp_take (xs zi : List Int) : ∀ i, i ≤ xs.length → i ≤ zi.length → wireUp xs zi i = wireL (xs.take i) ((zi.take i).map Int.toNat)
  | 0, _, _ => by simp [wireUp, wireL]
  | i + 1, hx, hz => by
    have ih := wireUp_take xs zi i (by omega) (by omega)
    have e1 : xs.take (i + 1) = xs.take i ++ [xs.getD i 0] := by
      rw [List.take_add_one, List.getElem?_eq_getElem (by omega), List.getD_eq_getElem?_getD, List.getElem?_eq_getElem (by omega)]; rfl
    have e2 : zi.take (i + 1) = zi.take i ++ [zi.getD i 0] := by
      rw [List.take_add_one, List.getElem?_eq_getElem (by omega), List.getD_eq_getElem?_getD, List.getElem?_eq_getElem (by omega)]; rfl
    rw [e1, e2, List.map_append, List.map_cons, List.map_nil, wireL_snoc (by simp; omega), ← ih, wireUp, octs_range]
theorem wireUp_eq (xs zi : List Int) (hl : xs.length = zi.length) : wireUp xs zi zi.length = wireL xs (zi.map Int.toNat) := by
  rw [wireUp_take xs zi _ (by omega) (Nat.le_refl _), List.take_of_length_le (by omega), List.take_of_length_le (Nat.le_refl _)]

/-- a slice of step one -/
def cut (lo hi : Option Int) (ns : List Int) : List Int := (ns.drop (kms_lo lo ns.length)).take (kms_hi hi ns.length - kms_lo lo ns.length)
theorem cut_le (lo hi : Option Int) (ns : List Int) : (cut lo hi ns).length ≤ ns.length := by
  unfold cut; simp only [List.length_take, List.length_drop]; omega
section
variable {prog : Program} {w : World} {A : Around} {E : Value → Shared → Prop} {s : Shared} {h₀ : Heap} {L l : Addr} {m : Str → Option Value} {news : List (Addr × Obj)} {value slice : PySem.Expr} {vs : List Value} {ns : List Int} {vl vu : Value} {lo hi : Option Int} {c : Nat} {Q : Value → Shared → Prop}
/-- a slice of a list of the ledger -/
theorem slice_L (F : Fr h₀ L s.heap m) (N : News h₀ L s.heap news) (hl : (l, listOf vs.toArray c) ∈ news) (pl : IsPart vl lo) (pu : IsPart vu hi) (hi' : IntsAre vs ns) (hz : ns.length ≤ 1000000)
    (h : ∀ D ws h', Fr h₀ L h' m → News h₀ L h' ((D, listOf (List.toArray ws) 0) :: news) → (∀ p ∈ news, p.1 < D) → IntsAre ws (cut lo hi ns) → (cut lo hi ns).length ≤ ns.length → Q (.ref D) { s with heap := h' })
    (hs : subscripted slice false (.ref l) (.ref s.heap.objs.size) = operate [.ref s.heap.objs.size, .ref l] (getItem (.ref l) (.ref s.heap.objs.size))) (ht : ∀ r, letTemporaryGo value (.ref l) r = pure ()) :
    wpAny (model prog w) A (subscriptTail value slice (.ref l) (.ref s.heap.objs.size)) Q E { s with heap := s.heap.push { cls := .type "slice", data := .fields #[vl, vu, .none] } } :=
  kmk_slice_ints F N (News.isList N hl) pl pu hi' (kssn_any hi') rfl (fun D ws h' F' N' l1 i _ le => h D ws h' F' N' l1 i le) hs ht (by have := hi'.length; simp only [List.size_toArray, sizeLine_eq]; omega)
end

/-- what _law_read holds behind some of the sizes -/
def readF (os : List Int) (pre : List Int) : List Int × Int := pre.foldl (fun st z => (st.1 ++ [natBE (cut (some st.2) (some (st.2 + z)) os)], st.2 + z)) ([], 0)
theorem readF_snoc (os pre : List Int) (z : Int) : readF os (pre ++ [z]) = ((readF os pre).1 ++ [natBE (cut (some (readF os pre).2) (some ((readF os pre).2 + z)) os)], (readF os pre).2 + z) := by
  unfold readF; rw [List.foldl_append]; rfl
theorem natBE_snoc (l : List Int) (x : Int) : natBE (l ++ [x]) = natBE l * 256 + x := by
  unfold natBE; rw [List.foldl_append]; rfl
theorem natBE_nil : natBE [] = 0 := rfl
theorem readF_nil (os : List Int) : readF os [] = ([], 0) := rfl
theorem cut_run (os : List Int) {a z : Int} (ha : 0 ≤ a) (hz : 0 ≤ z) : cut (some a) (some (a + z)) os = (os.drop a.toNat).take z.toNat := by
  have h1 : kms_lo (some a) os.length = min a.toNat os.length := by show (if a < 0 then _ else _) = _; rw [if_neg (by omega)]
  have h2 : kms_hi (some (a + z)) os.length = min (a + z).toNat os.length := by show (if a + z < 0 then _ else _) = _; rw [if_neg (by omega)]
  unfold cut
  rw [h1, h2]
  by_cases hl : a.toNat ≤ os.length
  · rw [Nat.min_eq_left hl]
    apply List.ext_getElem?
    intro i
    simp only [List.getElem?_take, List.getElem?_drop]
    by_cases h3 : i < z.toNat
    · rw [if_pos h3]
      split
      · rfl
      · rw [List.getElem?_eq_none (by omega)]
    · rw [if_neg h3, if_neg (by omega)]
  · rw [List.drop_eq_nil_of_le (by omega), List.drop_eq_nil_of_le (by omega)]; simp
theorem cut_upto (os : List Int) {b : Int} (hb : 0 ≤ b) : cut none (some b) os = os.take b.toNat := by
  have h2 : kms_hi (some b) os.length = min b.toNat os.length := by show (if b < 0 then _ else _) = _; rw [if_neg (by omega)]
  unfold cut
  rw [h2]
  show (os.drop 0).take (min b.toNat os.length - 0) = _
  rw [List.drop_zero, Nat.sub_zero]
  by_cases h : b.toNat ≤ os.length
  · rw [Nat.min_eq_left h]
  · rw [Nat.min_eq_right (by omega), List.take_of_length_le (Nat.le_refl _), List.take_of_length_le (by omega)]
theorem cut_from (os : List Int) {a : Int} (ha : 0 ≤ a) : cut (some a) none os = os.drop a.toNat := by
  have h1 : kms_lo (some a) os.length = min a.toNat os.length := by show (if a < 0 then _ else _) = _; rw [if_neg (by omega)]
  unfold cut
  rw [h1]
  show (os.drop _).take (os.length - _) = _
  rw [List.take_of_length_le (by simp only [List.length_drop]; omega)]
  by_cases hl : a.toNat ≤ os.length
  · rw [Nat.min_eq_left hl]
  · rw [List.drop_eq_nil_of_le (by omega), List.drop_eq_nil_of_le (by omega)]
theorem readL_snoc (z : Nat) : ∀ (ds : List Nat) (os : List Int), readL os (ds ++ [z]) = readL os ds ++ [natBE ((os.drop ds.sum).take z)]
  | [], os => by simp [readL]
  | d :: ds, os => by
    rw [List.cons_append, readL, readL, readL_snoc z ds]
    simp [List.drop_drop]
theorem readF_eq (os : List Int) : ∀ (pre post : List Int), (∀ z ∈ post, 0 ≤ z) → 0 ≤ (readF os pre).2 → (readF os pre).2.toNat = (pre.map Int.toNat).sum → (readF os pre).1 = readL os (pre.map Int.toNat) →
    (readF os (pre ++ post)).1 = readL os ((pre ++ post).map Int.toNat)
  | pre, [], _, _, _, h => by simpa using h
  | pre, z :: post, hp, h0, h1, h2 => by
    have hz := hp z (by simp)
    have e : pre ++ z :: post = (pre ++ [z]) ++ post := by simp
    rw [e]
    refine readF_eq os (pre ++ [z]) post (fun y hy => hp y (.tail _ hy)) ?_ ?_ ?_
    · rw [readF_snoc]; show 0 ≤ (readF os pre).2 + z; omega
    · rw [readF_snoc]; show ((readF os pre).2 + z).toNat = _; rw [List.map_append, List.sum_append]; simp only [List.map_cons, List.map_nil, List.sum_cons, List.sum_nil]; omega
    · rw [readF_snoc, cut_run os h0 hz, List.map_append, List.map_cons, List.map_nil, readL_snoc, ← h1, ← h2]
theorem readF_all (os zi : List Int) (hb : ∀ z ∈ zi, 1 ≤ z ∧ z ≤ 4) : (readF os zi).1 = readL os (zi.map Int.toNat) :=
  readF_eq os [] zi (fun z hz => by have := hb z hz; omega) (Int.le_refl 0) rfl rfl
end Aq
-- part AqW
open PySem PySem.W PyProof.Rows
set_option Elab.async false
namespace Aq
open PySem PySem.W PySem.Calls PyProof.Rows PySem.Spec
local macro_rules | `(tactic| k_all) => `(tactic| first | exact allLt_ne (by assumption) (by (try dsimp only); omega) | exact OwnOff.ne (by assumption) (by simp only [List.mem_cons, true_or, or_true]))
local macro_rules | `(tactic| walk_at "subscriptTail Name Name ref int") => `(tactic| (k_here; refine' item9 ?kF ?kl ?ki ?kM ?k0 ?k1 ?_; (case kF => k_asm); (case kl => assumption); (case ki => assumption); (case kM => assumption); (case k0 => assumption); (case k1 => assumption); k_whole; intro t9))
theorem pow_log9 {z j : Int} (hz : z ≤ 4) (hj : 0 ≤ j) : ((256 : Int) ^ (z - 1 - j).toNat).natAbs.log2 < 9000 := by
  have h : (z - 1 - j).toNat ≤ 3 := by omega
  generalize (z - 1 - j).toNat = n at h
  have : n = 0 ∨ n = 1 ∨ n = 2 ∨ n = 3 := by omega
  rcases this with rfl | rfl | rfl | rfl <;> decide +kernel
local macro_rules | `(tactic| walk_at "binaryOp FloorDiv int int") => `(tactic| (with_reducible refine floordiv_int (pow_ne9 _) ?_ (Or.inl (PyProof.noPylong_of_log2 (pow_log9 (by assumption) (by assumption))))))
theorem wireUp_len {xs zi : List Int} (hb : ∀ z ∈ zi, 1 ≤ z ∧ z ≤ 4) : ∀ i, (wireUp xs zi i).length ≤ 4 * i
  | 0 => Nat.le_refl _
  | i + 1 => by
    have := wireUp_len (xs := xs) hb i
    have hg := (getD_le9 hb i).2
    simp only [wireUp, List.length_append, List.length_map, rangeKs_length]
    omega
theorem allLt_all {d : Addr} : ∀ {l : List (Addr × Obj)}, AllLt d l → ∀ p ∈ l, p.1 < d
  | [], _ => fun _ hp => nomatch hp
  | _ :: _, h => List.forall_mem_cons.mpr ⟨h.1, allLt_all h.2⟩
theorem News.tail1 {h₀ h : Heap} {L : Addr} {q : Addr × Obj} {l : List (Addr × Obj)} (N : News h₀ L h (q :: l)) : News h₀ L h l := fun p hp => N p (.tail _ hp)
theorem wire_size {a b z i : Nat} {zi : List Int} (ha : a ≤ 4 * i) (hi : i < zi.length) (hl : zi.length ≤ 3) (hz : zi.getD z 0 ≤ 4) (hb : b = (zi.getD z 0 - 0).toNat) : a + b ≤ 1000000 := by omega
local macro_rules | `(tactic| walk_at "inplaceOp Add ref ref") => `(tactic| (refine' iadd_LL ?ilF ?ilN ?ilU ?ilb ?ili ?ilj ?ilz ?_; (case ilF => k_asm); (case ilN => k_asm); (case ilU => k_updF); (case ilb => k_dflt k_mem); (case ili => l_ints); (case ilj => l_ints); (case ilz => exact wire_size (by assumption) (by assumption) (by assumption) (by assumption) (by simp only [List.length_map, rangeKs_length])); k_whole; intro h' n' F' N' i'; (try dsimp only at N')))
set_option maxRecDepth 100000 in
set_option maxHeartbeats 2000000 in
theorem wire_ct {w : World} {s : Shared} {base h₀ : Heap} {L : Addr} {mL mg mb : Str → Option Value} {envL : Env} {p : Program} {loose : List Str} {mean : ExcName → Option Value} {Q : Value → Shared → Prop} {envD : Env}
    {V sz : Addr} {ys zv : List Value} {xs zi : List Int} {own : List (Addr × Obj)}
    (B : Below (callerA.deeper envL) base [envL] h₀) (F : Fr h₀ L s.heap mL) (X₀ : (hd.heap_39 w.params).In h₀) (T : Top p loose mean mg mb h₀) (hf : envD.frame = some L) (hke : envD.scope.kind = .function)
    (N : News h₀ L s.heap ((V, LCg.lst ys) :: own))
    (hL : h₀.IsList sz (List.toArray zv)) (hz : IntsAre zv zi) (hz3 : zi.length ≤ 3) (hzb : ∀ z ∈ zi, 1 ≤ z ∧ z ≤ 4) (hx : IntsAre ys xs) (hxl : xs.length = zi.length)
    (k : ∀ D ws c os h' tk, Fr h₀ L h' mL → News h₀ L h' ((D, listOf (List.toArray ws) c) :: (V, LCg.lst ys) :: own) → (∀ p ∈ (V, LCg.lst ys) :: own, p.1 < D) → IntsAre ws os → os = wireL xs (zi.map Int.toNat) → os.length ≤ 12 → Q (.ref D) { s with heap := h', toks := tk }) :
    wpAny (model PySem.Challenge.rw_aq6016_01.row.toRowW.prog w) ((callerA.deeper envL).deeper envD) (call (.ref 163) [.ref V, .ref sz] []) Q noE s := by
  revert X₀; k_fill; intro X₀
  refine wpAny_call ?_
  (refine' code_defC ?k1 ?k2 ?k3 ?k4 ?k5 ?kA ?kF ?kK ?k6 ?k7 ?k8 ?k9 ?kB ?kD ?_ ?c2 ?c3 ?c4; (case kA => exact rfl); (case kF => first | exact rfl | assumption); (case kK => first | exact rfl | assumption); (case k1 => k_asm); (case k2 => k_asm); (case k3 => k_asm); (case k4 => k_asm); (case k5 => k_asm); (case k6 => k_is); (case k7 => k_is); (case k8 => k_room); (case k9 => first | exact BindsTo.of_eq rfl | exact binds_K (by k_in) rfl (by k_is) rfl rfl rfl | fail "k_enter: no rule for these arguments"); (case kB => exact rfl); (case kD => decide +kernel); (case c2 => exact rfl); (case c3 => exact rfl); (case c4 => exact rfl); k_whole; intro g' L' h' tk' cells' FG' F' N' Y' B' X' T' l1; (try k_lt l1); k_cells Y'; (try simp only [List.cons_append, List.nil_append] at N'); (try dsimp only); (try k_lift B'); (try k_fold))
  have hL' := Fr.lst FG' hL
  have hO := l1.2
  (try k_fold); k_steps
  refine wpAny_noRaise ?_
  refine For_range_any (n := zi.length) rfl ?_ (by omega)
  (try k_fold); k_steps
  rename_i o1 o2 o3 d1 d2 d3 W hq1 lq hq2 Fq Nq h9 tk9 t9 u9 v9 r9 F9 N9 k9
  clear Fq Nq r9 k9 F N hq1
  refine runs_N (s := ⟨h9, s.gens, s.drawn, tk9, s.os⟩) (fun i news => ∃ oc ws v c, news = (W, listOf (List.toArray ws) c) :: (L' + 1 + 1 + 1, oc) :: (L' + 1 + 1, o2) :: (L' + 1, o3) :: (V, LCg.lst ys) :: own ∧ oc.data = .cell v ∧ IntsAre ws (wireUp xs zi i)) F9 N9 ⟨o1, [], _, 0, rfl, d1, .nil⟩ ?_ ?_ ?_
  · rintro i news ⟨oc, ws, v, c, rfl, _⟩; rfl
  · rintro i news h tk hi lI ⟨oc, ws, v, c, rfl, hoc, hws⟩ Fa Na
    simp only [AllLt, and_true] at lI
    clear F9 N9
    have hg := getD_le9 hzb (i : Int).toNat
    have hg1 := hg.1
    have hg2 := hg.2
    generalize h9.objs.size = I at *
    have hwl := wireUp_len (xs := xs) hzb i
    k_steps
    rename_i N9
    rename Fr _ _ _ _ => F9
    rename IntsAre (ws ++ _) _ => J9
    rename Obj => o9
    exact ⟨_, _, _, _, rfl, ⟨_, _, _, _, rfl, by assumption, by simpa only [wireUp, Int.toNat_natCast, Int.sub_zero] using J9⟩, fun y => by by_cases hy : y = Str.ofString "wire" <;> simp only [hy, if_true, if_false], F9, News.tail1 N9⟩
  · rintro h tk news ⟨oc, ws, v, c, rfl, hoc, hws⟩ Fa Na
    k_steps
    rename Fr _ _ _ _ => F9
    rename News _ _ _ _ => N9
    refine k W ws c _ h tk F9 (News.sub N9 ?_) (List.forall_mem_cons.mpr ⟨lq.2.2.2.1, allLt_all lq.2.2.2.2⟩) hws (wireUp_eq xs zi hxl) (by have := wireUp_len (xs := xs) hzb zi.length; omega)
    intro p hp
    simp only [List.mem_cons] at hp ⊢
    rcases hp with h | h | h
    · exact .inl h
    · exact .inr (.inr (.inr (.inr (.inl h))))
    · exact .inr (.inr (.inr (.inr (.inr h))))
end Aq
-- part AqRd
open PySem PySem.W PyProof.Rows
set_option Elab.async false
namespace Aq
open PySem PySem.W PySem.Calls PyProof.Rows PySem.Spec
local macro_rules | `(tactic| k_all) => `(tactic| first | exact allLt_ne (by assumption) (by (try dsimp only); omega) | exact OwnOff.ne (by assumption) (by simp only [List.mem_cons, true_or, or_true]))
local macro_rules | `(tactic| walk_at "subscriptTail Name Name ref int") => `(tactic| (k_here; refine' item9 ?kF ?kl ?ki ?kM ?k0 ?k1 ?_; (case kF => k_asm); (case kl => assumption); (case ki => assumption); (case kM => assumption); (case k0 => assumption); (case k1 => assumption); k_whole; intro t9))

local macro_rules | `(tactic| walk_at "pyIter ref") => `(tactic| k_state_given ["octets"] (fun os pre told at' => told = (readF os pre).1 ∧ at' = (readF os pre).2 ∧ told.length = pre.length) "told" "at")
local macro_rules | `(tactic| walk_at "pyIter ref") => `(tactic| k_state (fun pre value => value = natBE pre) "value")
local macro_rules | `(tactic| walk_at "exec For Name Subscript cons nil") => `(tactic| (k_here; (rename Fr _ _ _ _ => lF'); (with_unfolding_all refine' For_invVF lF' ?k1 ?k2 ?_; (case k1 => exact rfl); (case k2 => exact rfl); k_whole)))
local macro_rules | `(tactic| walk_at "subscriptTail Name Slice ref ref") => `(tactic| (k_here; (with_reducible show wpAny _ _ (subscriptTail _ (PySem.Expr.Slice _ _ none _) (Value.ref _) (Value.ref _)) _ _ _); k_dflt (refine' slice_L ?F ?N ?l ?p ?q ?i ?z ?_ ?s ?t; (case F => k_asm); (case N => k_asm); (case l => k_mem); (case p => kmk_part); (case q => kmk_part); (case i => l_ints); (case z => (first | omega | (simp only [List.length_append]; omega))); (case s => with_unfolding_all rfl); (case t => kmk_pure)); intro D' ws' h' F' N' l1 hI' hL'; (try k_lt l1); (try k_sweep)))
set_option maxRecDepth 100000 in
set_option maxHeartbeats 2000000 in
theorem read_ct {w : World} {s : Shared} {base h₀ : Heap} {L : Addr} {mL mg mb : Str → Option Value} {envL : Env} {p : Program} {loose : List Str} {mean : ExcName → Option Value} {Q : Value → Shared → Prop} {envD : Env}
    {V sz : Addr} {ys zv : List Value} {xs zi : List Int} {cV : Nat} {own : List (Addr × Obj)}
    (B : Below (callerA.deeper envL) base [envL] h₀) (F : Fr h₀ L s.heap mL) (X₀ : (hd.heap_39 w.params).In h₀) (T : Top p loose mean mg mb h₀) (hf : envD.frame = some L) (hke : envD.scope.kind = .function)
    (N : News h₀ L s.heap ((V, listOf (List.toArray ys) cV) :: own))
    (hL : h₀.IsList sz (List.toArray zv)) (hz : IntsAre zv zi) (hz3 : zi.length ≤ 3) (hzb : ∀ z ∈ zi, 1 ≤ z ∧ z ≤ 4) (hx : IntsAre ys xs) (hxl : xs.length ≤ 100000)
    (k : ∀ D vs h' tk, Fr h₀ L h' mL → News h₀ L h' ((D, { cls := .type "tuple", data := .seq (List.toArray vs) }) :: (V, listOf (List.toArray ys) cV) :: own) → IntsAre vs (readL xs (zi.map Int.toNat)) → Q (.ref D) { s with heap := h', toks := tk }) :
    wpAny (model PySem.Challenge.rw_aq6016_01.row.toRowW.prog w) ((callerA.deeper envL).deeper envD) (call (.ref 170) [.ref V, .ref sz] []) Q noE s := by
  revert X₀; k_fill; intro X₀
  refine wpAny_call ?_
  (refine' code_def ?k1 ?k2 ?k3 ?k4 ?k5 ?kA ?kF ?kK ?k6 ?k7 ?k8 ?k9 ?kB ?_ ?c2 ?c3 ?c4 ?c5; (case kA => exact rfl); (case kF => first | exact rfl | assumption); (case kK => first | exact rfl | assumption); (case k1 => k_asm); (case k2 => k_asm); (case k3 => k_asm); (case k4 => k_asm); (case k5 => k_asm); (case k6 => k_is); (case k7 => k_is); (case k8 => k_room); (case k9 => first | exact BindsTo.of_eq rfl | exact binds_K (by k_in) rfl (by k_is) rfl rfl rfl | fail "k_enter: no rule for these arguments"); (case c5 => decide); (case kB => exact locs rfl); (case c2 => exact rfl); (case c3 => exact rfl); (case c4 => exact rfl); k_whole; intro g' L' h' FG' F' N' B' X' T'; (try dsimp only); (try k_lift B'); (try k_fold))
  have hL' := Fr.lst FG' hL
  (k_with "state" => (first | exact ⟨rfl, rfl, rfl⟩ | exact natBE_nil.symm | (rw [natBE_snoc]; omega) | ((rename (_ = (readF _ _).1) => e1); (rename (_ = (readF _ _).2) => e2); (rename (_ = natBE (cut _ _ _)) => e3); (rename (List.length _ = List.length _) => e4); rw [readF_snoc, ← e1, ← e2, ← e3]; exact ⟨rfl, rfl, by simp only [List.length_append, List.length_cons, List.length_nil]; omega⟩)))
  (try k_fold); k_steps
  rename Fr _ _ _ _ => F9
  rename News _ _ _ _ => N9
  rename IntsAre _ _ => I9
  rename (_ = (readF _ _).1) => e1
  refine k _ _ _ _ F9 (News.sub N9 ?_) (by rw [← readF_all xs zi hzb, ← e1]; exact I9)
  intro p hp
  simp only [List.mem_cons] at hp ⊢
  rcases hp with h | h | h
  · exact .inl h
  · exact .inr (.inr (.inr (.inl h)))
  · exact .inr (.inr (.inr (.inr h)))
end Aq
-- part AqX
open PySem PySem.W PyProof.Rows
set_option Elab.async false
set_option maxRecDepth 100000
namespace Aq
open PySem PySem.W PySem.Calls PyProof.Rows PySem.Spec
section
variable {prog : Program} {w : World} {A₀ A : Around} {s : Shared} {base h₀ : Heap} {outer : List Env} {L : Addr} {m mg mb : Str → Option Value} {env : Env} {news : List (Addr × Obj)} {K : Frag} {p : Program} {loose : List Str} {mean : ExcName → Option Value}
  {R : Flow → Shared → Prop} {name qual : Str} {params : Arguments} {body : List Stmt} {scope : Scope} {dV kV doc pm cdv ct oc : Value} {an od : Option Addr} {osl : Array (Option Value)} {f : Addr} {args : Args} {binds : List (Str × Value)}

theorem frameC (B : Below A₀ base outer h₀) (F : Fr h₀ L s.heap m) (N : News h₀ L s.heap news) (hlim : h₀.NoLimit) (hA : A.frames = some (env :: outer)) (hf : env.frame = some L) (hke : env.scope.kind = .function)
    (hloc : ∀ y ∈ binds, scope.names.lookup y.1 = some .local)
    (h : ∀ g L' h₁, Fr h₀ L g m → Fr g L' h₁ (fun y => binds.reverse.lookup y) → News g L' h₁ news → Below A base (env :: outer) g → h₀.StaysIn g →
      wpC (model prog w) (A.deeper (envOf qual scope L' f cdv)) (execs body (envOf qual scope L' f cdv))
        (fun fl s' => LeaveK h₀ L m g (okOf R) (match fl with | .ret v => v | _ => .none) s') { s with heap := h₁, toks := s.toks + binds.length })
    (hcell : ∀ x ∈ scope.names, x.2 ≠ .cell) (hk : scope.kind = .function) {E : Value → Shared → Prop} :
    wpAny (model prog w) A.in1 (newFunctionEnv scope mainGlobals [] binds (qual ++ ".<locals>.") (some f) cdv none builtinsNs) (fun env' s₂ => s₂.heap.NoLimit ∧ codeC (model prog w) A (.func body env') R s₂) E s := by
  obtain ⟨FG, BG, st, lv⟩ := groundX (R := okOf R) B F N hA hf hke
  refine wpAny_newFunctionEnv hcell hloc (fun h₁ hns hsb => ⟨(hlim.keeps F.keep).fresh _ hsb, codeC_func ?_⟩) hk
  have hk₁ : ∀ b o, s.heap.get? b = some o → h₁.get? b = some o := fun b o e => hsb.extBut b o (Nat.ne_of_lt (Heap.lt_size e)) (Heap.get?_push_of_some _ e)
  exact wpC_mono (h _ s.heap.objs.size h₁ FG ⟨hns, fun b o e => hk₁ b o (of_hideAll _ e), Nat.le_of_eq (hideAll_size _ _)⟩
    (fun p hp => ⟨hk₁ _ _ (N p hp).1, Nat.ne_of_lt (Heap.lt_size (N p hp).1), hideAll_none _ (List.mem_map_of_mem hp)⟩) BG st) fun fl s' hl => lv _ _ hl

/-- a def with *args called over clean contexts -/
theorem codeC_rest {vs : List Value} {g₁ : Addr → Option (List (Str × Value))} {binds : Addr → List (Str × Value)}
    (B : Below A₀ base outer h₀) (F : Fr h₀ L s.heap m) (X₀ : K.In h₀) (N : News h₀ L s.heap news) (T : Top p loose mean mg mb h₀) (hA : A.frames = some (env :: outer)) (hf : env.frame = some L) (hke : env.scope.kind = .function)
    (ho : K.lookup f = some ⟨oc, od, .func (fnOf name qual params body scope dV kV doc pm an cdv ct), osl⟩) (hcd : codeIn K cdv qual = true) (hroom : A.depth < recursionLimit)
    (hp : peek1 K ⟨prog, w.params⟩ (bindArgs (fnOf name qual params body scope dV kV doc pm an cdv ct) args) = some (({ cls := .type "tuple", data := .seq vs.toArray } : Obj), g₁))
    (hg : ∀ D, g₁ D = some (binds D)) (hloc : ∀ D, ∀ y ∈ binds D, scope.names.lookup y.1 = some .local)
    (h : ∀ D g L' h₁, (∀ p ∈ news, p.1 < D) → Fr h₀ L g m → Fr g L' h₁ (fun y => (binds D).reverse.lookup y) → News g L' h₁ ((D, ({ cls := .type "tuple", data := .seq vs.toArray } : Obj)) :: news) → Below A base (env :: outer) g → K.In g → Top p loose mean mg mb g →
      wpC (model prog w) (A.deeper (envOf qual scope L' f cdv)) (execs body (envOf qual scope L' f cdv))
        (fun fl s' => LeaveK h₀ L m g (okOf R) (match fl with | .ret v => v | _ => .none) s') { s with heap := h₁, toks := s.toks + (binds D).length })
    (hco : scope.isCoroutine = false) (hgen : scope.isGenerator = false) (hk : scope.kind = .function)
    (hcell : ∀ x ∈ scope.names, x.2 ≠ .cell) : codeC (model prog w) A (.call (.ref f) args) R s := by
  refine codeC_call_function (fd := fnOf name qual params body scope dV kV doc pm an cdv ct) (body := body) hroom ((X₀.keeps F.keep) _ _ ho) rfl hco hgen rfl (codeRec_of (X₀.keeps F.keep) hcd) ?_
  refine wp_of_peek1 (o := ({ cls := .type "tuple", data := .seq vs.toArray } : Obj)) F N (X₀.keeps F.keep) rfl (r := binds) (fun D h' F' N' l => ?_) _ g₁ hp hg
  exact frameC (s := { s with heap := h' }) B F' N' T.nolimit hA hf hke (hloc D) (fun g L' h₁ FG FL NG BG st => h D g L' h₁ l FG FL NG BG (X₀.keeps st) (T.keeps st)) hcell hk

theorem codeC_method {q : Addr} {fv self : Value} {pos : List Value} {kw : List (Str × Value)} (ho : s.heap.get? q = some (methodObj fv self)) (h : codeC (model prog w) A (.call fv ⟨self :: pos, kw⟩) R s) :
    codeC (model prog w) A (.call (.ref q) ⟨pos, kw⟩) R s := by
  obtain ⟨hh, g, dr, t, os⟩ := s
  refine codeC_of_tree rfl (wpC_of_any ?_)
  show wpAny _ _ (callAny (.ref q) _) _ _ _
  dsimp only at ho
  refine nd_load ho ?_
  cases fv <;> exact wpAny_pure ⟨rfl, h⟩
end
end Aq
namespace Aq
open PySem PySem.W PySem.Calls PyProof.Rows PySem.Spec
section
variable {M : Model} {A : Around} {E : Value → Shared → Prop} {s : Shared} {env : Env} {pos p : Pos} {first : List Value} {Q : Value → Shared → Prop} {e : Expr} {rest : List Expr} {id : String}
theorem looks_builtin (h : Heap) : Looks M h (keeperOf (.builtin id)) .machine := Looks.of_pure rfl
theorem callWith_SB (h : wpAny M A (spliced (backTo pos (starEach (e :: rest) env))) (fun vs s₁ => wpAny M A (call (.builtin id) (first ++ vs)) Q E s₁) E s)
    (he : starEach (e :: rest) env = (false, eval e env) :: starEach rest env := by rfl) (hst : (backTo pos (starEach rest env)).any (·.1) = true := by rfl) :
    wpAny M A (callWith pos (.builtin id) first (backTo pos (starEach (e :: rest) env)) []) Q E s := by
  rw [he] at h ⊢
  exact ks_call (P := fun _ => True) (by show (false || (backTo pos (starEach rest env)).any (·.1)) = true; rw [hst]; rfl) (fun _ _ => ⟨.machine, .inr (.inl rfl), looks_builtin _⟩)
    (evalArgs_plain (wpAny_mono h (fun _ _ x => ⟨trivial, x⟩) fun _ _ x => x))
end
section
variable {prog : Program} {w : World} {A : Around} {E : Value → Shared → Prop} {s : Shared} {h₀ : Heap} {L a : Addr} {m : Str → Option Value} {news : List (Addr × Obj)}
theorem star_T {ws : List Value} {n : Nat} {Q : List Value → Shared → Prop} (F : Fr h₀ L s.heap m) (N : News h₀ L s.heap news) (ha : (a, ({ cls := .type "tuple", data := .seq (List.toArray ws) n } : Obj)) ∈ news)
    (hz : ws.length ≤ 1000) (h : ∀ h', Fr h₀ L h' m → News h₀ L h' news → Q ws { s with heap := h' }) : StarOf (model prog w) A E (.ref a) Q s :=
  star_seq F N ha rfl rfl (.inr rfl) rfl (by simp only [List.size_toArray, sizeLine_eq]; omega) h
theorem star_LL {ws : List Value} {n : Nat} {Q : List Value → Shared → Prop} (F : Fr h₀ L s.heap m) (N : News h₀ L s.heap news) (ha : (a, listOf (List.toArray ws) n) ∈ news)
    (hz : ws.length ≤ 1000) (h : ∀ h', Fr h₀ L h' m → News h₀ L h' news → Q ws { s with heap := h' }) : StarOf (model prog w) A E (.ref a) Q s :=
  star_seq F N ha rfl rfl (.inl rfl) rfl (by simp only [List.size_toArray, sizeLine_eq]; omega) h
end
end Aq
-- part AqPk
open PySem PySem.W PyProof.Rows
set_option Elab.async false
namespace Aq
open PySem PySem.W PySem.Calls PyProof.Rows PySem.Spec
section
local macro_rules | `(tactic| k_all) => `(tactic| first | exact allLt_ne (by assumption) (by (try dsimp only); omega) | exact OwnOff.ne (by assumption) (by simp only [List.mem_cons, true_or, or_true]))
local macro_rules | `(tactic| k_ne) => `(tactic| first | ((refine neN ?_; (try dsimp only)); refine' Apart.ne (by assumption) ?ax ?ay ?an; (case ax => first | exact ix0 | exact ix1 | exact ix2 | exact ix3 | exact ix4 | exact ix5 | exact ix6 | exact ix7 | exact ix8); (case ay => first | exact ix0 | exact ix1 | exact ix2 | exact ix3 | exact ix4 | exact ix5 | exact ix6 | exact ix7 | exact ix8); (case an => decide)) | fail "not apart")
local macro_rules | `(tactic| walk_at "call builtin:_struct.calcsize") => `(tactic| (refine calcsize_form (by assumption) ?_))
local macro_rules | `(tactic| walk_at "callWith builtin:_struct.pack") => `(tactic| (refine callWith_SB ?_))
local macro_rules | `(tactic| walk_at "call builtin:_struct.pack") => `(tactic| ((simp only [List.append_nil]); (refine pack_form (by assumption) (by assumption) (by assumption) ?_); intro k7 u7))
local macro_rules | `(tactic| walk_at "StarOf ref") => `(tactic| (k_here; k_dflt (refine' star_T ?k1 ?k2 ?m ?z ?_; (case k1 => k_asm); (case k2 => k_asm); (case m => k_mem); (case z => assumption)); intro h' F' N'; (try k_sweep); try dsimp only [List.nil_append, List.cons_append, List.append_nil]))
theorem form_sum {fs : Str} {zs : List Nat} (h : IsForm fs zs) : zs.sum ≤ 8 := by cases h <;> decide
theorem wire_len {fs : Str} {zs : List Nat} {xs : List Int} (_hF : IsForm fs zs) (h : FitAll xs zs) : (wireL xs zs).length = zs.sum := by
  clear _hF
  induction h with
  | nil => rfl
  | cons _ _ _ ih => simp only [wireL, List.length_append, octs_length, ih, List.sum_cons]
theorem fit_len : ∀ {ns : List Int} {zs : List Nat}, FitAll ns zs → ns.length = zs.length
  | _, _, .nil => rfl
  | _, _, .cons _ _ h => congrArg (· + 1) (fit_len h)
set_option maxRecDepth 100000 in
set_option maxHeartbeats 2000000 in
theorem pack_ct {w : World} {s : Shared} {base h₀ : Heap} {L : Addr} {mL mg mb : Str → Option Value} {envL envD : Env} {p : Program} {loose : List Str} {mean : ExcName → Option Value} {R : Flow → Shared → Prop}
    {b d y : Addr} {bs : Array UInt8} {pl : Int} {tq kf : Tok} {h1 h2 : Int} {k1 k2 : Tok} {rest : List (Addr × Obj)} {fs : Str} {zs : List Nat} {ys : List Value} {xs : List Int}
    (B : Below (callerA.deeper envL) base [envL] h₀) (F : Fr h₀ L s.heap mL) (X₀ : (hd.heap_39 w.params).In h₀) (T : Top p loose mean mg mb h₀) (hf : envD.frame = some L) (hke : envD.scope.kind = .function)
    (N : News h₀ L s.heap ((b, instObj 134 d) :: (d, dictOf [⟨h1, .str (Str.ofString "data") k1, .ref y⟩, ⟨h2, .str (Str.ofString "offset") k2, .int pl tq⟩] 2) :: (y, baObj bs) :: rest))
    (ap : Apart [b, d, y]) (off : OwnOff rest [b, d, y]) (hF : IsForm fs zs) (hi : IntsAre ys xs) (hfit : FitAll xs zs) (hz : bs.size ≤ 200000)
    (k : ∀ h' tk tq', Fr h₀ L h' mL → News h₀ L h' ((b, instObj 134 d) :: (d, dictOf [⟨h1, .str (Str.ofString "data") k1, .ref y⟩, ⟨h2, .str (Str.ofString "offset") k2, .int (pl + (zs.sum : Nat)) tq'⟩] 2) :: (y, baObj (bs ++ byteArr (wireL xs zs))) :: rest) → R (.ret .none) { s with heap := h', toks := tk }) :
    codeC (model PySem.Challenge.rw_aq6016_01.row.toRowW.prog w) ((callerA.deeper envL).deeper envD) (.call (.ref 103) ⟨.ref b :: .str fs kf :: ys, []⟩) R s := by
  have hy : (∃ a, ys = [a]) ∨ (∃ a c, ys = [a, c]) ∨ ∃ a c e, ys = [a, c, e] := by
    have e1 := hi.length
    have e2 := fit_len hfit
    have e3 : zs.length = 1 ∨ zs.length = 2 ∨ zs.length = 3 := by cases hF <;> simp
    match ys, e1 with
    | [], e1 => simp at e1; omega
    | [a], _ => exact .inl ⟨a, rfl⟩
    | [a, c], _ => exact .inr (.inl ⟨a, c, rfl⟩)
    | [a, c, e], _ => exact .inr (.inr ⟨a, c, e, rfl⟩)
    | _ :: _ :: _ :: _ :: _, e1 => simp at e1; omega
  have hys : ys.length ≤ 1000 := by rcases hy with ⟨_, rfl⟩ | ⟨_, _, rfl⟩ | ⟨_, _, _, rfl⟩ <;> simp
  revert X₀; k_fill; intro X₀
  (refine' codeC_rest (vs := ys) (binds := fun D => [(Str.ofString "self", .ref b), (Str.ofString "fmt", .str fs kf), (Str.ofString "args", .ref D)]) (g₁ := fun D => some [(Str.ofString "self", .ref b), (Str.ofString "fmt", .str fs kf), (Str.ofString "args", .ref D)]) ?k1 ?k2 ?k3 ?k4 ?k5 ?kA ?kF ?kK ?k6 ?k7 ?k8 ?kP ?kG ?kB ?_ ?c2 ?c3 ?c4 ?c5; (case kA => exact rfl); (case kF => assumption); (case kK => assumption); (case k1 => k_asm); (case k2 => k_asm); (case k3 => k_asm); (case k4 => k_asm); (case k5 => k_asm); (case k6 => k_is); (case k7 => k_is); (case k8 => k_room); (case kP => rcases hy with ⟨a, rfl⟩ | ⟨a, c, rfl⟩ | ⟨a, c, e, rfl⟩ <;> exact rfl); (case kG => exact fun _ => rfl); (case kB => exact fun _ => locs rfl); (case c5 => decide); (case c2 => exact rfl); (case c3 => exact rfl); (case c4 => exact rfl); k_whole; intro D' g' L' h' l1 FG' F' N' B' X' T'; (try k_lt l1); (try dsimp only); (try k_lift B'); (try k_fold))
  refine wpC_stmt ?_
  k_steps
  refine wpC_execs_cons (wpC_AugAssign_Attribute ?_)
  k_steps
  rename Fr _ _ _ _ => F9
  rename News _ _ _ _ => N9
  refine iadd_ba (b := bs) rfl (N9 (y, baObj bs) (by simp)).1 (by rw [byteArr_size, wire_len hF hfit]; have := form_sum hF; rw [sizeLine_eq]; omega) fun h8 e8 k8 => ?_
  have X := turn1 F9 N9 (U := by k_upd) (fun a o ha e => (k8 a ha).trans e) e8
  obtain ⟨F8, N8⟩ := X
  k_steps
  refine wpC_execs_nil ?_
  k_steps
  rename Fr _ _ _ _ => F7
  rename News _ _ _ _ => N7
  exact k _ _ _ F7 (News.sub N7 fun p hp => .tail _ hp)
end
end Aq
-- part AqAp
open PySem PySem.W PyProof.Rows
set_option Elab.async false
namespace Aq
open PySem PySem.W PySem.Calls PyProof.Rows PySem.Spec
section
local macro_rules | `(tactic| k_all) => `(tactic| first | exact allLt_ne (by assumption) (by (try dsimp only); omega) | exact OwnOff.ne (by assumption) (by simp only [List.mem_cons, true_or, or_true]))
local macro_rules | `(tactic| k_ne) => `(tactic| first | ((refine neN ?_; (try dsimp only)); refine' Apart.ne (by assumption) ?ax ?ay ?an; (case ax => first | exact ix0 | exact ix1 | exact ix2 | exact ix3 | exact ix4 | exact ix5 | exact ix6 | exact ix7 | exact ix8); (case ay => first | exact ix0 | exact ix1 | exact ix2 | exact ix3 | exact ix4 | exact ix5 | exact ix6 | exact ix7 | exact ix8); (case an => decide)) | fail "not apart")
local macro_rules | `(tactic| walk_at "call builtin:len") => `(tactic| (with_reducible refine KBw.len_K rfl (by assumption) ?_))
set_option maxRecDepth 100000 in
set_option maxHeartbeats 2000000 in
theorem append_ct {w : World} {s : Shared} {base h₀ : Heap} {L : Addr} {mL mg mb : Str → Option Value} {envL envD : Env} {p : Program} {loose : List Str} {mean : ExcName → Option Value} {R : Flow → Shared → Prop}
    {b d y : Addr} {bs : Array UInt8} {pl : Int} {tq kf : Tok} {h1 h2 : Int} {k1 k2 : Tok} {rest : List (Addr × Obj)} {c : Array UInt8}
    (B : Below (callerA.deeper envL) base [envL] h₀) (F : Fr h₀ L s.heap mL) (X₀ : (hd.heap_39 w.params).In h₀) (T : Top p loose mean mg mb h₀) (hf : envD.frame = some L) (hke : envD.scope.kind = .function)
    (N : News h₀ L s.heap ((b, instObj 134 d) :: (d, dictOf [⟨h1, .str (Str.ofString "data") k1, .ref y⟩, ⟨h2, .str (Str.ofString "offset") k2, .int pl tq⟩] 2) :: (y, baObj bs) :: rest))
    (ap : Apart [b, d, y]) (off : OwnOff rest [b, d, y]) (hz : bs.size ≤ 200000) (hc : c.size ≤ 1000)
    (k : ∀ h' tk tq', Fr h₀ L h' mL → News h₀ L h' ((b, instObj 134 d) :: (d, dictOf [⟨h1, .str (Str.ofString "data") k1, .ref y⟩, ⟨h2, .str (Str.ofString "offset") k2, .int (pl + (c.size : Nat)) tq'⟩] 2) :: (y, baObj (bs ++ c)) :: rest) → R (.ret .none) { s with heap := h', toks := tk }) :
    codeC (model PySem.Challenge.rw_aq6016_01.row.toRowW.prog w) ((callerA.deeper envL).deeper envD) (.call (.ref 110) ⟨[.ref b, .bytes c kf], []⟩) R s := by
  have hcl : (KBw.bInts c).length = c.size := by rw [KBw.ints_length]
  have hcl2 : (KBw.bInts c).length ≤ 1099511627776 := by omega
  revert X₀; k_fill; intro X₀
  (refine' codeC_def ?k1 ?k2 ?k3 ?k4 ?k5 ?kA ?kF ?kK ?k6 ?k7 ?k8 ?k9 ?kB ?_ ?c2 ?c3 ?c4 ?c5; (case kA => exact rfl); (case kF => assumption); (case kK => assumption); (case k1 => k_asm); (case k2 => k_asm); (case k3 => k_asm); (case k4 => k_asm); (case k5 => k_asm); (case k6 => k_is); (case k7 => k_is); (case k8 => k_room); (case k9 => first | exact BindsTo.of_eq rfl | exact binds_K (by k_in) rfl (by k_is) rfl rfl rfl); (case c5 => decide); (case kB => exact locs rfl); (case c2 => exact rfl); (case c3 => exact rfl); (case c4 => exact rfl); k_whole; intro g' L' h' FG' F' N' B' X' T'; (try dsimp only); (try k_lift B'); (try k_fold))
  refine wpC_stmt ?_
  k_steps
  refine wpC_execs_cons (wpC_AugAssign_Attribute ?_)
  k_steps
  rename Fr _ _ _ _ => F9
  rename News _ _ _ _ => N9
  refine iadd_ba (b := bs) rfl (N9 (y, baObj bs) (by simp)).1 (by rw [sizeLine_eq]; omega) fun h8 e8 k8 => ?_
  have X := turn1 F9 N9 (U := by k_upd) (fun a o ha e => (k8 a ha).trans e) e8
  obtain ⟨F8, N8⟩ := X
  k_steps
  refine wpC_execs_nil ?_
  k_steps
  rename Fr _ _ _ _ => F7
  rename News _ _ _ _ => N7
  rw [hcl] at N7
  exact k _ _ _ F7 N7
end
end Aq
-- part AqUp
open PySem PySem.W PyProof.Rows
set_option Elab.async false
namespace Aq
open PySem PySem.W PySem.Calls PyProof.Rows PySem.Spec
section
local macro_rules | `(tactic| k_all) => `(tactic| first | exact allLt_ne (by assumption) (by (try dsimp only); omega) | exact OwnOff.ne (by assumption) (by simp only [List.mem_cons, true_or, or_true]))
local macro_rules | `(tactic| k_ne) => `(tactic| first | ((refine neN ?_; (try dsimp only)); refine' Apart.ne (by assumption) ?ax ?ay ?an; (case ax => first | exact ix0 | exact ix1 | exact ix2 | exact ix3 | exact ix4 | exact ix5 | exact ix6 | exact ix7 | exact ix8); (case ay => first | exact ix0 | exact ix1 | exact ix2 | exact ix3 | exact ix4 | exact ix5 | exact ix6 | exact ix7 | exact ix8); (case an => decide)) | fail "not apart")
local macro_rules | `(tactic| walk_at "call builtin:_struct.calcsize") => `(tactic| (refine calcsize_form (by assumption) ?_))
local macro_rules | `(tactic| walk_at "callWith builtin:_struct.pack") => `(tactic| (refine callWith_SB ?_))
local macro_rules | `(tactic| walk_at "call builtin:_struct.pack") => `(tactic| ((try simp only [List.append_nil]); (refine pack_form (by assumption) (by assumption) (by assumption) ?_); intro k7 u7))
local macro_rules | `(tactic| walk_at "StarOf ref") => `(tactic| (k_here; k_dflt (refine' star_T ?k1 ?k2 ?m ?z ?_; (case k1 => k_asm); (case k2 => k_asm); (case m => k_mem); (case z => assumption)); intro h' F' N'; (try k_sweep); try dsimp only [List.nil_append, List.cons_append, List.append_nil]))
local macro_rules | `(tactic| walk_at "call builtin:len") => `(tactic| (with_reducible refine KBw.len_K rfl (by assumption) ?_))
set_option maxRecDepth 100000 in
set_option maxHeartbeats 2000000 in
theorem update_ct {w : World} {s : Shared} {base h₀ : Heap} {L : Addr} {mL mg mb : Str → Option Value} {envL envD : Env} {p : Program} {loose : List Str} {mean : ExcName → Option Value} {R : Flow → Shared → Prop}
    {b d y : Addr} {bs : Array UInt8} {pl pt x : Int} {tq tp kf tx : Tok} {h1 h2 : Int} {k1 k2 : Tok} {rest : List (Addr × Obj)}
    (B : Below (callerA.deeper envL) base [envL] h₀) (F : Fr h₀ L s.heap mL) (X₀ : (hd.heap_39 w.params).In h₀) (T : Top p loose mean mg mb h₀) (hf : envD.frame = some L) (hke : envD.scope.kind = .function)
    (N : News h₀ L s.heap ((b, instObj 134 d) :: (d, dictOf [⟨h1, .str (Str.ofString "data") k1, .ref y⟩, ⟨h2, .str (Str.ofString "offset") k2, .int pl tq⟩] 2) :: (y, baObj bs) :: rest))
    (ap : Apart [b, d, y]) (off : OwnOff rest [b, d, y]) (hz : bs.size ≤ 200000) (hx0 : 0 ≤ x) (hx1 : x < 65536) (hp0 : 0 ≤ pt)
    (k : ∀ h' tk, Fr h₀ L h' mL → News h₀ L h' ((b, instObj 134 d) :: (d, dictOf [⟨h1, .str (Str.ofString "data") k1, .ref y⟩, ⟨h2, .str (Str.ofString "offset") k2, .int pl tq⟩] 2) :: (y, baObj (bs.extract 0 pt.toNat ++ byteArr (wireL [x] [2]) ++ bs.extract (pt + 2).toNat bs.size)) :: rest) → R (.ret .none) { s with heap := h', toks := tk }) :
    codeC (model PySem.Challenge.rw_aq6016_01.row.toRowW.prog w) ((callerA.deeper envL).deeper envD) (.call (.ref 117) ⟨[.ref b, .int pt tp, .str (Str.ofString "!H") kf, .int x tx], []⟩) R s := by
  have hF : IsForm (Str.ofString "!H") [2] := .h
  have hi : IntsAre [.int x tx] [x] := .cons _ _ .nil
  have hfit : FitAll [x] [2] := .cons hx0 (by have : (256 : Int) ^ 2 = 65536 := by decide
                                              omega) .nil
  have hys : ([.int x tx] : List Value).length ≤ 1000 := by simp
  have hbl : (KBw.bInts (byteArr (wireL [x] [2]))).length = 2 := by rw [KBw.ints_length, byteArr_size, wire_len hF hfit]; rfl
  have hbl2 : (KBw.bInts (byteArr (wireL [x] [2]))).length ≤ 1099511627776 := by omega
  revert X₀; k_fill; intro X₀
  (refine' codeC_rest (vs := [.int x tx]) ?k1 ?k2 ?k3 ?k4 ?k5 ?kA ?kF ?kK ?k6 ?k7 ?k8 ?kP ?kG ?kB ?_ ?c2 ?c3 ?c4 ?c5; (case kA => exact rfl); (case kF => assumption); (case kK => assumption); (case k1 => k_asm); (case k2 => k_asm); (case k3 => k_asm); (case k4 => k_asm); (case k5 => k_asm); (case k6 => k_is); (case k7 => k_is); (case k8 => k_room); (case kP => exact rfl); (case kG => exact fun _ => rfl); (case kB => exact fun _ => locs rfl); (case c5 => decide); (case c2 => exact rfl); (case c3 => exact rfl); (case c4 => exact rfl); k_whole; intro D' g' L' h' l1 FG' F' N' B' X' T'; (try k_lt l1); (try dsimp only); (try k_lift B'); (try k_fold))
  refine wpC_stmt ?_
  k_steps
  refine wpC_execs_cons (wpC_Assign_Subscript ?_)
  k_steps
  dsimp only
  rename Fr _ _ _ _ => F9
  rename News _ _ _ _ => N9
  rw [hbl]
  have ky := (N9 (y, baObj bs) (by simp)).1
  refine setItem_ba_slice (b := bs) (p := pt) (q := pt + ((2 : Nat) : Int)) rfl (Heap.get?_push_of_some _ ky) (Heap.IsSliceOf.new _ _ _ _) hp0 (by omega) (by rw [byteArr_size, wire_len hF hfit, sizeLine_eq]; show bs.size + 2 ≤ _; omega) fun h8 e8 k8 => ?_
  have X := turn1 (s := ⟨_, s.gens, s.drawn, 0, s.os⟩) F9 N9 (U := by k_upd) (fun a o ha e => k8 a o ha (Heap.get?_push_of_some _ e)) e8
  obtain ⟨F8, N8⟩ := X
  refine wpC_execs_nil ?_
  k_steps
  rename Fr _ _ _ _ => F7
  rename News _ _ _ _ => N7
  have eq2 : (pt + ((2 : Nat) : Int)) = pt + 2 := rfl
  exact k _ _ F7 (News.sub N7 fun p hp => .tail _ hp)
end
end Aq
-- part AqLw
open PySem PySem.W PyProof.Rows
set_option Elab.async false
set_option maxRecDepth 100000
namespace Aq
theorem octs_in {z : Nat} {n x : Int} (h : x ∈ octs z n) : 0 ≤ x ∧ x < 256 := by
  obtain ⟨j, _, rfl⟩ := List.mem_map.mp h
  exact ⟨Int.fmod_nonneg_of_pos _ (by decide), Int.fmod_lt_of_pos _ (by decide)⟩
theorem wireL_in : ∀ {ns : List Int} {zs : List Nat} {x : Int}, x ∈ wireL ns zs → 0 ≤ x ∧ x < 256
  | [], _, _, h => by simp [wireL] at h
  | _ :: _, [], _, h => by simp [wireL] at h
  | n :: ns, z :: zs, x, h => by
    rw [wireL] at h
    rcases List.mem_append.mp h with h | h
    · exact octs_in h
    · exact wireL_in h
theorem ints_bytes {ns : List Int} (h : ∀ x ∈ ns, 0 ≤ x ∧ x < 256) : KBw.bInts (byteArr ns) = ns := KBa.ints_make h
theorem ints_wire (ns : List Int) (zs : List Nat) : KBw.bInts (byteArr (wireL ns zs)) = wireL ns zs := ints_bytes fun _ h => wireL_in h
theorem ofNat_toNat (zs : List Nat) : (zs.map Int.ofNat).map Int.toNat = zs := by
  rw [List.map_map]; exact List.map_id'' (fun _ => rfl) zs
theorem sum_ofNat : ∀ zs : List Nat, (zs.map Int.ofNat).sum = ((zs.sum : Nat) : Int)
  | [] => rfl
  | z :: zs => by rw [List.map_cons, List.sum_cons, sum_ofNat zs, List.sum_cons]; show (z : Int) + _ = _; omega
theorem fit_of {f : Int → Int} : ∀ (zs : List Nat) (g : Nat → Int), (∀ j z, zs[j]? = some z → 0 ≤ g j ∧ g j < 256 ^ z) → FitAll ((List.range zs.length).map g) zs
  | [], _, _ => .nil
  | z :: zs, g, h => by
    rw [List.length_cons, List.range_succ_eq_map, List.map_cons, List.map_map]
    exact .cons (h 0 z rfl).1 (h 0 z rfl).2 (fit_of (f := f) zs (g ∘ Nat.succ) fun j y e => h (j + 1) y e)
theorem fit_values (f : Int → Int) (zs : List Nat) (zi : List Int) (e : zi = zs.map Int.ofNat) :
    FitAll ((rangeKs 0 ((zi.length : Int) - 0).toNat).map fun k => (f k).fmod (256 ^ (zi.getD k.toNat 0).toNat)) zs := by
  subst e
  have el : (((zs.map Int.ofNat).length : Int) - 0).toNat = zs.length := by simp
  rw [el]
  unfold rangeKs
  rw [List.map_map]
  refine fit_of (f := f) zs _ fun j z hz => ?_
  have e1 : ((0 : Int) + (j : Int)).toNat = j := by omega
  have e2 : (zs.map Int.ofNat).getD j 0 = (z : Int) := by
    rw [List.getD_eq_getElem?_getD, List.getElem?_map, hz]; rfl
  have hp : (0 : Int) < 256 ^ z := Int.pow_pos (by decide)
  simp only [Function.comp_apply, e1, e2, Int.toNat_natCast]
  exact ⟨Int.fmod_nonneg_of_pos _ hp, Int.fmod_lt_of_pos _ hp⟩
end Aq
-- part AqW2
open PySem PySem.W PyProof.Rows
set_option Elab.async false
namespace Aq
open PySem PySem.W PySem.Calls PyProof.Rows PySem.Spec
local macro_rules | `(tactic| k_all) => `(tactic| first | exact allLt_ne (by assumption) (by (try dsimp only); omega) | exact OwnOff.ne (by assumption) (by simp only [List.mem_cons, true_or, or_true]))
local macro_rules | `(tactic| walk_at "binaryOp FloorDiv int int") => `(tactic| (with_reducible refine floordiv_int (pow_ne9 _) ?_ (Or.inl (PyProof.noPylong_of_log2 (pow_log9 (by assumption) (by assumption))))))
local macro_rules | `(tactic| walk_at "inplaceOp Add ref ref") => `(tactic| (refine' iadd_LL ?ilF ?ilN ?ilU ?ilb ?ili ?ilj ?ilz ?_; (case ilF => k_asm); (case ilN => k_asm); (case ilU => k_updF); (case ilb => k_dflt k_mem); (case ili => l_ints); (case ilj => l_ints); (case ilz => exact wire_size (by assumption) (by assumption) (by assumption) (by assumption) (by simp only [List.length_map, rangeKs_length])); k_whole; intro h' n' F' N' i'; (try dsimp only at N')))
set_option maxRecDepth 100000 in
set_option maxHeartbeats 2000000 in
theorem wire_ct2 {w : World} {s : Shared} {base h₀ : Heap} {L : Addr} {mL mg mb : Str → Option Value} {envL : Env} {p : Program} {loose : List Str} {mean : ExcName → Option Value} {Q : Value → Shared → Prop} {envD : Env}
    {V sz : Addr} {cV cz : Nat} {ys zv : List Value} {xs zi : List Int} {own : List (Addr × Obj)}
    (B : Below (callerA.deeper envL) base [envL] h₀) (F : Fr h₀ L s.heap mL) (X₀ : (hd.heap_39 w.params).In h₀) (T : Top p loose mean mg mb h₀) (hf : envD.frame = some L) (hke : envD.scope.kind = .function)
    (N : News h₀ L s.heap ((V, listOf (List.toArray ys) cV) :: (sz, listOf (List.toArray zv) cz) :: own))
    (hz : IntsAre zv zi) (hz3 : zi.length ≤ 3) (hzb : ∀ z ∈ zi, 1 ≤ z ∧ z ≤ 4) (hx : IntsAre ys xs) (hxl : xs.length = zi.length) (hvs : V ≠ sz)
    (k : ∀ D ws c os h' tk, Fr h₀ L h' mL → News h₀ L h' ((D, listOf (List.toArray ws) c) :: (V, listOf (List.toArray ys) cV) :: (sz, listOf (List.toArray zv) cz) :: own) → (∀ p ∈ (V, listOf (List.toArray ys) cV) :: (sz, listOf (List.toArray zv) cz) :: own, p.1 < D) → IntsAre ws os → os = wireL xs (zi.map Int.toNat) → os.length ≤ 12 → Q (.ref D) { s with heap := h', toks := tk }) :
    wpAny (model PySem.Challenge.rw_aq6016_01.row.toRowW.prog w) ((callerA.deeper envL).deeper envD) (call (.ref 163) [.ref V, .ref sz] []) Q noE s := by
  revert X₀; k_fill; intro X₀
  refine wpAny_call ?_
  (refine' code_defC ?k1 ?k2 ?k3 ?k4 ?k5 ?kA ?kF ?kK ?k6 ?k7 ?k8 ?k9 ?kB ?kD ?_ ?c2 ?c3 ?c4; (case kA => exact rfl); (case kF => first | exact rfl | assumption); (case kK => first | exact rfl | assumption); (case k1 => k_asm); (case k2 => k_asm); (case k3 => k_asm); (case k4 => k_asm); (case k5 => k_asm); (case k6 => k_is); (case k7 => k_is); (case k8 => k_room); (case k9 => first | exact BindsTo.of_eq rfl | exact binds_K (by k_in) rfl (by k_is) rfl rfl rfl | fail "k_enter: no rule for these arguments"); (case kB => exact rfl); (case kD => decide +kernel); (case c2 => exact rfl); (case c3 => exact rfl); (case c4 => exact rfl); k_whole; intro g' L' h' tk' cells' FG' F' N' Y' B' X' T' l1; (try k_lt l1); k_cells Y'; (try simp only [List.cons_append, List.nil_append] at N'); (try dsimp only); (try k_lift B'); (try k_fold))
  have hO := l1.2.2
  (try k_fold); k_steps
  refine wpAny_noRaise ?_
  refine For_range_any (n := zi.length) rfl ?_ (by omega)
  (try k_fold); k_steps
  rename_i o1 o2 o3 d1 d2 d3 W hq1 lq hq2 Fq Nq h9 tk9 t9 u9 v9 r9 F9 N9 k9
  clear Fq Nq r9 k9 F N hq1
  refine runs_N (s := ⟨h9, s.gens, s.drawn, tk9, s.os⟩) (fun i news => ∃ oc ws v c, news = (W, listOf (List.toArray ws) c) :: (L' + 1 + 1 + 1, oc) :: (L' + 1 + 1, o2) :: (L' + 1, o3) :: (V, listOf (List.toArray ys) cV) :: (sz, listOf (List.toArray zv) cz) :: own ∧ oc.data = .cell v ∧ IntsAre ws (wireUp xs zi i)) F9 N9 ⟨o1, [], _, 0, rfl, d1, .nil⟩ ?_ ?_ ?_
  · rintro i news ⟨oc, ws, v, c, rfl, _⟩; rfl
  · rintro i news h tk hi lI ⟨oc, ws, v, c, rfl, hoc, hws⟩ Fa Na
    simp only [AllLt, and_true] at lI
    clear F9 N9
    have hg := getD_le9 hzb (i : Int).toNat
    have hg1 := hg.1
    have hg2 := hg.2
    generalize h9.objs.size = I at *
    have hwl := wireUp_len (xs := xs) hzb i
    k_steps
    rename_i N9
    rename Fr _ _ _ _ => F9
    rename IntsAre (ws ++ _) _ => J9
    rename Obj => o9
    exact ⟨_, _, _, _, rfl, ⟨_, _, _, _, rfl, by assumption, by simpa only [wireUp, Int.toNat_natCast, Int.sub_zero] using J9⟩, fun y => by by_cases hy : y = Str.ofString "wire" <;> simp only [hy, if_true, if_false], F9, News.tail1 N9⟩
  · rintro h tk news ⟨oc, ws, v, c, rfl, hoc, hws⟩ Fa Na
    k_steps
    rename Fr _ _ _ _ => F9
    rename News _ _ _ _ => N9
    refine k W ws c _ h tk F9 (News.sub N9 ?_) (List.forall_mem_cons.mpr ⟨lq.2.2.2.1, List.forall_mem_cons.mpr ⟨lq.2.2.2.2.1, allLt_all lq.2.2.2.2.2⟩⟩) hws (wireUp_eq xs zi hxl) (by have := wireUp_len (xs := xs) hzb zi.length; omega)
    intro p hp
    simp only [List.mem_cons] at hp ⊢
    rcases hp with h | h | h
    · exact .inl h
    · exact .inr (.inr (.inr (.inr (.inl h))))
    · exact .inr (.inr (.inr (.inr (.inr h))))
theorem News.swap {h₀ h : Heap} {L : Addr} {a b : Addr × Obj} {l : List (Addr × Obj)} (N : News h₀ L h (a :: b :: l)) : News h₀ L h (b :: a :: l) := News.sub N (fun p hp => by
  simp only [List.mem_cons] at hp ⊢
  rcases hp with h | h | h
  · exact .inr (.inl h)
  · exact .inl h
  · exact .inr (.inr h))
theorem wire_ct3 {w : World} {s : Shared} {base h₀ : Heap} {L : Addr} {mL mg mb : Str → Option Value} {envL : Env} {p : Program} {loose : List Str} {mean : ExcName → Option Value} {Q : Value → Shared → Prop} {envD : Env}
    {V sz : Addr} {cV cz : Nat} {ys zv : List Value} {xs zi : List Int} {own : List (Addr × Obj)}
    (B : Below (callerA.deeper envL) base [envL] h₀) (F : Fr h₀ L s.heap mL) (X₀ : (hd.heap_39 w.params).In h₀) (T : Top p loose mean mg mb h₀) (hf : envD.frame = some L) (hke : envD.scope.kind = .function)
    (N : News h₀ L s.heap ((sz, listOf (List.toArray zv) cz) :: (V, listOf (List.toArray ys) cV) :: own))
    (hz : IntsAre zv zi) (hz3 : zi.length ≤ 3) (hzb : ∀ z ∈ zi, 1 ≤ z ∧ z ≤ 4) (hx : IntsAre ys xs) (hxl : xs.length = zi.length) (hvs : V ≠ sz)
    (k : ∀ D ws c os h' tk, Fr h₀ L h' mL → News h₀ L h' ((D, listOf (List.toArray ws) c) :: (V, listOf (List.toArray ys) cV) :: (sz, listOf (List.toArray zv) cz) :: own) → (∀ p ∈ (V, listOf (List.toArray ys) cV) :: (sz, listOf (List.toArray zv) cz) :: own, p.1 < D) → IntsAre ws os → os = wireL xs (zi.map Int.toNat) → os.length ≤ 12 → Q (.ref D) { s with heap := h', toks := tk }) :
    wpAny (model PySem.Challenge.rw_aq6016_01.row.toRowW.prog w) ((callerA.deeper envL).deeper envD) (call (.ref 163) [.ref V, .ref sz] []) Q noE s :=
  wire_ct2 B F X₀ T hf hke (News.swap N) hz hz3 hzb hx hxl hvs k
end Aq
-- part AqT
open PySem PySem.W PyProof.Rows
set_option Elab.async false
set_option maxRecDepth 100000
namespace Aq
open PySem PySem.W PySem.Calls PyProof.Rows PySem.Spec
section
variable {prog : Program} {w : World} {A₀ A : Around} {s : Shared} {base h₀ g₀ : Heap} {outer : List Env} {L : Addr} {m : Str → Option Value} {env : Env} {news : List (Addr × Obj)} {K : Frag} {p : Program} {loose : List Str} {mean : ExcName → Option Value} {mg mb : Str → Option Value}
  {R : Flow → Shared → Prop} {name qual : Str} {params : Arguments} {body : List Stmt} {scope : Scope} {dV kV doc pm cdv ct oc : Value} {an od : Option Addr} {osl : Array (Option Value)} {f : Addr} {args : Args} {binds : List (Str × Value)}

theorem kts_memX {b : Addr} (hf : env.frame = some L) (hm : b ∈ (env :: outer).filterMap (·.frame)) : b = L ∨ b ∈ outer.filterMap (·.frame) := by
  obtain ⟨e, he, hb⟩ := List.mem_filterMap.mp hm
  rcases List.mem_cons.mp he with rfl | he
  · exact .inl (Option.some.inj (hf.symm.trans hb)).symm
  · exact .inr (List.mem_filterMap.mpr ⟨e, he, hb⟩)

theorem kts_enterX (B : Below A₀ base outer h₀) (F : Fr h₀ L s.heap m) (N : News h₀ L s.heap news) (hA : A.frames = some (env :: outer)) (hf : env.frame = some L) (hke : env.scope.kind = .function) :
    ∃ oL es ep, (hideAll s.heap (news.map (·.1))).get? L = some oL ∧ oL.data = .dict es ep ∧ (∀ h', h'.get? L = some oL → Heap.Ns h' L m) ∧ (∀ (sl : Array (Option Value)) h', h'.get? L = some { oL with slots := sl } → Heap.Ns h' L m) ∧
      h₀.StaysIn (hideAll s.heap (news.map (·.1))) ∧ Below A base (env :: outer) (hideAll s.heap (news.map (·.1))) := by
  have nm : ∀ b o, h₀.get? b = some o → b ∉ news.map (·.1) := fun b o e q => by
    obtain ⟨p, hp, rfl⟩ := List.mem_map.mp q
    rw [(N p hp).2.2] at e; cases e
  have st : h₀.StaysIn (hideAll s.heap (news.map (·.1))) := fun b o e => hideAll_get _ (F.keep b o e) (nm b o e)
  obtain ⟨oL, es, ep, hL, hLd, hLk, hLf⟩ := F.ns
  have nL : L ∉ news.map (·.1) := fun q => by
    obtain ⟨p, hp, e⟩ := List.mem_map.mp q
    exact (N p hp).2.1 e
  have hLg := hideAll_get (news.map (·.1)) hL nL
  have B₁ := pushX B F hf hke
  exact ⟨oL, es, ep, hLg, hLd, fun h' e => ⟨oL, es, ep, e, hLd, hLk, hLf⟩, fun sl h' e => ⟨_, es, ep, e, hLd, hLk, hLf⟩, st, ⟨hA, fun b o e => st b o (B.stays b o e), funFrames_hideAll B₁.frames fun e he b hb hfe => by
    rcases List.mem_cons.mp he with rfl | he
    · exact nL ((Option.some.inj (hf.symm.trans hfe)) ▸ hb)
    · obtain ⟨L₁, o₁, hf₁, ho₁⟩ := funFrames_in B.frames e he
      rw [hf₁] at hfe
      exact nm L₁ o₁ ho₁ ((Option.some.inj hfe : L₁ = b) ▸ hb)⟩⟩

/-- the caller behind a call whose ground may have turned -/
theorem leaveS0_use {g : Heap} {oL : Obj} (F : Fr h₀ L s.heap m) (hf : env.frame = some L) (st : h₀.StaysIn g) (hLg : g.get? L = some oL) (hNs : ∀ (sl : Array (Option Value)) h', h'.get? L = some { oL with slots := sl } → Heap.Ns h' L m) {RR : Result → Shared → Prop} {v : Value} {s' : Shared}
    (hl : LeaveS0 ([env].filterMap (·.frame)) h₀ L m g RR v s') : RR (.ok (.ret v)) s' := by
  obtain ⟨g', L', m', news', T', F', N', k⟩ := hl
  have nL₀ : h₀.get? L = none := kts_self F
  obtain ⟨sl, hs⟩ := T'.up hLg
  refine k ⟨hNs sl _ (F'.keep _ _ hs), fun b o e => F'.keep b o (T'.other b o (st b o e) (fun q => by
    rcases kts_memX hf q with z | z
    · rw [z, nL₀] at e
      cases e
    · simp at z)), F.above⟩ fun p hp => ⟨(N' p hp).1, fun q => ?_, ?_⟩
  · have := (N' p hp).2.2; rw [q, hs] at this; cases this
  · cases q : h₀.get? p.1 with
    | none => rfl
    | some o =>
      obtain ⟨sl', hs'⟩ := T'.up (st _ _ q)
      have := (N' p hp).2.2
      rw [hs'] at this
      cases this

theorem codeC_defCS0 (B : Below A₀ base [] h₀) (F : Fr h₀ L s.heap m) (X₀ : K.In h₀) (N : News h₀ L s.heap news) (T : Top p loose mean mg mb h₀) (hA : A.frames = some [env]) (hf : env.frame = some L) (hke : env.scope.kind = .function)
    (ho : K.lookup f = some ⟨oc, od, .func (fnOf name qual params body scope dV kV doc pm an cdv ct), osl⟩) (hcd : codeIn K cdv qual = true) (hroom : A.depth < recursionLimit)
    (hbind : BindsTo s (fnOf name qual params body scope dV kV doc pm an cdv ct) args binds) (hkind : (binds.all fun y => scope.names.lookup y.1 == some .local || scope.names.lookup y.1 == some .cell) = true)
    (hnd : ((cellsFrom 0 scope.names []).map (·.1)).Nodup)
    (h : ∀ g L' h₁ tk cells, Fr h₀ L g m → Fr g L' h₁ (bindL (envOfC qual scope L' f cdv).kindOf binds fun _ => none) → News g L' h₁ (cells ++ news) →
      CellsAre (bindC (envOfC qual scope L' f cdv).kindOf binds fun _ => none) (cellsFrom (L' + 1) scope.names []) cells → Below A base [env] g → K.In g → Top p loose mean mg mb g → KtsDicts ([env].filterMap (·.frame)) g → (∀ p ∈ news, p.1 < L') →
      wpC (model prog w) (A.deeper (envOfC qual scope L' f cdv)) (execs body (envOfC qual scope L' f cdv))
        (fun fl s' => LeaveS0 ([env].filterMap (·.frame)) h₀ L m g (okOf R) (match fl with | .ret v => v | _ => .none) s') { s with heap := h₁, toks := tk })
    (hco : scope.isCoroutine = false) (hgen : scope.isGenerator = false) (hk : scope.kind = .function) : codeC (model prog w) A (.call (.ref f) args) R s := by
  obtain ⟨oL, es, ep, hLg, hLd, hN, hNs, st, B₂⟩ := kts_enterX B F N hA hf hke
  refine codeC_call_function hroom ((X₀.keeps F.keep) _ _ ho) rfl hco hgen rfl (codeRec_of (X₀.keeps F.keep) hcd) (hbind _ _ _ _ ?_)
  refine wpAny_newFunctionEnv_cells hk (kindsX hkind _) fun env' he s' x => ?_
  subst he
  refine ⟨(T.nolimit.keeps F.keep).keeps x.toInCall.keep, codeC_func ?_⟩
  obtain ⟨h₁, tk, rfl, _⟩ := x.done
  have hk₁ := x.toInCall.keep
  obtain ⟨cells, NC, Y⟩ := Cl.news (h₀ := s.heap) (Nat.le_refl _) fun n c hm => ⟨x.cell n c (lookup_of_mem_nodup (cellsFrom_names scope.names 0 (s.heap.objs.size + 1) [] [] rfl ▸ hnd) hm), x.above n c hm⟩
  refine wpC_mono (h _ s.heap.objs.size h₁ tk cells ⟨hN _ hLg, st, F.above⟩ ⟨x.toInCall.ns, fun b o e => hk₁ b o (of_hideAll _ e), Nat.le_of_eq (hideAll_size _ _)⟩ (fun p hp => ?_) Y B₂ (X₀.keeps st) (T.keeps st) (fun b hb => ?_) (fun p hp => Heap.lt_size (N p hp).1)) (fun fl s' hl => leaveS0_use F hf st hLg hNs hl)
  · rcases List.mem_append.mp hp with hp | hp
    · refine ⟨(NC p hp).1, (NC p hp).2.1, ?_⟩
      cases q : (hideAll s.heap (news.map (·.1))).get? p.1 with
      | none => rfl
      | some o => have := of_hideAll _ q; rw [(NC p hp).2.2] at this; cases this
    · exact ⟨hk₁ _ _ (N p hp).1, Nat.ne_of_lt (Heap.lt_size (N p hp).1), hideAll_none _ (List.mem_map_of_mem hp)⟩
  · rcases kts_memX hf hb with rfl | z
    · exact ⟨oL, es, ep, hLg, hLd⟩
    · simp at z

/-- a def without cells called from any frame, its way back by LeaveS -/
theorem code_defSX {RR : Result → Shared → Prop} (B : Below A₀ base outer h₀) (F : Fr h₀ L s.heap m) (X₀ : K.In h₀) (N : News h₀ L s.heap news) (T : Top p loose mean mg mb h₀) (XB : K.In base) (TB : Top p loose mean mg mb base) (D : KtsDicts (outer.filterMap (·.frame)) h₀)
    (T0 : KtsTurn (outer.filterMap (·.frame)) g₀ h₀) (hA : A.frames = some (env :: outer)) (hf : env.frame = some L) (hke : env.scope.kind = .function)
    (ho : K.lookup f = some ⟨oc, od, .func (fnOf name qual params body scope dV kV doc pm an cdv ct), osl⟩) (hcd : codeIn K cdv qual = true) (hroom : A.depth < recursionLimit)
    (hbind : BindsTo s (fnOf name qual params body scope dV kV doc pm an cdv ct) args binds) (hloc : ∀ y ∈ binds, scope.names.lookup y.1 = some .local)
    (h : ∀ g L' h₁, Fr h₀ L g m → Fr g L' h₁ (fun y => binds.reverse.lookup y) → News g L' h₁ news → Below A base (env :: outer) g → K.In g → Top p loose mean mg mb g → KtsDicts ((env :: outer).filterMap (·.frame)) g →
      wpAny (model prog w) (A.deeper (envOf qual scope L' f cdv)) (execs body (envOf qual scope L' f cdv))
        (fun fl s' => LeaveS ((env :: outer).filterMap (·.frame)) A₀ base outer K p loose mean mg mb g₀ h₀ L m g RR (match fl with | .ret v => v | _ => .none) s')
        (fun e s' => wpAny (model prog w) (A.deeper (envOf qual scope L' f cdv)) (leaving (envOf qual scope L' f cdv) e) (fun _ s'' => RR (.error e) s'') (fun e' s'' => RR (.error e') s'') s')
        { s with heap := h₁, toks := s.toks + binds.length })
    (hco : scope.isCoroutine = false) (hgen : scope.isGenerator = false) (hk : scope.kind = .function)
    (hcell : ∀ x ∈ scope.names, x.2 ≠ .cell) : codeAny (model prog w) A (.call (.ref f) args) RR s := by
  have X := X₀.keeps F.keep
  obtain ⟨oL, es, ep, hLg, hLd, hN, hNs, st, B₂⟩ := kts_enterX B F N hA hf hke
  have nL₀ : h₀.get? L = none := kts_self F
  have dcs : KtsDicts ((env :: outer).filterMap (·.frame)) (hideAll s.heap (news.map (·.1))) := fun b hb => by
    rcases kts_memX hf hb with rfl | hb
    · exact ⟨oL, es, ep, hLg, hLd⟩
    · obtain ⟨o, es', n', ho', hd'⟩ := D b hb
      exact ⟨o, es', n', st b o ho', hd'⟩
  have old {g' : Heap} {L' : Addr} {s' : Shared} {ns : List (Addr × Obj)} (sl : Array (Option Value)) (hs : g'.get? L = some { oL with slots := sl }) (N' : News g' L' s'.heap ns)
      (up : ∀ b o, h₀.get? b = some o → ∃ o', g'.get? b = some o') : ∀ q ∈ ns, s'.heap.get? q.1 = some q.2 ∧ q.1 ≠ L ∧ h₀.get? q.1 = none := fun q hq => by
    refine ⟨(N' q hq).1, fun e => ?_, ?_⟩
    · have z := (N' q hq).2.2; rw [e, hs] at z; cases z
    · cases z : h₀.get? q.1 with
      | none => rfl
      | some o =>
        obtain ⟨o', z'⟩ := up _ _ z
        rw [(N' q hq).2.2] at z'; cases z'
  refine codeAny_call_def (fd := fnOf name qual params body scope dV kV doc pm an cdv ct) (body := body) (binds := binds) hroom (X _ _ ho) rfl (T.nolimit.keeps F.keep) (codeRec_of X hcd) rfl hbind hcell hloc (fun h₁ hns hk₁ => ?_) hco hgen hk
  refine wpAny_mono (h _ s.heap.objs.size h₁ ⟨hN _ hLg, st, F.above⟩ ⟨hns, fun b o e => hk₁ b o (of_hideAll _ e), Nat.le_of_eq (hideAll_size _ _)⟩
    (fun q hq => ⟨hk₁ _ _ (N q hq).1, Nat.ne_of_lt (Heap.lt_size (N q hq).1), hideAll_none _ (List.mem_map_of_mem hq)⟩) B₂ (X₀.keeps st) (T.keeps st) dcs) (fun fl s' hl => ?_) fun _ _ y => y
  rcases hl with ⟨L', m', news', F', N', k⟩ | ⟨g', L', m', news', T', F', N', k⟩
  · exact k ⟨hN _ (F'.keep _ _ hLg), fun b o e => F'.keep b o (st b o e), F.above⟩ (old oL.slots hLg N' fun b o e => ⟨o, st b o e⟩)
  · obtain ⟨sl, hs⟩ := T'.up hLg
    have inF : ∀ b ∈ outer.filterMap (·.frame), ∃ o, h₀.get? b = some o := fun b hb => by
      obtain ⟨_, o, ho', _⟩ := B.frames.mem hb
      exact ⟨o, ho'⟩
    have out : ∀ b o, h₀.get? b = some o → b ∉ outer.filterMap (·.frame) → s'.heap.get? b = some o := fun b o e nm => F'.keep b o (T'.other b o (st b o e) fun q => by
      rcases kts_memX hf q with z | z
      · rw [z, nL₀] at e; cases e
      · exact nm z)
    have inn : ∀ b o, h₀.get? b = some o → b ∈ outer.filterMap (·.frame) → ∃ sl, s'.heap.get? b = some { o with slots := sl } := fun b o e _ => by
      obtain ⟨sl', hs'⟩ := T'.up (st b o e)
      exact ⟨sl', F'.keep _ _ hs'⟩
    obtain ⟨T₁, S₁⟩ := kts_turn_at (h := s'.heap) inF out inn
    have B₃ : Below A₀ base outer (ktsHeap s'.heap (outer.filterMap (·.frame)) h₀) := ⟨B.stack, fun b o e => T₁.other b o (B.stays b o e) (fun hm => by
      rw [(B.frames.mem hm).1] at e; cases e), B.frames.of_keeps fun b o e _ => by
        obtain ⟨sl', hs'⟩ := T₁.up e
        exact ⟨_, hs', rfl⟩⟩
    have N₃ := old sl hs N' fun b o e => by
      obtain ⟨sl', hs'⟩ := T'.up (st _ _ e)
      exact ⟨_, hs'⟩
    exact k _ (T0.trans T₁) ⟨hNs sl _ (F'.keep _ _ hs), S₁, by rw [T₁.size]; exact F.above⟩ (fun q hq => ⟨(N₃ q hq).1, (N₃ q hq).2.1, T₁.none_ _ (N₃ q hq).2.2⟩) B₃ (XB.keeps B₃.stays) (TB.keeps B₃.stays) (D.turn T₁)
end
end Aq
-- part AqRf
open PySem PySem.W PyProof.Rows
set_option Elab.async false
namespace Aq
open PySem PySem.W PySem.Calls PyProof.Rows PySem.Spec
section
local macro_rules | `(tactic| k_all) => `(tactic| first | exact allLt_ne (by assumption) (by (try dsimp only); omega) | exact OwnOff.ne (by assumption) (by simp only [List.mem_cons, true_or, or_true]))
local macro_rules | `(tactic| k_ne) => `(tactic| first | ((refine neN ?_; (try dsimp only)); refine' Apart.ne (by assumption) ?ax ?ay ?an; (case ax => first | exact ix0 | exact ix1 | exact ix2 | exact ix3 | exact ix4 | exact ix5 | exact ix6 | exact ix7 | exact ix8); (case ay => first | exact ix0 | exact ix1 | exact ix2 | exact ix3 | exact ix4 | exact ix5 | exact ix6 | exact ix7 | exact ix8); (case an => decide)) | fail "not apart")
theorem ob_of {h₀ h : Heap} {L : Addr} {a : Addr} {o : Obj} {l : List (Addr × Obj)} (N : News h₀ L h l) (hm : (a, o) ∈ l) : h.get? a = some o := (N _ hm).1
local macro_rules | `(tactic| walk_at "call builtin:len") => `(tactic| (k_here; (with_reducible show wpAny _ _ (call (Value.builtin "len") [Value.ref _]) _ _ _); k_dflt (refine' len_ba (ob_of ?lN ?lm) ?lz ?_; (case lN => k_asm); (case lm => k_mem); (case lz => assumption))))
set_option maxRecDepth 100000 in
set_option maxHeartbeats 4000000 in
theorem refused_ct {w : World} {s : Shared} {base h₀ : Heap} {L : Addr} {mL mg mb : Str → Option Value} {envL envD : Env} {p : Program} {loose : List Str} {mean : ExcName → Option Value} {Q : Value → Shared → Prop}
    {b d y : Addr} {bs : Array UInt8} {pl sz : Int} {tq ts : Tok} {h1 h2 : Int} {k1 k2 : Tok} {rest : List (Addr × Obj)}
    (B : Below (callerA.deeper envL) base [envL] h₀) (F : Fr h₀ L s.heap mL) (X₀ : (hd.heap_39 w.params).In h₀) (T : Top p loose mean mg mb h₀) (XB : (hd.heap_39 w.params).In base) (TB : Top p loose mean mg mb base) (D : KtsDicts ([envL].filterMap (·.frame)) h₀) (hf : envD.frame = some L) (hke : envD.scope.kind = .function)
    (N : News h₀ L s.heap ((b, instObj 134 d) :: (d, dictOf [⟨h1, .str (Str.ofString "data") k1, .ref y⟩, ⟨h2, .str (Str.ofString "offset") k2, .int pl tq⟩] 2) :: (y, baObj bs) :: rest))
    (ap : Apart [b, d, y]) (off : OwnOff rest [b, d, y]) (hz : bs.size ≤ sizeLine) (hz2 : bs.size ≤ 200000) (p0 : 0 ≤ pl) (p1 : pl ≤ bs.size) (s0 : 0 ≤ sz) (s1 : sz ≤ 100) (hgt : sz > (bs.size : Int) - pl)
    (k : ∀ h₁ h' tk, KtsTurn ([envL].filterMap (·.frame)) h₀ h₁ → Fr h₁ L h' mL → Below (callerA.deeper envL) base [envL] h₁ → (hd.heap_39 w.params).In h₁ → Top p loose mean mg mb h₁ → KtsDicts ([envL].filterMap (·.frame)) h₁ → News h₁ L h' ((b, instObj 134 d) :: (d, dictOf [⟨h1, .str (Str.ofString "data") k1, .ref y⟩, ⟨h2, .str (Str.ofString "offset") k2, .int pl tq⟩] 2) :: (y, baObj bs) :: rest) → Q (.bool true) { s with heap := h', toks := tk }) :
    wpAny (model PySem.Challenge.rw_aq6016_01.row.toRowW.prog w) ((callerA.deeper envL).deeper envD) (call (.ref 177) [.ref b, .int sz ts] []) Q noE s := by
  revert X₀; k_fill; intro X₀
  refine wpAny_call ?_
  (refine' code_defSX (g₀ := h₀) ?k1 ?k2 ?k3 ?k4 ?k5 ?XB ?TB ?D ?T0 ?kA ?kF ?kK ?k6 ?k7 ?k8 ?k9 ?kB ?_ ?c2 ?c3 ?c4 ?c5; (case kA => exact rfl); (case kF => assumption); (case kK => assumption); (case k2 => k_asm); (case k1 => k_asm); (case XB => assumption); (case TB => assumption); (case D => assumption); (case T0 => exact KtsTurn.refl); (case k3 => exact X₀); (case k4 => k_asm); (case k5 => exact T); (case k6 => k_is); (case k7 => k_is); (case k8 => k_room); (case k9 => first | exact binds_K (by k_in) rfl (by k_is) rfl rfl rfl | exact BindsTo.of_eq rfl); (case kB => exact locs rfl); (case c2 => exact rfl); (case c3 => exact rfl); (case c4 => exact rfl); (case c5 => decide); k_whole; intro g' L' h' FG' F' N' B' X' T' D'; (try dsimp only); (try k_lift B'); (try k_fold))
  k_steps
  rename KtsTurn _ _ _ => c1
  rename Fr _ _ _ _ => c2
  rename Below _ _ _ _ => c3
  rename KtsDicts _ _ => c4
  rename News _ _ _ _ => c5
  rename Frag.In _ _ => c6
  rename Top _ _ _ _ _ _ => c7
  exact k _ _ _ c1 c2 c3 c6 c7 c4 (News.sub c5 fun p hp => .tail _ hp)
end
end Aq
-- part AqUf
open PySem PySem.W PyProof.Rows
set_option Elab.async false
namespace Aq
open PySem PySem.W PySem.Calls PyProof.Rows PySem.Spec
section
local macro_rules | `(tactic| k_all) => `(tactic| first | exact allLt_ne (by assumption) (by (try dsimp only); omega) | exact OwnOff.ne (by assumption) (by simp only [List.mem_cons, true_or, or_true]))
local macro_rules | `(tactic| k_ne) => `(tactic| first | ((refine neN ?_; (try dsimp only)); refine' Apart.ne (by assumption) ?ax ?ay ?an; (case ax => first | exact ix0 | exact ix1 | exact ix2 | exact ix3 | exact ix4 | exact ix5 | exact ix6 | exact ix7 | exact ix8); (case ay => first | exact ix0 | exact ix1 | exact ix2 | exact ix3 | exact ix4 | exact ix5 | exact ix6 | exact ix7 | exact ix8); (case an => decide)) | fail "not apart")
local macro_rules | `(tactic| walk_at "call builtin:len") => `(tactic| (k_here; (with_reducible show wpAny _ _ (call (Value.builtin "len") [Value.ref _]) _ _ _); k_dflt (refine' len_ba (ob_of ?lN ?lm) ?lz ?_; (case lN => k_asm); (case lm => k_mem); (case lz => assumption))))
local macro_rules | `(tactic| walk_at "call builtin:_struct.calcsize") => `(tactic| (refine calcsize_form (by assumption) ?_))
set_option maxRecDepth 100000 in
set_option maxHeartbeats 4000000 in
theorem unref_ct {w : World} {s : Shared} {base h₀ : Heap} {L : Addr} {mL mg mb : Str → Option Value} {envL envD : Env} {p : Program} {loose : List Str} {mean : ExcName → Option Value} {Q : Value → Shared → Prop}
    {b d y : Addr} {bs : Array UInt8} {pl : Int} {tq ts : Tok} {fs : Str} {zs : List Nat} {h1 h2 : Int} {k1 k2 : Tok} {rest : List (Addr × Obj)}
    (B : Below (callerA.deeper envL) base [envL] h₀) (F : Fr h₀ L s.heap mL) (X₀ : (hd.heap_39 w.params).In h₀) (T : Top p loose mean mg mb h₀) (XB : (hd.heap_39 w.params).In base) (TB : Top p loose mean mg mb base) (D : KtsDicts ([envL].filterMap (·.frame)) h₀) (hf : envD.frame = some L) (hke : envD.scope.kind = .function)
    (N : News h₀ L s.heap ((b, instObj 134 d) :: (d, dictOf [⟨h1, .str (Str.ofString "data") k1, .ref y⟩, ⟨h2, .str (Str.ofString "offset") k2, .int pl tq⟩] 2) :: (y, baObj bs) :: rest))
    (ap : Apart [b, d, y]) (off : OwnOff rest [b, d, y]) (hz : bs.size ≤ sizeLine) (hz2 : bs.size ≤ 200000) (p0 : 0 ≤ pl) (p1 : pl ≤ bs.size) (hF : IsForm fs zs) (s1 : ((zs.sum : Nat) : Int) ≤ 8) (hgt : ((zs.sum : Nat) : Int) > (bs.size : Int) - pl)
    (k : ∀ h₁ h' tk, KtsTurn ([envL].filterMap (·.frame)) h₀ h₁ → Fr h₁ L h' mL → Below (callerA.deeper envL) base [envL] h₁ → (hd.heap_39 w.params).In h₁ → Top p loose mean mg mb h₁ → KtsDicts ([envL].filterMap (·.frame)) h₁ → News h₁ L h' ((b, instObj 134 d) :: (d, dictOf [⟨h1, .str (Str.ofString "data") k1, .ref y⟩, ⟨h2, .str (Str.ofString "offset") k2, .int pl tq⟩] 2) :: (y, baObj bs) :: rest) → Q (.bool true) { s with heap := h', toks := tk }) :
    wpAny (model PySem.Challenge.rw_aq6016_01.row.toRowW.prog w) ((callerA.deeper envL).deeper envD) (call (.ref 184) [.ref b, .str fs ts] []) Q noE s := by
  revert X₀; k_fill; intro X₀
  refine wpAny_call ?_
  (refine' code_defSX (g₀ := h₀) ?k1 ?k2 ?k3 ?k4 ?k5 ?XB ?TB ?D ?T0 ?kA ?kF ?kK ?k6 ?k7 ?k8 ?k9 ?kB ?_ ?c2 ?c3 ?c4 ?c5; (case kA => exact rfl); (case kF => assumption); (case kK => assumption); (case k2 => k_asm); (case k1 => k_asm); (case XB => assumption); (case TB => assumption); (case D => assumption); (case T0 => exact KtsTurn.refl); (case k3 => exact X₀); (case k4 => k_asm); (case k5 => exact T); (case k6 => k_is); (case k7 => k_is); (case k8 => k_room); (case k9 => first | exact binds_K (by k_in) rfl (by k_is) rfl rfl rfl | exact BindsTo.of_eq rfl); (case kB => exact locs rfl); (case c2 => exact rfl); (case c3 => exact rfl); (case c4 => exact rfl); (case c5 => decide); k_whole; intro g' L' h' FG' F' N' B' X' T' D'; (try dsimp only); (try k_lift B'); (try k_fold))
  k_steps
  rename KtsTurn _ _ _ => c1
  rename Fr _ _ _ _ => c2
  rename Below _ _ _ _ => c3
  rename KtsDicts _ _ => c4
  rename News _ _ _ _ => c5
  rename Frag.In _ _ => c6
  rename Top _ _ _ _ _ _ => c7
  exact k _ _ _ c1 c2 c3 c6 c7 c4 (News.sub c5 fun p hp => by repeat (first | exact hp | refine List.mem_cons_of_mem _ ?_))
end
end Aq
-- part AqSl
open PySem PySem.W PyProof.Rows
set_option Elab.async false
set_option maxRecDepth 100000
namespace Aq
open PySem PySem.W PySem.Calls PyProof.Rows PySem.Spec
section
variable {prog : Program} {w : World} {A : Around} {E : Value → Shared → Prop} {s : Shared} {h₀ : Heap} {L y : Addr} {m : Str → Option Value} {news : List (Addr × Obj)} {value slice : PySem.Expr} {b : Array UInt8} {vl vu : Value} {lo hi : Option Int} {Q : Value → Shared → Prop}
/-- a slice of a bytearray of the ledger -/
theorem slice_baL (F : Fr h₀ L s.heap m) (N : News h₀ L s.heap news) (hy : (y, baObj b) ∈ news) (pl : IsPart vl lo) (pu : IsPart vu hi) (hz : b.size ≤ sizeLine)
    (h : ∀ D h', Fr h₀ L h' m → News h₀ L h' ((D, baObj (KBy.picked b lo hi)) :: news) → (∀ p ∈ news, p.1 < D) → Q (.ref D) { s with heap := h' })
    (hs : subscripted slice false (.ref y) (.ref s.heap.objs.size) = operate [.ref s.heap.objs.size, .ref y] (getItem (.ref y) (.ref s.heap.objs.size))) :
    wpAny (model prog w) A (subscriptTail value slice (.ref y) (.ref s.heap.objs.size)) Q E { s with heap := s.heap.push { cls := .type "slice", data := .fields #[vl, vu, .none] } } := by
  have ky := Heap.get?_push_of_some ({ cls := .type "slice", data := .fields #[vl, vu, .none] } : Obj) (N _ hy).1
  refine tail_any (s := { s with heap := s.heap.push { cls := .type "slice", data := .fields #[vl, vu, .none] } }) (typeIs_ba ky) ba_slot_getitem.lookup ?_ hs
  refine getItem_ba_slice ky (Heap.IsSliceOf.new ..) pl pu hz ?_
  have N1 := News.push (F.push ({ cls := .type "slice", data := .fields #[vl, vu, .none] } : Obj)) (N.grown fun _ _ e => Heap.get?_push_of_some _ e) (baObj (KBy.picked b lo hi))
  rw [Heap.size_push] at N1
  show Q (.ref (s.heap.push _).objs.size) _
  rw [Heap.size_push]
  exact h _ _ ((F.push _).push _) N1 fun p hp => Nat.lt_succ_of_lt (Heap.lt_size (N p hp).1)
end
end Aq
-- part AqGt
open PySem PySem.W PyProof.Rows
set_option Elab.async false
namespace Aq
open PySem PySem.W PySem.Calls PyProof.Rows PySem.Spec
section
local macro_rules | `(tactic| k_all) => `(tactic| first | exact allLt_ne (by assumption) (by (try dsimp only); omega) | exact OwnOff.ne (by assumption) (by simp only [List.mem_cons, true_or, or_true]))
local macro_rules | `(tactic| k_ne) => `(tactic| first | ((refine neN ?_; (try dsimp only)); refine' Apart.ne (by assumption) ?ax ?ay ?an; (case ax => first | exact ix0 | exact ix1 | exact ix2 | exact ix3 | exact ix4 | exact ix5 | exact ix6 | exact ix7 | exact ix8); (case ay => first | exact ix0 | exact ix1 | exact ix2 | exact ix3 | exact ix4 | exact ix5 | exact ix6 | exact ix7 | exact ix8); (case an => decide)) | fail "not apart")
local macro_rules | `(tactic| walk_at "call builtin:len") => `(tactic| (k_here; (with_reducible show wpAny _ _ (call (Value.builtin "len") [Value.ref _]) _ _ _); k_dflt (refine' len_ba (ob_of ?lN ?lm) ?lz ?_; (case lN => k_asm); (case lm => k_mem); (case lz => assumption))))
local macro_rules | `(tactic| walk_at "subscriptTail Attribute Slice ref ref") => `(tactic| (k_here; (with_reducible show wpAny _ _ (subscriptTail _ (PySem.Expr.Slice _ _ none _) (Value.ref _) (Value.ref _)) _ _ _); k_dflt (refine' slice_baL ?F ?N ?y ?p ?q ?z ?_ ?s; (case F => k_asm); (case N => k_asm); (case y => k_mem); (case p => kmk_part); (case q => kmk_part); (case z => assumption); (case s => with_unfolding_all rfl)); intro D' h' F' N' l1; (try k_lt l1); (try k_sweep)))
local macro_rules | `(tactic| walk_at "subscriptTail Name Slice ref ref") => `(tactic| (k_here; (with_reducible show wpAny _ _ (subscriptTail _ (PySem.Expr.Slice _ _ none _) (Value.ref _) (Value.ref _)) _ _ _); k_dflt (refine' slice_baL ?F ?N ?y ?p ?q ?z ?_ ?s; (case F => k_asm); (case N => k_asm); (case y => k_mem); (case p => kmk_part); (case q => kmk_part); (case z => assumption); (case s => with_unfolding_all rfl)); intro D' h' F' N' l1; (try k_lt l1); (try k_sweep)))
local macro_rules | `(tactic| walk_at "call type:bytes") => `(tactic| (k_here; (with_reducible show wpAny _ _ (call (Value.type "bytes") [Value.ref _]) _ _ _); k_dflt (refine' call_bytes_ba (ob_of ?lN ?lm) ?lz ?_; (case lN => k_asm); (case lm => k_mem); (case lz => exact Nat.le_trans (KBc.size_picked_le _ _ _) (by assumption))); intro t7 k7))
set_option maxRecDepth 100000 in
set_option maxHeartbeats 4000000 in
theorem get_ct {w : World} {s : Shared} {envL : Env} {base h₀ : Heap} {L : Addr} {mL mg mb : Str → Option Value} {envD : Env} {p : Program} {loose : List Str} {mean : ExcName → Option Value} {Q : Value → Shared → Prop}
    {b d y : Addr} {bs : Array UInt8} {pl sz : Int} {tq ts : Tok} {h1 h2 : Int} {k1 k2 : Tok} {rest : List (Addr × Obj)}
    (B : Below (callerA.deeper envL) base [envL] h₀) (F : Fr h₀ L s.heap mL) (X₀ : (hd.heap_39 w.params).In h₀) (T : Top p loose mean mg mb h₀) (hf : envD.frame = some L) (hke : envD.scope.kind = .function)
    (N : News h₀ L s.heap ((b, instObj 134 d) :: (d, dictOf [⟨h1, .str (Str.ofString "data") k1, .ref y⟩, ⟨h2, .str (Str.ofString "offset") k2, .int pl tq⟩] 2) :: (y, baObj bs) :: rest))
    (ap : Apart [b, d, y]) (off : OwnOff rest [b, d, y]) (hz : bs.size ≤ sizeLine) (hz2 : bs.size ≤ 200000) (p0 : 0 ≤ pl) (p1 : pl ≤ bs.size) (s0 : 0 ≤ sz) (hle : ¬ sz > (bs.size : Int) - pl)
    (k : ∀ h' tk t tq', Fr h₀ L h' mL → News h₀ L h' ((b, instObj 134 d) :: (d, dictOf [⟨h1, .str (Str.ofString "data") k1, .ref y⟩, ⟨h2, .str (Str.ofString "offset") k2, .int (pl + sz) tq'⟩] 2) :: (y, baObj bs) :: rest) → Q (.bytes (KBy.picked bs (some pl) (some (pl + sz))) t) { s with heap := h', toks := tk }) :
    wpAny (model PySem.Challenge.rw_aq6016_01.row.toRowW.prog w) ((callerA.deeper envL).deeper envD) (call (.ref 89) [.ref b, .int sz ts] []) Q noE s := by
  revert X₀; k_fill; intro X₀
  refine wpAny_call ?_
  (refine' code_def ?k1 ?k2 ?k3 ?k4 ?k5 ?kA ?kF ?kK ?k6 ?k7 ?k8 ?k9 ?kB ?_ ?c2 ?c3 ?c4 ?c5; (case kA => exact rfl); (case kF => assumption); (case kK => assumption); (case k1 => k_asm); (case k2 => k_asm); (case k3 => k_asm); (case k4 => k_asm); (case k5 => k_asm); (case k6 => k_is); (case k7 => k_is); (case k8 => k_room); (case k9 => first | exact BindsTo.of_eq rfl | exact binds_K (by k_in) rfl (by k_is) rfl rfl rfl); (case c5 => decide); (case kB => exact locs rfl); (case c2 => exact rfl); (case c3 => exact rfl); (case c4 => exact rfl); k_whole; intro g' L' h' FG' F' N' B' X' T'; (try dsimp only); (try k_lift B'); (try k_fold))
  k_steps
  rename Fr _ _ _ _ => c2
  rename News _ _ _ _ => c5
  exact k _ _ _ _ c2 (News.sub c5 fun p hp => .tail _ hp)
end
end Aq
-- part AqPl
open PySem PySem.W PyProof.Rows
set_option Elab.async false
set_option maxRecDepth 100000
namespace Aq
open PySem PySem.W PySem.Calls PyProof.Rows PySem.Spec
theorem ints_run {b : Array UInt8} {a z : Int} (ha : 0 ≤ a) (hz : 0 ≤ z) : KBw.bInts (KBy.picked b (some a) (some (a + z))) = ((KBw.bInts b).drop a.toNat).take z.toNat := by
  rw [KBc.ints_picked rfl]
  have e1 : ∀ (n : Nat) (x : Int), 0 ≤ x → clipAt n x = min x.toNat n := fun n x hx => by
    obtain ⟨k, rfl⟩ := Int.eq_ofNat_of_zero_le hx
    rw [clipAt_nat]; omega
  simp only [Option.elim]
  rw [e1 _ _ ha, e1 _ _ (by omega)]
  by_cases hl : a.toNat ≤ (KBw.bInts b).length
  · rw [Nat.min_eq_left hl]
    apply List.ext_getElem?
    intro i
    simp only [List.getElem?_take, List.getElem?_drop]
    by_cases h3 : i < z.toNat
    · rw [if_pos h3]
      split
      · rfl
      · rw [List.getElem?_eq_none (by omega)]
    · rw [if_neg h3, if_neg (by omega)]
  · rw [List.drop_eq_nil_of_le (by omega), List.drop_eq_nil_of_le (by omega)]; simp
theorem size_run {b : Array UInt8} {a z : Int} (ha : 0 ≤ a) (hz : 0 ≤ z) (h : ¬ z > (b.size : Int) - a) : (KBy.picked b (some a) (some (a + z))).size = z.toNat := by
  rw [← KBw.ints_length, ints_run ha hz, List.length_take, List.length_drop, KBw.ints_length]
  omega
/-- bytes from their ints -/
theorem byteArr_of {b : Array UInt8} {ns : List Int} (h : KBw.bInts b = ns) : byteArr ns = b := by
  subst h
  show (((b.toList.map fun c => (c.toNat : Int)).map fun n => UInt8.ofNat n.toNat)).toArray = b
  rw [List.map_map]
  have : ((fun n : Int => UInt8.ofNat n.toNat) ∘ fun c : UInt8 => (c.toNat : Int)) = id := by
    funext c
    simp
  rw [this, List.map_id, Array.toArray_toList]
theorem readL_take : ∀ (zs : List Nat) (os : List Int) (n : Nat), zs.sum ≤ n → readL (os.take n) zs = readL os zs
  | [], os, n, _ => by simp [readL]
  | z :: zs, os, n, h => by
    rw [List.sum_cons] at h
    rw [readL, readL, List.take_take, Nat.min_eq_left (by omega), List.drop_take, readL_take zs _ _ (by omega)]
section
variable {prog : Program} {w : World} {A : Around} {E : Value → Shared → Prop} {s : Shared} {h₀ : Heap} {L : Addr} {m : Str → Option Value} {news : List (Addr × Obj)}
theorem unpack_L {fs : Str} {zs : List Nat} {t tb : Tok} {b : Array UInt8} {Q : Value → Shared → Prop} (F : Fr h₀ L s.heap m) (N : News h₀ L s.heap news) (hf : IsForm fs zs) (hb : b.size = zs.sum)
    (h : ∀ D vs h' k, Fr h₀ L h' m → News h₀ L h' ((D, { cls := .type "tuple", data := .seq (List.toArray vs) }) :: news) → (∀ p ∈ news, p.1 < D) → IntsAre vs (readL (KBw.bInts b) zs) → Q (.ref D) { s with heap := h', toks := k }) :
    wpAny (model prog w) A (call (.builtin "_struct.unpack") [.str fs t, .bytes b tb]) Q E s := by
  refine unpack_form hf hb fun vs k hi => ?_
  exact h _ vs _ k (F.push _) (News.push F N _) (fun p hp => Heap.lt_size (N p hp).1) hi
end
end Aq
-- part AqUn
open PySem PySem.W PyProof.Rows
set_option Elab.async false
namespace Aq
open PySem PySem.W PySem.Calls PyProof.Rows PySem.Spec
section
local macro_rules | `(tactic| k_all) => `(tactic| first | exact allLt_ne (by assumption) (by (try dsimp only); omega) | exact OwnOff.ne (by assumption) (by simp only [List.mem_cons, true_or, or_true]))
local macro_rules | `(tactic| k_ne) => `(tactic| first | ((refine neN ?_; (try dsimp only)); refine' Apart.ne (by assumption) ?ax ?ay ?an; (case ax => first | exact ix0 | exact ix1 | exact ix2 | exact ix3 | exact ix4 | exact ix5 | exact ix6 | exact ix7 | exact ix8); (case ay => first | exact ix0 | exact ix1 | exact ix2 | exact ix3 | exact ix4 | exact ix5 | exact ix6 | exact ix7 | exact ix8); (case an => decide)) | fail "not apart")
local macro_rules | `(tactic| walk_at "call builtin:len") => `(tactic| (k_here; (with_reducible show wpAny _ _ (call (Value.builtin "len") [Value.ref _]) _ _ _); k_dflt (refine' len_ba (ob_of ?lN ?lm) ?lz ?_; (case lN => k_asm); (case lm => k_mem); (case lz => assumption))))
local macro_rules | `(tactic| walk_at "subscriptTail Attribute Slice ref ref") => `(tactic| (k_here; (with_reducible show wpAny _ _ (subscriptTail _ (PySem.Expr.Slice _ _ none _) (Value.ref _) (Value.ref _)) _ _ _); k_dflt (refine' slice_baL ?F ?N ?y ?p ?q ?z ?_ ?s; (case F => k_asm); (case N => k_asm); (case y => k_mem); (case p => kmk_part); (case q => kmk_part); (case z => assumption); (case s => with_unfolding_all rfl)); intro D' h' F' N' l1; (try k_lt l1); (try k_sweep)))
local macro_rules | `(tactic| walk_at "subscriptTail Name Slice ref ref") => `(tactic| (k_here; (with_reducible show wpAny _ _ (subscriptTail _ (PySem.Expr.Slice _ _ none _) (Value.ref _) (Value.ref _)) _ _ _); k_dflt (refine' slice_baL ?F ?N ?y ?p ?q ?z ?_ ?s; (case F => k_asm); (case N => k_asm); (case y => k_mem); (case p => kmk_part); (case q => kmk_part); (case z => assumption); (case s => with_unfolding_all rfl)); intro D' h' F' N' l1; (try k_lt l1); (try k_sweep)))
local macro_rules | `(tactic| walk_at "call type:bytes") => `(tactic| (k_here; (with_reducible show wpAny _ _ (call (Value.type "bytes") [Value.ref _]) _ _ _); k_dflt (refine' call_bytes_ba (ob_of ?lN ?lm) ?lz ?_; (case lN => k_asm); (case lm => k_mem); (case lz => exact Nat.le_trans (KBc.size_picked_le _ _ _) (by assumption))); intro t7 k7))
local macro_rules | `(tactic| walk_at "call builtin:_struct.calcsize") => `(tactic| (refine calcsize_form (by assumption) ?_))
local macro_rules | `(tactic| walk_at "call builtin:_struct.unpack") => `(tactic| (k_here; k_dflt (refine' unpack_L ?F ?N ?f ?b ?_; (case F => k_asm); (case N => k_asm); (case f => assumption); (case b => exact (size_run (by assumption) (by assumption) (by assumption)).trans (Int.toNat_natCast _))); intro D' vs' h' k' F' N' l1 i'; (try k_lt l1); (try k_sweep)))
set_option maxRecDepth 100000 in
set_option maxHeartbeats 4000000 in
theorem unpack_ct {w : World} {s : Shared} {envL : Env} {base h₀ : Heap} {L : Addr} {mL mg mb : Str → Option Value} {envD : Env} {p : Program} {loose : List Str} {mean : ExcName → Option Value} {Q : Value → Shared → Prop}
    {b d y : Addr} {bs : Array UInt8} {pl : Int} {tq ts : Tok} {fs : Str} {zs : List Nat} {h1 h2 : Int} {k1 k2 : Tok} {rest : List (Addr × Obj)}
    (B : Below (callerA.deeper envL) base [envL] h₀) (F : Fr h₀ L s.heap mL) (X₀ : (hd.heap_39 w.params).In h₀) (T : Top p loose mean mg mb h₀) (hf : envD.frame = some L) (hke : envD.scope.kind = .function)
    (N : News h₀ L s.heap ((b, instObj 134 d) :: (d, dictOf [⟨h1, .str (Str.ofString "data") k1, .ref y⟩, ⟨h2, .str (Str.ofString "offset") k2, .int pl tq⟩] 2) :: (y, baObj bs) :: rest))
    (ap : Apart [b, d, y]) (off : OwnOff rest [b, d, y]) (hz : bs.size ≤ sizeLine) (hz2 : bs.size ≤ 200000) (p0 : 0 ≤ pl) (p1 : pl ≤ bs.size) (hF : IsForm fs zs) (s0 : 0 ≤ ((zs.sum : Nat) : Int)) (s1 : ((zs.sum : Nat) : Int) ≤ 8) (hle : ¬ ((zs.sum : Nat) : Int) > (bs.size : Int) - pl)
    (k : ∀ D vs h' tk tq', Fr h₀ L h' mL → News h₀ L h' ((D, { cls := .type "tuple", data := .seq (List.toArray vs) }) :: (b, instObj 134 d) :: (d, dictOf [⟨h1, .str (Str.ofString "data") k1, .ref y⟩, ⟨h2, .str (Str.ofString "offset") k2, .int (pl + ((zs.sum : Nat) : Int)) tq'⟩] 2) :: (y, baObj bs) :: rest) → (b < D ∧ d < D ∧ y < D ∧ AllLt D rest) → IntsAre vs (readL (KBw.bInts (KBy.picked bs (some pl) (some (pl + ((zs.sum : Nat) : Int))))) zs) → Q (.ref D) { s with heap := h', toks := tk }) :
    wpAny (model PySem.Challenge.rw_aq6016_01.row.toRowW.prog w) ((callerA.deeper envL).deeper envD) (call (.ref 124) [.ref b, .str fs ts] []) Q noE s := by
  revert X₀; k_fill; intro X₀
  refine wpAny_call ?_
  (refine' code_def ?k1 ?k2 ?k3 ?k4 ?k5 ?kA ?kF ?kK ?k6 ?k7 ?k8 ?k9 ?kB ?_ ?c2 ?c3 ?c4 ?c5; (case kA => exact rfl); (case kF => assumption); (case kK => assumption); (case k1 => k_asm); (case k2 => k_asm); (case k3 => k_asm); (case k4 => k_asm); (case k5 => k_asm); (case k6 => k_is); (case k7 => k_is); (case k8 => k_room); (case k9 => first | exact BindsTo.of_eq rfl | exact binds_K (by k_in) rfl (by k_is) rfl rfl rfl); (case c5 => decide); (case kB => exact locs rfl); (case c2 => exact rfl); (case c3 => exact rfl); (case c4 => exact rfl); k_whole; intro g' L' h' FG' F' N' B' X' T'; (try dsimp only); (try k_lift B'); (try k_fold))
  k_steps
  rename Fr _ _ _ _ => c2
  rename News _ _ _ _ => c5
  rename (_ < _) ∧ _ => c6
  exact k _ _ _ _ _ c2 (News.sub c5 fun p hp => by
    rcases List.mem_cons.mp hp with h | h
    · exact h ▸ .head _
    · exact .tail _ (.tail _ h)) c6.2 (by assumption)
end
end Aq
-- part AqTq
open PySem PySem.W PyProof.Rows
set_option Elab.async false
set_option maxRecDepth 100000
namespace Aq
open PySem PySem.W PySem.Calls PyProof.Rows PySem.Spec PySem.SeqAt
section
variable {prog : Program} {w : World} {A : Around} {E : Value → Shared → Prop} {s : Shared} {h₀ : Heap} {L : Addr} {m : Str → Option Value} {news : List (Addr × Obj)}
theorem eq_tupK {a b : Addr} {vs us : List Value} {ns ms : List Int} {c c' : Nat} {Q : Value → Shared → Prop} (N : News h₀ L s.heap news)
    (ha : (a, ({ cls := .type "tuple", data := .seq (List.toArray vs) c } : Obj)) ∈ news) (hb : (b, ({ cls := .type "tuple", data := .seq (List.toArray us) c' } : Obj)) ∈ news) (hi : IntsAre vs ns) (hi' : IntsAre us ms) (hu : A.units + 64 < cLine)
    (h : Q (.bool (decide (ns = ms))) s) : wpAny (model prog w) A (compareOp .Eq (.ref a) (.ref b)) Q E s := by
  refine eq_dataH_same (da := .tuple (ns.map PyData.int)) (db := .tuple (ms.map PyData.int)) (reads_tuple_at (N _ ha).1 rfl rfl (readsAll_of_ints hi)) (reads_tuple_at (N _ hb).1 rfl rfl (readsAll_of_ints hi')) ?_ ?_ hu ?_ ?_
  · simp [SeqAt.shaped, PyData.canLay0, PyData.depth, ke_canLayAll0, ke_depthAll]
  · simp [SeqAt.shaped, PyData.canLay0, PyData.depth, ke_canLayAll0, ke_depthAll]
  · simp only [noMix]; exact noMix_ints ns ms
  · simp only [PySem.Spec.same]; rw [same_ints]; exact h
end
end Aq
-- part AqDd
open PySem PySem.W PyProof.Rows
set_option Elab.async false
namespace Aq
open PySem PySem.W PySem.Calls PyProof.Rows PySem.Spec

local macro_rules | `(tactic| k_all) => `(tactic| first | exact OwnOff.ne (by assumption) (by simp only [List.mem_cons, true_or, or_true]) | exact allLt_ne (by assumption) (by (try dsimp only); omega))
local macro_rules | `(tactic| walk_at "subscriptTail") => `(tactic| (k_here; refine' forms_tail ?kF ?kX ?k0 ?k1 ?_; (case kF => k_asm); (case kX => k_asm); (case k0 => exact Int.fmod_nonneg_of_pos _ (by decide)); (case k1 => exact Int.fmod_lt_of_pos _ (by decide)); k_whole; intro t9 sz9 fs9 kf9 zv9 zs9 zi9 hT9 hL9 hZ9 hI9 hE9 hM9 hB9))
local macro_rules | `(tactic| k_ne) => `(tactic| first | ((refine neN ?_; (try dsimp only)); refine' Apart.ne (by assumption) ?ax ?ay ?an; (case ax => first | exact ix0 | exact ix1 | exact ix2 | exact ix3 | exact ix4 | exact ix5 | exact ix6 | exact ix7 | exact ix8); (case ay => first | exact ix0 | exact ix1 | exact ix2 | exact ix3 | exact ix4 | exact ix5 | exact ix6 | exact ix7 | exact ix8); (case an => decide)) | fail "not apart")
local macro_rules | `(tactic| walk_at "subscriptTail") => `(tactic| (k_here; refine' item9 ?kF ?kl ?ki ?kM ?k0 ?k1 ?_; (case kF => k_asm); (case kl => assumption); (case ki => assumption); (case kM => assumption); (case k0 => assumption); (case k1 => assumption); k_whole; intro t9))
local macro_rules | `(tactic| walk_at "subscriptTail Name Name ref int") => `(tactic| (k_here; refine' item9 ?kF ?kl ?ki ?kM ?k0 ?k1 ?_; (case kF => k_asm); (case kl => assumption); (case ki => assumption); (case kM => assumption); (case k0 => assumption); (case k1 => assumption); k_whole; intro t9))
local macro_rules | `(tactic| walk_at "binaryOp Pow int int") => `(tactic| (with_reducible refine pow9 (by assumption) (by decide) ?_))
local macro_rules | `(tactic| walk_at "binaryOp Mod int int") => `(tactic| (with_reducible refine mod_int' (pow_ne9 _) ?_))
local macro_rules | `(tactic| walk_at "call ref") => `(tactic| (k_here; k_dflt (refine' wire_ct ?wB ?wF ?wX ?wT ?wf ?wk ?wN ?wL ?wz ?w3 ?wb ?wx ?wl ?_; (case wB => k_asm); (case wF => k_asm); (case wX => k_asm); (case wT => k_asm); (case wf => exact rfl); (case wk => exact rfl); (case wN => k_asm); (case wL => assumption); (case wz => assumption); (case w3 => assumption); (case wb => assumption); (case wx => assumption); (case wl => simp only [List.length_map, rangeKs_length]; omega); k_whole; intro D' ws' c' os' h' tk' F' N' l1 i' oe' ol'; (try k_lt l1); (try k_sweep))))
local macro_rules | `(tactic| walk_at "setItem ref int") => `(tactic| (k_here; k_dflt (refine' set_pair ?sF ?sN ?sU ?_; (case sF => k_asm); (case sN => k_asm); (case sU => k_upd)); intro h' F' N'; (try k_sweep)))
local macro_rules | `(tactic| walk_at "setItem ref int") => `(tactic| (k_here; k_dflt (refine' set_pair1 ?sF ?sN ?sU ?_; (case sF => k_asm); (case sN => k_asm); (case sU => k_upd)); intro h' F' N'; (try k_sweep)))
local macro_rules | `(tactic| walk_at "setItem ref int ref") => `(tactic| (k_here; k_dflt (refine' set_pair ?sF ?sN ?sU ?_; (case sF => k_asm); (case sN => k_asm); (case sU => k_upd)); intro h' F' N'; (try k_sweep)))
local macro_rules | `(tactic| walk_at "setItem ref int int") => `(tactic| (k_here; k_dflt (refine' set_pair1 ?sF ?sN ?sU ?_; (case sF => k_asm); (case sN => k_asm); (case sU => k_upd)); intro h' F' N'; (try k_sweep)))
local macro_rules | `(tactic| walk_at "StarOf ref") => `(tactic| (k_here; k_dflt (refine' star_LL ?k1 ?k2 ?m ?z ?_; (case k1 => k_asm); (case k2 => k_asm); (case m => k_mem); (case z => assumption)); intro h' F' N'; (try k_sweep); try dsimp only [List.nil_append, List.cons_append, List.append_nil]))
/-- a call that may be made -/
def CallIs (M : Model) (A : Around) (f : Value) (first : List Value) (Q : Value → Shared → Prop) (a : Args) (s₁ : Shared) : Prop := (∃ k, Looks M s₁.heap (keeperOf f) k) ∧ wpC M A (call f (first ++ a.pos) a.kw) Q s₁
theorem wpC_callW {M : Model} {A : Around} {s : Shared} {pos : Pos} {f : Value} {first : List Value} {args : List (Bool × Sem Value)} {kws : List (Option Str × Sem Value)} {Q : Value → Shared → Prop}
    (h : wpAny M A (evalArgs f true args kws) (fun a s₁ => CallIs M A f first Q a s₁) noE s) : wpC M A (callWith pos f first args kws) Q s := wpC_callWith h
theorem wpC_callS {M : Model} {A : Around} {s : Shared} {pos : Pos} {f : Value} {first : List Value} {env : Env} {e : Expr} {rest : List Expr} {Q : Value → Shared → Prop}
    (h : wpAny M A (spliced (backTo pos (starEach (e :: rest) env))) (fun vs s₁ => CallIs M A f first Q ⟨vs, []⟩ s₁) noE s) (he : starEach (e :: rest) env = (false, eval e env) :: starEach rest env := by rfl) :
    wpC M A (callWith pos f first (backTo pos (starEach (e :: rest) env)) []) Q s := by
  rw [he] at h ⊢
  exact wpC_callW (evalArgs_plain h)
theorem News.cons1 {h₀ h : Heap} {L : Addr} {p : Addr × Obj} {l : List (Addr × Obj)} (x : h.get? p.1 = some p.2 ∧ p.1 ≠ L ∧ h₀.get? p.1 = none) (N : News h₀ L h l) : News h₀ L h (p :: l) := List.forall_mem_cons.mpr ⟨x, N⟩
theorem Apart.tail {a : Nat} {l : List Nat} (h : Apart (a :: l)) : Apart l := ⟨(List.pairwise_cons.mp h.nodup).2⟩
theorem OwnOff.cons {x : Addr} {o : Obj} {own : List (Addr × Obj)} {adr : List Addr} (h : ∀ b ∈ adr, x ≠ b) (ho : OwnOff own adr) : OwnOff ((x, o) :: own) adr := List.forall_mem_cons.mpr ⟨h, ho⟩
theorem OwnOff.sub {own : List (Addr × Obj)} {adr adr' : List Addr} (ho : OwnOff own adr) (h : ∀ b ∈ adr', b ∈ adr) : OwnOff own adr' := fun p hp b hb => ho p hp b (h b hb)
theorem OwnOff.consA {own : List (Addr × Obj)} {a : Addr} {adr : List Addr} (h : ∀ p ∈ own, p.1 ≠ a) (ho : OwnOff own adr) : OwnOff own (a :: adr) := fun p hp => List.forall_mem_cons.mpr ⟨h p hp, ho p hp⟩
theorem Apart.cons {a : Nat} {l : List Nat} (h : ∀ b ∈ l, a ≠ b) (ha : Apart l) : Apart (a :: l) := ⟨List.pairwise_cons.mpr ⟨h, ha.nodup⟩⟩
theorem off1_all {D : Addr} : ∀ {l : List (Addr × Obj)}, LCg.Off1 D l → ∀ p ∈ l, p.1 ≠ D
  | [], _ => fun _ hp => nomatch hp
  | _ :: _, h => List.forall_mem_cons.mpr ⟨h.1, off1_all h.2⟩
local macro_rules | `(tactic| walk_at "subscriptTail Name Slice ref ref") => `(tactic| (k_here; (with_reducible show wpAny _ _ (subscriptTail _ (PySem.Expr.Slice _ _ none _) (Value.ref _) (Value.ref _)) _ _ _); k_dflt (refine' slice_L ?F ?N ?l ?p ?q ?i ?z ?_ ?s ?t; (case F => k_asm); (case N => k_asm); (case l => k_mem); (case p => kmk_part); (case q => kmk_part); (case i => l_ints); (case z => (first | omega | (simp only [List.length_append]; omega))); (case s => with_unfolding_all rfl); (case t => kmk_pure)); intro D' ws' h' F' N' l1 hI' hL'; (try k_lt l1); (try k_sweep)))
local macro_rules | `(tactic| walk_at "call ref") => `(tactic| (k_here; k_dflt (refine' wire_ct3 ?wB ?wF ?wX ?wT ?wf ?wk ?wN ?wz ?w3 ?wb ?wx ?wl ?wv ?_; (case wB => k_asm); (case wF => k_asm); (case wX => k_asm); (case wT => k_asm); (case wf => exact rfl); (case wk => exact rfl); (case wN => k_asm); (case wz => l_ints); (case w3 => simp); (case wb => simp); (case wx => l_ints); (case wl => rfl); (case wv => (refine neN ?_; omega)); k_whole; intro D' ws' c' os' h' tk' F' N' l1 i' oe' ol'; (try k_lt l1); (try k_sweep))))
local macro_rules | `(tactic| walk_at "call builtin:len") => `(tactic| (k_here; (with_reducible show wpAny _ _ (call (Value.builtin "len") [Value.ref _]) _ _ _); k_dflt (refine' len_ba (ob_of ?lN ?lm) ?lz ?_; (case lN => k_asm); (case lm => k_mem); (case lz => (rw [sizeLine_eq]; omega))))) 
theorem mulok9 {a k : Int} {n : Nat} (h0 : 0 ≤ k) (h1 : k < 0 + ((((n : Int) - 0).toNat : Nat) : Int)) (hn : n ≤ 3) : IntMulOk a (k + 3) :=
  PySem.IntMulOk.of_right (PySem.intBits_le_64 (by omega) (by omega))
local macro_rules | `(tactic| mul_fits) => `(tactic| exact mulok9 (by assumption) (by assumption) (by assumption))
abbrev pairLed (m o b d y : Addr) (vs : List Value) (bs : Array UInt8) (pl : Int) (tp tq : Tok) (c1 c2 : Nat) (h1 h2 : Int) (k1 k2 : Tok) (own : List (Addr × Obj)) : List (Addr × Obj) :=
  (m, listOf #[.ref o, .int pl tp] c1) :: (o, listOf vs.toArray c2) :: (b, instObj 134 d) :: (d, dictOf [⟨h1, .str (Str.ofString "data") k1, .ref y⟩, ⟨h2, .str (Str.ofString "offset") k2, .int pl tq⟩] 2) :: (y, baObj bs) :: own

theorem bInts_in {b : Array UInt8} {n : Int} (h : n ∈ KBw.bInts b) : 0 ≤ n ∧ n < 256 := by
  obtain ⟨c, _, rfl⟩ := List.mem_map.mp h
  exact ⟨Int.natCast_nonneg _, by have := c.toNat_lt; omega⟩
theorem OwnOff.drop3 {own : List (Addr × Obj)} {a b c : Addr} {l : List Addr} (h : OwnOff own (a :: b :: c :: l)) : OwnOff own l := OwnOff.sub h fun _ q => .tail _ (.tail _ (.tail _ q))
theorem Apart.drop5 {a b c d e : Nat} {l : List Nat} (h : Apart (a :: b :: c :: d :: e :: l)) : Apart l := h.tail.tail.tail.tail.tail
local macro_rules | `(tactic| walk_at "call ref") => `(tactic| (k_here; k_dflt (refine' refused_ct ?B ?F ?X ?T ?XB ?TB ?D ?f ?k ?N ?ap ?off ?hz ?hz2 ?p0 ?p1 ?s0 ?s1 ?gt ?_; (case B => k_asm); (case F => k_asm); (case X => k_asm); (case T => k_asm); (case XB => assumption); (case TB => assumption); (case D => assumption); (case f => exact rfl); (case k => exact rfl); (case N => k_asm); (case ap => exact Apart.drop5 (by assumption)); (case off => repeat (first | exact OwnOff.drop3 (by assumption) | refine OwnOff.cons (by assumption) ?_)); (case hz => (rw [sizeLine_eq]; omega)); (case hz2 => omega); (case p0 => assumption); (case p1 => assumption); (case s0 => assumption); (case s1 => omega); (case gt => omega); k_whole; intro h₁ h' tk U' F' B' X' T' D' N'; (try k_lift B'))))
local macro_rules | `(tactic| walk_at "call ref") => `(tactic| (k_here; k_dflt (refine' get_ct ?B ?F ?X ?T ?f ?k ?N ?ap ?off ?hz ?hz2 ?p0 ?p1 ?s0 ?le ?_; (case B => k_asm); (case F => k_asm); (case X => k_asm); (case T => k_asm); (case f => exact rfl); (case k => exact rfl); (case N => k_asm); (case ap => exact Apart.drop5 (by assumption)); (case off => repeat (first | exact OwnOff.drop3 (by assumption) | refine OwnOff.cons (by assumption) ?_)); (case hz => (rw [sizeLine_eq]; omega)); (case hz2 => omega); (case p0 => assumption); (case p1 => assumption); (case s0 => assumption); (case le => omega); k_whole; intro h' tk t tq' F' N'; (try k_sweep))))
local macro_rules | `(tactic| walk_at "call ref") => `(tactic| (k_here; k_dflt (refine' unref_ct ?B ?F ?X ?T ?XB ?TB ?D ?f ?k ?N ?ap ?off ?hz ?hz2 ?p0 ?p1 ?hF ?s1 ?gt ?_; (case B => k_asm); (case F => k_asm); (case X => k_asm); (case T => k_asm); (case XB => assumption); (case TB => assumption); (case D => assumption); (case f => exact rfl); (case k => exact rfl); (case N => k_asm); (case ap => exact Apart.drop5 (by assumption)); (case off => repeat (first | exact OwnOff.drop3 (by assumption) | refine OwnOff.cons (by assumption) ?_)); (case hz => (rw [sizeLine_eq]; omega)); (case hz2 => omega); (case p0 => assumption); (case p1 => assumption); (case hF => assumption); (case s1 => assumption); (case gt => omega); k_whole; intro h₁ h' tk U' F' B' X' T' D' N'; (try k_lift B'))))
local macro_rules | `(tactic| walk_at "call ref") => `(tactic| (k_here; k_dflt (refine' unpack_ct ?B ?F ?X ?T ?f ?k ?N ?ap ?off ?hz ?hz2 ?p0 ?p1 ?hF ?s0 ?s1 ?le ?_; (case B => k_asm); (case F => k_asm); (case X => k_asm); (case T => k_asm); (case f => exact rfl); (case k => exact rfl); (case N => k_asm); (case ap => exact Apart.drop5 (by assumption)); (case off => repeat (first | exact OwnOff.drop3 (by assumption) | refine OwnOff.cons (by assumption) ?_)); (case hz => (rw [sizeLine_eq]; omega)); (case hz2 => omega); (case p0 => assumption); (case p1 => assumption); (case hF => assumption); (case s0 => assumption); (case s1 => assumption); (case le => omega); k_whole; intro D' vs' h' tk tq' F' N' l1 i'; (try k_lt l1); (try k_sweep))))
local macro_rules | `(tactic| walk_at "call ref") => `(tactic| (k_here; k_dflt (refine' read_ct ?B ?F ?X ?T ?f ?k ?N ?L ?z ?z3 ?zb ?x ?xl ?_; (case B => k_asm); (case F => k_asm); (case X => k_asm); (case T => k_asm); (case f => exact rfl); (case k => exact rfl); (case N => k_asm); (case L => assumption); (case z => assumption); (case z3 => assumption); (case zb => assumption); (case x => assumption); (case xl => assumption); k_whole; intro D' vs' h' tk F' N' i'; (try k_sweep))))
local macro_rules | `(tactic| walk_at "compareOp Eq ref ref") => `(tactic| (k_here; k_dflt (refine' eq_tupK ?N ?a ?b ?i ?j ?u ?_; (case N => k_asm); (case a => k_mem); (case b => k_mem); (case i => assumption); (case j => assumption); (case u => ke_room))))
set_option maxRecDepth 100000 in
set_option maxHeartbeats 3000000 in
theorem deed_ct {w : World} {s : Shared} {base h₀ : Heap} {L : Addr} {mL mg mb : Str → Option Value} {envL : Env} {p : Program} {loose : List Str} {mean : ExcName → Option Value} {R : Flow → Shared → Prop}
    {m o b d y : Addr} {vs : List Value} {bs : Array UInt8} {pl drawn : Int} {tp tq td : Tok} {c1 c2 : Nat} {h1 h2 : Int} {k1 k2 : Tok} {own : List (Addr × Obj)}
    (B : Below callerA base [] h₀) (F : Fr h₀ L s.heap mL) (X₀ : (hd.heap_39 w.params).In h₀) (T : Top p loose mean mg mb h₀) (XB : (hd.heap_39 w.params).In base) (TB : Top p loose mean mg mb base) (hf : envL.frame = some L) (hke : envL.scope.kind = .function)
    (N : News h₀ L s.heap (pairLed m o b d y vs bs pl tp tq c1 c2 h1 h2 k1 k2 own)) (hoff : OwnOff own [m, o, b, d, y])
    (ap : Apart [m, o, b, d, y])
    {ns : List Int} (hi : IntsAre vs ns) (hnb : KBw.bInts bs = ns) (hnl : ns.length = bs.size) (p0 : 0 ≤ pl) (p1 : pl ≤ bs.size) (hz : bs.size ≤ 100000)
    (k : ∀ h' tk o' vs' bs' pl' tp' tq' c2', Fr h₀ L h' mL → News h₀ L h' (pairLed m o' b d y vs' bs' pl' tp' tq' c1 c2' h1 h2 k1 k2 own) → Apart [m, o', b, d, y] → OwnOff own [m, o', b, d, y] → IntsAre vs' (KBw.bInts bs') → 0 ≤ pl' → pl' ≤ bs'.size → bs'.size ≤ bs.size + 8 →
      R (.ret (.bool true)) { s with heap := h', toks := tk }) :
    codeC (model PySem.Challenge.rw_aq6016_01.row.toRowW.prog w) (callerA.deeper envL) (.call (.ref 189) ⟨[.ref m, .ref b, .int drawn td], []⟩) R s := by
  revert X₀; k_fill; intro X₀
  dsimp only [pairLed] at N
  (refine' codeC_defCS0 ?k1 ?k2 ?k3 ?k4 ?k5 ?kA ?kF ?kK ?k6 ?k7 ?k8 ?k9 ?kB ?kD ?_ ?c2 ?c3 ?c4; (case kA => exact rfl); (case kF => first | exact rfl | assumption); (case kK => first | exact rfl | assumption); (case k1 => exact B); (case k2 => k_asm); (case k3 => exact X₀); (case k4 => k_asm); (case k5 => exact T); (case k6 => k_is); (case k7 => k_is); (case k8 => k_room); (case k9 => first | exact BindsTo.of_eq rfl | exact binds_K (by k_in) rfl (by k_is) rfl rfl rfl); (case kB => exact rfl); (case kD => decide +kernel); (case c2 => exact rfl); (case c3 => exact rfl); (case c4 => exact rfl); k_whole; intro g' L' h' tk' cells' FG' F' N' Y' B' X' T' D' l1; (try k_lt l1); k_cells Y'; (try simp only [List.cons_append, List.nil_append] at N'); (try dsimp only); (try k_lift B'))
  have hO := l1.2.2.2.2.2
  refine wpC_stmt ?_
  (try k_fold); k_steps
  k_steps
  refine wpC_stmt ?_
  (try k_fold); k_steps
  refine wpC_stmt ?_
  (try k_fold); k_steps
  refine wpC_stmt ?_
  (try k_fold); k_steps
  refine wpC_stmt ?_
  (try k_fold); k_steps
  rename_i o1 d1 q1 e1 t9 sz9 fs9 kf9 zv9 zs9 zi9 hT9 hL9 hZ9 hI9 hE9 hM9 hB9 ha hb hc o2 d2 q2 e2 D2 hd2 l2 he hf9 hg q3 e3 hh tk2 t2 D3 hi3 l3 hj hk9 hl hm tk3 t13 u13 v13 a1 a2 nD a3 hkl1 hkl2 g3 hI8 hL8 V h9 tk9 F9 N9 o9
  have N8 : News g' L' h9 ((V, LCg.lst ys) :: (L' + 1 + 1, o2) :: (L' + 1, o1) :: (m, listOf #[.ref o, .int pl tp] c1) :: (o, listOf vs.toArray c2) :: (b, instObj 134 d) :: (d, dictOf [⟨h1, .str (Str.ofString "data") k1, .ref y⟩, ⟨h2, .str (Str.ofString "offset") k2, .int pl tq⟩] 2) :: (y, baObj bs) :: own) :=
    News.sub N9 (List.cons_subset_cons _ (List.subset_cons_of_subset _ (List.subset_cons_of_subset _ (List.subset_cons_of_subset _ (List.Subset.refl _)))))
  obtain ⟨u1, u2, u3, v1, v2, v3, v4, v5, v6, v7, vo⟩ := o9
  have ap8 : Apart [V, L' + 1 + 1, L' + 1, m, o, b, d, y] := by
    refine Apart.of (List.Pairwise.cons ?_ (List.Pairwise.cons ?_ (List.Pairwise.cons ?_ ap.nodup)))
    all_goals (simp only [List.mem_cons, List.not_mem_nil, or_false])
    · rintro x (rfl | rfl | rfl | rfl | rfl | rfl | rfl) <;> (apply Ne.symm; assumption)
    · rintro x (rfl | rfl | rfl | rfl | rfl | rfl) <;> omega
    · rintro x (rfl | rfl | rfl | rfl | rfl) <;> omega
  have hys : ys.length ≤ 1000 := by rw [hL8, List.length_map, rangeKs_length]; omega
  have off8 : OwnOff own [V, m, o, b, d, y] := OwnOff.consA (off1_all vo) hoff
  clear u1 u2 u3 v1 v2 v3 v4 v5 v6 v7 vo N9 nD a1 a2 a3 l2 l3 ap hoff g3 hj hk9 hl hm he hf9 hg hh hd2 hi3 ha hb hc
  refine wpC_execs_cons (wpC_If (wpC_of_any ?_))
  k_steps
  · refine wpC_stmt ?_
    k_steps
    refine wpC_execs_cons (wpC_Return (wpC_Compare1 (wpC_methodStar ?_)))
    k_steps
    refine wpC_callS ?_
    k_steps
    rename_i a9 Dw wsw cw osw ha2 tkw iw oew olw lw Do wso ho2 io lo Dt ht lt hx1 hx2 hx3 q hq lq hx4 F7 N7
    have offb : OwnOff own [b, d, y] := OwnOff.sub off8 (by simp)
    have N6 := News.cons1 (N7 (b, _) (by k_mem)) (News.cons1 (N7 (d, _) (by k_mem)) (News.cons1 (N7 (y, _) (by k_mem)) (News.cons1 (N7 (m, _) (by k_mem)) (News.cons1 (N7 (Do, _) (by k_mem)) (News.sub (l' := own) N7 (fun p hp => by repeat (first | exact hp | refine List.mem_cons_of_mem _ ?_)))))))
    refine ⟨?_, wpC_call (codeC_method (N7 _ (.head _)).1 ?_)⟩
    · obtain ⟨kk, _, Lk⟩ := keeps_M (K := hd.heap_39 w.params) (q := q) (f := 103) (self := .ref b) (by k_is) _ ⟨(N7 _ (.head _)).1, X'.keeps F7.keep⟩
      exact ⟨kk, Lk⟩
    · refine pack_ct (xs := List.map (fun k' => (drawn.fdiv 84 * (k' + 3) + k').fmod (256 ^ (zi9.getD k'.toNat 0).toNat)) (rangeKs 0 ((zi9.length : Int) - 0).toNat)) B' F7 X' T' rfl rfl N6 ap8.tail.tail.tail.tail.tail ?off hI9 (by rw [List.append_nil]; exact hI8) (fit_values _ zs9 zi9 hE9) (by omega) ?_
      case off =>
        refine OwnOff.cons ?_ (OwnOff.cons ?_ offb)
        · intro c hc; simp only [List.mem_cons, List.not_mem_nil, or_false] at hc
          rcases hc with rfl | rfl | rfl <;> k_ne
        · intro c hc; simp only [List.mem_cons, List.not_mem_nil, or_false] at hc
          rcases hc with rfl | rfl | rfl <;> (refine neN ?_; omega)
      intro h6 tk6 tq6 F6 N5
      dsimp only [retOf]
      k_steps
      rename Fr _ _ _ _ => F4
      rename News _ _ _ _ => N4
      have hw : osw = wireL (List.map (fun k' => (drawn.fdiv 84 * (k' + 3) + k').fmod (256 ^ (zi9.getD k'.toNat 0).toNat)) (rangeKs 0 ((zi9.length : Int) - 0).toNat)) zs9 := by
        rw [oew, hE9, ofNat_toNat]
      have hs9 : zi9.sum = ((zs9.sum : Nat) : Int) := by rw [hE9, sum_ofNat]
      have hwl := wire_len hI9 (fit_values (fun k' => drawn.fdiv 84 * (k' + 3) + k') zs9 zi9 hE9)
      have h89 := form_sum hI9
      show R _ _
      refine' k h6 tk6 Do wso (bs ++ byteArr osw) (pl + zi9.sum) _ tq6 _ F4 ?en0 ?ea0 ?eo0 ?ei0 ?ep0 ?eq0 ?ez0
      case en0 =>
        refine News.cons1 (N4 (m, _) (by k_mem)) (News.cons1 (N4 (Do, _) (by k_mem)) (News.cons1 (N4 (b, _) (by k_mem)) (News.cons1 ?dd (News.cons1 ?yy (News.sub (l' := own) N4 (fun p hp => by repeat (first | exact hp | refine List.mem_cons_of_mem _ ?_)))))))
        · rw [hs9]; exact N4 (d, _) (by k_mem)
        · rw [hw]; exact N4 (y, _) (by k_mem)
      case ea0 =>
        have q5 := ap8.tail.tail.tail.nodup
        have q4 := (List.pairwise_cons.mp q5).2
        refine ⟨List.pairwise_cons.mpr ⟨?_, List.pairwise_cons.mpr ⟨?_, (List.pairwise_cons.mp q4).2⟩⟩⟩
        · intro c hc; simp only [List.mem_cons, List.not_mem_nil, or_false] at hc
          rcases hc with rfl | rfl | rfl | rfl <;> first | (refine neN ?_; omega) | k_ne
        · intro c hc; simp only [List.mem_cons, List.not_mem_nil, or_false] at hc
          rcases hc with rfl | rfl | rfl <;> (refine neN ?_; omega)
      case eo0 =>
        refine OwnOff.consA (OwnOff.ne off8 (by simp)) (OwnOff.consA (allLt_ne lo.2.2.2.2.2.2.2.2.2 (Nat.le_refl _)) offb)
      case ei0 =>
        rw [KBw.ints_app hnb rfl, hw, ints_wire, ← hw]
        exact io
      case ep0 => omega
      case eq0 => rw [Array.size_append, byteArr_size, hw, hwl]; omega
      case ez0 => rw [Array.size_append, byteArr_size, hw, hwl]; omega
  · rename ((drawn.fdiv 3).fmod 7 ≠ _) => q; clear q
    refine wpC_execs_nil ?_
    dsimp only
    refine wpC_execs_cons (wpC_If (wpC_of_any ?_))
    k_steps
    · have hm5 : 0 ≤ (drawn.fdiv 84).fmod 5 := Int.fmod_nonneg_of_pos _ (by decide)
      have hm6 : (drawn.fdiv 84).fmod 5 < 5 := Int.fmod_lt_of_pos _ (by decide)
      refine wpC_stmt ?_
      k_steps
      refine wpC_stmt ?_
      k_steps
      refine wpC_execs_cons (wpC_Return (wpC_Compare1 (wpC_methodCall ?_)))
      k_steps
      refine wpC_callS ?_
      k_steps
      rename_i De he tke oe1 Do wso hw2 io lo Dt ht lt hx1 hx2 hx3 F7a N7a h7 t7 k7 F7 N7 kin ks
      clear oe1
      have offb : OwnOff own [b, d, y] := OwnOff.sub off8 (by simp)
      have N6 := News.cons1 (N7 (b, _) (by k_mem)) (News.cons1 (N7 (d, _) (by k_mem)) (News.cons1 (N7 (y, _) (by k_mem)) (News.cons1 (N7 (m, _) (by k_mem)) (News.cons1 (N7 (Do, _) (by k_mem)) (News.sub (l' := own) N7 (fun p hp => by repeat (first | exact hp | refine List.mem_cons_of_mem _ ?_)))))))
      have el : (List.map (fun k' => (drawn.fdiv 84 + 5 * k').fmod 256) (rangeKs 0 ((drawn.fdiv 84).fmod 5 - 0).toNat)).length ≤ 4 := by rw [List.length_map, rangeKs_length]; omega
      have es : (byteArr (List.map (fun k' => (drawn.fdiv 84 + 5 * k').fmod 256) (rangeKs 0 ((drawn.fdiv 84).fmod 5 - 0).toNat))).size = (List.map (fun k' => (drawn.fdiv 84 + 5 * k').fmod 256) (rangeKs 0 ((drawn.fdiv 84).fmod 5 - 0).toNat)).length := byteArr_size _
      have eb : KBw.bInts (byteArr (List.map (fun k' => (drawn.fdiv 84 + 5 * k').fmod 256) (rangeKs 0 ((drawn.fdiv 84).fmod 5 - 0).toNat))) = (List.map (fun k' => (drawn.fdiv 84 + 5 * k').fmod 256) (rangeKs 0 ((drawn.fdiv 84).fmod 5 - 0).toNat)) := ints_bytes kin
      generalize (List.map (fun k' => (drawn.fdiv 84 + 5 * k').fmod 256) (rangeKs 0 ((drawn.fdiv 84).fmod 5 - 0).toNat)) = xs1 at *
      refine ⟨?_, wpC_call ?_⟩
      · obtain ⟨kk, _, Lk⟩ := keeps_K (K := hd.heap_39 w.params) (f := .ref 110) (by k_is) _ (X'.keeps F7.keep)
        exact ⟨kk, Lk⟩
      · refine append_ct (c := byteArr xs1) B' F7 X' T' rfl rfl N6 ap8.tail.tail.tail.tail.tail ?off (by omega) (by omega) ?_
        case off =>
          refine OwnOff.cons ?_ (OwnOff.cons ?_ offb)
          · intro c hc; simp only [List.mem_cons, List.not_mem_nil, or_false] at hc
            rcases hc with rfl | rfl | rfl <;> k_ne
          · intro c hc; simp only [List.mem_cons, List.not_mem_nil, or_false] at hc
            rcases hc with rfl | rfl | rfl <;> (refine neN ?_; omega)
        intro h6 tk6 tq6 F6 N5
        dsimp only [retOf]
        k_steps
        rename Fr _ _ _ _ => F4
        rename News _ _ _ _ => N4
        show R _ _
        refine' k h6 tk6 Do wso (bs ++ byteArr xs1) (pl + (xs1.length : Nat)) _ tq6 _ F4 ?en0 ?ea0 ?eo0 ?ei0 ?ep0 ?eq0 ?ez0
        case en0 =>
          refine News.cons1 (N4 (m, _) (by k_mem)) (News.cons1 (N4 (Do, _) (by k_mem)) (News.cons1 (N4 (b, _) (by k_mem)) (News.cons1 ?dq1 (News.cons1 ?yq1 (News.sub (l' := own) N4 (fun p hp => by repeat (first | exact hp | refine List.mem_cons_of_mem _ ?_)))))))
          · rw [← es]; exact N4 (d, _) (by k_mem)
          · exact N4 (y, _) (by k_mem)
        case ea0 =>
          have q5 := ap8.tail.tail.tail.nodup
          have q4 := (List.pairwise_cons.mp q5).2
          refine ⟨List.pairwise_cons.mpr ⟨?_, List.pairwise_cons.mpr ⟨?_, (List.pairwise_cons.mp q4).2⟩⟩⟩
          · intro c hc; simp only [List.mem_cons, List.not_mem_nil, or_false] at hc
            rcases hc with rfl | rfl | rfl | rfl <;> first | (refine neN ?_; omega) | k_ne
          · intro c hc; simp only [List.mem_cons, List.not_mem_nil, or_false] at hc
            rcases hc with rfl | rfl | rfl <;> (refine neN ?_; omega)
        case eo0 =>
          refine OwnOff.consA (OwnOff.ne off8 (by simp)) (OwnOff.consA (allLt_ne lo.2.2.2.2.2.2.2.2.2 (Nat.le_refl _)) offb)
        case ei0 =>
          rw [KBw.ints_app hnb rfl, eb]
          exact io
        case ep0 => omega
        case eq0 => rw [Array.size_append, es]; omega
        case ez0 => rw [Array.size_append, es]; omega
    · rename ((drawn.fdiv 3).fmod 7 ≠ _) => q; clear q
      refine wpC_execs_nil ?_
      dsimp only
      refine wpC_execs_cons (wpC_If (wpC_of_any ?_))
      k_steps
      · have hd2 : ((ns.length : Nat) : Int) + 2 ≠ 0 := by omega
        refine wpC_stmt ?_
        k_steps
        have hp0 : 0 ≤ (drawn.fdiv 84).fmod (((ns.length : Nat) : Int) + 2) := Int.fmod_nonneg_of_pos _ (by omega)
        have hp1 : (drawn.fdiv 84).fmod (((ns.length : Nat) : Int) + 2) < ((ns.length : Nat) : Int) + 2 := Int.fmod_lt_of_pos _ (by omega)
        clear hd2
        refine wpC_stmt ?_
        k_steps
        refine wpC_execs_cons (wpC_Return (wpC_Compare1 (wpC_methodCall ?_)))
        k_steps
        refine wpC_callS ?_
        k_steps
        rename_i osw x25 tkw iw oew olw x20 x19 x18 x17 x16 x15 x14 x13 x12 x11 x10 x9 Do wso x6 io lo x3 F7 N7
        have offb : OwnOff own [b, d, y] := OwnOff.sub off8 (by simp)
        have N6 := News.cons1 (N7 (b, _) (by k_mem)) (News.cons1 (N7 (d, _) (by k_mem)) (News.cons1 (N7 (y, _) (by k_mem)) (News.cons1 (N7 (m, _) (by k_mem)) (News.cons1 (N7 (Do, _) (by k_mem)) (News.sub (l' := own) N7 (fun p hp => by repeat (first | exact hp | refine List.mem_cons_of_mem _ ?_)))))))
        have hx0 : 0 ≤ (drawn.fdiv 84).fmod 65536 := Int.fmod_nonneg_of_pos _ (by decide)
        have hx1 : (drawn.fdiv 84).fmod 65536 < 65536 := Int.fmod_lt_of_pos _ (by decide)
        have hw : osw = wireL [(drawn.fdiv 84).fmod 65536] [2] := oew
        have hwl : (wireL [(drawn.fdiv 84).fmod 65536] [2]).length = 2 := by simp [wireL, octs_length]
        have hP1 : ((drawn.fdiv 84).fmod (((ns.length : Nat) : Int) + 2)).toNat ≤ ns.length + 1 := by omega
        have hP2 : ((drawn.fdiv 84).fmod (((ns.length : Nat) : Int) + 2) + 2).toNat = ((drawn.fdiv 84).fmod (((ns.length : Nat) : Int) + 2)).toNat + 2 := by omega
        rw [cut_upto ns hp0, cut_from ns (by omega)] at io
        refine ⟨?_, wpC_call ?_⟩
        · obtain ⟨kk, _, Lk⟩ := keeps_K (K := hd.heap_39 w.params) (f := .ref 117) (by k_is) _ (X'.keeps F7.keep)
          exact ⟨kk, Lk⟩
        · refine update_ct (pt := (drawn.fdiv 84).fmod (((ns.length : Nat) : Int) + 2)) (x := (drawn.fdiv 84).fmod 65536) B' F7 X' T' rfl rfl N6 ap8.tail.tail.tail.tail.tail ?off (by omega) hx0 hx1 hp0 ?_
          case off =>
            refine OwnOff.cons ?_ (OwnOff.cons ?_ offb)
            · intro c hc; simp only [List.mem_cons, List.not_mem_nil, or_false] at hc
              rcases hc with rfl | rfl | rfl <;> k_ne
            · intro c hc; simp only [List.mem_cons, List.not_mem_nil, or_false] at hc
              rcases hc with rfl | rfl | rfl <;> (refine neN ?_; omega)
          intro h6 tk6 F6 N5
          dsimp only [retOf]
          k_steps
          rename Fr _ _ _ _ => F4
          rename News _ _ _ _ => N4
          have hb2 : KBw.bInts (bs.extract 0 ((drawn.fdiv 84).fmod (((ns.length : Nat) : Int) + 2)).toNat ++ byteArr (wireL [(drawn.fdiv 84).fmod 65536] [2]) ++ bs.extract ((drawn.fdiv 84).fmod (((ns.length : Nat) : Int) + 2) + 2).toNat bs.size) = ns.take ((drawn.fdiv 84).fmod (((ns.length : Nat) : Int) + 2)).toNat ++ osw ++ ns.drop ((drawn.fdiv 84).fmod (((ns.length : Nat) : Int) + 2) + 2).toNat := by
            rw [KBw.ints_app (KBw.ints_app rfl rfl) rfl, ints_wire, bInts_extract, bInts_extract, hnb, hw, List.drop_zero, Nat.sub_zero, List.take_of_length_le (l := ns.drop _) (by rw [List.length_drop]; omega)]
          have hb3 : (bs.extract 0 ((drawn.fdiv 84).fmod (((ns.length : Nat) : Int) + 2)).toNat ++ byteArr (wireL [(drawn.fdiv 84).fmod 65536] [2]) ++ bs.extract ((drawn.fdiv 84).fmod (((ns.length : Nat) : Int) + 2) + 2).toNat bs.size).size = (ns.take ((drawn.fdiv 84).fmod (((ns.length : Nat) : Int) + 2)).toNat ++ osw ++ ns.drop ((drawn.fdiv 84).fmod (((ns.length : Nat) : Int) + 2) + 2).toNat).length := by
            rw [← hb2, KBw.ints_length]
          have hb4 : (ns.take ((drawn.fdiv 84).fmod (((ns.length : Nat) : Int) + 2)).toNat ++ osw ++ ns.drop ((drawn.fdiv 84).fmod (((ns.length : Nat) : Int) + 2) + 2).toNat).length = min ((drawn.fdiv 84).fmod (((ns.length : Nat) : Int) + 2)).toNat ns.length + 2 + (ns.length - (((drawn.fdiv 84).fmod (((ns.length : Nat) : Int) + 2)).toNat + 2)) := by
            rw [List.length_append, List.length_append, List.length_take, List.length_drop, hw, hwl, hP2]
          show R _ _
          refine' k h6 tk6 Do wso (bs.extract 0 ((drawn.fdiv 84).fmod (((ns.length : Nat) : Int) + 2)).toNat ++ byteArr (wireL [(drawn.fdiv 84).fmod 65536] [2]) ++ bs.extract ((drawn.fdiv 84).fmod (((ns.length : Nat) : Int) + 2) + 2).toNat bs.size) pl _ _ _ F4 ?en0 ?ea0 ?eo0 ?ei0 p0 ?eq0 ?ez0
          case en0 =>
            exact News.cons1 (N4 (m, _) (by k_mem)) (News.cons1 (N4 (Do, _) (by k_mem)) (News.cons1 (N4 (b, _) (by k_mem)) (News.cons1 (N4 (d, _) (by k_mem)) (News.cons1 (N4 (y, _) (by k_mem)) (News.sub (l' := own) N4 (fun p hp => by repeat (first | exact hp | refine List.mem_cons_of_mem _ ?_)))))))
          case ea0 =>
            have q5 := ap8.tail.tail.tail.nodup
            have q4 := (List.pairwise_cons.mp q5).2
            refine ⟨List.pairwise_cons.mpr ⟨?_, List.pairwise_cons.mpr ⟨?_, (List.pairwise_cons.mp q4).2⟩⟩⟩
            · intro c hc; simp only [List.mem_cons, List.not_mem_nil, or_false] at hc
              rcases hc with rfl | rfl | rfl | rfl <;> first | (refine neN ?_; omega) | k_ne
            · intro c hc; simp only [List.mem_cons, List.not_mem_nil, or_false] at hc
              rcases hc with rfl | rfl | rfl <;> (refine neN ?_; omega)
          case eo0 =>
            exact OwnOff.consA (OwnOff.ne off8 (by simp)) (OwnOff.consA (allLt_ne lo.2.2.2.2.2.2.2.2.2.2.2.2.2.2 (Nat.le_refl _)) offb)
          case ei0 => rw [hb2]; exact io
          case eq0 => rw [hb3, hb4]; omega
          case ez0 => rw [hb3, hb4]; omega
      · rename ((drawn.fdiv 3).fmod 7 ≠ _) => q; clear q
        refine wpC_execs_nil ?_
        dsimp only
        refine wpC_execs_cons (wpC_If (wpC_of_any ?_))
        k_steps
        · have hs0 : 0 ≤ (drawn.fdiv 84).fmod 7 := Int.fmod_nonneg_of_pos _ (by decide)
          have hs1 : (drawn.fdiv 84).fmod 7 < 7 := Int.fmod_lt_of_pos _ (by decide)
          rename News _ _ _ _ => N3
          have f1 : ∀ c ∈ [b, d, y], m ≠ c := (List.pairwise_cons.mp ap8.tail.tail.tail.nodup).1 |> fun q c hc => q c (.tail _ hc)
          have f2 : ∀ c ∈ [b, d, y], o ≠ c := (List.pairwise_cons.mp ap8.tail.tail.tail.tail.nodup).1
          have f3 : ∀ c ∈ [b, d, y], V ≠ c := (List.pairwise_cons.mp ap8.nodup).1 |> fun q c hc => q c (.tail _ (.tail _ (.tail _ (.tail _ hc))))
          have f4 : ∀ c ∈ [b, d, y], L' + 1 + 1 ≠ c := (List.pairwise_cons.mp ap8.tail.nodup).1 |> fun q c hc => q c (.tail _ (.tail _ (.tail _ hc)))
          have f5 : ∀ c ∈ [b, d, y], L' + 1 ≠ c := (List.pairwise_cons.mp ap8.tail.tail.nodup).1 |> fun q c hc => q c (.tail _ (.tail _ hc))
          have N4 := News.sub (l' := own) N3 (fun p hp => by repeat (first | exact hp | refine List.mem_cons_of_mem _ ?_))
          have N4 := News.cons1 (N3 (V, _) (by k_mem)) (News.cons1 (N3 (L' + 1 + 1, _) (by k_mem)) (News.cons1 (N3 (L' + 1, _) (by k_mem)) N4))
          have N4 := News.cons1 (N3 (y, _) (by k_mem)) (News.cons1 (N3 (m, _) (by k_mem)) (News.cons1 (N3 (o, _) (by k_mem)) N4))
          have N4 := News.cons1 (N3 (b, _) (by k_mem)) (News.cons1 (N3 (d, _) (by k_mem)) N4)
          clear N3
          refine wpC_stmt ?_
          k_steps
          refine wpC_stmt ?_
          k_steps
          · rename Fr _ _ _ _ => F4
            rename News _ _ _ _ => N5
            show R _ _
            exact k _ _ o vs bs pl _ _ _ F4 (News.cons1 (N5 (m, _) (by k_mem)) (News.cons1 (N5 (o, _) (by k_mem)) (News.cons1 (N5 (b, _) (by k_mem)) (News.cons1 (N5 (d, _) (by k_mem)) (News.cons1 (N5 (y, _) (by k_mem)) (News.sub (l' := own) N5 (fun p hp => by repeat (first | exact hp | refine List.mem_cons_of_mem _ ?_)))))))) ap8.tail.tail.tail (OwnOff.sub off8 (fun _ => List.mem_cons_of_mem _)) (hnb ▸ hi) p0 p1 (Nat.le_add_right _ _)
          · dsimp only
            have hcut : ∀ n ∈ cut (some pl) (some (pl + (drawn.fdiv 84).fmod 7)) ns, 0 ≤ n ∧ n < 256 := fun n hn => by
              have h9 : n ∈ ns := List.mem_of_mem_drop (List.mem_of_mem_take hn)
              rw [← hnb] at h9
              exact bInts_in h9
            refine wpC_stmt ?_
            k_steps
            refine wpC_stmt ?_
            k_steps
            have heq : byteArr (cut (some pl) (some (pl + (drawn.fdiv 84).fmod 7)) ns) = KBy.picked bs (some pl) (some (pl + (drawn.fdiv 84).fmod 7)) := by
              rw [cut_run _ p0 hs0, ← hnb]
              exact byteArr_of (ints_run p0 hs0)
            rw [heq, beq_self_eq_true]
            rename Fr _ _ _ _ => F4
            rename News _ _ _ _ => N5
            show R _ _
            exact k _ _ o vs bs (pl + (drawn.fdiv 84).fmod 7) _ _ _ F4 (News.cons1 (N5 (m, _) (by k_mem)) (News.cons1 (N5 (o, _) (by k_mem)) (News.cons1 (N5 (b, _) (by k_mem)) (News.cons1 (N5 (d, _) (by k_mem)) (News.cons1 (N5 (y, _) (by k_mem)) (News.sub (l' := own) N5 (fun p hp => by repeat (first | exact hp | refine List.mem_cons_of_mem _ ?_)))))))) ap8.tail.tail.tail (OwnOff.sub off8 (fun _ => List.mem_cons_of_mem _)) (hnb ▸ hi) (by omega) (by omega) (Nat.le_add_right _ _)
        · rename ((drawn.fdiv 3).fmod 7 ≠ _) => q; clear q
          refine wpC_execs_nil ?_
          dsimp only
          refine wpC_execs_cons (wpC_If (wpC_of_any ?_))
          k_steps
          · have hs9 : zi9.sum = ((zs9.sum : Nat) : Int) := by rw [hE9, sum_ofNat]
            have hs8 : ((zs9.sum : Nat) : Int) ≤ 8 := by have := form_sum hI9; omega
            have hs7 : 0 ≤ ((zs9.sum : Nat) : Int) := Int.natCast_nonneg _
            rename News _ _ _ _ => N3
            have f1 : ∀ c ∈ [b, d, y], m ≠ c := (List.pairwise_cons.mp ap8.tail.tail.tail.nodup).1 |> fun q c hc => q c (.tail _ hc)
            have f2 : ∀ c ∈ [b, d, y], o ≠ c := (List.pairwise_cons.mp ap8.tail.tail.tail.tail.nodup).1
            have f3 : ∀ c ∈ [b, d, y], V ≠ c := (List.pairwise_cons.mp ap8.nodup).1 |> fun q c hc => q c (.tail _ (.tail _ (.tail _ (.tail _ hc))))
            have f4 : ∀ c ∈ [b, d, y], L' + 1 + 1 ≠ c := (List.pairwise_cons.mp ap8.tail.nodup).1 |> fun q c hc => q c (.tail _ (.tail _ (.tail _ hc)))
            have f5 : ∀ c ∈ [b, d, y], L' + 1 ≠ c := (List.pairwise_cons.mp ap8.tail.tail.nodup).1 |> fun q c hc => q c (.tail _ (.tail _ hc))
            have N4 : News g' L' h9 ((b, _) :: (d, _) :: (y, _) :: (m, _) :: (o, _) :: (V, _) :: (L' + 1 + 1, _) :: (L' + 1, _) :: own) := News.cons1 (N3 (b, _) (by k_mem)) (News.cons1 (N3 (d, _) (by k_mem)) (News.cons1 (N3 (y, _) (by k_mem)) (News.cons1 (N3 (m, _) (by k_mem)) (News.cons1 (N3 (o, _) (by k_mem)) (News.cons1 (N3 (V, _) (by k_mem)) (News.cons1 (N3 (L' + 1 + 1, _) (by k_mem)) (News.cons1 (N3 (L' + 1, _) (by k_mem)) (News.sub (l' := own) N3 (fun p hp => by repeat (first | exact hp | refine List.mem_cons_of_mem _ ?_))))))))))
            clear N3
            refine wpC_stmt ?_
            k_steps
            · rename Fr _ _ _ _ => F4
              rename News _ _ _ _ => N5
              show R _ _
              exact k _ _ o vs bs pl _ _ _ F4 (News.cons1 (N5 (m, _) (by k_mem)) (News.cons1 (N5 (o, _) (by k_mem)) (News.cons1 (N5 (b, _) (by k_mem)) (News.cons1 (N5 (d, _) (by k_mem)) (News.cons1 (N5 (y, _) (by k_mem)) (News.sub (l' := own) N5 (fun p hp => by repeat (first | exact hp | refine List.mem_cons_of_mem _ ?_)))))))) ap8.tail.tail.tail (OwnOff.sub off8 (fun _ => List.mem_cons_of_mem _)) (hnb ▸ hi) p0 p1 (Nat.le_add_right _ _)
            · dsimp only
              have hcl : (cut (some pl) none ns).length ≤ 100000 := Nat.le_trans (cut_le _ _ _) (by omega)
              refine wpC_stmt ?_
              k_steps
              refine wpC_stmt ?_
              k_steps
              have heq : readL (KBw.bInts (KBy.picked bs (some pl) (some (pl + ((zs9.sum : Nat) : Int))))) zs9 = readL (cut (some pl) none ns) (List.map Int.toNat zi9) := by
                rw [ints_run p0 hs7, Int.toNat_natCast, readL_take zs9 _ _ (Nat.le_refl _), cut_from ns p0, hE9, ofNat_toNat, hnb]
              rw [decide_eq_true heq]
              rename Fr _ _ _ _ => F4
              rename News _ _ _ _ => N5
              show R _ _
              have N6 := N5 (d, _) (by k_mem)
              rw [← hs9] at N6
              exact k _ _ o vs bs (pl + zi9.sum) _ _ _ F4 (News.cons1 (N5 (m, _) (by k_mem)) (News.cons1 (N5 (o, _) (by k_mem)) (News.cons1 (N5 (b, _) (by k_mem)) (News.cons1 N6 (News.cons1 (N5 (y, _) (by k_mem)) (News.sub (l' := own) N5 (fun p hp => by repeat (first | exact hp | refine List.mem_cons_of_mem _ ?_)))))))) ap8.tail.tail.tail (OwnOff.sub off8 (fun _ => List.mem_cons_of_mem _)) (hnb ▸ hi) (by omega) (by omega) (Nat.le_add_right _ _)
          · rename ((drawn.fdiv 3).fmod 7 ≠ _) => q; clear q
            refine wpC_execs_nil ?_
            dsimp only
            refine wpC_execs_cons (wpC_If (wpC_of_any ?_))
            k_steps
            · have hd2 : ((ns.length : Nat) : Int) + 1 ≠ 0 := by omega
              refine wpC_stmt ?_
              k_steps
              have hp0 : 0 ≤ (drawn.fdiv 84).fmod (((ns.length : Nat) : Int) + 1) := Int.fmod_nonneg_of_pos _ (by omega)
              have hp1 : (drawn.fdiv 84).fmod (((ns.length : Nat) : Int) + 1) < ((ns.length : Nat) : Int) + 1 := Int.fmod_lt_of_pos _ (by omega)
              clear hd2
              refine wpC_stmt ?_
              k_steps
              refine wpC_execs_nil ?_
              dsimp only
              refine wpC_stmt ?_
              k_steps
              rename Fr _ _ _ _ => F4
              rename News _ _ _ _ => N5
              show R _ _
              exact k _ _ o vs bs ((drawn.fdiv 84).fmod (((ns.length : Nat) : Int) + 1)) _ _ _ F4 (News.cons1 (N5 (m, _) (by k_mem)) (News.cons1 (N5 (o, _) (by k_mem)) (News.cons1 (N5 (b, _) (by k_mem)) (News.cons1 (N5 (d, _) (by k_mem)) (News.cons1 (N5 (y, _) (by k_mem)) (News.sub (l' := own) N5 (fun p hp => by repeat (first | exact hp | refine List.mem_cons_of_mem _ ?_)))))))) ap8.tail.tail.tail (OwnOff.sub off8 (fun _ => List.mem_cons_of_mem _)) (hnb ▸ hi) hp0 (by omega) (Nat.le_add_right _ _)
            · rename ((drawn.fdiv 3).fmod 7 ≠ _) => q; clear q
              refine wpC_execs_nil ?_
              dsimp only
              refine wpC_stmt ?_
              k_steps
              rename Fr _ _ _ _ => F4
              rename News _ _ _ _ => N5
              show R _ _
              exact k _ _ o vs bs pl _ _ _ F4 (News.cons1 (N5 (m, _) (by k_mem)) (News.cons1 (N5 (o, _) (by k_mem)) (News.cons1 (N5 (b, _) (by k_mem)) (News.cons1 (N5 (d, _) (by k_mem)) (News.cons1 (N5 (y, _) (by k_mem)) (News.sub (l' := own) N5 (fun p hp => by repeat (first | exact hp | refine List.mem_cons_of_mem _ ?_)))))))) ap8.tail.tail.tail (OwnOff.sub off8 (fun _ => List.mem_cons_of_mem _)) (hnb ▸ hi) p0 p1 (Nat.le_add_right _ _)
end Aq
-- part AqNum
open PySem PySem.W PyProof.Rows
set_option Elab.async false
namespace Aq
open PySem PySem.W PySem.Calls PyProof.Rows PySem.Spec
def num (ns : List Int) (p : Int) : Int := (if ns = [] then 0 else ns.getD (p.fmod (ns.length : Int)).toNat 0) + 7 * p
theorem num_pos {ns : List Int} {p : Int} (h : 0 < ns.length) : num ns p = ns.getD (p.fmod (ns.length : Int)).toNat 0 + 7 * p := by
  unfold num; rw [if_neg (by intro e; rw [e] at h; exact absurd h (by decide))]
theorem num_nil {ns : List Int} {p : Int} (h : ¬ 0 < ns.length) : num ns p = 0 + 7 * p := by
  unfold num; rw [if_pos (List.length_eq_zero_iff.mp (by omega))]
section
local macro_rules | `(tactic| k_all) => `(tactic| first | exact allLt_ne (by assumption) (by (try dsimp only); omega) | exact OwnOff.ne (by assumption) (by simp only [List.mem_cons, true_or, or_true]))
set_option maxRecDepth 100000 in
set_option maxHeartbeats 2000000 in
theorem num_ct {w : World} {s : Shared} {A₀ A : Around} {base h₀ : Heap} {L : Addr} {mL mg mb : Str → Option Value} {env : Env} {outer : List Env} {p : Program} {loose : List Str} {mean : ExcName → Option Value} {Q : Value → Shared → Prop}
    {sc : Addr} {ys : List Value} {ns : List Int} {pl : Int} {tp : Tok} {own : List (Addr × Obj)}
    (B : Below A₀ base outer h₀) (F : Fr h₀ L s.heap mL) (X₀ : (hd.heap_39 w.params).In h₀) (T : Top p loose mean mg mb h₀) (hA : A.frames = some (env :: outer)) (hf : env.frame = some L) (hke : env.scope.kind = .function) (hroom : A.depth < recursionLimit)
    (N : News h₀ L s.heap own) (hL : h₀.IsList sc (List.toArray ys)) (hi : IntsAre ys ns) (hlen : ns.length < 2 ^ 60)
    (k : ∀ h' tk t, Fr h₀ L h' mL → News h₀ L h' own → Q (.int (num ns pl) t) { s with heap := h', toks := tk }) :
    wpAny (model PySem.Challenge.rw_aq6016_01.row.toRowW.prog w) A (call (.ref 158) [.ref sc, .int pl tp] []) Q noE s := by
  revert X₀; k_fill; intro X₀
  refine wpAny_call ?_
  (refine' code_def ?k1 ?k2 ?k3 ?k4 ?k5 ?kA ?kF ?kK ?k6 ?k7 ?k8 ?k9 ?kB ?_ ?c2 ?c3 ?c4 ?c5; (case kA => assumption); (case kF => first | exact rfl | assumption); (case kK => first | exact rfl | assumption); (case k1 => k_asm); (case k2 => k_asm); (case k3 => k_asm); (case k4 => k_asm); (case k5 => k_asm); (case k6 => k_is); (case k7 => k_is); (case k8 => assumption); (case k9 => first | exact BindsTo.of_eq rfl | exact binds_K (by k_in) rfl (by k_is) rfl rfl rfl | fail "k_enter: no rule for these arguments"); (case c5 => decide); (case kB => exact locs rfl); (case c2 => exact rfl); (case c3 => exact rfl); (case c4 => exact rfl); k_whole; intro g' L' h' FG' F' N' B' X' T'; (try dsimp only); (try k_lift B'); (try k_fold))
  have hL' := Fr.lst FG' hL
  (try k_fold); k_steps
  · rename Fr _ _ _ _ => F9
    rename News _ _ _ _ => N9
    rw [← num_pos (by assumption)]
    exact k _ _ _ F9 N9
  · rename Fr _ _ _ _ => F9
    rename News _ _ _ _ => N9
    rw [← num_nil (by assumption)]
    exact k _ _ _ F9 N9
theorem num_ctE {w : World} {s : Shared} {A₀ A : Around} {base h₀ : Heap} {L : Addr} {mL mg mb : Str → Option Value} {env : Env} {outer : List Env} {p : Program} {loose : List Str} {mean : ExcName → Option Value} {Q : Value → Shared → Prop} {E : Value → Shared → Prop}
    {sc : Addr} {ys : List Value} {ns : List Int} {pl : Int} {tp : Tok} {own : List (Addr × Obj)}
    (B : Below A₀ base outer h₀) (F : Fr h₀ L s.heap mL) (X₀ : (hd.heap_39 w.params).In h₀) (T : Top p loose mean mg mb h₀) (hA : A.frames = some (env :: outer)) (hf : env.frame = some L) (hke : env.scope.kind = .function) (hroom : A.depth < recursionLimit)
    (N : News h₀ L s.heap own) (hL : h₀.IsList sc (List.toArray ys)) (hi : IntsAre ys ns) (hlen : ns.length < 2 ^ 60)
    (k : ∀ h' tk t, Fr h₀ L h' mL → News h₀ L h' own → Q (.int (num ns pl) t) { s with heap := h', toks := tk }) :
    wpAny (model PySem.Challenge.rw_aq6016_01.row.toRowW.prog w) A (call (.ref 158) [.ref sc, .int pl tp] []) Q E s :=
  wpAny_mono (num_ct B F X₀ T hA hf hke hroom N hL hi hlen k) (fun _ _ h => h) fun _ _ h => h.elim
end
end Aq
-- part AqP
open PySem PySem.W PyProof.Rows
set_option Elab.async false
set_option maxRecDepth 100000
namespace Aq
open PySem PySem.W PySem.Calls PyProof.Rows PySem.Spec

theorem good_of_ghost {s' s₁ : Shared} {cw : ClaimW} {cl : Str → Option Addr} {mean : ExcName → Option Value} {args : List WData} {tabs : List (Addr × Addr)} {v : Value} (prog : Program) (w : World) (hT : TabsAt tabs s₁.heap) (hr : ∀ a x, cw.raises a x = false)
    (h : GoodW cw cl mean args { s₁ with heap := ghostOf s₁.heap tabs } (.ok (.ret v)) s' ∧ GrownAll tabs s'.heap) : GoodWG cw cl mean args s₁ (.ok (.ret v)) s' := by
  let M : Model := { model prog w with den := fun _ => pure (.done (.ret v)) }
  have h1 : codeAny M callerA (.block [] default) (GoodWG cw cl mean args s₁) s' :=
    kn_post hT hr (codeAny_of_tree (wpAny_pure h))
  have hΓ : (⟨.block [] default, none, none, [], none⟩ : PySem.Ctx).Below callerA := ⟨rfl, Nat.zero_le _, fun l hl => by cases hl; rfl, fun g hg => by cases hg; rfl, Nat.zero_le _⟩
  exact (wpCode_iff_wp M _ _ _ _).mp (h1 ⟨.block [] default, none, none, [], none⟩ default rfl hΓ)

theorem codeC_post {prog : Program} {w : World} {A : Around} {cd : Code} {s s₁ : Shared} {cw : ClaimW} {cl : Str → Option Addr} {mean : ExcName → Option Value} {args : List WData} {tabs : List (Addr × Addr)} (hT : TabsAt tabs s₁.heap) (hr : ∀ a x, cw.raises a x = false)
    (h : codeC (model prog w) A cd (retOf fun v s' => GoodW cw cl mean args { s₁ with heap := ghostOf s₁.heap tabs } (.ok (.ret v)) s' ∧ GrownAll tabs s'.heap) s) :
    codeC (model prog w) A cd (retOf fun v s' => GoodWG cw cl mean args s₁ (.ok (.ret v)) s') s :=
  codeC_mono h fun f s' hf => by
    cases f with
    | ret v => exact good_of_ghost prog w hT hr hf
    | _ => exact hf
end Aq
-- part AqMk
open PySem PySem.W PyProof.Rows
set_option Elab.async false
set_option maxRecDepth 100000
set_option maxHeartbeats 4000000
namespace Aq
open PySem PySem.W PySem.Calls PyProof.Rows PySem.Spec
section
variable {prog : Program} {w : World} {A : Around} {K : Frag} {C : Addr} {R : Flow → Shared → Prop} {s : Shared}

theorem dec_tc (a : Args) : isDec (.builtin "type.__call__" a) = false := show PySem.Builtin.Bytes.decodersThatHold.contains "type.__call__" = false by decide +kernel

def InitBackC (x : Addr) (R : Flow → Shared → Prop) (f : Flow) (s' : Shared) : Prop := match f with
  | .ret v => v = .none ∧ R (.ret (.ref x)) s'
  | _ => False

theorem callSpecialC {M : Model} {self : Value} {name : Str} {args : List Value} {kw : List (Str × Value)} {fv : Value} {Q : Option Value → Shared → Prop} (hl : Looks M s.heap (specialOf self name) (some fv)) (hb : Looks M s.heap (bindSpecial fv self) (fv, [self]))
    (hc : wpC M A (call fv (self :: args) kw) (fun v => Q (some v)) s) : wpC M A (callSpecial? self name args kw) Q s := by
  simp only [callSpecial?]
  refine wpC_bind_any (hl.here ?_)
  dsimp only
  refine wpC_holding (wpC_bind_any (hb.here ?_))
  exact wpC_bind (wpC_mono hc fun v s' h' => wpC_pure h')

theorem make_coreC {rest : List Value} {kw : List (Str × Value)} {fI : Addr} (Y : Makes (model prog w) s.heap C) (hi : Looks (model prog w) s.heap (typeLookup (.ref C) "__init__") (some (.ref fI)))
    (hb : ∀ self, Looks (model prog w) s.heap (bindSpecial (.ref fI) self) (.ref fI, [self]))
    (hq : codeC (model prog w) (A.under (.builtin "type.__call__" ⟨.ref C :: rest, kw⟩)) (.call (.ref fI) ⟨.ref (s.heap.objs.size + 1) :: rest, kw⟩) (InitBackC (s.heap.objs.size + 1) R) { s with heap := (s.heap.push emptyDict).push (instObj C s.heap.objs.size) }) :
    codeC (model prog w) A (.call (.ref C) ⟨rest, kw⟩) R s := by
  obtain ⟨h, g, d, t, os⟩ := s
  dsimp only at Y hi hb hq
  have Y' := Y
  obtain ⟨⟨oc, od, cd, sl, hC, e1, e2, e4⟩, made, base, self, top, call, typ⟩ := Y
  refine codeC_of_tree rfl (wpC_of_any ?_)
  show wpAny _ _ (callAny (.ref C) _) _ _ _
  refine nd_load hC ?_
  show wpAny _ _ (callAny.viaDunder (.ref C) _) _ _ _
  unfold callAny.viaDunder
  refine wpAny_bind (call.at ?_)
  dsimp only
  rw [tc_bind]
  refine wpAny_bind (wpAny_pure (wpAny_bind (wpAny_pure ?_)))
  refine wpAny_pure (a := Fin.again (.call (.builtin "type.__call__") ⟨.ref C :: rest, kw⟩)) (And.intro rfl ?_)
  refine codeC_of_tree rfl ?_
  show wpC _ A.in1 (do checkBuiltinCall "type.__call__" ⟨.ref C :: rest, kw⟩; again (.builtin "type.__call__" ⟨.ref C :: rest, kw⟩)) _ _
  refine wpC_bind_any (check_slot tc_kind tc_split typ (tc_args _ _ _) (wpC_pure (And.intro (Code.quiet_builtin _ (by decide +kernel)) (codeC_builtin (dec_tc _) entry_typeCall ?_))))
  unfold Builtin.«type.__call__»
  have hm : Looks (model prog w) h (mroOf (.ref C)) cd.mro := ((Looks.ld (part := none) hC).andThen .now).andThen .now
  dsimp only
  refine wpC_neg (by simp) ?_
  refine wpC_bind_any (hm.at ?_)
  refine wpC_neg (by rw [e4]; exact Bool.false_ne_true) ?_
  refine wpC_bind_any (made.at ?_)
  dsimp only
  refine wpC_bind (wpC_pure ?_)
  refine wpC_bind_any (wpAny_holding (wpAny_call (new_K Y' hi (.inl rfl) ?_)))
  have k : ∀ b o, h.get? b = some o → ((h.push emptyDict).push (instObj C h.objs.size)).get? b = some o := fun b o e => Heap.get?_push_of_some _ (Heap.get?_push_of_some _ e)
  have hx : ((h.push emptyDict).push (instObj C h.objs.size)).get? (h.objs.size + 1) = some (instObj C h.objs.size) := by heap_get
  have t1 : Looks (model prog w) ((h.push emptyDict).push (instObj C h.objs.size)) (typeOf (.ref (h.objs.size + 1))) (.ref C) := (Looks.ld hx).andThen .now
  have s1 := self.keeps k
  have i1 := hi.keeps k
  have b1 := (hb (.ref (h.objs.size + 1))).keeps k
  dsimp only
  have ii : Looks (model prog w) ((h.push emptyDict).push (instObj C h.objs.size)) (isInstance (.ref (h.objs.size + 1)) (.ref C)) true := t1.andThen s1
  have si : Looks (model prog w) ((h.push emptyDict).push (instObj C h.objs.size)) (specialOf (.ref (h.objs.size + 1)) "__init__") (some (.ref fI)) := t1.andThen i1
  refine wpC_bind_any (ii.at ?_)
  refine wpC_neg (by simp) ?_
  refine wpC_bind (wpC_holding (callSpecialC (fv := .ref fI) si b1 (wpC_call (codeC_mono hq fun f s' z => ?_))))
  cases f with
  | ret v =>
    obtain ⟨rfl, z⟩ := z
    dsimp only [retOf]
    refine wpC_neg (by simp) ?_
    exact wpC_pure z
  | _ => exact z.elim
end
section
variable {prog : Program} {w : World} {A : Around} {K : Frag} {C x : Addr} {s : Shared} {h₀ : Heap} {L : Addr} {m : Str → Option Value} {news : List (Addr × Obj)} {R : Flow → Shared → Prop}
theorem make_KC {rest : List Value} {kw : List (Str × Value)} {fI : Addr} (F : Fr h₀ L s.heap m) (N : News h₀ L s.heap news) (X : K.In s.heap) (hm : makesIn K C = true)
    (hi : findIn K (.ref C) "__init__" = some (some (.ref fI))) (hf : typeIn K (.ref fI) = some (.type "function"))
    (h : ∀ x dx h', Fr h₀ L h' m → News h₀ L h' ((x, instObj C dx) :: (dx, dictOf [] 0) :: news) → (∀ p ∈ news, p.1 < dx) → dx < x →
      codeC (model prog w) (A.under (.builtin "type.__call__" ⟨.ref C :: rest, kw⟩)) (.call (.ref fI) ⟨.ref x :: rest, kw⟩) (InitBackC x R) { s with heap := h' }) :
    codeC (model prog w) A (.call (.ref C) ⟨rest, kw⟩) R s := by
  refine make_coreC (makes_of X hm) (looks_findIn X hi) (fun self => bind_fn X self hf) (h _ s.heap.objs.size _ ((F.push _).push _) ?_ (fun p hp => Heap.lt_size (N p hp).1) (Nat.lt_succ_self _))
  have := (N.push F emptyDict).push (F.push _) (instObj C s.heap.objs.size)
  rwa [Heap.size_push] at this
end
end Aq
-- part AqBc
open PySem PySem.W PyProof.Rows
set_option Elab.async false
namespace Aq
open PySem PySem.W PySem.Calls PyProof.Rows PySem.Spec
theorem boot_bytearray : bootBuiltins "bytearray" = some (.type "bytearray") := by decide +kernel
section
local macro_rules | `(tactic| k_all) => `(tactic| first | exact allLt_ne (by assumption) (by (try dsimp only); omega))
local macro_rules | `(tactic| boot_fact) => `(tactic| with_reducible exact boot_bytearray)
set_option maxRecDepth 100000 in
set_option maxHeartbeats 4000000 in
theorem buf_ct {w : World} {s : Shared} {base h₀ : Heap} {L : Addr} {mL mg mb : Str → Option Value} {envL : Env} {p : Program} {loose : List Str} {mean : ExcName → Option Value} {R : Flow → Shared → Prop}
    {H : Addr} {b : Array UInt8} {news : List (Addr × Obj)}
    (B : Below callerA base [] h₀) (F : Fr h₀ L s.heap mL) (X₀ : (hd.heap_39 w.params).In h₀) (T : Top p loose mean mg mb h₀) (hf : envL.frame = some L) (hke : envL.scope.kind = .function)
    (N : News h₀ L s.heap news) (hH : (H, baObj b) ∈ news) (hz : b.size ≤ 100)
    (k : ∀ h' tk x dx y h1 h2 k1 k2 tq, Fr h₀ L h' mL → News h₀ L h' ((x, instObj 134 dx) :: (dx, dictOf [⟨h1, .str (Str.ofString "data") k1, .ref y⟩, ⟨h2, .str (Str.ofString "offset") k2, .int 0 tq⟩] 2) :: (y, baObj b) :: news) → (∀ p ∈ news, p.1 < dx) → dx < x → x < y →
      R (.ret (.ref x)) { s with heap := h', toks := tk }) :
    codeC (model PySem.Challenge.rw_aq6016_01.row.toRowW.prog w) (callerA.deeper envL) (.call (.ref 134) ⟨[.ref H], []⟩) R s := by
  revert X₀; k_fill; intro X₀
  refine' make_KC ?k1 ?k2 ?k3 ?k4 ?k5 ?k6 ?_
  case k1 => exact F
  case k2 => exact N
  case k3 => exact X₀.keeps F.keep
  case k4 => k_is
  case k5 => k_is
  case k6 => k_is
  intro x dx h₁ F₁ N₁ l1 l2
  have l1' := l1
  have l2' := l2
  (try k_lt l1); (try k_lt2 l2)
  (refine' codeC_def ?k1 ?k2 ?k3 ?k4 ?k5 ?kA ?kF ?kK ?k6 ?k7 ?k8 ?k9 ?kB ?_ ?c2 ?c3 ?c4 ?c5; (case kA => exact rfl); (case kF => assumption); (case kK => assumption); (case k1 => k_asm); (case k2 => k_asm); (case k3 => k_asm); (case k4 => k_asm); (case k5 => k_asm); (case k6 => k_is); (case k7 => k_is); (case k8 => k_room); (case k9 => first | exact BindsTo.of_eq rfl | exact binds_K (by k_in) rfl (by k_is) rfl rfl rfl); (case c5 => decide); (case kB => exact locs rfl); (case c2 => exact rfl); (case c3 => exact rfl); (case c4 => exact rfl); k_whole; intro g' L' h' FG' F' N' B' X' T'; (try dsimp only); (try k_lift B'); (try k_fold))
  refine wpC_execs_cons (wpC_Assign_Attribute (wpC_Call ?_))
  k_steps
  refine wpC_callS ?_
  k_steps
  rename Fr _ _ _ _ => F9
  rename News _ _ _ _ => N9
  have l3 : ∀ p ∈ (x, instObj 134 dx) :: (dx, dictOf [] 0) :: news, p.1 < h'.objs.size := fun p hp => Heap.lt_size (N9 p hp).1
  refine ⟨⟨_, Looks.of_pure rfl⟩, call_bytearray_buf rfl (.inl ⟨H, rfl, (N9 _ (.tail _ (.tail _ hH))).1⟩) (by rw [sizeLine_eq]; omega) fun h8 e8 k8 => ?_⟩
  obtain ⟨F8, N8⟩ := grow1 (x := h'.objs.size) F9 N9 k8 e8 (fresh_none _)
  generalize h'.objs.size = y at *
  have l4 : x < y := l3 _ (.head _)
  k_lt l3
  k_steps
  refine wpC_stmt ?_
  k_steps
  refine wpC_execs_nil ?_
  k_steps
  rename Fr _ _ _ _ => F7
  rename News _ _ _ _ => N7
  refine ⟨rfl, ?_⟩
  exact k _ _ x dx y _ _ _ _ _ F7 (News.cons1 (N7 (x, _) (.tail _ (.head _))) (News.cons1 (N7 (dx, _) (.tail _ (.tail _ (.head _)))) (News.cons1 (N7 (y, _) (.head _)) (News.sub (l' := news) N7 fun p hp => .tail _ (.tail _ (.tail _ hp)))))) l1' l2' l4
set_option maxRecDepth 100000 in
set_option maxHeartbeats 4000000 in
theorem buf_ct0 {w : World} {s : Shared} {base h₀ : Heap} {L : Addr} {mL mg mb : Str → Option Value} {envL : Env} {p : Program} {loose : List Str} {mean : ExcName → Option Value} {R : Flow → Shared → Prop}
    {news : List (Addr × Obj)}
    (B : Below callerA base [] h₀) (F : Fr h₀ L s.heap mL) (X₀ : (hd.heap_39 w.params).In h₀) (T : Top p loose mean mg mb h₀) (hf : envL.frame = some L) (hke : envL.scope.kind = .function)
    (N : News h₀ L s.heap news)
    (k : ∀ h' tk x dx y h1 h2 k1 k2 tq, Fr h₀ L h' mL → News h₀ L h' ((x, instObj 134 dx) :: (dx, dictOf [⟨h1, .str (Str.ofString "data") k1, .ref y⟩, ⟨h2, .str (Str.ofString "offset") k2, .int 0 tq⟩] 2) :: (y, baObj #[]) :: news) → (∀ p ∈ news, p.1 < dx) → dx < x → x < y →
      R (.ret (.ref x)) { s with heap := h', toks := tk }) :
    codeC (model PySem.Challenge.rw_aq6016_01.row.toRowW.prog w) (callerA.deeper envL) (.call (.ref 134) ⟨[], []⟩) R s := by
  revert X₀; k_fill; intro X₀
  refine' make_KC ?k1 ?k2 ?k3 ?k4 ?k5 ?k6 ?_
  case k1 => exact F
  case k2 => exact N
  case k3 => exact X₀.keeps F.keep
  case k4 => k_is
  case k5 => k_is
  case k6 => k_is
  intro x dx h₁ F₁ N₁ l1 l2
  have l1' := l1
  have l2' := l2
  (try k_lt l1); (try k_lt2 l2)
  (refine' codeC_def ?k1 ?k2 ?k3 ?k4 ?k5 ?kA ?kF ?kK ?k6 ?k7 ?k8 ?k9 ?kB ?_ ?c2 ?c3 ?c4 ?c5; (case kA => exact rfl); (case kF => assumption); (case kK => assumption); (case k1 => k_asm); (case k2 => k_asm); (case k3 => k_asm); (case k4 => k_asm); (case k5 => k_asm); (case k6 => k_is); (case k7 => k_is); (case k8 => k_room); (case k9 => first | exact BindsTo.of_eq rfl | exact binds_K (by k_in) rfl (by k_is) rfl rfl rfl); (case c5 => decide); (case kB => exact locs rfl); (case c2 => exact rfl); (case c3 => exact rfl); (case c4 => exact rfl); k_whole; intro g' L' h' FG' F' N' B' X' T'; (try dsimp only); (try k_lift B'); (try k_fold))
  refine wpC_execs_cons (wpC_Assign_Attribute (wpC_Call ?_))
  k_steps
  refine wpC_callS ?_
  k_steps
  rename Fr _ _ _ _ => F9
  rename News _ _ _ _ => N9
  have l3 : ∀ p ∈ (x, instObj 134 dx) :: (dx, dictOf [] 0) :: news, p.1 < h'.objs.size := fun p hp => Heap.lt_size (N9 p hp).1
  refine ⟨⟨_, Looks.of_pure rfl⟩, call_bytearray_buf rfl (.inr ⟨_, rfl⟩) (by decide) fun h8 e8 k8 => ?_⟩
  obtain ⟨F8, N8⟩ := grow1 (x := h'.objs.size) F9 N9 k8 e8 (fresh_none _)
  generalize h'.objs.size = y at *
  have l4 : x < y := l3 _ (.head _)
  k_lt l3
  k_steps
  refine wpC_stmt ?_
  k_steps
  refine wpC_execs_nil ?_
  k_steps
  rename Fr _ _ _ _ => F7
  rename News _ _ _ _ => N7
  refine ⟨rfl, ?_⟩
  exact k _ _ x dx y _ _ _ _ _ F7 (News.cons1 (N7 (x, _) (.tail _ (.head _))) (News.cons1 (N7 (dx, _) (.tail _ (.tail _ (.head _)))) (News.cons1 (N7 (y, _) (.head _)) (News.sub (l' := news) N7 fun p hp => .tail _ (.tail _ (.tail _ hp)))))) l1' l2' l4
end
end Aq
-- part AqHx
open PySem PySem.W PyProof.Rows
set_option Elab.async false
set_option maxRecDepth 100000
namespace Aq
open PySem PySem.W PySem.Calls PyProof.Rows PySem.Spec
open PySem.Builtin PySem.Builtin.Str

abbrev hexP : Percent := { ljust := false, sign := false, blank := false, alt := false, zero := true, width := some 2, prec := none, type := 120 }
def hexText (n : Int) : List Nat := percentInt hexP (decide (n < 0)) ((Nat.toDigits 16 n.natAbs).map Char.toNat)
def hexField (n : Int) : List Nat := (percentField hexP true (hexText n)).getD (hexText n)
def hex2 (n : Int) : PySem.Str := ⟨(hexField n).toArray⟩
theorem hexField_len : ∀ k : Fin 256, (hexField (k.val : Int)).length = 2 := by decide +kernel
theorem hex2_len {n : Int} (h0 : 0 ≤ n) (h1 : n < 256) : (hex2 n).length = 2 := by
  obtain ⟨k, rfl⟩ := Int.eq_ofNat_of_zero_le h0
  exact hexField_len ⟨k, by omega⟩

theorem hex_meets {n : Int} {t u : Tok} (h0 : 0 ≤ n) (h1 : n < 256) : Meets («str.__mod__» ⟨[.str ⟨#[37, 48, 50, 120]⟩ t, .int n u], []⟩) (fun _ R s => ∀ t' k, R (.ok (.ret (.str (hex2 n) t'))) { s with toks := k }) := by
  have hl := hex2_len h0 h1
  apply KPc.meets_of
  intro _ _ _ _ _ _ hQ
  rw [KPc.entry_is]
  unfold PySem.Builtin.Str.percentFormat
  refine wpAny_bind (wpAny_isInstance (typeIs_int _ _ _) F.sub_int_tuple ?_)
  refine wpAny_bind (wpAny_of_eq (a := none) rfl ?_)
  refine wpAny_bind (wpAny_of_eq (KPc.fills _ _) ?_)
  kpc_if
  refine wpAny_bind (wpAny_pure ?_)
  refine wpAny_bind ?_
  rw [KPc.range_list]
  refine KPc.start ?_
  intro w9 g9
  refine KPc.turn ?_
  kpc_check
  (repeat kpc_if)
  refine wpAny_bind ?_
  refine wpAny_holding ?_
  (repeat kpc_if)
  refine wpAny_bind (wpAny_of_eq (a := n) rfl ?_)
  (repeat kpc_if)
  refine wpAny_bind (wpAny_pure ?_)
  refine wpAny_pure ?_
  dsimp only
  split
  · rename_i heq
    have e : percentField hexP true (hexText n) = none := heq
    have e2 : hex2 n = ⟨(hexText n).toArray⟩ := by unfold hex2 hexField; rw [e]; rfl
    refine wpAny_pure ?_
    refine KPc.after_add0 g9 (y := hex2 n) e2.symm (by kpc_obj) ?_
    intro w8 g8
    rw [hl] at g8
    refine KPc.turn ?_
    kpc_check
    (repeat kpc_if)
    refine wpAny_pure ?_
    kpc_if
    refine KPc.finish_ok g8 (by decide) rfl hQ
  · rename_i laid heq
    have e : percentField hexP true (hexText n) = some laid := heq
    have e2 : hex2 n = ⟨laid.toArray⟩ := by unfold hex2 hexField; rw [e]; rfl
    refine wpAny_pure ?_
    refine KPc.after_add0 g9 (y := hex2 n) e2.symm (by kpc_obj) ?_
    intro w8 g8
    rw [hl] at g8
    refine KPc.turn ?_
    kpc_check
    (repeat kpc_if)
    refine wpAny_pure ?_
    kpc_if
    refine KPc.finish_ok g8 (by decide) rfl hQ
section
variable {prog : Program} {w : World} {A : Around} {E : Value → Shared → Prop} {s : Shared} {n : Int} {t u : Tok} {Q : Value → Shared → Prop}
theorem hex_mod (h0 : 0 ≤ n) (h1 : n < 256) (h : ∀ t' k, Q (.str (hex2 n) t') { s with toks := k }) : wpAny (model prog w) A (binaryOp .Mod (.str (Str.ofString "%02x") t) (.int n u)) Q E s :=
  KPc.mod_lit (by decide +kernel) (shown (N := 2 ^ 1920) (by omega) (by omega) (Int.le_refl _)) (fun _ _ => hex_meets h0 h1) h
end
end Aq
-- part AqEn
open PySem PySem.W PyProof.Rows
set_option Elab.async false
set_option maxRecDepth 100000
namespace Aq
open PySem PySem.W PySem.Calls PyProof.Rows PySem.Spec
open PySem.Builtin PySem.Builtin._codecs
def enc (x : PySem.Str) : Array UInt8 := x.cps.foldl (fun acc y => acc ++ (Str.utf8Of y).toArray) #[]
theorem utf8Of_le (c : Nat) : (Str.utf8Of c).length ≤ 4 := by
  unfold Str.utf8Of
  split
  · simp
  · split
    · simp
    · split <;> simp
theorem enc_fold_le (l : List Nat) : ∀ a : Array UInt8, (l.foldl (fun acc y => acc ++ (Str.utf8Of y).toArray) a).size ≤ a.size + 4 * l.length := by
  induction l with
  | nil => intro a; simp
  | cons c r ih =>
    intro a
    rw [List.foldl_cons, List.length_cons]
    refine Nat.le_trans (ih _) ?_
    simp only [Array.size_append, List.size_toArray]
    have := utf8Of_le c
    omega
theorem enc_le (x : PySem.Str) : (enc x).size ≤ 4 * x.length := by
  unfold enc
  rw [← Array.foldl_toList]
  have := enc_fold_le x.cps.toList #[]
  simpa [PySem.Str.length] using this
section
variable {M : Model} {A : Around} {E : Value → Shared → Prop} {s : Shared}
theorem narrow {id : String} {self : Value} {x : PySem.Str} {Q : Array UInt8 → Shared → Prop} (hx : ∀ c ∈ x.cps, Str.isSurrogate c = false) (hl : x.length ≤ 1000000) (h : Q (enc x) s) :
    wpAny M A (encodeNarrow id utf8Codec none self x) Q E s := by
  have e1 : x.cps.extract 0 x.cps.size = x.cps := Array.extract_size
  have e2 : x.cps.findIdx? utf8Codec.bad = none := by
    rw [Array.findIdx?_eq_none_iff]
    exact fun c hc => hx c hc
  unfold encodeNarrow
  dsimp only
  rw [KPc.range_list]
  refine wpAny_bind ?_
  have e3 : x.length = x.cps.size := rfl
  cases hn : x.length with
  | zero =>
    show wpAny M A (forIn [] _ _) _ _ _
    rw [List.forIn_nil]
    refine wpAny_pure (wpAny_pure ?_)
    have : x.cps = #[] := Array.eq_empty_of_size_eq_zero (by omega)
    have e4 : enc x = #[] := by unfold enc; rw [this]; rfl
    rw [e4] at h
    exact h
  | succ n =>
    have hp : 0 < x.cps.size := by omega
    show wpAny M A (forIn (0 :: List.range' 1 n 1) _ _) _ _ _
    refine KPc.turn ?_
    refine wpAny_ite ?_
    rw [if_neg (by simp)]
    have e5 : x.cps[0]? = some x.cps[0] := Array.getElem?_eq_getElem hp
    rw [e5]
    dsimp only
    refine wpAny_ite ?_
    rw [if_pos (by simp only [Bool.not_eq_true']; exact hx _ (Array.getElem_mem hp))]
    refine wpAny_pure ?_
    dsimp only
    rw [e1, e2]
    simp only [Option.getD_none]
    rw [e1]
    rw [show Array.foldl (fun acc y => acc ++ (utf8Codec.bytesOf y).toArray) #[] x.cps = enc x from rfl]
    have hb : ¬ (enc x).size > sizeLine := by
      have := enc_le x
      rw [sizeLine_eq]; omega
    cases n with
    | zero =>
      show wpAny M A (forIn [] _ _) _ _ _
      rw [List.forIn_nil]
      exact wpAny_pure (wpAny_pure h)
    | succ k =>
      show wpAny M A (forIn (1 :: List.range' 2 k 1) _ _) _ _ _
      refine KPc.turn ?_
      dsimp only
      refine wpAny_ite ?_
      rw [if_neg hb]
      have e7 : x.cps[0 + x.cps.size]? = none := by simp
      rw [e7]
      dsimp only
      exact wpAny_pure (wpAny_pure h)
end
section
variable {prog : Program} {w : World} {A : Around} {E : Value → Shared → Prop} {s : Shared} {t : Tok} {Q : Value → Shared → Prop}
theorem encode_plain {x : PySem.Str} (hx : ∀ c ∈ x.cps, Str.isSurrogate c = false) (hl : x.length ≤ 1000000) (h : ∀ t' k, Q (.bytes (enc x) t') { s with toks := k }) :
    wpAny (model prog w) A (call (.builtin "str.encode") [.str x t]) Q E s := by
  refine wpAny_call (codeAny_call_builtin F.slot_str_encode.plain F.entry_str_encode (F.slot_str_encode.check _ _ _ _ _ _ _ _ (typeIs_str s x t) (F.args_str_encode_1 _) ?_))
  rw [encode_tree, encodeRoad_utf8]
  refine wpAny_bind (wpAny_bind (narrow hx hl ?_))
  refine wpAny_mkBytes ?_ (by have := enc_le x; rw [sizeLine_eq]; omega)
  exact wpAny_pure (h _ _)
end
end Aq
-- part AqCb
open PySem PySem.W PyProof.Rows
set_option Elab.async false
set_option maxRecDepth 100000
namespace Aq
open PySem PySem.W PySem.Calls PyProof.Rows PySem.Spec LCg
section
variable {prog : Program} {w : World} {A : Around} {E : Value → Shared → Prop} {s : Shared} {h₀ : Heap} {L : Addr} {m : Str → Option Value} {env : Env}
def SrcB (prog : Program) (w : World) (A : Around) (h₀ : Heap) (L : Addr) (m : Str → Option Value) (env : Env) (elt : Expr) (x : Str) (scope : Scope) (cl : List (Str × Addr)) (Fin : Shared → List Value → List (Addr × Obj) → Prop) (xv : Value) (s₁ : Shared) : Prop :=
  ∃ y b news, xv = .ref y ∧ A.handled = none ∧ Fr h₀ L s₁.heap m ∧ News h₀ L s₁.heap news ∧ (y, baObj b) ∈ news ∧ b.size ≤ sizeLine ∧
    ∀ s₂ : Shared, (∃ h, s₂ = { s₁ with heap := h }) → CompRest prog w A h₀ L m env elt x scope cl s₂ (fun nw => (y, baObj b) ∈ nw) (fun i v => ∃ c u, b[i]? = some c ∧ v = .int (c.toNat : Int) u) (Fin s₂) b.size 0 [] news
theorem ba_st {y I : Addr} {b : Array UInt8} : ∀ i (h h' : Heap) (o : Obj) (nw : List (Addr × Obj)), (IsBaIter h I y i ∧ h.get? y = some (baObj b)) → h.get? I = some o → h'.get? I = some o → (∀ b o, h₀.get? b = some o → h'.get? b = some o) → News h₀ L h' nw → (y, baObj b) ∈ nw → (IsBaIter h' I y i ∧ h'.get? y = some (baObj b)) :=
  fun i h h' o nw st e e' k N S => ⟨by obtain ⟨o', q, r⟩ := st.1; rw [e] at q; cases q; exact ⟨o, e', r⟩, (N _ S).1⟩
theorem ListComp_Ba {elt iter : Expr} {x : Str} {px : Pos} {scope : Scope} {cl : List (Str × Addr)} {pos : Pos} {Q : Value → Shared → Prop}
    (F₀ : Fr h₀ L s.heap m) (hclos : closureFor scope env = pure cl) (hcell : ∀ y ∈ scope.names, y.2 ≠ .cell) (hkind : scope.kind = .function)
    (hnames : ∀ y ∈ scope.names, y.2 = .local → scope.names.lookup y.1 = some .local) (hx : scope.names.lookup x = some .local)
    (h : wpAny (model prog w) A (eval iter env) (SrcB prog w A h₀ L m env elt x scope cl (fun s₂ => FinE h₀ L m s₂ Q)) E s)
    (hs : ∀ x, foldedSetIterable iter env x = pure x := by intro _; rfl) :
    wpAny (model prog w) A (eval (.ListComp elt [⟨.Name x px, iter, [], 0⟩] scope pos) env) Q E s := by
  rw [eval_ListComp]
  refine wpAny_comprehension_free (use := none) rfl hs hclos hkind hnames (wpAny_mono h (fun xv s₁ h₁ => ?_) fun _ _ e => e)
  obtain ⟨y, b, news, rfl, hh, F, N, S, hsz, R⟩ := h₁
  have hl := (N _ S).1
  have hlt : y < s₁.heap.objs.size := Heap.lt_size hl
  refine pyIter_ba hl ?_
  have up : ∀ b o, s₁.heap.get? b = some o → (s₁.heap.push { cls := .type "bytearray_iterator", data := .fields #[.ref y, .int 0 0] }).get? b = some o := fun b o e => Heap.get?_push_of_some _ e
  refine block_U (ba_walks hh s₁.heap.objs.size y (Nat.ne_of_lt hlt) b) hsz (fun i h st => by obtain ⟨o, e, _⟩ := st.1; exact ⟨o, e⟩) ba_st hcell hkind hx ⟨⟨_, Heap.get?_push_size _ rfl, rfl, rfl⟩, up _ _ hl⟩ (fun b hb => ?_)
    (F.keeps up) (N.grown up) (Nat.ne_of_lt F.ns.lt) (next_is_new F) (fun p hp => Nat.ne_of_lt (Heap.lt_size (N p hp).1)) S (R _ ⟨_, rfl⟩) ?_
  · show b < (s₁.heap.push _).objs.size
    rw [Heap.size_push]
    rcases List.mem_cons.mp hb with rfl | hb
    · exact Nat.lt_succ_self _
    · rw [List.mem_singleton.mp hb]; exact Nat.lt_succ_of_lt hlt
  · intro D C h tk m' ys news' F' N' o1 hn hC₀ hD₀ hCL hDL hCD offC fin
    refine ⟨m', hn, fun h'' hs'' => fin D h'' tk (F'.change hs'' hCL hC₀) (fun p hp => ?_) o1⟩
    refine ⟨hs''.extBut _ _ ?_ (N' p hp).1, (N' p hp).2⟩
    rcases List.mem_cons.mp hp with rfl | hp
    · exact Ne.symm hCD
    · exact offC p hp

/-- a turn's text, nothing else new -/
def TextEnd (h₀ : Heap) (L : Addr) (m : Str → Option Value) (s : Shared) (r : PySem.Str) (all : List (Addr × Obj)) (v : Value) (s' : Shared) : Prop :=
  ∃ h' tk' t', v = .str r t' ∧ s' = { s with heap := h', toks := tk' } ∧ Fr h₀ L h' m ∧ News h₀ L h' all
theorem TextEnd.of {h₀ : Heap} {L : Addr} {m : Str → Option Value} {s : Shared} {r r' : PySem.Str} {all : List (Addr × Obj)} {h' : Heap} {tk : Nat} {t' : Tok} (F : Fr h₀ L h' m) (N : News h₀ L h' all) (e : r' = r) :
    TextEnd h₀ L m s r all (.str r' t') { s with heap := h', toks := tk } := ⟨h', tk, t', by rw [e], rfl, F, N⟩
/-- a made text of each octet -/
theorem srcB_texts {elt : Expr} {x : Str} {scope : Scope} {cl : List (Str × Addr)} {Fin : Shared → List Value → List (Addr × Obj) → Prop} {y : Addr} {b : Array UInt8} {news : List (Addr × Obj)} (g : Int → PySem.Str)
    (hh : A.handled = none) (F : Fr h₀ L s.heap m) (N : News h₀ L s.heap news) (hy : (y, baObj b) ∈ news) (hz : b.size ≤ sizeLine)
    (turn : ∀ k t I oI C oC D m₂ ys h tk (E' : Value → Shared → Prop), 0 ≤ k → k < 256 → NsObj oC m₂ → m₂ x = some (.int k t) → Fr h₀ L h m → News h₀ L h ((I, oI) :: (C, oC) :: (D, lst ys) :: news) → Off3 I C D news → ((@Ne Nat I C) ∧ (@Ne Nat I D) ∧ (@Ne Nat C D)) →
      wpAny (model prog w) A (eval elt (compEnvC scope cl C env)) (TextEnd h₀ L m s (g k) ((I, oI) :: (C, oC) :: (D, lst ys) :: news)) E' { s with heap := h, toks := tk })
    (fin : ∀ h ys, CarriedAll ys ((KBw.bInts b).map fun k => PyData.str (g k)) → Fin { s with heap := h } ys news) : SrcB prog w A h₀ L m env elt x scope cl Fin (.ref y) s := by
  refine ⟨y, b, news, rfl, hh, F, N, hy, hz, ?_⟩
  rintro _ ⟨hg, rfl⟩
  refine kct_rest (ks := KBw.bInts b) g (KBw.ints_length b) (fun i v hi hv => ?_) (fun k t I oI C oC D m₂ ys h tk E' hk hC hx F' N' off ne _ => ?_) (fun ys hc _ => fin hg ys hc)
  · obtain ⟨c, u, hc, rfl⟩ := hv
    refine ⟨(c.toNat : Int), u, ?_, rfl⟩
    show (b.toList.map _)[i]? = _
    rw [List.getElem?_map, Array.getElem?_toList, hc]; rfl
  · obtain ⟨c, _, rfl⟩ := List.mem_map.mp hk
    refine wpAny_mono (turn _ t I oI C oC D m₂ ys h tk E' (Int.natCast_nonneg _) (by have := c.toNat_lt; omega) hC hx F' N' off ne) (fun v s' hv => ?_) fun _ _ e => e
    obtain ⟨h', tk', t', rfl, rfl, F2, N2⟩ := hv
    exact ⟨h', tk', news, rfl, F2, N2, off, hy, rfl, t', rfl⟩
end
end Aq
-- part AqJn
open PySem PySem.W PyProof.Rows
set_option Elab.async false
set_option maxRecDepth 100000
namespace Aq
open PySem PySem.W PySem.Calls PyProof.Rows PySem.Spec
theorem join_eq (sep : PySem.Str) (l : List PySem.Str) : Txt.join sep l = Str.join sep l := eq_of_beq (join_plain_closes sep l)
theorem join_cps : ∀ (l : List PySem.Str) (c : Nat), c ∈ (Str.join (Str.ofString "") l).cps → ∃ x ∈ l, c ∈ x.cps
  | [], c, h => by
    have : (Str.join (Str.ofString "") []).cps = #[] := rfl
    rw [this] at h
    simp at h
  | [a], c, h => ⟨a, .head _, h⟩
  | a :: b :: r, c, h => by
    have e : (Str.join (Str.ofString "") (a :: b :: r)).cps = a.cps ++ (Str.ofString "").cps ++ (Str.join (Str.ofString "") (b :: r)).cps := by
      show (a ++ Str.ofString "" ++ Str.join (Str.ofString "") (b :: r)).cps = _
      rw [PySem.Str.cps_append, PySem.Str.cps_append]
    have e0 : (Str.ofString "").cps = #[] := by decide
    rw [e, e0, Array.append_empty] at h
    rcases Array.mem_append.mp h with h | h
    · exact ⟨a, .head _, h⟩
    · obtain ⟨x, hx, hc⟩ := join_cps (b :: r) c h
      exact ⟨x, .tail _ hx, hc⟩
theorem join_len2 : ∀ (l : List PySem.Str), (∀ x ∈ l, x.length ≤ 2) → (Str.join (Str.ofString "") l).length ≤ 2 * l.length
  | [], _ => by decide
  | a :: r, h => by
    rw [len_join_cons, show (Str.ofString "").length = 0 from by decide]
    have : ∀ l : List PySem.Str, (∀ x ∈ l, x.length ≤ 2) → (l.map (·.length)).sum ≤ 2 * l.length := by
      intro l
      induction l with
      | nil => intro _; simp
      | cons a r ih =>
        intro h
        have h1 := h a (.head _)
        have h2 := ih fun x hx => h x (.tail _ hx)
        simp only [List.map_cons, List.sum_cons, List.length_cons]
        omega
    have := this (a :: r) h
    omega
theorem hexField_low : ∀ k : Fin 256, (hexField (k.val : Int)).all (fun c => c < 128) = true := by decide +kernel
theorem hex2_low {n : Int} (h0 : 0 ≤ n) (h1 : n < 256) : ∀ c ∈ (hex2 n).cps, c < 128 := by
  obtain ⟨k, rfl⟩ := Int.eq_ofNat_of_zero_le h0
  have h := hexField_low ⟨k, by omega⟩
  intro c hc
  have hc' : c ∈ hexField (k : Int) := by
    have : c ∈ ((hexField (k : Int)).toArray) := hc
    simpa using this
  exact of_decide_eq_true (List.all_eq_true.mp h c hc')
theorem low_plain {c : Nat} (h : c < 128) : Str.isSurrogate c = false := by
  unfold Str.isSurrogate
  have : ¬ (0xD800 ≤ c) := by omega
  simp [this]
/-- the hex text of some ints -/
def hexStr (ns : List Int) : PySem.Str := Str.join (Str.ofString "") (ns.map hex2)
theorem hexStr_plain {ns : List Int} (h : ∀ n ∈ ns, 0 ≤ n ∧ n < 256) : ∀ c ∈ (hexStr ns).cps, Str.isSurrogate c = false := fun c hc => by
  obtain ⟨x, hx, hc⟩ := join_cps _ c hc
  obtain ⟨n, hn, rfl⟩ := List.mem_map.mp hx
  exact low_plain (hex2_low (h n hn).1 (h n hn).2 c hc)
theorem hexStr_len {ns : List Int} (h : ∀ n ∈ ns, 0 ≤ n ∧ n < 256) : (hexStr ns).length ≤ 2 * ns.length := by
  have := join_len2 (ns.map hex2) fun x hx => by
    obtain ⟨n, hn, rfl⟩ := List.mem_map.mp hx
    exact Nat.le_of_eq (hex2_len (h n hn).1 (h n hn).2)
  rwa [List.length_map] at this
theorem hex_ints {b : Array UInt8} {n : Int} (h : n ∈ KBw.bInts b) : 0 ≤ n ∧ n < 256 := by
  obtain ⟨c, _, rfl⟩ := List.mem_map.mp h
  exact ⟨Int.natCast_nonneg _, by have := c.toNat_lt; omega⟩
section
variable {prog : Program} {w : World} {A : Around} {E : Value → Shared → Prop} {s : Shared} {t : Tok} {Q : Value → Shared → Prop} {h₀ : Heap} {L : Addr} {news : List (Addr × Obj)}
theorem join_hex {D : Addr} {ys : List Value} {ns : List Int} (N : News h₀ L s.heap news) (hD : (D, LCg.lst ys) ∈ news) (hc : CarriedAll ys (ns.map fun k => PyData.str (hex2 k))) (hr : ∀ n ∈ ns, 0 ≤ n ∧ n < 256) (hn : ns.length ≤ 300000)
    (h : ∀ t' k, Q (.str (hexStr ns) t') { s with toks := k }) : wpAny (model prog w) A (call (.builtin "str.join") [.str (Str.ofString "") t, .ref D]) Q E s := by
  refine KT.join_B 2 (News.isList N hD) hc (fun a ha => Nat.le_of_eq (hex2_len (hr a ha).1 (hr a ha).2)) (by omega) (by decide) fun t' k => ?_
  rw [join_eq]
  exact h t' k
theorem encode_hex {ns : List Int} (hr : ∀ n ∈ ns, 0 ≤ n ∧ n < 256) (hn : ns.length ≤ 300000) (h : ∀ t' k, Q (.bytes (enc (hexStr ns)) t') { s with toks := k }) :
    wpAny (model prog w) A (call (.builtin "str.encode") [.str (hexStr ns) t]) Q E s :=
  encode_plain (hexStr_plain hr) (by have := hexStr_len hr; omega) h
theorem getEncode {M : Model} {x : PySem.Str} {pl : Sem Bool} {Q : Value × List Value → Shared → Prop} (h : Q (.builtin "str.encode", [.str x t]) s) : wpAny M A (getMethod (.str x t) "encode" pl) Q E s := by
  with_reducible exact GM.of (.str x t) (typeIs_str _ _ _) F.slot_str_encode F.type_str_encode GM.noRef h
end
end Aq
-- part AqHl
open PySem PySem.W PyProof.Rows
set_option Elab.async false
namespace Aq
open PySem PySem.W PySem.Calls PyProof.Rows PySem.Spec
section
local macro_rules | `(tactic| walk_at "eval ListComp") => `(tactic| (k_here; k_dflt (refine ListComp_Ba (F₀ := by k_asm) (by with_unfolding_all rfl) (by decide) (by rfl) (by decide) (by with_unfolding_all rfl) ?_)))
local macro_rules | `(tactic| walk_at "binaryOp Mod str int") => `(tactic| (k_here; (refine hex_mod (by assumption) (by assumption) ?_); intro _ _))
local macro_rules | `(tactic| walk_at "call builtin:str.join") => `(tactic| (k_here; k_dflt (refine' join_hex ?N ?D ?c ?r ?n ?_; (case N => k_asm); (case D => k_mem); (case c => assumption); (case r => exact fun _ h => hex_ints h); (case n => (rw [KBw.ints_length]; omega))); intro _ _))
local macro_rules | `(tactic| walk_at "last call builtin:str.join") => `(tactic| (k_here; k_dflt (refine' join_hex ?N ?D ?c ?r ?n ?_; (case N => k_asm); (case D => k_mem); (case c => assumption); (case r => exact fun _ h => hex_ints h); (case n => (rw [KBw.ints_length]; omega))); intro _ _))
local macro_rules | `(tactic| walk_at "call builtin:str.encode") => `(tactic| (k_here; k_dflt (refine' encode_hex ?r ?n ?_; (case r => exact fun _ h => hex_ints h); (case n => (rw [KBw.ints_length]; omega))); intro _ _))
local macro_rules | `(tactic| walk_at "getMethod str") => `(tactic| (k_here; with_reducible refine getEncode ?_))
set_option maxRecDepth 100000 in
set_option maxHeartbeats 4000000 in
theorem hexlify_ct {w : World} {s : Shared} {A₀ A : Around} {base h₀ : Heap} {L : Addr} {mL mg mb : Str → Option Value} {env : Env} {outer : List Env} {p : Program} {loose : List Str} {mean : ExcName → Option Value} {Q : Value → Shared → Prop}
    {y : Addr} {bs : Array UInt8} {own : List (Addr × Obj)}
    (B : Below A₀ base outer h₀) (F : Fr h₀ L s.heap mL) (X₀ : (hd.heap_39 w.params).In h₀) (T : Top p loose mean mg mb h₀) (hA : A.frames = some (env :: outer)) (hf : env.frame = some L) (hke : env.scope.kind = .function) (hroom : A.depth < recursionLimit) (hh : A.handled = none)
    (N : News h₀ L s.heap ((y, baObj bs) :: own)) (hz : bs.size ≤ 100000)
    (k : ∀ h' tk t, Fr h₀ L h' mL → News h₀ L h' ((y, baObj bs) :: own) → Q (.bytes (enc (hexStr (KBw.bInts bs))) t) { s with heap := h', toks := tk }) :
    wpAny (model PySem.Challenge.rw_aq6016_01.row.toRowW.prog w) A (call (.ref 47) [.ref y] []) Q noE s := by
  revert X₀; k_fill; intro X₀
  refine wpAny_call ?_
  (refine' code_def ?k1 ?k2 ?k3 ?k4 ?k5 ?kA ?kF ?kK ?k6 ?k7 ?k8 ?k9 ?kB ?_ ?c2 ?c3 ?c4 ?c5; (case kA => assumption); (case kF => first | exact rfl | assumption); (case kK => first | exact rfl | assumption); (case k1 => k_asm); (case k2 => k_asm); (case k3 => k_asm); (case k4 => k_asm); (case k5 => k_asm); (case k6 => k_is); (case k7 => k_is); (case k8 => assumption); (case k9 => first | exact BindsTo.of_eq rfl | exact binds_K (by k_in) rfl (by k_is) rfl rfl rfl | fail "k_enter: no rule for these arguments"); (case c5 => decide); (case kB => exact locs rfl); (case c2 => exact rfl); (case c3 => exact rfl); (case c4 => exact rfl); k_whole; intro g' L' h' FG' F' N' B' X' T'; (try dsimp only); (try k_lift B'); (try k_fold))
  (try k_fold); k_steps
  rename Fr _ _ _ _ => F9
  rename News _ _ _ _ => N9
  refine' srcB_texts (b := bs) hex2 ?hh ?F ?N ?y ?z ?_ ?_
  case hh => exact hh
  case F => exact F9
  case N => exact N9
  case y => exact .head _
  case z => rw [sizeLine_eq]; omega
  · intro k' t' I' oI' C' oC' D' m' ys' h' tk' E' hlo' hhi' hC' hx' F' N' off' ne'
    k_steps
    exact TextEnd.of F' N' rfl
  · intro h8 ys8 hc8 D8 h7 tk7 F7 N7 o7
    k_steps
    rename Fr _ _ _ _ => F6
    rename News _ _ _ _ => N6
    exact k _ _ _ F6 (News.sub N6 fun p hp => .tail _ hp)
theorem hexlify_ctE {w : World} {s : Shared} {A₀ A : Around} {base h₀ : Heap} {L : Addr} {mL mg mb : Str → Option Value} {env : Env} {outer : List Env} {p : Program} {loose : List Str} {mean : ExcName → Option Value} {Q : Value → Shared → Prop} {E : Value → Shared → Prop}
    {y : Addr} {bs : Array UInt8} {all : List (Addr × Obj)}
    (B : Below A₀ base outer h₀) (F : Fr h₀ L s.heap mL) (X₀ : (hd.heap_39 w.params).In h₀) (T : Top p loose mean mg mb h₀) (hA : A.frames = some (env :: outer)) (hf : env.frame = some L) (hke : env.scope.kind = .function) (hroom : A.depth < recursionLimit) (hh : A.handled = none)
    (N : News h₀ L s.heap all) (hy : (y, baObj bs) ∈ all) (hz : bs.size ≤ 100000)
    (k : ∀ h' tk t, Fr h₀ L h' mL → News h₀ L h' all → Q (.bytes (enc (hexStr (KBw.bInts bs))) t) { s with heap := h', toks := tk }) :
    wpAny (model PySem.Challenge.rw_aq6016_01.row.toRowW.prog w) A (call (.ref 47) [.ref y] []) Q E s :=
  wpAny_mono (hexlify_ct B F X₀ T hA hf hke hroom hh (News.cons1 (N _ hy) N) hz fun h' tk t F' N' => k h' tk t F' (News.sub N' fun p hp => .tail _ hp)) (fun _ _ h => h) fun _ _ h => h.elim
end
section
local macro_rules | `(tactic| k_all) => `(tactic| first | exact OwnOff.ne (by assumption) (by simp only [List.mem_cons, true_or, or_true]) | exact allLt_ne (by assumption) (by (try dsimp only); omega))
local macro_rules | `(tactic| k_ne) => `(tactic| first | ((refine neN ?_; (try dsimp only)); refine' Apart.ne (by assumption) ?ax ?ay ?an; (case ax => first | exact ix0 | exact ix1 | exact ix2 | exact ix3 | exact ix4 | exact ix5 | exact ix6 | exact ix7 | exact ix8); (case ay => first | exact ix0 | exact ix1 | exact ix2 | exact ix3 | exact ix4 | exact ix5 | exact ix6 | exact ix7 | exact ix8); (case an => decide)) | fail "not apart")
local macro_rules | `(tactic| walk_at "call ref") => `(tactic| (k_here; k_dflt (refine' hexlify_ctE ?B ?F ?X ?T ?A ?f ?k ?r ?h ?N ?y ?z ?_; (case B => k_asm); (case F => k_asm); (case X => k_asm); (case T => k_asm); (case A => exact rfl); (case f => exact rfl); (case k => exact rfl); (case r => k_room); (case h => exact rfl); (case N => k_asm); (case y => k_mem); (case z => assumption); k_whole; intro h' tk t F' N'; (try k_sweep))))
set_option maxRecDepth 100000 in
set_option maxHeartbeats 4000000 in
theorem hex_ct {w : World} {s : Shared} {base h₀ : Heap} {L : Addr} {mL mg mb : Str → Option Value} {envL : Env} {p : Program} {loose : List Str} {mean : ExcName → Option Value} {Q : Value → Shared → Prop}
    {b d y : Addr} {bs : Array UInt8} {pl : Int} {tq : Tok} {h1 h2 : Int} {k1 k2 : Tok} {rest : List (Addr × Obj)}
    (B : Below callerA base [] h₀) (F : Fr h₀ L s.heap mL) (X₀ : (hd.heap_39 w.params).In h₀) (T : Top p loose mean mg mb h₀) (hf : envL.frame = some L) (hke : envL.scope.kind = .function)
    (N : News h₀ L s.heap ((b, instObj 134 d) :: (d, dictOf [⟨h1, .str (Str.ofString "data") k1, .ref y⟩, ⟨h2, .str (Str.ofString "offset") k2, .int pl tq⟩] 2) :: (y, baObj bs) :: rest)) (hz : bs.size ≤ 100000)
    (k : ∀ h' tk t, Fr h₀ L h' mL → News h₀ L h' ((b, instObj 134 d) :: (d, dictOf [⟨h1, .str (Str.ofString "data") k1, .ref y⟩, ⟨h2, .str (Str.ofString "offset") k2, .int pl tq⟩] 2) :: (y, baObj bs) :: rest) → Q (.bytes (enc (hexStr (KBw.bInts bs))) t) { s with heap := h', toks := tk }) :
    wpAny (model PySem.Challenge.rw_aq6016_01.row.toRowW.prog w) (callerA.deeper envL) (call (.ref 96) [.ref b] []) Q noE s := by
  revert X₀; k_fill; intro X₀
  refine wpAny_call ?_
  (refine' code_def ?k1 ?k2 ?k3 ?k4 ?k5 ?kA ?kF ?kK ?k6 ?k7 ?k8 ?k9 ?kB ?_ ?c2 ?c3 ?c4 ?c5; (case kA => exact rfl); (case kF => first | exact rfl | assumption); (case kK => first | exact rfl | assumption); (case k1 => k_asm); (case k2 => k_asm); (case k3 => k_asm); (case k4 => k_asm); (case k5 => k_asm); (case k6 => k_is); (case k7 => k_is); (case k8 => k_room); (case k9 => first | exact BindsTo.of_eq rfl | exact binds_K (by k_in) rfl (by k_is) rfl rfl rfl | fail "k_enter: no rule for these arguments"); (case c5 => decide); (case kB => exact locs rfl); (case c2 => exact rfl); (case c3 => exact rfl); (case c4 => exact rfl); k_whole; intro g' L' h' FG' F' N' B' X' T'; (try dsimp only); (try k_lift B'); (try k_fold))
  (try k_fold); k_steps
  rename Fr _ _ _ _ => F6
  rename News _ _ _ _ => N6
  exact k _ _ _ F6 N6
end
end Aq
-- part AqFo
open PySem PySem.W PyProof.Rows
set_option Elab.async false
set_option maxRecDepth 100000
namespace Aq
open PySem PySem.W PySem.Calls PyProof.Rows PySem.Spec
section
variable {M : Model} {A : Around} {s : Shared} {env : Env}
theorem wpC_runOwn {c : Code} {h : Option Value} {Q : Flow → Shared → Prop} (hc : codeC M (A.mark h) c Q s) (hnb : h ≠ some byPass := by intro x; cases x) : wpC M A (runOwn c env h) Q s := by
  unfold runOwn
  exact wpC_onRaise (wpC_run hc hnb)
theorem codeC_loop' {c : Code} {R : Flow → Shared → Prop} (hd : isDec c = false) (hq : c.quiet = true) (I : Nat → Shared → Prop)
    (turn : ∀ n s, I n s → wpC M (A.under c) (M.den c) (fun fin s' => match fin with | .done f => R f s' | .again c' => (c' = c ∧ ∃ m, m < n ∧ I m s') ∨ (c'.quiet = true ∧ codeC M A c' R s')) s)
    (n : Nat) (h : I n s) : codeC M A c R s := by
  induction n using Nat.strongRecOn generalizing s with
  | ind n ih =>
    refine codeC_of_tree hd (wpC_mono (turn n s h) fun fin s' hf => ?_)
    cases fin with
    | done f => exact hf
    | again c' =>
      rcases hf with ⟨rfl, m, hm, hI⟩ | hf
      · exact ⟨hq, ih m hm hI⟩
      · exact hf
theorem wpC_more {e : Expr} {rest : List Expr} {pos : Pos} {Q : List Value → Shared → Prop}
    (h : wpC M A (eval e env) (fun v s₁ => wpC M A (spliced (backTo pos (starEach rest env))) (fun vs s₂ => Q (v :: vs) s₂) s₁) s)
    (he : starEach (e :: rest) env = (false, eval e env) :: starEach rest env := by rfl) : wpC M A (spliced (backTo pos (starEach (e :: rest) env))) Q s := by
  rw [he]; exact wpC_spliced_cons h
theorem wpC_none {pos : Pos} {Q : List Value → Shared → Prop} (h : Q [] s) : wpC M A (spliced (backTo pos (starEach [] env))) Q s := wpC_spliced_nil h
end
section
variable {prog : Program} {w : World} {A : Around} {s : Shared} {env : Env} {target iter : Expr} {body : List Stmt} {pos : Pos} {Q : Flow → Shared → Prop} {n : Nat}
theorem codeC_forLoop {it : Value} {orelse : List Stmt} {R : Flow → Shared → Prop} (I : Nat → Shared → Prop)
    (turn : ∀ n s, I n s → wpAny (model prog w) A (pyNext it) (fun r s₁ => match r with
      | none => wpC (model prog w) A (execs orelse env) R s₁
      | some v => wpAny (model prog w) A (assign target env v) (fun _ s₂ => wpC (model prog w) A (execs body env) (fun f s₃ => match f with
          | .next | .cont => ∃ m, m < n ∧ I m s₃
          | .brk => R .next s₃
          | .ret v => R (.ret v) s₃) s₂) noE s₁) noE s)
    (n : Nat) (h : I n s) (ht : ∀ v, letOwnedTupleGo target it v = pure () := by intro _; rfl) : codeC (model prog w) A (.forLoop target it body orelse env) R s := by
  refine codeC_loop' rfl rfl I (fun n s hI => ?_) n h
  show wpC _ A ((forTurn target it body orelse env).onRaise (fun x => do noteFrame x env; theTreesLotGoes x)) _ s
  refine wpC_onRaise ?_
  simp only [forTurn]
  refine wpC_standAt (wpC_bind_any (wpAny_onRaise (wpAny_mono (turn n s hI) (fun r s₁ h₁ => ?_) fun _ _ h' => h'.elim)))
  cases r with
  | none => exact wpC_pure (.inr ⟨rfl, codeC_block h₁⟩)
  | some v =>
    refine wpC_bind_any (wpAny_of_eq (ht v) ?_)
    refine wpC_bind_any (wpAny_mono h₁ (fun _ s₂ h₂ => wpC_bind (wpC_mono h₂ fun f s₃ h₃ => ?_)) fun _ _ h' => h')
    cases f with
    | next => exact wpC_pure (.inl ⟨rfl, h₃⟩)
    | cont => exact wpC_pure (.inl ⟨rfl, h₃⟩)
    | brk => exact wpC_pure h₃
    | ret v => exact wpC_pure h₃

/-- a for over range(n) over clean contexts, its invariant upon the whole state -/
def RunsC (prog : Program) (w : World) (A : Around) (env : Env) (target : Expr) (body : List Stmt) (n : Nat) (Q : Flow → Shared → Prop) (I : Addr) (s : Shared) : Prop :=
  ∃ J : Nat → Shared → Prop, J 0 s ∧
    (∀ i s₂, i < n → J i s₂ → IsRangeIter s₂.heap I i ((n : Int) - i) 1 ∧ ∀ h', IsRangeIter h' I (i + 1 : Nat) ((n : Int) - (i + 1 : Nat)) 1 → Heap.SameBut I s₂.heap h' →
      wpAny (model prog w) A (assign target env (.int i s₂.toks)) (fun _ s₃ => wpC (model prog w) A (execs body env) (fun f s₄ => match f with
        | .next | .cont => J (i + 1) s₄
        | .brk => Q .next s₄
        | .ret v => Q (.ret v) s₄) s₃) noE { s₂ with heap := h', toks := s₂.toks + 1 }) ∧
    (∀ s₂, J n s₂ → IsRangeIter s₂.heap I n 0 1 ∧ ∀ h', Heap.ExtBut I s₂.heap h' → Q .next { s₂ with heap := h' })

theorem For_range_C (hh : A.handled = none)
    (h : wpAny (model prog w) A (eval iter env) (fun x s₁ => ∃ r t u v, x = .ref r ∧ IsRange s₁.heap r 0 n 1 t u v ∧
      RunsC prog w A env target body n Q s₁.heap.objs.size { s₁ with heap := s₁.heap.push (ritObj 0 n) }) noE s) (hn : n < 2 ^ 62)
    (hs : ∀ x, foldedSetIterable iter env x = pure x := by intro _; rfl) (ht : ∀ it v, letOwnedTupleGo target it v = pure () := by intro _ _; rfl) :
    wpC (model prog w) A (exec (.For target iter body [] pos) env) Q s := by
  rw [exec_For]
  refine wpC_standAt (wpC_bind_any (wpAny_mono h (fun x s₁ h₁ => ?_) fun _ _ e => e))
  obtain ⟨r, t, u, v, rfl, hr, J, h0, turn, done⟩ := h₁
  refine wpC_bind_any (wpAny_of_eq (hs _) ?_)
  refine wpC_standAt (wpC_bind_any (wpAny_holding ?_))
  have hsz : Builtin.Range.rangeSize 0 (n : Int) 1 = n := by
    unfold Builtin.Range.rangeSize
    split <;> omega
  refine wpAny_pyIter_range hr (small_one (by decide) (by decide) (by omega) (by omega)) ?_
  rw [hsz]
  refine wpC_runOwn ?_
  let I' : Nat → Shared → Prop := fun k s' => ∃ i, i ≤ n ∧ k = n + 1 - i ∧ J i s'
  refine codeC_forLoop I' ?_ (n + 1) ⟨0, Nat.zero_le _, rfl, h0⟩ (ht _)
  rintro k s₂ ⟨i, hi, rfl, hJ⟩
  by_cases hlt : i < n
  · obtain ⟨hit, tn⟩ := turn i s₂ hlt hJ
    refine wpAny_pyNext_range_item hit (by omega) fun h' hit' hsb => ?_
    refine wpAny_mono (tn h' ?_ hsb) (fun _ s₃ h₃ => wpC_mono h₃ fun f s₄ h₄ => ?_) fun _ _ e => e
    · have e1 : ((i : Int) + 1) = ((i + 1 : Nat) : Int) := by omega
      have e2 : ((n : Int) - i - 1) = ((n : Int) - ((i + 1 : Nat) : Int)) := by omega
      rw [e1, e2] at hit'; exact hit'
    · cases f with
      | next => exact ⟨n + 1 - (i + 1), by omega, i + 1, hlt, rfl, h₄⟩
      | cont => exact ⟨n + 1 - (i + 1), by omega, i + 1, hlt, rfl, h₄⟩
      | brk => exact h₄
      | ret v => exact h₄
  · have e : i = n := by omega
    subst e
    obtain ⟨hit, dn⟩ := done s₂ hJ
    exact wpAny_pyNext_range_end hh hit (Int.le_refl _) fun h' hx => wpC_execs_nil (dn h' hx)

section
variable {h₀ : Heap} {L : Addr} {m₀ : Str → Option Value} {news₀ : List (Addr × Obj)}
/-- the invariant on frame and ledger -/
theorem runsC_L (P : Nat → (Str → Option Value) → List (Addr × Obj) → Prop) (F : Fr h₀ L s.heap m₀) (N : News h₀ L s.heap news₀) (h0 : P 0 m₀ news₀)
    (hP : ∀ i m news, P i m news → ∀ p ∈ news, p.1 ≠ s.heap.objs.size)
    (turn : ∀ i m news h tk, i < n → P i m news → Fr h₀ L h m → News h₀ L h ((s.heap.objs.size, ritObj (i + 1 : Nat) ((n : Int) - (i + 1 : Nat))) :: news) →
      wpAny (model prog w) A (assign target env (.int i tk)) (fun _ s₃ => wpC (model prog w) A (execs body env) (fun f s₄ => match f with
        | .next | .cont => ∃ h' tk' m' news', s₄ = { s with heap := h', toks := tk' } ∧ P (i + 1) m' news' ∧ Fr h₀ L h' m' ∧ News h₀ L h' ((s.heap.objs.size, ritObj (i + 1 : Nat) ((n : Int) - (i + 1 : Nat))) :: news')
        | .brk => Q .next s₄
        | .ret v => Q (.ret v) s₄) s₃) noE { s with heap := h, toks := tk + 1 })
    (done : ∀ h tk m news, P n m news → Fr h₀ L h m → News h₀ L h news → Q .next { s with heap := h, toks := tk }) :
    RunsC prog w A env target body n Q s.heap.objs.size { s with heap := s.heap.push (ritObj 0 n) } := by
  refine ⟨fun i s₂ => ∃ h tk m news, s₂ = { s with heap := h, toks := tk } ∧ P i m news ∧ Fr h₀ L h m ∧ News h₀ L h ((s.heap.objs.size, ritObj i ((n : Int) - i)) :: news), ?_, ?_, ?_⟩
  · have X := grow1 F N (fun a o e => Heap.get?_push_of_some _ e) (Heap.get?_push_size (o := ritObj 0 n) _ rfl) (fresh_none _)
    have e : ((n : Int) - ((0 : Nat) : Int)) = n := by omega
    exact ⟨_, s.toks, m₀, news₀, rfl, h0, X.1, by rw [e]; exact X.2⟩
  · rintro i s₂ hi ⟨h, tk, m, news, rfl, hp, F', N'⟩
    have hI := N' _ (.head _)
    refine ⟨hI.1, fun h' hit hsb => ?_⟩
    have Y := turn1 (s := { s with heap := h, toks := tk }) (h' := h') F' N' (Upd.head (o' := ritObj (i + 1 : Nat) ((n : Int) - (i + 1 : Nat))) (hP i m news hp)) (fun a o ha e => (hsb.2 a ha).trans e) hit
    exact turn i m news h' tk hi hp Y.1 Y.2
  · rintro s₂ ⟨h, tk, m, news, rfl, hp, F', N'⟩
    have hI := N' _ (.head _)
    have e : ((n : Int) - (n : Int)) = 0 := by omega
    rw [e] at hI
    refine ⟨hI.1, fun h' hx => ?_⟩
    have hk : ∀ b o, b ≠ s.heap.objs.size → h.get? b = some o → h'.get? b = some o := fun b o hb e => hx b o hb e
    refine done h' tk m news hp ⟨F'.ns.at' fun o e => hk _ o (Ne.symm hI.2.1) e, fun b o e => hk b o (fun q => ?_) (F'.keep b o e), F'.above⟩ fun p hp' => ⟨hk _ _ (hP n m news hp p hp') (N' p (.tail _ hp')).1, (N' p (.tail _ hp')).2⟩
    rw [q, hI.2.2] at e; cases e
end
end
end Aq
-- part AqTw
open PySem PySem.W PyProof.Rows
set_option Elab.async false
set_option maxRecDepth 100000
namespace Aq
open PySem PySem.W PySem.Calls PyProof.Rows PySem.Spec
/-- addresses that lie apart, none above t -/
structure Tower (l : List Nat) (t : Nat) : Prop where
  apart : Apart l
  le : ∀ x ∈ l, x ≤ t
theorem Tower.push {l : List Nat} {t y : Nat} (h : Tower l t) (hy : t < y) : Tower (y :: l) y :=
  ⟨Apart.cons (fun b hb => Nat.ne_of_gt (Nat.lt_of_le_of_lt (h.le b hb) hy)) h.apart, List.forall_mem_cons.mpr ⟨Nat.le_refl _, fun x hx => Nat.le_of_lt (Nat.lt_of_le_of_lt (h.le x hx) hy)⟩⟩
theorem Tower.raise {l : List Nat} {y : Nat} (h : Apart l) (hl : ∀ x ∈ l, x < y) : Tower (y :: l) y :=
  ⟨Apart.cons (fun b hb => Nat.ne_of_gt (hl b hb)) h, List.forall_mem_cons.mpr ⟨Nat.le_refl _, fun x hx => Nat.le_of_lt (hl x hx)⟩⟩
theorem Apart.pick {T : List Nat} (h : Apart T) (idx : List Nat) (hn : idx.Nodup := by decide) (hl : (idx.all fun i => decide (i < T.length)) = true := by rfl) : Apart (idx.map fun i => T.getD i 0) := by
  refine ⟨List.pairwise_map.mpr (List.Pairwise.imp_of_mem ?_ hn)⟩
  intro i j hi hj hij
  have h1 := of_decide_eq_true (List.all_eq_true.mp hl i hi)
  have h2 := of_decide_eq_true (List.all_eq_true.mp hl j hj)
  refine h.ne (i := i) (j := j) ?_ ?_ hij
  · rw [List.getD_eq_getElem?_getD, List.getElem?_eq_getElem h1]; rfl
  · rw [List.getD_eq_getElem?_getD, List.getElem?_eq_getElem h2]; rfl
theorem off1 {y : Addr} : ∀ {news : List (Addr × Obj)}, (∀ b ∈ news.map (·.1), y ≠ b) → ∀ p ∈ news, p.1 ≠ y
  | _, h, p, hp => Ne.symm (h p.1 (List.mem_map_of_mem hp))
theorem updAt {y : Addr} {o o' : Obj} : ∀ {news : List (Addr × Obj)} {i : Nat}, Apart (news.map (·.1)) → news[i]? = some (y, o) → Upd y o o' news (news.set i (y, o'))
  | [], _, _, h => by simp at h
  | p :: r, 0, ha, h => by
    have e : p = (y, o) := Option.some.inj h
    subst e
    exact .head (off1 (List.pairwise_cons.mp ha.nodup).1)
  | p :: r, i + 1, ha, h => by
    have h' : r[i]? = some (y, o) := h
    exact .tail ((List.pairwise_cons.mp ha.nodup).1 y (List.mem_map.mpr ⟨_, List.mem_of_getElem? h', rfl⟩)) (updAt ha.tail h')
theorem OwnOff.ofApart {own : List (Addr × Obj)} : ∀ {adr : List Addr}, Apart (adr ++ own.map (·.1)) → OwnOff own adr
  | [], _ => fun p _ b hb => nomatch hb
  | a :: adr, h => OwnOff.consA (fun p hp => Ne.symm ((List.pairwise_cons.mp h.nodup).1 p.1 (List.mem_append_right _ (List.mem_map_of_mem hp)))) (OwnOff.ofApart h.tail)
theorem Apart.ofOff {own : List (Addr × Obj)} {adr : List Addr} (ha : Apart adr) (ho : OwnOff own adr) (hw : Apart (own.map (·.1))) : Apart (adr ++ own.map (·.1)) :=
  ⟨List.pairwise_append.mpr ⟨ha.nodup, hw.nodup, fun a hx b hb => by
    obtain ⟨p, hp, rfl⟩ := List.mem_map.mp hb
    exact Ne.symm (ho p hp a hx)⟩⟩
theorem tw_start {D f c s : Nat} (j1 : @Ne Nat f D) (j2 : @Ne Nat c D) (j3 : @Ne Nat (s + 1 + 1) D) (j4 : @Ne Nat (s + 1) D) (j5 : @Ne Nat 191 D) (j6 : s + 1 + 1 < c) (j7 : s + 1 < c) (j8 : 191 < c) (h : 191 < s) (i : c < f) :
    Apart [D, f, c, s + 1 + 1, s + 1, 191] := by
  refine Apart.of (List.Pairwise.cons ?_ (List.Pairwise.cons ?_ (List.Pairwise.cons ?_ (List.Pairwise.cons ?_ (List.Pairwise.cons ?_ (List.Pairwise.cons ?_ .nil))))))
  all_goals (simp only [List.mem_cons, List.not_mem_nil, or_false, forall_eq_or_imp, forall_eq, false_implies, implies_true])
  all_goals (repeat' (refine And.intro ?_ ?_))
  all_goals omega
section
variable {s : Shared} {h₀ h' : Heap} {L : Addr} {m : Str → Option Value} {news : List (Addr × Obj)} {o : Obj}
theorem grow2 (F : Fr h₀ L s.heap m) (N : News h₀ L s.heap news) (hk : ∀ a o, s.heap.get? a = some o → h'.get? a = some o) (hx : h'.get? s.heap.objs.size = some o) :
    Fr h₀ L h' m ∧ News h₀ L h' ((s.heap.objs.size, o) :: news) ∧ ∀ p ∈ news, p.1 < s.heap.objs.size :=
  let X := grow1 F N hk hx (fresh_none _)
  ⟨X.1, X.2, fun p hp => Heap.lt_size (N p hp).1⟩
end
theorem wpC_call0 {M : Model} {A : Around} {s : Shared} {pos : Pos} {f : Value} {first : List Value} {env : Env} {Q : Value → Shared → Prop} (h : CallIs M A f first Q ⟨[], []⟩ s) :
    wpC M A (callWith pos f first (backTo pos (starEach [] env)) []) Q s := wpC_callW (evalArgs_nil3 h)
theorem wpC_Assign_swapped {M : Model} {A : Around} {s : Shared} {env : Env} {elts : List Expr} {k : Nat} {tpos pos : Pos} {value : Expr} {names : List Str} {Q : Flow → Shared → Prop}
    (h : wpC M A (eval value env) (fun v s₁ => wpAny M A (unpackItems v names.length none) (fun items s₂ =>
      wpAny M A (assignInOrder (names.reverse.map fun n => bindName env n) items.reverse) (fun _ => Q .next) noE s₂) noE s₁) s)
    (hs : swapsWithSole [.Tuple elts k tpos] value pos.line env = pure false := by rfl)
    (hw : swappedStores [.Tuple elts k tpos] value env = pure (some names) := by rfl) :
    wpC M A (exec (.Assign [.Tuple elts k tpos] value pos) env) Q s := by
  rw [exec_Assign]
  refine wpC_standAt ?_
  rw [hs]
  refine wpC_bind (wpC_pure ?_)
  rw [if_neg (by decide)]
  refine wpC_bind (wpC_mono h fun v s₁ h₁ => ?_)
  rw [hw]
  refine wpC_bind (wpC_pure ?_)
  show wpC M A (do rule "assign.swapped-stores"; let items ← unpackItems v names.length none; assignInOrder (names.reverse.map fun n => bindName env n) items.reverse; pure .next) Q s₁
  exact wpC_rule (wpC_bind_any (wpAny_mono h₁ (fun items s₂ h₂ => wpC_bind_any (wpAny_mono h₂ (fun _ _ x => wpC_pure x) fun _ _ x => x)) fun _ _ x => x))
section
variable {prog : Program} {w : World} {A : Around} {E : Value → Shared → Prop} {s : Shared} {h₀ : Heap} {L : Addr} {m : Str → Option Value} {news : List (Addr × Obj)}
theorem ne_sameK {a b : Addr} {vs us : List Value} {ns : List Int} {Q : Value → Shared → Prop} (hl : s.heap.IsList a vs.toArray) (hi : IntsAre vs ns) (hl' : s.heap.IsList b us.toArray) (hi' : IntsAre us ns) (hu : A.units + 64 < cLine)
    (h : Q (.bool false) s) : wpAny (model prog w) A (compareOp .NotEq (.ref a) (.ref b)) Q E s :=
  ne_intsK hl hi hl' hi' hu (by rw [decide_eq_true rfl]; exact h)
theorem list_baL {y : Addr} {b : Array UInt8} {ns : List Int} {Q : Value → Shared → Prop} (F : Fr h₀ L s.heap m) (N : News h₀ L s.heap news) (hy : (y, baObj b) ∈ news) (hb : KBw.bInts b = ns) (hh : A.handled = none) (hz : b.size ≤ sizeLine)
    (h : ∀ D vs c h' k, Fr h₀ L h' m → News h₀ L h' ((D, listOf (List.toArray vs) c) :: news) → (∀ p ∈ news, p.1 < D) → IntsAre vs ns → Q (.ref D) { s with heap := h', toks := k }) :
    wpAny (model prog w) A (call (.type "list") [.ref y]) Q E s := by
  subst hb
  refine call_list_ba hh (N _ hy).1 hz fun vs c h' k hi e kp => ?_
  obtain ⟨F', N', l'⟩ := grow2 (s := s) F N kp e
  exact h _ vs c h' k F' N' l' hi
theorem set_baL {y : Addr} {b : Array UInt8} {k n : Int} {t u : Tok} {news' : List (Addr × Obj)} {Q : Unit → Shared → Prop} (F : Fr h₀ L s.heap m) (N : News h₀ L s.heap news) (U : Upd y (baObj b) (baObj (b.setIfInBounds k.toNat n.toNat.toUInt8)) news news') (h0 : 0 ≤ k) (hk : k < (b.size : Int)) (hz : b.size ≤ sizeLine) (n0 : 0 ≤ n) (n1 : n < 256)
    (h : ∀ h', Fr h₀ L h' m → News h₀ L h' news' → Q () { s with heap := h' }) : wpAny (model prog w) A (setItem (.ref y) (.int k t) (.int n u)) Q E s := by
  refine setItem_ba_int (N _ (upd_mem U)).1 h0 hk hz n0 n1 fun h' e kp => ?_
  have X := turn1 (s := s) (h' := h') F N U (fun a o ha e => (kp a ha).trans e) e
  exact h h' X.1 X.2
end
section
theorem ints_byteArr {ns : List Int} (h : ∀ n ∈ ns, 0 ≤ n ∧ n < 256) : KBw.bInts (byteArr ns) = ns := ints_bytes h
end
end Aq
-- part AqLo
open PySem PySem.W PyProof.Rows
set_option Elab.async false
set_option maxRecDepth 100000
namespace Aq
open PySem PySem.W PySem.Calls PyProof.Rows PySem.Spec
/-- one pair of the law: a model list and its buffer -/
structure Pr where
  m : Addr
  o : Addr
  b : Addr
  d : Addr
  y : Addr
  vs : List Value
  bs : Array UInt8
  pl : Int
  tp : Tok
  tq : Tok
  c1 : Nat
  c2 : Nat
  h1 : Int
  h2 : Int
  k1 : Tok
  k2 : Tok
abbrev Pr.led (P : Pr) (own : List (Addr × Obj)) : List (Addr × Obj) := pairLed P.m P.o P.b P.d P.y P.vs P.bs P.pl P.tp P.tq P.c1 P.c2 P.h1 P.h2 P.k1 P.k2 own
abbrev Pr.adr (P : Pr) : List Addr := [P.m, P.o, P.b, P.d, P.y]
/-- what holds of a pair -/
structure Pr.Ok (P : Pr) (n : Nat) : Prop where
  ii : IntsAre P.vs (KBw.bInts P.bs)
  lo : 0 ≤ P.pl
  hi : P.pl ≤ P.bs.size
  size : P.bs.size ≤ n
/-- the same pair a deed later -/
structure Pr.Like (P P' : Pr) : Prop where
  m : P'.m = P.m
  b : P'.b = P.b
  d : P'.d = P.d
  y : P'.y = P.y
theorem Pr.Like.refl {P : Pr} : P.Like P := ⟨rfl, rfl, rfl, rfl⟩
theorem Pr.Like.trans {P Q R : Pr} (h : P.Like Q) (g : Q.Like R) : P.Like R := ⟨g.m.trans h.m, g.b.trans h.b, g.d.trans h.d, g.y.trans h.y⟩
theorem Apart.perm {l l' : List Nat} (h : Apart l) (p : l.Perm l') : Apart l' := ⟨p.nodup_iff.mp h.nodup⟩
theorem news_perm {h₀ h : Heap} {L : Addr} {l l' : List (Addr × Obj)} (N : News h₀ L h l) (p : l.Perm l') : News h₀ L h l' := fun q hq => N q (p.mem_iff.mpr hq)
theorem Pr.led_app (P : Pr) (own : List (Addr × Obj)) : P.led own = P.led [] ++ own := rfl
theorem Pr.led_fst (P : Pr) : (P.led []).map (·.1) = P.adr := rfl
/-- the ledger of the law: something else ahead, two pairs, the rest -/
abbrev two (q : Addr × Obj) (P Q : Pr) (rest : List (Addr × Obj)) : List (Addr × Obj) := q :: P.led (Q.led rest)
theorem two_swap (q : Addr × Obj) (P Q : Pr) (rest : List (Addr × Obj)) : (two q P Q rest).Perm (two q Q P rest) := by
  show (q :: (P.led [] ++ (Q.led [] ++ rest))).Perm (q :: (Q.led [] ++ (P.led [] ++ rest)))
  refine List.Perm.cons q ?_
  rw [← List.append_assoc, ← List.append_assoc]
  exact List.perm_append_comm.append_right rest
theorem two_under (q : Addr × Obj) (P Q : Pr) (rest : List (Addr × Obj)) : (two q P Q rest).Perm (P.led (q :: Q.led rest)) := by
  show (q :: (P.led [] ++ Q.led rest)).Perm (P.led [] ++ (q :: Q.led rest))
  exact List.perm_middle.symm
/-- the deed upon the first pair -/
theorem deed_at {w : World} {s : Shared} {base h₀ : Heap} {L : Addr} {mL mg mb : Str → Option Value} {envL : Env} {p : Program} {loose : List Str} {mean : ExcName → Option Value} {R : Flow → Shared → Prop}
    {q : Addr × Obj} {P Q : Pr} {rest : List (Addr × Obj)} {drawn : Int} {td : Tok} {n : Nat}
    (B : Below callerA base [] h₀) (F : Fr h₀ L s.heap mL) (X₀ : (hd.heap_39 w.params).In h₀) (T : Top p loose mean mg mb h₀) (XB : (hd.heap_39 w.params).In base) (TB : Top p loose mean mg mb base) (hf : envL.frame = some L) (hke : envL.scope.kind = .function)
    (N : News h₀ L s.heap (two q P Q rest)) (ap : Apart ((two q P Q rest).map (·.1))) (ok : P.Ok n) (hn : n ≤ 10000)
    (k : ∀ h' tk P', P.Like P' → Fr h₀ L h' mL → News h₀ L h' (two q P' Q rest) → Apart ((two q P' Q rest).map (·.1)) → P'.Ok (n + 8) → R (.ret (.bool true)) { s with heap := h', toks := tk }) :
    codeC (model PySem.Challenge.rw_aq6016_01.row.toRowW.prog w) (callerA.deeper envL) (.call (.ref 189) ⟨[.ref P.m, .ref P.b, .int drawn td], []⟩) R s := by
  have ap1 : Apart (P.adr ++ (q :: Q.led rest).map (·.1)) := ap.perm ((two_under q P Q rest).map _)
  have apP : Apart P.adr := ⟨(List.pairwise_append.mp ap1.nodup).1⟩
  have apO : Apart ((q :: Q.led rest).map (·.1)) := ⟨(List.pairwise_append.mp ap1.nodup).2.1⟩
  refine deed_ct (own := q :: Q.led rest) B F X₀ T XB TB hf hke (news_perm N (two_under q P Q rest)) (OwnOff.ofApart ap1) apP ok.ii rfl (KBw.ints_length _) ok.lo ok.hi (by have := ok.size; omega) ?_
  intro h' tk o' vs' bs' pl' tp' tq' c2' F' N' ap' off' i' l1 l2 l3
  refine k h' tk { P with o := o', vs := vs', bs := bs', pl := pl', tp := tp', tq := tq', c2 := c2' } ⟨rfl, rfl, rfl, rfl⟩ F' (news_perm N' (two_under q { P with o := o', vs := vs', bs := bs', pl := pl', tp := tp', tq := tq', c2 := c2' } Q rest).symm) ?_ ⟨i', l1, l2, by have := ok.size; show bs'.size ≤ n + 8; omega⟩
  have h9 : Apart ((Pr.led { P with o := o', vs := vs', bs := bs', pl := pl', tp := tp', tq := tq', c2 := c2' } (q :: Q.led rest)).map fun x => x.1) := Apart.ofOff ap' off' apO
  exact h9.perm ((two_under q { P with o := o', vs := vs', bs := bs', pl := pl', tp := tp', tq := tq', c2 := c2' } Q rest).symm.map fun x => x.1)

section
variable {M : Model} {prog : Program} {w : World} {A : Around} {s : Shared} {env : Env} {target iter : Expr} {body : List Stmt} {pos : Pos} {Q : Flow → Shared → Prop} {n : Nat} {h₀ : Heap} {L : Addr} {m : Str → Option Value} {news : List (Addr × Obj)}
/-- a statement's end: one object of the ledger may have changed -/
def MidEnd (h₀ : Heap) (L : Addr) (m : Str → Option Value) (g : Obj → List (Addr × Obj)) (s : Shared) (f : Flow) (s' : Shared) : Prop :=
  f = .next ∧ ∃ h tk o, s' = { s with heap := h, toks := tk } ∧ Fr h₀ L h m ∧ News h₀ L h (g o)
theorem wpC_stmt_set {st : Stmt} {rest : List Stmt} {y : Addr} (i : Nat) (F : Fr h₀ L s.heap m) (_ : News h₀ L s.heap news)
    (h1 : wpAny M A (exec st env) (MidEnd h₀ L m (fun o => news.set i (y, o)) s) noE s)
    (h2 : ∀ h tk o, Fr h₀ L h m → News h₀ L h (news.set i (y, o)) → wpC M A (execs rest env) Q { s with heap := h, toks := tk }) :
    wpC M A (execs (st :: rest) env) Q s := by
  refine wpC_stmt (wpAny_mono h1 (fun f s' hf => ?_) fun _ _ e => e)
  obtain ⟨rfl, h, tk, o, rfl, F', N'⟩ := hf
  exact h2 h tk o F' N'
theorem For_range_Ci {k : Int} (hk : k = (n : Int)) (hh : A.handled = none)
    (h : wpAny (model prog w) A (eval iter env) (fun x s₁ => ∃ r t u v, x = .ref r ∧ IsRange s₁.heap r 0 k 1 t u v ∧
      RunsC prog w A env target body n Q s₁.heap.objs.size { s₁ with heap := s₁.heap.push (ritObj 0 n) }) noE s) (hn : n < 2 ^ 62)
    (hs : ∀ x, foldedSetIterable iter env x = pure x := by intro _; rfl) (ht : ∀ it v, letOwnedTupleGo target it v = pure () := by intro _ _; rfl) :
    wpC (model prog w) A (exec (.For target iter body [] pos) env) Q s := by
  subst hk
  exact For_range_C hh h hn hs ht

/-- the frame of the law within its loop -/
def LoopM (m₀ : Str → Option Value) (vb vm vd vk : Option Value) : Str → Option Value := fun y => if y = Str.ofString "buffer" then vb else if y = Str.ofString "model" then vm else if y = Str.ofString "drawn" then vd else if y = Str.ofString "k" then vk else m₀ y
def OffL (m₀ m : Str → Option Value) : Prop := ∀ y, y ≠ Str.ofString "buffer" → y ≠ Str.ofString "model" → y ≠ Str.ofString "drawn" → y ≠ Str.ofString "k" → m y = m₀ y
theorem OffL.eq {m₀ m : Str → Option Value} (h : OffL m₀ m) : m = LoopM m₀ (m (Str.ofString "buffer")) (m (Str.ofString "model")) (m (Str.ofString "drawn")) (m (Str.ofString "k")) := by
  funext y
  unfold LoopM
  by_cases h1 : y = Str.ofString "buffer"
  · rw [if_pos h1, h1]
  · rw [if_neg h1]
    by_cases h2 : y = Str.ofString "model"
    · rw [if_pos h2, h2]
    · rw [if_neg h2]
      by_cases h3 : y = Str.ofString "drawn"
      · rw [if_pos h3, h3]
      · rw [if_neg h3]
        by_cases h4 : y = Str.ofString "k"
        · rw [if_pos h4, h4]
        · rw [if_neg h4]
          exact h y h1 h2 h3 h4
theorem OffL.of {m₀ : Str → Option Value} {vb vm vd vk : Option Value} : OffL m₀ (LoopM m₀ vb vm vd vk) := fun y h1 h2 h3 h4 => by
  unfold LoopM
  rw [if_neg h1, if_neg h2, if_neg h3, if_neg h4]
theorem OffL.refl {m₀ : Str → Option Value} : OffL m₀ m₀ := fun _ _ _ _ _ => rfl
/-- what holds at each turn's start -/
def LedI (I : Addr) (P₀ Q₀ : Pr) (rest : List (Addr × Obj)) (i : Nat) (news : List (Addr × Obj)) : Prop :=
  ∃ P Q : Pr, news = P.led (Q.led rest) ∧ P₀.Like P ∧ Q₀.Like Q ∧ P.Ok (8 + 8 * i) ∧ Q.Ok (8 + 8 * i) ∧ Apart (I :: (P.led (Q.led rest)).map (·.1))
/-- a turn's end -/
def TurnC (h₀ : Heap) (L : Addr) (m₀ : Str → Option Value) (I : Addr) (n i : Nat) (P₀ Q₀ : Pr) (rest : List (Addr × Obj)) (s s₄ : Shared) : Prop :=
  ∃ h' tk' m' P Q, s₄ = { s with heap := h', toks := tk' } ∧ OffL m₀ m' ∧ P₀.Like P ∧ Q₀.Like Q ∧ P.Ok (8 + 8 * (i + 1)) ∧ Q.Ok (8 + 8 * (i + 1)) ∧
    Fr h₀ L h' m' ∧ News h₀ L h' (two (I, ritObj (i + 1 : Nat) ((n : Int) - (i + 1 : Nat))) P Q rest) ∧ Apart (I :: (P.led (Q.led rest)).map (·.1))
theorem law_loop {m₀ : Str → Option Value} {P₀ Q₀ : Pr} {rest : List (Addr × Obj)} (F : Fr h₀ L s.heap m₀) (N : News h₀ L s.heap (P₀.led (Q₀.led rest))) (ap : Apart ((P₀.led (Q₀.led rest)).map (·.1))) (okP : P₀.Ok 8) (okQ : Q₀.Ok 8)
    (turn : ∀ i h tk vb vm vd vk P Q', i < n → P₀.Like P → Q₀.Like Q' → P.Ok (8 + 8 * i) → Q'.Ok (8 + 8 * i) → Fr h₀ L h (LoopM m₀ vb vm vd vk) →
      News h₀ L h (two (s.heap.objs.size, ritObj (i + 1 : Nat) ((n : Int) - (i + 1 : Nat))) P Q' rest) → Apart ((two (s.heap.objs.size, ritObj (i + 1 : Nat) ((n : Int) - (i + 1 : Nat))) P Q' rest).map (·.1)) →
      wpAny (model prog w) A (assign target env (.int i tk)) (fun _ s₃ => wpC (model prog w) A (execs body env) (fun f s₄ => match f with
        | .next | .cont => TurnC h₀ L m₀ s.heap.objs.size n i P₀ Q₀ rest s s₄
        | .brk => Q .next s₄
        | .ret v => Q (.ret v) s₄) s₃) noE { s with heap := h, toks := tk + 1 })
    (done : ∀ h tk vb vm vd vk P Q', P₀.Like P → Q₀.Like Q' → P.Ok (8 + 8 * n) → Q'.Ok (8 + 8 * n) → Fr h₀ L h (LoopM m₀ vb vm vd vk) → News h₀ L h (P.led (Q'.led rest)) → Q .next { s with heap := h, toks := tk }) :
    RunsC prog w A env target body n Q s.heap.objs.size { s with heap := s.heap.push (ritObj 0 n) } := by
  refine runsC_L (fun i m news => OffL m₀ m ∧ LedI s.heap.objs.size P₀ Q₀ rest i news) F N ⟨OffL.refl, P₀, Q₀, rfl, .refl, .refl, okP, okQ, Apart.cons (fun b hb => ?_) ap⟩ ?_ ?_ ?_
  · obtain ⟨p, hp, rfl⟩ := List.mem_map.mp hb
    exact Nat.ne_of_gt (Heap.lt_size (N p hp).1)
  · rintro i m news ⟨_, P, Q', rfl, _, _, _, _, ha⟩ p hp
    exact Ne.symm ((List.pairwise_cons.mp ha.nodup).1 p.1 (List.mem_map_of_mem hp))
  · rintro i m news h tk hi ⟨hm, P, Q', rfl, l1, l2, o1, o2, ha⟩ F' N'
    rw [hm.eq] at F'
    refine wpAny_mono (turn i h tk _ _ _ _ P Q' hi l1 l2 o1 o2 F' N' ha) (fun _ s₃ h₃ => wpC_mono h₃ fun f s₄ h₄ => ?_) fun _ _ e => e
    have fin : TurnC h₀ L m₀ s.heap.objs.size n i P₀ Q₀ rest s s₄ → _ := fun ⟨h', tk', m', P', Q'', e, hm', l1', l2', o1', o2', F'', N'', ha'⟩ =>
      (⟨h', tk', m', P'.led (Q''.led rest), e, ⟨hm', P', Q'', rfl, l1', l2', o1', o2', ha'⟩, F'', N''⟩ : ∃ h' tk' m' news', s₄ = { s with heap := h', toks := tk' } ∧ (OffL m₀ m' ∧ LedI s.heap.objs.size P₀ Q₀ rest (i + 1) news') ∧ Fr h₀ L h' m' ∧ News h₀ L h' ((s.heap.objs.size, ritObj (i + 1 : Nat) ((n : Int) - (i + 1 : Nat))) :: news'))
    cases f with
    | next => exact fin h₄
    | cont => exact fin h₄
    | brk => exact h₄
    | ret v => exact h₄
  · rintro h tk m news ⟨hm, P, Q', rfl, l1, l2, o1, o2, ha⟩ F' N'
    rw [hm.eq] at F'
    exact done h tk _ _ _ _ P Q' l1 l2 o1 o2 F' N'
end
section
variable {prog : Program} {w : World} {A : Around} {E : Value → Shared → Prop} {s : Shared} {h₀ : Heap} {L : Addr} {m : Str → Option Value} {news : List (Addr × Obj)} {value slice : PySem.Expr} {l : Addr} {x y : Value} {c : Nat} {k : Int} {u : Tok} {Q : Value → Shared → Prop}
theorem item_two0 (N : News h₀ L s.heap news) (hl : (l, listOf #[x, y] c) ∈ news) (hk : k = 0) (h : Q x s)
    (hs : subscripted slice false (.ref l) (.int k u) = operate [.ref l, .int k u] (getItem (.ref l) (.int k u)) := by with_unfolding_all rfl) : wpAny (model prog w) A (subscriptTail value slice (.ref l) (.int k u)) Q E s := by
  subst hk
  have hL : s.heap.IsList l #[x, y] := News.isList N hl
  exact tail_any hL.typeIs slot_list_getitem.lookup (wpAny_getItem_list hL (by decide) (by decide) (by rfl) h) hs
theorem item_two1 (N : News h₀ L s.heap news) (hl : (l, listOf #[x, y] c) ∈ news) (hk : k = 1) (h : Q y s)
    (hs : subscripted slice false (.ref l) (.int k u) = operate [.ref l, .int k u] (getItem (.ref l) (.int k u)) := by with_unfolding_all rfl) : wpAny (model prog w) A (subscriptTail value slice (.ref l) (.int k u)) Q E s := by
  subst hk
  have hL : s.heap.IsList l #[x, y] := News.isList N hl
  exact tail_any hL.typeIs slot_list_getitem.lookup (wpAny_getItem_list hL (by decide) (by decide) (by rfl) h) hs
/-- the octets of a model, made bytes, are the buffer's -/
theorem bytes_back {o : Addr} {vs : List Value} {bs : Array UInt8} {c : Nat} {Q : Value → Shared → Prop} (F : Fr h₀ L s.heap m) (N : News h₀ L s.heap news) (ho : (o, listOf (List.toArray vs) c) ∈ news) (hi : IntsAre vs (KBw.bInts bs)) (hh : A.handled = none) (hz : bs.size ≤ 100000)
    (h : ∀ h' t k, Fr h₀ L h' m → News h₀ L h' news → Q (.bytes bs t) { s with heap := h', toks := k }) : wpAny (model prog w) A (call (.type "bytes") [.ref o]) Q E s := by
  refine KBa.make_K F N hh (News.isList N ho) hi (fun n hn => hex_ints hn) (by rw [KBw.ints_length]; omega) fun h' t k F' N' _ => ?_
  rw [byteArr_of rfl]
  exact h h' t k F' N'
end
end Aq
-- part AqHz
open PySem PySem.W PyProof.Rows
set_option Elab.async false
set_option maxRecDepth 100000
namespace Aq
open PySem PySem.W PySem.Calls PyProof.Rows PySem.Spec LCg
abbrev hexX : PySem.Str := Str.ofString "0123456789abcdef"
theorem hex_two' : ∀ k : Fin 256, Txt.item hexX ((k.val : Int).fdiv 16) ++ Txt.item hexX ((k.val : Int).fmod 16) = hex2 (k.val : Int) := by decide +kernel
theorem hex_two {k : Int} (h0 : 0 ≤ k) (h1 : k < 256) : Txt.item hexX (k.fdiv 16) ++ Txt.item hexX (k.fmod 16) = hex2 k := by
  obtain ⟨n, rfl⟩ := Int.eq_ofNat_of_zero_le h0
  exact hex_two' ⟨n, by omega⟩
section
variable {prog : Program} {w : World} {A : Around} {E : Value → Shared → Prop} {s : Shared} {h₀ : Heap} {L : Addr} {m : Str → Option Value} {env : Env} {news : List (Addr × Obj)} {value slice : PySem.Expr} {k : Int} {t u : Tok} {Q : Value → Shared → Prop}
theorem hex_hi (h0 : 0 ≤ k) (h1 : k < 256) (h : ∀ t', Q (.str (Txt.item hexX (k.fdiv 16)) t') { s with toks := s.toks + 1 })
    (hs : subscripted slice false (.str hexX t) (.int (k.fdiv 16) u) = operate [.str hexX t, .int (k.fdiv 16) u] (getItem (.str hexX t) (.int (k.fdiv 16) u)) := by with_unfolding_all rfl)
    (ht : ∀ r, letTemporaryGo value (.str hexX t) r = pure () := by intro _; with_unfolding_all rfl) :
    wpAny (model prog w) A (subscriptTail value slice (.str hexX t) (.int (k.fdiv 16) u)) Q E s := by
  have e : k.fdiv 16 = k / 16 := Int.fdiv_eq_ediv_of_nonneg k (by decide)
  have hl : (hexX.length : Int) = 16 := by decide
  exact item_str (fitsSsize_of (N := 9223372036854775808) (by rw [e]; omega) (by rw [e]; omega) (Int.le_refl _)) (by rw [e, hl]; omega) (by rw [e, hl]; omega) (fun _ => h _) hs ht
theorem hex_lo (h : ∀ t', Q (.str (Txt.item hexX (k.fmod 16)) t') { s with toks := s.toks + 1 })
    (hs : subscripted slice false (.str hexX t) (.int (k.fmod 16) u) = operate [.str hexX t, .int (k.fmod 16) u] (getItem (.str hexX t) (.int (k.fmod 16) u)) := by with_unfolding_all rfl)
    (ht : ∀ r, letTemporaryGo value (.str hexX t) r = pure () := by intro _; with_unfolding_all rfl) :
    wpAny (model prog w) A (subscriptTail value slice (.str hexX t) (.int (k.fmod 16) u)) Q E s := by
  have h1 := Int.fmod_nonneg_of_pos k (b := 16) (by decide)
  have h2 := Int.fmod_lt_of_pos k (b := 16) (by decide)
  have hl : (hexX.length : Int) = 16 := by decide
  exact item_str (fitsSsize_of (N := 9223372036854775808) (by omega) (by omega) (Int.le_refl _)) (by rw [hl]; omega) (by rw [hl]; omega) (fun _ => h _) hs ht
theorem hex_add (h0 : 0 ≤ k) (h1 : k < 256) (h : ∀ t' k', Q (.str (hex2 k) t') { s with toks := k' }) :
    wpAny (model prog w) A (binaryOp .Add (.str (Txt.item hexX (k.fdiv 16)) t) (.str (Txt.item hexX (k.fmod 16)) u)) Q E s := by
  refine KXadd.add (K := 1) (L := 1) (Nat.le_of_eq (len_item _ _)) (Nat.le_of_eq (len_item _ _)) (by decide) fun t' k' _ => ?_
  rw [hex_two h0 h1]
  exact h t' k'
/-- a made text of each item of a list of octets -/
theorem srcL_texts {elt : Expr} {x : Str} {scope : Scope} {cl : List (Str × Addr)} {Fin : Shared → List Value → List (Addr × Obj) → Prop} {o : Addr} {vs : List Value} {ns : List Int} {c : Nat} (g : Int → PySem.Str)
    (hh : A.handled = none) (F : Fr h₀ L s.heap m) (N : News h₀ L s.heap news) (ho : (o, listOf (List.toArray vs) c) ∈ news) (hi : IntsAre vs ns) (hr : ∀ n ∈ ns, 0 ≤ n ∧ n < 256) (hz : ns.length ≤ 1000000)
    (turn : ∀ k t I oI C oC D m₂ ys h tk (E' : Value → Shared → Prop), 0 ≤ k → k < 256 → NsObj oC m₂ → m₂ x = some (.int k t) → Fr h₀ L h m → News h₀ L h ((I, oI) :: (C, oC) :: (D, lst ys) :: news) → Off3 I C D news → ((@Ne Nat I C) ∧ (@Ne Nat I D) ∧ (@Ne Nat C D)) →
      wpAny (model prog w) A (eval elt (compEnvC scope cl C env)) (TextEnd h₀ L m s (g k) ((I, oI) :: (C, oC) :: (D, lst ys) :: news)) E' { s with heap := h, toks := tk })
    (fin : ∀ h ys, CarriedAll ys (ns.map fun k => PyData.str (g k)) → Fin { s with heap := h } ys news) : CompSrc prog w A h₀ L m env elt x scope cl Fin (.ref o) s := by
  have hl := hi.length
  refine CompSrc.ledger hh F N ho (by rw [List.size_toArray, sizeLine_eq]; omega) fun hg => ?_
  refine kct_list g hi (fun k t I oI C oC D m₂ ys h tk E' hk hC hx F' N' off ne _ => ?_) (fun ys hc _ => fin hg ys hc)
  refine wpAny_mono (turn k t I oI C oC D m₂ ys h tk E' (hr k hk).1 (hr k hk).2 hC hx F' N' off ne) (fun v s' hv => ?_) fun _ _ e => e
  obtain ⟨h', tk', t', rfl, rfl, F2, N2⟩ := hv
  exact ⟨h', tk', news, rfl, F2, N2, off, .inr ⟨_, ho, rfl, _, rfl⟩, rfl, t', rfl⟩
end
theorem hex_at {w : World} {s : Shared} {base h₀ : Heap} {L : Addr} {mL mg mb : Str → Option Value} {envL : Env} {p : Program} {loose : List Str} {mean : ExcName → Option Value} {Q : Value → Shared → Prop}
    {b d y : Addr} {bs : Array UInt8} {pl : Int} {tq : Tok} {h1 h2 : Int} {k1 k2 : Tok} {all : List (Addr × Obj)}
    (B : Below callerA base [] h₀) (F : Fr h₀ L s.heap mL) (X₀ : (hd.heap_39 w.params).In h₀) (T : Top p loose mean mg mb h₀) (hf : envL.frame = some L) (hke : envL.scope.kind = .function)
    (N : News h₀ L s.heap all) (m1 : (b, instObj 134 d) ∈ all) (m2 : (d, dictOf [⟨h1, .str (Str.ofString "data") k1, .ref y⟩, ⟨h2, .str (Str.ofString "offset") k2, .int pl tq⟩] 2) ∈ all) (m3 : (y, baObj bs) ∈ all) (hz : bs.size ≤ 100000)
    (k : ∀ h' tk t, Fr h₀ L h' mL → News h₀ L h' all → Q (.bytes (enc (hexStr (KBw.bInts bs))) t) { s with heap := h', toks := tk }) :
    wpAny (model PySem.Challenge.rw_aq6016_01.row.toRowW.prog w) (callerA.deeper envL) (call (.ref 96) [.ref b] []) Q noE s :=
  hex_ct B F X₀ T hf hke (News.cons1 (N _ m1) (News.cons1 (N _ m2) (News.cons1 (N _ m3) N))) hz fun h' tk t F' N' => k h' tk t F' (News.sub N' fun p hp => .tail _ (.tail _ (.tail _ hp)))
end Aq
-- part AqL2
open PySem PySem.W PyProof.Rows
set_option Elab.async false
set_option maxRecDepth 100000
namespace Aq
open PySem PySem.W PySem.Calls PyProof.Rows PySem.Spec
section
variable {prog : Program} {w : World} {A : Around} {s : Shared} {env : Env} {target : Expr} {body : List Stmt} {Q : Flow → Shared → Prop} {n : Nat} {h₀ : Heap} {L : Addr} {news₀ : List (Addr × Obj)}
def LoopW (m₀ : Str → Option Value) (vh vw : Option Value) : Str → Option Value := fun y => if y = Str.ofString "hexes" then vh else if y = Str.ofString "which" then vw else m₀ y
def OffW (m₀ m : Str → Option Value) : Prop := ∀ y, y ≠ Str.ofString "hexes" → y ≠ Str.ofString "which" → m y = m₀ y
theorem OffW.eq {m₀ m : Str → Option Value} (h : OffW m₀ m) : m = LoopW m₀ (m (Str.ofString "hexes")) (m (Str.ofString "which")) := by
  funext y
  unfold LoopW
  by_cases h1 : y = Str.ofString "hexes"
  · rw [if_pos h1, h1]
  · rw [if_neg h1]
    by_cases h2 : y = Str.ofString "which"
    · rw [if_pos h2, h2]
    · rw [if_neg h2]
      exact h y h1 h2
def TurnW (h₀ : Heap) (L : Addr) (m₀ : Str → Option Value) (I : Addr) (n i : Nat) (news₀ : List (Addr × Obj)) (s s₄ : Shared) : Prop :=
  ∃ h' tk' m', s₄ = { s with heap := h', toks := tk' } ∧ OffW m₀ m' ∧ Fr h₀ L h' m' ∧ News h₀ L h' ((I, ritObj (i + 1 : Nat) ((n : Int) - (i + 1 : Nat))) :: news₀)
theorem law_loop2 {m₀ : Str → Option Value} (F : Fr h₀ L s.heap m₀) (N : News h₀ L s.heap news₀)
    (turn : ∀ i h tk vh vw, i < n → Fr h₀ L h (LoopW m₀ vh vw) → News h₀ L h ((s.heap.objs.size, ritObj (i + 1 : Nat) ((n : Int) - (i + 1 : Nat))) :: news₀) →
      wpAny (model prog w) A (assign target env (.int i tk)) (fun _ s₃ => wpC (model prog w) A (execs body env) (fun f s₄ => match f with
        | .next | .cont => TurnW h₀ L m₀ s.heap.objs.size n i news₀ s s₄
        | .brk => Q .next s₄
        | .ret v => Q (.ret v) s₄) s₃) noE { s with heap := h, toks := tk + 1 })
    (done : ∀ h tk vh vw, Fr h₀ L h (LoopW m₀ vh vw) → News h₀ L h news₀ → Q .next { s with heap := h, toks := tk }) :
    RunsC prog w A env target body n Q s.heap.objs.size { s with heap := s.heap.push (ritObj 0 n) } := by
  have off : ∀ p ∈ news₀, p.1 ≠ s.heap.objs.size := fun p hp => Nat.ne_of_lt (Heap.lt_size (N p hp).1)
  refine runsC_L (fun i m news => OffW m₀ m ∧ news = news₀) F N ⟨fun _ _ _ => rfl, rfl⟩ ?_ ?_ ?_
  · rintro i m news ⟨_, rfl⟩ p hp
    exact off p hp
  · rintro i m news h tk hi ⟨hm, rfl⟩ F' N'
    rw [hm.eq] at F'
    refine wpAny_mono (turn i h tk _ _ hi F' N') (fun _ s₃ h₃ => wpC_mono h₃ fun f s₄ h₄ => ?_) fun _ _ e => e
    have fin : TurnW h₀ L m₀ s.heap.objs.size n i news s s₄ → _ := fun ⟨h', tk', m', e, hm', F'', N''⟩ =>
      (⟨h', tk', m', news, e, ⟨hm', rfl⟩, F'', N''⟩ : ∃ h' tk' m' news', s₄ = { s with heap := h', toks := tk' } ∧ (OffW m₀ m' ∧ news' = news) ∧ Fr h₀ L h' m' ∧ News h₀ L h' ((s.heap.objs.size, ritObj (i + 1 : Nat) ((n : Int) - (i + 1 : Nat))) :: news'))
    cases f with
    | next => exact fin h₄
    | cont => exact fin h₄
    | brk => exact h₄
    | ret v => exact h₄
  · rintro h tk m news ⟨hm, rfl⟩ F' N'
    rw [hm.eq] at F'
    exact done h tk _ _ F' N'
end
end Aq
-- part AqLaw
open PySem PySem.W PyProof.Rows
set_option Elab.async false
namespace Aq
open PySem PySem.W PySem.Calls PyProof.Rows PySem.Spec
local macro_rules | `(tactic| boot_fact) => `(tactic| with_reducible exact boot_bytearray)
local macro_rules | `(tactic| walk_at "call ref") => `(tactic| (k_here; k_dflt (refine' num_ctE ?B ?F ?X ?T ?A ?f ?k ?r ?N ?L ?i ?l ?_; (case B => k_asm); (case F => k_asm); (case X => k_asm); (case T => k_asm); (case A => exact rfl); (case f => exact rfl); (case k => exact rfl); (case r => k_room); (case N => k_asm); (case L => is_list); (case i => l_ints); (case l => omega); k_whole; intro h' tk t F' N'; (try k_sweep))))
local macro_rules | `(tactic| walk_at "call type:list") => `(tactic| (k_here; (with_reducible show wpAny _ _ (call (Value.type "list") [Value.ref _]) _ _ _); k_dflt (refine' list_baL ?F ?N ?y ?b ?h ?z ?_; (case F => k_asm); (case N => k_asm); (case y => k_mem); (case b => assumption); (case h => exact rfl); (case z => assumption)); intro D' ws' c' h' k' F' N' l1 hI'; (try k_lt l1); (try k_sweep)))
local macro_rules | `(tactic| walk_at "compareOp NotEq ref ref") => `(tactic| (k_here; (with_reducible show wpAny _ _ (compareOp CmpOp.NotEq (Value.ref _) (Value.ref _)) _ _ _); (with_unfolding_all refine' ne_sameK ?k1 ?k2 ?k3 ?k4 ?k5 ?_; (case k1 => is_list); (case k2 => assumption); (case k3 => is_list); (case k4 => assumption); (case k5 => units_room); k_whole)))
local macro_rules | `(tactic| walk_at "setItem ref int int") => `(tactic| (k_here; k_dflt (refine' set_baL ?F ?N ?U ?h ?k ?z ?n ?m ?_; (case F => k_asm); (case N => k_asm); (case U => exact updAt (i := 12) (by assumption) rfl); (case h => decide); (case k => (rw [byteArr_size]; omega)); (case z => assumption); (case n => exact Int.fmod_nonneg_of_pos _ (by decide)); (case m => exact Int.fmod_lt_of_pos _ (by decide))); intro h' F' N'; (try dsimp only [List.set] at N')))
local macro_rules | `(tactic| walk_at "subscriptTail Name BinOp ref int") => `(tactic| (k_here; k_dflt (first | (refine item_two0 (by k_asm) (by k_mem) (by assumption) ?_) | (refine item_two1 (by k_asm) (by k_mem) (by assumption) ?_))))
local macro_rules | `(tactic| walk_at "call builtin:len") => `(tactic| (k_here; (with_reducible show wpAny _ _ (call (Value.builtin "len") [Value.ref _]) _ _ _); k_dflt (refine' len_ba (ob_of ?lN ?lm) ?lz ?_; (case lN => k_asm); (case lm => k_mem); (case lz => assumption))))
local macro_rules | `(tactic| walk_at "call type:bytes") => `(tactic| (k_here; (with_reducible show wpAny _ _ (call (Value.type "bytes") [Value.ref _]) _ _ _); k_dflt (first
  | (refine' call_bytes_ba (ob_of ?lN ?lm) ?lz ?_; (case lN => k_asm); (case lm => k_mem); (case lz => assumption); intro t7 k7)
  | (refine' bytes_back ?F ?N ?o ?i ?h ?z ?_; (case F => k_asm); (case N => k_asm); (case o => k_mem); (case i => assumption); (case h => exact rfl); (case z => assumption); intro h' t7 k7 F' N'))))
local macro_rules | `(tactic| walk_at "call ref") => `(tactic| (k_here; k_dflt (refine' hex_at ?B ?F ?X ?T ?f ?k ?N ?m1 ?m2 ?m3 ?z ?_; (case B => k_asm); (case F => k_asm); (case X => k_asm); (case T => k_asm); (case f => exact rfl); (case k => exact rfl); (case N => k_asm); (case m1 => k_mem); (case m2 => k_mem); (case m3 => k_mem); (case z => assumption); k_whole; intro h' tk t F' N'; (try k_sweep))))
local macro_rules | `(tactic| walk_at "eval ListComp") => `(tactic| (k_here; (with_reducible rename Pr.Ok _ _ => okX); k_dflt (refine LCg.ListComp_U (F₀ := by k_asm) (by with_unfolding_all rfl) (by decide) (by rfl) (by decide) (by with_unfolding_all rfl) ?_)))
local macro_rules | `(tactic| walk_at "CompSrc") => `(tactic| (k_here; (with_reducible rename Pr.Ok _ _ => okX); k_dflt (refine' srcL_texts hex2 ?hh ?F ?N ?o ?i ?r ?z (fun k' t' I' oI' C' oC' D' m' ys' h' tk' E' hlo' hhi' hC' hx' F' N' off' ne' => ?_) (fun h8 ys8 hc8 D8 h7 tk7 F' N' o7 => ?_); (case hh => exact rfl); (case F => k_asm); (case N => k_asm); (case o => k_mem); (case i => assumption); (case r => exact fun _ h => hex_ints h); (case z => (rw [KBw.ints_length]; omega)))))
local macro_rules | `(tactic| walk_at "subscriptTail Name BinOp str int") => `(tactic| (k_here; (with_reducible show wpAny _ _ (subscriptTail _ _ (Value.str _ _) (Value.int (Int.fdiv _ _) _)) _ _ _); k_dflt (refine hex_hi (by assumption) (by assumption) ?_; intro _)))
local macro_rules | `(tactic| walk_at "subscriptTail Name BinOp str int") => `(tactic| (k_here; (with_reducible show wpAny _ _ (subscriptTail _ _ (Value.str _ _) (Value.int (Int.fmod _ _) _)) _ _ _); k_dflt (refine hex_lo ?_; intro _)))
local macro_rules | `(tactic| walk_at "binaryOp Add str str") => `(tactic| (k_here; k_dflt (refine hex_add (by assumption) (by assumption) ?_; intro _ _)))
local macro_rules | `(tactic| walk_at "TextEnd") => `(tactic| (k_here; k_dflt (exact TextEnd.of (by k_asm) (by k_asm) rfl)))
local macro_rules | `(tactic| walk_at "call builtin:str.join") => `(tactic| (k_here; k_dflt (refine' join_hex ?N ?D ?c ?r ?n ?_; (case N => k_asm); (case D => k_mem); (case c => assumption); (case r => exact fun _ h => hex_ints h); (case n => (rw [KBw.ints_length]; omega))); intro _ _))
local macro_rules | `(tactic| walk_at "last call builtin:str.join") => `(tactic| (k_here; k_dflt (refine' join_hex ?N ?D ?c ?r ?n ?_; (case N => k_asm); (case D => k_mem); (case c => assumption); (case r => exact fun _ h => hex_ints h); (case n => (rw [KBw.ints_length]; omega))); intro _ _))
local macro_rules | `(tactic| walk_at "getMethod str") => `(tactic| (k_here; with_reducible refine getEncode ?_))
local macro_rules | `(tactic| walk_at "call builtin:str.encode") => `(tactic| (k_here; k_dflt (refine' encode_hex ?r ?n ?_; (case r => exact fun _ h => hex_ints h); (case n => (rw [KBw.ints_length]; omega))); intro _ _))
local macro_rules | `(tactic| walk_at "subscriptTail Name Name ref int") => `(tactic| (k_here; k_dflt (first | (refine item_two0 (by k_asm) (by k_mem) (by rfl) ?_) | (refine item_two1 (by k_asm) (by k_mem) (by rfl) ?_))))
set_option maxRecDepth 100000 in
set_option maxHeartbeats 8000000 in
theorem law_holds : PySem.Challenge.rw_aq6016_01.Holds := Aq.hd (by
  k_fill
  intro w s₀ s₁ mg mb G Y fa o pm cd doc dV kV ho hd hcd hD hmg hg args vals as hpre hlay hrd hwl hlo
  have KX := km_in_of Y
  km_tabs Y
  have X := (Ground.X G).1
  have V := (Ground.X G).2
  refine Ground.open G ?_
  intro T B D TE TW
  try (refine guard_noD D (by decide +kernel) ?_; clear D)
  km_lay T hmg ho hd cd
  clear hmg
  wrow_args hpre hlay hrd hwl hlo
  refine wpC_call ?_
  w_top on
  refine codeC_post hT9 (fun _ _ => rfl) ?_
  have he := Dflts.none hD rfl; subst he
  have he := Dflts.noKw hD; subst he
  refine callC_cells (by decide) ho (fd_plain hd) (Top.nolimit T) hcd rfl (kinds_of (by kinds_ok)) (by decide) fun h₁ tk₁ cells F N0 X0 => ?_
  cells_open X0
  clear hd
  kn_ghosts F T
  k_drop
  refine wpC_stmt ?_
  (try k_fold); k_steps
  refine wpC_stmt ?_
  (try k_fold); k_steps
  rename_i i84 i83 i82 i81 i80 i79 i78 i77 i76 i75 i74 i73 i72 i71 i70 i69 i68 i67 i66 i65 i64 i63 i62 i61 i60 i59 i58 i57 i56 i55 i54 i53 i52 i51 i50 i49 i48 i47 i46 i45 i44 i43 i42 i41 i40 i39 i38 i37 i36 i35 i34 i33 i32 i31 i30 i29 i28 i27 i26 i25 i24 i23 i22 i21 i20 i19 i18 i17 i16 i15 i14 i13 i12 i11 i10 i9 i8 i7 i6 i5 i4 i3 i2 i1
  have hSr : ∀ n ∈ (List.map (fun k' => (num i84 (3 + k')).fmod 256) (rangeKs 0 ((num i84 0).fmod 9 - 0).toNat)), 0 ≤ n ∧ n < 256 := fun n hn => by
    obtain ⟨k, _, rfl⟩ := List.mem_map.mp hn
    exact ⟨Int.fmod_nonneg_of_pos _ (by decide), Int.fmod_lt_of_pos _ (by decide)⟩
  have hSl : (List.map (fun k' => (num i84 (3 + k')).fmod 256) (rangeKs 0 ((num i84 0).fmod 9 - 0).toNat)).length ≤ 8 := by rw [List.length_map, rangeKs_length]; omega
  generalize (List.map (fun k' => (num i84 (3 + k')).fmod 256) (rangeKs 0 ((num i84 0).fmod 9 - 0).toNat)) = S at *
  have tw0 : Apart [i6, i54, i53, s₁.heap.objs.size + 1 + 1, s₁.heap.objs.size + 1, 191] := by
    obtain ⟨j1, j2, j3, j4, j5⟩ := i1
    obtain ⟨j6, j7, j8⟩ := i43
    exact tw_start j1 j2 j3 j4 j5 j6 j7 j8 i57 i42
  clear i16 i15 i14 i13 i12 i11 i33 i31 i27 i26 i1 i43 i42 i57
  refine wpC_execs_cons (wpC_Assign_Name (wpC_Call ?_))
  k_steps
  refine wpC_callS ?_
  k_steps
  rename Fr _ _ _ _ => F9
  rename News _ _ _ _ => N9
  refine ⟨⟨_, Looks.of_pure rfl⟩, call_bytearray_list rfl (News.isList N9 (.head _)) (by assumption) hSr (by rw [sizeLine_eq]; omega) fun h8 e8 k8 => ?_⟩
  obtain ⟨F8, N8, l8⟩ := grow2 F9 N9 k8 e8
  clear F9 N9 k8 e8
  generalize i5.objs.size = H at *
  have tw1 : Tower _ H := Tower.raise tw0 (fun x hx => by
    simp only [List.mem_cons, List.not_mem_nil, or_false] at hx
    rcases hx with rfl | rfl | rfl | rfl | rfl | rfl
    · exact l8 (_, _) (by k_mem)
    · exact l8 (_, _) (by k_mem)
    · exact l8 (_, _) (by k_mem)
    · exact l8 (_, _) (by k_mem)
    · exact l8 (_, _) (by k_mem)
    · exact l8 (_, _) (by k_mem))
  clear l8 tw0
  k_steps
  dsimp only
  refine wpC_execs_cons (wpC_Assign_swapped (wpC_Tuple (wpC_more (wpC_of_any ?_))))
  k_steps
  refine wpC_more (wpC_List (wpC_more (wpC_Call ?_)))
  k_steps
  refine wpC_callS ?_
  k_steps
  rename Fr _ _ _ _ => F7
  rename News _ _ _ _ => N7
  refine ⟨(keeps_K (K := hd.heap_39 w.params) (f := .ref 134) (by k_is) _ (i61.keeps F7.keep)).imp fun _ x => x.2, wpC_call (buf_ct (H := H) i59 F7 i61 i60 rfl rfl N7 (by k_mem) (by rw [byteArr_size]; omega) ?_)⟩
  intro h6 tk6 x0 dx0 y0 g1 g2 g3 g4 g5 F6 N6 l6 l7 l5
  dsimp only [retOf]
  refine wpC_more (wpC_Call ?_)
  k_steps
  refine wpC_call0 ?_
  refine ⟨(keeps_K (K := hd.heap_39 w.params) (f := .ref 134) (by k_is) _ (i61.keeps F6.keep)).imp fun _ x => x.2, wpC_call (buf_ct0 i59 F6 i61 i60 rfl rfl N6 ?_)⟩
  intro h3 tk3 x1 dx1 y1 g6 g7 g8 g9 g0 F3 N3 l3 l4 l2
  dsimp only [retOf]
  refine wpC_none ?_
  k_steps
  refine wpC_none ?_
  k_steps
  rename_i j28 o0 c0 j25 u0 m0 j22 u1 o1 j19 u2 m1 j16 u3 Ms j13 u4 Bs j10 u5 Tt j7 u6 j5 j4 j3 F9 N9
  have tw := ((((((((((((tw1.push u0.1).push u1.1).push u2.1).push u3.1).push u4.1).push (l6 (Ms, _) (.head _))).push l7).push l5).push (l3 (y0, _) (.tail _ (.tail _ (.head _))))).push l4).push l2).push u5.2.2.1).apart
  have ap : Apart [m0, o0, x0, dx0, y0, m1, o1, x1, dx1, y1, Ms, Bs, H, i6, i54, i53, s₁.heap.objs.size + 1 + 1, s₁.heap.objs.size + 1, 191] := Apart.pick tw [10, 11, 5, 6, 4, 8, 9, 2, 3, 1, 7, 0, 12, 13, 14, 15, 16, 17, 18]
  clear tw tw1 u0 u1 u2 u3 u4 l6 l7 l5 l3 l4 l2 u5 u6
  have N8 : News (ghostOf s₁.heap [(193, 191)]) s₁.heap.objs.size j3 (pairLed m0 o0 x0 dx0 y0 ys (byteArr S) 0 _ g5 0 c0 g1 g2 g3 g4 (pairLed m1 o1 x1 dx1 y1 [] #[] 0 _ g0 0 0 g6 g7 g8 g9 [(Ms, _), (Bs, _), (H, _), (i6, _), (i54, _), (i53, _), (s₁.heap.objs.size + 1 + 1, _), (s₁.heap.objs.size + 1, _), (191, _)])) :=
    News.cons1 (N9 (m0, _) (by k_mem)) (News.cons1 (N9 (o0, _) (by k_mem)) (News.cons1 (N9 (x0, _) (by k_mem)) (News.cons1 (N9 (dx0, _) (by k_mem)) (News.cons1 (N9 (y0, _) (by k_mem))
    (News.cons1 (N9 (m1, _) (by k_mem)) (News.cons1 (N9 (o1, _) (by k_mem)) (News.cons1 (N9 (x1, _) (by k_mem)) (News.cons1 (N9 (dx1, _) (by k_mem)) (News.cons1 (N9 (y1, _) (by k_mem))
    (News.cons1 (N9 (Ms, _) (by k_mem)) (News.cons1 (N9 (Bs, _) (by k_mem)) (News.cons1 (N9 (H, _) (by k_mem)) (News.cons1 (N9 (i6, _) (by k_mem)) (News.cons1 (N9 (i54, _) (by k_mem)) (News.cons1 (N9 (i53, _) (by k_mem)) (News.cons1 (N9 (s₁.heap.objs.size + 1 + 1, _) (by k_mem)) (News.cons1 (N9 (s₁.heap.objs.size + 1, _) (by k_mem)) (News.cons1 (N9 (191, _) (by k_mem)) (fun _ h => nomatch h)))))))))))))))))))
  dsimp only [pairLed] at N8
  clear N9
  have hbS : KBw.bInts (byteArr S) = S := ints_byteArr hSr
  have hbz : (byteArr S).size ≤ sizeLine := by rw [byteArr_size, sizeLine_eq]; omega
  refine wpC_stmt ?_
  k_steps
  rename Fr _ _ _ _ => F7
  rename News _ _ _ _ => N7
  have N6 := News.tail1 N7
  clear N7
  dsimp only
  refine wpC_stmt_set (y := H) 12 F7 N6 ?_ ?_
  · k_steps
    · rename Fr _ _ _ _ => F5
      rename News _ _ _ _ => N5
      exact ⟨rfl, _, _, _, rfl, F5, N5⟩
    · rename Fr _ _ _ _ => F5
      exact ⟨rfl, _, _, _, rfl, F5, N6⟩
  clear F7 N6 hbz hbS
  intro hA tkA oH FA NA
  dsimp only [List.set] at NA
  have hk0 : 0 ≤ (num i84 1).fmod 19 := Int.fmod_nonneg_of_pos _ (by decide)
  have hk1 : (num i84 1).fmod 19 < 19 := Int.fmod_lt_of_pos _ (by decide)
  refine wpC_execs_cons (For_range_Ci (n := (6 + (num i84 1).fmod 19).toNat) (k := 6 + (num i84 1).fmod 19) (by omega) rfl ?_ (by omega))
  k_steps
  rename_i q20 q19 q18 q17 q16 q15 q14 q13 q12 q11 q10 q9 q8 q7 q6 q5 q4 q3 q2 q1
  clear q1 q4
  have okP : Pr.Ok ⟨m0, o0, x0, dx0, y0, ys, byteArr S, 0, i4 + 1, g5, 0, c0, g1, g2, g3, g4⟩ 8 := ⟨by rw [ints_byteArr hSr]; exact i8, Int.le_refl _, Int.natCast_nonneg _, by show (byteArr S).size ≤ 8; rw [byteArr_size]; exact hSl⟩
  have okQ : Pr.Ok ⟨m1, o1, x1, dx1, y1, [], #[], 0, i4 + 1 + 1, g0, 0, 0, g6, g7, g8, g9⟩ 8 := ⟨.nil, Int.le_refl _, Int.le_refl _, Nat.zero_le _⟩
  refine law_loop (s := ⟨q9, s₁.gens, s₁.drawn, _, s₁.os⟩) (P₀ := ⟨m0, o0, x0, dx0, y0, ys, byteArr S, 0, i4 + 1, g5, 0, c0, g1, g2, g3, g4⟩) (Q₀ := ⟨m1, o1, x1, dx1, y1, [], #[], 0, i4 + 1 + 1, g0, 0, 0, g6, g7, g8, g9⟩) q3 q2 ap okP okQ ?_ ?_
  · rintro i hB tkB vb vm vd vk ⟨m0', p01, x0', dx0', y0', p02, p03, p04, p05, p06, p07, p08, p09, p10, p11, p12⟩ ⟨m1', r01, x1', dx1', y1', r02, r03, r04, r05, r06, r07, r08, r09, r10, r11, r12⟩ hi ⟨e1, e2, e3, e4⟩ ⟨e5, e6, e7, e8⟩ ok1 ok2 Fa Na apa
    dsimp only at e1 e2 e3 e4 e5 e6 e7 e8
    subst e1 e2 e3 e4 e5 e6 e7 e8
    have hi2 : i < 25 := by omega
    clear q2 q3 FA NA okP okQ ap
    generalize q9.objs.size = I at *
    dsimp only [two, Pr.led, pairLed] at Na
    unfold LoopM at Fa
    dsimp only at Fa
    k_steps
    refine wpC_stmt ?_
    k_steps
    generalize num i84 (2 + (i : Int)) + (i : Int).fdiv 3 = dr at *
    have hcase : (dr.fdiv 5).fmod 2 = 0 ∨ (dr.fdiv 5).fmod 2 = 1 := by
      have h1 := Int.fmod_nonneg_of_pos (dr.fdiv 5) (b := 2) (by decide)
      have h2 := Int.fmod_lt_of_pos (dr.fdiv 5) (b := 2) (by decide)
      omega
    rcases hcase with hc | hc
    · refine wpC_stmt ?_
      k_steps
      refine wpC_execs_cons (wpC_If (wpC_isTrue_not (wpC_isTrue_plain (wpC_Call ?_))))
      k_steps
      refine wpC_callS ?_
      k_steps
      rename Fr _ _ _ _ => F6
      rename News _ _ _ _ => N6
      have N5 : News (ghostOf s₁.heap [(193, 191)]) s₁.heap.objs.size _ (two (I, ritObj _ _) ⟨m0', p01, x0', dx0', y0', p02, p03, p04, p05, p06, p07, p08, p09, p10, p11, p12⟩ ⟨m1', r01, x1', dx1', y1', r02, r03, r04, r05, r06, r07, r08, r09, r10, r11, r12⟩ [(Ms, _), (Bs, _), (H, _), (i6, _), (i54, _), (i53, _), (s₁.heap.objs.size + 1 + 1, _), (s₁.heap.objs.size + 1, _), (191, _)]) :=
        News.sub N6 fun p hp => by repeat (first | exact hp | refine List.mem_cons_of_mem _ ?_)
      refine ⟨(keeps_K (K := hd.heap_39 w.params) (f := .ref 189) (by k_is) _ (i61.keeps F6.keep)).imp fun _ x => x.2, wpC_call (deed_at i59 F6 i61 i60 i61 i60 rfl rfl N5 apa ok1 (by omega) ?_)⟩
      clear N6 N5 F6
      repeat (rename News _ _ _ _ => Nx; clear Nx)
      repeat (rename Fr _ _ _ _ => Nx; clear Nx)
      rintro h5 tk5 ⟨m0'', s01, x0'', dx0'', y0'', s02, s03, s04, s05, s06, s07, s08, s09, s10, s11, s12⟩ ⟨e1, e2, e3, e4⟩ F5 N5 ap5 ok5
      dsimp only at e1 e2 e3 e4
      subst e1 e2 e3 e4
      dsimp only [two, Pr.led, pairLed] at N5
      have hI5 := ok5.ii
      have hp5 := ok5.lo
      have hq5 := ok5.hi
      have hz5 := ok5.size
      dsimp only at hI5 hp5 hq5 hz5
      have hz6 : s03.size ≤ 100000 := by omega
      have hz7 : s03.size ≤ sizeLine := by rw [sizeLine_eq]; omega
      have hl5 : (KBw.bInts s03).length = s03.size := KBw.ints_length _
      dsimp only [retOf]
      k_steps
      refine wpC_execs_nil ?_
      dsimp only
      refine wpC_stmt ?_
      k_steps
      refine wpC_execs_nil ?_
      rename Fr _ _ _ _ => F4
      rename News _ _ _ _ => N4
      refine ⟨_, _, _, ⟨m0'', s01, x0'', dx0'', y0'', s02, s03, s04, s05, s06, s07, s08, s09, s10, s11, s12⟩, ⟨m1', r01, x1', dx1', y1', r02, r03, r04, r05, r06, r07, r08, r09, r10, r11, r12⟩, rfl, ?_, ⟨rfl, rfl, rfl, rfl⟩, ⟨rfl, rfl, rfl, rfl⟩, ⟨hI5, hp5, hq5, by show s03.size ≤ 8 + 8 * (i + 1); omega⟩, ⟨ok2.ii, ok2.lo, ok2.hi, Nat.le_trans ok2.size (by omega)⟩, F4, N4, ap5⟩
      intro z z1 z2 z3 z4
      simp only [if_neg z1, if_neg z2, if_neg z3, if_neg z4]
    · refine wpC_stmt ?_
      k_steps
      refine wpC_execs_cons (wpC_If (wpC_isTrue_not (wpC_isTrue_plain (wpC_Call ?_))))
      k_steps
      refine wpC_callS ?_
      k_steps
      rename Fr _ _ _ _ => F6
      rename News _ _ _ _ => N6
      have N5 : News (ghostOf s₁.heap [(193, 191)]) s₁.heap.objs.size _ (two (I, ritObj _ _) ⟨m0', p01, x0', dx0', y0', p02, p03, p04, p05, p06, p07, p08, p09, p10, p11, p12⟩ ⟨m1', r01, x1', dx1', y1', r02, r03, r04, r05, r06, r07, r08, r09, r10, r11, r12⟩ [(Ms, _), (Bs, _), (H, _), (i6, _), (i54, _), (i53, _), (s₁.heap.objs.size + 1 + 1, _), (s₁.heap.objs.size + 1, _), (191, _)]) :=
        News.sub N6 fun p hp => by repeat (first | exact hp | refine List.mem_cons_of_mem _ ?_)
      have N5 := news_perm N5 (two_swap _ ⟨m0', p01, x0', dx0', y0', p02, p03, p04, p05, p06, p07, p08, p09, p10, p11, p12⟩ ⟨m1', r01, x1', dx1', y1', r02, r03, r04, r05, r06, r07, r08, r09, r10, r11, r12⟩ _)
      refine ⟨(keeps_K (K := hd.heap_39 w.params) (f := .ref 189) (by k_is) _ (i61.keeps F6.keep)).imp fun _ x => x.2, wpC_call (deed_at i59 F6 i61 i60 i61 i60 rfl rfl N5 (apa.perm ((two_swap _ _ _ _).map fun x => x.1)) ok2 (by omega) ?_)⟩
      clear N6 N5 F6
      repeat (rename News _ _ _ _ => Nx; clear Nx)
      repeat (rename Fr _ _ _ _ => Nx; clear Nx)
      rintro h5 tk5 ⟨m1'', s01, x1'', dx1'', y1'', s02, s03, s04, s05, s06, s07, s08, s09, s10, s11, s12⟩ ⟨e1, e2, e3, e4⟩ F5 N5 ap5 ok5
      dsimp only at e1 e2 e3 e4
      subst e1 e2 e3 e4
      dsimp only [two, Pr.led, pairLed] at N5
      have hI5 := ok5.ii
      have hp5 := ok5.lo
      have hq5 := ok5.hi
      have hz5 := ok5.size
      dsimp only at hI5 hp5 hq5 hz5
      have hz6 : s03.size ≤ 100000 := by omega
      have hz7 : s03.size ≤ sizeLine := by rw [sizeLine_eq]; omega
      have hl5 : (KBw.bInts s03).length = s03.size := KBw.ints_length _
      dsimp only [retOf]
      k_steps
      refine wpC_execs_nil ?_
      dsimp only
      refine wpC_stmt ?_
      k_steps
      refine wpC_execs_nil ?_
      rename Fr _ _ _ _ => F4
      rename News _ _ _ _ => N4
      refine ⟨_, _, _, ⟨m0', p01, x0', dx0', y0', p02, p03, p04, p05, p06, p07, p08, p09, p10, p11, p12⟩, ⟨m1'', s01, x1'', dx1'', y1'', s02, s03, s04, s05, s06, s07, s08, s09, s10, s11, s12⟩, rfl, ?_, ⟨rfl, rfl, rfl, rfl⟩, ⟨rfl, rfl, rfl, rfl⟩, ⟨ok1.ii, ok1.lo, ok1.hi, Nat.le_trans ok1.size (by omega)⟩, ⟨hI5, hp5, hq5, by show s03.size ≤ 8 + 8 * (i + 1); omega⟩, F4, news_perm N4 (two_swap _ ⟨m1'', s01, x1'', dx1'', y1'', s02, s03, s04, s05, s06, s07, s08, s09, s10, s11, s12⟩ ⟨m0', p01, x0', dx0', y0', p02, p03, p04, p05, p06, p07, p08, p09, p10, p11, p12⟩ _), ap5.perm ((two_swap _ _ _ _).map fun x => x.1)⟩
      intro z z1 z2 z3 z4
      simp only [if_neg z1, if_neg z2, if_neg z3, if_neg z4]
  · rintro hB tkB vb vm vd vk ⟨m0', p01, x0', dx0', y0', p02, p03, p04, p05, p06, p07, p08, p09, p10, p11, p12⟩ ⟨m1', r01, x1', dx1', y1', r02, r03, r04, r05, r06, r07, r08, r09, r10, r11, r12⟩ ⟨e1, e2, e3, e4⟩ ⟨e5, e6, e7, e8⟩ ok1 ok2 Fa Na
    dsimp only at e1 e2 e3 e4 e5 e6 e7 e8
    subst e1 e2 e3 e4 e5 e6 e7 e8
    clear q2 q3 q14 q15 q16 q17 FA NA okP okQ ap
    have hI1 := ok1.ii
    have hI2 := ok2.ii
    have hz1 := ok1.size
    have hz2 := ok2.size
    dsimp only at hI1 hI2 hz1 hz2
    have hz1 : p03.size ≤ 100000 := by omega
    have hz2 : r03.size ≤ 100000 := by omega
    dsimp only [Pr.led, pairLed] at Na
    unfold LoopM at Fa
    dsimp only at Fa ⊢
    refine wpC_execs_cons (For_range_Ci (n := 2) (k := 2) rfl rfl ?_ (by decide))
    k_steps
    rename_i z9 z8 z7 z6 z5 z4 z3 z2 z1
    refine law_loop2 (s := ⟨z9, s₁.gens, s₁.drawn, _, s₁.os⟩) z3 z2 ?_ ?_
    · rintro i h tk vh vw hi Fw Nw
      clear z1 z2 z3 z4
      generalize z9.objs.size = J at *
      unfold LoopW at Fw
      dsimp only at Fw
      have hcase : i = 0 ∨ i = 1 := by omega
      rcases hcase with rfl | rfl
      · k_steps
        refine wpC_stmt ?_
        k_steps
        refine wpC_stmt ?_
        k_steps
        refine wpC_execs_nil ?_
        rename Fr _ _ _ _ => F4
        rename News _ _ _ _ => N4
        exact ⟨_, _, _, rfl, fun z c1 c2 => by simp only [if_neg c1, if_neg c2], F4, News.tail1 N4⟩
      · k_steps
        refine wpC_stmt ?_
        k_steps
        refine wpC_stmt ?_
        k_steps
        refine wpC_execs_nil ?_
        rename Fr _ _ _ _ => F4
        rename News _ _ _ _ => N4
        exact ⟨_, _, _, rfl, fun z c1 c2 => by simp only [if_neg c1, if_neg c2], F4, News.tail1 N4⟩
    · rintro h tk vh vw Fw Nw
      clear z1 z2 z3 z4
      unfold LoopW at Fw
      dsimp only at Fw ⊢
      refine wpC_stmt ?_
      k_steps)
end Aq
open PySem PySem.W PyProof.Rows
set_option maxRecDepth 100000 in
theorem PySem.Challenge.cw_aq6016_01_holds : PySem.Challenge.rw_aq6016_01.Holds := by
  exact Aq.law_holds
