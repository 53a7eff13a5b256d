import PyProof.Rows.All
import Wide.All
import OpenK.AllK
import Wide.FinOn
import PySem.Challenge.RW_oc0022_01
set_option Elab.async false

-- part R1
section
open PySem PySem.W PySem.Calls PyProof.Rows
open Sem (wp)
set_option maxRecDepth 100000
namespace Mine
/-- the codes that may hold a bytearray's buffer while they stand on the stack -/
def holder : Code → Bool
  | .builtin id _ => (Builtin.Bytes.decodersThatHold ++ ["bytearray.__contains__", "bytearray.__mod__", "bytearray.__rmod__", "_struct.pack_into.held", "bytearray.find.held"]).contains id
  | _ => false
/-- none of them stands on the stack -/
def Free (Γ : Ctx) : Prop := holder Γ.code = false ∧ ∀ x ∈ Γ.below, holder x.1 = false
theorem Free.enter {Γ : Ctx} (h : Free Γ) {c : Code} (hc : holder c = false) (hd : Option Value) (p : Pos) : Free (Γ.enter c hd p) :=
  ⟨hc, fun x hx => by
    rcases List.mem_cons.mp hx with rfl | hx
    · exact h.1
    · exact h.2 x hx⟩
theorem Free.goto {Γ : Ctx} (h : Free Γ) {c : Code} (hc : holder c = false) : Free (Γ.goto c) := ⟨hc, h.2⟩

/-- wpAny over the free contexts alone, with no exception -/
def wpR {α : Type} (M : Model) (A : Around) (t : Sem α) (Q : α → Shared → Prop) (s : Shared) : Prop :=
  ∀ Γ p, Γ.In A → Free Γ → wp M Γ t (fun a _ s' => Q a s') (fun _ _ _ => False) p s
def codeR (M : Model) (A : Around) (c : Code) (R : Flow → Shared → Prop) (s : Shared) : Prop :=
  ∀ Γ p, Γ.code = c → Γ.Below A → Free Γ → wpCode M Γ (fun r s' => match r with | .ok f => R f s' | .error _ => False) p s

section
variable {α β : Type} {M : Model} {A : Around} {s : Shared}
theorem wpR_of {t : Sem α} {Q : α → Shared → Prop} (h : wpAny M A t Q (fun _ _ => False) s) : wpR M A t Q s := fun Γ p hΓ _ => h Γ p hΓ
theorem wpR_mono {t : Sem α} {Q Q' : α → Shared → Prop} (h : wpR M A t Q s) (hQ : ∀ a s, Q a s → Q' a s) : wpR M A t Q' s :=
  fun Γ p hΓ hF => Sem.wp_mono M Γ t (fun a _ s => hQ a s) (fun _ _ _ x => x) p s (h Γ p hΓ hF)
theorem wpR_pure {a : α} {Q : α → Shared → Prop} (h : Q a s) : wpR M A (pure a) Q s := fun _ _ _ _ => h
theorem wpR_bind {m : Sem α} {f : α → Sem β} {Q : β → Shared → Prop} (h : wpR M A m (fun a s' => wpR M A (f a) Q s') s) : wpR M A (m >>= f) Q s := fun Γ p hΓ hF => by
  rw [Sem.wp_bind']
  exact Sem.wp_mono M Γ m (fun a p' s' h' => h' Γ p' hΓ hF) (fun _ _ _ h' => h') p s (h Γ p hΓ hF)
theorem wpR_after {m : Sem α} {f : α → Sem β} {Q : β → Shared → Prop} (h : wpAny M A m (fun a s' => wpR M A (f a) Q s') (fun _ _ => False) s) : wpR M A (m >>= f) Q s := wpR_bind (wpR_of h)
theorem wpR_holding {vs : List Value} {m : Sem α} {Q : α → Shared → Prop} (h : wpR M A m Q s) : wpR M A (holding vs m) Q s :=
  fun Γ p hΓ hF => by rw [Sem.wp_holding]; exact h Γ p hΓ hF
theorem wpR_onRaise {m : Sem α} {k : Value → Sem Unit} {Q : α → Shared → Prop} (h : wpR M A m Q s) : wpR M A (m.onRaise k) Q s := fun Γ p hΓ hF => by
  rw [Sem.wp_onRaise]
  exact Sem.wp_mono M Γ m (fun _ _ _ h' => h') (fun _ _ _ h' => h'.elim) p s (h Γ p hΓ hF)
theorem codeR_mono {c : Code} {R R' : Flow → Shared → Prop} (h : codeR M A c R s) (hR : ∀ f s, R f s → R' f s) : codeR M A c R' s :=
  fun Γ p hc hΓ hF => wpCode_mono (fun r s' x => by cases r with | ok f => exact hR _ _ x | error e => exact x) (h Γ p hc hΓ hF)
theorem codeR_of {c : Code} {R : Flow → Shared → Prop} (h : codeAny M A c (fun r s' => match r with | .ok f => R f s' | .error _ => False) s) : codeR M A c R s := fun Γ p hc hΓ _ => h Γ p hc hΓ
theorem wpR_run {c : Code} {Q : Flow → Shared → Prop} (hc : holder c = false) (h : codeR M A c Q s) : wpR M A (run c none) Q s := fun Γ p hΓ hF => by
  rw [Sem.wp_run]
  have e : A.mark none = A := rfl
  refine wpCode_mono (fun r s' x => ?_) (h (Γ.enter c none p) p rfl (e ▸ hΓ.enter c none p (by intro x; cases x)) (hF.enter hc none p))
  cases r with
  | ok f => exact x
  | error e => exact x.elim
theorem wpR_runValue {c : Code} {Q : Value → Shared → Prop} (hc : holder c = false) (h : codeR M A c (fun f s' => match f with | .ret v => Q v s' | _ => False) s) : wpR M A (runValue c) Q s := fun Γ p hΓ hF => by
  rw [Sem.wp_runValue]
  have e : A.mark none = A := rfl
  refine wpCode_mono (fun r s' x => ?_) (h (Γ.enter c none p) p rfl (e ▸ hΓ.enter c none p (by intro x; cases x)) (hF.enter hc none p))
  cases r with
  | ok f => cases f <;> first | exact x | exact x.elim
  | error e => exact x.elim
theorem wpR_call {f : Value} {pos : List Value} {kw : List (Str × Value)} {Q : Value → Shared → Prop} (h : codeR M A (.call f ⟨pos, kw⟩) (fun f s' => match f with | .ret v => Q v s' | _ => False) s) : wpR M A (call f pos kw) Q s :=
  wpR_runValue rfl h
theorem codeR_of_tree {c : Code} {R : Flow → Shared → Prop}
    (h : wpR M (A.under c) (M.den c) (fun fin s' => match fin with | .done f => R f s' | .again c' => c'.quiet = true ∧ holder c' = false ∧ codeR M A c' R s') s) : codeR M A c R s := fun Γ p hc hΓ hF => by
  rw [wpCode_iff_wp, hc]
  refine Sem.wp_mono M Γ _ (fun fin p' s' h' => ?_) (fun _ _ _ h' => h'.elim) p s (h Γ p (hc ▸ hΓ.in) hF)
  cases fin with
  | done f => exact h'
  | again c' => exact ⟨h'.1, h'.2.2 (Γ.goto c') p' rfl (hΓ.goto c') (hF.goto h'.2.1)⟩
end
end Mine
end

-- part HR
section
open PySem PySem.W PySem.Calls PyProof.Rows
open Sem (wp)
set_option maxRecDepth 100000
namespace Mine
theorem free_caller : Free ⟨.builtin "claim.caller" {}, none, none, [], none⟩ := ⟨by decide +kernel, fun _ h => nomatch h⟩
theorem ends_free {prog : Program} {w : World} {t : Sem Fin} {s : Shared} {R : Result → Shared → Prop} (hreg : s.asleep)
    (h : wpR (model prog w) callerA t (fun fin s' => ∃ f, fin = .done f ∧ (R (.ok f) s' ∧ leftWithCleanup s'.gens = false)) s) :
    ∃ n r s' s'', runN (denote table) prog w n s ⟨t, .builtin "claim.caller" {}, default, []⟩ = .halted (outcomeOf r) s' ∧
      schedN (denote table) prog w n (.single s ⟨t, .builtin "claim.caller" {}, default, []⟩) = .halted (outcomeOf r) s' ∧ s'.forget = s''.forget ∧ R r s'' := by
  have h1 : wp (model prog w) ⟨.builtin "claim.caller" {}, none, none, [], none⟩ t (Sem.finPost (model prog w) ⟨.builtin "claim.caller" {}, none, none, [], none⟩ fun r s' => R r s' ∧ leftWithCleanup s'.gens = false)
      (fun e _ s' => R (.error e) s' ∧ leftWithCleanup s'.gens = false) default s := by
    refine Sem.wp_mono _ _ t (fun fin p' s' h' => ?_) (fun _ _ _ h' => h'.elim) default s (h _ default caller_in free_caller)
    obtain ⟨f, rfl, hf⟩ := h'
    exact hf
  obtain ⟨n, r, s₁, s₂, hs, hn, hfo, hR⟩ := wp_halts_full (M := model prog w) (R := R) hreg h1
  exact ⟨n, r, s₂, s₁, hn, hs, hfo, hR⟩
theorem callFrom_free {c : ClaimW} {tree : List Value → Sem Fin} {w : World} {s : Shared} {free : Addr → Prop} {gens : Prop} {kept : Heap → Prop} (hz : s.asleep) (hgens : s.gens = #[])
    (hspec : ∀ args, c.pre args = true → WData.layableAll args = true → ∀ ord : List DictEntry → List DictEntry, (∀ l, (ord l).Perm l) →
      ∃ vs s₁, layAllW c.records (classAt s.heap) w.params ord args s = some (vs, s₁) ∧
        wpR (model c.prog w) callerA (tree vs) (fun fin s' => ∃ f, fin = .done f ∧ (c.Ends s args vs s₁ (.ok f) s' ∧ s'.os = s.os ∧ AllBare s'.gens ∧ kept s'.heap)) s₁) :
    c.CallFrom (fun vs => ⟨tree vs, .builtin "claim.caller" {}, default, []⟩) w free gens kept s := by
  intro args hpre hlay ord hord
  obtain ⟨vs, s₁, hlaid, hcode⟩ := hspec args hpre hlay ord hord
  have hal := layAllW_rest _ _ _ hlaid
  obtain ⟨k, r, s', s'', hrun, hsched, hfo, hcase, hos, hkp⟩ := ends_free (prog := c.prog) (w := w) (t := tree vs) (s := s₁)
    (R := fun r s' => c.Ends s args vs s₁ r s' ∧ s'.os = s.os ∧ kept s'.heap) (Shared.asleep_of_life hal.2.2.2 hz)
    (wpR_mono hcode (by
      rintro fin s' ⟨f, e, h1, h2, h3, h4⟩
      exact ⟨f, e, ⟨h1, h2, h4⟩, leftWithCleanup_false_of_bare h3⟩))
  obtain ⟨eh, _, _, eo, _⟩ := Shared.forget_eq hfo
  have hcase := hcase.congr eh
  have hkp : kept s'.heap := by rw [eh]; exact hkp
  rw [← eo] at hos
  have hlife : s'.heap.life = s.heap.life := (runN_life _ _ _ hrun).trans hal.2.2.2
  refine ⟨vs, s₁, hlaid, k, _, s', hsched, ?_, (fun _ i x hx => by rw [hgens] at hx; simp at hx), hkp, by rw [hlife], Shared.rest_eq hos⟩
  rcases hcase with ⟨v, rfl, d1, d2, d3, d4, d5⟩ | ⟨e, ob, cls, rfl, d1, d2, d3, d4, d5⟩
  · exact .inl ⟨v, rfl, d1, d2, d3, fun b o y _ => d4 b o y, d5⟩
  · exact .inr ⟨e, ob, cls, rfl, d1, d2, d3, d4, fun b o y _ => d5 b o y⟩
/-- what the walk of the law's call must show, over the free contexts -/
abbrev WalkFree (q : Program) (loose : List Str) (XP : (Str → Option Value) → Heap → Prop) (YP : World → Heap → Prop) (r : RowW) (d : DefRec) (kwd : List (Str × Expr)) : Prop :=
  ∀ (w : World) (s₀ s₁ : Shared) (mg mb : Str → Option Value), Ground q loose r.records XP w s₀ mg mb s₁.heap → YP w s₁.heap → ∀ (a : Addr) (o : Obj) (pm cd doc dV kV : Value), s₁.heap.get? a = some o →
    o.data = .func { docDef d.name d.params d.body d.scope pm cd doc with defaults := dV, kwdefaults := kV } → s₁.heap.CodeRec cd d.name → Dflts mg s₁.heap d.params kwd dV kV → mg d.name = some (.ref a) → s₁.gens = #[] →
    ∀ (args : List WData) (vals : List Value) (as : List Addr), r.claim.pre args = true → WData.layableAll args = true → ReadsAllW r.records (classAt s₀.heap) s₁.heap vals args as → WellAll w.params s₁.heap vals args → (∀ a ∈ as, (a == sysModules) = false) →
      wpR (model r.prog w) callerA (call (.ref a) vals) (fun v s' => GoodWG r.claim (classAt s₀.heap) (ExcName.means s₀.heap) args s₁ (.ok (.ret v)) s') s₁
/-- The head's last step, over the free contexts: the library's own asks the walk over ALL contexts of the caller, and that is false of a law that makes a bytearray
    (bytearray.__init__ looks whether a decoder on the stack holds the object). It bears this name so that the kit's open_top, run inside this namespace, takes it as its head. -/
theorem PySem.W.holds_open {r : OpenRow} {q : Program} {loose : List Str} {Xt : Shared → Bool} {XP : (Str → Option Value) → Heap → Prop} {α : Type} {Yf : Shared → α} {Ya : World → α} {YP : World → Heap → Prop} {d : DefRec} {kwd : List (Str × Expr)} {N : Nat}
    (left : LeftO r.prog q loose Xt Yf Ya N) (hY : ∀ w s, Yf s = Ya w → YP w s.heap) (hYk : ∀ w h h', YP w h → (∀ b o, h.get? b = some o → h'.get? b = some o) → YP w h')
    (hX : ∀ s, Xt s = true → XP (s.heap.nsMap mainGlobals) s.heap) (hXk : ∀ mg h h', XP mg h → (∀ b o, h.get? b = some o → h'.get? b = some o) → XP mg h')
    (hdef : defOf q r.name = some (d, kwd)) (hp : r.prog.theDef r.name = some (d.params, d.body, d.scope)) (hk : kwWritten? d.params.kwonlyargs d.params.kw_defaults = some kwd) (hRf : ∀ s, Xt s = true → RecFacts r.records s.heap) (hwr : (!r.writes || r.records.isEmpty) = true)
    (k1 : r.wellSaid = true) (ok : (chainsOk q && opensWell r.prog && (frees r.toRowW && r.within.isEmpty)) = true) (hb : r.prog.bare) (hw : r.toRowW.promised)
    (call : WalkFree q loose XP YP r.toRowW d kwd) : r.Holds := by
  refine ⟨k1, hw, ?_⟩
  obtain ⟨ok, k5⟩ := Bool.and_eq_true_iff.mp ok
  obtain ⟨hch, o1⟩ := Bool.and_eq_true_iff.mp ok
  obtain ⟨k5, k6⟩ := Bool.and_eq_true_iff.mp k5
  obtain ⟨hsame, hu, ha, hap, hm⟩ := frees_parts k5
  refine ⟨⟨hb, o1, by show r.toRowW.makers.map _ = []; rw [hm]; rfl⟩, hw.witness, fun w => ⟨(left.behind hX hch w).1, fun s' hs' => ?_⟩⟩
  obtain ⟨s₀, hf, hg0, s, hT, hz, hgens, hg, G00, y⟩ := (left.behind (XP := fun mg h => XP mg h ∧ RecFacts r.records h) (fun s hs => ⟨hX s hs, hRf s hs⟩) hch w).2 s' hs'
  have G0 : Ground q loose [] XP w s (s.heap.nsMap mainGlobals) (s.heap.nsMap builtinsNs) s.heap := ⟨G00.T, G00.B, G00.D, G00.TE, G00.TD, G00.W, G00.X.1, G00.cls, G00.has, G00.apart, G00.once, G00.K⟩
  have RF := G00.X.2
  have hT' := hT
  refine ⟨s₀, hf, hg0, s, hT, (fun n hn => by
    obtain rfl : n = r.name := by split at hn <;> simp_all
    exact pinned_of_view hg G0 hdef hp hk), RF.1, RF.2.1, ?_⟩
  have hgens : s.gens = #[] := Array.eq_empty_of_size_eq_zero (beq_iff_eq.mp hgens)
  have G : Ground q loose r.toRowW.records XP w s _ _ s.heap := RF.ground G0
  refine callFrom_free (c := r.toRowW.claim) hz hgens fun args hpre hlay ord hord => ?_
  obtain ⟨⟨vs, s₁⟩, hlaid⟩ := Option.isSome_iff_exists.mp (layAllW_isSome (P := w.params) (ord := ord) G.has args r.toRowW.args s (pre_splitW hpre).1)
  have keeps := layAllW_keeps _ _ _ hlaid
  have hal := layAllW_rest _ _ _ hlaid
  obtain ⟨as, hrd, hin, hold⟩ := reads_layAllW hord _ _ _ hlaid hlay s₁.heap (fun _ _ e => e)
  have L : Laid r.toRowW.records w s s₁ args vs as := ⟨⟨ord, hord, hlaid⟩, hrd, hin, hold, keeps, hal.1.trans hgens, hal.2.2.1⟩
  have G₁ := G.keeps hXk keeps
  obtain ⟨a, o, pm, cd, doc, dV, kV, h1, h2, h3, h4, h5⟩ := G₁.fn hdef
  have h := call w s s₁ _ _ G₁ (hYk _ _ _ (hY w s y) keeps) a o pm cd doc dV kV h2 h3 h4 h5 (defOf_name hdef ▸ h1) L.gens args vs as hpre hlay L.reads L.well (L.low G.low)
  have hi := ident_freeW hu ha hap
  have hwi : r.toRowW.claim.within = [] := List.isEmpty_iff.mp k6
  refine ⟨vs, s₁, hlaid, ?_⟩
  refine wpR_after (wpAny_nsGet G₁.T.g ?_)
  rw [h1]
  refine wpR_bind (wpR_mono h fun v s' g => wpR_pure ⟨_, rfl, ?_⟩)
  have z := g.laid (c := r.toRowW.claim) hsame hwi hi L
  exact ⟨z.1, z.2.1, z.2.2, fun q => ⟨namesKept_of hT' hg r.keeps keeps g.2.1.old, noTable hwr q⟩⟩
end Mine
end

-- part HDR
section
open PySem PySem.W PySem.Calls PyProof.Rows
namespace Mine
set_option maxRecDepth 100000 in
set_option maxHeartbeats 8000000 in
open_top hdR for PySem.Challenge.rw_oc0022_01
end Mine
end

-- part Base1
section
open PySem PySem.W PyProof.Rows
namespace Mine
/-- sift down: bubble x up from pos towards sp -/
def sdGo (x : Int) (sp : Nat) (ns : List Int) (pos : Nat) : List Int :=
  if h : sp < pos then
    if x < ns.getD ((pos - 1) / 2) 0 then sdGo x sp (ns.set pos (ns.getD ((pos - 1) / 2) 0)) ((pos - 1) / 2) else ns.set pos x
  else ns.set pos x
termination_by pos
decreasing_by omega

theorem sdGo_stop {x : Int} {sp : Nat} {ns : List Int} {pos : Nat} (h : ¬ sp < pos) : sdGo x sp ns pos = ns.set pos x := by
  rw [sdGo, dif_neg h]
theorem sdGo_here {x : Int} {sp : Nat} {ns : List Int} {pos : Nat} (h : sp < pos) (h2 : ¬ x < ns.getD ((pos - 1) / 2) 0) : sdGo x sp ns pos = ns.set pos x := by
  rw [sdGo, dif_pos h, if_neg h2]
theorem sdGo_up {x : Int} {sp : Nat} {ns : List Int} {pos : Nat} (h : sp < pos) (h2 : x < ns.getD ((pos - 1) / 2) 0) : sdGo x sp ns pos = sdGo x sp (ns.set pos (ns.getD ((pos - 1) / 2) 0)) ((pos - 1) / 2) := by
  rw [sdGo, dif_pos h, if_pos h2]

theorem half_toNat {pos : Int} (h : 0 < pos) : ((pos - 1) / 2).toNat = (pos.toNat - 1) / 2 := by omega

theorem sd_turn {x sp pos : Int} {heap ns R : List Int} (h0 : 0 ≤ sp) (hp : sp < pos) (h1 : pos < (ns.length : Int)) (h2 : heap.length = ns.length) (hx : x < heap.getD ((pos - 1) / 2).toNat 0) (h3 : sdGo x sp.toNat heap pos.toNat = R) :
    0 ≤ (pos - 1) / 2 ∧ (pos - 1) / 2 < (ns.length : Int) ∧ (heap.set pos.toNat (heap.getD ((pos - 1) / 2).toNat 0)).length = ns.length ∧
      sdGo x sp.toNat (heap.set pos.toNat (heap.getD ((pos - 1) / 2).toNat 0)) ((pos - 1) / 2).toNat = R := by
  refine ⟨by omega, by omega, by rw [List.length_set]; exact h2, ?_⟩
  rw [half_toNat (by omega)] at hx ⊢
  rw [← h3, ← sdGo_up (by omega) hx]
theorem sd_exit1 {x sp pos : Int} {heap R : List Int} (h3 : sdGo x sp.toNat heap pos.toNat = R) (h0 : 0 ≤ sp) (h2 : 0 ≤ pos) (hp : ¬ sp < pos) : heap.set pos.toNat x = R := by
  rw [← h3, sdGo_stop (by omega)]
theorem sd_exit2 {x sp pos : Int} {heap R : List Int} (h3 : sdGo x sp.toNat heap pos.toNat = R) (h0 : 0 ≤ sp) (hp : sp < pos) (hx : ¬ x < heap.getD ((pos - 1) / 2).toNat 0) : heap.set pos.toNat x = R := by
  rw [half_toNat (by omega)] at hx
  rw [← h3, sdGo_here (by omega) hx]

/-- everything but l is kept -/
def Keeps (l : Addr) (h h' : Heap) : Prop := ∀ b o, b ≠ l → h.get? b = some o → h'.get? b = some o
theorem keeps_of {g h₁ h : Heap} {l L' : Addr} {o : Obj} {m' : Str → Option Value} (G : GSub h₁ g (List.map (fun p => p.1) [(l, o)])) (F : Fr g L' h m') : Keeps l h₁ h :=
  fun b o' ne e => F.keep b o' (G b o' e (by simpa using ne))

theorem rshift_one {prog : Program} {w : World} {A : Around} {E : Value → Shared → Prop} {s : Shared} {a : Int} {t u : Tok} {Q : Value → Shared → Prop} (h : Q (.int (a / 2) s.toks) { s with toks := s.toks + 1 }) :
    wpAny (model prog w) A (binaryOp .RShift (.int a t) (.int 1 u)) Q E s :=
  rshift_int (by decide) (by rw [show a.fdiv (2 ^ Int.toNat 1) = a / 2 from Int.fdiv_eq_ediv_of_nonneg _ (by decide)]; exact h)
theorem ints_eq {vs : List Value} {ns ns' : List Int} (h : IntsAre vs ns) (e : ns = ns') : IntsAre vs ns' := e ▸ h
end Mine
namespace Mine
/-- which child sift up goes to -/
def suC (ns : List Int) (pos : Nat) : Nat :=
  if 2 * pos + 2 < ns.length ∧ ¬ ns.getD (2 * pos + 1) 0 < ns.getD (2 * pos + 2) 0 then 2 * pos + 2 else 2 * pos + 1
theorem suC_le (ns : List Int) (pos : Nat) : 2 * pos + 1 ≤ suC ns pos := by unfold suC; split <;> omega
theorem suC_lt {ns : List Int} {pos : Nat} (h : 2 * pos + 1 < ns.length) : suC ns pos < ns.length := by unfold suC; split <;> omega
/-- the hole goes down to a leaf, the lesser child moved up at each step -/
def suGo (ns : List Int) (pos : Nat) : List Int × Nat :=
  if h : 2 * pos + 1 < ns.length then suGo (ns.set pos (ns.getD (suC ns pos) 0)) (suC ns pos) else (ns, pos)
termination_by ns.length - pos
decreasing_by
  have := suC_le ns pos
  have := suC_lt h
  simp only [List.length_set]
  omega
theorem suGo_stop {ns : List Int} {pos : Nat} (h : ¬ 2 * pos + 1 < ns.length) : suGo ns pos = (ns, pos) := by rw [suGo, dif_neg h]
theorem suGo_down {ns : List Int} {pos : Nat} (h : 2 * pos + 1 < ns.length) : suGo ns pos = suGo (ns.set pos (ns.getD (suC ns pos) 0)) (suC ns pos) := by rw [suGo, dif_pos h]
def siftup (ns : List Int) (pos : Nat) : List Int :=
  sdGo (((suGo ns pos).1.set (suGo ns pos).2 (ns.getD pos 0)).getD (suGo ns pos).2 0) pos ((suGo ns pos).1.set (suGo ns pos).2 (ns.getD pos 0)) (suGo ns pos).2
end Mine
namespace Mine
theorem su_turn1 {pos c : Int} {heap ns : List Int} {R : List Int × Nat} (h3 : suGo heap pos.toNat = R) (hc : c = 2 * pos + 1) (h0 : 0 ≤ pos) (h2 : heap.length = ns.length) (hl : c < (ns.length : Int)) (hx : heap.getD c.toNat 0 < heap.getD (c + 1).toNat 0) :
    0 ≤ c ∧ c < (ns.length : Int) ∧ 2 * c + 1 = 2 * c + 1 ∧ (heap.set pos.toNat (heap.getD c.toNat 0)).length = ns.length ∧ suGo (heap.set pos.toNat (heap.getD c.toNat 0)) c.toNat = R := by
  subst hc
  have e1 : (2 * pos + 1).toNat = 2 * pos.toNat + 1 := by omega
  have e2 : (2 * pos + 1 + 1).toNat = 2 * pos.toNat + 2 := by omega
  refine ⟨by omega, hl, rfl, by rw [List.length_set]; exact h2, ?_⟩
  rw [e1, e2] at hx
  have e3 : suC heap pos.toNat = 2 * pos.toNat + 1 := by unfold suC; rw [if_neg (fun q => q.2 hx)]
  rw [← h3, suGo_down (ns := heap) (pos := pos.toNat) (by omega), e3, e1]
theorem su_turn2 {pos c : Int} {heap ns : List Int} {R : List Int × Nat} (h3 : suGo heap pos.toNat = R) (hc : c = 2 * pos + 1) (h0 : 0 ≤ pos) (h2 : heap.length = ns.length) (hl : c < (ns.length : Int)) (hx : ¬ c + 1 < (ns.length : Int)) :
    0 ≤ c ∧ c < (ns.length : Int) ∧ 2 * c + 1 = 2 * c + 1 ∧ (heap.set pos.toNat (heap.getD c.toNat 0)).length = ns.length ∧ suGo (heap.set pos.toNat (heap.getD c.toNat 0)) c.toNat = R := by
  subst hc
  have e1 : (2 * pos + 1).toNat = 2 * pos.toNat + 1 := by omega
  refine ⟨by omega, hl, rfl, by rw [List.length_set]; exact h2, ?_⟩
  have e3 : suC heap pos.toNat = 2 * pos.toNat + 1 := by unfold suC; rw [if_neg (fun q => by omega)]
  rw [← h3, suGo_down (ns := heap) (pos := pos.toNat) (by omega), e3, e1]
theorem su_turn3 {pos c : Int} {heap ns : List Int} {R : List Int × Nat} (h3 : suGo heap pos.toNat = R) (hc : c = 2 * pos + 1) (h0 : 0 ≤ pos) (h2 : heap.length = ns.length) (hl : c + 1 < (ns.length : Int)) (hx : ¬ heap.getD c.toNat 0 < heap.getD (c + 1).toNat 0) :
    0 ≤ c + 1 ∧ c + 1 < (ns.length : Int) ∧ 2 * (c + 1) + 1 = 2 * (c + 1) + 1 ∧ (heap.set pos.toNat (heap.getD (c + 1).toNat 0)).length = ns.length ∧ suGo (heap.set pos.toNat (heap.getD (c + 1).toNat 0)) (c + 1).toNat = R := by
  subst hc
  have e1 : (2 * pos + 1).toNat = 2 * pos.toNat + 1 := by omega
  have e2 : (2 * pos + 1 + 1).toNat = 2 * pos.toNat + 2 := by omega
  refine ⟨by omega, hl, rfl, by rw [List.length_set]; exact h2, ?_⟩
  rw [e1, e2] at hx
  have e3 : suC heap pos.toNat = 2 * pos.toNat + 2 := by unfold suC; rw [if_pos ⟨by omega, hx⟩]
  rw [← h3, suGo_down (ns := heap) (pos := pos.toNat) (by omega), e3, e2]
theorem su_exit {pos c ps : Int} {heap ns : List Int} (h3 : suGo heap pos.toNat = suGo ns ps.toNat) (hc : c = 2 * pos + 1) (h0 : 0 ≤ pos) (h2 : heap.length = ns.length) (hl : ¬ c < (ns.length : Int)) :
    sdGo ((heap.set pos.toNat (ns.getD ps.toNat 0)).getD pos.toNat 0) ps.toNat (heap.set pos.toNat (ns.getD ps.toNat 0)) pos.toNat = siftup ns ps.toNat := by
  have e : suGo heap pos.toNat = (heap, pos.toNat) := suGo_stop (by omega)
  unfold siftup
  rw [← h3, e]
end Mine
end

-- part SD
section
open PySem PySem.W PyProof.Rows
namespace Mine
local macro_rules | `(tactic| ktr_enter) => `(tactic| (refine' code_defG ?k1 ?k2 ?k3 ?k4 ?k5 ?kA ?kF ?kK ?k6 ?k7 ?k8 ?k9 ?kB ?_ ?c2 ?c3 ?c4 ?c5; (case kA => exact rfl); (case kF => exact rfl); (case kK => assumption); (case k1 => k_asm); (case k2 => k_asm); (case k3 => k_asm); (case k4 => k_asm); (case k5 => k_asm); (case k6 => k_is); (case k7 => k_is); (case k8 => ktr_room); (case k9 => exact BindsTo.of_eq rfl); (case c5 => decide); (case kB => exact locs rfl); (case c2 => exact rfl); (case c3 => exact rfl); (case c4 => exact rfl); k_whole; intro g' L' h' FG' F' N' B' X' T' GS'; (try dsimp only); (try k_fold)))
local macro_rules | `(tactic| walk_at "binaryOp RShift int int") => `(tactic| (k_here; (with_reducible refine Mine.rshift_one ?_)))
set_option maxRecDepth 100000 in
set_option maxHeartbeats 8000000 in
theorem siftdown_call {prog : Program} {w : World} {p : Program} {loose : List Str} {mean : ExcName → Option Value} {mg mb : Str → Option Value}
    {dp un : Nat} {gd : Option (List Code)} {cn : Str} {cs : Scope} {a : Addr} {ccd : Value} {cl : List (Str × Addr)} {outer : List Env} {A₀ : Around} {base h₀ : Heap} {L : Addr} {m : Str → Option Value} {s : Shared} {Q E : Value → Shared → Prop}
    {l : Addr} {vs : List Value} {ns : List Int} {n : Nat} {sp ps : Int} {t1 t2 : Tok}
    (B : Below A₀ base outer h₀) (F : Fr h₀ L s.heap m) (X : (hdR.heap_39 w.params).In h₀) (N : News h₀ L s.heap [(l, listOf vs.toArray n)]) (T : Top p loose mean mg mb h₀) (hk : cs.kind = .function)
    (hi : IntsAre vs ns) (h0 : 0 ≤ sp) (h1 : 0 ≤ ps) (h2 : ps < ns.length) (h3 : ns.length ≤ 16) (hdp : dp + 2 < recursionLimit) (hun : un + 16 < cLine)
    (ret : ∀ h' tk' vs' n', Fr h₀ L h' m → News h₀ L h' [(l, listOf vs'.toArray n')] → IntsAre vs' (sdGo (ns.getD ps.toNat 0) sp.toNat ns ps.toNat) → Keeps l s.heap h' → Q .none { s with heap := h', toks := tk' }) :
    wpAny (model prog w) (ktrTop dp un gd cn cs L a ccd cl outer) (call (.ref 42) [.ref l, .int sp t1, .int ps t2]) Q E s := by
  w_on
  k_with_none
  k_with "exec While Compare cons nil" => k_while (fun script pos heap => 0 ≤ pos ∧ pos < (ns.length : Int) ∧ heap.length = ns.length ∧ sdGo (ns.getD ps.toNat 0) sp.toNat heap pos.toNat = sdGo (ns.getD ps.toNat 0) sp.toNat ns ps.toNat) (fun script pos heap => pos.toNat) "pos" "heap"
  k_with "state" => first | exact ⟨by assumption, by assumption, rfl, rfl⟩ | exact sd_turn (by assumption) (by assumption) (by assumption) (by assumption) (by assumption) (by assumption)
  w_strict (
    refine wpAny_call ?_
    k_dflt ktr_enter
    k_steps
    all_goals (first
      | (refine ret _ _ _ _ (by assumption) (by assumption) (ints_eq (by assumption) ?_) (keeps_of (by assumption) (by assumption)) ; first | exact sd_exit1 (by assumption) (by assumption) (by assumption) (by assumption) | exact sd_exit2 (by assumption) (by assumption) (by assumption) (by assumption))
      | (trace_state; w_report)))
end Mine
end

-- part Base2
section
open PySem PySem.W PyProof.Rows
set_option maxRecDepth 100000
namespace Mine
theorem upd_mem {d : Addr} {o o' : Obj} : ∀ {l l' : List (Addr × Obj)}, Upd d o o' l l' → (d, o) ∈ l
  | _, _, .head _ => .head _
  | _, _, .tail _ r => .tail _ (upd_mem r)
theorem upd_or {d : Addr} {o o' : Obj} : ∀ {l l' : List (Addr × Obj)}, Upd d o o' l l' → ∀ p ∈ l', p = (d, o') ∨ (p ∈ l ∧ p.1 ≠ d)
  | _, _, .head h, p, hp => by
    rcases List.mem_cons.mp hp with e | e
    · exact .inl e
    · exact .inr ⟨.tail _ e, h p e⟩
  | _, _, .tail h r, p, hp => by
    rcases List.mem_cons.mp hp with e | e
    · exact .inr ⟨e ▸ .head _, e ▸ h⟩
    · rcases upd_or r p e with q | q
      · exact .inl q
      · exact .inr ⟨.tail _ q.1, q.2⟩
theorem news_one {h₀ h : Heap} {L l : Addr} {o o' : Obj} {news news' : List (Addr × Obj)} (N : News h₀ L h news) (U : Upd l o o' news news') : News h₀ L h [(l, o)] :=
  fun p hp => N p (List.mem_singleton.mp hp ▸ upd_mem U)
theorem news_after {h₀ h h' : Heap} {L l : Addr} {o o' : Obj} {news news' : List (Addr × Obj)} (N : News h₀ L h news) (U : Upd l o o' news news') (K : Keeps l h h') (N1 : News h₀ L h' [(l, o')]) : News h₀ L h' news' := by
  intro p hp
  rcases upd_or U p hp with e | e
  · exact N1 p (e ▸ .head _)
  · exact ⟨K _ _ e.2 (N p e.1).1, (N p e.1).2⟩

section
variable {prog : Program} {w : World} {A : Around} {E : Value → Shared → Prop} {s : Shared}
theorem sub_ri_reversed : isSubtype (.type "range_iterator") (.type "reversed") = pure false := by rw [isSubtype_type]; kernel_rfl
abbrev riObj (x left step : Int) : Obj := { cls := .type "range_iterator", dict := none, data := .fields #[rawInt x, rawInt left, rawInt step], slots := #[] }

theorem fit_small {i : Int} (h : -1000 ≤ i) (h' : i ≤ 1000) : Builtin.Range.rangeFitsLong i = true := by
  unfold Builtin.Range.rangeFitsLong
  rw [Bool.and_eq_true, decide_eq_true_eq, decide_eq_true_eq]
  omega
theorem rangeSize_up {b : Int} (h0 : 0 ≤ b) : Builtin.Range.rangeSize 0 b 1 = b := by
  unfold Builtin.Range.rangeSize
  rw [if_pos (by decide)]
  split
  · rw [Int.ediv_one]; omega
  · omega
theorem range_reversed_meets (r : Addr) (a b c : Int) (t u v : Tok) (hc : (Builtin.Range.rangeFitsLong a && Builtin.Range.rangeFitsLong b && Builtin.Range.rangeFitsLong c && Builtin.Range.rangeFitsLong (-c) && Builtin.Range.rangeFitsLong (a - c) && Builtin.Range.rangeFitsLong (Builtin.Range.rangeSize a b c)) = true) :
    Meets (Builtin.«range.__reversed__» ⟨[.ref r], []⟩) (fun _ R s => s.heap.get? r = some { cls := .type "range", dict := none, data := .fields #[.int a t, .int b u, .int c v], slots := #[] } ∧ R (.ok (.ret (Value.ref s.heap.objs.size))) { s with heap := s.heap.push (riObj (a + (Builtin.Range.rangeSize a b c - 1) * c) (Builtin.Range.rangeSize a b c) (-c)) }) :=
  .of_wp fun prog w A R s h => by
    obtain ⟨hp, g, d, tk, os⟩ := s
    obtain ⟨hl, h⟩ := h
    unfold Builtin.«range.__reversed__»
    wp_walk
    try dsimp only
    rw [if_pos hc]
    exact ⟨_, rfl, h⟩
theorem call_range_reversed {r : Addr} {b : Int} {t u v : Tok} {Q : Value → Shared → Prop} (hr : IsRange s.heap r 0 b 1 t u v) (h0 : 0 ≤ b) (h1 : b ≤ 100)
    (h : Q (.ref s.heap.objs.size) { s with heap := s.heap.push (riObj (b - 1) b (-1)) }) : wpAny (model prog w) A (call (.builtin "range.__reversed__") [.ref r]) Q E s := by
  have hT : s.TypeIs (.ref r) "range" := ⟨_, hr, rfl⟩
  refine call_meets F.slot_range_reversed hT F.entry_range_reversed (F.args_range_reversed_1 _) (range_reversed_meets r 0 b 1 t u v ?_) ⟨hr, ?_⟩
  · rw [rangeSize_up h0]
    simp only [fit_small (show (-1000 : Int) ≤ 0 by omega) (by omega), fit_small (show (-1000 : Int) ≤ b by omega) (by omega), fit_small (show (-1000 : Int) ≤ 1 by omega) (by omega), fit_small (show (-1000 : Int) ≤ -1 by omega) (by omega), fit_small (show (-1000 : Int) ≤ 0 - 1 by omega) (by omega), Bool.and_self]
  · rw [rangeSize_up h0, show (0 : Int) + (b - 1) * 1 = b - 1 by omega]
    exact h
theorem code_reversed_new_range {r : Addr} {b : Int} {t u v : Tok} {Q₁ : Value → Shared → Prop} (hr : IsRange s.heap r 0 b 1 t u v) (h0 : 0 ≤ b) (h1 : b ≤ 100)
    (h : Q₁ (.ref s.heap.objs.size) { s with heap := s.heap.push (riObj (b - 1) b (-1)) }) :
    codeAny (model prog w) A (.call (.builtin "reversed.__new__") ⟨[.type "reversed", .ref r], []⟩) (wants Q₁ E) s := by
  have hT : s.TypeIs (.ref r) "range" := ⟨_, hr, rfl⟩
  refine codeAny_of_tree ?_
  show wpAny _ A.in1 (do checkBuiltinCall "reversed.__new__" ⟨[.type "reversed", .ref r], []⟩; again (.builtin "reversed.__new__" ⟨[.type "reversed", .ref r], []⟩)) _ _ s
  refine wpAny_bind (wpAny_of_eq (F.newCall_reversed_1 _) (wpAny_pure ⟨plainId_quiet F.plain_reversed_new _, codeAny_builtin F.entry_reversed_new ?_⟩))
  rw [Around.under_plainId F.plain_reversed_new _]
  unfold Builtin.«reversed.__new__»
  refine wpAny_bind (wpAny_of_eq (newClass_reversed _) ?_)
  try dsimp only
  refine wpAny_bind (wpAny_of_eq (a := ()) (by first | rfl | kernel_rfl) ?_)
  refine wpAny_bind (wpAny_of_eq (a := ()) (by first | rfl | kernel_rfl) ?_)
  try dsimp only
  refine wpAny_bind (wpAny_specialOf hT F.slot_range_reversed.lookup ?_)
  try dsimp only
  refine wpAny_bind (wpAny_of_eq (F.slot_range_reversed.bind _) ?_)
  try dsimp only
  first
  | rw [if_neg (show ¬ ((Value.builtin "range.__reversed__" == Value.none) = true) from Bool.false_ne_true)]
  | (show wpAny _ _ (if (Value.builtin "range.__reversed__" == Value.none) = true then _ else _) _ _ _; rw [if_neg (show ¬ ((Value.builtin "range.__reversed__" == Value.none) = true) from Bool.false_ne_true)])
  refine wpAny_bind (wpAny_rule ?_)
  refine wpAny_bind (m := runValue (.call (.builtin "range.__reversed__") ⟨[.ref r], []⟩)) (show wpAny _ _ (call (.builtin "range.__reversed__") [.ref r]) _ _ _ from call_range_reversed hr h0 h1 ?_)
  first
  | exact wpAny_pure h
  | exact wpAny_bind (wpAny_pure (wpAny_pure h))
theorem call_reversed_range {r : Addr} {b : Int} {t u v : Tok} {Q : Value → Shared → Prop} (hr : IsRange s.heap r 0 b 1 t u v) (h0 : 0 ≤ b) (h1 : b ≤ 100)
    (h : Q (.ref s.heap.objs.size) { s with heap := s.heap.push (riObj (b - 1) b (-1)) }) : wpAny (model prog w) A (call (.type "reversed") [.ref r]) Q E s := by
  refine callType_other (U := "range_iterator") (Q₁ := fun obj s₁ => obj = .ref s.heap.objs.size ∧ s₁ = { s with heap := s.heap.push (riObj (b - 1) b (-1)) }) (by decide +kernel) F.create_reversed ⟨_, _, F.mro_reversed⟩ F.made_reversed sub_ri_reversed (F.typeCall_reversed_1 _) (code_reversed_new_range hr h0 h1 ⟨rfl, rfl⟩) ?_
  rintro obj s₁ ⟨rfl, rfl⟩
  exact ⟨⟨_, Heap.get?_push_size _ rfl, rfl⟩, h⟩

theorem reversed_rangeK {h₀ : Heap} {L r : Addr} {m : Str → Option Value} {news : List (Addr × Obj)} {b : Int} {t u v : Tok} {Q : Value → Shared → Prop} (nn : Nat) (F : Fr h₀ L s.heap m) (N : News h₀ L s.heap news) (hr : IsRange s.heap r 0 b 1 t u v) (hb : b = (nn : Int)) (h1 : nn ≤ 100)
    (h : ∀ I h', Fr h₀ L h' m → News h₀ L h' news → IsRangeIter h' I ((nn : Int) - 1) (nn : Int) (-1) → (∀ p ∈ news, p.1 ≠ I) → L ≠ I → h₀.get? I = none → Q (.ref I) { s with heap := h' }) : wpAny (model prog w) A (call (.type "reversed") [.ref r]) Q E s := by
  subst hb
  exact call_reversed_range hr (by omega) (by omega) (h _ _ (F.push _) (fun p hp => ⟨Heap.get?_push_of_some _ (N p hp).1, (N p hp).2⟩) (Heap.get?_push_size _ rfl) (fun p hp => Nat.ne_of_lt (Heap.lt_size (N p hp).1)) (Nat.ne_of_lt F.ns.lt) (next_is_new F))
theorem fdiv_two (k : Nat) : (k : Int).fdiv 2 = ((k / 2 : Nat) : Int) := by
  rw [Int.fdiv_eq_ediv_of_nonneg _ (by decide)]; omega
end

section
variable {prog : Program} {w : World} {A : Around} {E : Value → Shared → Prop} {s : Shared} {env : Env} {h₀ : Heap} {x : Str} {body : List Stmt} {Q : Flow → Shared → Prop}
theorem kst_revIter {σ : Type} {I : Addr} {n : Nat} {m₀ : Str → Option Value} (Led : σ → List (Addr × Obj)) (ps : σ → List (Str × Value)) (Facts : σ → Prop) (stored : List Str) (P : List Int → σ → Prop) (c₀ : σ)
    (hh : A.handled = none) (hI : IsRangeIter s.heap I ((n : Int) - 1) (n : Int) (-1)) (hL : env.locals ≠ I) (h0 : h₀.get? I = none) (hne : ∀ p ∈ Led c₀, p.1 ≠ I) (F : Fr h₀ env.locals s.heap m₀) (N : News h₀ env.locals s.heap (Led c₀)) (hf : Facts c₀) (hk : ∀ p ∈ ps c₀, m₀ p.1 = some p.2) (hp : P [] c₀)
    (turn : ∀ (c : σ) (pre : List Int) (k : Int) t (u : Str → Option Value) h tk own, k = (n : Int) - 1 - (pre.length : Int) → pre.length < n → OwnOff own ((Led c₀).map (·.1)) → Facts c → P pre c →
      Fr h₀ env.locals h (fun y => if y = x then some (.int k t) else kstB (fun z => if stored.contains z then u z else m₀ z) (ps c) y) → News h₀ env.locals h (Led c ++ own) →
      wpAny (model prog w) A (execs body env) (InvPostN h₀ env.locals (KstS Led ps Facts x stored m₀ P (pre ++ [k])) own ((Led c₀).map (·.1)) { s with heap := h, toks := tk } Q) E { s with heap := h, toks := tk })
    (done : ∀ (c : σ) (u : Str → Option Value) h tk, Facts c → P (downKs ((n : Int) - 1) n) c → Fr h₀ env.locals h (fun y => if y = x then u y else kstB (fun z => if stored.contains z then u z else m₀ z) (ps c) y) → News h₀ env.locals h (Led c) → Q .next { s with heap := h, toks := tk }) :
    wpAny (model prog w) A (pyIter (.ref I)) (fun it s₂ => LoopAtV prog w A h₀ env x body Q E it s₂) E s := by
  refine wpAny_pyIter_rangeiter hI ?_
  have W : Walks prog w A I [I] [I] n (fun i v => i < n ∧ ∃ t, v = .int ((n : Int) - 1 + i * (-1)) t)
      (fun i h => IsRangeIter h I ((n : Int) - 1 + (i : Nat) * (-1)) ((n : Int) - (i : Nat)) (-1)) := (Walks.range hh _ ((n : Int) - 1) (-1) n).bound
  refine loop_invN (fun i m nx => KstS Led ps Facts x stored m₀ P ((downKs ((n : Int) - 1) n).take i) m nx) W ?_ ?_ ?_ ?_ (by show IsRangeIter _ _ _ _ _; simpa using hI) F N ⟨c₀, rfl, hf, hk, fun _ _ _ _ => rfl, by simpa using hp⟩ ?_ ?_
  · intro hm
    exact hL (List.mem_singleton.mp hm)
  · intro b hb
    rw [List.mem_singleton.mp hb]
    exact h0
  · intro p hp hI
    exact hne p hp (List.mem_singleton.mp hI)
  · intro p hp hI
    exact hne p hp (List.mem_singleton.mp hI)
  · rintro i v m₁ nx h tk own hi ⟨_, t, rfl⟩ _ hoff ⟨c, rfl, hf', h1, h2, hp'⟩ F₁ N₁
    have e1 : (n : Int) - 1 + (i : Int) * (-1) = (n : Int) - 1 - (i : Int) := by omega
    rw [e1] at F₁
    have hk' : (downKs ((n : Int) - 1) n)[i]? = some ((n : Int) - 1 - (i : Int)) := by simp [downKs, hi]
    have hs : (downKs ((n : Int) - 1) n).take (i + 1) = (downKs ((n : Int) - 1) n).take i ++ [(n : Int) - 1 - (i : Int)] := by simp [List.take_add_one, hk']
    have hlen : ((downKs ((n : Int) - 1) n).take i).length = i := by rw [List.length_take, downKs_length]; omega
    rw [hs]
    exact turn c _ _ t m₁ h tk own (by rw [hlen]) (by rw [hlen]; exact hi) hoff hf' hp' (kst_fr h1 h2 F₁) N₁
  · rintro m₁ nx h tk ⟨c, rfl, hf', h1, h2, hp'⟩ F₁ N₁
    have hl : (downKs ((n : Int) - 1) n).take n = downKs ((n : Int) - 1) n := List.take_of_length_le (Nat.le_of_eq (downKs_length _ _))
    rw [hl] at hp'
    exact done c m₁ h tk hf' hp' (kst_frOut h1 h2 F₁) N₁
end

theorem sdGo_length (x : Int) (sp : Nat) : ∀ (pos : Nat) (ns : List Int), (sdGo x sp ns pos).length = ns.length := by
  intro pos
  induction pos using Nat.strongRecOn with
  | _ pos ih =>
    intro ns
    rw [sdGo]
    split
    · split
      · rw [ih _ (by omega), List.length_set]
      · rw [List.length_set]
    · rw [List.length_set]
theorem suGo_length : ∀ (k : Nat) (ns : List Int) (pos : Nat), ns.length - pos = k → (suGo ns pos).1.length = ns.length := by
  intro k
  induction k using Nat.strongRecOn with
  | _ k ih =>
    intro ns pos e
    by_cases h : 2 * pos + 1 < ns.length
    · rw [suGo_down h]
      have h1 := suC_le ns pos
      have h2 := suC_lt h
      rw [ih (ns.length - suC ns pos) (by omega) _ _ (by rw [List.length_set]), List.length_set]
    · rw [suGo_stop h]
theorem siftup_length (ns : List Int) (pos : Nat) : (siftup ns pos).length = ns.length := by
  unfold siftup
  rw [sdGo_length, List.length_set, suGo_length _ _ _ rfl]
/-- sift up k - 1, .., 0 -/
def hpGo : Nat → List Int → List Int
  | 0, h => h
  | k + 1, h => hpGo k (siftup h k)
def heapifyL (ns : List Int) : List Int := hpGo (ns.length / 2) ns
theorem hp_turn {ns h : List Int} {pre : List Int} {k : Int} {nn : Nat} {R : List Int} (hk : k = (nn : Int) - 1 - (pre.length : Int)) (hl : pre.length < nn) (h1 : h.length = ns.length) (h2 : hpGo (nn - pre.length) h = R) :
    (siftup h k.toNat).length = ns.length ∧ hpGo (nn - (pre ++ [k]).length) (siftup h k.toNat) = R := by
  refine ⟨(siftup_length _ _).trans h1, ?_⟩
  have e : nn - pre.length = (nn - (pre ++ [k]).length) + 1 := by simp only [List.length_append, List.length_cons, List.length_nil]; omega
  have e2 : k.toNat = nn - (pre ++ [k]).length := by simp only [List.length_append, List.length_cons, List.length_nil]; omega
  rw [e] at h2
  rw [← h2, e2]
  rfl
theorem hp_done {h : List Int} {a : Int} {nn : Nat} {R : List Int} (h2 : hpGo (nn - (downKs a nn).length) h = R) : h = R := by
  rw [downKs_length, Nat.sub_self] at h2
  exact h2
end Mine
end

-- part SU
section
open PySem PySem.W PyProof.Rows
namespace Mine
local macro_rules | `(tactic| ktr_enter) => `(tactic| (refine' code_defG ?k1 ?k2 ?k3 ?k4 ?k5 ?kA ?kF ?kK ?k6 ?k7 ?k8 ?k9 ?kB ?_ ?c2 ?c3 ?c4 ?c5; (case kA => exact rfl); (case kF => exact rfl); (case kK => assumption); (case k1 => k_asm); (case k2 => k_asm); (case k3 => k_asm); (case k4 => k_asm); (case k5 => k_asm); (case k6 => k_is); (case k7 => k_is); (case k8 => ktr_room); (case k9 => exact BindsTo.of_eq rfl); (case c5 => decide); (case kB => exact locs rfl); (case c2 => exact rfl); (case c3 => exact rfl); (case c4 => exact rfl); k_whole; intro g' L' h' FG' F' N' B' X' T' GS'; (try dsimp only); (try k_fold)))
local macro_rules | `(tactic| walk_at "binaryOp RShift int int") => `(tactic| (k_here; (with_reducible refine Mine.rshift_one ?_)))
set_option maxRecDepth 100000 in
set_option maxHeartbeats 400000 in
theorem siftup_call {prog : Program} {w : World} {p : Program} {loose : List Str} {mean : ExcName → Option Value} {mg mb : Str → Option Value}
    {dp un : Nat} {gd : Option (List Code)} {cn : Str} {cs : Scope} {a : Addr} {ccd : Value} {cl : List (Str × Addr)} {outer : List Env} {A₀ : Around} {base h₀ : Heap} {L : Addr} {m : Str → Option Value} {s : Shared} {Q E : Value → Shared → Prop}
    {l : Addr} {vs : List Value} {ns : List Int} {n : Nat} {ps : Int} {t2 : Tok}
    (B : Below A₀ base outer h₀) (F : Fr h₀ L s.heap m) (X : (hdR.heap_39 w.params).In h₀) (N : News h₀ L s.heap [(l, listOf vs.toArray n)]) (T : Top p loose mean mg mb h₀) (hk : cs.kind = .function)
    (hi : IntsAre vs ns) (h1 : 0 ≤ ps) (h2 : ps < ns.length) (h3 : ns.length ≤ 16) (hdp : dp + 4 < recursionLimit) (hun : un + 32 < cLine)
    (ret : ∀ h' tk' vs' n', Fr h₀ L h' m → News h₀ L h' [(l, listOf vs'.toArray n')] → IntsAre vs' (siftup ns ps.toNat) → Keeps l s.heap h' → Q .none { s with heap := h', toks := tk' }) :
    wpAny (model prog w) (ktrTop dp un gd cn cs L a ccd cl outer) (call (.ref 49) [.ref l, .int ps t2]) Q E s := by
  w_on
  k_with_none
  k_with "exec While Compare cons nil" => k_while (fun script pos childpos heap => 0 ≤ pos ∧ pos < (ns.length : Int) ∧ childpos = 2 * pos + 1 ∧ heap.length = ns.length ∧ suGo heap pos.toNat = suGo ns ps.toNat) (fun script pos childpos heap => ns.length - pos.toNat) "pos" "childpos" "heap"
  k_with "state" => first | exact ⟨by assumption, by assumption, rfl, rfl, rfl⟩ | exact su_turn1 (by assumption) (by assumption) (by assumption) (by assumption) (by assumption) (by assumption) | exact su_turn2 (by assumption) (by assumption) (by assumption) (by assumption) (by assumption) (by assumption) | exact su_turn3 (by assumption) (by assumption) (by assumption) (by assumption) (by assumption) (by assumption)
  k_with "call ref" => (
    refine' siftdown_call ?k1 ?k2 ?k3 ?k4 ?k5 ?kK ?ki ?h0 ?h1 ?h2 ?h3 ?hd ?hu ?_
    (case k1 => k_asm)
    (case k2 => k_asm)
    (case k3 => k_asm)
    (case k4 => k_asm)
    (case k5 => k_asm)
    (case kK => first | exact rfl | assumption)
    (case ki => assumption)
    (case h0 => first | assumption | omega)
    (case h1 => first | assumption | omega)
    (case h2 => (simp only [List.length_set]; omega))
    (case h3 => (simp only [List.length_set]; omega))
    (case hd => ktr_room)
    (case hu => ktr_units)
    intro h9 tk9 vs9 n9 F9 N9 hi9 hk9
    (try dsimp only)
    (try k_fold))
  w_strict (
    refine wpAny_call ?_
    k_dflt ktr_enter
    k_steps
    all_goals (first
      | exact ret _ _ _ _ (by assumption) (by assumption) (ints_eq (by assumption) (su_exit (by assumption) (by assumption) (by assumption) (by assumption) (by assumption))) (keeps_of (by assumption) (by assumption))
      | (trace_state; w_report)))

theorem siftup_led {prog : Program} {w : World} {p : Program} {loose : List Str} {mean : ExcName → Option Value} {mg mb : Str → Option Value}
    {dp un : Nat} {gd : Option (List Code)} {cn : Str} {cs : Scope} {a : Addr} {ccd : Value} {cl : List (Str × Addr)} {outer : List Env} {A₀ : Around} {base h₀ : Heap} {L : Addr} {m : Str → Option Value} {s : Shared} {Q E : Value → Shared → Prop}
    {l : Addr} {vs : List Value} {ns : List Int} {n : Nat} {ps : Int} {t2 : Tok} {news : List (Addr × Obj)} {news' : List Value → Nat → List (Addr × Obj)}
    (B : Below A₀ base outer h₀) (F : Fr h₀ L s.heap m) (X : (hdR.heap_39 w.params).In h₀) (N : News h₀ L s.heap news) (T : Top p loose mean mg mb h₀) (hk : cs.kind = .function)
    (U : ∀ vs' n', Upd l (listOf vs.toArray n) (listOf vs'.toArray n') news (news' vs' n'))
    (hi : IntsAre vs ns) (h1 : 0 ≤ ps) (h2 : ps < ns.length) (h3 : ns.length ≤ 16) (hdp : dp + 4 < recursionLimit) (hun : un + 32 < cLine)
    (ret : ∀ h' tk' vs' n', Fr h₀ L h' m → News h₀ L h' (news' vs' n') → IntsAre vs' (siftup ns ps.toNat) → Keeps l s.heap h' → Q .none { s with heap := h', toks := tk' }) :
    wpAny (model prog w) (ktrTop dp un gd cn cs L a ccd cl outer) (call (.ref 49) [.ref l, .int ps t2]) Q E s :=
  siftup_call B F X (news_one N (U vs n)) T hk hi h1 h2 h3 hdp hun fun h' tk' vs' n' F' N' hi' hk' => ret h' tk' vs' n' F' (news_after N (U vs' n') hk' N') hi' hk'
end Mine
end

-- part HF
section
open PySem PySem.W PyProof.Rows
namespace Mine
local macro_rules | `(tactic| ktr_enter) => `(tactic| (refine' code_defG ?k1 ?k2 ?k3 ?k4 ?k5 ?kA ?kF ?kK ?k6 ?k7 ?k8 ?k9 ?kB ?_ ?c2 ?c3 ?c4 ?c5; (case kA => exact rfl); (case kF => exact rfl); (case kK => assumption); (case k1 => k_asm); (case k2 => k_asm); (case k3 => k_asm); (case k4 => k_asm); (case k5 => k_asm); (case k6 => k_is); (case k7 => k_is); (case k8 => ktr_room); (case k9 => exact BindsTo.of_eq rfl); (case c5 => decide); (case kB => exact locs rfl); (case c2 => exact rfl); (case c3 => exact rfl); (case c4 => exact rfl); k_whole; intro g' L' h' FG' F' N' B' X' T' GS'; (try dsimp only); (try k_fold)))
set_option maxRecDepth 100000 in
set_option maxHeartbeats 400000 in
theorem heapify_call {prog : Program} {w : World} {p : Program} {loose : List Str} {mean : ExcName → Option Value} {mg mb : Str → Option Value}
    {dp un : Nat} {gd : Option (List Code)} {cn : Str} {cs : Scope} {a : Addr} {ccd : Value} {cl : List (Str × Addr)} {outer : List Env} {A₀ : Around} {base h₀ : Heap} {L : Addr} {m : Str → Option Value} {s : Shared} {Q E : Value → Shared → Prop}
    {l : Addr} {vs : List Value} {ns : List Int} {n : Nat}
    (B : Below A₀ base outer h₀) (F : Fr h₀ L s.heap m) (X : (hdR.heap_39 w.params).In h₀) (N : News h₀ L s.heap [(l, listOf vs.toArray n)]) (T : Top p loose mean mg mb h₀) (hk : cs.kind = .function)
    (hi : IntsAre vs ns) (h3 : ns.length ≤ 16) (hdp : dp + 6 < recursionLimit) (hun : un + 48 < cLine)
    (ret : ∀ h' tk' vs' n', Fr h₀ L h' m → News h₀ L h' [(l, listOf vs'.toArray n')] → IntsAre vs' (heapifyL ns) → Keeps l s.heap h' → Q .none { s with heap := h', toks := tk' }) :
    wpAny (model prog w) (ktrTop dp un gd cn cs L a ccd cl outer) (call (.ref 35) [.ref l]) Q E s := by
  w_on
  k_with_none
  k_with "call type:reversed cons nil" => (
    refine' reversed_rangeK (ns.length / 2) ?k1 ?k2 ?k3 ?k4 ?k5 ?_
    (case k1 => k_asm)
    (case k2 => k_asm)
    (case k3 => assumption)
    (case k4 => exact fdiv_two _)
    (case k5 => omega)
    intro I9 h9 F9 N9 hI9 hne9 hL9 h09
    (try dsimp only)
    (try k_fold))
  k_with "pyIter ref" => (
    (rename Fr _ _ _ _ => lF')
    (rename News _ _ _ _ => lN')
    (with_unfolding_all refine' kst_revIter (σ := List Value × List Int × Nat) (fun c => [(l, listOf c.1.toArray c.2.2)]) (fun _ => []) (fun c => IntsAre c.1 c.2.1) [] (fun pre c => c.2.1.length = ns.length ∧ hpGo (ns.length / 2 - pre.length) c.2.1 = hpGo (ns.length / 2) ns) (vs, ns, n) ?a1 ?a2 ?a3 ?a4 ?a5 lF' lN' ?a6 ?a7 ?a8 ?turn ?done)
    (case a1 => exact rfl)
    (case a2 => assumption)
    (case a3 => assumption)
    (case a4 => assumption)
    (case a5 => assumption)
    (case a6 => assumption)
    (case a7 => exact List.forall_mem_nil _)
    (case a8 => exact ⟨rfl, rfl⟩)
    case' turn =>
      clear lF' lN'
      rintro ⟨vs1, ns1, n1⟩ kPre kN kT kU kH kTk kOwn kEq kLt kOff kFacts ⟨kI1, kI2⟩ kFr kNews
      have kMark := kstMark
      dsimp only [kstB] at kFr kNews kFacts kI1 kI2 kOff
      simp only [List.nil_append, List.cons_append, List.append_nil] at kNews
      simp only [List.map_cons, List.map_nil] at kOff
      try k_fold
    case' done =>
      clear lF' lN'
      rintro ⟨vs1, ns1, n1⟩ kU kH kTk kFacts ⟨kI1, kI2⟩ kFr kNews
      have kMark := kstMark
      dsimp only [kstB] at kFr kNews kFacts kI1 kI2
      try k_fold)
  k_with "state" => exact hp_turn (by assumption) (by assumption) (by assumption) (by assumption)
  k_with "call ref" => (
    refine' siftup_led ?k1 ?k2 ?k3 ?k4 ?k5 ?kK ?kU ?ki ?h1 ?h2 ?h3 ?hd ?hu ?_
    (case k1 => k_asm)
    (case k2 => k_asm)
    (case k3 => k_asm)
    (case k4 => k_asm)
    (case k5 => k_asm)
    (case kK => first | exact rfl | assumption)
    (case kU => intro vs8 n8; k_upd)
    (case ki => assumption)
    (case h1 => first | assumption | omega)
    (case h2 => omega)
    (case h3 => omega)
    (case hd => ktr_room)
    (case hu => ktr_units)
    intro h9 tk9 vs9 n9 F9 N9 hi9 hk9
    (try dsimp only)
    (try k_fold))
  w_strict (
    refine wpAny_call ?_
    k_dflt ktr_enter
    k_steps
    all_goals (first
      | exact ret _ _ _ _ (by assumption) (by assumption) (ints_eq (by assumption) (hp_done (by assumption))) (keeps_of (by assumption) (by assumption))
      | (trace_state; w_report)))
end Mine
end

-- part HP
section
open PySem PySem.W PyProof.Rows
namespace Mine
local macro_rules | `(tactic| ktr_enter) => `(tactic| (refine' code_defG ?k1 ?k2 ?k3 ?k4 ?k5 ?kA ?kF ?kK ?k6 ?k7 ?k8 ?k9 ?kB ?_ ?c2 ?c3 ?c4 ?c5; (case kA => exact rfl); (case kF => exact rfl); (case kK => assumption); (case k1 => k_asm); (case k2 => k_asm); (case k3 => k_asm); (case k4 => k_asm); (case k5 => k_asm); (case k6 => k_is); (case k7 => k_is); (case k8 => ktr_room); (case k9 => exact BindsTo.of_eq rfl); (case c5 => decide); (case kB => exact locs rfl); (case c2 => exact rfl); (case c3 => exact rfl); (case c4 => exact rfl); k_whole; intro g' L' h' FG' F' N' B' X' T' GS'; (try dsimp only); (try k_fold)))
def popL (ns : List Int) : Int × List Int :=
  if ns.dropLast = [] then (ns.getLastD 0, []) else (ns.dropLast.getD 0 0, siftup (ns.dropLast.set 0 (ns.getLastD 0)) 0)
theorem popL_pos {ns : List Int} (h : 0 < ns.dropLast.length) : popL ns = (ns.dropLast.getD (Int.toNat 0) 0, siftup (ns.dropLast.set (Int.toNat 0) (ns.getLastD 0)) (Int.toNat 0)) := by
  unfold popL
  rw [if_neg (fun e => by rw [e] at h; exact absurd h (Nat.lt_irrefl 0))]
  rfl
theorem popL_neg {ns : List Int} (h : ¬ 0 < ns.dropLast.length) : popL ns = (ns.getLastD 0, ns.dropLast) := by
  have e : ns.dropLast = [] := List.length_eq_zero_iff.mp (by omega)
  unfold popL
  rw [if_pos e, e]
theorem popL_length (ns : List Int) (h : 0 < ns.length) : (popL ns).2.length = ns.length - 1 := by
  by_cases q : 0 < ns.dropLast.length
  · rw [popL_pos q, siftup_length, List.length_set, List.length_dropLast]
  · rw [popL_neg q, List.length_dropLast]
set_option maxRecDepth 100000 in
set_option maxHeartbeats 400000 in
theorem heappop_call {prog : Program} {w : World} {p : Program} {loose : List Str} {mean : ExcName → Option Value} {mg mb : Str → Option Value}
    {dp un : Nat} {gd : Option (List Code)} {cn : Str} {cs : Scope} {a : Addr} {ccd : Value} {cl : List (Str × Addr)} {outer : List Env} {A₀ : Around} {base h₀ : Heap} {L : Addr} {m : Str → Option Value} {s : Shared} {Q E : Value → Shared → Prop}
    {l : Addr} {vs : List Value} {ns : List Int} {n : Nat}
    (B : Below A₀ base outer h₀) (F : Fr h₀ L s.heap m) (X : (hdR.heap_39 w.params).In h₀) (N : News h₀ L s.heap [(l, listOf vs.toArray n)]) (T : Top p loose mean mg mb h₀) (hk : cs.kind = .function)
    (hi : IntsAre vs ns) (h2 : 0 < ns.length) (h3 : ns.length ≤ 16) (hdp : dp + 6 < recursionLimit) (hun : un + 48 < cLine)
    (ret : ∀ h' tk' vs' n' t', Fr h₀ L h' m → News h₀ L h' [(l, listOf vs'.toArray n')] → IntsAre vs' (popL ns).2 → Keeps l s.heap h' → Q (.int (popL ns).1 t') { s with heap := h', toks := tk' }) :
    wpAny (model prog w) (ktrTop dp un gd cn cs L a ccd cl outer) (call (.ref 28) [.ref l]) Q E s := by
  w_on
  k_with_none
  k_with "call ref" => (
    refine' siftup_led ?k1 ?k2 ?k3 ?k4 ?k5 ?kK ?kU ?ki ?h1 ?h2 ?h3 ?hd ?hu ?_
    (case k1 => k_asm)
    (case k2 => k_asm)
    (case k3 => k_asm)
    (case k4 => k_asm)
    (case k5 => k_asm)
    (case kK => first | exact rfl | assumption)
    (case kU => intro vs8 n8; k_upd)
    (case ki => assumption)
    (case h1 => first | assumption | omega)
    (case h2 => (simp only [List.length_set, List.length_dropLast]; omega))
    (case h3 => (simp only [List.length_set, List.length_dropLast]; omega))
    (case hd => ktr_room)
    (case hu => ktr_units)
    intro h9 tk9 vs9 n9 F9 N9 hi9 hk9
    (try dsimp only)
    (try k_fold))
  have hvl := hi.length
  have hdl : ns.dropLast.length = ns.length - 1 := List.length_dropLast
  have hdv : vs.dropLast.length = ns.length - 1 := by rw [← hvl]; exact List.length_dropLast
  w_strict (
    refine wpAny_call ?_
    k_dflt ktr_enter
    k_steps
    all_goals (first
      | (have e9 := popL_pos (by assumption); rw [e9] at ret; exact ret _ _ _ _ _ (by assumption) (by assumption) (by assumption) (keeps_of (by assumption) (by assumption)))
      | (have e9 := popL_neg (by assumption); rw [e9] at ret; exact ret _ _ _ _ _ (by assumption) (by assumption) (by assumption) (keeps_of (by assumption) (by assumption)))
      | (trace_state; w_report)))

theorem heappop_led {prog : Program} {w : World} {p : Program} {loose : List Str} {mean : ExcName → Option Value} {mg mb : Str → Option Value}
    {dp un : Nat} {gd : Option (List Code)} {cn : Str} {cs : Scope} {a : Addr} {ccd : Value} {cl : List (Str × Addr)} {outer : List Env} {A₀ : Around} {base h₀ : Heap} {L : Addr} {m : Str → Option Value} {s : Shared} {Q E : Value → Shared → Prop}
    {l : Addr} {vs : List Value} {ns : List Int} {n : Nat} {news : List (Addr × Obj)} {news' : List Value → Nat → List (Addr × Obj)}
    (B : Below A₀ base outer h₀) (F : Fr h₀ L s.heap m) (X : (hdR.heap_39 w.params).In h₀) (N : News h₀ L s.heap news) (T : Top p loose mean mg mb h₀) (hk : cs.kind = .function)
    (U : ∀ vs' n', Upd l (listOf vs.toArray n) (listOf vs'.toArray n') news (news' vs' n'))
    (hi : IntsAre vs ns) (h2 : 0 < ns.length) (h3 : ns.length ≤ 16) (hdp : dp + 6 < recursionLimit) (hun : un + 48 < cLine)
    (ret : ∀ h' tk' vs' n' t', Fr h₀ L h' m → News h₀ L h' (news' vs' n') → IntsAre vs' (popL ns).2 → Keeps l s.heap h' → Q (.int (popL ns).1 t') { s with heap := h', toks := tk' }) :
    wpAny (model prog w) (ktrTop dp un gd cn cs L a ccd cl outer) (call (.ref 28) [.ref l]) Q E s :=
  heappop_call B F X (news_one N (U vs n)) T hk hi h2 h3 hdp hun fun h' tk' vs' n' t' F' N' hi' hk' => ret h' tk' vs' n' t' F' (news_after N (U vs' n') hk' N') hi' hk'
end Mine
end

-- part Base3
section
open PySem PySem.W PySem.Calls PyProof.Rows
set_option maxRecDepth 100000
namespace Mine
/-- a def with cells, entered with no ledger: the caller's whole heap is the callee's ground -/
theorem enter_cells {prog : Program} {w : World} {A₀ A : Around} {s : Shared} {base h₀ : Heap} {L : Addr} {m : Str → Option Value} {K : Frag} {p : Program} {loose : List Str} {mean : ExcName → Option Value} {mg mb : Str → Option Value}
    {env : Env} {outer : List Env} {R : Result → Shared → Prop} {name qual : Str} {params : Arguments} {body : List Stmt} {scope : Scope} {dV kV doc pm cdv ct oc : Value} {an od : Option Addr} {osl : Array (Option Value)} {f : Addr} {args : Args} {binds : List (Str × Value)}
    (B : Below A₀ base outer h₀) (F : Fr h₀ L s.heap m) (X₀ : K.In h₀) (T : Top p loose mean mg mb h₀) (hA : A.frames = some (env :: outer)) (hf : env.frame = some L) (hke : env.scope.kind = .function)
    (ho : K.lookup f = some ⟨oc, od, .func (fnOf name qual params body scope dV kV doc pm an cdv ct), osl⟩) (hcd : codeIn K cdv qual = true) (hroom : A.depth < recursionLimit)
    (hbind : BindsTo s (fnOf name qual params body scope dV kV doc pm an cdv ct) args binds) (hkind : (binds.all fun y => scope.names.lookup y.1 == some .local || scope.names.lookup y.1 == some .cell) = true)
    (hnd : ((cellsFrom 0 scope.names []).map (·.1)).Nodup)
    (h : ∀ L' h₁ tk cells, Fr s.heap L' h₁ (bindL (envOfC qual scope L' f cdv).kindOf binds fun _ => none) → News s.heap L' h₁ cells →
      CellsAre (bindC (envOfC qual scope L' f cdv).kindOf binds fun _ => none) (cellsFrom (L' + 1) scope.names []) cells → Below A base (env :: outer) s.heap → K.In s.heap → Top p loose mean mg mb s.heap → h₀.StaysIn s.heap →
      wpAny (model prog w) (A.deeper (envOfC qual scope L' f cdv)) (execs body (envOfC qual scope L' f cdv))
        (fun fl s' => LeaveK h₀ L m s.heap R (match fl with | .ret v => v | _ => .none) s')
        (fun e s' => wpAny (model prog w) (A.deeper (envOfC qual scope L' f cdv)) (leaving (envOfC qual scope L' f cdv) e) (fun _ s'' => R (.error e) s'') (fun e' s'' => R (.error e') s'') s')
        { s with heap := h₁, toks := tk })
    (hco : scope.isCoroutine = false) (hgen : scope.isGenerator = false) (hk : scope.kind = .function) : codeAny (model prog w) A (.call (.ref f) args) R s := by
  have gr := groundX (R := R) B F (News.nil (h₀ := h₀) (L := L)) hA hf hke
  have FG : Fr h₀ L s.heap m := gr.1
  have BG : Below A base (env :: outer) s.heap := gr.2.1
  have st : h₀.StaysIn s.heap := gr.2.2.1
  have lv : ∀ v s', LeaveK h₀ L m s.heap R v s' → R (.ok (.ret v)) s' := gr.2.2.2
  have X := X₀.keeps F.keep
  refine codeAny_call_function hroom (X _ _ ho) rfl hco hgen rfl (codeRec_of X hcd) (hbind _ _ _ _ ?_)
  refine wpAny_newFunctionEnv_cells hk (kindsX hkind _) fun env' he s' x => ?_
  subst he
  have kp := x.toInCall.keep
  refine ⟨(T.nolimit.keeps F.keep).keeps kp, codeAny_func ?_⟩
  obtain ⟨h₁, tk, rfl, _⟩ := x.done
  obtain ⟨cells, NC, Y⟩ := Cl.news (h₀ := s.heap) (Nat.le_refl _) fun n c hm => ⟨x.cell n c (lookup_of_mem_nodup (cellsFrom_names scope.names 0 (s.heap.objs.size + 1) [] [] rfl ▸ hnd) hm), x.above n c hm⟩
  exact wpAny_mono (h s.heap.objs.size h₁ tk cells ⟨x.toInCall.ns, kp, Nat.le_refl _⟩ NC Y BG X (T.keeps st) st) (fun fl s' hl => lv _ _ hl) fun _ _ y => y
end Mine
namespace Mine
theorem small_up {k : Nat} (h : k ≤ 100) : Builtin.Range.small 0 (k : Int) 1 = true := by
  unfold Builtin.Range.small
  rw [rangeSize_up (by omega)]
  rw [fit_small (show (-1000 : Int) ≤ 0 by omega) (by omega), fit_small (show (-1000 : Int) ≤ (k : Int) by omega) (by omega), fit_small (show (-1000 : Int) ≤ 1 by omega) (by omega), if_pos (by decide), fit_small (show (-1000 : Int) ≤ (k : Int) + (1 - 1) by omega) (by omega)]
  simp
theorem hpGo_length : ∀ (k : Nat) (ns : List Int), (hpGo k ns).length = ns.length
  | 0, _ => rfl
  | k + 1, ns => by rw [hpGo, hpGo_length k, siftup_length]
theorem heapifyL_length (ns : List Int) : (heapifyL ns).length = ns.length := hpGo_length _ _
end Mine
namespace Mine
/-- a def without cells, entered with no ledger: the caller's whole heap is the callee's ground -/
theorem enter_plain {prog : Program} {w : World} {A₀ A : Around} {s : Shared} {base h₀ : Heap} {L : Addr} {m : Str → Option Value} {K : Frag} {p : Program} {loose : List Str} {mean : ExcName → Option Value} {mg mb : Str → Option Value}
    {env : Env} {outer : List Env} {R : Result → Shared → Prop} {name qual : Str} {params : Arguments} {body : List Stmt} {scope : Scope} {dV kV doc pm cdv ct oc : Value} {an od : Option Addr} {osl : Array (Option Value)} {f : Addr} {args : Args} {binds : List (Str × Value)}
    (B : Below A₀ base outer h₀) (F : Fr h₀ L s.heap m) (X₀ : K.In h₀) (T : Top p loose mean mg mb h₀) (hA : A.frames = some (env :: outer)) (hf : env.frame = some L) (hke : env.scope.kind = .function)
    (ho : K.lookup f = some ⟨oc, od, .func (fnOf name qual params body scope dV kV doc pm an cdv ct), osl⟩) (hcd : codeIn K cdv qual = true) (hroom : A.depth < recursionLimit)
    (hbind : BindsTo s (fnOf name qual params body scope dV kV doc pm an cdv ct) args binds) (hloc : ∀ y ∈ binds, scope.names.lookup y.1 = some .local)
    (h : ∀ L' h₁, Fr s.heap L' h₁ (fun y => binds.reverse.lookup y) → News s.heap L' h₁ [] → Below A base (env :: outer) s.heap → K.In s.heap → Top p loose mean mg mb s.heap →
      wpAny (model prog w) (A.deeper (envOf qual scope L' f cdv)) (execs body (envOf qual scope L' f cdv))
        (fun fl s' => LeaveK h₀ L m s.heap R (match fl with | .ret v => v | _ => .none) s')
        (fun e s' => wpAny (model prog w) (A.deeper (envOf qual scope L' f cdv)) (leaving (envOf qual scope L' f cdv) e) (fun _ s'' => R (.error e) s'') (fun e' s'' => R (.error e') s'') s')
        { s with heap := h₁, toks := s.toks + binds.length })
    (hco : scope.isCoroutine = false) (hgen : scope.isGenerator = false) (hk : scope.kind = .function) (hcell : ∀ x ∈ scope.names, x.2 ≠ .cell) : codeAny (model prog w) A (.call (.ref f) args) R s := by
  have gr := groundX (R := R) B F (News.nil (h₀ := h₀) (L := L)) hA hf hke
  have BG : Below A base (env :: outer) s.heap := gr.2.1
  have st : h₀.StaysIn s.heap := gr.2.2.1
  have lv : ∀ v s', LeaveK h₀ L m s.heap R v s' → R (.ok (.ret v)) s' := gr.2.2.2
  have X := X₀.keeps F.keep
  refine codeAny_call_def (fd := fnOf name qual params body scope dV kV doc pm an cdv ct) (body := body) (binds := binds) hroom (X _ _ ho) rfl (T.nolimit.keeps F.keep) (codeRec_of X hcd) rfl hbind hcell hloc (fun h₁ hns hk₁ => ?_) hco hgen hk
  exact wpAny_mono (h s.heap.objs.size h₁ ⟨hns, hk₁, Nat.le_refl _⟩ News.nil BG X (T.keeps st)) (fun fl s' hl => lv _ _ hl) fun _ _ y => y
end Mine
end

-- part OH
section
open PySem PySem.W PyProof.Rows
namespace Mine
local macro_rules | `(tactic| walk_at $s:str) => `(tactic| k_extra $s)
local macro_rules | `(tactic| ktr_enter) => `(tactic| (refine' code_defG ?k1 ?k2 ?k3 ?k4 ?k5 ?kA ?kF ?kK ?k6 ?k7 ?k8 ?k9 ?kB ?_ ?c2 ?c3 ?c4 ?c5; (case kA => exact rfl); (case kF => exact rfl); (case kK => assumption); (case k1 => k_asm); (case k2 => k_asm); (case k3 => k_asm); (case k4 => k_asm); (case k5 => k_asm); (case k6 => k_is); (case k7 => k_is); (case k8 => ktr_room); (case k9 => exact BindsTo.of_eq rfl); (case c5 => decide); (case kB => exact locs rfl); (case c2 => exact rfl); (case c3 => exact rfl); (case c4 => exact rfl); k_whole; intro g' L' h' FG' F' N' B' X' T' GS'; (try dsimp only); (try k_fold)))

theorem heapify_led {prog : Program} {w : World} {p : Program} {loose : List Str} {mean : ExcName → Option Value} {mg mb : Str → Option Value}
    {dp un : Nat} {gd : Option (List Code)} {cn : Str} {cs : Scope} {a : Addr} {ccd : Value} {cl : List (Str × Addr)} {outer : List Env} {A₀ : Around} {base h₀ : Heap} {L : Addr} {m : Str → Option Value} {s : Shared} {Q E : Value → Shared → Prop}
    {l : Addr} {vs : List Value} {ns : List Int} {n : Nat} {news : List (Addr × Obj)} {news' : List Value → Nat → List (Addr × Obj)}
    (B : Below A₀ base outer h₀) (F : Fr h₀ L s.heap m) (X : (hdR.heap_39 w.params).In h₀) (N : News h₀ L s.heap news) (T : Top p loose mean mg mb h₀) (hk : cs.kind = .function)
    (U : ∀ vs' n', Upd l (listOf vs.toArray n) (listOf vs'.toArray n') news (news' vs' n'))
    (hi : IntsAre vs ns) (h3 : ns.length ≤ 16) (hdp : dp + 6 < recursionLimit) (hun : un + 48 < cLine)
    (ret : ∀ h' tk' vs' n', Fr h₀ L h' m → News h₀ L h' (news' vs' n') → IntsAre vs' (heapifyL ns) → Keeps l s.heap h' → Q .none { s with heap := h', toks := tk' }) :
    wpAny (model prog w) (ktrTop dp un gd cn cs L a ccd cl outer) (call (.ref 35) [.ref l]) Q E s :=
  heapify_call B F X (news_one N (U vs n)) T hk hi h3 hdp hun fun h' tk' vs' n' F' N' hi' hk' => ret h' tk' vs' n' F' (news_after N (U vs' n') hk' N') hi' hk'
/-- pop k times -/
def popsL : Nat → List Int → List Int
  | 0, _ => []
  | k + 1, ns => (popL ns).1 :: popsL k (popL ns).2
def heapsortL (ns : List Int) : List Int := popsL ns.length (heapifyL ns)

theorem comp_pops {prog : Program} {w : World} {A : Around} {h₀ : Heap} {L : Addr} {m : Str → Option Value} {env : Env} {elt : Expr} {x : Str} {scope : Scope} {cl : List (Str × Addr)} {s : Shared} {S : List (Addr × Obj) → Prop} {P : Nat → Value → Prop}
    {Fin : List Value → List (Addr × Obj) → Prop} {led : List Value → Nat → List (Addr × Obj)} {G : List Int}
    (step : ∀ vs1 ns1 n1 ys i v I oI C oC D m₂ h tk (E' : Value → Shared → Prop) (R : Value → List (Addr × Obj) → Prop), IntsAre vs1 ns1 → 0 < ns1.length → ns1.length ≤ 16 → P i v → LCg.NsObj oC m₂ → m₂ x = some v → Fr h₀ L h m →
      News h₀ L h ((I, oI) :: (C, oC) :: (D, LCg.lst ys) :: led vs1 n1) → LCg.Off3 I C D (led vs1 n1) → ((@Ne Nat I C) ∧ (@Ne Nat I D) ∧ (@Ne Nat C D)) → (∀ t vs2 n2, IntsAre vs2 (popL ns1).2 → R (.int (popL ns1).1 t) (led vs2 n2)) →
      wpAny (model prog w) A (eval elt (compEnvC scope cl C env)) (LCg.CompEnd h₀ L m { s with heap := h, toks := tk } I oI C oC D (LCg.lst ys) S R) E' { s with heap := h, toks := tk })
    (hlen : ∀ ns : List Int, 0 < ns.length → (popL ns).2.length = ns.length - 1)
    (fin : ∀ ys vs2 n2, IntsAre ys G → Fin ys (led vs2 n2)) :
    ∀ k i ys zs vs1 ns1 n1, ns1.length = k → k ≤ 16 → IntsAre vs1 ns1 → IntsAre ys zs → zs ++ popsL k ns1 = G →
      LCg.CompRest prog w A h₀ L m env elt x scope cl s S P Fin k i ys (led vs1 n1) := by
  intro k
  induction k with
  | zero =>
    intro i ys zs vs1 ns1 n1 _ _ _ hy e
    refine LCg.CompRest.zero (fin _ _ _ ?_)
    rw [← e]
    simpa [popsL] using hy
  | succ k ih =>
    intro i ys zs vs1 ns1 n1 hl h16 hi hy e
    refine LCg.CompRest.succ ?_
    intro v I oI C oC D m₂ h tk E' hP hN hx F N off ne
    refine step vs1 ns1 n1 ys i v I oI C oC D m₂ h tk E' _ hi (by omega) (by omega) hP hN hx F N off ne fun t vs2 n2 h2 => ?_
    refine ih (i + 1) _ (zs ++ [(popL ns1).1]) vs2 (popL ns1).2 n2 ?_ (by omega) h2 (IntsAre.append hy (.cons _ _ .nil)) ?_
    · rw [hlen _ (by omega)]; omega
    · rw [← e, List.append_assoc]; rfl
set_option maxRecDepth 100000 in
set_option maxHeartbeats 400000 in
theorem offheap_call {prog : Program} {w : World} {p : Program} {loose : List Str} {mean : ExcName → Option Value} {mg mb : Str → Option Value}
    {dp un : Nat} {gd : Option (List Code)} {cn : Str} {cs : Scope} {a : Addr} {ccd : Value} {cl : List (Str × Addr)} {outer : List Env} {A₀ : Around} {base h₀ : Heap} {L : Addr} {m : Str → Option Value} {s : Shared} {Q E : Value → Shared → Prop}
    {lnum : Addr} {vs : List Value} {ns : List Int}
    (B : Below A₀ base outer h₀) (F : Fr h₀ L s.heap m) (X : (hdR.heap_39 w.params).In h₀) (T : Top p loose mean mg mb h₀) (hk : cs.kind = .function) (hln : s.heap.IsList lnum vs.toArray)
    (hi : IntsAre vs ns) (h3 : ns.length ≤ 16) (hdp : dp + 8 < recursionLimit) (hun : un + 64 < cLine)
    (ret : ∀ D h' tk' ys n', Fr h₀ L h' m → h'.get? D = some (listOf ys.toArray n') → s.heap.get? D = none → IntsAre ys (heapsortL ns) → (∀ b o, s.heap.get? b = some o → h'.get? b = some o) → Q (.ref D) { s with heap := h', toks := tk' }) :
    wpAny (model prog w) (ktrTop dp un gd cn cs L a ccd cl outer) (call (.ref 68) [.ref lnum]) Q E s := by
  w_on
  k_with_none
  k_with "call ref" => (
    first
    | (refine' heappop_led ?k1 ?k2 ?k3 ?k4 ?k5 ?kK ?kU ?ki ?h2 ?h3 ?hd ?hu ?_; (case h2 => assumption))
    | refine' heapify_led ?k1 ?k2 ?k3 ?k4 ?k5 ?kK ?kU ?ki ?h3 ?hd ?hu ?_
    (case k1 => k_asm)
    (case k2 => k_asm)
    (case k3 => k_asm)
    (case k4 => k_asm)
    (case k5 => k_asm)
    (case kK => first | exact rfl | assumption)
    (case kU => intro vs8 n8; k_upd)
    (case ki => assumption)
    (case h3 => first | assumption | omega)
    (case hd => ktr_room)
    (case hu => ktr_units)
    first
    | intro h9 tk9 vs9 n9 F9 N9 hi9 hk9
    | intro h9 tk9 vs9 n9 t9 F9 N9 hi9 hk9
    (try dsimp only)
    (try k_fold))
  k_with "eval ListComp" => k_dflt (refine LCg.ListComp_U (F₀ := by k_asm) (by with_unfolding_all rfl) (by decide) (by rfl) (by decide) (by rfl) ?_)
  k_with "CompSrc" => k_dflt (
    refine' LCg.CompSrc.range (n := ns.length) ?a1 ?a2 ?a3 ?a4 ?a5 ?a6 ?a7 ?_
    (case a1 => exact rfl)
    (case a2 => k_asm)
    (case a3 => k_asm)
    (case a4 => assumption)
    (case a5 => exact small_up (by omega))
    (case a6 => exact rangeSize_up (by omega))
    (case a7 => (rw [PySem.sizeLine_eq]; omega))
    intro g9
    refine' comp_pops (led := fun v8 n8 => [(_, listOf v8.toArray n8), (_, _)]) ?step ?hlen ?fin ns.length 0 [] [] vs9 _ n9 ?b1 ?b2 ?b3 ?b4 ?b5
    (case b1 => exact heapifyL_length _)
    (case b2 => exact h3)
    (case b3 => assumption)
    (case b4 => exact .nil)
    (case b5 => exact rfl)
    (case hlen => exact popL_length)
    case' step =>
      intro vs1 ns1 n1 ys1 i1 v1 I1 oI1 C1 oC1 D1 m1 h1 tk1 E1 R1 hi1 hp1 hq1 hP1 hN1 hx1 F1 N1 off1 ne1 hR1
      simp only [LCg.Off3, and_true] at off1
      (try k_fold)
    case' fin =>
      intro ys2 vs2 n2 hy2)
  have hvl := hi.length
  w_strict (
    refine wpAny_call ?_
    k_dflt (refine' enter_cells ?k1 ?k2 ?k3 ?k5 ?kA ?kF ?kK ?k6 ?k7 ?k8 ?k9 ?kB ?kD ?_ ?c2 ?c3 ?c4; (case kA => exact rfl); (case kF => exact rfl); (case kK => assumption); (case k1 => k_asm); (case k2 => k_asm); (case k3 => k_asm); (case k5 => k_asm); (case k6 => k_is); (case k7 => k_is); (case k8 => ktr_room); (case k9 => exact BindsTo.of_eq rfl); (case kB => exact rfl); (case kD => decide +kernel); (case c2 => exact rfl); (case c3 => exact rfl); (case c4 => exact rfl); k_whole; intro L' h' tk' cells' F' N' Y' B' X' T' ST'; k_cells Y'; (try simp only [List.cons_append, List.nil_append] at N'); (try dsimp only); (try k_fold))
    k_steps
    all_goals (first
      | exact ret _ _ _ _ _ (by assumption) (News.get (by assumption) (List.Mem.head _)) (News.fresh (by assumption) (List.Mem.head _)) (by assumption) (fun b o e => Fr.keep (by assumption) b o e)
      | exact hR1 _ _ _ (by assumption)
      | (trace_state; w_report)))
end Mine
end

-- part TW
section
open PySem PySem.W PyProof.Rows
namespace Mine
local macro_rules | `(tactic| walk_at $s:str) => `(tactic| k_extra $s)
local macro_rules | `(tactic| ktr_enter) => `(tactic| (refine' code_defG ?k1 ?k2 ?k3 ?k4 ?k5 ?kA ?kF ?kK ?k6 ?k7 ?k8 ?k9 ?kB ?_ ?c2 ?c3 ?c4 ?c5; (case kA => exact rfl); (case kF => exact rfl); (case kK => assumption); (case k1 => k_asm); (case k2 => k_asm); (case k3 => k_asm); (case k4 => k_asm); (case k5 => k_asm); (case k6 => k_is); (case k7 => k_is); (case k8 => ktr_room); (case k9 => exact BindsTo.of_eq rfl); (case c5 => decide); (case kB => exact locs rfl); (case c2 => exact rfl); (case c3 => exact rfl); (case c4 => exact rfl); k_whole; intro g' L' h' FG' F' N' B' X' T' GS'; (try dsimp only); (try k_fold)))

def cmp3 (x y : Int) : Int := b2i (decide (y < x)) - b2i (decide (x < y))
theorem cmp3_pos {x y : Int} : cmp3 x y = 1 ↔ y < x := by
  unfold cmp3
  by_cases h1 : y < x <;> by_cases h2 : x < y <;> simp [h1, h2, b2i] <;> omega
theorem cmp3_neg {x y : Int} : cmp3 x y = -1 ↔ x < y := by
  unfold cmp3
  by_cases h1 : y < x <;> by_cases h2 : x < y <;> simp [h1, h2, b2i] <;> omega
theorem keeps_all {g h₁ h : Heap} {L' : Addr} {m' : Str → Option Value} (G : GSub h₁ g (List.map (fun p => p.1) ([] : List (Addr × Obj)))) (F : Fr g L' h m') : ∀ b o, h₁.get? b = some o → h.get? b = some o :=
  fun b o e => F.keep b o (G b o e (by simp))
set_option maxRecDepth 100000 in
set_option maxHeartbeats 400000 in
theorem threeway_call {prog : Program} {w : World} {p : Program} {loose : List Str} {mean : ExcName → Option Value} {mg mb : Str → Option Value}
    {dp un : Nat} {gd : Option (List Code)} {cn : Str} {cs : Scope} {a : Addr} {ccd : Value} {cl : List (Str × Addr)} {outer : List Env} {A₀ : Around} {base h₀ : Heap} {L : Addr} {m : Str → Option Value} {s : Shared} {Q E : Value → Shared → Prop}
    {x y : Int} {t1 t2 : Tok}
    (B : Below A₀ base outer h₀) (F : Fr h₀ L s.heap m) (X : (hdR.heap_39 w.params).In h₀) (T : Top p loose mean mg mb h₀) (hk : cs.kind = .function) (hdp : dp + 2 < recursionLimit) (hun : un + 16 < cLine)
    (ret : ∀ h' tk' t', Fr h₀ L h' m → (∀ b o, s.heap.get? b = some o → h'.get? b = some o) → Q (.int (cmp3 x y) t') { s with heap := h', toks := tk' }) :
    wpAny (model prog w) (ktrTop dp un gd cn cs L a ccd cl outer) (call (.ref 56) [.int x t1, .int y t2]) Q E s := by
  w_on
  k_with_none
  have N : News h₀ L s.heap [] := News.nil
  w_strict (
    refine wpAny_call ?_
    k_dflt ktr_enter
    k_steps
    all_goals (first
      | exact ret _ _ _ (by assumption) (keeps_all (by assumption) (by assumption))
      | (trace_state; w_report)))
end Mine
end

-- part CR
section
open PySem PySem.W PyProof.Rows
namespace Mine
local macro_rules | `(tactic| walk_at $s:str) => `(tactic| k_extra $s)
local macro_rules | `(tactic| ktr_enter) => `(tactic| (refine' code_defG ?k1 ?k2 ?k3 ?k4 ?k5 ?kA ?kF ?kK ?k6 ?k7 ?k8 ?k9 ?kB ?_ ?c2 ?c3 ?c4 ?c5; (case kA => exact rfl); (case kF => exact rfl); (case kK => assumption); (case k1 => k_asm); (case k2 => k_asm); (case k3 => k_asm); (case k4 => k_asm); (case k5 => k_asm); (case k6 => k_is); (case k7 => k_is); (case k8 => ktr_room); (case k9 => exact BindsTo.of_eq rfl); (case c5 => decide); (case kB => exact locs rfl); (case c2 => exact rfl); (case c3 => exact rfl); (case c4 => exact rfl); k_whole; intro g' L' h' FG' F' N' B' X' T' GS'; (try dsimp only); (try k_fold)))


/-- what stands at place i when row has been crossed along the wires -/
def crossAt (row : List Int) (wires : List UInt8) (i : Nat) : Int :=
  if (row.getD (wires.getD i 0).toNat 0 < row.getD i 0 ∧ i < (wires.getD i 0).toNat) ∨ (row.getD i 0 < row.getD (wires.getD i 0).toNat 0 ∧ (wires.getD i 0).toNat < i) then row.getD (wires.getD i 0).toNat 0 else row.getD i 0
def crossL (row : List Int) (wires : List UInt8) : List Int := (List.range row.length).map (crossAt row wires)
theorem wire_item {prog : Program} {w : World} {A : Around} {E : Value → Shared → Prop} {s : Shared} {value slice : Expr} {bs : List UInt8} {i : Int} {t ui : Tok} {N : Nat} {Q : Value → Shared → Prop}
    (hw : ∀ k, k < bs.length → (bs.getD k 0).toNat < N) (hfit : bs.length ≤ 100) (h0 : 0 ≤ i) (h1 : i < (bs.length : Int))
    (h : ∀ (j : Int) (tok : Tok), j = ((bs.getD i.toNat 0).toNat : Int) → 0 ≤ j → j < (N : Int) → Q (.int j tok) { s with toks := s.toks + 1 })
    (hs : subscripted slice false (.bytes bs.toArray t) (.int i ui) = operate [.bytes bs.toArray t, .int i ui] (getItem (.bytes bs.toArray t) (.int i ui)) := by with_unfolding_all rfl)
    (ht : ∀ r, letTemporaryGo value (.bytes bs.toArray t) r = pure () := by intro _; with_unfolding_all rfl) :
    wpAny (model prog w) A (subscriptTail value slice (.bytes bs.toArray t) (.int i ui)) Q E s := by
  have q := hw i.toNat (by omega)
  exact bytes_item_K (by omega) h0 h1 rfl (h _ _ rfl (by omega) (by omega)) hs ht
theorem cr_step {ns : List Int} {bs : List UInt8} {pre out : List Int} {k r : Int} (he : k = 0 + (pre.length : Int)) (hl : out.length = pre.length) (ho : out = (List.range pre.length).map (crossAt ns bs))
    (hr : r = crossAt ns bs k.toNat) : (out ++ [r]).length = (pre ++ [k]).length ∧ out ++ [r] = (List.range (pre ++ [k]).length).map (crossAt ns bs) := by
  have e : k.toNat = pre.length := by omega
  refine ⟨by simp [hl], ?_⟩
  rw [List.length_append, List.length_singleton, List.range_succ, List.map_append, ← ho, hr, e]
  rfl
theorem cr_done {ns out : List Int} {bs : List UInt8} (h : out = (List.range (rangeKs 0 ((ns.length : Int) - 0).toNat).length).map (crossAt ns bs)) : out = crossL ns bs := by
  rw [h, rangeKs_length, show ((ns.length : Int) - 0).toNat = ns.length by omega]
  rfl
theorem cr_1 {ns : List Int} {bs : List UInt8} {k j : Int} (hj : j = ((bs.getD k.toNat 0).toNat : Int)) (h0 : 0 ≤ k) (h : cmp3 (ns.getD k.toNat 0) (ns.getD j.toNat 0) = 1) (h' : k < j) : ns.getD j.toNat 0 = crossAt ns bs k.toNat := by
  have e : j.toNat = (bs.getD k.toNat 0).toNat := by omega
  rw [e] at h ⊢
  rw [cmp3_pos] at h
  unfold crossAt
  rw [if_pos (Or.inl ⟨h, by omega⟩)]
theorem cr_2 {ns : List Int} {bs : List UInt8} {k j : Int} (hj : j = ((bs.getD k.toNat 0).toNat : Int)) (h0 : 0 ≤ k) (h : cmp3 (ns.getD k.toNat 0) (ns.getD j.toNat 0) = 1) (h' : ¬ k < j) : ns.getD k.toNat 0 = crossAt ns bs k.toNat := by
  have e : j.toNat = (bs.getD k.toNat 0).toNat := by omega
  rw [e] at h
  rw [cmp3_pos] at h
  unfold crossAt
  rw [if_neg (by omega)]
theorem cr_3 {ns : List Int} {bs : List UInt8} {k j : Int} (hj : j = ((bs.getD k.toNat 0).toNat : Int)) (h0 : 0 ≤ k) (h : cmp3 (ns.getD k.toNat 0) (ns.getD j.toNat 0) = -1) (h' : j < k) : ns.getD j.toNat 0 = crossAt ns bs k.toNat := by
  have e : j.toNat = (bs.getD k.toNat 0).toNat := by omega
  rw [e] at h ⊢
  rw [cmp3_neg] at h
  unfold crossAt
  rw [if_pos (Or.inr ⟨h, by omega⟩)]
theorem cr_4 {ns : List Int} {bs : List UInt8} {k j : Int} (hj : j = ((bs.getD k.toNat 0).toNat : Int)) (h0 : 0 ≤ k) (h : cmp3 (ns.getD k.toNat 0) (ns.getD j.toNat 0) = -1) (h' : ¬ j < k) : ns.getD k.toNat 0 = crossAt ns bs k.toNat := by
  have e : j.toNat = (bs.getD k.toNat 0).toNat := by omega
  rw [e] at h
  rw [cmp3_neg] at h
  unfold crossAt
  rw [if_neg (by omega)]
theorem cr_5 {ns : List Int} {bs : List UInt8} {k j : Int} (hj : j = ((bs.getD k.toNat 0).toNat : Int)) (h0 : 0 ≤ k) (h : ¬ cmp3 (ns.getD k.toNat 0) (ns.getD j.toNat 0) = 1) (h' : ¬ cmp3 (ns.getD k.toNat 0) (ns.getD j.toNat 0) = -1) : ns.getD k.toNat 0 = crossAt ns bs k.toNat := by
  have e : j.toNat = (bs.getD k.toNat 0).toNat := by omega
  rw [e] at h h'
  rw [cmp3_pos] at h
  rw [cmp3_neg] at h'
  unfold crossAt
  rw [if_neg (by omega)]
set_option maxRecDepth 100000 in
set_option maxHeartbeats 4000000 in
theorem crossed_call {prog : Program} {w : World} {p : Program} {loose : List Str} {mean : ExcName → Option Value} {mg mb : Str → Option Value}
    {dp un : Nat} {gd : Option (List Code)} {cn : Str} {cs : Scope} {a : Addr} {ccd : Value} {cl : List (Str × Addr)} {outer : List Env} {A₀ : Around} {base h₀ : Heap} {L : Addr} {m : Str → Option Value} {s : Shared} {Q E : Value → Shared → Prop}
    {lrow : Addr} {vs : List Value} {ns : List Int} {bs : List UInt8} {t2 : Tok}
    (B : Below A₀ base outer h₀) (F : Fr h₀ L s.heap m) (X : (hdR.heap_39 w.params).In h₀) (T : Top p loose mean mg mb h₀) (hk : cs.kind = .function) (hln : s.heap.IsList lrow vs.toArray)
    (hi : IntsAre vs ns) (h3 : ns.length ≤ 16) (ha : bs.length = ns.length) (hw : ∀ i, i < bs.length → (bs.getD i 0).toNat < ns.length) (hdp : dp + 4 < recursionLimit) (hun : un + 32 < cLine)
    (ret : ∀ D h' tk' ys n', Fr h₀ L h' m → h'.get? D = some (listOf ys.toArray n') → s.heap.get? D = none → IntsAre ys (crossL ns bs) → (∀ b o, s.heap.get? b = some o → h'.get? b = some o) → Q (.ref D) { s with heap := h', toks := tk' }) :
    wpAny (model prog w) (ktrTop dp un gd cn cs L a ccd cl outer) (call (.ref 63) [.ref lrow, .bytes bs.toArray t2]) Q E s := by
  w_on
  k_with_none
  k_with "call ref" => (
    refine' threeway_call ?k1 ?k2 ?k3 ?k5 ?kK ?hd ?hu ?_
    (case k1 => k_asm)
    (case k2 => k_asm)
    (case k3 => k_asm)
    (case k5 => k_asm)
    (case kK => first | exact rfl | assumption)
    (case hd => ktr_room)
    (case hu => ktr_units)
    (rename News _ _ _ _ => lN9)
    intro h9 tk9 t9 F9 hk9
    (have N9 := lN9.grown hk9)
    (try dsimp only)
    (try k_fold))
  k_with "pyIter ref" => k_state (fun pre out => out.length = pre.length ∧ out = (List.range pre.length).map (crossAt ns bs)) "out"
  k_with "state" => first
    | exact ⟨rfl, rfl⟩
    | exact cr_step (by assumption) (by assumption) (by assumption) (cr_1 (by assumption) (by omega) (by assumption) (by assumption))
    | exact cr_step (by assumption) (by assumption) (by assumption) (cr_2 (by assumption) (by omega) (by assumption) (by assumption))
    | exact cr_step (by assumption) (by assumption) (by assumption) (cr_3 (by assumption) (by omega) (by assumption) (by assumption))
    | exact cr_step (by assumption) (by assumption) (by assumption) (cr_4 (by assumption) (by omega) (by assumption) (by assumption))
    | exact cr_step (by assumption) (by assumption) (by assumption) (cr_5 (by assumption) (by omega) (by assumption) (by assumption))
  k_with "call builtin:list.append" => k_dflt (
    refine' append_K ?k1 ?k2 ?k3 ?_ ?z
    (case k1 => k_asm)
    (case k2 => k_asm)
    (case k3 => k_upd)
    (case z => (rw [List.size_toArray, PySem.sizeLine_eq]; omega))
    intro h8 F8 N8)
  k_with "subscriptTail Name Name bytes int" => k_dflt (
    refine' wire_item hw ?a ?b ?c ?_ ?d ?e
    (case a => omega)
    (case b => omega)
    (case c => omega)
    (case d => with_unfolding_all rfl)
    (case e => (intro _; with_unfolding_all rfl))
    intro j9 t8 hj9 hj0 hj1)
  have hvl := hi.length
  have N : News h₀ L s.heap [] := News.nil
  w_strict (
    refine wpAny_call ?_
    k_dflt (refine' enter_plain ?k1 ?k2 ?k3 ?k5 ?kA ?kF ?kK ?k6 ?k7 ?k8 ?k9 ?kB ?_ ?c2 ?c3 ?c4 ?c5; (case kA => exact rfl); (case kF => exact rfl); (case kK => assumption); (case k1 => k_asm); (case k2 => k_asm); (case k3 => k_asm); (case k5 => k_asm); (case k6 => k_is); (case k7 => k_is); (case k8 => ktr_room); (case k9 => exact BindsTo.of_eq rfl); (case c5 => decide); (case kB => exact locs rfl); (case c2 => exact rfl); (case c3 => exact rfl); (case c4 => exact rfl); k_whole; intro L' h' F' N' B' X' T'; (try dsimp only); (try k_fold))
    k_steps
    all_goals (first
      | exact ret _ _ _ _ _ (by assumption) (News.get (by assumption) (List.Mem.head _)) (News.fresh (by assumption) (List.Mem.head _)) (ints_eq (by assumption) (cr_done (by assumption))) (fun b o e => Fr.keep (by assumption) b o e)
      | (trace_state; w_report)))
end Mine
end

-- part Base4
section
open PySem PySem.W PySem.Calls PyProof.Rows
set_option maxRecDepth 100000
namespace Mine
def stepKs (c : Int) (q : Nat) : List Int := (List.range q).map fun (i : Nat) => (i : Int) * c
theorem stepKs_length (c : Int) (q : Nat) : (stepKs c q).length = q := by simp [stepKs]
theorem rangeSize_step {b c : Int} {q : Nat} (hc : 0 < c) (hq : 0 < q) (e : (q : Int) * c = b) : Builtin.Range.rangeSize 0 b c = (q : Int) := by
  have hb : 0 < b := by rw [← e]; exact Int.mul_pos (by omega) hc
  unfold Builtin.Range.rangeSize
  rw [if_pos hc, if_pos hb]
  have e2 : b - 0 - 1 = (c - 1) + ((q : Int) - 1) * c := by rw [Int.sub_mul, e]; omega
  rw [e2, Int.add_mul_ediv_right _ _ (by omega), Int.ediv_eq_zero_of_lt (by omega) (by omega)]
  omega
theorem small_step {b c : Int} {q : Nat} (hc : 0 < c) (hc2 : c ≤ 100) (hq : 0 < q) (hq2 : q ≤ 100) (hb : b ≤ 100) (e : (q : Int) * c = b) : Builtin.Range.small 0 b c = true := by
  have hb0 : 0 < b := by rw [← e]; exact Int.mul_pos (by omega) hc
  unfold Builtin.Range.small
  rw [rangeSize_step hc hq e, if_pos hc, fit_small (show (-1000 : Int) ≤ 0 by omega) (by omega), fit_small (show (-1000 : Int) ≤ b by omega) (by omega), fit_small (show (-1000 : Int) ≤ c by omega) (by omega), fit_small (show (-1000 : Int) ≤ (q : Int) by omega) (by omega),
    fit_small (show (-1000 : Int) ≤ b + (c - 1) by omega) (by omega)]
  simp
section
variable {prog : Program} {w : World} {A : Around} {E : Value → Shared → Prop} {s : Shared} {env : Env} {h₀ : Heap} {x : Str} {body : List Stmt} {Q : Flow → Shared → Prop}
theorem kst_step {σ : Type} {r : Addr} {b c : Int} {t u v : Tok} (q : Nat) {m₀ : Str → Option Value} (Led : σ → List (Addr × Obj)) (ps : σ → List (Str × Value)) (Facts : σ → Prop) (stored : List Str) (P : List Int → σ → Prop) (c₀ : σ)
    (hh : A.handled = none) (hr : IsRange s.heap r 0 b c t u v) (hc : 0 < c) (hc2 : c ≤ 100) (hq : 0 < q) (hq2 : q ≤ 100) (hb : b ≤ 100) (e : (q : Int) * c = b) (F : Fr h₀ env.locals s.heap m₀) (N : News h₀ env.locals s.heap (Led c₀)) (hf : Facts c₀) (hk : ∀ p ∈ ps c₀, m₀ p.1 = some p.2) (hp : P [] c₀)
    (turn : ∀ (z : σ) (pre : List Int) (k : Int) t (u : Str → Option Value) h tk own, k = (pre.length : Int) * c → 0 ≤ k → k + c ≤ b → pre.length < q → OwnOff own ((Led c₀).map (·.1)) → Facts z → P pre z →
      Fr h₀ env.locals h (fun y => if y = x then some (.int k t) else kstB (fun z => if stored.contains z then u z else m₀ z) (ps z) y) → News h₀ env.locals h (Led z ++ own) →
      wpAny (model prog w) A (execs body env) (InvPostN h₀ env.locals (KstS Led ps Facts x stored m₀ P (pre ++ [k])) own ((Led c₀).map (·.1)) { s with heap := h, toks := tk } Q) E { s with heap := h, toks := tk })
    (done : ∀ (z : σ) (u : Str → Option Value) h tk, Facts z → P (stepKs c q) z → Fr h₀ env.locals h (fun y => if y = x then u y else kstB (fun z => if stored.contains z then u z else m₀ z) (ps z) y) → News h₀ env.locals h (Led z) → Q .next { s with heap := h, toks := tk }) :
    wpAny (model prog w) A (pyIter (.ref r)) (fun it s₂ => LoopAtV prog w A h₀ env x body Q E it s₂) E s := by
  refine wpAny_pyIter_range hr (small_step hc hc2 hq hq2 hb e) ?_
  have hn := rangeSize_step hc hq e
  have W : Walks prog w A s.heap.objs.size [s.heap.objs.size] [s.heap.objs.size] q (fun i v => i < q ∧ ∃ t, v = .int (0 + i * c) t)
      (fun i h => IsRangeIter h s.heap.objs.size (0 + (i : Nat) * c) ((q : Int) - (i : Nat)) c) := (Walks.range hh _ 0 c q).bound
  refine loop_invN (fun i m nx => KstS Led ps Facts x stored m₀ P ((stepKs c q).take i) m nx) W ?_ ?_ ?_ ?_ (by show IsRangeIter _ _ _ _ _; rw [hn]; simpa using Heap.get?_push_size _ rfl) (F.push _) (fun p hp => ⟨Heap.get?_push_of_some _ (N p hp).1, (N p hp).2⟩) ⟨c₀, rfl, hf, hk, fun _ _ _ _ => rfl, by simpa using hp⟩ ?_ ?_
  · intro hm
    exact absurd F.ns.lt ((List.mem_singleton.mp hm) ▸ Nat.lt_irrefl _)
  · intro b hb
    rw [List.mem_singleton.mp hb]
    exact next_is_new F
  · intro p hp hI
    exact absurd (Heap.lt_size (N p hp).1) ((List.mem_singleton.mp hI) ▸ Nat.lt_irrefl _)
  · intro p hp hI
    exact absurd (Heap.lt_size (N p hp).1) ((List.mem_singleton.mp hI) ▸ Nat.lt_irrefl _)
  · rintro i v m₁ nx h tk own hi ⟨_, t, rfl⟩ _ hoff ⟨z, rfl, hf', h1, h2, hp'⟩ F₁ N₁
    have e1 : 0 + (i : Int) * c = (i : Int) * c := by omega
    rw [e1] at F₁
    have hk' : (stepKs c q)[i]? = some ((i : Int) * c) := by simp [stepKs, hi]
    have hs : (stepKs c q).take (i + 1) = (stepKs c q).take i ++ [(i : Int) * c] := by simp [List.take_add_one, hk']
    have hlen : ((stepKs c q).take i).length = i := by rw [List.length_take, stepKs_length]; omega
    have hub : (i : Int) * c + c ≤ b := by
      have e3 : (i : Int) * c + c = ((i : Int) + 1) * c := by rw [Int.add_mul, Int.one_mul]
      rw [e3, ← e]
      exact Int.mul_le_mul_of_nonneg_right (by omega) (by omega)
    rw [hs]
    exact turn z _ _ t m₁ h tk own (by rw [hlen]) (Int.mul_nonneg (by omega) (by omega)) hub (by rw [hlen]; exact hi) hoff hf' hp' (kst_fr h1 h2 F₁) N₁
  · rintro m₁ nx h tk ⟨z, rfl, hf', h1, h2, hp'⟩ F₁ N₁
    have hl : (stepKs c q).take q = stepKs c q := List.take_of_length_le (Nat.le_of_eq (stepKs_length _ _))
    rw [hl] at hp'
    exact done z m₁ h tk hf' hp' (kst_frOut h1 h2 F₁) N₁
end

/-- where place k goes when every word of w places is turned about -/
def swapIdx (w k : Nat) : Nat := (k / w) * w + (w - 1 - k % w)
def swapL (w : Nat) (bs : List UInt8) : List UInt8 := (List.range bs.length).map fun k => bs.getD (swapIdx w k) 0
/-- place k of buf is right -/
def SwOk (w : Nat) (bs buf : List UInt8) (k : Nat) : Prop := buf.getD k 0 = bs.getD (swapIdx w k) 0
theorem swapIdx_at {w a j : Nat} (hj : j < w) : swapIdx w (a * w + (w - 1 - j)) = a * w + j := by
  unfold swapIdx
  have h1 : (a * w + (w - 1 - j)) / w = a := by
    rw [Nat.add_comm, Nat.add_mul_div_right _ _ (by omega), Nat.div_eq_of_lt (by omega), Nat.zero_add]
  have h2 : (a * w + (w - 1 - j)) % w = w - 1 - j := by
    rw [Nat.add_comm, Nat.add_mul_mod_self_right, Nat.mod_eq_of_lt (by omega)]
  rw [h1, h2]
  omega
end Mine
namespace Mine
/-- between the turns of the inner loop, i the word's first place -/
def BsIn (w i : Nat) (bs : List UInt8) (pre : List Int) (buf : List UInt8) : Prop :=
  buf.length = bs.length ∧ (∀ k, k < i → SwOk w bs buf k) ∧ ∀ k, i ≤ k → k < i + w → i + w - 1 - k < pre.length → SwOk w bs buf k
theorem getD_set_ne {l : List UInt8} {i k : Nat} {x : UInt8} (h : k ≠ i) : (l.set i x).getD k 0 = l.getD k 0 := by
  simp [List.getD_eq_getElem?_getD, List.getElem?_set_ne (Ne.symm h)]
theorem getD_set_self {l : List UInt8} {i : Nat} {x : UInt8} (h : i < l.length) : (l.set i x).getD i 0 = x := by
  simp [List.getD_eq_getElem?_getD, List.getElem?_set_self h]
theorem toUInt8_back (b : UInt8) : ((b.toNat : Int)).toNat.toUInt8 = b := by
  simp
theorem bs_start {w i : Nat} {bs buf : List UInt8} (h1 : buf.length = bs.length) (h2 : ∀ k, k < i → SwOk w bs buf k) : BsIn w i bs [] buf :=
  ⟨h1, h2, fun k _ h4 h5 => absurd h5 (Nat.not_lt_zero _)⟩
theorem bs_turn {w a : Nat} {bs buf : List UInt8} {pre : List Int} {i j n : Int} (hi : i = (a : Int) * (w : Int)) (hj : j = 0 + (pre.length : Int)) (hjl : pre.length < w) (hub : i + (w : Int) ≤ n) (hn : n = (bs.length : Int))
    (h : BsIn w i.toNat bs pre buf) : BsIn w i.toNat bs (pre ++ [j]) (buf.set (i + (w : Int) - 1 - j).toNat (((bs.getD (i + j).toNat 0).toNat : Int)).toNat.toUInt8) := by
  have ei : i.toNat = a * w := by rw [hi]; exact Int.toNat_natCast (a * w)
  have i0 : 0 ≤ i := by rw [hi]; exact Int.mul_nonneg (by omega) (by omega)
  have ek : (i + (w : Int) - 1 - j).toNat = a * w + (w - 1 - pre.length) := by omega
  have ej : (i + j).toNat = a * w + pre.length := by omega
  have hlt : a * w + (w - 1 - pre.length) < buf.length := by rw [h.1]; omega
  rw [toUInt8_back, ek, ej]
  refine ⟨by rw [List.length_set]; exact h.1, fun k hk => ?_, fun k h3 h4 h5 => ?_⟩
  · unfold SwOk
    rw [getD_set_ne (by omega)]
    exact h.2.1 k hk
  · unfold SwOk
    by_cases q : k = a * w + (w - 1 - pre.length)
    · rw [q, getD_set_self hlt, swapIdx_at hjl]
    · rw [getD_set_ne q]
      refine h.2.2 k h3 h4 ?_
      simp only [List.length_append, List.length_cons, List.length_nil] at h5
      omega
theorem bs_word {w a : Nat} {bs buf : List UInt8} {i : Int} (hi : i = (a : Int) * (w : Int)) (h : BsIn w i.toNat bs (rangeKs 0 w) buf) (k : Nat) (hk : k < (a + 1) * w) : SwOk w bs buf k := by
  have ei : i.toNat = a * w := by rw [hi]; exact Int.toNat_natCast (a * w)
  have e2 : (a + 1) * w = a * w + w := by rw [Nat.add_mul, Nat.one_mul]
  by_cases q : k < i.toNat
  · exact h.2.1 k q
  · exact h.2.2 k (by omega) (by omega) (by rw [rangeKs_length]; omega)
theorem bs_done {w q : Nat} {bs buf : List UInt8} (hq : q * w = bs.length) (h1 : buf.length = bs.length) (h2 : ∀ k, k < q * w → SwOk w bs buf k) : buf = swapL w bs := by
  apply List.ext_getElem?
  intro k
  unfold swapL
  by_cases hk : k < bs.length
  · have e := h2 k (by omega)
    unfold SwOk at e
    rw [List.getD_eq_getElem?_getD, List.getElem?_eq_getElem (by omega), Option.getD_some] at e
    rw [List.getElem?_eq_getElem (by omega), e, List.getElem?_map, List.getElem?_range hk]
    rfl
  · rw [List.getElem?_eq_none (by omega), List.getElem?_eq_none (by simp; omega)]
end Mine
end

-- part R2
section
open PySem PySem.W PySem.Calls PyProof.Rows
open Sem (wp)
set_option maxRecDepth 100000
namespace Mine
section
variable {M : Model} {A : Around} {s : Shared} {env : Env}
theorem wpR_execs_cons {st : Stmt} {rest : List Stmt} {Q : Flow → Shared → Prop} (h : wpR M A (exec st env) (fun f s' => match f with | .next => wpR M A (execs rest env) Q s' | f => Q f s') s) : wpR M A (execs (st :: rest) env) Q s := by
  rw [execs_cons]
  refine wpR_bind (wpR_mono h fun f s' h' => ?_)
  cases f <;> first | exact h' | exact wpR_pure h'
/-- a statement that needs no free context, then the others -/
theorem wpR_execs_any {st : Stmt} {rest : List Stmt} {Q : Flow → Shared → Prop} (h : wpAny M A (exec st env) (fun f s' => match f with | .next => wpR M A (execs rest env) Q s' | f => Q f s') (fun _ _ => False) s) : wpR M A (execs (st :: rest) env) Q s :=
  wpR_execs_cons (wpR_of h)
theorem wpR_Assign_Name {x : Str} {pos' pos : Pos} {value : Expr} {Q : Flow → Shared → Prop}
    (h : wpR M A (eval value env) (fun v s₁ => wpAny M A (storeName env x v) (fun _ => Q .next) (fun _ _ => False) s₁) s)
    (hs : swapsWith value (some (.Name x pos')) pos.line env = pure false := by rfl) :
    wpR M A (exec (.Assign [.Name x pos'] value pos) env) Q s := fun Γ p hΓ hF => by
  simp only [exec_Assign_Name env x pos' value pos hs, Sem.wp_bind', Sem.wp_cmd_standAt, Sem.wp_bindName, Sem.wp_pure']
  exact Sem.wp_mono M Γ _ (fun v _ s₁ h₁ => h₁ Γ _ hΓ) (fun _ _ _ h' => h') _ _ (h Γ _ hΓ hF)
theorem wpR_Call {func : Expr} {args : List Expr} {pos : Pos} {Q : Value → Shared → Prop}
    (h : wpAny M A (eval func env) (fun f s₁ => wpR M A (callWith pos f [] (backTo pos (starEach args env)) []) Q s₁) (fun _ _ => False) s)
    (he : eval (.Call func args [] pos) env = (do callWith pos (← eval func env) [] (backTo pos (starEach args env)) (backToKw pos (keywordEach [] env))) := by rfl) :
    wpR M A (eval (.Call func args [] pos) env) Q s := by
  rw [he]; exact wpR_after h
theorem wpR_spliced_cons {x : Sem Value} {rest : List (Bool × Sem Value)} {Q : List Value → Shared → Prop}
    (h : wpR M A x (fun v s₁ => wpR M A (spliced rest) (fun vs s₂ => Q (v :: vs) s₂) s₁) s) : wpR M A (spliced ((false, x) :: rest)) Q s := by
  rw [spliced]
  refine wpR_bind (wpR_mono h fun v s₁ h₁ => ?_)
  simp only [Bool.false_eq_true, if_false]
  exact wpR_bind (wpR_pure (wpR_bind (wpR_holding (wpR_mono h₁ fun vs s₂ h₂ => wpR_pure h₂))))
theorem wpR_args_cons {e : Expr} {rest : List Expr} {pos : Pos} {Q : List Value → Shared → Prop}
    (h : wpR M A (eval e env) (fun v s₁ => wpR M A (spliced (backTo pos (starEach rest env))) (fun vs s₂ => Q (v :: vs) s₂) s₁) s)
    (he : starEach (e :: rest) env = (false, eval e env) :: starEach rest env := by rfl) : wpR M A (spliced (backTo pos (starEach (e :: rest) env))) Q s := by
  rw [he]; exact wpR_spliced_cons h
theorem wpR_args_nil {pos : Pos} {Q : List Value → Shared → Prop} (h : Q [] s) : wpR M A (spliced (backTo pos (starEach [] env))) Q s := wpR_of (Calls.spliced_nil h)
theorem wpR_evalArgs {f : Value} {x : Sem Value} {rest : List (Bool × Sem Value)} {Q : Args → Shared → Prop}
    (h : wpR M A (spliced ((false, x) :: rest)) (fun vs s' => Q ⟨vs, []⟩ s') s) : wpR M A (evalArgs f true ((false, x) :: rest) []) Q s := by
  unfold evalArgs
  show wpR M A (spliced ((false, x) :: rest) >>= _) Q s
  refine wpR_bind (wpR_mono h fun vs s' h' => ?_)
  refine wpR_holding ?_
  exact wpR_bind (wpR_pure (wpR_bind (wpR_pure (wpR_pure h'))))
/-- a call of a def of the text: its arguments and the call itself over the free contexts -/
theorem wpR_callWith {K : Frag} {h₀ : Heap} {pos : Pos} {f : Value} {e : Expr} {rest : List Expr} {Q : Value → Shared → Prop} (hX : K.In h₀) (hk : keepIn K f = true)
    (h : wpR M A (spliced (backTo pos (starEach (e :: rest) env))) (fun vs s₁ => K.In s₁.heap ∧ wpR M A (call f vs) Q s₁) s)
    (he : starEach (e :: rest) env = (false, eval e env) :: starEach rest env := by rfl) (hplain : (backTo pos (starEach rest env)).any (·.1) = false := by rfl) :
    wpR M A (callWith pos f [] (backTo pos (starEach (e :: rest) env)) []) Q s := by
  rw [he] at h ⊢
  have hpl : ((backTo pos ((false, eval e env) :: starEach rest env)).any (·.1) || ([] : List (Option Str × Sem Value)).any (·.1.isNone)) = false := by
    show ((false || (backTo pos (starEach rest env)).any (·.1)) || false) = false
    rw [hplain]; rfl
  have h' : wpR M A (evalArgs f true (backTo pos ((false, eval e env) :: starEach rest env)) []) (fun a s₁ => K.In s₁.heap ∧ wpR M A (call f ([] ++ a.pos) a.kw) Q s₁) s := wpR_evalArgs h
  unfold callWith
  refine wpR_bind (wpR_holding (wpR_mono h' fun a s₁ h₁ => wpR_after (wpAny_standAt ?_)))
  obtain ⟨k, hk', L⟩ := keeps_K (M := M) hk _ h₁.1
  simp only [hpl]
  refine wpR_after (L.here ?_)
  have tail : ∀ {t : Sem Value}, wpR M A t Q s₁ → wpR M A (t >>= fun r => holding [r] point >>= fun _ => pure r) Q s₁ :=
    fun ht => wpR_bind (wpR_mono ht fun r s₂ hr => wpR_of (wpAny_bind (wpAny_holding (wpAny_point (wpAny_pure hr)))))
  have marked (mk : Value) : wpR M A (callMarked mk f ([] ++ a.pos) a.kw) Q s₁ := by
    unfold callMarked
    exact fun Γ p hΓ hF => by rw [Sem.wp_keep]; exact h₁.2 Γ p hΓ hF
  rcases hk' with rfl | rfl | rfl <;> dsimp only <;> first | exact tail h₁.2 | (split <;> first | exact tail h₁.2 | exact tail (marked _))
end
end Mine
namespace Mine
section
variable {M : Model} {A : Around} {s : Shared} {env : Env}
theorem wpR_callWith_type {T : String} {pos : Pos} {e : Expr} {rest : List Expr} {Q : Value → Shared → Prop}
    (h : wpAny M A (spliced (backTo pos (starEach (e :: rest) env))) (fun vs s₁ => wpR M A (call (.type T) vs) Q s₁) (fun _ _ => False) s)
    (he : starEach (e :: rest) env = (false, eval e env) :: starEach rest env := by rfl) (hplain : (backTo pos (starEach rest env)).any (·.1) = false := by rfl) :
    wpR M A (callWith pos (.type T) [] (backTo pos (starEach (e :: rest) env)) []) Q s := by
  rw [he] at h ⊢
  have hpl : ((backTo pos ((false, eval e env) :: starEach rest env)).any (·.1) || ([] : List (Option Str × Sem Value)).any (·.1.isNone)) = false := by
    show ((false || (backTo pos (starEach rest env)).any (·.1)) || false) = false
    rw [hplain]; rfl
  have h' : wpAny M A (evalArgs (.type T) true (backTo pos ((false, eval e env) :: starEach rest env)) []) (fun a s₁ => wpR M A (call (.type T) ([] ++ a.pos) a.kw) Q s₁) (fun _ _ => False) s := evalArgs_plain h
  unfold callWith
  refine wpR_after (wpAny_holding (wpAny_mono h' (fun a s₁ h₁ => wpR_after (wpAny_standAt ?_)) fun _ _ x => x))
  simp only [hpl]
  refine wpR_after (wpAny_of_eq (rfl : keeperOf (.type T) = pure .machine) ?_)
  dsimp only
  exact wpR_bind (wpR_mono h₁ fun r s₂ hr => wpR_of (wpAny_bind (wpAny_holding (wpAny_point (wpAny_pure hr)))))
end
end Mine
end

-- part R3
section
open PySem PySem.W PySem.Calls PyProof.Rows
open Sem (wp)
set_option maxRecDepth 100000
namespace Mine
section
variable {prog : Program} {w : World} {A : Around} {s : Shared} {env : Env}
theorem codeR_while {test : Expr} {body : List Stmt} {R : Flow → Shared → Prop} (I : Nat → Shared → Prop)
    (turn : ∀ n s, I n s → wpR (model prog w) A (isTrue test env (eval test env)) (fun b s₂ =>
      if b = true then wpR (model prog w) A (execs body env) (fun f s₃ => match f with
          | .next | .cont => ∃ m, m < n ∧ I m s₃
          | .brk => R .next s₃
          | .ret v => R (.ret v) s₃) s₂
      else R .next s₂) s) : ∀ (n : Nat) (s : Shared), I n s → codeR (model prog w) A (.whileLoop test body [] env) R s := by
  intro n
  induction n using Nat.strongRecOn with
  | ind n ih =>
    intro s h
    refine codeR_of_tree ?_
    show wpR _ A ((whileTurn test body [] env).onRaise (fun x => do noteFrame x env; theTreesLotGoes x)) _ s
    refine wpR_onRaise ?_
    simp only [whileTurn]
    refine wpR_bind (wpR_mono (turn n s h) fun b s₂ h₂ => ?_)
    cases b with
    | false =>
      simp only [Bool.false_eq_true, if_false] at h₂ ⊢
      exact wpR_of (wpAny_bind (wpAny_execs_nil (wpAny_pure h₂)))
    | true =>
      simp only [if_true] at h₂ ⊢
      refine wpR_bind (wpR_mono h₂ fun f s₃ h₃ => ?_)
      cases f with
      | next => obtain ⟨m, hm, hI⟩ := h₃; exact wpR_pure ⟨rfl, rfl, ih m hm s₃ hI⟩
      | cont => obtain ⟨m, hm, hI⟩ := h₃; exact wpR_pure ⟨rfl, rfl, ih m hm s₃ hI⟩
      | brk => exact wpR_pure h₃
      | ret v => exact wpR_pure h₃
theorem wpR_While {test : Expr} {body : List Stmt} {pos : Pos} {Q : Flow → Shared → Prop} (h : codeR (model prog w) A (.whileLoop test body [] env) Q s) : wpR (model prog w) A (exec (.While test body [] pos) env) Q s := by
  rw [exec_While]
  refine wpR_after (wpAny_standAt ?_)
  unfold runOwn
  exact wpR_onRaise (wpR_run rfl h)
theorem codeR_func {body : List Stmt} {R : Flow → Shared → Prop} (h : wpR (model prog w) (A.deeper env) (execs body env) (fun f s' => R (.ret (match f with | .ret v => v | _ => .none)) s') s) : codeR (model prog w) A (.func body env) R s := by
  refine codeR_of_tree ?_
  show wpR _ (A.deeper env) (do point; match ← (execs body env).onRaise (leaving env) with | .ret v => ret v | _ => ret .none) _ s
  refine wpR_after (wpAny_point (wpR_bind (wpR_onRaise (wpR_mono h fun f s' h' => ?_))))
  cases f <;> exact wpR_pure h'
theorem codeR_call_function {a : Addr} {args : Args} {o : Obj} {fd : FuncData} {body : List Stmt} {R : Flow → Shared → Prop} (hroom : A.depth < recursionLimit) (ho : s.heap.get? a = some o)
    (hd' : o.data = .func fd) (hco : fd.scope.isCoroutine = false) (hgen : fd.scope.isGenerator = false) (hbody : fd.body = .stmts body) (hcd : s.heap.CodeRec fd.code fd.qualname)
    (h : wpAny (model prog w) A.in1 (bindArgs fd args) (fun binds s₁ =>
      wpAny (model prog w) A.in1 (newFunctionEnv fd.scope fd.globals fd.closure binds (fd.qualname ++ ".<locals>.") (some a) fd.code none fd.builtins)
        (fun env s₂ => s₂.heap.NoLimit ∧ codeR (model prog w) A (.func body env) R s₂) (fun _ _ => False) s₁) (fun _ _ => False) s) :
    codeR (model prog w) A (.call (.ref a) args) R s := by
  refine codeR_of_tree ?_
  show wpR _ A.in1 (callAny (.ref a) args) _ s
  simp only [callAny]
  refine wpR_after (wpAny_load ho ?_)
  obtain ⟨c, oc, vs, tq, hc, hoc, hdc, hq⟩ := hcd
  simp only [hd', callFunction, hco, hgen, hbody, hc]
  rw [hc] at h
  refine wpR_after (m := field (.ref c) 1) (wpAny_field hoc hdc hq (wpR_after (wpAny_pure ?_)))
  exact wpR_of (wpAny_bind (wpAny_mono h (fun binds s₁ h₁ => wpAny_bind (wpAny_mono h₁ (fun env s₂ h₂ => wpAny_bind (wpAny_enterFrame h₂.1 hroom
    (wpAny_pure (And.intro rfl ⟨rfl, h₂.2⟩)))) fun _ _ h' => h')) fun _ _ h' => h'))
/-- a def without cells, entered with no ledger, over the free contexts -/
theorem enterR {A₀ : Around} {base h₀ : Heap} {L : Addr} {m : Str → Option Value} {K : Frag} {p : Program} {loose : List Str} {mean : ExcName → Option Value} {mg mb : Str → Option Value}
    {env : Env} {outer : List Env} {R : Result → Shared → Prop} {name qual : Str} {params : Arguments} {body : List Stmt} {scope : Scope} {dV kV doc pm cdv ct oc : Value} {an od : Option Addr} {osl : Array (Option Value)} {f : Addr} {args : Args} {binds : List (Str × Value)}
    (B : Below A₀ base outer h₀) (F : Fr h₀ L s.heap m) (X₀ : K.In h₀) (T : Top p loose mean mg mb h₀) (hA : A.frames = some (env :: outer)) (hf : env.frame = some L) (hke : env.scope.kind = .function)
    (ho : K.lookup f = some ⟨oc, od, .func (fnOf name qual params body scope dV kV doc pm an cdv ct), osl⟩) (hcd : codeIn K cdv qual = true) (hroom : A.depth < recursionLimit)
    (hbind : BindsTo s (fnOf name qual params body scope dV kV doc pm an cdv ct) args binds) (hloc : ∀ y ∈ binds, scope.names.lookup y.1 = some .local)
    (h : ∀ L' h₁, Fr s.heap L' h₁ (fun y => binds.reverse.lookup y) → News s.heap L' h₁ [] → Below A base (env :: outer) s.heap → K.In s.heap → Top p loose mean mg mb s.heap →
      wpR (model prog w) (A.deeper (envOf qual scope L' f cdv)) (execs body (envOf qual scope L' f cdv))
        (fun fl s' => LeaveK h₀ L m s.heap R (match fl with | .ret v => v | _ => .none) s') { s with heap := h₁, toks := s.toks + binds.length })
    (hco : scope.isCoroutine = false) (hgen : scope.isGenerator = false) (hk : scope.kind = .function) (hcell : ∀ x ∈ scope.names, x.2 ≠ .cell) : codeR (model prog w) A (.call (.ref f) args) (fun fl s' => R (.ok fl) s') s := by
  have gr := groundX (R := R) B F (News.nil (h₀ := h₀) (L := L)) hA hf hke
  have BG : Below A base (env :: outer) s.heap := gr.2.1
  have st : h₀.StaysIn s.heap := gr.2.2.1
  have lv : ∀ v s', LeaveK h₀ L m s.heap R v s' → R (.ok (.ret v)) s' := gr.2.2.2
  have X := X₀.keeps F.keep
  refine codeR_call_function (fd := fnOf name qual params body scope dV kV doc pm an cdv ct) (body := body) hroom (X _ _ ho) rfl hco hgen rfl (codeRec_of X hcd) (hbind _ _ _ _ ?_)
  refine wpAny_newFunctionEnv hcell hloc (fun h₁ hns hsb => ⟨(T.nolimit.keeps F.keep).fresh _ hsb, codeR_func ?_⟩) hk
  have kp : ∀ b o, s.heap.get? b = some o → h₁.get? b = some o := fun b o e => hsb.extBut b o (Nat.ne_of_lt (Heap.lt_size e)) (Heap.get?_push_of_some _ e)
  exact wpR_mono (h s.heap.objs.size h₁ ⟨hns, kp, Nat.le_refl _⟩ News.nil BG X (T.keeps st)) fun fl s' hl => lv _ _ hl
end
end Mine
end

-- part BA
section
open PySem PySem.W PySem.Calls PyProof.Rows
open Sem (wp)
set_option maxRecDepth 100000
namespace Mine
abbrev baObj (b : Array UInt8) : Obj := { cls := .type "bytearray", data := .bytearray b }
theorem mro_ba : mroOf (.type "bytearray") = pure [.type "bytearray", .type "object"] := by rw [mroOf_type]; kernel_rfl
theorem lookup_ba_new : typeLookup (.type "bytearray") "__new__" = pure (some (.builtin "bytearray.__new__")) := by rw [typeLookup_type, builtinLookup_eq_fast]; kernel_rfl
theorem slot_ba_init : Slot "bytearray" "__init__" "bytearray.__init__" :=
  .of (owner := "bytearray") (n := "__init__") (by rw [typeLookup_type, builtinLookup_eq_fast]; kernel_rfl) (by decide +kernel) (by decide +kernel) (by decide +kernel)
    (by first | exact .inl (by decide +kernel) | exact .inr (by decide +kernel)) (by rw [isSubtype_type]; kernel_rfl)
theorem slot_ba_setitem : Slot "bytearray" "__setitem__" "bytearray.__setitem__" :=
  .of (owner := "bytearray") (n := "__setitem__") (by rw [typeLookup_type, builtinLookup_eq_fast]; kernel_rfl) (by decide +kernel) (by decide +kernel) (by decide +kernel)
    (by first | exact .inl (by decide +kernel) | exact .inr (by decide +kernel)) (by rw [isSubtype_type]; kernel_rfl)
theorem called_ba : TypeCalled "bytearray" "bytearray.__new__" "bytearray.__init__" :=
  ⟨by decide +kernel, by decide +kernel, ⟨_, _, mro_ba⟩, madeBy_type mro_ba lookup_ba_new (by decide +kernel), by decide +kernel, by rw [isSubtype_type]; kernel_rfl, slot_ba_init⟩
theorem typeCall_ba (a : Value) : checkTypeCall "bytearray" ⟨[a], []⟩ = pure () := by kernel_rfl
theorem newCall_ba (a : Value) : checkBuiltinCall "bytearray.__new__" ⟨[.type "bytearray", a], []⟩ = pure () := by kernel_rfl
theorem entry_ba_new : entryFor table "bytearray.__new__" = some Builtin.«list.__new__» :=
  entryFor_alias (id' := "list.__new__") (by kernel_rfl) (by first | rfl | decide +kernel | (unfold String.splitOn; simp +decide [String.splitOnAux])) (by decide +kernel) (by kernel_rfl)
theorem entry_ba_init : entryFor table "bytearray.__init__" = some Builtin.«bytearray.__init__» := entryFor_of_tree (by kernel_rfl)
theorem entry_ba_setitem : entryFor table "bytearray.__setitem__" = some Builtin.«bytearray.__setitem__» := entryFor_of_tree (by kernel_rfl)
theorem plain_ba_new : plainId "bytearray.__new__" = true := by decide +kernel
theorem sub_ba_self : isSubtype (.type "bytearray") (.type "bytearray") = pure true := by rw [isSubtype_type]; kernel_rfl
set_option maxRecDepth 1000000 in
set_option maxHeartbeats 4000000 in
theorem owner_ba_new : ("bytearray.__new__".splitOn ".__new__").headD "" = "bytearray" := by simp +decide [String.splitOn, String.splitOnAux]
theorem bind_ba (v : Value) : Builtin.Bytes.bindOptional "bytearray.__init__" "bytearray" ["source", "encoding", "errors"] [v] [] = pure [some v, none, none] := by kernel_rfl
section
variable {prog : Program} {w : World} {A : Around} {E : Value → Shared → Prop} {s : Shared}
theorem code_ba_new (a : Value) {Q₁ : Value → Shared → Prop} (h : Q₁ (.ref s.heap.objs.size) { s with heap := s.heap.push (baObj #[]) }) :
    codeAny (model prog w) A (.call (.builtin "bytearray.__new__") ⟨[.type "bytearray", a], []⟩) (wants Q₁ E) s := by
  refine codeAny_of_tree ?_
  show wpAny _ A.in1 (do checkBuiltinCall "bytearray.__new__" ⟨[.type "bytearray", a], []⟩; again (.builtin "bytearray.__new__" ⟨[.type "bytearray", a], []⟩)) _ _ s
  refine wpAny_bind (wpAny_of_eq (newCall_ba a) (wpAny_pure ⟨plainId_quiet plain_ba_new _, codeAny_builtin_stack entry_ba_new rfl fun p st => ?_⟩))
  rw [Around.under_plainId plain_ba_new _]
  have hsub := sub_ba_self
  have hown := owner_ba_new
  obtain ⟨hp, g, d, tk, os⟩ := s
  simp only [hown]
  wp_walk
  exact h
end
end Mine
end

-- part BA2
section
open PySem PySem.W PySem.Calls PyProof.Rows
open Sem (wp)
set_option maxRecDepth 100000
namespace Mine
theorem look_ba_release : typeLookup (.type "bytearray") "__release_buffer__" = pure (some (.builtin "bytearray.__release_buffer__")) := by rw [typeLookup_type, builtinLookup_eq_fast]; kernel_rfl
theorem look_int_index : typeLookup (.type "int") "__index__" = pure (some (.builtin "int.__index__")) := by rw [typeLookup_type, builtinLookup_eq_fast]; kernel_rfl
theorem ends_release : ("bytearray.__release_buffer__".endsWith ("." ++ "__release_buffer__")) = true := by decide +kernel
theorem drop_release : "bytearray.__release_buffer__".dropRight ("__release_buffer__".length + 1) = "bytearray" := by decide +kernel
theorem owner_ba : Manifest.owners.lookup (String.ofList ['y', 'a', 'r', 'r', 'a', 'e', 't', 'y', 'b'].reverse) = some Manifest.sig_bytearray := by kernel_rfl
theorem args_ba_init_2 (a b : Value) : argsOk "bytearray.__init__" ⟨[a, b], []⟩ := by
  unfold argsOk; rw [signature?_of (id := "bytearray.__init__") (n := ['_', '_', 't', 'i', 'n', 'i', '_', '_']) (o := ['y', 'a', 'r', 'r', 'a', 'e', 't', 'y', 'b']) (by kernel_rfl) owner_ba]; kernel_rfl
theorem args_ba_setitem_3 (a b c : Value) : argsOk "bytearray.__setitem__" ⟨[a, b, c], []⟩ := by
  unfold argsOk; rw [signature?_of (id := "bytearray.__setitem__") (n := ['_', '_', 'm', 'e', 't', 'i', 't', 'e', 's', '_', '_']) (o := ['y', 'a', 'r', 'r', 'a', 'e', 't', 'y', 'b']) (by kernel_rfl) owner_ba]; kernel_rfl
section
variable {M : Model} {prog : Program} {w : World} {A : Around} {E : Value → Shared → Prop} {s : Shared} {D : Addr} {b : Array UInt8}
theorem typeIs_ba (hD : s.heap.get? D = some (baObj b)) : s.TypeIs (.ref D) "bytearray" := ⟨_, hD, rfl⟩
theorem wpAny_ownRelease {Q : Bool → Shared → Prop} (hD : s.heap.get? D = some (baObj b)) (h : Q false s) : wpAny (model prog w) A (Builtin.Bytes.ownRelease (.ref D)) Q E s := by
  unfold Builtin.Bytes.ownRelease Builtin.Bytes.slotIsOwn
  refine wpAny_bind (wpAny_bind (wpAny_specialOf (typeIs_ba hD) look_ba_release ?_))
  simp only [ends_release, drop_release, Bool.not_true, Bool.false_eq_true, if_false]
  exact wpAny_isInstance (typeIs_ba hD) sub_ba_self (wpAny_pure h)
theorem wpR_exported {v : Value} {Q : Bool → Shared → Prop} (h : Q false s) : wpR M A (Builtin.Bytes.exported v) Q s := by
  intro Γ p hΓ hF
  unfold Builtin.Bytes.exported
  rw [Sem.wp_bind']
  show wp M Γ (.stack .pure) _ _ p s
  rw [Sem.wp_stack]
  have all : ∀ x ∈ (Γ.code, p) :: Γ.below, holder x.1 = false := fun x hx => by
    rcases List.mem_cons.mp hx with rfl | hx
    · exact hF.1
    · exact hF.2 x hx
  generalize (Γ.code, p) :: Γ.below = st at all
  show Q (st.any _) s
  refine Eq.subst (motive := fun c => Q c s) (Eq.symm ?_) h
  refine List.any_eq_false.mpr fun x hx => ?_
  have hh := all x hx
  obtain ⟨c, q⟩ := x
  intro hc
  cases c with
  | builtin id args =>
    simp only [holder, List.contains_eq_mem, decide_eq_false_iff_not, List.mem_append, List.mem_cons, List.not_mem_nil, or_false, not_or] at hh
    obtain ⟨h0, h1, h2, h3, h4, h5⟩ := hh
    split at hc <;> simp_all
  | _ => simp at hc
theorem wpAny_write {f : Array UInt8 → Array UInt8} {Q : Unit → Shared → Prop} (hD : s.heap.get? D = some (baObj b)) (hz : (f b).size ≤ 1000)
    (h : ∀ h', h'.get? D = some (baObj (f b)) → Heap.SameBut D s.heap h' → Q () { s with heap := h' }) : wpAny (model prog w) A (Builtin.Bytes.write (.ref D) f) Q E s := by
  show wpAny _ _ (updateBytearray D f) _ _ _
  unfold updateBytearray
  refine wpAny_bind (wpAny_load hD ?_)
  show wpAny _ _ (update D (Obj.mapBytearray f) >>= fun _ => lookBehind D) _ _ _
  refine wpAny_bind (wpAny_update hD ?_)
  have hD₂ : (s.heap.update D (Obj.mapBytearray f)).get? D = some (baObj (f b)) := Heap.get?_update_self (Obj.mapBytearray f) hD rfl
  refine wpAny_lookBehind hD₂ ?_ (h _ hD₂ (Heap.SameBut.update ..))
  show (if (f b).size > sizeLine then some "bytearray:memory" else none) = none
  rw [if_neg]
  rw [PySem.sizeLine_eq]
  omega
theorem initR {n : Int} {t : Tok} {Q : Fin → Shared → Prop} (hD : s.heap.get? D = some (baObj #[])) (h0 : 0 < n) (h1 : n ≤ 100)
    (h : ∀ h', h'.get? D = some (baObj (Array.replicate n.toNat 0)) → Keeps D s.heap h' → Q (.done (.ret .none)) { s with heap := h' }) :
    wpR (model prog w) A (Builtin.«bytearray.__init__» ⟨[.ref D, .int n t], []⟩) Q s := by
  unfold Builtin.«bytearray.__init__»
  dsimp only
  refine wpR_after (wpAny_ownRelease hD ?_)
  simp only [Bool.false_eq_true, if_false]
  refine wpR_after (wpAny_of_eq (bind_ba _) ?_)
  dsimp only
  refine wpR_after (wpAny_of_eq (a := ()) rfl ?_)
  refine wpR_after (wpAny_of_eq (a := ()) rfl ?_)
  refine wpR_bind ?_
  unfold orM
  refine wpR_bind (wpR_exported ?_)
  simp only [toBool, id]
  refine wpR_of ?_
  refine wpAny_bind ?_
  unfold Builtin.Bytes.exportsOf
  refine wpAny_bind (wpAny_load hD ?_)
  refine wpAny_pure (wpAny_pure ?_)
  simp only [show (decide (0 > 0)) = false from rfl, Bool.false_eq_true, if_false]
  refine wpR_of ?_
  refine wpAny_bind (wpAny_write hD (Nat.zero_le _) fun h₁ hD₁ hs₁ => ?_)
  refine wpAny_bind (wpAny_of_eq (a := none) rfl ?_)
  simp only [Option.isSome_none, Bool.false_eq_true, if_false]
  refine wpAny_bind (wpAny_pure ?_)
  refine wpAny_bind (wpAny_specialOf (typeIs_int _ n t) look_int_index ?_)
  simp only [Option.isSome_some, if_true]
  refine wpAny_bind (wpAny_attempt (wpAny_of_eq (rfl : asIndex (.int n t) = pure n) ?_))
  dsimp only
  have e1 : Builtin.Bytes.fitsIndex n = true := by simp only [Builtin.Bytes.fitsIndex, Bool.and_eq_true, decide_eq_true_eq]; omega
  have e2 : ¬ n < 0 := by omega
  have e3 : (n == 2 ^ 63 - 1) = false := by rw [beq_eq_false_iff_ne]; omega
  simp only [e1, e2, e3, Bool.not_true, Bool.false_eq_true, if_false]
  have e4 : Builtin.Bytes.tooLong n.toNat = false := by
    unfold Builtin.Bytes.tooLong
    rw [decide_eq_false_iff_not, PySem.sizeLine_eq]
    omega
  have e5 : n > 0 := h0
  simp only [e4, e5, Bool.false_eq_true, if_false, if_true]
  refine wpAny_bind (wpAny_rule ?_)
  refine wpAny_bind (wpAny_write hD₁ ?_ fun h₂ hD₂ hs₂ => ?_)
  · simp only [Array.size_replicate]; omega
  · exact wpAny_pure (h h₂ hD₂ fun b o hb e => (hs₂.2 b hb).trans ((hs₁.2 b hb).trans e))
theorem codeR_builtin {id : String} {args : Args} {bi : Builtin} {R : Flow → Shared → Prop} (hb : entryFor table id = some bi)
    (h : wpR (model prog w) (A.under (.builtin id args)) (bi args) (fun fin s' => match fin with | .done f => R f s' | .again c' => c'.quiet = true ∧ holder c' = false ∧ codeR (model prog w) A c' R s') s) :
    codeR (model prog w) A (.builtin id args) R s := by
  refine codeR_of_tree ?_
  show wpR _ _ (match entryFor table id with | some b => b args | none => unsupported ((withoutEnding? id "#data").getD id)) _ s
  rw [hb]; exact h
theorem codeR_call_builtin {id : String} {args : Args} {R : Flow → Shared → Prop} (hq : (Code.builtin id args).quiet = true) (hh : holder (.builtin id args) = false)
    (h : wpAny (model prog w) A.in1 (checkBuiltinCall id args) (fun _ s₁ => codeR (model prog w) A (.builtin id args) R s₁) (fun _ _ => False) s) :
    codeR (model prog w) A (.call (.builtin id) args) R s := by
  refine codeR_of_tree ?_
  show wpR _ A.in1 (do checkBuiltinCall id args; again (.builtin id args)) _ s
  exact wpR_after (wpAny_mono h (fun _ s₁ h₁ => wpR_pure ⟨hq, hh, h₁⟩) fun _ _ h' => h')
theorem holder_of {id : String} {args : Args} (h : (Builtin.Bytes.decodersThatHold ++ ["bytearray.__contains__", "bytearray.__mod__", "bytearray.__rmod__", "_struct.pack_into.held", "bytearray.find.held"]).contains id = false) : holder (.builtin id args) = false := h
/-- bytearray(n), over the free contexts -/
theorem call_bytearrayR {n : Int} {t : Tok} {Q : Value → Shared → Prop} (h0 : 0 < n) (h1 : n ≤ 100)
    (h : ∀ h', h'.get? s.heap.objs.size = some (baObj (Array.replicate n.toNat 0)) → (∀ b o, s.heap.get? b = some o → h'.get? b = some o) → Q (.ref s.heap.objs.size) { s with heap := h' }) :
    wpR (model prog w) A (call (.type "bytearray") [.int n t]) Q s := by
  obtain ⟨c, tl, hmro⟩ := called_ba.mro
  have hmade := called_ba.made
  refine wpR_call (codeR_of_tree ?_)
  show wpR _ _ (callAny (.type "bytearray") _) _ _
  refine wpR_pure ⟨Code.quiet_builtin _ (by decide +kernel), holder_of (by decide +kernel), codeR_builtin F.entry_type_call ?_⟩
  rw [Around.under_plain (weight_type_call_type "bytearray" [.int n t] []) rfl]
  unfold Builtin.«type.__call__»
  dsimp only
  simp only [called_ba.notType, called_ba.canCreate, Bool.false_eq_true, if_false]
  refine wpR_after (wpAny_of_eq (typeCall_ba _) ?_)
  refine wpR_after (wpAny_of_eq hmro ?_)
  simp only [List.isEmpty_cons, Bool.false_eq_true, if_false]
  refine wpR_after (wpAny_of_eq hmade ?_)
  dsimp only
  refine wpR_after (wpAny_pure ?_)
  refine wpR_after (wpAny_holding (wpAny_call (codeAny_mono (code_ba_new (E := fun _ _ => False) (Q₁ := fun v s' => v = .ref s.heap.objs.size ∧ s' = { s with heap := s.heap.push (baObj #[]) }) _ ⟨rfl, rfl⟩) fun r s' hr => ?_)))
  cases r with
  | error e => exact hr
  | ok fl =>
    cases fl with
    | ret v =>
      obtain ⟨rfl, rfl⟩ := hr
      have hD : ({ s with heap := s.heap.push (baObj #[]) } : Shared).heap.get? s.heap.objs.size = some (baObj #[]) := Heap.get?_push_size _ rfl
      refine wpR_after (wpAny_isInstance (typeIs_ba hD) sub_ba_self ?_)
      simp only [Bool.not_true, Bool.false_eq_true, if_false]
      refine wpR_bind (wpR_holding ?_)
      unfold callSpecial?
      refine wpR_after (wpAny_specialOf (typeIs_ba hD) slot_ba_init.lookup ?_)
      dsimp only
      refine wpR_holding (wpR_after (wpAny_of_eq (slot_ba_init.bind _) ?_))
      dsimp only
      refine wpR_bind (wpR_call (codeR_call_builtin (plainId_quiet slot_ba_init.plain _) (holder_of (by decide +kernel)) (slot_ba_init.check _ _ _ _ _ _ _ _ (typeIs_ba hD) (args_ba_init_2 _ _) (codeR_builtin entry_ba_init ?_))))
      refine initR hD h0 h1 fun h' hD' hk' => ?_
      dsimp only
      refine wpR_pure ?_
      dsimp only
      simp only [bne_self_eq_false, Bool.false_eq_true, if_false]
      exact wpR_pure (h h' hD' fun b o e => hk' b o (Nat.ne_of_lt (Heap.lt_size e)) (Heap.get?_push_of_some _ e))
    | _ => exact hr.elim
end
end Mine
end

-- part BA3
section
open PySem PySem.W PySem.Calls PyProof.Rows
open Sem (wp)
set_option maxRecDepth 100000
namespace Mine
theorem look_ba_bytes : typeLookup (.type "bytearray") "__bytes__" = pure none := by rw [typeLookup_type, builtinLookup_eq_fast]; kernel_rfl
theorem look_ba_index : typeLookup (.type "bytearray") "__index__" = pure none := by rw [typeLookup_type, builtinLookup_eq_fast]; kernel_rfl
theorem look_ba_buffer : typeLookup (.type "bytearray") "__buffer__" = pure (some (.builtin "bytearray.__buffer__")) := by rw [typeLookup_type, builtinLookup_eq_fast]; kernel_rfl
theorem ends_buffer : ("bytearray.__buffer__".endsWith ("." ++ "__buffer__")) = true := by decide +kernel
theorem drop_buffer : "bytearray.__buffer__".dropRight ("__buffer__".length + 1) = "bytearray" := by decide +kernel
section
variable {M : Model} {prog : Program} {w : World} {A : Around} {E : Value → Shared → Prop} {s : Shared} {D : Addr} {b : Array UInt8}
theorem setItem_ba {k x : Int} {t u : Tok} {Q : Unit → Shared → Prop} (hD : s.heap.get? D = some (baObj b)) (hz : b.size ≤ 1000) (h0 : 0 ≤ k) (h1 : k < b.size) (x0 : 0 ≤ x) (x1 : x < 256)
    (hQ : ∀ h', h'.get? D = some (baObj (b.setIfInBounds k.toNat x.toNat.toUInt8)) → Heap.SameBut D s.heap h' → Q () { s with heap := h' }) : wpAny (model prog w) A (setItem (.ref D) (.int k t) (.int x u)) Q E s := by
  have hT := typeIs_ba hD
  unfold setItem
  try with_reducible refine wpAny_holding ?_
  first | refine wpAny_bind (wpAny_pure ?_) | skip
  refine wpAny_bind (wpAny_sequenceKey hT (by decide) ?_)
  refine wpAny_bind (wpAny_callSpecial?_slot (name := Str.ofString "__setitem__") hT slot_ba_setitem
    (wpAny_call_entry slot_ba_setitem hT entry_ba_setitem ?_ (args_ba_setitem_3 _ _ _)))
  unfold Builtin.«bytearray.__setitem__»
  dsimp only
  simp only [List.isEmpty_nil, Bool.not_true, Bool.false_eq_true, if_false]
  have e1 : Builtin.Bytes.fitsIndex k = true := by simp only [Builtin.Bytes.fitsIndex, Bool.and_eq_true, decide_eq_true_eq]; omega
  refine wpAny_bind ?_
  unfold Builtin.Bytes.subscript?
  refine wpAny_bind (wpAny_specialOf (typeIs_int _ k t) look_int_index ?_)
  simp only [Option.isNone_some, Bool.false_eq_true, if_false]
  refine wpAny_bind (wpAny_of_eq (rfl : asIndex (.int k t) = pure k) ?_)
  simp only [e1, Bool.not_true, Bool.false_eq_true, if_false]
  refine wpAny_pure ?_
  dsimp only
  refine wpAny_bind ?_
  unfold Builtin.Bytes.byteValue
  refine wpAny_bind (wpAny_of_eq (rfl : asIndex (.int x u) = pure x) ?_)
  have e2 : (decide (x < 0) || decide (x ≥ 256)) = false := by simp only [Bool.or_eq_false_iff, decide_eq_false_iff_not]; omega
  simp only [e2, Bool.false_eq_true, if_false]
  refine wpAny_pure ?_
  refine wpAny_bind ?_
  unfold Builtin.Bytes.payload Builtin.Bytes.payload?
  refine wpAny_bind (wpAny_bind (wpAny_load hD ?_))
  refine wpAny_pure (wpAny_pure ?_)
  have e3 : seqIndex? k b.size = some k.toNat := by
    have hn : ¬ k < 0 := by omega
    simp [seqIndex?, hn, h0, h1]
  simp only [e3]
  refine wpAny_bind (wpAny_write hD (by simpa using hz) fun h' hD' hs' => ?_)
  exact wpAny_pure ⟨_, rfl, wpAny_pure (hQ h' hD' hs')⟩
theorem wpAny_slotIsOwn_buffer {Q : Bool → Shared → Prop} (hD : s.heap.get? D = some (baObj b)) (h : Q true s) : wpAny (model prog w) A (Builtin.Bytes.slotIsOwn (.ref D) "__buffer__") Q E s := by
  unfold Builtin.Bytes.slotIsOwn
  refine wpAny_bind (wpAny_specialOf (typeIs_ba hD) look_ba_buffer ?_)
  simp only [ends_buffer, drop_buffer, Bool.not_true, Bool.false_eq_true, if_false]
  exact wpAny_isInstance (typeIs_ba hD) sub_ba_self h
theorem code_bytes_ba {Q : Value → Shared → Prop} (hD : s.heap.get? D = some (baObj b)) (hz : b.size ≤ 1000) (hQ : ∀ t k, Q (.bytes b t) { s with toks := k }) :
    codeAny (model prog w) A (.call (.builtin "bytes.__new__") ⟨[.type "bytes", .ref D], []⟩) (wants Q E) s := by
  refine codeAny_of_tree ?_
  show wpAny _ A.in1 (do checkBuiltinCall "bytes.__new__" ⟨[.type "bytes", .ref D], []⟩; again (.builtin "bytes.__new__" ⟨[.type "bytes", .ref D], []⟩)) _ _ s
  refine wpAny_bind (wpAny_of_eq (F.bm_newCall _) (wpAny_pure ⟨plainId_quiet F.bm_plain _, codeAny_builtin F.bm_entry ?_⟩))
  rw [Around.under_plainId F.bm_plain _]
  have hT := typeIs_ba hD
  unfold Builtin.«bytes.__new__»
  refine wpAny_bind (wpAny_of_eq (a := true) rfl ?_)
  refine bm_if_false rfl ?_
  refine wpAny_bind (wpAny_of_eq F.bm_sub ?_)
  refine bm_if_false rfl ?_
  refine wpAny_bind (wpAny_of_eq (F.bm_bind _) ?_)
  refine wpAny_bind (wpAny_of_eq (a := ()) rfl ?_)
  refine wpAny_bind (wpAny_of_eq (a := ()) rfl ?_)
  refine bm_if_false rfl ?_
  refine wpAny_bind (wpAny_specialOf hT look_ba_bytes ?_)
  refine wpAny_bind (wpAny_bind ?_)
  show wpAny _ _ (load D >>= _) _ _ _
  refine wpAny_bind (wpAny_load hD ?_)
  refine wpAny_pure (wpAny_pure ?_)
  refine bm_if_false rfl ?_
  refine wpAny_bind (wpAny_specialOf hT look_ba_index ?_)
  refine bm_if_true rfl ?_
  first
    | show wpAny _ _ (Builtin.Bytes.buffer? "bytes.__new__" (.ref D) true >>= _) _ _ _
    | (refine wpAny_bind ?_; show wpAny _ _ (Builtin.Bytes.buffer? "bytes.__new__" (.ref D) true >>= _) _ _ _)
  refine wpAny_bind ?_
  unfold Builtin.Bytes.buffer?
  refine wpAny_bind (wpAny_specialOf hT look_ba_buffer ?_)
  dsimp only
  refine wpAny_bind (wpAny_slotIsOwn_buffer hD ?_)
  simp only [Bool.not_true, Bool.false_eq_true, if_false]
  refine wpAny_bind (wpAny_specialOf hT look_ba_buffer ?_)
  try dsimp only
  refine wpAny_bind (wpAny_ownRelease hD ?_)
  simp only [Bool.false_eq_true, if_false]
  refine wpAny_bind ?_
  unfold Builtin.Bytes.payload Builtin.Bytes.payload?
  refine wpAny_bind (wpAny_bind (wpAny_load hD ?_))
  refine wpAny_pure (wpAny_pure (wpAny_pure ?_))
  try dsimp only
  refine wpAny_bind (wpAny_rule ?_)
  refine wpAny_bind (wpAny_mkBytes ?_ (by rw [PySem.sizeLine_eq]; omega))
  show wpAny _ _ (if (Value.type "bytes" == Value.type "bytes") = true then _ else _) _ _ _
  refine bm_if_true (by decide) ?_
  first
    | exact wpAny_pure (hQ _ _)
    | exact wpAny_bind (wpAny_pure (wpAny_pure (hQ _ _)))
theorem call_bytes_ba {Q : Value → Shared → Prop} (hD : s.heap.get? D = some (baObj b)) (hz : b.size ≤ 1000) (hQ : ∀ t k, Q (.bytes b t) { s with toks := k }) : wpAny (model prog w) A (call (.type "bytes") [.ref D]) Q E s := by
  refine callType_codes (Q₁ := fun obj s₁ => s₁.TypeIs obj "bytes" ∧ Q obj s₁) F.bm_called (F.bm_typeCall _) F.entry_object_init
    (code_bytes_ba hD hz fun t k => ⟨PySem.W.typeIs_bytes _ _ _, hQ t k⟩) fun obj s₁ h₁ => ?_
  exact ⟨h₁.1, F.args_object_init_2 obj _, object_init_meets F.bm_called.init.lookup F.bm_called.made (by decide) prog w A.in1 _ s₁ ⟨h₁.1, rfl, h₁.2⟩⟩
end
end Mine
end

-- part BA4
section
open PySem PySem.W PySem.Calls PyProof.Rows
open Sem (wp)
set_option maxRecDepth 100000
namespace Mine
section
variable {prog : Program} {w : World} {A : Around} {E : Value → Shared → Prop} {s : Shared} {h₀ : Heap} {L D : Addr} {m : Str → Option Value} {news news' : List (Addr × Obj)} {bs : List UInt8}
theorem ba_makeR {n : Int} {t : Tok} {Q : Value → Shared → Prop} (F : Fr h₀ L s.heap m) (N : News h₀ L s.heap news) (h0 : 0 < n) (h1 : n ≤ 100)
    (h : ∀ D h', Fr h₀ L h' m → News h₀ L h' ((D, baObj (List.replicate n.toNat (0 : UInt8)).toArray) :: news) → (∀ p ∈ news, p.1 < D) → Q (.ref D) { s with heap := h' }) :
    wpR (model prog w) A (call (.type "bytearray") [.int n t]) Q s := by
  refine call_bytearrayR h0 h1 fun h' hD hk => h _ h' (F.keeps hk) (fun p hp => ?_) fun p hp => Heap.lt_size (N p hp).1
  rcases List.mem_cons.mp hp with rfl | hp
  · refine ⟨?_, Nat.ne_of_gt F.ns.lt, next_is_new F⟩
    rw [hD]
    simp
  · exact ⟨hk _ _ (N p hp).1, (N p hp).2⟩
theorem ba_setK {k x : Int} {t u : Tok} {Q : Unit → Shared → Prop} (F : Fr h₀ L s.heap m) (N : News h₀ L s.heap news) (U : Upd D (baObj bs.toArray) (baObj (bs.set k.toNat x.toNat.toUInt8).toArray) news news')
    (hz : bs.length ≤ 1000) (h0 : 0 ≤ k) (h1 : k < bs.length) (x0 : 0 ≤ x) (x1 : x < 256)
    (h : ∀ h', Fr h₀ L h' m → News h₀ L h' news' → Q () { s with heap := h' }) : wpAny (model prog w) A (setItem (.ref D) (.int k t) (.int x u)) Q E s := by
  have z := N _ (upd_mem U)
  refine setItem_ba z.1 (by simpa using hz) h0 (by simpa using h1) x0 x1 fun h' hD hs => h h' (F.change hs z.2.1 z.2.2) (news_after N U (fun b o hb e => (hs.2 b hb).trans e) fun p hp => ?_)
  rw [List.mem_singleton.mp hp]
  refine ⟨?_, z.2⟩
  rw [hD]
  simp
theorem ba_bytesK {Q : Value → Shared → Prop} (N : News h₀ L s.heap news) (hm : (D, baObj bs.toArray) ∈ news) (hz : bs.length ≤ 1000) (h : ∀ t k, Q (.bytes bs.toArray t) { s with toks := k }) : wpAny (model prog w) A (call (.type "bytes") [.ref D]) Q E s :=
  call_bytes_ba (N _ hm).1 (by simpa using hz) h
end
end Mine
end

-- part BS
section
open PySem PySem.W PySem.Calls PyProof.Rows
namespace Mine
theorem byte_lt (b : UInt8) : ((b.toNat : Nat) : Int) < 256 := by
  have := b.toNat_lt
  omega
local macro_rules | `(tactic| walk_at $s:str) => `(tactic| k_extra $s)
set_option maxRecDepth 100000 in
set_option maxHeartbeats 1000000 in
theorem byteswap_call {prog : Program} {w : World} {p : Program} {loose : List Str} {mean : ExcName → Option Value} {mg mb : Str → Option Value}
    {dp un : Nat} {gd : Option (List Code)} {cn : Str} {cs : Scope} {a : Addr} {ccd : Value} {cl : List (Str × Addr)} {outer : List Env} {A₀ : Around} {base h₀ : Heap} {L : Addr} {m : Str → Option Value} {s : Shared} {Q : Value → Shared → Prop}
    {bs : List UInt8} {t1 t2 : Tok} {wd : Int} (W q : Nat)
    (B : Below A₀ base outer h₀) (F : Fr h₀ L s.heap m) (X : (hdR.heap_39 w.params).In h₀) (T : Top p loose mean mg mb h₀) (hk : cs.kind = .function)
    (hW : wd = (W : Int)) (hW1 : 0 < W) (hW2 : W ≤ 16) (hq1 : 0 < q) (hq2 : q ≤ 16) (hb : bs.length ≤ 16) (hqW : q * W = bs.length) (hdp : dp + 4 < recursionLimit) (hun : un + 32 < cLine)
    (ret : ∀ h' tk' t', Fr h₀ L h' m → (∀ b o, s.heap.get? b = some o → h'.get? b = some o) → Q (.bytes (swapL W bs).toArray t') { s with heap := h', toks := tk' }) :
    wpR (model prog w) (ktrTop dp un gd cn cs L a ccd cl outer) (call (.ref 21) [.bytes bs.toArray t1, .int wd t2]) Q s := by
  subst hW
  w_on
  k_with_none
  k_with "wpR" => first
    | k_dflt (refine' wpR_callWith_type ?_ ?he ?hp; (case he => with_unfolding_all rfl); (case hp => with_unfolding_all rfl))
    | k_dflt (refine' ba_makeR ?k1 ?k2 ?h0 ?h1 ?_; (case k1 => k_asm); (case k2 => k_asm); (case h0 => (simp only [List.size_toArray]; omega)); (case h1 => (simp only [List.size_toArray]; omega)); intro D7 h7 F7 N7 hlt7; (simp only [List.size_toArray, Int.toNat_natCast] at N7))
    | refine wpR_of ?_
  k_with "pyIter ref" => first
    | (
      (rename Fr _ _ _ _ => lF')
      (rename News _ _ _ _ => lN')
      (with_unfolding_all refine' kst_step q (σ := List UInt8) (fun c => [(D7, baObj c.toArray)]) (fun _ => []) (fun _ => True) [Str.ofString "j"] (fun pre buf => buf.length = bs.length ∧ ∀ k, k < pre.length * W → SwOk W bs buf k) (List.replicate bs.length (0 : UInt8)) ?a1 ?a2 ?a3 ?a4 ?a5 ?a6 ?a7 ?a8 lF' lN' ?a9 ?b1 ?b2 ?turn ?done)
      (case a1 => k_dflt exact rfl)
      (case a2 => assumption)
      (case a3 => omega)
      (case a4 => omega)
      (case a5 => omega)
      (case a6 => omega)
      (case a7 => (simp only [List.size_toArray]; omega))
      (case a8 => (simp only [List.size_toArray]; exact hqI))
      (case a9 => exact True.intro)
      (case b1 => exact List.forall_mem_nil _)
      (case b2 => exact ⟨List.length_replicate, fun k h => absurd h (by simp)⟩)
      case' turn =>
        clear lF' lN'
        rintro buf1 kPre1 kN1 kT1 kU1 kH1 kTk1 kOwn1 kEq1 k01 kUb1 kLt1 kOff1 kFacts1 ⟨kI1, kI2⟩ kFr1 kNews1
        have kMark := kstMark
        dsimp only [kstB] at kFr1 kNews1 kOff1
        simp only [List.nil_append, List.cons_append, List.append_nil] at kNews1
        simp only [List.map_cons, List.map_nil] at kOff1
        simp only [List.size_toArray] at kUb1
        try k_fold
      case' done =>
        clear lF' lN'
        rintro buf1 kU kH kTk kFacts ⟨kI1, kI2⟩ kFr kNews
        have kMark := kstMark
        dsimp only [kstB] at kFr kNews
        try k_fold)
    | (
      (rename Fr _ _ _ _ => lF')
      (rename News _ _ _ _ => lN')
      (with_unfolding_all refine' kst_range (n := W) (σ := List UInt8) (fun c => (D7, baObj c.toArray) :: kOwn1) (fun _ => []) (fun _ => True) [] (fun pre buf => BsIn W kN1.toNat bs pre buf) buf1 ?ia1 ?ia2 ?ia3 ?ia4 lF' lN' ?ia9 ?ib1 ?ib2 ?turn2 ?done2)
      (case ia1 => k_dflt exact rfl)
      (case ia2 => assumption)
      (case ia3 => exact small_up (by omega))
      (case ia4 => exact rangeSize_up (by omega))
      (case ia9 => exact True.intro)
      (case ib1 => exact List.forall_mem_nil _)
      (case ib2 => exact bs_start kI1 (fun k h => kI2 k (by omega)))
      case' turn2 =>
        clear lF' lN'
        rintro buf2 kPre2 kN2 kT2 kU2 kH2 kTk2 kOwn2 kEq2 kLt2 kOff2 kFacts2 kI3 kFr2 kNews2
        have kMark := kstMark
        dsimp only [kstB] at kFr2 kNews2 kOff2
        simp only [List.nil_append, List.cons_append, List.append_nil] at kNews2
        try k_fold
      case' done2 =>
        clear lF' lN'
        rintro buf2 kU2 kH2 kTk2 kFacts2 kI3 kFr2 kNews2
        have kMark := kstMark
        dsimp only [kstB] at kFr2 kNews2
        try k_fold)
  k_with "setItem ref int" => k_dflt (
    refine' ba_setK ?s1 ?s2 ?s3 ?s4 ?s5 ?s6 ?s7 ?s8 ?_
    (case s1 => k_asm)
    (case s2 => k_asm)
    (case s3 => k_upd)
    (case s4 => (have q9 := kI3.1; omega))
    (case s5 => omega)
    (case s6 => (have q9 := kI3.1; omega))
    (case s7 => omega)
    (case s8 => exact byte_lt _)
    intro h8 F8 N8)
  k_with "state" => first
    | exact bs_turn kEq1 (by assumption) (by assumption) kUb1 rfl (by assumption)
    | exact ⟨kI3.1, fun k h => bs_word kEq1 kI3 k (by simpa using h)⟩
  k_with "call type:bytes" => k_dflt (refine' ba_bytesK ?k1 ?k2 ?k3 ?_; (case k1 => k_asm); (case k2 => k_mem); (case k3 => omega); intro t6 k6)
  have hbl : 0 < bs.length := by rw [← hqW]; exact Nat.mul_pos hq1 hW1
  have hqI : (q : Int) * (W : Int) = (bs.length : Int) := by rw [← hqW]; simp
  w_strict (
    refine wpR_call ?_
    k_dflt (refine' codeR_mono (enterR (R := fun r s' => match r with | .ok (.ret v) => Q v s' | _ => False) ?k1 ?k2 ?k3 ?k5 ?kA ?kF ?kK ?k6 ?k7 ?k8 ?k9 ?kB ?_ ?c2 ?c3 ?c4 ?c5) ?cm; (case kA => exact rfl); (case kF => exact rfl); (case kK => assumption); (case k1 => k_asm); (case k2 => k_asm); (case k3 => k_asm); (case k5 => k_asm); (case k6 => k_is); (case k7 => k_is); (case k8 => ktr_room); (case k9 => exact BindsTo.of_eq rfl); (case c5 => decide); (case kB => exact locs rfl); (case c2 => exact rfl); (case c3 => exact rfl); (case c4 => exact rfl); (case cm => (intro f s' x; cases f <;> first | exact x | exact x.elim)); k_whole; intro L' h' F' N' B' X' T'; (try dsimp only))
    refine wpR_execs_cons (wpR_Assign_Name (wpR_Call ?_) ?hs)
    (case hs => with_unfolding_all rfl)
    k_steps
    all_goals (first
      | (rw [bs_done hqW kI1 (fun k h => kI2 k (by rw [stepKs_length]; exact h))]; exact ret _ _ _ (by assumption) (fun b o e => Fr.keep (by assumption) b o e))
      | (trace_state; w_report)))
end Mine
end

-- part R4
section
open PySem PySem.W PySem.Calls PyProof.Rows
open Sem (wp)
set_option maxRecDepth 100000
namespace Mine
section
variable {prog : Program} {w : World} {A : Around} {s : Shared} {env : Env}
/-- a def called from no frame, over the free contexts -/
theorem enter_topR {K : Frag} {p : Program} {loose : List Str} {mean : ExcName → Option Value} {mg mb : Str → Option Value}
    {R : Flow → Shared → Prop} {name qual : Str} {params : Arguments} {body : List Stmt} {scope : Scope} {dV kV doc pm cdv ct oc : Value} {an od : Option Addr} {osl : Array (Option Value)} {f : Addr} {args : Args} {binds : List (Str × Value)}
    (X : K.In s.heap) (T : Top p loose mean mg mb s.heap)
    (ho : K.lookup f = some ⟨oc, od, .func (fnOf name qual params body scope dV kV doc pm an cdv ct), osl⟩) (hcd : codeIn K cdv qual = true) (hroom : A.depth < recursionLimit)
    (hbind : BindsTo s (fnOf name qual params body scope dV kV doc pm an cdv ct) args binds) (hloc : ∀ y ∈ binds, scope.names.lookup y.1 = some .local)
    (h : ∀ L' h₁, Fr s.heap L' h₁ (fun y => binds.reverse.lookup y) → News s.heap L' h₁ [] →
      wpR (model prog w) (A.deeper (envOf qual scope L' f cdv)) (execs body (envOf qual scope L' f cdv))
        (fun fl s' => R (.ret (match fl with | .ret v => v | _ => .none)) s') { s with heap := h₁, toks := s.toks + binds.length })
    (hco : scope.isCoroutine = false) (hgen : scope.isGenerator = false) (hk : scope.kind = .function) (hcell : ∀ x ∈ scope.names, x.2 ≠ .cell) : codeR (model prog w) A (.call (.ref f) args) R s := by
  refine codeR_call_function (fd := fnOf name qual params body scope dV kV doc pm an cdv ct) (body := body) hroom (X _ _ ho) rfl hco hgen rfl (codeRec_of X hcd) (hbind _ _ _ _ ?_)
  refine wpAny_newFunctionEnv hcell hloc (fun h₁ hns hsb => ⟨T.nolimit.fresh _ hsb, codeR_func ?_⟩) hk
  have kp : ∀ b o, s.heap.get? b = some o → h₁.get? b = some o := fun b o e => hsb.extBut b o (Nat.ne_of_lt (Heap.lt_size e)) (Heap.get?_push_of_some _ e)
  exact h s.heap.objs.size h₁ ⟨hns, kp, Nat.le_refl _⟩ News.nil
/-- a while by its state, over the free contexts -/
theorem kswR_while {h₀ : Heap} {L : Addr} {σ : Type} {test : Expr} {body : List Stmt} {pos : Pos} {m₀ : Str → Option Value} {Q : Flow → Shared → Prop} (Led : σ → List (Addr × Obj)) (ps : σ → List (Str × Value)) (Facts : σ → Prop) (stored : List Str) (P : σ → Prop) (μ : σ → Nat) (c₀ : σ)
    (F : Fr h₀ L s.heap m₀) (N : News h₀ L s.heap (Led c₀)) (hf : Facts c₀) (hk : ∀ p ∈ ps c₀, m₀ p.1 = some p.2) (hp : P c₀)
    (turn : ∀ (c : σ) (u : Str → Option Value) h tk, Facts c → P c → Fr h₀ L h (kstB (fun z => if stored.contains z then u z else m₀ z) (ps c)) → News h₀ L h (Led c) →
      wpR (model prog w) A (isTrue test env (eval test env)) (fun b s₂ =>
        if b = true then wpR (model prog w) A (execs body env) (KswPost h₀ L s Led ps Facts stored m₀ P μ Q c) s₂ else Q .next s₂) { s with heap := h, toks := tk }) :
    wpR (model prog w) A (exec (.While test body [] pos) env) Q s := by
  refine wpR_While (codeR_while (fun n s' => ∃ (c : σ) (h : Heap) (tk : Nat) (m₁ : Str → Option Value), s' = { s with heap := h, toks := tk } ∧ Fr h₀ L h m₁ ∧ News h₀ L h (Led c) ∧ μ c = n ∧ Facts c ∧ (∀ p ∈ ps c, m₁ p.1 = some p.2) ∧ (∀ z, (∀ p ∈ ps c, z ≠ p.1) → stored.contains z = false → m₁ z = m₀ z) ∧ P c) ?_
    (μ c₀) s ⟨c₀, s.heap, s.toks, m₀, rfl, F, N, rfl, hf, hk, fun _ _ _ => rfl, hp⟩)
  rintro n s' ⟨c, h, tk, m₁, rfl, F₁, N₁, hn, hf', h1, h2, hp'⟩
  refine wpR_mono (turn c m₁ h tk hf' hp' (ksw_fr h1 h2 F₁) N₁) fun b s₂ p => ?_
  cases b with
  | false => simpa using p
  | true =>
    simp only [if_true] at p ⊢
    refine wpR_mono p fun f s₃ q => ?_
    cases f with
    | ret v => exact q
    | brk => exact q
    | next =>
      obtain ⟨c', h', tk', m', news', rfl, F', N', hn', hf9, hk9, hr9, hp9, hm9⟩ := q
      exact ⟨μ c', hn ▸ hm9, c', h', tk', m', rfl, F', fun p hp => N' p (hn' p hp), rfl, hf9, hk9, hr9, hp9⟩
    | cont =>
      obtain ⟨c', h', tk', m', news', rfl, F', N', hn', hf9, hk9, hr9, hp9, hm9⟩ := q
      exact ⟨μ c', hn ▸ hm9, c', h', tk', m', rfl, F', fun p hp => N' p (hn' p hp), rfl, hf9, hk9, hr9, hp9⟩
end
end Mine
end

-- part PL
section
open PySem PySem.W PySem.Calls PyProof.Rows
namespace Mine
def Pow (n : Nat) : Prop := n = 4 ∨ n = 8 ∨ n = 16
def HalfOk (H : Nat) : Prop := H = 1 ∨ H = 2 ∨ H = 4 ∨ H = 8 ∨ H = 16
def placesL (n : Nat) : List UInt8 := (List.range n).map fun k => k.toUInt8
theorem placesL_length (n : Nat) : (placesL n).length = n := by simp [placesL]
theorem swapL_length (w : Nat) (bs : List UInt8) : (swapL w bs).length = bs.length := by simp [swapL]
theorem places_getD {n i : Nat} (hn : n ≤ 16) (h : i < n) : ((placesL n).getD i 0).toNat = i := by
  unfold placesL
  rw [List.getD_eq_getElem?_getD, List.getElem?_map, List.getElem?_range h]
  show (i.toUInt8).toNat = i
  simp
  omega
theorem swapL_getD {w i : Nat} {bs : List UInt8} (h : i < bs.length) : (swapL w bs).getD i 0 = bs.getD (swapIdx w i) 0 := by
  unfold swapL
  rw [List.getD_eq_getElem?_getD, List.getElem?_map, List.getElem?_range h]
  rfl
theorem swapIdx_lt {w q i : Nat} (hw : 0 < w) (h : i < q * w) : swapIdx w i < q * w := by
  unfold swapIdx
  have h1 : i / w < q := by rw [Nat.div_lt_iff_lt_mul hw]; exact h
  have h2 : (i / w) * w + w ≤ q * w := by
    have : (i / w + 1) * w ≤ q * w := Nat.mul_le_mul_right w h1
    rw [Nat.add_mul, Nat.one_mul] at this
    exact this
  have h3 : i % w < w := Nat.mod_lt i hw
  omega
/-- the wires of a width's first step -/
def mirL (n W : Nat) (row : List Int) : List Int := crossL row (swapL W (placesL n))
/-- the wires of a later step -/
def halfL (n S : Nat) (row : List Int) : List Int := crossL row (swapL (S / 2) (swapL S (placesL n)))
def halvesL (n S : Nat) (row : List Int) : List Int := if h : 1 < S then halvesL n (S / 2) (halfL n S row) else row
termination_by S
decreasing_by omega
theorem halvesL_go {n S : Nat} {row : List Int} (h : 1 < S) : halvesL n S row = halvesL n (S / 2) (halfL n S row) := by rw [halvesL, dif_pos h]
theorem halvesL_stop {n S : Nat} {row : List Int} (h : ¬ 1 < S) : halvesL n S row = row := by rw [halvesL, dif_neg h]
def stageL (n W : Nat) (row : List Int) : List Int := halvesL n (W / 2) (mirL n W row)
def wordL (row : List Int) (a W : Nat) : List Int := (row.drop a).take W
/-- every word of H places is the word of first, sorted -/
def Inv (n : Nat) (first : List Int) (H : Nat) (row : List Int) : Prop := row.length = n ∧ ∀ a, a * H < n → wordL row (a * H) H = heapsortL (wordL first (a * H) H)
theorem crossL_length (row : List Int) (ws : List UInt8) : (crossL row ws).length = row.length := by simp [crossL]
end Mine
end

-- part PH
section
open PySem PySem.W PySem.Calls PyProof.Rows
namespace Mine
theorem gd_ne {l : List Int} {i k : Nat} {x : Int} (h : k ≠ i) : (l.set i x).getD k 0 = l.getD k 0 := by
  simp [List.getD_eq_getElem?_getD, List.getElem?_set_ne (Ne.symm h)]
theorem gd_self {l : List Int} {i : Nat} {x : Int} (h : i < l.length) : (l.set i x).getD i 0 = x := by
  simp [List.getD_eq_getElem?_getD, List.getElem?_set_self h]
theorem gd_get {l : List Int} {i : Nat} (h : i < l.length) : l.getD i 0 = l[i] := by
  rw [List.getD_eq_getElem?_getD, List.getElem?_eq_getElem h]; rfl
theorem swap_perm {h : List Int} {p c : Nat} {x : Int} (hp : p < h.length) (hc : c < h.length) (hne : p ≠ c) : ((h.set p (h.getD c 0)).set c x).Perm (h.set p x) := by
  rw [List.perm_iff_count]
  intro b
  have hc' : c < (h.set p (h.getD c 0)).length := by rw [List.length_set]; exact hc
  have e1 : (h.set p (h.getD c 0))[c] = h.getD c 0 := by
    rw [← gd_get hc', gd_ne (Ne.symm hne)]
  rw [List.count_set hc', List.count_set hp, List.count_set hp, e1]
  have h1 : h.count b ≥ if h[p] == b then 1 else 0 := by
    split
    · rename_i q
      exact List.count_pos_iff.mpr (beq_iff_eq.mp q ▸ List.getElem_mem hp)
    · exact Nat.zero_le _
  split <;> split <;> split <;> omega
/-- c is a child of i -/
def Ed (i c : Nat) : Prop := c = 2 * i + 1 ∨ c = 2 * i + 2
def HeapFrom (h : List Int) (s : Nat) : Prop := ∀ i c, s ≤ i → Ed i c → c < h.length → h.getD i 0 ≤ h.getD c 0
/-- all is well but at the hole p -/
def Hole (h : List Int) (s p : Nat) : Prop :=
  (∀ i c, s ≤ i → Ed i c → c < h.length → i ≠ p → c ≠ p → h.getD i 0 ≤ h.getD c 0) ∧ (∀ q c, Ed q p → s ≤ q → Ed p c → c < h.length → h.getD q 0 ≤ h.getD c 0)
inductive Desc (s : Nat) : Nat → Prop
  | here : Desc s s
  | down {p c : Nat} : Desc s p → Ed p c → Desc s c
theorem Desc.le {s p : Nat} (h : Desc s p) : s ≤ p := by
  induction h with
  | here => exact Nat.le_refl _
  | down _ e ih => rcases e with e | e <;> omega
theorem Desc.up {s p : Nat} (h : Desc s p) (hne : p ≠ s) : ∃ q, Desc s q ∧ Ed q p ∧ q = (p - 1) / 2 ∧ q < p := by
  cases h with
  | here => exact absurd rfl hne
  | down h e => exact ⟨_, h, e, by rcases e with e | e <;> omega, by rcases e with e | e <;> omega⟩
theorem hole_set {h : List Int} {s p : Nat} {x : Int} (H : Hole h s p) : Hole (h.set p x) s p := by
  refine ⟨fun i c hi he hc h1 h2 => ?_, fun q c hq hs he hc => ?_⟩
  · rw [List.length_set] at hc
    rw [gd_ne h1, gd_ne h2]
    exact H.1 i c hi he hc h1 h2
  · rw [List.length_set] at hc
    rw [gd_ne (by rcases hq with e | e <;> omega), gd_ne (by rcases he with e | e <;> omega)]
    exact H.2 q c hq hs he hc
theorem sd_heap (x : Int) (s : Nat) : ∀ (p : Nat) (h : List Int), p < h.length → Hole h s p → Desc s p → (∀ c, Ed p c → c < h.length → x ≤ h.getD c 0) →
    HeapFrom (sdGo x s h p) s ∧ (sdGo x s h p).Perm (h.set p x) := by
  intro p
  induction p using Nat.strongRecOn with
  | _ p ih =>
    intro h hp H D H3
    have stop : (∀ i, Ed i p → s ≤ i → h.getD i 0 ≤ x) → HeapFrom (h.set p x) s := by
      intro hup i c hi he hc
      rw [List.length_set] at hc
      by_cases q1 : i = p
      · subst q1
        rw [gd_self hp, gd_ne (by rcases he with e | e <;> omega)]
        exact H3 c he hc
      · rw [gd_ne q1]
        by_cases q2 : c = p
        · subst q2
          rw [gd_self hp]
          exact hup i he hi
        · rw [gd_ne q2]
          exact H.1 i c hi he hc q1 q2
    by_cases hs : s < p
    · obtain ⟨q, Dq, eq, hq, hlt⟩ := D.up (by omega)
      have hsq := Dq.le
      have hqp : q ≠ p := by omega
      by_cases hx : x < h.getD ((p - 1) / 2) 0
      · rw [sdGo_up hs hx]
        rw [← hq] at hx ⊢
        have hql : q < h.length := by omega
        have a1 : q < (h.set p (h.getD q 0)).length := by rw [List.length_set]; exact hql
        have Hn : Hole (h.set p (h.getD q 0)) s q := by
          refine ⟨fun i c hi he hc h1 h2 => ?_, fun r c hr hs' he hc => ?_⟩
          · rw [List.length_set] at hc
            by_cases q1 : i = p
            · subst q1
              rw [gd_self hp, gd_ne (by rcases he with e | e <;> omega)]
              exact H.2 q c eq hsq he hc
            · rw [gd_ne q1]
              by_cases q2 : c = p
              · subst q2
                exact absurd (show i = q by rcases he with e | e <;> rcases eq with e' | e' <;> omega) h1
              · rw [gd_ne q2]
                exact H.1 i c hi he hc q1 q2
          · rw [List.length_set] at hc
            have hrq : r < q := by rcases hr with e | e <;> omega
            rw [gd_ne (show r ≠ p by omega)]
            have e1 : h.getD r 0 ≤ h.getD q 0 := H.1 r q hs' hr hql (by omega) hqp
            by_cases q2 : c = p
            · subst q2
              rw [gd_self hp]
              exact e1
            · rw [gd_ne q2]
              exact Int.le_trans e1 (H.1 q c hsq he hc hqp q2)
        have H3n : ∀ c, Ed q c → c < (h.set p (h.getD q 0)).length → x ≤ (h.set p (h.getD q 0)).getD c 0 := by
          intro c he hc
          rw [List.length_set] at hc
          by_cases q2 : c = p
          · subst q2
            rw [gd_self hp]
            omega
          · rw [gd_ne q2]
            have := H.1 q c hsq he hc hqp q2
            omega
        obtain ⟨r1, r2⟩ := ih q hlt (h.set p (h.getD q 0)) a1 Hn Dq H3n
        exact ⟨r1, r2.trans (swap_perm hp hql (Ne.symm hqp))⟩
      · rw [sdGo_here hs hx]
        refine ⟨stop fun i he hi => ?_, .refl _⟩
        have e : i = (p - 1) / 2 := by rcases he with e | e <;> omega
        rw [e]
        omega
    · rw [sdGo_stop hs]
      refine ⟨stop fun i he hi => ?_, .refl _⟩
      have := D.le
      rcases he with e | e <;> omega
theorem su_heap (s : Nat) (x : Int) : ∀ (k : Nat) (h : List Int) (p : Nat), h.length - p = k → p < h.length → Hole h s p → Desc s p →
    (suGo h p).2 < (suGo h p).1.length ∧ Hole (suGo h p).1 s (suGo h p).2 ∧ Desc s (suGo h p).2 ∧ ¬ 2 * (suGo h p).2 + 1 < (suGo h p).1.length ∧ ((suGo h p).1.set (suGo h p).2 x).Perm (h.set p x) := by
  intro k
  induction k using Nat.strongRecOn with
  | _ k ih =>
    intro h p hk hp H D
    by_cases hl : 2 * p + 1 < h.length
    · rw [suGo_down hl]
      have c1 := suC_le h p
      have c2 := suC_lt hl
      have hEd : Ed p (suC h p) := by unfold suC Ed; split <;> omega
      have hmin : ∀ d, Ed p d → d < h.length → d ≠ suC h p → h.getD (suC h p) 0 ≤ h.getD d 0 := by
        intro d hd hdl hne
        unfold suC at hne ⊢
        split
        · rename_i q
          rw [if_pos q] at hne
          have e : d = 2 * p + 1 := by rcases hd with e | e <;> omega
          rw [e]
          omega
        · rename_i q
          rw [if_neg q] at hne
          have e : d = 2 * p + 2 := by rcases hd with e | e <;> omega
          rw [e] at hdl ⊢
          have q2 : h.getD (2 * p + 1) 0 < h.getD (2 * p + 2) 0 := by
            rcases Decidable.em (h.getD (2 * p + 1) 0 < h.getD (2 * p + 2) 0) with w | w
            · exact w
            · exact absurd ⟨hdl, w⟩ q
          omega
      generalize suC h p = c at *
      have hpc : p ≠ c := by omega
      have Hn : Hole (h.set p (h.getD c 0)) s c := by
        have hsp := D.le
        refine ⟨fun i d hi he hd h1 h2 => ?_, fun q d hq hs he hd => ?_⟩
        · rw [List.length_set] at hd
          by_cases q1 : i = p
          · subst q1
            rw [gd_self hp, gd_ne (by rcases he with e | e <;> omega)]
            exact hmin d he hd h2
          · rw [gd_ne q1]
            by_cases q2 : d = p
            · subst q2
              rw [gd_self hp]
              exact H.2 i c he hi hEd c2
            · rw [gd_ne q2]
              exact H.1 i d hi he hd q1 q2
        · rw [List.length_set] at hd
          have e : q = p := by rcases hq with e | e <;> rcases hEd with e' | e' <;> omega
          subst e
          have hdc : d ≠ q := by rcases he with e | e <;> omega
          rw [gd_self hp, gd_ne hdc]
          exact H.1 c d (by omega) he hd (Ne.symm hpc) hdc
      obtain ⟨r1, r2, r3, r4, r5⟩ := ih ((h.set p (h.getD c 0)).length - c) (by rw [List.length_set]; omega) (h.set p (h.getD c 0)) c rfl (by rw [List.length_set]; exact c2) Hn (D.down hEd)
      exact ⟨r1, r2, r3, r4, r5.trans (swap_perm hp c2 hpc)⟩
    · rw [suGo_stop hl]
      exact ⟨hp, H, D, hl, .refl _⟩
theorem siftup_heap {h : List Int} {s : Nat} (hs : s < h.length) (H : HeapFrom h (s + 1)) : HeapFrom (siftup h s) s ∧ (siftup h s).Perm h := by
  have H0 : Hole h s s := ⟨fun i c hi he hc h1 _ => H i c (by omega) he hc, fun q c hq hs' _ _ => by rcases hq with e | e <;> omega⟩
  obtain ⟨r1, r2, r3, r4, r5⟩ := su_heap s (h.getD s 0) _ h s rfl hs H0 .here
  unfold siftup
  generalize suGo h s = g at *
  obtain ⟨h1, q⟩ := g
  dsimp only at *
  rw [gd_self r1]
  obtain ⟨t1, t2⟩ := sd_heap (h.getD s 0) s q (h1.set q (h.getD s 0)) (by rw [List.length_set]; exact r1) (hole_set r2) r3 (fun c he hc => by
    rw [List.length_set] at hc
    rcases he with e | e <;> omega)
  refine ⟨t1, t2.trans ?_⟩
  rw [List.set_set]
  refine r5.trans ?_
  have e : h.set s (h.getD s 0) = h := by
    rw [gd_get hs]; exact List.set_getElem_self hs
  rw [e]
theorem hp_heap : ∀ (k : Nat) (h : List Int), k ≤ h.length → HeapFrom h k → HeapFrom (hpGo k h) 0 ∧ (hpGo k h).Perm h
  | 0, h, _, H => ⟨H, .refl _⟩
  | k + 1, h, hk, H => by
    obtain ⟨a, b⟩ := siftup_heap (s := k) (by omega) H
    obtain ⟨c, d⟩ := hp_heap k (siftup h k) (by rw [siftup_length]; omega) a
    exact ⟨c, d.trans b⟩
theorem heapify_heap (ns : List Int) : HeapFrom (heapifyL ns) 0 ∧ (heapifyL ns).Perm ns :=
  hp_heap _ ns (Nat.div_le_self _ _) fun i c hi he hc => by rcases he with e | e <;> omega
theorem root_le {h : List Int} (H : HeapFrom h 0) : ∀ i, i < h.length → h.getD 0 0 ≤ h.getD i 0 := by
  intro i
  induction i using Nat.strongRecOn with
  | _ i ih =>
    intro hi
    by_cases q : i = 0
    · subst q; exact Int.le_refl _
    · have e : Ed ((i - 1) / 2) i := by unfold Ed; omega
      exact Int.le_trans (ih ((i - 1) / 2) (by omega) (by omega)) (H _ _ (Nat.zero_le _) e hi)
theorem pop_heap {ns : List Int} (hne : 0 < ns.length) (H : HeapFrom ns 0) : HeapFrom (popL ns).2 0 ∧ ((popL ns).1 :: (popL ns).2).Perm ns ∧ ∀ y ∈ (popL ns).2, (popL ns).1 ≤ y := by
  obtain ⟨t, l, rfl⟩ : ∃ t l, ns = t ++ [l] := ⟨ns.dropLast, ns.getLast (by intro e; rw [e] at hne; exact absurd hne (Nat.lt_irrefl 0)), (List.dropLast_concat_getLast _).symm⟩
  have e1 : (t ++ [l]).dropLast = t := by simp
  have e2 : (t ++ [l]).getLastD 0 = l := by simp
  cases t with
  | nil =>
    have e : popL ([] ++ [l]) = (l, []) := by rfl
    rw [e]
    exact ⟨fun i c _ _ hc => absurd hc (Nat.not_lt_zero _), .refl _, fun y hy => nomatch hy⟩
  | cons a t =>
    have e : popL (a :: t ++ [l]) = (a, siftup (l :: t) 0) := by
      rw [popL_pos (by rw [e1]; exact Nat.succ_pos _), e1, e2]
      rfl
    rw [e]
    have H1 : HeapFrom (l :: t) 1 := by
      intro i c hi he hc
      have hc0 : c ≠ 0 := by rcases he with e | e <;> omega
      have hl : c < (a :: t ++ [l]).length := by simp at hc ⊢; omega
      have hcl : c < (a :: t).length := by simpa using hc
      have hil : i < (a :: t).length := by rcases he with e | e <;> omega
      have h := H i c (Nat.zero_le _) he hl
      have g : ∀ j, 1 ≤ j → j < (a :: t).length → (a :: t ++ [l]).getD j 0 = (l :: t).getD j 0 := by
        intro j hj hjl
        rw [List.getD_eq_getElem?_getD, List.getElem?_append_left hjl, List.getD_eq_getElem?_getD]
        obtain ⟨j, rfl⟩ : ∃ k, j = k + 1 := ⟨j - 1, by omega⟩
        rfl
      rw [g i hi hil, g c (by omega) hcl] at h
      exact h
    obtain ⟨r1, r2⟩ := siftup_heap (h := l :: t) (s := 0) (Nat.succ_pos _) H1
    have p : (a :: siftup (l :: t) 0).Perm (a :: t ++ [l]) := by
      refine (r2.cons a).trans (List.Perm.cons a ?_)
      exact (List.perm_append_comm (l₁ := [l]) (l₂ := t))
    refine ⟨r1, p, fun y hy => ?_⟩
    have hm : y ∈ a :: t ++ [l] := p.mem_iff.mp (List.mem_cons_of_mem _ hy)
    obtain ⟨i, hi, rfl⟩ := List.mem_iff_getElem.mp hm
    have := root_le H i hi
    rw [gd_get hi] at this
    exact this
theorem pops_heap : ∀ (k : Nat) (ns : List Int), ns.length = k → HeapFrom ns 0 → (popsL k ns).Perm ns ∧ (popsL k ns).Pairwise (· ≤ ·)
  | 0, ns, hk, _ => by
    rw [List.length_eq_zero_iff.mp hk]
    exact ⟨.refl _, .nil⟩
  | k + 1, ns, hk, H => by
    obtain ⟨a, b, c⟩ := pop_heap (by omega) H
    obtain ⟨d, e⟩ := pops_heap k (popL ns).2 (by rw [popL_length _ (by omega)]; omega) a
    refine ⟨(d.cons _).trans b, List.Pairwise.cons (fun y hy => c y (d.mem_iff.mp hy)) e⟩
theorem heapsort_perm (ns : List Int) : (heapsortL ns).Perm ns := by
  obtain ⟨a, b⟩ := heapify_heap ns
  exact (pops_heap _ _ (heapifyL_length ns) a).1.trans b
theorem heapsort_sorted (ns : List Int) : (heapsortL ns).Pairwise (· ≤ ·) := (pops_heap _ _ (heapifyL_length ns) (heapify_heap ns).1).2
end Mine
end

-- part PN
section
open PySem PySem.W PySem.Calls PyProof.Rows
namespace Mine
/-- crossing over truth values -/
def crossB (row : List Bool) (f : Nat → Nat) : List Bool :=
  (List.range row.length).map fun i => if (!row.getD (f i) false && row.getD i false && decide (i < f i)) || (!row.getD i false && row.getD (f i) false && decide (f i < i)) then row.getD (f i) false else row.getD i false
def halvesB : Nat → Nat → List Bool → List Bool
  | 0, _, r => r
  | k + 1, S, r => if 1 < S then halvesB k (S / 2) (crossB r fun i => swapIdx S (swapIdx (S / 2) i)) else r
def netB (W : Nat) (r : List Bool) : List Bool := halvesB (W / 2) (W / 2) (crossB r (swapIdx W))
def upB (h a : Nat) : List Bool := List.replicate (h - a) false ++ List.replicate a true
theorem netB_ok : ∀ h ∈ [1, 2, 4, 8], ∀ a ∈ List.range (h + 1), ∀ b ∈ List.range (h + 1), netB (2 * h) (upB h a ++ upB h b) = upB (2 * h) (a + b) := by
  decide +kernel
/-- is t met? -/
def bt (t y : Int) : Bool := decide (t ≤ y)
theorem map_getD {t : Int} {row : List Int} {i : Nat} (h : i < row.length) : (row.map (bt t)).getD i false = bt t (row.getD i 0) := by
  rw [List.getD_eq_getElem?_getD, List.getElem?_map, List.getD_eq_getElem?_getD, List.getElem?_eq_getElem h]
  rfl
theorem map_cross {t : Int} {row : List Int} {ws : List UInt8} {f : Nat → Nat} (hf : ∀ i, i < row.length → (ws.getD i 0).toNat = f i) (hl : ∀ i, i < row.length → f i < row.length) : (crossL row ws).map (bt t) = crossB (row.map (bt t)) f := by
  unfold crossL crossB
  rw [List.map_map, List.length_map]
  apply List.map_congr_left
  intro i hi
  have hi := List.mem_range.mp hi
  have hj := hl i hi
  show bt t (crossAt row ws i) = _
  unfold crossAt
  rw [hf i hi, map_getD hi, map_getD hj]
  generalize row.getD i 0 = x
  generalize row.getD (f i) 0 = y
  generalize f i = j
  unfold bt
  by_cases h1 : t ≤ x <;> by_cases h2 : t ≤ y <;> by_cases h3 : y < x <;> by_cases h4 : x < y <;> by_cases h5 : i < j <;> by_cases h6 : j < i <;> simp [h1, h2, h3, h4, h5, h6] <;> omega
end Mine
namespace Mine
def P2 (n : Nat) : Prop := n = 1 ∨ n = 2 ∨ n = 4 ∨ n = 8 ∨ n = 16
theorem P2.le {n : Nat} (h : P2 n) : n ≤ 16 := by unfold P2 at h; omega
theorem P2.pos {n : Nat} (h : P2 n) : 0 < n := by unfold P2 at h; omega
theorem p2_div {n V : Nat} (hn : P2 n) (hV : P2 V) (h : V ≤ n) : n / V * V = n := by
  rcases hn with e | e | e | e | e <;> rcases hV with q | q | q | q | q <;> subst e <;> subst q <;> first | rfl | omega
theorem p2_half {S : Nat} (h : P2 S) (h1 : 1 < S) : P2 (S / 2) := by
  unfold P2 at *; omega
theorem idx_lt {n V i : Nat} (hn : P2 n) (hV : P2 V) (hl : V ≤ n) (hi : i < n) : swapIdx V i < n := by
  have e := p2_div hn hV hl
  have := swapIdx_lt (w := V) (q := n / V) (i := i) hV.pos (by omega)
  omega
theorem wires1 {n V i : Nat} (hn : P2 n) (hV : P2 V) (hl : V ≤ n) (hi : i < n) : ((swapL V (placesL n)).getD i 0).toNat = swapIdx V i := by
  rw [swapL_getD (by rw [placesL_length]; exact hi), places_getD hn.le (idx_lt hn hV hl hi)]
theorem wires2 {n V U i : Nat} (hn : P2 n) (hV : P2 V) (hl : V ≤ n) (hU : P2 U) (hlU : U ≤ n) (hi : i < n) : ((swapL U (swapL V (placesL n))).getD i 0).toNat = swapIdx V (swapIdx U i) := by
  rw [swapL_getD (by rw [swapL_length, placesL_length]; exact hi), wires1 hn hV hl (idx_lt hn hU hlU hi)]
theorem swapIdx_shift (V q a k : Nat) (hV : 0 < V) : swapIdx V (a * (q * V) + k) = a * (q * V) + swapIdx V k := by
  unfold swapIdx
  have e : a * (q * V) = (a * q) * V := (Nat.mul_assoc a q V).symm
  rw [e]
  have h1 : ((a * q) * V + k) / V = a * q + k / V := by
    rw [Nat.add_comm, Nat.add_mul_div_right _ _ hV, Nat.add_comm]
  have h2 : ((a * q) * V + k) % V = k % V := by
    rw [Nat.add_comm, Nat.add_mul_mod_self_right]
  rw [h1, h2, Nat.add_mul]
  omega
theorem idx_word {W V a k : Nat} (hW : P2 W) (hV : P2 V) (hl : V ≤ W) : swapIdx V (a * W + k) = a * W + swapIdx V k := by
  have e := p2_div hW hV hl
  have h := swapIdx_shift V (W / V) a k hV.pos
  rw [e] at h
  exact h
theorem wordL_length {row : List Int} {b W : Nat} (h : b + W ≤ row.length) : (wordL row b W).length = W := by
  unfold wordL
  rw [List.length_take, List.length_drop]
  omega
theorem wordL_getD {row : List Int} {b W k : Nat} (hk : k < W) : (wordL row b W).getD k 0 = row.getD (b + k) 0 := by
  unfold wordL
  rw [List.getD_eq_getElem?_getD, List.getElem?_take_of_lt hk, List.getElem?_drop, List.getD_eq_getElem?_getD]
theorem ext_getD {l l' : List Int} (h1 : l.length = l'.length) (h2 : ∀ k, k < l.length → l.getD k 0 = l'.getD k 0) : l = l' := by
  apply List.ext_getElem h1
  intro k a b
  have := h2 k a
  rw [gd_get a, gd_get b] at this
  exact this
theorem crossL_getD {row : List Int} {ws : List UInt8} {i : Nat} (h : i < row.length) : (crossL row ws).getD i 0 = crossAt row ws i := by
  unfold crossL
  rw [List.getD_eq_getElem?_getD, List.getElem?_map, List.getElem?_range h]
  rfl
theorem word_cross {row : List Int} {ws wsW : List UInt8} {b W : Nat} (hb : b + W ≤ row.length) (hloc : ∀ k, k < W → (ws.getD (b + k) 0).toNat = b + (wsW.getD k 0).toNat) (hlt : ∀ k, k < W → (wsW.getD k 0).toNat < W) :
    wordL (crossL row ws) b W = crossL (wordL row b W) wsW := by
  apply ext_getD
  · rw [wordL_length (by rw [crossL_length]; exact hb), crossL_length, wordL_length hb]
  · intro k hk
    rw [wordL_length (by rw [crossL_length]; exact hb)] at hk
    rw [wordL_getD hk, crossL_getD (by omega), crossL_getD (by rw [wordL_length hb]; exact hk)]
    unfold crossAt
    rw [hloc k hk, wordL_getD hk, wordL_getD (hlt k hk)]
    simp only [Nat.add_lt_add_iff_left]
theorem word_mir {n W a : Nat} {row : List Int} (hn : P2 n) (hW : P2 W) (hl : W ≤ n) (hr : row.length = n) (hb : a * W + W ≤ n) : wordL (mirL n W row) (a * W) W = mirL W W (wordL row (a * W) W) := by
  refine word_cross (by omega) (fun k hk => ?_) (fun k hk => ?_)
  · rw [wires1 hn hW hl (by omega), wires1 hW hW (Nat.le_refl _) hk, idx_word hW hW (Nat.le_refl _)]
  · rw [wires1 hW hW (Nat.le_refl _) hk]
    exact idx_lt hW hW (Nat.le_refl _) hk
theorem word_half {n W S a : Nat} {row : List Int} (hn : P2 n) (hW : P2 W) (hl : W ≤ n) (hS : P2 S) (h1 : 1 < S) (hlS : S ≤ W) (hr : row.length = n) (hb : a * W + W ≤ n) : wordL (halfL n S row) (a * W) W = halfL W S (wordL row (a * W) W) := by
  have hS2 := p2_half hS h1
  refine word_cross (by omega) (fun k hk => ?_) (fun k hk => ?_)
  · rw [wires2 hn hS (by omega) hS2 (by omega) (by omega), wires2 hW hS hlS hS2 (by omega) hk, idx_word hW hS2 (by omega), idx_word hW hS hlS]
  · rw [wires2 hW hS hlS hS2 (by omega) hk]
    exact idx_lt hW hS hlS (idx_lt hW hS2 (by omega) hk)
theorem halfL_length (n S : Nat) (row : List Int) : (halfL n S row).length = row.length := crossL_length _ _
theorem mirL_length (n S : Nat) (row : List Int) : (mirL n S row).length = row.length := crossL_length _ _
theorem halvesL_length (n : Nat) : ∀ (S : Nat) (row : List Int), (halvesL n S row).length = row.length := by
  intro S
  induction S using Nat.strongRecOn with
  | _ S ih =>
    intro row
    by_cases h : 1 < S
    · rw [halvesL_go h, ih (S / 2) (by omega), halfL_length]
    · rw [halvesL_stop h]
theorem stageL_length (n W : Nat) (row : List Int) : (stageL n W row).length = row.length := by unfold stageL; rw [halvesL_length, mirL_length]
theorem word_halves {n W a : Nat} (hn : P2 n) (hW : P2 W) (hl : W ≤ n) (hb : a * W + W ≤ n) : ∀ (S : Nat) (row : List Int), P2 S → S ≤ W → row.length = n → wordL (halvesL n S row) (a * W) W = halvesL W S (wordL row (a * W) W) := by
  intro S
  induction S using Nat.strongRecOn with
  | _ S ih =>
    intro row hS hlS hr
    by_cases h : 1 < S
    · rw [halvesL_go h, halvesL_go (n := W) h, ih (S / 2) (by omega) _ (p2_half hS h) (by omega) (by rw [halfL_length]; exact hr), word_half hn hW hl hS h hlS hr hb]
    · rw [halvesL_stop h, halvesL_stop h]
theorem word_stage {n W a : Nat} {row : List Int} (hn : P2 n) (hW : P2 W) (h1 : 1 < W) (hl : W ≤ n) (hr : row.length = n) (hb : a * W + W ≤ n) : wordL (stageL n W row) (a * W) W = stageL W W (wordL row (a * W) W) := by
  unfold stageL
  rw [word_halves hn hW hl hb _ _ (p2_half hW h1) (by omega) (by rw [mirL_length]; exact hr), word_mir hn hW hl hr hb]
theorem map_halves {t : Int} {W : Nat} (hW : P2 W) : ∀ (k S : Nat) (y : List Int), y.length = W → P2 S → S ≤ k → S ≤ W → (halvesL W S y).map (bt t) = halvesB k S (y.map (bt t)) := by
  intro k
  induction k with
  | zero => intro S y _ hS hk _; have := hS.pos; omega
  | succ k ih =>
    intro S y hy hS hk hl
    unfold halvesB
    by_cases h : 1 < S
    · have hS2 := p2_half hS h
      rw [if_pos h, halvesL_go h, ih (S / 2) _ (by rw [halfL_length]; exact hy) hS2 (by omega) (by omega)]
      unfold halfL
      rw [map_cross (f := fun i => swapIdx S (swapIdx (S / 2) i)) (fun i hi => wires2 hW hS hl hS2 (by omega) (by omega)) (fun i hi => by rw [hy] at hi ⊢; exact idx_lt hW hS hl (idx_lt hW hS2 (by omega) hi))]
    · rw [if_neg h, halvesL_stop h]
theorem map_stage {t : Int} {W : Nat} {x : List Int} (hW : P2 W) (h1 : 1 < W) (hx : x.length = W) : (stageL W W x).map (bt t) = netB W (x.map (bt t)) := by
  unfold stageL netB
  rw [map_halves hW (W / 2) (W / 2) _ (by rw [mirL_length]; exact hx) (p2_half hW h1) (Nat.le_refl _) (by omega)]
  unfold mirL
  rw [map_cross (f := swapIdx W) (fun i hi => wires1 hW hW (Nat.le_refl _) (by omega)) (fun i hi => by rw [hx] at hi ⊢; exact idx_lt hW hW (Nat.le_refl _) hi)]
/-- a sorted list met by t: first the places that are not, then those that are -/
theorem sorted_up (t : Int) : ∀ u : List Int, u.Pairwise (· ≤ ·) → ∃ a, a ≤ u.length ∧ u.map (bt t) = upB u.length a
  | [], _ => ⟨0, Nat.le_refl _, rfl⟩
  | x :: u, h => by
    obtain ⟨hx, hu⟩ := List.pairwise_cons.mp h
    obtain ⟨a, ha, e⟩ := sorted_up t u hu
    by_cases ht : t ≤ x
    · refine ⟨u.length + 1, Nat.le_refl _, ?_⟩
      have : ∀ y ∈ x :: u, bt t y = true := fun y hy => by
        unfold bt
        rcases List.mem_cons.mp hy with rfl | hy
        · simpa using ht
        · have := hx y hy; simp; omega
      unfold upB
      rw [show (x :: u).length - (u.length + 1) = 0 by simp]
      simp only [List.replicate_zero, List.nil_append]
      rw [List.eq_replicate_iff]
      refine ⟨by simp, fun b hb => ?_⟩
      obtain ⟨y, hy, rfl⟩ := List.mem_map.mp hb
      exact this y hy
    · refine ⟨a, Nat.le_succ_of_le ha, ?_⟩
      have e0 : bt t x = false := by unfold bt; simpa using ht
      rw [List.map_cons, e, e0]
      unfold upB
      rw [show (x :: u).length - a = (u.length - a) + 1 by simp; omega]
      rfl
theorem upB_get {h a i : Nat} (ha : a ≤ h) (hi : i < h) : (upB h a).getD i false = decide (h - a ≤ i) := by
  unfold upB
  rw [List.getD_eq_getElem?_getD]
  by_cases q : i < h - a
  · rw [List.getElem?_append_left (by simpa using q), List.getElem?_replicate, if_pos q]
    simp; omega
  · rw [List.getElem?_append_right (by simp; omega), List.getElem?_replicate, if_pos (by simp; omega)]
    simp; omega
theorem upB_count {h a : Nat} : (upB h a).count true = a := by
  unfold upB
  rw [List.count_append, List.count_replicate, List.count_replicate]
  simp
theorem count_up (t : Int) : ∀ l : List Int, l.count t + (l.map (bt (t + 1))).count true = (l.map (bt t)).count true
  | [] => rfl
  | x :: l => by
    have ih := count_up t l
    simp only [List.map_cons, List.count_cons]
    unfold bt at *
    rcases Int.lt_trichotomy x t with q | q | q
    · have h1 : ¬ t ≤ x := by omega
      have h2 : ¬ t + 1 ≤ x := by omega
      have h3 : ¬ x = t := by omega
      simp [h1, h2, h3]; omega
    · subst q
      have h2 : ¬ x + 1 ≤ x := by omega
      simp [h2]; omega
    · have h1 : t ≤ x := by omega
      have h2 : t + 1 ≤ x := by omega
      have h3 : ¬ x = t := by omega
      simp [h1, h2, h3]; omega
theorem net_right {h : Nat} {u v : List Int} (hh : h = 1 ∨ h = 2 ∨ h = 4 ∨ h = 8) (hu : u.length = h) (hv : v.length = h) (su : u.Pairwise (· ≤ ·)) (sv : v.Pairwise (· ≤ ·)) :
    (stageL (2 * h) (2 * h) (u ++ v)).Pairwise (· ≤ ·) ∧ (stageL (2 * h) (2 * h) (u ++ v)).Perm (u ++ v) := by
  have hW : P2 (2 * h) := by unfold P2; omega
  have hl : (u ++ v).length = 2 * h := by rw [List.length_append]; omega
  have key : ∀ t : Int, ∃ m, m ≤ 2 * h ∧ (stageL (2 * h) (2 * h) (u ++ v)).map (bt t) = upB (2 * h) m ∧ ((u ++ v).map (bt t)).count true = m := by
    intro t
    obtain ⟨a, ha, ea⟩ := sorted_up t u su
    obtain ⟨b, hb, eb⟩ := sorted_up t v sv
    rw [hu] at ea ha
    rw [hv] at eb hb
    refine ⟨a + b, by omega, ?_, ?_⟩
    · rw [map_stage hW (by omega) hl, List.map_append, ea, eb]
      exact netB_ok h (by rcases hh with e | e | e | e <;> subst e <;> decide) a (List.mem_range.mpr (by omega)) b (List.mem_range.mpr (by omega))
    · rw [List.map_append, ea, eb, List.count_append, upB_count, upB_count]
  have hyl : (stageL (2 * h) (2 * h) (u ++ v)).length = 2 * h := by rw [stageL_length, hl]
  generalize stageL (2 * h) (2 * h) (u ++ v) = y at *
  constructor
  · rw [List.pairwise_iff_getElem]
    intro i j hi hj hij
    obtain ⟨m, hm, e, _⟩ := key y[i]
    have gi : (y.map (bt y[i])).getD i false = true := by
      rw [map_getD hi, gd_get hi]; unfold bt; simp
    rw [e, upB_get hm (by omega)] at gi
    have gj : (y.map (bt y[i])).getD j false = true := by
      rw [e, upB_get hm (by omega)]
      simp at gi ⊢; omega
    rw [map_getD hj, gd_get hj] at gj
    unfold bt at gj
    simpa using gj
  · rw [List.perm_iff_count]
    intro t
    have c1 := count_up t y
    have c2 := count_up t (u ++ v)
    obtain ⟨m, _, e, em⟩ := key t
    obtain ⟨m', _, e', em'⟩ := key (t + 1)
    rw [e, e', upB_count, upB_count] at c1
    rw [em, em'] at c2
    omega
theorem sorted_eq {l l' : List Int} (h1 : l.Pairwise (· ≤ ·)) (h2 : l'.Pairwise (· ≤ ·)) (p : l.Perm l') : l = l' :=
  List.Perm.eq_of_pairwise (le := (· ≤ ·)) (fun a b _ _ h h' => Int.le_antisymm h h') h1 h2 p
theorem word_split (row : List Int) (b H : Nat) : wordL row b (2 * H) = wordL row b H ++ wordL row (b + H) H := by
  unfold wordL
  rw [show 2 * H = H + H by omega, List.take_add, List.drop_drop]
theorem stage_inv {n H : Nat} {first row : List Int} (hn : Pow n) (hH : HalfOk H) (hl : 2 * H ≤ n) (hf : first.length = n) (h : Inv n first H row) : Inv n first (2 * H) (stageL n (2 * H) row) := by
  obtain ⟨hr, hw⟩ := h
  have hn2 : P2 n := by unfold Pow at hn; unfold P2; omega
  have hn16 := hn2.le
  have hW : P2 (2 * H) := by unfold HalfOk at hH; unfold P2; omega
  have hh : H = 1 ∨ H = 2 ∨ H = 4 ∨ H = 8 := by unfold HalfOk at hH; omega
  refine ⟨by rw [stageL_length]; exact hr, fun a ha => ?_⟩
  have hb : a * (2 * H) + 2 * H ≤ n := by
    have e := p2_div hn2 hW hl
    have h1 : a < n / (2 * H) := by
      rcases Nat.lt_or_ge a (n / (2 * H)) with q | q
      · exact q
      · have := Nat.mul_le_mul_right (2 * H) q
        omega
    have h2 := Nat.mul_le_mul_right (2 * H) (Nat.succ_le_of_lt h1)
    rw [Nat.succ_mul] at h2
    omega
  have e1 : a * (2 * H) = (2 * a) * H := by rw [← Nat.mul_assoc, Nat.mul_comm a 2]
  have e2 : a * (2 * H) + H = (2 * a + 1) * H := by rw [e1, Nat.add_mul, Nat.one_mul]
  have w1 := hw (2 * a) (by rw [← e1]; exact ha)
  have w2 := hw (2 * a + 1) (by rw [← e2]; unfold HalfOk at hH; omega)
  rw [← e1] at w1
  rw [← e2] at w2
  rw [word_stage hn2 hW (by unfold HalfOk at hH; omega) hl hr hb, word_split row, w1, w2]
  have l1 : (heapsortL (wordL first (a * (2 * H)) H)).length = H := by rw [(heapsort_perm _).length_eq, wordL_length (by omega)]
  have l2 : (heapsortL (wordL first (a * (2 * H) + H) H)).length = H := by rw [(heapsort_perm _).length_eq, wordL_length (by omega)]
  obtain ⟨s, p⟩ := net_right hh l1 l2 (heapsort_sorted _) (heapsort_sorted _)
  refine sorted_eq s (heapsort_sorted _) (p.trans ?_)
  refine List.Perm.trans ?_ (heapsort_perm _).symm
  rw [word_split first]
  exact (heapsort_perm _).append (heapsort_perm _)
theorem heapsortL_one (x : Int) : heapsortL [x] = [x] := List.perm_singleton.mp (heapsort_perm [x])
end Mine
end

-- part PL2
section
open PySem PySem.W PySem.Calls PyProof.Rows
namespace Mine
theorem pack_size {z : Int} (h : z = 4 ∨ z = 8 ∨ z = 16) : ∃ n : Nat, z = (n : Int) ∧ Pow n := by
  rcases h with h | h | h
  · exact ⟨4, h, .inl rfl⟩
  · exact ⟨8, h, .inr (.inl rfl)⟩
  · exact ⟨16, h, .inr (.inr rfl)⟩
theorem pack_ints {ws : List Value} {fs : List Int} (h : IntsAre ws fs) : ∃ ff, ff = fs ∧ IntsAre ws ff := ⟨fs, rfl, h⟩
theorem pack_news {h₀ h : Heap} {L a1 a2 a3 a4 : Addr} {o1 o3 o4 : Obj} {ws : List Value} {k : Nat} (N : News h₀ L h [(a1, o1), (a2, listOf ws.toArray k), (a3, o3), (a4, o4)]) :
    ∃ lf vf nf, lf = a2 ∧ vf = ws ∧ nf = k ∧ News h₀ L h [(lf, listOf vf.toArray nf)] :=
  ⟨a2, ws, k, rfl, rfl, rfl, fun p hp => N p (by rw [List.mem_singleton.mp hp]; exact .tail _ (.head _))⟩
theorem Pow.le {n : Nat} (h : Pow n) : n ≤ 16 := by rcases h with h | h | h <;> omega
theorem Pow.pos {n : Nat} (h : Pow n) : 4 ≤ n := by rcases h with h | h | h <;> omega
theorem first_len {n : Nat} {a ns : List Int} {g : Int → Int} (hp : Pow n) (hn : ¬ (n : Int) < (a.length : Int)) (e : ns = a ++ (rangeKs (a.length : Int) ((n : Int) - (a.length : Int)).toNat).map g) : ns.length = n := by
  rw [e, List.length_append, List.length_map, rangeKs_length]
  omega
theorem places_eq (n : Nat) : byteArr ((rangeKs 0 ((n : Int) - 0).toNat).map fun k' => k') = (placesL n).toArray := by
  unfold byteArr placesL rangeKs
  rw [show ((n : Int) - 0).toNat = n by omega]
  simp only [List.map_map]
  congr 1
  apply List.map_congr_left
  intro k _
  show ((0 + (k : Int)).toNat).toUInt8 = k.toUInt8
  rw [show (0 + (k : Int)).toNat = k by omega]
theorem turns_mul {n W : Nat} (h : Pow n) (hW : W = 1 ∨ W = 2 ∨ W = 4 ∨ W = 8 ∨ W = 16) (hl : W ≤ n) : (n / W) * W = n := by
  rcases h with h | h | h <;> rcases hW with e | e | e | e | e <;> subst h <;> subst e <;> first | rfl | omega
theorem turns_pos {n W : Nat} (h : Pow n) (hW : W = 1 ∨ W = 2 ∨ W = 4 ∨ W = 8 ∨ W = 16) (hl : W ≤ n) : 0 < n / W := by
  rcases h with h | h | h <;> rcases hW with e | e | e | e | e <;> subst h <;> subst e <;> first | decide | omega
theorem turns_le {n : Nat} (W : Nat) (h : Pow n) : n / W ≤ 16 := Nat.le_trans (Nat.div_le_self _ _) h.le
theorem mir_wires {n W : Nat} {row : List Int} (h : Pow n) (hW : W = 1 ∨ W = 2 ∨ W = 4 ∨ W = 8 ∨ W = 16) (hl : W ≤ n) (hr : row.length = n) :
    ∀ i, i < (swapL W (placesL n)).length → ((swapL W (placesL n)).getD i 0).toNat < row.length := by
  intro i hi
  rw [swapL_length, placesL_length] at hi
  have e := turns_mul h hW hl
  have hlt : swapIdx W i < n := by
    have := swapIdx_lt (w := W) (q := n / W) (i := i) (by omega) (by omega)
    omega
  rw [swapL_getD (by rw [placesL_length]; exact hi), places_getD h.le hlt, hr]
  exact hlt
theorem half_wires {n W V : Nat} {row : List Int} (h : Pow n) (hW : W = 1 ∨ W = 2 ∨ W = 4 ∨ W = 8 ∨ W = 16) (hl : W ≤ n) (hV : V = 1 ∨ V = 2 ∨ V = 4 ∨ V = 8 ∨ V = 16) (hlV : V ≤ n) (hr : row.length = n) :
    ∀ i, i < (swapL V (swapL W (placesL n))).length → ((swapL V (swapL W (placesL n))).getD i 0).toNat < row.length := by
  intro i hi
  rw [swapL_length, swapL_length, placesL_length] at hi
  have e := turns_mul h hV hlV
  have hlt : swapIdx V i < n := by
    have := swapIdx_lt (w := V) (q := n / V) (i := i) (by omega) (by omega)
    omega
  rw [swapL_getD (by rw [swapL_length, placesL_length]; exact hi)]
  exact mir_wires h hW hl hr _ (by rw [swapL_length, placesL_length]; exact hlt)
/-- the inner while: st the step, R the row at its end -/
def InnerOk (n : Nat) (R : List Int) (st : Int) (row : List Int) : Prop := (st = 1 ∨ st = 2 ∨ st = 4 ∨ st = 8) ∧ st ≤ (n : Int) ∧ row.length = n ∧ halvesL n st.toNat row = R
theorem inner_start {n H : Nat} {wd : Int} {row : List Int} (hwd : wd = 2 * (H : Int)) (hH : HalfOk H) (hle : wd ≤ (n : Int)) (hn : Pow n) (hr : row.length = n) :
    InnerOk n (stageL n (2 * H) row) (wd.fdiv 2) (crossL row (swapL (2 * H) (placesL n))) := by
  have e : wd.fdiv 2 = (H : Int) := by rw [Int.fdiv_eq_ediv_of_nonneg _ (by decide), hwd]; omega
  have := hn.le
  refine ⟨by rw [e]; unfold HalfOk at hH; omega, by rw [e]; omega, by rw [crossL_length]; exact hr, ?_⟩
  rw [e]
  unfold stageL mirL
  rw [show 2 * H / 2 = H by omega]
  rfl
theorem inner_turn {n : Nat} {st : Int} {R row : List Int} (h : InnerOk n R st row) (h1 : 1 < st) :
    InnerOk n R (st.fdiv 2) (crossL row (swapL (st.fdiv 2).toNat (swapL st.toNat (placesL n)))) := by
  have e : st.fdiv 2 = st / 2 := Int.fdiv_eq_ediv_of_nonneg _ (by decide)
  have e2 : (st / 2).toNat = st.toNat / 2 := by have := h.1; omega
  refine ⟨by rw [e]; have := h.1; omega, by rw [e]; have := h.2.1; omega, by rw [crossL_length]; exact h.2.2.1, ?_⟩
  rw [e, e2, ← h.2.2.2, halvesL_go (S := st.toNat) (by omega)]
  rfl
theorem inner_less {st : Int} (h1 : 1 < st) : (st.fdiv 2).toNat < st.toNat := by
  rw [Int.fdiv_eq_ediv_of_nonneg _ (by decide)]; omega
theorem inner_done {n : Nat} {st : Int} {R row : List Int} (h : InnerOk n R st row) (h1 : ¬ 1 < st) : row = R := by
  rw [← h.2.2.2, halvesL_stop (by omega)]
theorem inv_start {n : Nat} {first : List Int} (hf : first.length = n) : Inv n first 1 first := by
  refine ⟨hf, fun a ha => ?_⟩
  have e : wordL first (a * 1) 1 = [first.getD a 0] := by
    unfold wordL
    rw [Nat.mul_one] at ha ⊢
    rw [List.take_one, List.head?_drop, List.getD_eq_getElem?_getD, List.getElem?_eq_getElem (by omega)]
    rfl
  rw [e, heapsortL_one]
end Mine
namespace Mine
theorem outer_start {n : Nat} {ff : List Int} (hn : Pow n) (hf : ff.length = n) : ∃ H : Nat, (2 : Int) = 2 * (H : Int) ∧ HalfOk H ∧ H ≤ n ∧ Inv n ff H ff :=
  ⟨1, rfl, .inl rfl, by have := hn.pos; omega, inv_start hf⟩
theorem width_ok {H : Nat} {n : Nat} (h : HalfOk H) (hn : Pow n) (hl : 2 * (H : Int) ≤ (n : Int)) : 2 * H = 1 ∨ 2 * H = 2 ∨ 2 * H = 4 ∨ 2 * H = 8 ∨ 2 * H = 16 := by
  have := hn.le
  unfold HalfOk at h
  omega
theorem outer_turn {n H : Nat} {wd : Int} {first row' : List Int} (hn : Pow n) (hwd : wd = 2 * (H : Int)) (hH : HalfOk H) (hle : wd ≤ (n : Int)) (h : Inv n first (2 * H) row') :
    ∃ H' : Nat, wd * 2 = 2 * (H' : Int) ∧ HalfOk H' ∧ H' ≤ n ∧ Inv n first H' row' := by
  have := hn.le
  exact ⟨2 * H, by omega, by unfold HalfOk at *; omega, by omega, h⟩
theorem outer_less {n H : Nat} {wd : Int} (hn : Pow n) (hwd : wd = 2 * (H : Int)) (hH : HalfOk H) (hle : wd ≤ (n : Int)) : 64 - (wd * 2).toNat < 64 - wd.toNat := by
  have := hn.le
  unfold HalfOk at hH
  omega
theorem st_ok {n : Nat} {R row : List Int} {st : Int} (h : InnerOk n R st row) : st.toNat = 1 ∨ st.toNat = 2 ∨ st.toNat = 4 ∨ st.toNat = 8 ∨ st.toNat = 16 := by
  have := h.1; omega
theorem st_half_ok {n : Nat} {R row : List Int} {st : Int} (h : InnerOk n R st row) (h1 : 1 < st) : (st.fdiv 2).toNat = 1 ∨ (st.fdiv 2).toNat = 2 ∨ (st.fdiv 2).toNat = 4 ∨ (st.fdiv 2).toNat = 8 ∨ (st.fdiv 2).toNat = 16 := by
  rw [Int.fdiv_eq_ediv_of_nonneg _ (by decide)]
  have := h.1; omega
theorem st_le {n : Nat} {R row : List Int} {st : Int} (h : InnerOk n R st row) : st.toNat ≤ n := by
  have := h.1; have := h.2.1; omega
theorem st_half_le {n : Nat} {R row : List Int} {st : Int} (h : InnerOk n R st row) : (st.fdiv 2).toNat ≤ n := by
  rw [Int.fdiv_eq_ediv_of_nonneg _ (by decide)]
  have := h.1; have := h.2.1; omega
theorem st_nat {n : Nat} {R row : List Int} {st : Int} (h : InnerOk n R st row) : st = (st.toNat : Int) := by
  have := h.1; omega
theorem st_half_nat {n : Nat} {R row : List Int} {st : Int} (h : InnerOk n R st row) : st.fdiv 2 = ((st.fdiv 2).toNat : Int) := by
  rw [Int.fdiv_eq_ediv_of_nonneg _ (by decide)]
  have := h.1; omega
theorem mem_swap {α : Type} {a b : α} {r : List α} : ∀ p ∈ [a, b], p ∈ b :: a :: r := fun p hp => by
  rcases List.mem_cons.mp hp with rfl | hp
  · exact .tail _ (.head _)
  · rw [List.mem_singleton.mp hp]; exact .head _
theorem mem_two {α : Type} {a b : α} {r : List α} : ∀ p ∈ [a, b], p ∈ a :: b :: r := fun p hp => by
  rcases List.mem_cons.mp hp with rfl | hp
  · exact .head _
  · rw [List.mem_singleton.mp hp]; exact .tail _ (.head _)
theorem mem_dup {α : Type} {a : α} : ∀ p ∈ [a, a], p ∈ [a] := fun p hp => by simpa using hp
theorem news_new {h₀ h h' : Heap} {L D : Addr} {m : Str → Option Value} {o : Obj} {news : List (Addr × Obj)} (F : Fr h₀ L h m) (N : News h₀ L h news) (hD : h'.get? D = some o) (hf : h.get? D = none) (hk : ∀ b o, h.get? b = some o → h'.get? b = some o) : News h₀ L h' ((D, o) :: news) := by
  intro p hp
  rcases List.mem_cons.mp hp with rfl | hp
  · refine ⟨hD, fun e => ?_, ?_⟩
    · obtain ⟨oL, _, _, hL, _⟩ := F.ns
      have e' : D = L := e
      rw [← e', hf] at hL
      cases hL
    · cases q : h₀.get? D with
      | none => rfl
      | some o' => have := F.keep _ _ q; rw [hf] at this; cases this
  · exact ⟨hk _ _ (N p hp).1, (N p hp).2⟩
end Mine
namespace Mine
theorem Inv.len {n H : Nat} {first row : List Int} (h : Inv n first H row) : row.length = n := h.1
theorem InnerOk.len {n : Nat} {R row : List Int} {st : Int} (h : InnerOk n R st row) : row.length = n := h.2.2.1
theorem Inv.word {n H : Nat} {first row : List Int} (h : Inv n first H row) (a : Nat) (ha : a * H < n) : wordL row (a * H) H = heapsortL (wordL first (a * H) H) := h.2 a ha
theorem inner_inv {n H : Nat} {wd st : Int} {first row rr : List Int} (hn : Pow n) (hwd : wd = 2 * (H : Int)) (hH : HalfOk H) (hle : wd ≤ (n : Int)) (hf : first.length = n) (h : Inv n first H row) (hIn : InnerOk n (stageL n (2 * H) row) st rr) (h1 : ¬ 1 < st) : Inv n first (2 * H) rr := by
  rw [inner_done hIn h1]
  exact stage_inv hn hH (by omega) hf h
end Mine
namespace Mine
theorem turns_int {n q H : Nat} (h : q * (2 * H) = n) : (q : Int) * (2 * (H : Int)) = (n : Int) := by
  rw [← h]; simp
end Mine
namespace Mine
theorem width_pos {H : Nat} {wd : Int} (hwd : wd = 2 * (H : Int)) (h : HalfOk H) : 0 < wd := by
  unfold HalfOk at h; omega
end Mine
namespace Mine
theorem word_ints {vs : List Value} {ns : List Int} {x wd : Int} (hi : IntsAre vs ns) (h0 : 0 ≤ x) (hw : 0 < wd) (hb : x + wd ≤ (ns.length : Int)) : IntsAre (slicePick vs.toArray (some x) (some (x + wd)) none).toList (wordL ns x.toNat wd.toNat) := by
  have h := kmk_run hi h0 (show 0 ≤ x + wd by omega)
  have e : min (x + wd).toNat ns.length - x.toNat = wd.toNat := by omega
  rw [e] at h
  exact h
theorem word_len {ns : List Int} {x wd : Int} (h0 : 0 ≤ x) (hw : 0 < wd) (hb : x + wd ≤ (ns.length : Int)) : (wordL ns x.toNat wd.toNat).length = wd.toNat := by
  unfold wordL
  rw [List.length_take, List.length_drop]
  omega
theorem ne_same {prog : Program} {w : World} {A : Around} {E : Value → Shared → Prop} {s : Shared} {a b : Addr} {vs us : List Value} {ns ms : List Int} {Q : Value → Shared → Prop} (hl : s.heap.IsList a vs.toArray) (hi : IntsAre vs ns) (hl' : s.heap.IsList b us.toArray) (hi' : IntsAre us ms) (hu : A.units + 64 < cLine)
    (e : ns = ms) (h : Q (.bool false) s) : wpAny (model prog w) A (compareOp .NotEq (.ref a) (.ref b)) Q E s := ne_intsK hl hi hl' hi' hu (by rw [decide_eq_true e]; exact h)
theorem word_eq {n H k : Nat} {wd x : Int} {first row : List Int} (hwd : wd = 2 * (H : Int)) (hpos : 0 < wd) (hx : x = (k : Int) * wd) (hub : x + wd ≤ (n : Int)) (h : Inv n first (2 * H) row) :
    wordL row x.toNat wd.toNat = heapsortL (wordL first x.toNat wd.toNat) := by
  have e1 : wd.toNat = 2 * H := by omega
  have e0 : x = ((k * (2 * H) : Nat) : Int) := by rw [hx, hwd]; simp
  have e2 : x.toNat = k * (2 * H) := by omega
  rw [e1, e2]
  exact h.word k (by omega)
end Mine
namespace Mine
theorem mem_deep {α : Type} {a b x y z : α} {r : List α} : ∀ p ∈ [a, b], p ∈ x :: y :: z :: a :: b :: r := fun p hp => .tail _ (.tail _ (.tail _ (mem_two p hp)))
theorem own_deep {α : Type} {a b x y z : α} {r : List α} : ∀ p ∈ r, p ∈ x :: y :: z :: a :: b :: r := fun _ hp => .tail _ (.tail _ (.tail _ (.tail _ (.tail _ hp))))
end Mine
end

-- part LW1
section
open PySem PySem.W PySem.Calls PyProof.Rows
namespace Mine
local macro_rules | `(tactic| walk_at $s:str) => `(tactic| k_extra $s)
set_option maxRecDepth 100000 in
set_option maxHeartbeats 1000000 in
theorem law_call {prog : Program} {w : World} {p : Program} {loose : List Str} {mean : ExcName → Option Value} {mg mb : Str → Option Value} {s : Shared} {Q : Value → Shared → Prop}
    {l : Addr} {vs : List Value} {ns : List Int} (X : (hdR.heap_39 w.params).In s.heap) (T : Top p loose mean mg mb s.heap) (K0 : Below callerA s.heap [] s.heap) (hl : s.heap.IsList l vs.toArray) (hi : IntsAre vs ns) (h63 : ns.length ≤ 63)
    (ret : ∀ h' tk', (∀ b o, s.heap.get? b = some o → h'.get? b = some o) → Q (.bool true) { s with heap := h', toks := tk' }) :
    wpR (model prog w) callerA (call (.ref 73) [.ref l]) Q s := by
  w_on
  k_with_none
  k_with "wpR" => first
    | ((with_reducible show wpR _ _ (execs (_ :: _) _) _ _); refine wpR_execs_cons ?_)
    | ((with_reducible show wpR _ _ (exec (Stmt.While _ _ _ _) _) _ _)
       first
       | (
        (rename Fr _ _ _ _ => lF')
        (rename News _ _ _ _ => lN')
        (rename IntsAre _ (_ ++ _) => hFst)
        (rename ((_ : Int) = 4 ∨ _ = 8 ∨ _ = 16) => hSz)
        (rename (¬ (_ : Int) < ((List.take 16 _).length : Int)) => hNot)
        obtain ⟨n, hnI, hPow⟩ := pack_size hSz
        subst hnI
        obtain ⟨ff, hff, hFF⟩ := pack_ints hFst
        have hfl : ff.length = n := first_len hPow hNot hff
        obtain ⟨lf, vf, nf, e1, e2, e3, hN1⟩ := pack_news lN'
        subst e1
        subst e2
        clear e3
        simp only [places_eq] at lF'
        clear hff hFst hSz hNot
        have hn16 := hPow.le
        have hn4 := hPow.pos
        (with_unfolding_all refine' kswR_while (σ := Addr × List Value × List Int × Nat × Int × Tok) (fun c => [(lf, listOf vf.toArray nf), (c.1, listOf c.2.1.toArray c.2.2.2.1)]) (fun c => [(Str.ofString "row", Value.ref c.1), (Str.ofString "width", Value.int c.2.2.2.2.1 c.2.2.2.2.2)]) (fun c => IntsAre c.2.1 c.2.2.1) [Str.ofString "step", Str.ofString "start"] (fun c => ∃ H : Nat, c.2.2.2.2.1 = 2 * (H : Int) ∧ HalfOk H ∧ H ≤ n ∧ Inv n ff H c.2.2.1) (fun c => 64 - c.2.2.2.2.1.toNat) (lf, vf, ff, nf, 2, _) lF' ?o1 hFF ?o2 ?o3 ?oturn)
        (case o1 => exact kst_newsOf hN1 mem_dup)
        (case o2 => kst_all)
        (case o3 => exact outer_start hPow hfl)
        case' oturn =>
          clear lF' lN'
          rintro ⟨lr, vr, rr, nr, wd, tw⟩ kU kH kTk kFacts ⟨H, hwd, hHok, hHn, hInv⟩ kFr kNews
          have kMark := kstMark
          dsimp only [kstB] at kFr kNews kFacts hwd hInv
          have hwpos := width_pos hwd hHok)
       | (
        (rename Fr _ _ _ _ => lF')
        (rename News _ _ _ _ => lN')
        (with_unfolding_all refine' kswR_while (σ := Addr × List Value × List Int × Nat × Int × Tok) (fun c => [(lf, listOf vf.toArray nf), (c.1, listOf c.2.1.toArray c.2.2.2.1)]) (fun c => [(Str.ofString "row", Value.ref c.1), (Str.ofString "step", Value.int c.2.2.2.2.1 c.2.2.2.2.2)]) (fun c => IntsAre c.2.1 c.2.2.1) [] (fun c => InnerOk n (stageL n (2 * H) rr) c.2.2.2.2.1 c.2.2.1) (fun c => c.2.2.2.2.1.toNat) (D5, ys5, crossL rr (swapL (2 * H) (placesL n)), n5, wd.fdiv 2, _) lF' ?i1 hI5 ?i2 ?i3 ?iturn)
        (case i1 => exact kst_newsOf lN' mem_swap)
        (case i2 => kst_all)
        (case i3 => exact inner_start hwd hHok (by assumption) hPow hInv.len)
        case' iturn =>
          clear lF' lN'
          rintro ⟨lr2, vr2, rr2, nr2, st, ts⟩ kU2 kH2 kTk2 kFacts2 hIn kFr2 kNews2
          have kMark := kstMark
          dsimp only [kstB] at kFr2 kNews2 kFacts2 hIn)
       | refine wpR_of ?_)
    | ((with_reducible show wpR _ _ (call (Value.ref 21) _) _ _)
       (rename News _ _ _ _ => lN9)
       first
       | k_dflt (refine' byteswap_call (2 * H) (n / (2 * H)) K0 ?s2 X T ?s5 ?s6 ?s7 ?s8 ?s9 ?s10 ?s11 ?s12 ?s13 ?s14 ?_; (case s2 => k_asm); (case s5 => exact rfl); (case s6 => omega); (case s7 => (have q9 := width_ok hHok hPow (by omega); omega)); (case s8 => (have q9 := width_ok hHok hPow (by omega); omega)); (case s9 => exact turns_pos hPow (width_ok hHok hPow (by omega)) (by omega)); (case s10 => exact turns_le _ hPow); (case s11 => (rw [placesL_length]; omega)); (case s12 => (rw [placesL_length]; exact turns_mul hPow (width_ok hHok hPow (by omega)) (by omega))); (case s13 => decide); (case s14 => decide); intro h5 tk5 t5 F5 hk5; have N5 := lN9.grown hk5; clear lN9)
       | k_dflt (refine' byteswap_call st.toNat (n / st.toNat) K0 ?s2 X T ?s5 ?s6 ?s7 ?s8 ?s9 ?s10 ?s11 ?s12 ?s13 ?s14 ?_; (case s2 => k_asm); (case s5 => exact rfl); (case s6 => exact st_nat hIn); (case s7 => (have q9 := st_ok hIn; omega)); (case s8 => (have q9 := st_ok hIn; omega)); (case s9 => exact turns_pos hPow (st_ok hIn) (st_le hIn)); (case s10 => exact turns_le _ hPow); (case s11 => (rw [placesL_length]; omega)); (case s12 => (rw [placesL_length]; exact turns_mul hPow (st_ok hIn) (st_le hIn))); (case s13 => decide); (case s14 => decide); intro h5 tk5 t5 F5 hk5; have N5 := lN9.grown hk5; clear lN9)
       | k_dflt (refine' byteswap_call (st.fdiv 2).toNat (n / (st.fdiv 2).toNat) K0 ?s2 X T ?s5 ?s6 ?s7 ?s8 ?s9 ?s10 ?s11 ?s12 ?s13 ?s14 ?_; (case s2 => k_asm); (case s5 => exact rfl); (case s6 => exact st_half_nat hIn); (case s7 => (have q9 := st_half_ok hIn (by assumption); omega)); (case s8 => (have q9 := st_half_ok hIn (by assumption); omega)); (case s9 => exact turns_pos hPow (st_half_ok hIn (by assumption)) (st_half_le hIn)); (case s10 => exact turns_le _ hPow); (case s11 => (rw [swapL_length, placesL_length]; omega)); (case s12 => (rw [swapL_length, placesL_length]; exact turns_mul hPow (st_half_ok hIn (by assumption)) (st_half_le hIn))); (case s13 => decide); (case s14 => decide); intro h5 tk5 t5 F5 hk5; have N5 := lN9.grown hk5; clear lN9))
    | ((with_reducible show wpR _ _ (exec (Stmt.Assign [Expr.Name (Str.ofString "row") _] (Expr.Call _ _ _ _) _) _) _ _); refine wpR_Assign_Name ?_ ?hs; (case hs => with_unfolding_all rfl))
    | ((with_reducible show wpR _ _ (eval (Expr.Call _ _ _ _) _) _ _); refine wpR_Call ?_ ?he; (case he => with_unfolding_all rfl))
    | ((with_reducible show wpR _ _ (callWith _ (Value.ref _) _ _ _) _ _); k_dflt (refine' wpR_callWith ?k1 ?k2 ?_ ?he ?hp; (case k1 => k_asm); (case k2 => k_is); (case he => with_unfolding_all rfl); (case hp => with_unfolding_all rfl)))
    | ((with_reducible show wpR _ _ (spliced (backTo _ (starEach (_ :: _) _))) _ _); refine wpR_args_cons ?_ ?he; (case he => with_unfolding_all rfl))
    | ((with_reducible show wpR _ _ (spliced (backTo _ (starEach [] _))) _ _); refine wpR_args_nil ?_)
    | refine wpR_of ?_
  k_with "exec While Compare cons nil" => k_while (fun script size => (size = 4 ∨ size = 8 ∨ size = 16) ∧ size ≤ 16) (fun script size => 16 - size.toNat) "size"
  k_with "call ref" => (
    (rename News _ _ _ _ => lN9)
    (rename Fr _ _ _ _ => lF9)
    first
    | k_dflt (refine' crossed_call K0 lF9 X T ?c1 ?c2 ?c3 ?c4 ?c5 ?c6 ?c7 ?c8 ?_; (case c1 => exact rfl); (case c2 => exact PySem.IsL.isList (News.get lN9 (by k_mem))); (case c3 => assumption); (case c4 => first | (have q9 := hInv.len; omega) | (have q9 := hIn.len; omega)); (case c5 => first | (rw [swapL_length, swapL_length, placesL_length, hIn.len]) | (rw [swapL_length, placesL_length, hInv.len])); (case c6 => first | exact half_wires hPow (st_ok hIn) (st_le hIn) (st_half_ok hIn (by assumption)) (st_half_le hIn) hIn.len | exact mir_wires hPow (width_ok hHok hPow (by omega)) (by omega) hInv.len); (case c7 => decide); (case c8 => decide); intro D5 h5 tk5 ys5 n5 F5 hD5 hfr5 hI5 hk5; have N5 := news_new lF9 lN9 hD5 hfr5 hk5; clear lN9 lF9)
    | k_dflt (refine' offheap_call K0 lF9 X T ?c1 ?c2 ?c3 ?c4 ?c7 ?c8 ?_; (case c1 => exact rfl); (case c2 => exact PySem.IsL.isList (News.get lN9 (by k_mem))); (case c3 => assumption); (case c4 => omega); (case c7 => decide); (case c8 => decide); intro D6 h6 tk6 ys6 n6 F6 hD6 hfr6 hI6 hk6; have N6 := news_new lF9 lN9 hD6 hfr6 hk6; clear lN9 lF9))
  k_with "subscriptTail Name Slice ref ref" => k_dflt (
    (rename News _ _ _ _ => lN9)
    refine' kmk_slice_ints ?y1 lN9 ?y2 ?y3 ?y4 ?y5 ?y6 ?y7 ?_ ?y8 ?y9 ?y10
    (case y1 => k_asm)
    (case y2 => exact PySem.IsL.isList (News.get lN9 (by k_mem)))
    (case y3 => kmk_part)
    (case y4 => kmk_part)
    (case y5 => assumption)
    (case y6 => exact word_ints (by assumption) k03 hwpos (by omega))
    (case y7 => exact word_len k03 hwpos (by omega))
    (case y8 => with_unfolding_all rfl)
    (case y9 => kmk_pure)
    (case y10 => (rw [List.size_toArray, PySem.sizeLine_eq]; omega))
    intro D7 ws7 h7 F7 N7 l7 hI7 hC7 hL7
    clear lN9)
  k_with "compareOp NotEq ref ref" => k_dflt (
    (rename News _ _ _ _ => lN9)
    refine' ne_same ?z1 ?z2 ?z3 ?z4 ?z5 ?z6 ?_
    (case z1 => exact PySem.IsL.isList (News.get lN9 (by k_mem)))
    (case z2 => assumption)
    (case z3 => exact PySem.IsL.isList (News.get lN9 (by k_mem)))
    (case z4 => assumption)
    (case z5 => exact (by decide : (7 : Nat) + 64 < cLine))
    (case z6 => exact word_eq hwd hwpos kEq3 kUb3 hInv2))
  k_with "InvEndN" => k_dflt (
    refine' kst_end () ?v1 ?v2 ?v3 ?v4 ?v5 ?v6 ?v7 ?v8 ?v9
    (case v1 => assumption)
    (case v2 => assumption)
    (case v3 => exact mem_deep)
    (case v4 => exact own_deep)
    (case v5 => k_dflt exact rfl)
    (case v6 => exact True.intro)
    (case v7 => exact List.forall_mem_nil _)
    (case v8 => kst_same)
    (case v9 => exact True.intro))
  k_with "execs nil" => refine wpAny_execs_nil ?_
  k_with "KswPost" => dsimp only [KswPost]
  k_with "KswEnd" => first
    | exact ksw_end (D5, ys5, _, n5, st.fdiv 2, _) (by assumption) (by assumption) mem_swap hI5 (by kst_all) (by ksw_same) (inner_turn hIn (by assumption)) (inner_less (by assumption))
    | (
      refine' ksw_end (lr2, vr2, rr2, nr2, wd * 2, _) ?x1 ?x2 ?x3 ?x4 ?x5 ?x6 ?x7 ?x8
      (case x1 => assumption)
      (case x2 => assumption)
      (case x3 => exact mem_two)
      (case x4 => exact kFacts2)
      (case x5 => kst_all)
      (case x6 => ksw_same)
      (case x7 => exact outer_turn hPow hwd hHok (by assumption) hInv2)
      (case x8 => exact outer_less hPow hwd hHok (by assumption)))
  k_with "pyIter ref" => (
      (rename Fr _ _ _ _ => lF')
      (rename News _ _ _ _ => lN')
      have hInv2 := inner_inv hPow hwd hHok (by assumption) hfl hInv hIn (by assumption)
      (with_unfolding_all refine' kst_step (n / (2 * H)) (σ := Unit) (fun _ => [(lf, listOf vf.toArray nf), (lr2, listOf vr2.toArray nr2)]) (fun _ => []) (fun _ => True) [] (fun _ _ => True) () ?f1 ?f2 ?f3 ?f4 ?f5 ?f6 ?f7 ?f8 lF' lN' ?f9 ?f10 ?f11 ?fturn ?fdone)
      (case f1 => k_dflt exact rfl)
      (case f2 => assumption)
      (case f3 => (have q9 := width_ok hHok hPow (by omega); omega))
      (case f4 => omega)
      (case f5 => exact turns_pos hPow (width_ok hHok hPow (by omega)) (by omega))
      (case f6 => exact Nat.le_trans (turns_le _ hPow) (by decide))
      (case f7 => omega)
      (case f8 => (rw [hwd]; have q9 := turns_mul hPow (width_ok hHok hPow (by omega)) (by omega); exact turns_int q9))
      (case f9 => exact True.intro)
      (case f10 => exact List.forall_mem_nil _)
      (case f11 => exact True.intro)
      case' fturn =>
        clear lF' lN'
        rintro z3 kPre3 kN3 kT3 kU3 kH3 kTk3 kOwn3 kEq3 k03 kUb3 kLt3 kOff3 kFa3 kIv3 kFr3 kNews3
        have kMark := kstMark
        dsimp only [kstB] at kFr3 kNews3 kOff3
        have hrl := hIn.len
        have hvl2 := kFacts2.length
        have hvlf := hFF.length
        simp only [List.nil_append, List.cons_append, List.append_nil] at kNews3
        simp only [List.map_cons, List.map_nil] at kOff3
        try k_fold
      case' fdone =>
        clear lF' lN'
        rintro z3 kU3 kH3 kTk3 kFa3 kIv3 kFr3 kNews3
        have kMark := kstMark
        dsimp only [kstB] at kFr3 kNews3
        try k_fold)
  have hvl := hi.length
  w_strict (
    refine wpR_call ?_
    k_dflt (refine' enter_topR ?k3 ?k5 ?k6 ?k7 ?k8 ?k9 ?kB ?_ ?c2 ?c3 ?c4 ?c5; (case k3 => k_asm); (case k5 => k_asm); (case k6 => k_is); (case k7 => k_is); (case k8 => decide); (case k9 => exact BindsTo.of_eq rfl); (case c5 => decide); (case kB => exact locs rfl); (case c2 => exact rfl); (case c3 => exact rfl); (case c4 => exact rfl); k_whole; intro L' h' F' N'; (try dsimp only))
    k_steps
    all_goals (first
      | exact ret _ _ (fun b o e => Fr.keep (by assumption) b o e)
      | (trace_state; w_report)))
end Mine
end

-- part MAIN
section
open PySem PySem.W PySem.Calls PyProof.Rows
set_option maxRecDepth 100000 in
set_option maxHeartbeats 4000000 in
theorem PySem.Challenge.cw_oc0022_01_holds : PySem.Challenge.rw_oc0022_01.Holds := by
  w_on
  k_with_none
  refine Mine.hdR ?_
  k_fill
  intro w s₀ s₁ mg mb G Y fa o pm cd doc dV kV ho hd hcd hD hmg hg args vals as hpre hlay hrd hwl hlo
  have KX := kIn_of Y
  refine Ground.open G ?_
  intro T B D TE TW
  have e73 := mg_of KX T.g (n := Str.ofString "law") (v := Value.ref 73) (by k_is)
  have efa : Value.ref fa = Value.ref 73 := Option.some.inj (hmg.symm.trans e73)
  have efa := Value.ref.inj efa
  subst efa
  wrow_args hpre hlay hrd hwl hlo
  refine Mine.law_call KX T (below_caller (Top.heap T)) (by assumption) (by assumption) (by omega) ?_
  intro h' tk' hk
  refine GoodW.toG ⟨.inl ⟨_, .bool true, [], rfl, raisesW_false ?_, .bool true, ?_, unshared_nil⟩, hk, rfl, hg⟩
  · wrow_none_raised
  · wrow_post
end
