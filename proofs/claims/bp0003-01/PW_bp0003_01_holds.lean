import PyProof.Rows.All
import Wide.All
import OpenK.AllK
import Wide.FinOn
import PySem.Challenge.RW_bp0003_01

open PySem PySem.W PyProof.Rows
set_option Elab.async false
set_option linter.unusedVariables false
set_option linter.deprecated false
set_option linter.unusedSimpArgs false
namespace Fb

-- FHead
section
open PySem PySem.W PySem.Calls PyProof.Rows

/-- the context in which the law's caller stands: nothing below it -/
abbrev ctx0 : Ctx := ⟨.builtin "claim.caller" {}, none, none, [], none⟩

theorem from_ctx0 {c : ClaimW} {tree : List Value → Sem Fin} {w : World} {s : Shared} {free : Addr → Prop} {gens : Prop} {kept : Heap → Prop} (hz : s.asleep) (hgens : s.gens = #[])
    (hspec : ∀ args, c.pre args = true → WData.layableAll args = true → ∀ ord : List DictEntry → List DictEntry, (∀ l, (ord l).Perm l) →
      ∃ vs s₁, layAllW c.records (classAt s.heap) w.params ord args s = some (vs, s₁) ∧
        Sem.wp (model c.prog w) ctx0 (tree vs) (fun fin _ s' => ∃ f, fin = .done f ∧ c.Ends s args vs s₁ (.ok f) s' ∧ s'.os = s.os ∧ AllBare s'.gens ∧ kept s'.heap)
          (fun e _ s' => c.Ends s args vs s₁ (.error e) s' ∧ s'.os = s.os ∧ AllBare s'.gens ∧ kept s'.heap) default s₁) :
    c.CallFrom (fun vs => ⟨tree vs, .builtin "claim.caller" {}, default, []⟩) w free gens kept s := by
  intro args hpre hlay ord hord
  obtain ⟨vs, s₁, hl, hwp⟩ := hspec args hpre hlay ord hord
  obtain ⟨_, _, hos₁, hlf⟩ := layAllW_rest _ _ _ hl
  have key : Sem.wp (model c.prog w) ctx0 (tree vs)
      (Sem.finPost (model c.prog w) ctx0 fun r s' => (c.Ends s args vs s₁ r s' ∧ s'.os = s.os ∧ kept s'.heap) ∧ leftWithCleanup s'.gens = false)
      (fun e _ s' => (c.Ends s args vs s₁ (.error e) s' ∧ s'.os = s.os ∧ kept s'.heap) ∧ leftWithCleanup s'.gens = false) default s₁ := by
    refine Sem.wp_mono _ _ _ (fun fin p s' q => ?_) (fun e p s' q => ?_) _ _ hwp
    · obtain ⟨f, rfl, a, b, d, k⟩ := q
      exact ⟨⟨a, b, k⟩, leftWithCleanup_false_of_bare d⟩
    · obtain ⟨a, b, d, k⟩ := q
      exact ⟨⟨a, b, k⟩, leftWithCleanup_false_of_bare d⟩
  obtain ⟨n, r, σ, τ, hs, hr, hf, hE, ho, hk⟩ := wp_halts_full (Shared.asleep_of_life hlf hz) key
  obtain ⟨eh, _, _, eo, _⟩ := Shared.forget_eq hf
  have hE' := hE.congr eh
  have life : τ.heap.life = s.heap.life := (runN_life _ _ _ hr).trans hlf
  refine ⟨vs, s₁, hl, n, _, τ, hs, ?_, (fun _ i x hx => by rw [hgens] at hx; simp at hx), eh ▸ hk, by rw [life], Shared.rest_eq (eo.trans ho)⟩
  rcases hE' with ⟨v, rfl, d1, d2, d3, d4, d5⟩ | ⟨e, ob, cls, rfl, d1, d2, d3, d4, d5⟩
  · exact .inl ⟨v, rfl, d1, d2, d3, fun b o y _ => d4 b o y, d5⟩
  · exact .inr ⟨e, ob, cls, rfl, d1, d2, d3, d4, fun b o y _ => d5 b o y⟩

/-- what is left to walk: the law's call, at the one context in which it is made -/
abbrev WalkC (q : Program) (loose : List Str) (XP : (Str → Option Value) → Heap → Prop) (YP : World → Heap → Prop) (r : RowW) (d : DefRec) (kwd : List (Str × Expr)) : Prop :=
  ∀ (w : World) (s₀ s₁ : Shared) (mg mb : Str → Option Value), Ground q loose r.records XP w s₀ mg mb s₁.heap → YP w s₁.heap → ∀ (a : Addr) (o : Obj) (pm cd doc dV kV : Value), s₁.heap.get? a = some o →
    o.data = .func { docDef d.name d.params d.body d.scope pm cd doc with defaults := dV, kwdefaults := kV } → s₁.heap.CodeRec cd d.name → Dflts mg s₁.heap d.params kwd dV kV → mg d.name = some (.ref a) → s₁.gens = #[] →
    ∀ (args : List WData) (vals : List Value) (as : List Addr), r.claim.pre args = true → WData.layableAll args = true → ReadsAllW r.records (classAt s₀.heap) s₁.heap vals args as → WellAll w.params s₁.heap vals args → (∀ a ∈ as, (a == sysModules) = false) →
      Sem.wp (model r.prog w) ctx0 (PySem.call (.ref a) vals) (fun v _ s' => GoodWG r.claim (classAt s₀.heap) (ExcName.means s₀.heap) args s₁ (.ok (.ret v)) s')
        (fun e _ s' => GoodWG r.claim (classAt s₀.heap) (ExcName.means s₀.heap) args s₁ (.error e) s') default s₁

theorem wp_nsGet_at {M : Model} {Γ : Ctx} {p : Pos} {s : Shared} {a : Addr} {m : Str → Option Value} {name : Str} {Q : Option Value → Pos → Shared → Prop} {E : Value → Pos → Shared → Prop}
    (hn : s.heap.Ns a m) (h : Q (m name) p s) : Sem.wp M Γ (nsGet a name) Q E p s := (Sem.wp_nsGet M Γ E p s hn name Q).mpr h

theorem PySem.W.holds_open {r : OpenRow} {q : Program} {loose : List Str} {Xt : Shared → Bool} {XP : (Str → Option Value) → Heap → Prop} {α : Type} {Yf : Shared → α} {Ya : World → α} {YP : World → Heap → Prop} {d : DefRec} {kwd : List (Str × Expr)} {N : Nat}
    (left : LeftO r.prog q loose Xt Yf Ya N) (hY : ∀ w s, Yf s = Ya w → YP w s.heap) (hYk : ∀ w h h', YP w h → (∀ b o, h.get? b = some o → h'.get? b = some o) → YP w h')
    (hX : ∀ s, Xt s = true → XP (s.heap.nsMap mainGlobals) s.heap) (hXk : ∀ mg h h', XP mg h → (∀ b o, h.get? b = some o → h'.get? b = some o) → XP mg h')
    (hdef : defOf q r.name = some (d, kwd)) (hp : r.prog.theDef r.name = some (d.params, d.body, d.scope)) (hk : kwWritten? d.params.kwonlyargs d.params.kw_defaults = some kwd) (hRf : ∀ s, Xt s = true → RecFacts r.records s.heap) (hwr : (!r.writes || r.records.isEmpty) = true)
    (k1 : r.wellSaid = true) (ok : (chainsOk q && opensWell r.prog && (frees r.toRowW && r.within.isEmpty)) = true) (hb : r.prog.bare) (hw : r.toRowW.promised)
    (call : WalkC q loose XP YP r.toRowW d kwd) : r.Holds := by
  obtain ⟨ok1, kf⟩ := Bool.and_eq_true_iff.mp ok
  obtain ⟨hch, hop⟩ := Bool.and_eq_true_iff.mp ok1
  obtain ⟨kfr, kwi⟩ := Bool.and_eq_true_iff.mp kf
  obtain ⟨hsame, hu, ha, hap, hm⟩ := frees_parts kfr
  have hwi : r.toRowW.claim.within = [] := List.isEmpty_iff.mp kwi
  have hi := ident_freeW hu ha hap
  refine ⟨k1, hw, ⟨hb, hop, by show r.makers.map _ = []; rw [hm]; rfl⟩, hw.witness, fun w => ⟨(left.behind hX hch w).1, fun s' hs' => ?_⟩⟩
  obtain ⟨s₀, hf, hg0, s, hT, hz, hgens, hg, G00, y⟩ := (left.behind (XP := fun mg h => XP mg h ∧ RecFacts r.records h) (fun s hs => ⟨hX s hs, hRf s hs⟩) hch w).2 s' hs'
  have G0 : Ground q loose [] XP w s (s.heap.nsMap mainGlobals) (s.heap.nsMap builtinsNs) s.heap := ⟨G00.T, G00.B, G00.D, G00.TE, G00.TD, G00.W, G00.X.1, G00.cls, G00.has, G00.apart, G00.once, G00.K⟩
  have RF := G00.X.2
  have hge : s.gens = #[] := Array.eq_empty_of_size_eq_zero (beq_iff_eq.mp hgens)
  refine ⟨s₀, hf, hg0, s, hT, fun n hn => ?_, RF.1, RF.2.1, ?_⟩
  · obtain rfl : n = r.name := by split at hn <;> simp_all
    exact pinned_of_view hg G0 hdef hp hk
  have G := RF.ground G0
  refine from_ctx0 (c := r.toRowW.claim) (tree := fun vs => do match ← nsGet mainNs r.name with
      | some f => do ret (← PySem.call f vs)
      | none => unsupported "claim.caller:no-such-global") hz hge fun args hpre hlay ord hord => ?_
  obtain ⟨⟨vs, s₁⟩, hlaid⟩ := Option.isSome_iff_exists.mp (layAllW_isSome (P := w.params) (ord := ord) G.has args r.args s (pre_splitW hpre).1)
  have keeps := layAllW_keeps _ _ _ hlaid
  have hal := layAllW_rest _ _ _ hlaid
  obtain ⟨as, hrd, hin, hold⟩ := reads_layAllW hord _ _ _ hlaid hlay s₁.heap (fun _ _ e => e)
  have L : Laid r.records w s s₁ args vs as := ⟨⟨ord, hord, hlaid⟩, hrd, hin, hold, keeps, hal.1.trans hge, hal.2.2.1⟩
  have G₁ := G.keeps hXk keeps
  obtain ⟨a, o, pm, cd, doc, dV, kV, h1, h2, h3, h4, h5⟩ := G₁.fn hdef
  refine ⟨vs, s₁, hlaid, ?_⟩
  rw [Sem.wp_bind']
  refine wp_nsGet_at G₁.T.g ?_
  rw [show s.heap.nsMap mainGlobals r.name = some (.ref a) from defOf_name hdef ▸ h1]
  dsimp only
  rw [Sem.wp_bind']
  refine Sem.wp_mono _ _ _ (fun v p s₂ g => ?_) (fun e p s₂ g => ?_) _ _
    (call w s s₁ _ _ G₁ (hYk _ _ _ (hY w s y) keeps) a o pm cd doc dV kV h2 h3 h4 h5 (defOf_name hdef ▸ h1) L.gens args vs as hpre hlay L.reads L.well (L.low G.low))
  · have z := g.laid (c := r.toRowW.claim) hsame hwi hi L
    exact ⟨_, rfl, z.1, z.2.1, z.2.2, fun q => ⟨namesKept_of hT hg r.keeps keeps g.2.1.old, noTable hwr q⟩⟩
  · have z := g.laid (c := r.toRowW.claim) hsame hwi hi L
    exact ⟨z.1, z.2.1, z.2.2, fun q => ⟨namesKept_of hT hg r.keeps keeps g.2.1.old, noTable hwr q⟩⟩
end

-- FTop
section
set_option maxRecDepth 100000 in
set_option maxHeartbeats 8000000 in
open_top hd for PySem.Challenge.rw_bp0003_01
end

set_option maxRecDepth 100000

-- FBase
section
open PySem PySem.W PySem.Calls PyProof.Rows

abbrev MW (w : World) : Model := model PySem.Challenge.pw_bp0003_01 w

/-- the built-ins that may hold a bytearray while they stand on the stack -/
def badIds : List String := ["bytearray.__contains__", "bytearray.__mod__", "bytearray.__rmod__", "_struct.pack_into.held", "bytearray.find.held"] ++ Builtin.Bytes.decodersThatHold
def okId (id : String) : Bool := !badIds.contains id
def okCode : Code → Bool
  | .builtin id _ => okId id
  | _ => true
def Clean (Γ : Ctx) : Prop := okCode Γ.code = true ∧ ∀ c ∈ Γ.below, okCode c.1 = true
def Rest (s s' : Shared) : Prop := s'.gens = s.gens ∧ s'.os = s.os
theorem Rest.refl (s : Shared) : Rest s s := ⟨rfl, rfl⟩
theorem Rest.trans {a b c : Shared} (x : Rest a b) (y : Rest b c) : Rest a c := ⟨y.1.trans x.1, y.2.trans x.2⟩

/-- t runs from every state with the heap h to a value and a heap of Q, raises nothing, asks nothing outside -/
def W {α : Type} (w : World) (A : Around) (t : Sem α) (Q : α → Heap → Prop) (h : Heap) : Prop :=
  ∀ Γ p s, Γ.In A → Clean Γ → s.heap = h → Sem.wp (MW w) Γ t (fun a _ s' => Rest s s' ∧ Q a s'.heap) (fun _ _ _ => False) p s
def WC (w : World) (A : Around) (c : Code) (Q : Flow → Heap → Prop) (h : Heap) : Prop :=
  ∀ Γ p s, Γ.code = c → Γ.Below A → (∀ c ∈ Γ.below, okCode c.1 = true) → s.heap = h → wpCode (MW w) Γ (fun r s' => ∃ f, r = .ok f ∧ Rest s s' ∧ Q f s'.heap) p s

section
variable {α β : Type} {w : World} {A : Around} {h : Heap}

theorem W_pure {a : α} {Q : α → Heap → Prop} (q : Q a h) : W w A (pure a) Q h := fun _ _ s _ _ e => ⟨Rest.refl s, e ▸ q⟩
theorem W_mono {t : Sem α} {Q Q' : α → Heap → Prop} (x : W w A t Q h) (q : ∀ a h', Q a h' → Q' a h') : W w A t Q' h :=
  fun Γ p s hΓ hc e => Sem.wp_mono _ _ _ (fun a _ s' y => ⟨y.1, q a _ y.2⟩) (fun _ _ _ y => y) _ _ (x Γ p s hΓ hc e)
theorem W_bind {m : Sem α} {f : α → Sem β} {Q : β → Heap → Prop} (x : W w A m (fun a h' => W w A (f a) Q h') h) : W w A (m >>= f) Q h := by
    intro Γ p s hΓ hc e
    rw [Sem.wp_bind']
    refine Sem.wp_mono _ _ _ (fun a p' s' y => ?_) (fun _ _ _ y => y) _ _ (x Γ p s hΓ hc e)
    exact Sem.wp_mono _ _ _ (fun b _ s'' z => ⟨y.1.trans z.1, z.2⟩) (fun _ _ _ z => z) _ _ (y.2 Γ p' s' hΓ hc rfl)
theorem W_map {m : Sem α} {f : α → β} {Q : β → Heap → Prop} (x : W w A m (fun a h' => Q (f a) h') h) : W w A (f <$> m) Q h := by
  intro Γ p s hΓ hc e; rw [Sem.wp_map]; exact x Γ p s hΓ hc e
theorem W_holding {vs : List Value} {m : Sem α} {Q : α → Heap → Prop} (x : W w A m Q h) : W w A (holding vs m) Q h := by
  intro Γ p s hΓ hc e; rw [Sem.wp_holding]; exact x Γ p s hΓ hc e
theorem W_keep {vs : List Value} {m : Sem α} {Q : α → Heap → Prop} (x : W w A m Q h) : W w A (m.keep vs) Q h := by
  intro Γ p s hΓ hc e; rw [Sem.wp_keep]; exact x Γ p s hΓ hc e
theorem W_attempt {m : Sem α} {Q : Except Value α → Heap → Prop} (x : W w A m (fun a => Q (.ok a)) h) : W w A m.attempt Q h := by
    intro Γ p s hΓ hc e
    rw [Sem.wp_attempt]
    exact Sem.wp_mono _ _ _ (fun _ _ _ y => y) (fun _ _ _ y => y.elim) _ _ (x Γ p s hΓ hc e)
theorem W_onRaise {m : Sem α} {k : Value → Sem Unit} {Q : α → Heap → Prop} (x : W w A m Q h) : W w A (m.onRaise k) Q h := by
    intro Γ p s hΓ hc e
    rw [Sem.wp_onRaise]
    exact Sem.wp_mono _ _ _ (fun _ _ _ y => y) (fun _ _ _ y => y.elim) _ _ (x Γ p s hΓ hc e)
theorem W_tryCatch {m : Sem α} {k : Value → Sem α} {Q : α → Heap → Prop} (x : W w A m Q h) : W w A (tryCatch m k) Q h := by
    intro Γ p s hΓ hc e
    rw [Sem.wp_tryCatch']
    exact Sem.wp_mono _ _ _ (fun _ _ _ y => y) (fun _ _ _ y => y.elim) _ _ (x Γ p s hΓ hc e)
theorem W_any {t : Sem α} {Q : α → Heap → Prop} (x : ∀ s, s.heap = h → wpAny (MW w) A t (fun a s' => Rest s s' ∧ Q a s'.heap) (fun _ _ => False) s) : W w A t Q h :=
  fun Γ p s hΓ _ e => x s e Γ p hΓ
theorem W_of_eq {t : Sem α} {a : α} {Q : α → Heap → Prop} (e : t = pure a) (q : Q a h) : W w A t Q h := by rw [e]; exact W_pure q
theorem W_looks {t : Sem α} {r : α} {Q : α → Heap → Prop} (x : Looks (MW w) h t r) (q : Q r h) : W w A t Q h :=
  W_any fun s e => x A _ _ s (fun b o y => by rw [e]; exact y) ⟨Rest.refl s, e ▸ q⟩
theorem W_standAt {pos : Pos} {Q : Unit → Heap → Prop} (q : Q () h) : W w A (standAt pos) Q h := fun _ _ s _ _ e => ⟨Rest.refl s, e ▸ q⟩
theorem W_point {Q : Unit → Heap → Prop} (q : Q () h) : W w A point Q h := fun _ _ s _ _ e => ⟨Rest.refl s, e ▸ q⟩
theorem W_rule {tag : String} {Q : Unit → Heap → Prop} (q : Q () h) : W w A (rule tag) Q h := fun _ _ s _ _ e => ⟨Rest.refl s, e ▸ q⟩
theorem W_ask {Q : Setting → Heap → Prop} (q : Q ⟨PySem.Challenge.pw_bp0003_01, w.params⟩ h) : W w A ask Q h := fun _ _ s _ _ e => ⟨Rest.refl s, e ▸ q⟩
theorem W_fresh {Q : Tok → Heap → Prop} (q : ∀ t, Q t h) : W w A fresh Q h := fun _ _ s _ _ e => ⟨⟨rfl, rfl⟩, e ▸ q _⟩
theorem W_mkInt {i : Int} {Q : Value → Heap → Prop} (q : ∀ t, Q (.int i t) h) : W w A (mkInt i) Q h := fun _ _ s _ _ e => ⟨⟨rfl, rfl⟩, e ▸ q _⟩
theorem W_mkText {x : Str} {Q : Value → Heap → Prop} (q : ∀ t, Q (.str x t) h) : W w A (mkText x) Q h := fun _ _ s _ _ e => ⟨⟨rfl, rfl⟩, e ▸ q _⟩
theorem W_load {a : Addr} {o : Obj} {Q : Obj → Heap → Prop} (ho : h.get? a = some o) (q : Q o h) : W w A (load a) Q h :=
  W_any fun s e => wpAny_load (e ▸ ho) ⟨Rest.refl s, e ▸ q⟩
theorem W_loadPart {a : Addr} {part : Option Value} {o : Obj} {Q : Obj → Heap → Prop} (ho : h.get? a = some o) (q : Q o h) : W w A (loadPart a part) Q h :=
  W_any fun s e => wpAny_loadPart (e ▸ ho) ⟨Rest.refl s, e ▸ q⟩
theorem W_update {a : Addr} {f : Obj → Obj} {o : Obj} {Q : Unit → Heap → Prop} (ho : h.get? a = some o) (q : Q () (h.update a f)) : W w A (update a f) Q h :=
  W_any fun s e => wpAny_update (e ▸ ho) ⟨⟨rfl, rfl⟩, e ▸ q⟩
theorem W_updatePart {a : Addr} {part : Option Value} {f : Obj → Obj} {o : Obj} {Q : Unit → Heap → Prop} (ho : h.get? a = some o) (q : Q () (h.update a f)) : W w A (updatePart a part f) Q h :=
  W_any fun s e => wpAny_updatePart (e ▸ ho) ⟨⟨rfl, rfl⟩, e ▸ q⟩
theorem W_alloc {o : Obj} {Q : Addr → Heap → Prop} (q : Q h.objs.size (h.push o)) : W w A (alloc o) Q h :=
  W_any fun s e => wpAny_alloc ⟨⟨rfl, rfl⟩, by subst e; exact q⟩
theorem W_ite {c : Prop} [Decidable c] {a b : Sem α} {Q : α → Heap → Prop} (x : c → W w A a Q h) (y : ¬ c → W w A b Q h) : W w A (if c then a else b) Q h := by
  split
  · exact x ‹_›
  · exact y ‹_›
theorem W_if_pos {c : Prop} [Decidable c] {a b : Sem α} {Q : α → Heap → Prop} (hc : c) (x : W w A a Q h) : W w A (if c then a else b) Q h := by rw [if_pos hc]; exact x
theorem W_if_neg {c : Prop} [Decidable c] {a b : Sem α} {Q : α → Heap → Prop} (hc : ¬ c) (x : W w A b Q h) : W w A (if c then a else b) Q h := by rw [if_neg hc]; exact x

theorem WC_mono {c : Code} {Q Q' : Flow → Heap → Prop} (x : WC w A c Q h) (q : ∀ f h', Q f h' → Q' f h') : WC w A c Q' h :=
  fun Γ p s hc hB hcl e => wpCode_mono (fun _ _ ⟨f, y, r, z⟩ => ⟨f, y, r, q _ _ z⟩) (x Γ p s hc hB hcl e)
/-- what a code's tree must end in -/
def FinQ (w : World) (A : Around) (Q : Flow → Heap → Prop) (fin : Fin) (h' : Heap) : Prop := match fin with
  | .done f => Q f h'
  | .again c' => c'.quiet = true ∧ WC w A c' Q h'
theorem WC_tree {c : Code} {Q : Flow → Heap → Prop} (hok : okCode c = true) (x : W w (A.under c) ((MW w).den c) (FinQ w A Q) h) : WC w A c Q h := by
  intro Γ p s hc hB hcl e
  rw [wpCode_iff_wp, hc]
  refine Sem.wp_mono _ _ _ (fun fin p' s' y => ?_) (fun _ _ _ y => y.elim) _ _ (x Γ p s (hc ▸ hB.in) ⟨by rw [hc]; exact hok, hcl⟩ e)
  cases fin with
  | done f => exact ⟨f, rfl, y.1, y.2⟩
  | again c' => exact ⟨y.2.1, wpCode_mono (fun r' s'' ⟨f, e, r2, q2⟩ => ⟨f, e, y.1.trans r2, q2⟩) (y.2.2 (Γ.goto c') p' s' rfl (hB.goto c') hcl rfl)⟩
theorem clean_enter {Γ : Ctx} (hcl : Clean Γ) (c : Code) (hd : Option Value) (p : Pos) : ∀ x ∈ (Γ.enter c hd p).below, okCode x.1 = true := fun x hx => by
  rcases List.mem_cons.mp hx with rfl | hx
  · exact hcl.1
  · exact hcl.2 x hx
theorem W_runValue {c : Code} {Q : Value → Heap → Prop} (x : WC w A c (fun f h' => ∃ v, f = .ret v ∧ Q v h') h) : W w A (runValue c) Q h := by
  intro Γ p s hΓ hcl e
  rw [Sem.wp_runValue]
  refine wpCode_mono (fun r s' y => ?_) (x _ p s rfl (hΓ.enter c none p (by intro z; cases z)) (clean_enter hcl c none p) e)
  obtain ⟨f, rfl, y1, v, rfl, y2⟩ := y
  exact ⟨y1, y2⟩
theorem W_call {f : Value} {pos : List Value} {kw : List (Str × Value)} {Q : Value → Heap → Prop}
    (x : WC w A (.call f ⟨pos, kw⟩) (fun f h' => ∃ v, f = .ret v ∧ Q v h') h) : W w A (call f pos kw) Q h := W_runValue x
theorem W_run {c : Code} {Q : Flow → Heap → Prop} (x : WC w A c Q h) : W w A (run c none) Q h := by
  intro Γ p s hΓ hcl e
  rw [Sem.wp_run]
  refine wpCode_mono (fun r s' y => ?_) (x _ p s rfl (hΓ.enter c none p (by intro z; cases z)) (clean_enter hcl c none p) e)
  obtain ⟨f, rfl, y1, y2⟩ := y
  exact ⟨y1, y2⟩
theorem W_runOwn {c : Code} {env : Env} {Q : Flow → Heap → Prop} (x : WC w A c Q h) : W w A (runOwn c env none) Q h := by
  unfold runOwn
  exact W_onRaise (W_run x)
end
end

-- FLed
section
open PySem PySem.W PySem.Calls PyProof.Rows

abbrev emptyD : Obj := { cls := .type "dict", data := .dict #[] }
/-- what is so of each listed object: nothing stood there before, and the own dict of an object of a class stood before and is empty -/
structure Ent (H0 : Heap) (p : Addr × Obj) : Prop where
  n : H0.get? p.1 = none
  b : 50 < p.1
  d : p.2.data = .plain → ∀ d, p.2.dict = some d → H0.get? d = some emptyD
theorem Ent.to {H0 : Heap} {a : Addr} {o o' : Obj} (x : Ent H0 (a, o)) (hc : o'.data = .plain → o.data = .plain ∧ o'.dict = o.dict) : Ent H0 (a, o') :=
  ⟨x.n, x.b, fun e d hd => x.d (hc e).1 d ((hc e).2 ▸ hd)⟩
/-- the ledger: what stood before stands, and each listed object is where it is listed, all apart -/
structure Led (H0 h : Heap) (l : List (Addr × Obj)) : Prop where
  keep : ∀ b o, H0.get? b = some o → h.get? b = some o
  own : ∀ p ∈ l, h.get? p.1 = some p.2
  nd : (l.map (·.1)).Nodup
  new : ∀ p ∈ l, Ent H0 p
  grow : ∃ o, H0.get? 50 = some o

section
variable {H0 h h' : Heap} {l l' : List (Addr × Obj)} {a : Addr} {o o' : Obj} {x y z u : Addr × Obj}
theorem Led.old_ne (D : Led H0 h l) {b : Addr} {o : Obj} (e : H0.get? b = some o) {p : Addr × Obj} (hp : p ∈ l) : b ≠ p.1 := fun q => by
  have := (D.new p hp).n
  rw [← q, e] at this; cases this
theorem Led.perm (D : Led H0 h l) (hp : l.Perm l') : Led H0 h l' :=
  ⟨D.keep, fun p q => D.own p (hp.mem_iff.mpr q), (hp.map _).nodup_iff.mp D.nd, fun p q => D.new p (hp.mem_iff.mpr q), D.grow⟩
theorem Led.fresh (D : Led H0 h l) {b : Addr} (hb : h.get? b = none) : H0.get? b = none := by
  cases e : H0.get? b with
  | none => rfl
  | some o => have := D.keep b o e; rw [hb] at this; cases this
theorem Led.past (D : Led H0 h l) : 50 < h.objs.size := let ⟨_, e⟩ := D.grow; Heap.lt_size (D.keep _ _ e)
theorem Led.ent (D : Led H0 h l) {b : Addr} (hb : h.objs.size ≤ b) (hc : o.data = .plain → o.dict = none) : Ent H0 (b, o) :=
  ⟨D.fresh (Heap.get?_none_of_le hb), Nat.lt_of_lt_of_le D.past hb, fun e d hd => by rw [show o.dict = none from hc e] at hd; cases hd⟩
theorem Led.alloc (D : Led H0 h l) (hf : o.isFreed = false) (hc : o.data = .plain → o.dict = none := by first | exact fun _ => rfl | exact fun e => nomatch e | (intro e; cases e)) : Led H0 (h.push o) ((h.objs.size, o) :: l) := by
  refine ⟨fun b q e => Heap.get?_push_of_some _ (D.keep b q e), fun p hp => ?_, ?_, fun p hp => ?_, D.grow⟩
  · rcases List.mem_cons.mp hp with rfl | hp
    · exact Heap.get?_push_size _ hf
    · exact Heap.get?_push_of_some _ (D.own p hp)
  · rw [List.map_cons, List.nodup_cons]
    refine ⟨fun hm => ?_, D.nd⟩
    obtain ⟨p, hp, e⟩ := List.mem_map.mp hm
    exact absurd (Heap.lt_size (D.own p hp)) (by rw [e]; exact Nat.lt_irrefl _)
  · rcases List.mem_cons.mp hp with rfl | hp
    · exact D.ent (Nat.le_refl _) hc
    · exact D.new p hp
/-- the first listed object turns, nothing else does -/
theorem Led.turn (D : Led H0 h ((a, o) :: l)) (hs : ∀ b, b ≠ a → h'.get? b = h.get? b) (hz : h'.objs.size = h.objs.size) (ho : h'.get? a = some o') (hc : o'.data = .plain → o.data = .plain ∧ o'.dict = o.dict := by first | exact fun e => ⟨e, rfl⟩ | exact fun e => nomatch e | (intro e; cases e)) : Led H0 h' ((a, o') :: l) := by
  have nd := D.nd
  rw [List.map_cons, List.nodup_cons] at nd
  refine ⟨fun b q e => (hs b (D.old_ne e (.head _))).trans (D.keep b q e), fun p hp => ?_, ?_, fun p hp => ?_, D.grow⟩
  · rcases List.mem_cons.mp hp with rfl | hp
    · exact ho
    · exact (hs _ fun e => nd.1 (List.mem_map.mpr ⟨p, hp, e⟩)).trans (D.own p (.tail _ hp))
  · rw [List.map_cons, List.nodup_cons]; exact nd
  · rcases List.mem_cons.mp hp with rfl | hp
    · exact (D.new (a, o) (.head _)).to hc
    · exact D.new p (.tail _ hp)
theorem Led.upd (D : Led H0 h ((a, o) :: l)) {f : Obj → Obj} (hf : (f o).isFreed = false) (hc : (f o).data = .plain → o.data = .plain ∧ (f o).dict = o.dict := by first | exact fun e => ⟨e, rfl⟩ | exact fun e => nomatch e | (intro e; cases e)) : Led H0 (h.update a f) ((a, f o) :: l) :=
  D.turn (fun b hb => Heap.get?_update_ne _ _ _ _ hb) (Heap.size_update ..) (Heap.get?_update_self _ (D.own _ (.head _)) hf) hc
theorem Led.swap (D : Led H0 h (x :: y :: l)) : Led H0 h (y :: x :: l) := D.perm (.swap ..)
theorem Led.swap1 (D : Led H0 h (x :: y :: z :: l)) : Led H0 h (x :: z :: y :: l) := D.perm (.cons _ (.swap ..))
theorem Led.swap2 (D : Led H0 h (x :: y :: z :: u :: l)) : Led H0 h (x :: y :: u :: z :: l) := D.perm (.cons _ (.cons _ (.swap ..)))
theorem Led.drop (D : Led H0 h (x :: l)) : Led H0 h l :=
  ⟨D.keep, fun p q => D.own p (.tail _ q), (List.nodup_cons.mp (by rw [← List.map_cons]; exact D.nd)).2, fun p q => D.new p (.tail _ q), D.grow⟩
theorem Led.drop1 (D : Led H0 h (x :: y :: l)) : Led H0 h (x :: l) := D.swap.drop
theorem Led.drop2 (D : Led H0 h (x :: y :: z :: l)) : Led H0 h (x :: y :: l) := D.swap1.swap.drop
theorem Led.upd1 (D : Led H0 h (x :: (a, o) :: l)) {f : Obj → Obj} (hf : (f o).isFreed = false) (hc : (f o).data = .plain → o.data = .plain ∧ (f o).dict = o.dict := by first | exact fun e => ⟨e, rfl⟩ | exact fun e => nomatch e | (intro e; cases e)) : Led H0 (h.update a f) (x :: (a, f o) :: l) := (D.swap.upd hf hc).swap
end

/-- what a frame's own dict says of the names that it lists -/
def NsObj (o : Obj) (ls : List (Str × Option Value)) : Prop :=
  ∃ es ep, o.data = .dict es ep ∧ StrKeys es ∧ (ls.map (·.1)).Nodup ∧ ∀ p ∈ ls, nsFind es p.1 = p.2
inductive SetL (x : Str) (v : Value) : List (Str × Option Value) → List (Str × Option Value) → Prop
  | head {o r} : SetL x v ((x, o) :: r) ((x, some v) :: r)
  | tail {p r r'} : SetL x v r r' → SetL x v (p :: r) (p :: r')
theorem SetL.names {x : Str} {v : Value} : ∀ {ls ls' : List (Str × Option Value)}, SetL x v ls ls' → ls'.map (·.1) = ls.map (·.1)
  | _, _, .head => rfl
  | _, _, .tail r => by rw [List.map_cons, List.map_cons, r.names]
theorem SetL.mem {x : Str} {v : Value} : ∀ {ls ls' : List (Str × Option Value)}, SetL x v ls ls' → ∃ o, (x, o) ∈ ls
  | _, _, .head => ⟨_, .head _⟩
  | _, _, .tail r => let ⟨o, h⟩ := r.mem; ⟨o, .tail _ h⟩
theorem SetL.look {x : Str} {v : Value} {f : Str → Option Value} : ∀ {ls ls' : List (Str × Option Value)}, SetL x v ls ls' → (ls.map (·.1)).Nodup → (∀ p ∈ ls, f p.1 = p.2) → ∀ p ∈ ls', (if p.1 = x then some v else f p.1) = p.2
  | _, _, .head (r := r), nd, hf, p, hp => by
    rw [List.map_cons, List.nodup_cons] at nd
    rcases List.mem_cons.mp hp with rfl | hp
    · exact if_pos rfl
    · rw [if_neg fun e => nd.1 (List.mem_map.mpr ⟨p, hp, e⟩)]; exact hf p (.tail _ hp)
  | _, _, .tail (p := q) r, nd, hf, p, hp => by
    rw [List.map_cons, List.nodup_cons] at nd
    rcases List.mem_cons.mp hp with rfl | hp
    · obtain ⟨o, ho⟩ := r.mem
      rw [if_neg fun e => nd.1 (List.mem_map.mpr ⟨_, ho, e.symm⟩)]; exact hf _ (.head _)
    · exact r.look nd.2 (fun p hp => hf p (.tail _ hp)) p hp

/-- what the program's top laid and the call never turns -/
structure Base (K : Frag) (w : World) (H0 : Heap) : Prop where
  kin : K.In H0
  lim : H0.NoLimit
  glob : ∃ mg, H0.Ns mainGlobals mg
  bi : ∃ mb, H0.Ns builtinsNs mb ∧ ∀ x : Str, x ≠ "__name__" → mb x = bootBuiltins x

structure Here (K : Frag) (w : World) (H0 : Heap) (env : Env) (gs : List Str) (ls : List (Str × Option Value)) (h : Heap) (l : List (Addr × Obj)) : Prop where
  base : Base K w H0
  kind : env.scope.kind = .function
  gl : env.globals = mainGlobals
  bl : env.builtins = builtinsNs
  lk : ∀ p ∈ ls, env.kindOf p.1 = some .local ∧ (p.1 == ("__debug__" : Str)) = false
  gk : ∀ x ∈ gs, env.kindOf x = some .globalImplicit ∧ (x == ("__debug__" : Str)) = false
  fr : ∃ od, Led H0 h ((env.locals, od) :: l) ∧ NsObj od ls

/-- there is room for n calls, one in the other -/
structure AOk (n : Nat) (A : Around) : Prop where
  hd : A.handled = none
  dp : A.depth + n ≤ 900
  un : A.units + 10 * n ≤ 9000
theorem AOk.mono {n m : Nat} {A : Around} (x : AOk n A) (h : m ≤ n) : AOk m A := ⟨x.hd, by have := x.dp; omega, by have := x.un; omega⟩
theorem AOk.deeper {n : Nat} {A : Around} (x : AOk (n + 1) A) (env : Env) : AOk n (A.deeper env) :=
  ⟨x.hd, by have := x.dp; show A.depth + 1 + n ≤ 900; omega, by have := x.un; show A.units + 3 + 10 * n ≤ 9000; omega⟩
theorem AOk.room {n : Nat} {A : Around} (x : AOk n A) : A.depth < recursionLimit := by have := x.dp; show A.depth < 1000; omega
theorem AOk.units {n : Nat} {A : Around} (x : AOk n A) : A.units < cLine := by have := x.un; show A.units < 9900; omega

section
variable {K : Frag} {w : World} {A : Around} {H0 h : Heap} {env : Env} {gs : List Str} {ls ls' : List (Str × Option Value)} {l : List (Addr × Obj)} {x : Str} {pos : Pos} {v : Value}
theorem Here.led (D : Here K w H0 env gs ls h l) : Led H0 h l := let ⟨_, D, _⟩ := D.fr; D.drop
theorem Here.kin (D : Here K w H0 env gs ls h l) : K.In h := D.base.kin.keeps D.led.keep
theorem Here.lim (D : Here K w H0 env gs ls h l) : h.NoLimit := D.base.lim.keeps D.led.keep
theorem Here.inter (D : Here K w H0 env gs ls h l) : interactive env = false := by unfold interactive; rw [D.kind]; rfl
theorem Here.ns (D : Here K w H0 env gs ls h l) : ∃ m, h.Ns env.locals m ∧ ∀ p ∈ ls, m p.1 = p.2 := by
  obtain ⟨od, D, es, ep, hd, hk, _, hf⟩ := D.fr
  exact ⟨nsFind es, ⟨od, es, ep, D.own _ (.head _), hd, hk, fun _ => rfl⟩, hf⟩
/-- the listed objects may turn as the ledger does -/
theorem Here.with (D : Here K w H0 env gs ls h l) {h' : Heap} {l' : List (Addr × Obj)} (x : ∀ X, Led H0 h (X :: l) → Led H0 h' (X :: l')) : Here K w H0 env gs ls h' l' :=
  ⟨D.base, D.kind, D.gl, D.bl, D.lk, D.gk, let ⟨od, E, N⟩ := D.fr; ⟨od, x _ E, N⟩⟩

theorem W_Name {Q : Value → Heap → Prop} (hd : (x == ("__debug__" : Str)) = false) (q : W w A (loadName env x) Q h) : W w A (eval (.Name x pos) env) Q h := by
  rw [eval_Name env x pos hd]
  exact W_bind (W_standAt q)
theorem W_local {Q : Value → Heap → Prop} (D : Here K w H0 env gs ls h l) (hm : (x, some v) ∈ ls) (q : Q v h) : W w A (eval (.Name x pos) env) Q h := by
  obtain ⟨m, hn, hf⟩ := D.ns
  obtain ⟨hk, hd⟩ := D.lk _ hm
  exact W_Name hd (W_any fun s e => wpAny_loadName_local D.kind hk (e ▸ hn) (hf _ hm) ⟨Rest.refl s, e ▸ q⟩)
theorem W_loadLocal {Q : Value → Heap → Prop} (D : Here K w H0 env gs ls h l) (hm : (x, some v) ∈ ls) (q : Q v h) : W w A (loadName env x) Q h := by
  obtain ⟨m, hn, hf⟩ := D.ns
  obtain ⟨hk, hd⟩ := D.lk _ hm
  exact W_any fun s e => wpAny_loadName_local D.kind hk (e ▸ hn) (hf _ hm) ⟨Rest.refl s, e ▸ q⟩
theorem W_store {Q : Unit → Heap → Prop} (D : Here K w H0 env gs ls h l) (hs : SetL x v ls ls') (q : ∀ h', Here K w H0 env gs ls' h' l → Q () h') : W w A (storeName env x v) Q h := by
  obtain ⟨o, hm⟩ := hs.mem
  obtain ⟨hk, hd⟩ := D.lk _ hm
  obtain ⟨od, E, es, ep, hde, hsk, nd, hf⟩ := D.fr
  have hn : h.Ns env.locals (nsFind es) := ⟨od, es, ep, E.own _ (.head _), hde, hsk, fun _ => rfl⟩
  refine W_any fun s e => ?_
  subst e
  refine wpAny_storeName_local hk hn (fun h' hn' hs' => ⟨⟨rfl, rfl⟩, q h' ?_⟩) (by rw [D.kind]; rfl)
  obtain ⟨o', es', ep', ho', hd', hk', hm'⟩ := hn'
  refine ⟨D.base, D.kind, D.gl, D.bl, fun p hp => ?_, D.gk, o', E.turn (fun b hb => hs'.2 b hb) hs'.1 ho' (fun e => by rw [hd'] at e; cases e), es', ep', hd', hk', by rw [hs.names]; exact nd, fun p hp => ?_⟩
  · have : p.1 ∈ ls.map (·.1) := by rw [← hs.names]; exact List.mem_map_of_mem hp
    obtain ⟨q, hq, eq⟩ := List.mem_map.mp this
    rw [← eq]; exact D.lk q hq
  · rw [hm']; exact hs.look nd hf p hp
theorem W_bindName {Q : Unit → Heap → Prop} (q : W w A (storeName env x v) Q h) : W w A (bindName env x v) Q h := by
  unfold bindName
  exact W_bind (W_holding (W_point (W_bind (W_mono q fun _ _ y => W_point y))))
theorem W_loadGlobal {Q : Value → Heap → Prop} (D : Here K w H0 env gs ls h l) (hx : x ∈ gs) (e : nsIn K mainGlobals x = some (some v)) (q : Q v h) : W w A (loadName env x) Q h := by
  obtain ⟨mg, hg⟩ := D.base.glob
  obtain ⟨hk, hd⟩ := D.gk _ hx
  unfold loadName
  simp only [Env.blockKind, D.kind, hk, ScopeKind.isAnnotationScope, Bool.false_and, Bool.false_eq_true, if_false]
  have hgh : h.Ns env.globals mg := by rw [D.gl]; exact hg.keeps D.led.keep
  exact W_any fun s e' => loadGlobal_global (e' ▸ hgh) (mg_of D.base.kin hg e) ⟨Rest.refl s, e' ▸ q⟩
theorem W_loadBuiltin {Q : Value → Heap → Prop} (D : Here K w H0 env gs ls h l) (hx : x ∈ gs) (e : nsIn K mainGlobals x = some none) (hv : bootBuiltins x = some v) (hn : x ≠ "__name__") (q : Q v h) : W w A (loadName env x) Q h := by
  obtain ⟨mg, hg⟩ := D.base.glob
  obtain ⟨mb, hb, hbb⟩ := D.base.bi
  obtain ⟨hk, hd⟩ := D.gk _ hx
  unfold loadName
  simp only [Env.blockKind, D.kind, hk, ScopeKind.isAnnotationScope, Bool.false_and, Bool.false_eq_true, if_false]
  have hgh : h.Ns env.globals mg := by rw [D.gl]; exact hg.keeps D.led.keep
  have hbh : h.Ns env.builtins mb := by rw [D.bl]; exact hb.keeps D.led.keep
  exact W_any fun s e' => loadGlobal_builtin (e' ▸ hgh) (mg_none_of D.base.kin hg e) (e' ▸ hbh) ((hbb x hn).trans hv) ⟨Rest.refl s, e' ▸ q⟩
theorem W_global {Q : Value → Heap → Prop} (D : Here K w H0 env gs ls h l) (hx : x ∈ gs) (e : nsIn K mainGlobals x = some (some v)) (q : Q v h) : W w A (eval (.Name x pos) env) Q h :=
  W_Name (D.gk _ hx).2 (W_loadGlobal D hx e q)
theorem W_builtin {Q : Value → Heap → Prop} (D : Here K w H0 env gs ls h l) (hx : x ∈ gs) (e : nsIn K mainGlobals x = some none) (hv : bootBuiltins x = some v) (hn : x ≠ "__name__") (q : Q v h) : W w A (eval (.Name x pos) env) Q h :=
  W_Name (D.gk _ hx).2 (W_loadBuiltin D hx e hv hn q)
end
end

-- FRules
section
open PySem PySem.W PySem.Calls PyProof.Rows

section
variable {w : World} {A : Around} {h : Heap} {env : Env} {pos pos' : Pos}

theorem W_release (vs keep : List Value) {Q : Unit → Heap → Prop} (q : Q () h) : W w A (release vs keep) Q h := by
  intro Γ p s _ _ e
  rw [Sem.wp_release]
  exact ⟨Rest.refl s, e ▸ q⟩
theorem W_operate {vs : List Value} {m : Sem Value} {Q : Value → Heap → Prop} (x : W w A m Q h) : W w A (operate vs m) Q h := by
  intro Γ p s hΓ hc e
  rw [Sem.wp_operate]; exact x Γ p s hΓ hc e

-- statements
theorem W_nil {Q : Flow → Heap → Prop} (q : Q .next h) : W w A (execs [] env) Q h := W_pure q
/-- what a statement must end in, others standing behind it -/
def Then (w : World) (A : Around) (rest : List Stmt) (env : Env) (Q : Flow → Heap → Prop) (f : Flow) (h' : Heap) : Prop := match f with
  | .next => W w A (execs rest env) Q h'
  | f => Q f h'
theorem W_cons {st : Stmt} {rest : List Stmt} {Q : Flow → Heap → Prop} (x : W w A (exec st env) (Then w A rest env Q) h) : W w A (execs (st :: rest) env) Q h := by
  rw [arm_execs_cons]
  refine W_bind (W_mono x fun f h' y => ?_)
  cases f <;> first | exact y | exact W_pure y
theorem then_next {rest : List Stmt} {Q : Flow → Heap → Prop} (x : W w A (execs rest env) Q h) : Then w A rest env Q .next h := x
theorem W_Pass {Q : Flow → Heap → Prop} (q : Q .next h) : W w A (exec (.Pass pos) env) Q h := by
  rw [arm_exec_Pass]; exact W_bind (W_standAt (W_pure q))
theorem W_Continue {Q : Flow → Heap → Prop} (q : Q .cont h) : W w A (exec (.Continue pos) env) Q h := by
  rw [arm_exec_Continue]; exact W_bind (W_standAt (W_pure q))
theorem W_Return {e : Expr} {Q : Flow → Heap → Prop} (x : W w A (eval e env) (fun v h' => Q (.ret v) h') h) : W w A (exec (.Return (some e) pos) env) Q h := by
  rw [exec_Return_some]; exact W_bind (W_standAt (W_bind (W_mono x fun _ _ y => W_pure y)))
theorem W_Return0 {Q : Flow → Heap → Prop} (q : Q (.ret .none) h) : W w A (exec (.Return none pos) env) Q h := by
  rw [exec_Return_none]; exact W_bind (W_standAt (W_pure q))
theorem W_If {test : Expr} {body orelse : List Stmt} {Q : Flow → Heap → Prop}
    (x : W w A (isTrue test env (eval test env)) (fun b h' => if b then W w A (execs body env) Q h' else W w A (execs orelse env) Q h') h) :
    W w A (exec (.If test body orelse pos) env) Q h := by
  rw [exec_If]
  refine W_bind (W_standAt (W_bind (W_mono x fun b h' y => ?_)))
  cases b <;> exact y
theorem W_ExprCall {f : Expr} {as : List Expr} {ks : List Keyword} {p : Pos} {Q : Flow → Heap → Prop} (hi : interactive env = false)
    (x : W w A (eval (.Call f as ks p) env) (fun v h' => (∀ a, v ≠ .ref a) ∧ Q .next h') h) : W w A (exec (.Expr (.Call f as ks p) pos) env) Q h := by
  rw [exec_Expr env _ pos hi rfl]
  refine W_bind (W_standAt (W_bind (W_mono x fun v h' y => ?_)))
  rw [dropValue_plain y.1]
  exact W_pure y.2
theorem W_AssignName {x : Str} {value : Expr} {Q : Flow → Heap → Prop}
    (hx : W w A (eval value env) (fun v h₁ => W w A (storeName env x v) (fun _ h₂ => Q .next h₂) h₁) h)
    (hs : swapsWith value (some (.Name x pos')) pos.line env = pure false := by rfl) : W w A (exec (.Assign [.Name x pos'] value pos) env) Q h := by
  rw [exec_Assign_Name env x pos' value pos hs]
  refine W_bind (W_standAt (W_bind (W_mono hx fun v h₁ y => W_bind (W_standAt (W_bind ?_)))))
  unfold bindName
  exact W_bind (W_holding (W_point (W_bind (W_mono y fun _ _ z => W_point (W_pure z)))))
theorem W_AssignAttr {o value : Expr} {attr : Str} {Q : Flow → Heap → Prop}
    (hx : W w A (eval value env) (fun v h₁ => W w A (eval o env) (fun ov h₂ => W w A (setAttr ov attr v) (fun _ h₃ => Q .next h₃) h₂) h₁) h)
    (hs : swapsWith value (some (.Attribute o attr pos')) pos.line env = pure false := by rfl) : W w A (exec (.Assign [.Attribute o attr pos'] value pos) env) Q h := by
  rw [plainObj_exec_Assign_Attribute o attr pos' value pos hs]
  refine W_bind (W_standAt (W_bind (W_mono hx fun v h₁ y => ?_)))
  rw [assign_Attribute]
  refine W_bind (W_bind (W_holding (W_mono y fun ov h₂ z => W_bind (W_standAt (W_bind (W_holding (W_mono z fun _ h₃ u => W_release _ _ ?_)))))))
  exact W_pure u
theorem W_AssignSub {o i value : Expr} {Q : Flow → Heap → Prop}
    (hx : W w A (eval value env) (fun v h₁ => W w A (eval o env) (fun ov h₂ => W w A (eval i env) (fun iv h₃ => W w A (setItem ov iv v) (fun _ h₄ => Q .next h₄) h₃) h₂) h₁) h)
    (hs : swapsWith value (some (.Subscript o i pos')) pos.line env = pure false := by rfl) : W w A (exec (.Assign [.Subscript o i pos'] value pos) env) Q h := by
  rw [exec_Assign_Subscript o i pos' value pos hs]
  refine W_bind (W_standAt (W_bind (W_mono hx fun v h₁ y => ?_)))
  rw [assign_Subscript]
  refine W_bind (W_bind (W_holding (W_mono y fun ov h₂ z => W_bind (W_holding (W_mono z fun iv h₃ u => W_bind (W_standAt (W_bind (W_holding (W_mono u fun _ h₄ t => W_release _ _ ?_)))))))))
  exact W_pure t
theorem W_AugName {x : Str} {op : Operator} {value : Expr} {Q : Flow → Heap → Prop}
    (hx : W w A (loadName env x) (fun old h₁ => W w A (eval value env) (fun v h₂ => W w A (inplaceOp op old v) (fun r h₃ => W w A (storeName env x r) (fun _ h₄ => Q .next h₄) h₃) h₂) h₁) h) :
    W w A (exec (.AugAssign (.Name x pos') op value pos) env) Q h := by
  rw [exec_AugAssign_Name]
  refine W_bind (W_standAt (W_bind (W_mono hx fun old h₁ y => W_bind (W_holding (W_mono y fun v h₂ z => W_bind (W_standAt (W_bind (W_operate (W_mono z fun r h₃ u => W_bind (W_standAt (W_bind ?_)))))))))))
  unfold bindName
  exact W_bind (W_holding (W_point (W_bind (W_mono u fun _ _ t => W_point (W_pure t)))))

-- expressions
theorem W_int {i : Int} {k : Nat} {Q : Value → Heap → Prop} (q : ∀ t, Q (.int i t) h) : W w A (eval (.Constant (.int i) k pos) env) Q h := by
  rw [arm_eval_Constant]; exact W_mkInt q
theorem W_none {k : Nat} {Q : Value → Heap → Prop} (q : Q .none h) : W w A (eval (.Constant .none k pos) env) Q h := by
  rw [arm_eval_Constant]; exact W_pure q
theorem W_boolC {b : Bool} {k : Nat} {Q : Value → Heap → Prop} (q : Q (.bool b) h) : W w A (eval (.Constant (.bool b) k pos) env) Q h := by
  rw [arm_eval_Constant]; exact W_pure q
theorem W_strC {x : Str} {k : Nat} {Q : Value → Heap → Prop} (q : ∀ t, Q (.str x t) h) : W w A (eval (.Constant (.str x) k pos) env) Q h := by
  rw [arm_eval_Constant]; exact W_mkText q
theorem W_bytesC {b : List UInt8} {k : Nat} {Q : Value → Heap → Prop} (q : ∀ t, Q (.bytes b.toArray t) h) : W w A (eval (.Constant (.bytes b) k pos) env) Q h := by
  rw [arm_eval_Constant]; exact fun _ _ s _ _ e => ⟨⟨rfl, rfl⟩, e ▸ q _⟩
theorem W_BinOp {l r : Expr} {op : Operator} {Q : Value → Heap → Prop}
    (x : W w A (eval l env) (fun a h₁ => W w A (eval r env) (fun b h₂ => W w A (binaryOp op a b) Q h₂) h₁) h) : W w A (eval (.BinOp l op r pos) env) Q h := by
  rw [eval_BinOp]
  exact W_bind (W_mono x fun a h₁ y => W_bind (W_holding (W_mono y fun b h₂ z => W_bind (W_standAt (W_operate z)))))
theorem W_UnaryOp {e : Expr} {op : UnaryOp} {Q : Value → Heap → Prop}
    (x : W w A (eval e env) (fun a h₁ => W w A (unaryOp op a) Q h₁) h) : W w A (eval (.UnaryOp op e pos) env) Q h := by
  rw [arm_eval_UnaryOp]
  exact W_bind (W_mono x fun a h₁ y => W_bind (W_standAt (W_holding y)))
theorem W_IfExp {test body orelse : Expr} {Q : Value → Heap → Prop}
    (x : W w A (isTrue test env (eval test env)) (fun b h' => if b then W w A (eval body env) Q h' else W w A (eval orelse env) Q h') h) :
    W w A (eval (.IfExp test body orelse pos) env) Q h := by
  rw [arm_eval_IfExp]
  refine W_bind (W_mono x fun b h' y => ?_)
  cases b <;> exact y
theorem W_Compare1 {l r : Expr} {op : CmpOp} {Q : Value → Heap → Prop}
    (x : W w A (eval l env) (fun a h₁ => W w A (eval r env) (fun b h₂ => W w A (compareOp op a b) Q h₂) h₁) h)
    (hm : behindInMarks op r = false := by with_unfolding_all rfl) : W w A (eval (.Compare l [op] [r] pos) env) Q h := by
  rw [eval_Compare1, markedBehindIn_of_false hm]
  exact W_bind (W_mono x fun a h₁ y => W_bind (W_holding (W_mono y fun b h₂ z => W_bind (W_standAt (W_operate z)))))
theorem W_tCompare1 {l r : Expr} {op : CmpOp} {whole : Sem Value} {Q : Bool → Heap → Prop}
    (x : W w A (eval l env) (fun a h₁ => W w A (eval r env) (fun b h₂ => W w A (compareOp op a b) (fun c h₃ => W w A (truthy c) Q h₃) h₂) h₁) h)
    (hm : behindInMarks op r = false := by with_unfolding_all rfl) : W w A (isTrue (.Compare l [op] [r] pos) env whole) Q h := by
  rw [isTrue_Compare1, markedBehindIn_of_false hm]
  exact W_bind (W_mono x fun a h₁ y => W_bind (W_holding (W_mono y fun b h₂ z => W_bind (W_standAt (W_bind (W_operate (W_mono z fun c h₃ u => W_holding u)))))))
theorem W_tNot {e : Expr} {whole : Sem Value} {Q : Bool → Heap → Prop} (x : W w A (isTrue e env (eval e env)) (fun b h' => Q (!b) h') h) : W w A (isTrue (.UnaryOp .Not e pos) env whole) Q h := by
  rw [arm_isTrue_UnaryOp]
  exact W_bind (W_mono x fun b h' y => W_pure y)
theorem W_tVal {e : Expr} {whole : Sem Value} {Q : Bool → Heap → Prop} (x : W w A whole (fun v h₁ => W w A (truthy v) Q h₁) h)
    (he : isTrue e env whole = (do let v ← whole; standAt e.pos; holding [v] (truthy v)) := by rfl) : W w A (isTrue e env whole) Q h := by
  rw [he]
  exact W_bind (W_mono x fun v h₁ y => W_bind (W_standAt (W_holding y)))
theorem W_tBool {op : BoolOp} {vs : List Expr} {whole : Sem Value} {Q : Bool → Heap → Prop} (x : W w A (allTrue op vs env) Q h) : W w A (isTrue (.BoolOp op vs pos) env whole) Q h := by
  rw [arm_isTrue_BoolOp]; exact x
theorem W_all0 {Q : Bool → Heap → Prop} (q : Q true h) : W w A (allTrue .And [] env) Q h := W_pure q
theorem W_any0 {Q : Bool → Heap → Prop} (q : Q false h) : W w A (allTrue .Or [] env) Q h := W_pure q
theorem W_all1 {e : Expr} {rest : List Expr} {Q : Bool → Heap → Prop}
    (x : W w A (isTrue e env (eval e env)) (fun b h₁ => if b then W w A (allTrue .And rest env) Q h₁ else Q false h₁) h) : W w A (allTrue .And (e :: rest) env) Q h := by
  rw [arm_allTrue_cons]
  refine W_bind (W_mono x fun b h₁ y => ?_)
  cases b
  · exact W_pure y
  · exact y
theorem W_any1 {e : Expr} {rest : List Expr} {Q : Bool → Heap → Prop}
    (x : W w A (isTrue e env (eval e env)) (fun b h₁ => if b then Q true h₁ else W w A (allTrue .Or rest env) Q h₁) h) : W w A (allTrue .Or (e :: rest) env) Q h := by
  rw [arm_allTrue_cons]
  refine W_bind (W_mono x fun b h₁ y => ?_)
  cases b
  · exact y
  · exact W_pure y
theorem W_truthyB {b : Bool} {Q : Bool → Heap → Prop} (q : Q b h) : W w A (truthy (.bool b)) Q h := fun _ _ s _ _ e => ⟨Rest.refl s, e ▸ q⟩
theorem W_Attribute {o : Expr} {attr : Str} {Q : Value → Heap → Prop}
    (x : W w A (eval o env) (fun ov h₁ => W w A (getAttr ov attr true) (fun r h₂ => W w A (letTemporaryGo o ov r) (fun _ h₃ => Q r h₃) h₂) h₁) h)
    (hb : attributeBase o attr env (eval o env) = eval o env := by rfl) : W w A (eval (.Attribute o attr pos) env) Q h := by
  rw [arm_eval_Attribute, hb]
  exact W_bind (W_mono x fun ov h₁ y => W_bind (W_standAt (W_bind (W_holding (W_mono y fun r h₂ z => W_bind (W_mono z fun _ _ u => W_pure u))))))
theorem W_AttrName {x : Str} {p : Pos} {attr : Str} {Q : Value → Heap → Prop}
    (hx : W w A (eval (.Name x p) env) (fun ov h₁ => W w A (getAttr ov attr true) Q h₁) h) : W w A (eval (.Attribute (.Name x p) attr pos) env) Q h := by
  rw [arm_eval_Attribute, show attributeBase (.Name x p) attr env (eval (.Name x p) env) = eval (.Name x p) env from rfl]
  exact W_bind (W_mono hx fun ov h₁ y => W_bind (W_standAt (W_bind (W_holding (W_mono y fun r h₂ z => W_bind (W_pure (W_pure z)))))))
theorem W_Subscript {o i : Expr} {Q : Value → Heap → Prop}
    (x : W w A (eval o env) (fun ov h₁ => W w A (eval i env) (fun iv h₂ => W w A (getitemInPython ov) (fun b h₃ => W w A (subscripted i b ov iv) (fun r h₄ => W w A (letTemporaryGo o ov r) (fun _ h₅ => Q r h₅) h₄) h₃) h₂) h₁) h) :
    W w A (eval (.Subscript o i pos) env) Q h := by
  rw [arm_eval_Subscript]
  exact W_bind (W_mono x fun ov h₁ y => W_bind (W_holding (W_mono y fun iv h₂ z => W_bind (W_standAt (W_bind (W_mono z fun b h₃ u => W_bind (W_mono u fun r h₄ t => W_bind (W_mono t fun _ _ s => W_pure s))))))))
theorem W_sp0 {Q : List Value → Heap → Prop} (q : Q [] h) : W w A (spliced (backTo pos (starEach [] env))) Q h := W_pure q
theorem W_sp1 {e : Expr} {rest : List Expr} {Q : List Value → Heap → Prop}
    (x : W w A (eval e env) (fun v h₁ => W w A (spliced (backTo pos (starEach rest env))) (fun vs h₂ => Q (v :: vs) h₂) h₁) h)
    (he : starEach (e :: rest) env = (false, eval e env) :: starEach rest env := by rfl) : W w A (spliced (backTo pos (starEach (e :: rest) env))) Q h := by
  rw [he]
  show W w A (do
    let v ← eval e env
    let here ← (pure [v] : Sem (List Value))
    return here ++ (← holding here (spliced (backTo pos (starEach rest env))))) Q h
  exact W_bind (W_mono x fun v h₁ y => W_bind (W_pure (W_bind (W_holding (W_mono y fun vs h₂ z => W_pure z)))))
theorem W_Tuple {elts : List Expr} {k : Nat} {Q : Value → Heap → Prop}
    (x : W w A (spliced (backTo pos (starEach elts env))) (fun vs h₁ => vs.length ≤ sizeLine ∧ Q (.ref h₁.objs.size) (h₁.push { cls := .type "tuple", data := .seq vs.toArray })) h) : W w A (eval (.Tuple elts k pos) env) Q h := by
  rw [arm_eval_Tuple]
  refine W_bind (W_standAt (W_bind (W_mono x fun vs h₁ y => ?_)))
  exact W_any fun s e => wpAny_newObj_type (by subst e; exact ⟨⟨rfl, rfl⟩, y.2⟩) (by show vs.toArray.size ≤ sizeLine; rw [List.size_toArray]; exact y.1)
theorem W_List {elts : List Expr} {Q : Value → Heap → Prop}
    (x : W w A (spliced (backTo pos (starEach elts env))) (fun vs h₁ => vs.length ≤ sizeLine ∧ Q (.ref h₁.objs.size) (h₁.push { cls := .type "list", data := .seq vs.toArray })) h) : W w A (eval (.List elts pos) env) Q h := by
  rw [arm_eval_List]
  refine W_bind (W_standAt (W_bind (W_mono x fun vs h₁ y => ?_)))
  exact W_any fun s e => wpAny_newObj_type (by subst e; exact ⟨⟨rfl, rfl⟩, y.2⟩) (by show vs.toArray.size ≤ sizeLine; rw [List.size_toArray]; exact y.1)

-- calls
/-- any callee that is kept: what callWith asks of it leads nowhere else -/
theorem W_callWith {f : Value} {first : List Value} {args : List (Bool × Sem Value)} {keywords : List (Option Str × Sem Value)} {Q : Value → Heap → Prop}
    (x : W w A (evalArgs f true args keywords) (fun a h₁ => (∃ k, Looks (MW w) h₁ (keeperOf f) k) ∧ W w A (call f (first ++ a.pos) a.kw) Q h₁) h) : W w A (callWith pos f first args keywords) Q h := by
  unfold callWith
  refine W_bind (W_holding (W_mono x fun a h₁ y => W_bind (W_standAt ?_)))
  obtain ⟨⟨k, L⟩, y⟩ := y
  refine W_bind (W_looks L ?_)
  have marked (mk : Value) : W w A (callMarked mk f (first ++ a.pos) a.kw) Q h₁ := by unfold callMarked; exact W_keep y
  have tail : ∀ {t : Sem Value}, W w A t Q h₁ → W w A (t >>= fun r => holding [r] point >>= fun _ => pure r) Q h₁ :=
    fun ht => W_bind (W_mono ht fun r h₂ z => W_bind (W_holding (W_point (W_pure z))))
  generalize hs : (args.any (·.1) || keywords.any (·.1.isNone)) = st
  cases k <;> cases st <;> dsimp only <;> first
    | exact tail y
    | exact tail (marked _)
    | exact tail (W_operate y)
    | (split <;> first | exact tail y | exact tail (marked _))
theorem W_argsPlain {f : Value} {e : Expr} {rest : List Expr} {Q : Args → Heap → Prop}
    (x : W w A (spliced (backTo pos (starEach (e :: rest) env))) (fun vs h₁ => Q ⟨vs, []⟩ h₁) h) (he : starEach (e :: rest) env = (false, eval e env) :: starEach rest env := by rfl) :
    W w A (evalArgs f true (backTo pos (starEach (e :: rest) env)) []) Q h := by
  rw [he] at x ⊢
  unfold evalArgs
  show W w A (spliced (backTo pos ((false, eval e env) :: starEach rest env)) >>= _) Q h
  refine W_bind (W_mono x fun vs h₁ y => ?_)
  refine W_holding ?_
  exact W_bind (W_pure (W_bind (W_pure (W_pure y))))
theorem W_args0 {f : Value} {Q : Args → Heap → Prop} (q : Q ⟨[], []⟩ h) : W w A (evalArgs f true (backTo pos (starEach [] env)) []) Q h := by
  unfold evalArgs
  show W w A (spliced [] >>= _) Q h
  refine W_bind (W_pure ?_)
  refine W_bind (W_pure ?_)
  refine W_holding ?_
  exact W_bind (W_pure (W_bind (W_pure (W_pure q))))
theorem W_CallName {x : Str} {p : Pos} {args : List Expr} {ks : List Keyword} {Q : Value → Heap → Prop}
    (hx : W w A (eval (.Name x p) env) (fun f h₁ => W w A (callWith pos f [] (backTo pos (starEach args env)) (backToKw pos (keywordEach ks env))) Q h₁) h) :
    W w A (eval (.Call (.Name x p) args ks pos) env) Q h := by
  rw [arm_eval_Call_Name']
  exact W_bind hx
theorem W_CallAttr {o : Expr} {name : Str} {apos : Pos} {args : List Expr} {ks : List Keyword} {Q : Value → Heap → Prop}
    (hx : W w A (eval o env) (fun ov h₁ => W w A (getMethod ov name (do return (← importBound o env).getD true)) (fun r h₂ => W w A (callWith pos r.1 r.2 (backTo pos (starEach args env)) (backToKw pos (keywordEach ks env))) Q h₂) h₁) h)
    (hb : attributeBase o name env (eval o env) = eval o env := by rfl)
    (hf : methodCallForm (args.length + ks.length) (backTo pos (starEach args env)) (backToKw pos (keywordEach ks env)) = true := by rfl) (hl : (apos.endLine == pos.line) = true := by rfl) :
    W w A (eval (.Call (.Attribute o name apos) args ks pos) env) Q h := by
  rw [arm_eval_Call, hb]
  refine W_bind (W_mono hx fun ov h₁ y => W_bind (W_standAt ?_))
  unfold methodCall
  rw [hf]
  unfold calleeOf methodCallPos
  rw [hl]
  exact W_bind (W_holding (W_mono y fun r h₂ z => W_bind (W_pure z)))
end
end

-- FCall
section
open PySem PySem.W PySem.Calls PyProof.Rows

section
variable {w : World} {A : Around} {h : Heap} {env : Env} {pos pos' : Pos}
theorem WC_func {body : List Stmt} {Q : Flow → Heap → Prop} (x : W w (A.deeper env) (execs body env) (fun f h' => Q (.ret (match f with | .ret v => v | _ => .none)) h') h) : WC w A (.func body env) Q h := by
  refine WC_tree rfl ?_
  show W w (A.deeper env) (do point; match ← (execs body env).onRaise (leaving env) with | .ret v => ret v | _ => ret .none) _ h
  refine W_bind (W_point (W_bind (W_onRaise (W_mono x fun f h' y => ?_))))
  cases f <;> exact W_pure y

/-- what a def's names are, looked through once -/
def frameOk (scope : Scope) (ps xs gs : List Str) : Bool :=
  (ps ++ xs).all (fun n => scope.names.lookup n == some .local && !(n == ("__debug__" : Str))) && gs.all (fun n => scope.names.lookup n == some .globalImplicit && !(n == ("__debug__" : Str))) &&
  decide ((ps ++ xs).Nodup) && scope.names.all (fun x => x.2 != .cell) && scope.kind == .function && !scope.isGenerator && !scope.isCoroutine
theorem nsFind_lookup (ps : List (Str × Value)) : ∀ p ∈ ps, (ps.map (·.1)).Nodup → ps.reverse.lookup p.1 = some p.2 := by
  have gen : ∀ (l : List (Str × Value)) (p : Str × Value), p ∈ l → (l.map (·.1)).Nodup → l.lookup p.1 = some p.2 := by
    intro l
    induction l with
    | nil => intro p hp; cases hp
    | cons q r ih =>
      intro p hp nd
      rw [List.map_cons, List.nodup_cons] at nd
      obtain ⟨a, b⟩ := q
      rw [List.lookup_cons]
      rcases List.mem_cons.mp hp with rfl | hp
      · simp
      · have : (p.1 == a) = false := beq_eq_false_iff_ne.mpr fun e => nd.1 (List.mem_map.mpr ⟨p, hp, e⟩)
        simp only [this]
        exact ih p hp nd.2
  intro p hp nd
  refine gen ps.reverse p (List.mem_reverse.mpr hp) ?_
  rw [List.map_reverse]
  exact (List.reverse_perm _).nodup_iff.mpr nd
theorem lookup_none_of (ps : List (Str × Value)) (x : Str) (hx : x ∉ ps.map (·.1)) : ps.reverse.lookup x = none := by
  rw [List.lookup_eq_none_iff]
  intro p hp
  have hp' := List.mem_reverse.mp hp
  exact bne_iff_ne.mpr fun e => hx (List.mem_map.mpr ⟨p, hp', e.symm⟩)

variable {K : Frag} {H0 : Heap} {gs : List Str} {ls : List (Str × Option Value)} {l : List (Addr × Obj)}
/-- the names of a fresh frame -/
def startL (binds : List (Str × Value)) (xs : List Str) : List (Str × Option Value) := binds.map (fun p => (p.1, some p.2)) ++ xs.map (fun x => (x, none))

theorem WC_fn {n : Nat} (D : Here K w H0 env gs ls h l) (O : AOk (n + 1) A) {f : Addr} {name qual : Str} {params : Arguments} {body : List Stmt} {scope : Scope} {dV kV doc pm cdv ct oc : Value} {an od : Option Addr} {osl : Array (Option Value)}
    (ho : K.lookup f = some ⟨oc, od, .func (fnOf name qual params body scope dV kV doc pm an cdv ct), osl⟩) (hcd : codeIn K cdv qual = true)
    {args : Args} {binds : List (Str × Value)} (hb : ∀ s : Shared, s.heap = h → BindsTo s (fnOf name qual params body scope dV kV doc pm an cdv ct) args binds)
    {ps xs gs' : List Str} (hps : binds.map (·.1) = ps) (hchk : frameOk scope ps xs gs' = true) {Q : Value → Heap → Prop}
    (x : ∀ env' A' h₁ X, AOk n A' → Here K w H0 env' gs' (startL binds xs) h₁ (X :: l) →
      (∀ ls'' h' l', Here K w H0 env' gs' ls'' h' (X :: l') → Here K w H0 env gs ls h' l') →
      W w A' (execs body env') (fun fl h' => Q (match fl with | .ret v => v | _ => .none) h') h₁) :
    WC w A (.call (.ref f) args) (fun fl h' => ∃ v, fl = .ret v ∧ Q v h') h := by
  simp only [frameOk, Bool.and_eq_true, List.all_eq_true, beq_iff_eq, Bool.not_eq_true', decide_eq_true_eq, bne_iff_ne, ne_eq] at hchk
  obtain ⟨⟨⟨⟨⟨⟨hl, hg⟩, hnd⟩, hcell⟩, hk⟩, hgen⟩, hco⟩ := hchk
  subst hps
  obtain ⟨c, oc', vs, tq, hc, hoc, hdc, hq⟩ := codeRec_of D.kin hcd
  obtain ⟨odl, E, N⟩ := D.fr
  refine WC_tree rfl ?_
  show W w A.in1 (callAny (.ref f) args) _ h
  simp only [callAny]
  refine W_bind (W_load (D.kin _ _ ho) ?_)
  dsimp only
  simp only [callFunction, hco, hgen, hc]
  refine W_bind (m := field (.ref c) 1) (W_any fun s e => wpAny_field (e ▸ hoc) hdc hq ⟨Rest.refl s, e ▸ W_bind (W_pure ?_)⟩)
  refine W_bind (W_any fun s e => hb s e _ _ _ _ ⟨Rest.refl s, ?_⟩)
  refine W_bind (W_any fun s' e' => wpAny_newFunctionEnv (s := s') (scope := scope) (binds := binds) (fun y hy => hcell y hy) (fun y hy => (hl y.1 (List.mem_append_left _ (List.mem_map_of_mem hy))).1) (fun h' hn hs => ⟨⟨rfl, rfl⟩, ?_⟩) hk)
  have es' : s'.heap = h := by rw [e', e]
  clear e' e hb
  rw [es'] at hn hs ⊢
  show W w A.in1 _ _ h'
  clear s' s es'
  obtain ⟨o', es, ep, ho', hd', hsk, hm⟩ := hn
  have E1 : Led H0 h' ((h.objs.size, o') :: (env.locals, odl) :: l) :=
    (E.alloc (o := { cls := .type (if (none : Option Env).isSome then "dict" else "frame"), data := .dict #[] }) rfl).turn (fun b hb => hs.2 b hb) hs.1 ho' (fun e => by rw [hd'] at e; cases e)
  have lim : h'.NoLimit := D.base.lim.keeps E1.keep
  refine W_bind (W_any fun s e => wpAny_enterFrame (e ▸ lim) (by have := O.room; exact this) ⟨Rest.refl s, ?_⟩)
  rw [e]
  refine W_pure ⟨rfl, WC_func ?_⟩
  have kk : ∀ y ∈ binds.map (·.1) ++ xs, (newEnv scope h.objs.size mainGlobals [] (qual ++ ".<locals>.") (some f) (.ref c) none builtinsNs).kindOf y = some .local ∧ (y == ("__debug__" : Str)) = false := fun y hy => hl y hy
  have hD : Here K w H0 (newEnv scope h.objs.size mainGlobals [] (qual ++ ".<locals>.") (some f) (.ref c) none builtinsNs) gs' (startL binds xs) h' ((env.locals, odl) :: l) := by
    refine ⟨D.base, hk, rfl, rfl, fun p hp => ?_, fun y hy => hg y hy, o', ?_, es, ep, hd', hsk, ?_, fun p hp => ?_⟩
    · refine kk p.1 ?_
      rcases List.mem_append.mp hp with hp | hp
      · obtain ⟨q, hq, rfl⟩ := List.mem_map.mp hp
        exact List.mem_append_left _ (List.mem_map_of_mem hq)
      · obtain ⟨q, hq, rfl⟩ := List.mem_map.mp hp
        exact List.mem_append_right _ hq
    · exact E1
    · have : (startL binds xs).map (·.1) = binds.map (·.1) ++ xs := by
        unfold startL
        rw [List.map_append, List.map_map, List.map_map]
        congr 1
        exact List.map_id xs
      rw [this]; exact hnd
    · rw [hm]
      rcases List.mem_append.mp hp with hp | hp
      · obtain ⟨q, hq, rfl⟩ := List.mem_map.mp hp
        exact nsFind_lookup binds q hq (List.nodup_append.mp hnd).1
      · obtain ⟨q, hq, rfl⟩ := List.mem_map.mp hp
        exact lookup_none_of binds q fun hm' => (List.nodup_append.mp hnd).2.2 q hm' q hq rfl
  refine W_mono (x _ _ h' (env.locals, odl) (O.deeper _) hD fun ls'' h2 l' D' => ?_) fun fl h2 y => ⟨_, rfl, y⟩
  obtain ⟨od2, E2, _⟩ := D'.fr
  exact ⟨D.base, D.kind, D.gl, D.bl, D.lk, D.gk, odl, E2.drop, N⟩

theorem W_fn {n : Nat} (D : Here K w H0 env gs ls h l) (O : AOk (n + 1) A) {f : Addr} {name qual : Str} {params : Arguments} {body : List Stmt} {scope : Scope} {dV kV doc pm cdv ct oc : Value} {an od : Option Addr} {osl : Array (Option Value)}
    {pos : List Value} {kw : List (Str × Value)} (binds : List (Str × Value)) (ps xs gs' : List Str) {Q : Value → Heap → Prop}
    (ho : K.lookup f = some ⟨oc, od, .func (fnOf name qual params body scope dV kV doc pm an cdv ct), osl⟩) (hcd : codeIn K cdv qual = true)
    (hb : ∀ s : Shared, s.heap = h → BindsTo s (fnOf name qual params body scope dV kV doc pm an cdv ct) ⟨pos, kw⟩ binds)
    (hps : binds.map (·.1) = ps) (hchk : frameOk scope ps xs gs' = true)
    (x : ∀ env' A' h₁ X, AOk n A' → Here K w H0 env' gs' (startL binds xs) h₁ (X :: l) →
      (∀ ls'' h' l', Here K w H0 env' gs' ls'' h' (X :: l') → Here K w H0 env gs ls h' l') →
      W w A' (execs body env') (fun fl h' => Q (match fl with | .ret v => v | _ => .none) h') h₁) :
    W w A (call (.ref f) pos kw) Q h := W_call (WC_fn D O ho hcd hb hps hchk x)
theorem Here.swap {p q : Addr × Obj} (D : Here K w H0 env gs ls h (p :: q :: l)) : Here K w H0 env gs ls h (q :: p :: l) := D.with fun X E => E.swap1
theorem Here.swap1 {p q r : Addr × Obj} (D : Here K w H0 env gs ls h (p :: q :: r :: l)) : Here K w H0 env gs ls h (p :: r :: q :: l) := D.with fun X E => E.swap2
theorem Here.perm {l' : List (Addr × Obj)} (D : Here K w H0 env gs ls h l) (e : l.Perm l') : Here K w H0 env gs ls h l' := D.with fun X E => E.perm (.cons _ e)
theorem Here.drop {p : Addr × Obj} (D : Here K w H0 env gs ls h (p :: l)) : Here K w H0 env gs ls h l := D.with fun X E => E.drop1
theorem Here.drop1 {p q : Addr × Obj} (D : Here K w H0 env gs ls h (p :: q :: l)) : Here K w H0 env gs ls h (p :: l) := D.swap.drop
theorem Here.drop2 {p q r : Addr × Obj} (D : Here K w H0 env gs ls h (p :: q :: r :: l)) : Here K w H0 env gs ls h (p :: q :: l) := D.swap1.swap.drop
theorem W_fn1 {p : Addr × Obj} {n : Nat} (D : Here K w H0 env gs ls h (p :: l)) (O : AOk (n + 1) A) {f : Addr} {name qual : Str} {params : Arguments} {body : List Stmt} {scope : Scope} {dV kV doc pm cdv ct oc : Value} {an od : Option Addr} {osl : Array (Option Value)}
    {pos : List Value} {kw : List (Str × Value)} (binds : List (Str × Value)) (ps xs gs' : List Str) {Q : Value → Heap → Prop}
    (ho : K.lookup f = some ⟨oc, od, .func (fnOf name qual params body scope dV kV doc pm an cdv ct), osl⟩) (hcd : codeIn K cdv qual = true)
    (hb : ∀ s : Shared, s.heap = h → BindsTo s (fnOf name qual params body scope dV kV doc pm an cdv ct) ⟨pos, kw⟩ binds)
    (hps : binds.map (·.1) = ps) (hchk : frameOk scope ps xs gs' = true)
    (x : ∀ env' A' h₁ X, AOk n A' → Here K w H0 env' gs' (startL binds xs) h₁ (p :: X :: l) →
      (∀ ls'' h' p' l', Here K w H0 env' gs' ls'' h' (p' :: X :: l') → Here K w H0 env gs ls h' (p' :: l')) →
      W w A' (execs body env') (fun fl h' => Q (match fl with | .ret v => v | _ => .none) h') h₁) :
    W w A (call (.ref f) pos kw) Q h := by
  refine W_call (WC_fn D O ho hcd hb hps hchk fun env' A' h₁ X O' D' back => x env' A' h₁ X O' (D'.perm (List.perm_middle (l₁ := [p])).symm) fun ls'' h' p' l' D2 => back ls'' h' _ (D2.perm (List.perm_middle (l₁ := [p']))))
theorem W_fn2 {p q : Addr × Obj} {n : Nat} (D : Here K w H0 env gs ls h (p :: q :: l)) (O : AOk (n + 1) A) {f : Addr} {name qual : Str} {params : Arguments} {body : List Stmt} {scope : Scope} {dV kV doc pm cdv ct oc : Value} {an od : Option Addr} {osl : Array (Option Value)}
    {pos : List Value} {kw : List (Str × Value)} (binds : List (Str × Value)) (ps xs gs' : List Str) {Q : Value → Heap → Prop}
    (ho : K.lookup f = some ⟨oc, od, .func (fnOf name qual params body scope dV kV doc pm an cdv ct), osl⟩) (hcd : codeIn K cdv qual = true)
    (hb : ∀ s : Shared, s.heap = h → BindsTo s (fnOf name qual params body scope dV kV doc pm an cdv ct) ⟨pos, kw⟩ binds)
    (hps : binds.map (·.1) = ps) (hchk : frameOk scope ps xs gs' = true)
    (x : ∀ env' A' h₁ X, AOk n A' → Here K w H0 env' gs' (startL binds xs) h₁ (p :: q :: X :: l) →
      (∀ ls'' h' p' q' l', Here K w H0 env' gs' ls'' h' (p' :: q' :: X :: l') → Here K w H0 env gs ls h' (p' :: q' :: l')) →
      W w A' (execs body env') (fun fl h' => Q (match fl with | .ret v => v | _ => .none) h') h₁) :
    W w A (call (.ref f) pos kw) Q h := by
  refine W_call (WC_fn D O ho hcd hb hps hchk fun env' A' h₁ X O' D' back => x env' A' h₁ X O' (D'.perm (List.perm_middle (l₁ := [p, q])).symm) fun ls'' h' p' q' l' D2 => back ls'' h' _ (D2.perm (List.perm_middle (l₁ := [p', q']))))
theorem W_fn3 {p q r : Addr × Obj} {n : Nat} (D : Here K w H0 env gs ls h (p :: q :: r :: l)) (O : AOk (n + 1) A) {f : Addr} {name qual : Str} {params : Arguments} {body : List Stmt} {scope : Scope} {dV kV doc pm cdv ct oc : Value} {an od : Option Addr} {osl : Array (Option Value)}
    {pos : List Value} {kw : List (Str × Value)} (binds : List (Str × Value)) (ps xs gs' : List Str) {Q : Value → Heap → Prop}
    (ho : K.lookup f = some ⟨oc, od, .func (fnOf name qual params body scope dV kV doc pm an cdv ct), osl⟩) (hcd : codeIn K cdv qual = true)
    (hb : ∀ s : Shared, s.heap = h → BindsTo s (fnOf name qual params body scope dV kV doc pm an cdv ct) ⟨pos, kw⟩ binds)
    (hps : binds.map (·.1) = ps) (hchk : frameOk scope ps xs gs' = true)
    (x : ∀ env' A' h₁ X, AOk n A' → Here K w H0 env' gs' (startL binds xs) h₁ (p :: q :: r :: X :: l) →
      (∀ ls'' h' p' q' r' l', Here K w H0 env' gs' ls'' h' (p' :: q' :: r' :: X :: l') → Here K w H0 env gs ls h' (p' :: q' :: r' :: l')) →
      W w A' (execs body env') (fun fl h' => Q (match fl with | .ret v => v | _ => .none) h') h₁) :
    W w A (call (.ref f) pos kw) Q h := by
  refine W_call (WC_fn D O ho hcd hb hps hchk fun env' A' h₁ X O' D' back => x env' A' h₁ X O' (D'.perm (List.perm_middle (l₁ := [p, q, r])).symm) fun ls'' h' p' q' r' l' D2 => back ls'' h' _ (D2.perm (List.perm_middle (l₁ := [p', q', r']))))
theorem W_fn4 {p q r u : Addr × Obj} {n : Nat} (D : Here K w H0 env gs ls h (p :: q :: r :: u :: l)) (O : AOk (n + 1) A) {f : Addr} {name qual : Str} {params : Arguments} {body : List Stmt} {scope : Scope} {dV kV doc pm cdv ct oc : Value} {an od : Option Addr} {osl : Array (Option Value)}
    {pos : List Value} {kw : List (Str × Value)} (binds : List (Str × Value)) (ps xs gs' : List Str) {Q : Value → Heap → Prop}
    (ho : K.lookup f = some ⟨oc, od, .func (fnOf name qual params body scope dV kV doc pm an cdv ct), osl⟩) (hcd : codeIn K cdv qual = true)
    (hb : ∀ s : Shared, s.heap = h → BindsTo s (fnOf name qual params body scope dV kV doc pm an cdv ct) ⟨pos, kw⟩ binds)
    (hps : binds.map (·.1) = ps) (hchk : frameOk scope ps xs gs' = true)
    (x : ∀ env' A' h₁ X, AOk n A' → Here K w H0 env' gs' (startL binds xs) h₁ (p :: q :: r :: u :: X :: l) →
      (∀ ls'' h' p' q' r' u' l', Here K w H0 env' gs' ls'' h' (p' :: q' :: r' :: u' :: X :: l') → Here K w H0 env gs ls h' (p' :: q' :: r' :: u' :: l')) →
      W w A' (execs body env') (fun fl h' => Q (match fl with | .ret v => v | _ => .none) h') h₁) :
    W w A (call (.ref f) pos kw) Q h := by
  refine W_call (WC_fn D O ho hcd hb hps hchk fun env' A' h₁ X O' D' back => x env' A' h₁ X O' (D'.perm (List.perm_middle (l₁ := [p, q, r, u])).symm) fun ls'' h' p' q' r' u' l' D2 => back ls'' h' _ (D2.perm (List.perm_middle (l₁ := [p', q', r', u']))))
theorem W_fn5 {p q r u v : Addr × Obj} {n : Nat} (D : Here K w H0 env gs ls h (p :: q :: r :: u :: v :: l)) (O : AOk (n + 1) A) {f : Addr} {name qual : Str} {params : Arguments} {body : List Stmt} {scope : Scope} {dV kV doc pm cdv ct oc : Value} {an od : Option Addr} {osl : Array (Option Value)}
    {pos : List Value} {kw : List (Str × Value)} (binds : List (Str × Value)) (ps xs gs' : List Str) {Q : Value → Heap → Prop}
    (ho : K.lookup f = some ⟨oc, od, .func (fnOf name qual params body scope dV kV doc pm an cdv ct), osl⟩) (hcd : codeIn K cdv qual = true)
    (hb : ∀ s : Shared, s.heap = h → BindsTo s (fnOf name qual params body scope dV kV doc pm an cdv ct) ⟨pos, kw⟩ binds)
    (hps : binds.map (·.1) = ps) (hchk : frameOk scope ps xs gs' = true)
    (x : ∀ env' A' h₁ X, AOk n A' → Here K w H0 env' gs' (startL binds xs) h₁ (p :: q :: r :: u :: v :: X :: l) →
      (∀ ls'' h' p' q' r' u' v' l', Here K w H0 env' gs' ls'' h' (p' :: q' :: r' :: u' :: v' :: X :: l') → Here K w H0 env gs ls h' (p' :: q' :: r' :: u' :: v' :: l')) →
      W w A' (execs body env') (fun fl h' => Q (match fl with | .ret v => v | _ => .none) h') h₁) :
    W w A (call (.ref f) pos kw) Q h := by
  refine W_call (WC_fn D O ho hcd hb hps hchk fun env' A' h₁ X O' D' back => x env' A' h₁ X O' (D'.perm (List.perm_middle (l₁ := [p, q, r, u, v])).symm) fun ls'' h' p' q' r' u' v' l' D2 => back ls'' h' _ (D2.perm (List.perm_middle (l₁ := [p', q', r', u', v']))))
end
end

-- FObj
section
open PySem PySem.W PySem.Calls PyProof.Rows Builtin Builtin.ObjectAttr Builtin.Getset_descriptor

section
variable {K : Frag} {w : World} {A : Around} {H0 h : Heap} {env : Env} {gs : List Str} {ls ls' : List (Str × Option Value)} {l : List (Addr × Obj)} {pos : Pos}

-- ints
section
variable {a b : Int} {t u : Tok}
theorem W_add {Q : Value → Heap → Prop} (q : ∀ t, Q (.int (a + b) t) h) : W w A (binaryOp .Add (.int a t) (.int b u)) Q h := W_any fun s e => PyProof.Rows.add_int ⟨⟨rfl, rfl⟩, e ▸ q _⟩
theorem W_sub {Q : Value → Heap → Prop} (q : ∀ t, Q (.int (a - b) t) h) : W w A (binaryOp .Sub (.int a t) (.int b u)) Q h := W_any fun s e => PyProof.Rows.sub_int ⟨⟨rfl, rfl⟩, e ▸ q _⟩
theorem W_mul {Q : Value → Heap → Prop} (hm : IntMulOk a b) (q : ∀ t, Q (.int (a * b) t) h) : W w A (binaryOp .Mult (.int a t) (.int b u)) Q h := W_any fun s e => PyProof.Rows.mul_int ⟨⟨rfl, rfl⟩, e ▸ q _⟩ hm
theorem W_mod {Q : Value → Heap → Prop} (hb : b ≠ 0) (q : ∀ t, Q (.int (a.fmod b) t) h) : W w A (binaryOp .Mod (.int a t) (.int b u)) Q h := W_any fun s e => PyProof.Rows.mod_int hb ⟨⟨rfl, rfl⟩, e ▸ q _⟩
theorem W_and {Q : Value → Heap → Prop} (q : ∀ t, Q (.int (Builtin.bitAnd a b) t) h) : W w A (binaryOp .BitAnd (.int a t) (.int b u)) Q h := W_any fun s e => PyProof.Rows.and_int ⟨⟨rfl, rfl⟩, e ▸ q _⟩
theorem W_iadd {Q : Value → Heap → Prop} (q : ∀ t, Q (.int (a + b) t) h) : W w A (inplaceOp .Add (.int a t) (.int b u)) Q h := W_any fun s e => PyProof.Rows.iadd_int ⟨⟨rfl, rfl⟩, e ▸ q _⟩
theorem W_isub {Q : Value → Heap → Prop} (q : ∀ t, Q (.int (a - b) t) h) : W w A (inplaceOp .Sub (.int a t) (.int b u)) Q h := W_any fun s e => PyProof.Rows.isub_int ⟨⟨rfl, rfl⟩, e ▸ q _⟩
theorem W_imul {Q : Value → Heap → Prop} (hm : IntMulOk a b) (q : ∀ t, Q (.int (a * b) t) h) : W w A (inplaceOp .Mult (.int a t) (.int b u)) Q h := W_any fun s e => PyProof.Rows.imul_int ⟨⟨rfl, rfl⟩, e ▸ q _⟩ hm
theorem W_iand {Q : Value → Heap → Prop} (q : ∀ t, Q (.int (Builtin.bitAnd a b) t) h) : W w A (inplaceOp .BitAnd (.int a t) (.int b u)) Q h := W_any fun s e => PyProof.Rows.iand_int ⟨⟨rfl, rfl⟩, e ▸ q _⟩
theorem W_neg {Q : Value → Heap → Prop} (q : ∀ t, Q (.int (-a) t) h) : W w A (unaryOp .USub (.int a t)) Q h := W_any fun s e => PyProof.Rows.neg_int ⟨⟨rfl, rfl⟩, e ▸ q _⟩
theorem W_inv {Q : Value → Heap → Prop} (q : ∀ t, Q (.int (Builtin.bitNot a) t) h) : W w A (unaryOp .Invert (.int a t)) Q h := W_any fun s e => PyProof.Rows.invert_int ⟨⟨rfl, rfl⟩, e ▸ q _⟩
theorem W_pow {Q : Value → Heap → Prop} (hb : 0 ≤ b) (hb2 : b ≤ 1000000) (ha : a.natAbs < 2 ^ 64) (q : ∀ t, Q (.int (a ^ b.toNat) t) h) : W w A (binaryOp .Pow (.int a t) (.int b u)) Q h := W_any fun s e => PyProof.Rows.pow_int_small hb hb2 ha ⟨⟨rfl, rfl⟩, e ▸ q _⟩
theorem W_fdiv {Q : Value → Heap → Prop} (hb : b ≠ 0) (hp : Builtin.divisionGoesByPylong a b = false) (q : ∀ t, Q (.int (a.fdiv b) t) h) : W w A (binaryOp .FloorDiv (.int a t) (.int b u)) Q h :=
  W_any fun s e => PyProof.Rows.floordiv_int hb ⟨⟨rfl, rfl⟩, e ▸ q _⟩ (.inl hp)
theorem W_eq {Q : Value → Heap → Prop} (q : Q (.bool (a == b)) h) : W w A (compareOp .Eq (.int a t) (.int b u)) Q h := W_any fun s e => PyProof.Rows.eq_int ⟨⟨rfl, rfl⟩, e ▸ q⟩
theorem W_ne {Q : Value → Heap → Prop} (q : Q (.bool (a != b)) h) : W w A (compareOp .NotEq (.int a t) (.int b u)) Q h := W_any fun s e => PyProof.Rows.ne_int ⟨⟨rfl, rfl⟩, e ▸ q⟩
theorem W_lt {Q : Value → Heap → Prop} (q : Q (.bool (decide (a < b))) h) : W w A (compareOp .Lt (.int a t) (.int b u)) Q h := W_any fun s e => PyProof.Rows.lt_int ⟨⟨rfl, rfl⟩, e ▸ q⟩
theorem W_le {Q : Value → Heap → Prop} (q : Q (.bool (decide (a ≤ b))) h) : W w A (compareOp .LtE (.int a t) (.int b u)) Q h := W_any fun s e => PyProof.Rows.le_int ⟨⟨rfl, rfl⟩, e ▸ q⟩
theorem W_gt {Q : Value → Heap → Prop} (q : Q (.bool (decide (b < a))) h) : W w A (compareOp .Gt (.int a t) (.int b u)) Q h := W_any fun s e => PyProof.Rows.gt_int ⟨⟨rfl, rfl⟩, e ▸ q⟩
theorem W_ge {Q : Value → Heap → Prop} (q : Q (.bool (decide (b ≤ a))) h) : W w A (compareOp .GtE (.int a t) (.int b u)) Q h := W_any fun s e => PyProof.Rows.ge_int ⟨⟨rfl, rfl⟩, e ▸ q⟩
theorem W_truthyI {Q : Bool → Heap → Prop} (q : Q (a != 0) h) : W w A (truthy (.int a t)) Q h := W_any fun s e => PySem.P.truthy_int ⟨⟨rfl, rfl⟩, e ▸ q⟩
theorem W_truthyN {Q : Bool → Heap → Prop} (q : Q false h) : W w A (truthy .none) Q h := fun _ _ s _ _ e => ⟨Rest.refl s, e ▸ q⟩
theorem W_is {v : Value} {Q : Value → Heap → Prop} (q : Q (.bool (v == .none)) h) : W w A (compareOp .Is v .none) Q h := W_any fun s e => is_none ⟨Rest.refl s, e ▸ q⟩
theorem W_isNot {v : Value} {Q : Value → Heap → Prop} (q : Q (.bool (!(v == .none))) h) : W w A (compareOp .IsNot v .none) Q h := W_any fun s e => isNot_none ⟨Rest.refl s, e ▸ q⟩
end

-- an object of a class, its own dict empty
def inst (C dx : Addr) (sl : Array (Option Value)) : Obj := { cls := .ref C, dict := some dx, data := .plain, slots := sl }
theorem instAt {b C dx : Addr} {sl : Array (Option Value)} (hb : h.get? b = some (inst C dx sl)) (hd : h.get? dx = some emptyD) : InstAt h b (inst C dx sl) C (some emptyD) := ⟨hb, rfl, rfl, hd⟩
/-- b is an object of the class C, its slots are sl -/
structure InstK (h : Heap) (b C : Addr) (sl : Array (Option Value)) : Prop where
  ex : ∃ dx, h.get? b = some (inst C dx sl) ∧ h.get? dx = some emptyD
theorem Here.dict0 {b C dx : Addr} {sl : Array (Option Value)} (D : Here K w H0 env gs ls h ((b, inst C dx sl) :: l)) : h.get? dx = some emptyD := D.led.keep _ _ ((D.led.new _ (.head _)).d rfl dx rfl)
theorem Here.inst0 {b C dx : Addr} {sl : Array (Option Value)} (D : Here K w H0 env gs ls h ((b, inst C dx sl) :: l)) : InstK h b C sl := ⟨dx, D.led.own _ (.head _), D.dict0⟩

structure ClsK (K : Frag) (C : Addr) : Prop where
  hg : plainGet K C "" = true
  hc : isClsIn K C = true
  hs : findIn K (.ref C) "__setattr__" = some (some (.builtin "object.__setattr__"))
  po : plainOver K C = true
structure SlotK (K : Frag) (C : Addr) (name : Str) (p : Addr) (i : Nat) : Prop where
  cls : ClsK K C
  ha : findIn K (.ref C) name = some (some (.ref p))
  hn : specialIn K (.ref p) "__get__" = some (some (.builtin "member_descriptor.__get__"))
  ht : takesIn K (.ref p) = some true
  hp : slotIn K p C = some i
  hT : typeIn K (.ref p) = some (.type "member_descriptor")
  hi : i < 1000
theorem SlotK.tk {C p : Addr} {name : Str} {i : Nat} (S : SlotK K C name p i) : takerIn K C name = some (some (.ref p)) := by
  unfold takerIn
  rw [S.ha, Option.bind_some]
  show (takesIn K (.ref p)).map _ = _
  rw [S.ht]; rfl
theorem findObj_slot {C : Addr} {name : Str} {a g : Value} (hc : (clsIn K C).isSome = true) (ha : findIn K (.ref C) name = some (some a)) (hg : specialIn K a "__get__" = some (some g)) (ht : takesIn K a = some true) : findObj K C (some emptyD) name = some (.bind g a) := by
  obtain ⟨cd, hc⟩ := Option.isSome_iff_exists.mp hc
  unfold findObj
  rw [hc, Option.bind_some, ha, Option.bind_some]
  simp [hg, ht]
theorem W_getSlot {b C p : Addr} {i : Nat} {name : Str} {v : Value} {e : Bool} {sl : Array (Option Value)} {Q : Value → Heap → Prop} (X : K.In h) (S : SlotK K C name p i) (hb : InstK h b C sl) (hv : (sl[i]?).join = some v) (hh : handedIn v = true)
    (q : Q v h) : W w A (getAttr (.ref b) name e) Q h := by
  obtain ⟨dx, hb, hd⟩ := hb.ex
  refine W_any fun s e => ?_
  subst e
  exact get_bind X (instAt hb hd) (plainGet_of S.cls.hg).1 (findObj_slot S.cls.hc S.ha S.hn S.ht) (plainGet_of S.cls.hg).2
    (wpAny_call (slot_get (s := { s with toks := s.toks + 1 }) X (instAt hb hd) S.hp hv (handed_on hh ⟨⟨rfl, rfl⟩, q⟩)))

theorem slot_store {prog : Program} {s : Shared} {x C p : Addr} {ox : Obj} {od : Option Obj} {v : Value} {i : Nat} {R : Result → Shared → Prop} (X : K.In s.heap) (I : InstAt s.heap x ox C od) (hp : slotIn K p C = some i) (hi : i < 1000)
    (q : R (.ok (.ret .none)) { s with heap := s.heap.update x fun o => { o with slots := (o.slots ++ Array.replicate (i + 1 - o.slots.size) none).setIfInBounds i (some v) } }) :
    codeAny (model prog w) A (.call (.builtin "member_descriptor.__set__") ⟨[.ref p, .ref x, v], []⟩) R s := by
  obtain ⟨n, tn, owner, behind, tb, d, sl, cd, ho, hc, hm, hb, rfl⟩ := slot_of X hp
  obtain ⟨hh, g, dr, t, os⟩ := s
  have L0 := I.type (M := model prog w)
  have L1 := looks_mroIn (M := model prog w) X hm
  have L2 : Looks (model prog w) hh (Slots.slotNamesOf (.ref C)) cd.slotNames := (looks_clsIn X hc).andThen .now
  have hx := I.at_
  dsimp only at ho hx L0 L1
  have f0 := looks_field (M := model prog w) ho 0 (v := .str n tn) rfl
  have f1 := looks_field (M := model prog w) ho 1 (v := owner) rfl
  have f3 := looks_field (M := model prog w) ho 3 (v := .builtin "proto.slot#set") rfl
  have f4 := looks_field (M := model prog w) ho 4 (v := .int behind tb) rfl
  refine codeAny_call_builtin KF.slot_mset.plain KF.entry_mset (KF.slot_mset.check _ _ _ _ _ _ _ _ ⟨_, ho, rfl⟩ (KF.args_mset _ _ _) ?_)
  unfold Builtin.«member_descriptor.__set__» descrSet descrStoreThrough descrCheckInstance descrNameAndClass isInstance
  have f5 : Looks (model prog w) hh (descrItself (.ref p)) [.ref p] := ((Looks.ld (part := none) ho).andThen .now).andThen (Looks.of_pure (by kernel_rfl))
  repeat lk
  refine ⟨Code.quiet_builtin _ (by decide +kernel), codeAny_builtin KF.entry_slotset ?_⟩
  unfold Builtin.«proto.slot#set» Slots.target
  repeat lk
  rw [if_neg hb]
  refine wpAny_pure (wpAny_bind ?_)
  unfold setSlotAt
  dsimp only
  rw [if_neg (by rw [sizeLine_eq]; omega)]
  exact wpAny_updatePart hx (wpAny_pure q)
theorem W_setSlot {b C dx p : Addr} {i : Nat} {name : Str} {v : Value} {sl : Array (Option Value)} {ob' : Obj} {Q : Unit → Heap → Prop} (D : Here K w H0 env gs ls h ((b, inst C dx sl) :: l)) (S : SlotK K C name p i)
    (e : inst C dx ((sl ++ Array.replicate (i + 1 - sl.size) none).setIfInBounds i (some v)) = ob')
    (q : ∀ h', Here K w H0 env gs ls h' ((b, ob') :: l) → Q () h') : W w A (setAttr (.ref b) name v) Q h := by
  have hb := D.led.own (b, inst C dx sl) (.head _)
  have hd := D.dict0
  refine W_any fun s e' => ?_
  subst e'
  refine set_plain D.kin (instAt hb hd) S.cls.hs (osa_descr (s := { s with toks := s.toks + 1 }) KF.slot_mset D.kin (instAt hb hd) S.cls.po S.tk S.hT (slot_store (s := { s with toks := s.toks + 1 }) D.kin (instAt hb hd) S.hp S.hi ⟨⟨rfl, rfl⟩, q _ ?_⟩))
  subst e
  exact D.with fun X E => E.upd1 (f := fun o => { o with slots := (o.slots ++ Array.replicate (i + 1 - o.slots.size) none).setIfInBounds i (some v) }) rfl

structure MethK (K : Frag) (C : Addr) (name : Str) (f : Addr) : Prop where
  cls : ClsK K C
  hf : findIn K (.ref C) name = some (some (.ref f))
  ht : isFn K (.ref f) = true
  hk : keepIn K (.ref f) = true
theorem W_method {b C f : Addr} {name : Str} {pl : Sem Bool} {sl : Array (Option Value)} {Q : Value × List Value → Heap → Prop} (X : K.In h) (S : MethK K C name f) (hb : InstK h b C sl) (q : Q (.ref f, [.ref b]) h) :
    W w A (getMethod (.ref b) name pl) Q h := by
  obtain ⟨dx, hb, hd⟩ := hb.ex
  refine W_any fun s e => ?_
  subst e
  exact method_fn X (instAt hb hd) (plainGet_of S.cls.hg).1 (plainGet_of S.cls.hg).2 S.hf (beq_iff_eq.mp S.ht) rfl ⟨Rest.refl s, q⟩
theorem kept_fn {f : Value} (hk : keepIn K f = true) (X : K.In h) : ∃ k, Looks (MW w) h (keeperOf f) k := let ⟨k, _, L⟩ := looks_keep (M := MW w) hk X; ⟨k, L⟩

/-- self.name(args ..), self a name of the frame's -/
theorem W_mcall {b C f : Addr} {x : Str} {p apos : Pos} {name : Str} {e : Expr} {rest : List Expr} {sl : Array (Option Value)} {Q : Value → Heap → Prop} (D : Here K w H0 env gs ls h l) (hx : (x, some (.ref b)) ∈ ls) (hb : InstK h b C sl) (S : MethK K C name f)
    (y : W w A (spliced (backTo pos (starEach (e :: rest) env))) (fun vs h₂ => K.In h₂ ∧ W w A (call (.ref f) (.ref b :: vs)) Q h₂) h)
    (hf : methodCallForm ((e :: rest).length + ([] : List Keyword).length) (backTo pos (starEach (e :: rest) env)) (backToKw pos (keywordEach [] env)) = true := by rfl) (hl : (apos.endLine == pos.line) = true := by rfl)
    (he : starEach (e :: rest) env = (false, eval e env) :: starEach rest env := by rfl) :
    W w A (eval (.Call (.Attribute (.Name x p) name apos) (e :: rest) [] pos) env) Q h := by
  refine W_CallAttr (W_local D hx (W_method D.kin S hb ?_)) rfl hf hl
  exact W_callWith (W_argsPlain (W_mono y fun vs h₂ z => ⟨kept_fn S.hk z.1, z.2⟩) he)
theorem W_mcall0 {b C f : Addr} {x : Str} {p apos : Pos} {name : Str} {sl : Array (Option Value)} {Q : Value → Heap → Prop} (D : Here K w H0 env gs ls h l) (hx : (x, some (.ref b)) ∈ ls) (hb : InstK h b C sl) (S : MethK K C name f)
    (y : W w A (call (.ref f) [.ref b]) Q h) (hl : (apos.endLine == pos.line) = true := by rfl) :
    W w A (eval (.Call (.Attribute (.Name x p) name apos) [] [] pos) env) Q h := by
  refine W_CallAttr (W_local D hx (W_method D.kin S hb ?_)) rfl rfl hl
  exact W_callWith (W_args0 ⟨kept_fn S.hk D.kin, y⟩)
/-- f(args ..), f a def of the top -/
theorem W_fcall {f : Addr} {x : Str} {p : Pos} {e : Expr} {rest : List Expr} {Q : Value → Heap → Prop} (D : Here K w H0 env gs ls h l) (hx : x ∈ gs) (hg : nsIn K mainGlobals x = some (some (.ref f))) (hk : keepIn K (.ref f) = true)
    (y : W w A (spliced (backTo pos (starEach (e :: rest) env))) (fun vs h₂ => K.In h₂ ∧ W w A (call (.ref f) vs) Q h₂) h) (he : starEach (e :: rest) env = (false, eval e env) :: starEach rest env := by rfl) :
    W w A (eval (.Call (.Name x p) (e :: rest) [] pos) env) Q h := by
  refine W_CallName (W_global D hx hg ?_)
  exact W_callWith (W_argsPlain (W_mono y fun vs h₂ z => ⟨kept_fn hk z.1, z.2⟩) he)
theorem W_fcall0 {f : Addr} {x : Str} {p : Pos} {Q : Value → Heap → Prop} (D : Here K w H0 env gs ls h l) (hx : x ∈ gs) (hg : nsIn K mainGlobals x = some (some (.ref f))) (hk : keepIn K (.ref f) = true)
    (y : W w A (call (.ref f) []) Q h) : W w A (eval (.Call (.Name x p) [] [] pos) env) Q h := by
  refine W_CallName (W_global D hx hg ?_)
  exact W_callWith (W_args0 ⟨kept_fn hk D.kin, y⟩)
/-- a built-in called by its name -/
theorem W_bcall {i : String} {x : Str} {p : Pos} {e : Expr} {rest : List Expr} {Q : Value → Heap → Prop} (D : Here K w H0 env gs ls h l) (hx : x ∈ gs) (hg : nsIn K mainGlobals x = some none) (hv : bootBuiltins x = some (.builtin i)) (hn : x ≠ "__name__")
    (y : W w A (spliced (backTo pos (starEach (e :: rest) env))) (fun vs h₂ => W w A (call (.builtin i) vs) Q h₂) h) (he : starEach (e :: rest) env = (false, eval e env) :: starEach rest env := by rfl) :
    W w A (eval (.Call (.Name x p) (e :: rest) [] pos) env) Q h := by
  refine W_CallName (W_builtin D hx hg hv hn ?_)
  exact W_callWith (W_argsPlain (W_mono y fun vs h₂ z => ⟨⟨.machine, Looks.of_pure rfl⟩, z⟩) he)
theorem W_tcall {i : String} {x : Str} {p : Pos} {e : Expr} {rest : List Expr} {Q : Value → Heap → Prop} (D : Here K w H0 env gs ls h l) (hx : x ∈ gs) (hg : nsIn K mainGlobals x = some none) (hv : bootBuiltins x = some (.type i)) (hn : x ≠ "__name__")
    (y : W w A (spliced (backTo pos (starEach (e :: rest) env))) (fun vs h₂ => W w A (call (.type i) vs) Q h₂) h) (he : starEach (e :: rest) env = (false, eval e env) :: starEach rest env := by rfl) :
    W w A (eval (.Call (.Name x p) (e :: rest) [] pos) env) Q h := by
  refine W_CallName (W_builtin D hx hg hv hn ?_)
  exact W_callWith (W_argsPlain (W_mono y fun vs h₂ z => ⟨⟨.machine, Looks.of_pure rfl⟩, z⟩) he)
end
end

-- FK
section
open PySem PySem.W PySem.Calls PyProof.Rows
theorem filled : PySem.Challenge.rw_bp0003_01 = PySem.Challenge.rw_bp0003_01 ∧ hd.heap_39 = hd.heap_39 := by
  k_fill
  exact ⟨rfl, rfl⟩
theorem cls_B (w : World) : ClsK (hd.heap_39 w.params) 716 := ⟨by k_is, by k_is, by k_is, by k_is⟩
theorem slot_Bytes (w : World) : SlotK (hd.heap_39 w.params) 716 "Bytes" 717 0 := ⟨cls_B w, by k_is, by k_is, by k_is, by k_is, by k_is, by decide⟩
theorem slot_current_vtable (w : World) : SlotK (hd.heap_39 w.params) 716 "current_vtable" 718 1 := ⟨cls_B w, by k_is, by k_is, by k_is, by k_is, by k_is, by decide⟩
theorem slot_finished (w : World) : SlotK (hd.heap_39 w.params) 716 "finished" 719 2 := ⟨cls_B w, by k_is, by k_is, by k_is, by k_is, by k_is, by decide⟩
theorem slot_forceDefaults (w : World) : SlotK (hd.heap_39 w.params) 716 "forceDefaults" 720 3 := ⟨cls_B w, by k_is, by k_is, by k_is, by k_is, by k_is, by decide⟩
theorem slot_head (w : World) : SlotK (hd.heap_39 w.params) 716 "head" 721 4 := ⟨cls_B w, by k_is, by k_is, by k_is, by k_is, by k_is, by decide⟩
theorem slot_minalign (w : World) : SlotK (hd.heap_39 w.params) 716 "minalign" 722 5 := ⟨cls_B w, by k_is, by k_is, by k_is, by k_is, by k_is, by decide⟩
theorem slot_nested (w : World) : SlotK (hd.heap_39 w.params) 716 "nested" 723 6 := ⟨cls_B w, by k_is, by k_is, by k_is, by k_is, by k_is, by decide⟩
theorem slot_objectEnd (w : World) : SlotK (hd.heap_39 w.params) 716 "objectEnd" 724 7 := ⟨cls_B w, by k_is, by k_is, by k_is, by k_is, by k_is, by decide⟩
theorem slot_sharedStrings (w : World) : SlotK (hd.heap_39 w.params) 716 "sharedStrings" 725 8 := ⟨cls_B w, by k_is, by k_is, by k_is, by k_is, by k_is, by decide⟩
theorem slot_vectorNumElems (w : World) : SlotK (hd.heap_39 w.params) 716 "vectorNumElems" 726 9 := ⟨cls_B w, by k_is, by k_is, by k_is, by k_is, by k_is, by decide⟩
theorem slot_vtables (w : World) : SlotK (hd.heap_39 w.params) 716 "vtables" 727 10 := ⟨cls_B w, by k_is, by k_is, by k_is, by k_is, by k_is, by decide⟩
theorem meth_Clear (w : World) : MethK (hd.heap_39 w.params) 716 "Clear" 337 := ⟨cls_B w, by k_is, by k_is, by k_is⟩
theorem meth_Output (w : World) : MethK (hd.heap_39 w.params) 716 "Output" 344 := ⟨cls_B w, by k_is, by k_is, by k_is⟩
theorem meth_StartObject (w : World) : MethK (hd.heap_39 w.params) 716 "StartObject" 351 := ⟨cls_B w, by k_is, by k_is, by k_is⟩
theorem meth_WriteVtable (w : World) : MethK (hd.heap_39 w.params) 716 "WriteVtable" 358 := ⟨cls_B w, by k_is, by k_is, by k_is⟩
theorem meth_EndObject (w : World) : MethK (hd.heap_39 w.params) 716 "EndObject" 365 := ⟨cls_B w, by k_is, by k_is, by k_is⟩
theorem meth_GrowByteBuffer (w : World) : MethK (hd.heap_39 w.params) 716 "GrowByteBuffer" 372 := ⟨cls_B w, by k_is, by k_is, by k_is⟩
theorem meth_Head (w : World) : MethK (hd.heap_39 w.params) 716 "Head" 379 := ⟨cls_B w, by k_is, by k_is, by k_is⟩
theorem meth_Offset (w : World) : MethK (hd.heap_39 w.params) 716 "Offset" 386 := ⟨cls_B w, by k_is, by k_is, by k_is⟩
theorem meth_Pad (w : World) : MethK (hd.heap_39 w.params) 716 "Pad" 393 := ⟨cls_B w, by k_is, by k_is, by k_is⟩
theorem meth_Prep (w : World) : MethK (hd.heap_39 w.params) 716 "Prep" 400 := ⟨cls_B w, by k_is, by k_is, by k_is⟩
theorem meth_PrependSOffsetTRelative (w : World) : MethK (hd.heap_39 w.params) 716 "PrependSOffsetTRelative" 407 := ⟨cls_B w, by k_is, by k_is, by k_is⟩
theorem meth_PrependUOffsetTRelative (w : World) : MethK (hd.heap_39 w.params) 716 "PrependUOffsetTRelative" 414 := ⟨cls_B w, by k_is, by k_is, by k_is⟩
theorem meth_StartVector (w : World) : MethK (hd.heap_39 w.params) 716 "StartVector" 421 := ⟨cls_B w, by k_is, by k_is, by k_is⟩
theorem meth_EndVector (w : World) : MethK (hd.heap_39 w.params) 716 "EndVector" 429 := ⟨cls_B w, by k_is, by k_is, by k_is⟩
theorem meth_CreateSharedString (w : World) : MethK (hd.heap_39 w.params) 716 "CreateSharedString" 436 := ⟨cls_B w, by k_is, by k_is, by k_is⟩
theorem meth_CreateString (w : World) : MethK (hd.heap_39 w.params) 716 "CreateString" 443 := ⟨cls_B w, by k_is, by k_is, by k_is⟩
theorem meth_assertNested (w : World) : MethK (hd.heap_39 w.params) 716 "assertNested" 457 := ⟨cls_B w, by k_is, by k_is, by k_is⟩
theorem meth_assertNotNested (w : World) : MethK (hd.heap_39 w.params) 716 "assertNotNested" 464 := ⟨cls_B w, by k_is, by k_is, by k_is⟩
theorem meth_Slot (w : World) : MethK (hd.heap_39 w.params) 716 "Slot" 478 := ⟨cls_B w, by k_is, by k_is, by k_is⟩
theorem meth_iFinish (w : World) : MethK (hd.heap_39 w.params) 716 "_Builder__Finish" 486 := ⟨cls_B w, by k_is, by k_is, by k_is⟩
theorem meth_Finish (w : World) : MethK (hd.heap_39 w.params) 716 "Finish" 494 := ⟨cls_B w, by k_is, by k_is, by k_is⟩
theorem meth_FinishSizePrefixed (w : World) : MethK (hd.heap_39 w.params) 716 "FinishSizePrefixed" 502 := ⟨cls_B w, by k_is, by k_is, by k_is⟩
theorem meth_Prepend (w : World) : MethK (hd.heap_39 w.params) 716 "Prepend" 509 := ⟨cls_B w, by k_is, by k_is, by k_is⟩
theorem meth_PrependSlot (w : World) : MethK (hd.heap_39 w.params) 716 "PrependSlot" 516 := ⟨cls_B w, by k_is, by k_is, by k_is⟩
theorem meth_PrependBoolSlot (w : World) : MethK (hd.heap_39 w.params) 716 "PrependBoolSlot" 523 := ⟨cls_B w, by k_is, by k_is, by k_is⟩
theorem meth_PrependUint8Slot (w : World) : MethK (hd.heap_39 w.params) 716 "PrependUint8Slot" 537 := ⟨cls_B w, by k_is, by k_is, by k_is⟩
theorem meth_PrependUint16Slot (w : World) : MethK (hd.heap_39 w.params) 716 "PrependUint16Slot" 544 := ⟨cls_B w, by k_is, by k_is, by k_is⟩
theorem meth_PrependUint32Slot (w : World) : MethK (hd.heap_39 w.params) 716 "PrependUint32Slot" 551 := ⟨cls_B w, by k_is, by k_is, by k_is⟩
theorem meth_PrependUint64Slot (w : World) : MethK (hd.heap_39 w.params) 716 "PrependUint64Slot" 558 := ⟨cls_B w, by k_is, by k_is, by k_is⟩
theorem meth_PrependInt8Slot (w : World) : MethK (hd.heap_39 w.params) 716 "PrependInt8Slot" 565 := ⟨cls_B w, by k_is, by k_is, by k_is⟩
theorem meth_PrependInt16Slot (w : World) : MethK (hd.heap_39 w.params) 716 "PrependInt16Slot" 572 := ⟨cls_B w, by k_is, by k_is, by k_is⟩
theorem meth_PrependInt32Slot (w : World) : MethK (hd.heap_39 w.params) 716 "PrependInt32Slot" 579 := ⟨cls_B w, by k_is, by k_is, by k_is⟩
theorem meth_PrependInt64Slot (w : World) : MethK (hd.heap_39 w.params) 716 "PrependInt64Slot" 586 := ⟨cls_B w, by k_is, by k_is, by k_is⟩
theorem meth_PrependUOffsetTRelativeSlot (w : World) : MethK (hd.heap_39 w.params) 716 "PrependUOffsetTRelativeSlot" 593 := ⟨cls_B w, by k_is, by k_is, by k_is⟩
theorem meth_PrependBool (w : World) : MethK (hd.heap_39 w.params) 716 "PrependBool" 607 := ⟨cls_B w, by k_is, by k_is, by k_is⟩
theorem meth_PrependUint8 (w : World) : MethK (hd.heap_39 w.params) 716 "PrependUint8" 621 := ⟨cls_B w, by k_is, by k_is, by k_is⟩
theorem meth_PrependUint16 (w : World) : MethK (hd.heap_39 w.params) 716 "PrependUint16" 628 := ⟨cls_B w, by k_is, by k_is, by k_is⟩
theorem meth_PrependUint32 (w : World) : MethK (hd.heap_39 w.params) 716 "PrependUint32" 635 := ⟨cls_B w, by k_is, by k_is, by k_is⟩
theorem meth_PrependUint64 (w : World) : MethK (hd.heap_39 w.params) 716 "PrependUint64" 642 := ⟨cls_B w, by k_is, by k_is, by k_is⟩
theorem meth_PrependInt8 (w : World) : MethK (hd.heap_39 w.params) 716 "PrependInt8" 649 := ⟨cls_B w, by k_is, by k_is, by k_is⟩
theorem meth_PrependInt16 (w : World) : MethK (hd.heap_39 w.params) 716 "PrependInt16" 656 := ⟨cls_B w, by k_is, by k_is, by k_is⟩
theorem meth_PrependInt32 (w : World) : MethK (hd.heap_39 w.params) 716 "PrependInt32" 663 := ⟨cls_B w, by k_is, by k_is, by k_is⟩
theorem meth_PrependInt64 (w : World) : MethK (hd.heap_39 w.params) 716 "PrependInt64" 670 := ⟨cls_B w, by k_is, by k_is, by k_is⟩
theorem meth_ForceDefaults (w : World) : MethK (hd.heap_39 w.params) 716 "ForceDefaults" 677 := ⟨cls_B w, by k_is, by k_is, by k_is⟩
theorem meth_PrependVOffsetT (w : World) : MethK (hd.heap_39 w.params) 716 "PrependVOffsetT" 684 := ⟨cls_B w, by k_is, by k_is, by k_is⟩
theorem meth_Place (w : World) : MethK (hd.heap_39 w.params) 716 "Place" 691 := ⟨cls_B w, by k_is, by k_is, by k_is⟩
theorem meth_PlaceSOffsetT (w : World) : MethK (hd.heap_39 w.params) 716 "PlaceSOffsetT" 705 := ⟨cls_B w, by k_is, by k_is, by k_is⟩
theorem meth_PlaceUOffsetT (w : World) : MethK (hd.heap_39 w.params) 716 "PlaceUOffsetT" 712 := ⟨cls_B w, by k_is, by k_is, by k_is⟩
end

-- FSt
section
open PySem PySem.W PySem.Calls PyProof.Rows

/-- what a builder's slots hold -/
structure BS where
  B : Addr
  cv : Option Addr
  fin : Bool
  force : Bool
  head : Int
  ht : Tok
  ma : Int
  mt : Tok
  nested : Bool
  oe : Option (Int × Tok)
  ss : Option Addr
  vne : Option (Option (Int × Tok))
  vt : Addr
  dx : Addr
def vAddr : Option Addr → Value
  | none => .none
  | some a => .ref a
def vInt : Option (Int × Tok) → Value
  | none => .none
  | some (i, t) => .int i t
theorem handed_vAddr (x : Option Addr) : handedIn (vAddr x) = true := by cases x <;> rfl
theorem handed_vInt (x : Option (Int × Tok)) : handedIn (vInt x) = true := by cases x <;> rfl
def bsl (st : BS) : Array (Option Value) := #[some (.ref st.B), some (vAddr st.cv), some (.bool st.fin), some (.bool st.force), some (.int st.head st.ht), some (.int st.ma st.mt),
  some (.bool st.nested), some (vInt st.oe), some (vAddr st.ss), st.vne.map vInt, some (.ref st.vt)]
abbrev bobj (st : BS) : Obj := inst 716 st.dx (bsl st)
def ba (buf : Array UInt8) : Obj := { cls := .type "bytearray", data := .bytearray buf 0 }

section
variable {w : World} {A : Around} {H0 h : Heap} {env : Env} {gs : List Str} {ls : List (Str × Option Value)} {l : List (Addr × Obj)} {b : Addr} {st : BS} {e : Bool}
theorem get_Bytes {Q : Value → Heap → Prop} (D : Here (hd.heap_39 w.params) w H0 env gs ls h ((b, bobj st) :: l)) (q : Q (.ref st.B) h) : W w A (getAttr (.ref b) "Bytes" e) Q h := W_getSlot D.kin (slot_Bytes w) (Here.inst0 D) rfl rfl q
theorem get_cv {Q : Value → Heap → Prop} (D : Here (hd.heap_39 w.params) w H0 env gs ls h ((b, bobj st) :: l)) (q : Q (vAddr st.cv) h) : W w A (getAttr (.ref b) "current_vtable" e) Q h := W_getSlot D.kin (slot_current_vtable w) (Here.inst0 D) rfl (handed_vAddr _) q
theorem get_fin {Q : Value → Heap → Prop} (D : Here (hd.heap_39 w.params) w H0 env gs ls h ((b, bobj st) :: l)) (q : Q (.bool st.fin) h) : W w A (getAttr (.ref b) "finished" e) Q h := W_getSlot D.kin (slot_finished w) (Here.inst0 D) rfl rfl q
theorem get_force {Q : Value → Heap → Prop} (D : Here (hd.heap_39 w.params) w H0 env gs ls h ((b, bobj st) :: l)) (q : Q (.bool st.force) h) : W w A (getAttr (.ref b) "forceDefaults" e) Q h := W_getSlot D.kin (slot_forceDefaults w) (Here.inst0 D) rfl rfl q
theorem get_head {Q : Value → Heap → Prop} (D : Here (hd.heap_39 w.params) w H0 env gs ls h ((b, bobj st) :: l)) (q : Q (.int st.head st.ht) h) : W w A (getAttr (.ref b) "head" e) Q h := W_getSlot D.kin (slot_head w) (Here.inst0 D) rfl rfl q
theorem get_ma {Q : Value → Heap → Prop} (D : Here (hd.heap_39 w.params) w H0 env gs ls h ((b, bobj st) :: l)) (q : Q (.int st.ma st.mt) h) : W w A (getAttr (.ref b) "minalign" e) Q h := W_getSlot D.kin (slot_minalign w) (Here.inst0 D) rfl rfl q
theorem get_nested {Q : Value → Heap → Prop} (D : Here (hd.heap_39 w.params) w H0 env gs ls h ((b, bobj st) :: l)) (q : Q (.bool st.nested) h) : W w A (getAttr (.ref b) "nested" e) Q h := W_getSlot D.kin (slot_nested w) (Here.inst0 D) rfl rfl q
theorem get_oe {Q : Value → Heap → Prop} (D : Here (hd.heap_39 w.params) w H0 env gs ls h ((b, bobj st) :: l)) (q : Q (vInt st.oe) h) : W w A (getAttr (.ref b) "objectEnd" e) Q h := W_getSlot D.kin (slot_objectEnd w) (Here.inst0 D) rfl (handed_vInt _) q
theorem get_ss {Q : Value → Heap → Prop} (D : Here (hd.heap_39 w.params) w H0 env gs ls h ((b, bobj st) :: l)) (q : Q (vAddr st.ss) h) : W w A (getAttr (.ref b) "sharedStrings" e) Q h := W_getSlot D.kin (slot_sharedStrings w) (Here.inst0 D) rfl (handed_vAddr _) q
theorem get_vt {Q : Value → Heap → Prop} (D : Here (hd.heap_39 w.params) w H0 env gs ls h ((b, bobj st) :: l)) (q : Q (.ref st.vt) h) : W w A (getAttr (.ref b) "vtables" e) Q h := W_getSlot D.kin (slot_vtables w) (Here.inst0 D) rfl rfl q
theorem get_vne {x : Option (Int × Tok)} {Q : Value → Heap → Prop} (D : Here (hd.heap_39 w.params) w H0 env gs ls h ((b, bobj st) :: l)) (hx : st.vne = some x) (q : Q (vInt x) h) : W w A (getAttr (.ref b) "vectorNumElems" e) Q h :=
  W_getSlot D.kin (slot_vectorNumElems w) (Here.inst0 D) (by show ((st.vne.map vInt) : Option Value) = _; rw [hx]; rfl) (handed_vInt _) q

theorem set_Bytes {B0 : Addr} {cv0 : Option Addr} {fin0 : Bool} {force0 : Bool} {head0 : Int} {ht0 : Tok} {ma0 : Int} {mt0 : Tok} {nested0 : Bool} {oe0 : Option (Int × Tok)} {ss0 : Option Addr} {vne0 : Option (Option (Int × Tok))} {vt0 : Addr} {dx0 : Addr} {a : Addr} {Q : Unit → Heap → Prop} (D : Here (hd.heap_39 w.params) w H0 env gs ls h ((b, bobj ⟨B0, cv0, fin0, force0, head0, ht0, ma0, mt0, nested0, oe0, ss0, vne0, vt0, dx0⟩) :: l)) (q : ∀ h', Here (hd.heap_39 w.params) w H0 env gs ls h' ((b, bobj ⟨a, cv0, fin0, force0, head0, ht0, ma0, mt0, nested0, oe0, ss0, vne0, vt0, dx0⟩) :: l) → Q () h') : W w A (setAttr (.ref b) "Bytes" (.ref a)) Q h := W_setSlot D (slot_Bytes w) rfl q
theorem set_cv {B0 : Addr} {cv0 : Option Addr} {fin0 : Bool} {force0 : Bool} {head0 : Int} {ht0 : Tok} {ma0 : Int} {mt0 : Tok} {nested0 : Bool} {oe0 : Option (Int × Tok)} {ss0 : Option Addr} {vne0 : Option (Option (Int × Tok))} {vt0 : Addr} {dx0 : Addr} {x : Option Addr} {Q : Unit → Heap → Prop} (D : Here (hd.heap_39 w.params) w H0 env gs ls h ((b, bobj ⟨B0, cv0, fin0, force0, head0, ht0, ma0, mt0, nested0, oe0, ss0, vne0, vt0, dx0⟩) :: l)) (q : ∀ h', Here (hd.heap_39 w.params) w H0 env gs ls h' ((b, bobj ⟨B0, x, fin0, force0, head0, ht0, ma0, mt0, nested0, oe0, ss0, vne0, vt0, dx0⟩) :: l) → Q () h') : W w A (setAttr (.ref b) "current_vtable" (vAddr x)) Q h := W_setSlot D (slot_current_vtable w) rfl q
theorem set_fin {B0 : Addr} {cv0 : Option Addr} {fin0 : Bool} {force0 : Bool} {head0 : Int} {ht0 : Tok} {ma0 : Int} {mt0 : Tok} {nested0 : Bool} {oe0 : Option (Int × Tok)} {ss0 : Option Addr} {vne0 : Option (Option (Int × Tok))} {vt0 : Addr} {dx0 : Addr} {x : Bool} {Q : Unit → Heap → Prop} (D : Here (hd.heap_39 w.params) w H0 env gs ls h ((b, bobj ⟨B0, cv0, fin0, force0, head0, ht0, ma0, mt0, nested0, oe0, ss0, vne0, vt0, dx0⟩) :: l)) (q : ∀ h', Here (hd.heap_39 w.params) w H0 env gs ls h' ((b, bobj ⟨B0, cv0, x, force0, head0, ht0, ma0, mt0, nested0, oe0, ss0, vne0, vt0, dx0⟩) :: l) → Q () h') : W w A (setAttr (.ref b) "finished" (.bool x)) Q h := W_setSlot D (slot_finished w) rfl q
theorem set_force {B0 : Addr} {cv0 : Option Addr} {fin0 : Bool} {force0 : Bool} {head0 : Int} {ht0 : Tok} {ma0 : Int} {mt0 : Tok} {nested0 : Bool} {oe0 : Option (Int × Tok)} {ss0 : Option Addr} {vne0 : Option (Option (Int × Tok))} {vt0 : Addr} {dx0 : Addr} {x : Bool} {Q : Unit → Heap → Prop} (D : Here (hd.heap_39 w.params) w H0 env gs ls h ((b, bobj ⟨B0, cv0, fin0, force0, head0, ht0, ma0, mt0, nested0, oe0, ss0, vne0, vt0, dx0⟩) :: l)) (q : ∀ h', Here (hd.heap_39 w.params) w H0 env gs ls h' ((b, bobj ⟨B0, cv0, fin0, x, head0, ht0, ma0, mt0, nested0, oe0, ss0, vne0, vt0, dx0⟩) :: l) → Q () h') : W w A (setAttr (.ref b) "forceDefaults" (.bool x)) Q h := W_setSlot D (slot_forceDefaults w) rfl q
theorem set_head {B0 : Addr} {cv0 : Option Addr} {fin0 : Bool} {force0 : Bool} {head0 : Int} {ht0 : Tok} {ma0 : Int} {mt0 : Tok} {nested0 : Bool} {oe0 : Option (Int × Tok)} {ss0 : Option Addr} {vne0 : Option (Option (Int × Tok))} {vt0 : Addr} {dx0 : Addr} {i : Int} {t : Tok} {Q : Unit → Heap → Prop} (D : Here (hd.heap_39 w.params) w H0 env gs ls h ((b, bobj ⟨B0, cv0, fin0, force0, head0, ht0, ma0, mt0, nested0, oe0, ss0, vne0, vt0, dx0⟩) :: l)) (q : ∀ h', Here (hd.heap_39 w.params) w H0 env gs ls h' ((b, bobj ⟨B0, cv0, fin0, force0, i, t, ma0, mt0, nested0, oe0, ss0, vne0, vt0, dx0⟩) :: l) → Q () h') : W w A (setAttr (.ref b) "head" (.int i t)) Q h := W_setSlot D (slot_head w) rfl q
theorem set_ma {B0 : Addr} {cv0 : Option Addr} {fin0 : Bool} {force0 : Bool} {head0 : Int} {ht0 : Tok} {ma0 : Int} {mt0 : Tok} {nested0 : Bool} {oe0 : Option (Int × Tok)} {ss0 : Option Addr} {vne0 : Option (Option (Int × Tok))} {vt0 : Addr} {dx0 : Addr} {i : Int} {t : Tok} {Q : Unit → Heap → Prop} (D : Here (hd.heap_39 w.params) w H0 env gs ls h ((b, bobj ⟨B0, cv0, fin0, force0, head0, ht0, ma0, mt0, nested0, oe0, ss0, vne0, vt0, dx0⟩) :: l)) (q : ∀ h', Here (hd.heap_39 w.params) w H0 env gs ls h' ((b, bobj ⟨B0, cv0, fin0, force0, head0, ht0, i, t, nested0, oe0, ss0, vne0, vt0, dx0⟩) :: l) → Q () h') : W w A (setAttr (.ref b) "minalign" (.int i t)) Q h := W_setSlot D (slot_minalign w) rfl q
theorem set_nested {B0 : Addr} {cv0 : Option Addr} {fin0 : Bool} {force0 : Bool} {head0 : Int} {ht0 : Tok} {ma0 : Int} {mt0 : Tok} {nested0 : Bool} {oe0 : Option (Int × Tok)} {ss0 : Option Addr} {vne0 : Option (Option (Int × Tok))} {vt0 : Addr} {dx0 : Addr} {x : Bool} {Q : Unit → Heap → Prop} (D : Here (hd.heap_39 w.params) w H0 env gs ls h ((b, bobj ⟨B0, cv0, fin0, force0, head0, ht0, ma0, mt0, nested0, oe0, ss0, vne0, vt0, dx0⟩) :: l)) (q : ∀ h', Here (hd.heap_39 w.params) w H0 env gs ls h' ((b, bobj ⟨B0, cv0, fin0, force0, head0, ht0, ma0, mt0, x, oe0, ss0, vne0, vt0, dx0⟩) :: l) → Q () h') : W w A (setAttr (.ref b) "nested" (.bool x)) Q h := W_setSlot D (slot_nested w) rfl q
theorem set_oe {B0 : Addr} {cv0 : Option Addr} {fin0 : Bool} {force0 : Bool} {head0 : Int} {ht0 : Tok} {ma0 : Int} {mt0 : Tok} {nested0 : Bool} {oe0 : Option (Int × Tok)} {ss0 : Option Addr} {vne0 : Option (Option (Int × Tok))} {vt0 : Addr} {dx0 : Addr} {x : Option (Int × Tok)} {Q : Unit → Heap → Prop} (D : Here (hd.heap_39 w.params) w H0 env gs ls h ((b, bobj ⟨B0, cv0, fin0, force0, head0, ht0, ma0, mt0, nested0, oe0, ss0, vne0, vt0, dx0⟩) :: l)) (q : ∀ h', Here (hd.heap_39 w.params) w H0 env gs ls h' ((b, bobj ⟨B0, cv0, fin0, force0, head0, ht0, ma0, mt0, nested0, x, ss0, vne0, vt0, dx0⟩) :: l) → Q () h') : W w A (setAttr (.ref b) "objectEnd" (vInt x)) Q h := W_setSlot D (slot_objectEnd w) rfl q
theorem set_ss {B0 : Addr} {cv0 : Option Addr} {fin0 : Bool} {force0 : Bool} {head0 : Int} {ht0 : Tok} {ma0 : Int} {mt0 : Tok} {nested0 : Bool} {oe0 : Option (Int × Tok)} {ss0 : Option Addr} {vne0 : Option (Option (Int × Tok))} {vt0 : Addr} {dx0 : Addr} {x : Option Addr} {Q : Unit → Heap → Prop} (D : Here (hd.heap_39 w.params) w H0 env gs ls h ((b, bobj ⟨B0, cv0, fin0, force0, head0, ht0, ma0, mt0, nested0, oe0, ss0, vne0, vt0, dx0⟩) :: l)) (q : ∀ h', Here (hd.heap_39 w.params) w H0 env gs ls h' ((b, bobj ⟨B0, cv0, fin0, force0, head0, ht0, ma0, mt0, nested0, oe0, x, vne0, vt0, dx0⟩) :: l) → Q () h') : W w A (setAttr (.ref b) "sharedStrings" (vAddr x)) Q h := W_setSlot D (slot_sharedStrings w) rfl q
theorem set_vne {B0 : Addr} {cv0 : Option Addr} {fin0 : Bool} {force0 : Bool} {head0 : Int} {ht0 : Tok} {ma0 : Int} {mt0 : Tok} {nested0 : Bool} {oe0 : Option (Int × Tok)} {ss0 : Option Addr} {vne0 : Option (Option (Int × Tok))} {vt0 : Addr} {dx0 : Addr} {x : Option (Int × Tok)} {Q : Unit → Heap → Prop} (D : Here (hd.heap_39 w.params) w H0 env gs ls h ((b, bobj ⟨B0, cv0, fin0, force0, head0, ht0, ma0, mt0, nested0, oe0, ss0, vne0, vt0, dx0⟩) :: l)) (q : ∀ h', Here (hd.heap_39 w.params) w H0 env gs ls h' ((b, bobj ⟨B0, cv0, fin0, force0, head0, ht0, ma0, mt0, nested0, oe0, ss0, some x, vt0, dx0⟩) :: l) → Q () h') : W w A (setAttr (.ref b) "vectorNumElems" (vInt x)) Q h := W_setSlot D (slot_vectorNumElems w) rfl q
theorem set_vt {B0 : Addr} {cv0 : Option Addr} {fin0 : Bool} {force0 : Bool} {head0 : Int} {ht0 : Tok} {ma0 : Int} {mt0 : Tok} {nested0 : Bool} {oe0 : Option (Int × Tok)} {ss0 : Option Addr} {vne0 : Option (Option (Int × Tok))} {vt0 : Addr} {dx0 : Addr} {a : Addr} {Q : Unit → Heap → Prop} (D : Here (hd.heap_39 w.params) w H0 env gs ls h ((b, bobj ⟨B0, cv0, fin0, force0, head0, ht0, ma0, mt0, nested0, oe0, ss0, vne0, vt0, dx0⟩) :: l)) (q : ∀ h', Here (hd.heap_39 w.params) w H0 env gs ls h' ((b, bobj ⟨B0, cv0, fin0, force0, head0, ht0, ma0, mt0, nested0, oe0, ss0, vne0, a, dx0⟩) :: l) → Q () h') : W w A (setAttr (.ref b) "vtables" (.ref a)) Q h := W_setSlot D (slot_vtables w) rfl q
end
end

-- FBA
section
open PySem PySem.W PySem.Calls PyProof.Rows Builtin


section
variable {w : World} {A : Around} {h : Heap}

theorem WC_any {c : Code} {Q : Flow → Heap → Prop} (x : ∀ s, s.heap = h → codeAny (MW w) A c (fun r s' => ∃ f, r = .ok f ∧ Rest s s' ∧ Q f s'.heap) s) : WC w A c Q h :=
  fun Γ p s hc hB _ e => x s e Γ p hc hB
theorem W_exported {a : Addr} {Q : Bool → Heap → Prop} (q : Q false h) : W w A (Bytes.exported (.ref a)) Q h := by
  intro Γ p s hΓ hcl e
  show Sem.wp (MW w) Γ (stack >>= fun st => pure (st.any _)) _ _ p s
  rw [Sem.wp_bind']
  show Sem.wp (MW w) Γ (.stack .pure) _ _ p s
  rw [Sem.wp_stack, Sem.wp_pure, Sem.wp_pure']
  refine ⟨Rest.refl s, ?_⟩
  have key : ∀ c ∈ ((Γ.code, p) :: Γ.below), okCode c.1 = true := by
    intro c hc
    rcases List.mem_cons.mp hc with rfl | hc
    · exact hcl.1
    · exact hcl.2 c hc
  rw [show List.any ((Γ.code, p) :: Γ.below) _ = false from ?_]
  · exact e ▸ q
  rw [List.any_eq_false]
  rintro ⟨c, p'⟩ hc
  have ok := key _ hc
  dsimp only at ok ⊢
  split
  all_goals first
    | (rename_i heq; simp only [Prod.mk.injEq] at heq; obtain ⟨rfl, rfl⟩ := heq; have ok' : okId _ = true := ok; exact absurd ok' (by decide +kernel))
    | skip
  · rename_i id v _ _ _ _ _ _ _ _ heq
    simp only [Prod.mk.injEq] at heq
    obtain ⟨rfl, rfl⟩ := heq
    have ok' : okId id = true := ok
    simp only [okId, badIds, List.contains_append, Bool.not_eq_true', Bool.or_eq_false_iff] at ok'
    simp only [ok'.2, Bool.and_false, Bool.false_eq_true, not_false_eq_true]
  · simp
end

namespace BA
theorem mro : mroOf (.type "bytearray") = pure [.type "bytearray", .type "object"] := by rw [mroOf_type]; kernel_rfl
theorem lookup_new : typeLookup (.type "bytearray") "__new__" = pure (some (.builtin "bytearray.__new__")) := by rw [typeLookup_type, builtinLookup_eq_fast]; kernel_rfl
theorem slot_init : Slot "bytearray" "__init__" "bytearray.__init__" :=
  .of (owner := "bytearray") (n := "__init__") (by rw [typeLookup_type, builtinLookup_eq_fast]; kernel_rfl) (by decide +kernel) (by decide +kernel) (by decide +kernel)
    (by first | exact .inl (by decide +kernel) | exact .inr (by decide +kernel)) (by rw [isSubtype_type]; kernel_rfl)
theorem sub_self : isSubtype (.type "bytearray") (.type "bytearray") = pure true := by rw [isSubtype_type]; kernel_rfl
theorem called : TypeCalled "bytearray" "bytearray.__new__" "bytearray.__init__" :=
  ⟨by decide +kernel, by decide +kernel, ⟨_, _, mro⟩, madeBy_type mro lookup_new (by decide +kernel), by decide +kernel, sub_self, slot_init⟩
theorem typeCall1 (a : Value) : checkTypeCall "bytearray" ⟨[a], []⟩ = pure () := by kernel_rfl
theorem newCall1 (a : Value) : checkBuiltinCall "bytearray.__new__" ⟨[.type "bytearray", a], []⟩ = pure () := by kernel_rfl
theorem entry_new : entryFor table "bytearray.__new__" = some Builtin.«list.__new__» :=
  entryFor_alias (by rw [fastTable_eq_tree]; kernel_rfl) (by decide +kernel) (id' := "list.__new__") (by decide +kernel) (by rw [fastTable_eq_tree]; kernel_rfl)
theorem plain_new : plainId "bytearray.__new__" = true := by decide +kernel
theorem entry_init : entryFor table "bytearray.__init__" = some Builtin.«bytearray.__init__» := entryFor_of_tree (by kernel_rfl)
theorem args_init (a b : Value) : argsOk "bytearray.__init__" ⟨[a, b], []⟩ := by unfold argsOk; kernel_rfl
set_option maxRecDepth 1000000 in
set_option maxHeartbeats 4000000 in
theorem owner_new : ("bytearray.__new__".splitOn ".__new__").headD "" = "bytearray" := by simp +decide [String.splitOn, String.splitOnAux]
theorem slot_len : Slot "bytearray" "__len__" "bytearray.__len__" :=
  .of (owner := "bytearray") (n := "__len__") (by rw [typeLookup_type, builtinLookup_eq_fast]; kernel_rfl) (by decide +kernel) (by decide +kernel) (by decide +kernel)
    (by first | exact .inl (by decide +kernel) | exact .inr (by decide +kernel)) (by rw [isSubtype_type]; kernel_rfl)
theorem entry_len : entryFor table "bytearray.__len__" = some Builtin.«bytearray.__len__» := entryFor_of_tree (by kernel_rfl)
theorem args_len (a : Value) : argsOk "bytearray.__len__" ⟨[a], []⟩ := by unfold argsOk; kernel_rfl
end BA

section
variable {w : World} {A : Around} {h : Heap}
theorem ba_new_code {s : Shared} {a : Value} {R : Result → Shared → Prop} (q : R (.ok (.ret (.ref s.heap.objs.size))) { s with heap := s.heap.push { cls := .type "bytearray", data := .bytearray #[] 0 } }) :
    codeAny (MW w) A (.call (.builtin "bytearray.__new__") ⟨[.type "bytearray", a], []⟩) R s := by
  refine codeAny_of_tree ?_
  show wpAny _ A.in1 (do checkBuiltinCall "bytearray.__new__" ⟨[.type "bytearray", a], []⟩; again (.builtin "bytearray.__new__" ⟨[.type "bytearray", a], []⟩)) _ _ s
  refine wpAny_bind (wpAny_of_eq (BA.newCall1 a) (wpAny_pure ⟨plainId_quiet BA.plain_new _, codeAny_builtin_stack BA.entry_new rfl fun p st => ?_⟩))
  rw [Around.under_plainId BA.plain_new _]
  have hsub := BA.sub_self
  have hown := BA.owner_new
  obtain ⟨hp, g, d, tk, os⟩ := s
  simp only [hown]
  wp_walk
  exact q
theorem W_lenBA {B : Addr} {buf : Array UInt8} {n : Nat} {Q : Value → Heap → Prop} (hb : h.get? B = some { cls := .type "bytearray", data := .bytearray buf n }) (hz : buf.size ≤ sizeLine) (q : ∀ t, Q (.int buf.size t) h) : W w A (call (.builtin "len") [.ref B]) Q h := by
  refine W_any fun s e => ?_
  subst e
  refine call_len_slot (n := (buf.size : Int)) ⟨_, hb, rfl⟩ BA.slot_len (fun Q' hq => ?_) (by omega) (by rw [sizeLine_eq] at hz; omega) ⟨⟨rfl, rfl⟩, q _⟩
  refine wpAny_call_entry BA.slot_len ⟨_, hb, rfl⟩ BA.entry_len ?_ (BA.args_len _)
  unfold Builtin.«bytearray.__len__»
  obtain ⟨hp, g, d, tk, os⟩ := s
  dsimp only at hb
  wp_walk
  exact ⟨_, rfl, hq⟩
end
end

-- FBB
section
open PySem PySem.W PySem.Calls PyProof.Rows Builtin

namespace BA
theorem rel : typeLookup (.type "bytearray") "__release_buffer__" = pure (some (.builtin "bytearray.__release_buffer__")) := by rw [typeLookup_type, builtinLookup_eq_fast]; kernel_rfl
theorem buf : typeLookup (.type "bytearray") "__buffer__" = pure (some (.builtin "bytearray.__buffer__")) := by rw [typeLookup_type, builtinLookup_eq_fast]; kernel_rfl
theorem brel : typeLookup (.type "bytes") "__release_buffer__" = pure none := by rw [typeLookup_type, builtinLookup_eq_fast]; kernel_rfl
theorem bbuf : typeLookup (.type "bytes") "__buffer__" = pure (some (.builtin "bytes.__buffer__")) := by rw [typeLookup_type, builtinLookup_eq_fast]; kernel_rfl
theorem bidx : typeLookup (.type "bytes") "__index__" = pure none := by rw [typeLookup_type, builtinLookup_eq_fast]; kernel_rfl
theorem iidx : typeLookup (.type "int") "__index__" = pure (some (.builtin "int.__index__")) := by rw [typeLookup_type, builtinLookup_eq_fast]; kernel_rfl
theorem sub_bytes : isSubtype (.type "bytes") (.type "bytes") = pure true := by rw [isSubtype_type]; kernel_rfl
theorem ends1 : ("bytearray.__release_buffer__".endsWith ("." ++ "__release_buffer__")) = true := by decide +kernel
theorem drop1 : "bytearray.__release_buffer__".dropRight ("__release_buffer__".length + 1) = "bytearray" := by decide +kernel
theorem ends2 : ("bytearray.__buffer__".endsWith ("." ++ "__buffer__")) = true := by decide +kernel
theorem drop2 : "bytearray.__buffer__".dropRight ("__buffer__".length + 1) = "bytearray" := by decide +kernel
theorem ends3 : ("bytes.__buffer__".endsWith ("." ++ "__buffer__")) = true := by decide +kernel
theorem drop3 : "bytes.__buffer__".dropRight ("__buffer__".length + 1) = "bytes" := by decide +kernel
end BA

section
variable {w : World} {A : Around} {h : Heap} {a : Addr} {buf : Array UInt8} {n : Nat}
theorem looks_special {T : String} {name : Str} {r : Option Value} {o : Obj} (hb : h.get? a = some o) (hc : o.cls = .type T) (e : typeLookup (.type T) name = pure r) : Looks (MW w) h (specialOf (.ref a) name) r :=
  fun A Q E s k q => wpAny_specialOf ⟨o, k _ _ hb, hc⟩ e q
theorem looks_inst {T U : String} {r : Bool} {o : Obj} (hb : h.get? a = some o) (hc : o.cls = .type T) (e : isSubtype (.type T) (.type U) = pure r) : Looks (MW w) h (isInstance (.ref a) (.type U)) r :=
  fun A Q E s k q => wpAny_isInstance ⟨o, k _ _ hb, hc⟩ e q
theorem looks_pay (hb : h.get? a = some { cls := .type "bytearray", data := .bytearray buf n }) : Looks (MW w) h (Bytes.payload (.ref a)) buf := by
  intro A Q E s k q
  exact wpAny_bind (wpAny_bind (wpAny_load (k _ _ hb) (wpAny_pure (wpAny_pure q))))
theorem looks_own (name : String) {id : String} (hb : h.get? a = some { cls := .type "bytearray", data := .bytearray buf n }) (e : typeLookup (.type "bytearray") (name : Str) = pure (some (.builtin id)))
    (h1 : id.endsWith ("." ++ name) = true) (h2 : id.dropRight (name.length + 1) = "bytearray") : Looks (MW w) h (Bytes.slotIsOwn (.ref a) name) true := by
  unfold Bytes.slotIsOwn
  refine (looks_special hb rfl e).andThen ?_
  dsimp only
  rw [h1, h2]
  exact looks_inst hb rfl BA.sub_self
theorem looks_rel (hb : h.get? a = some { cls := .type "bytearray", data := .bytearray buf n }) : Looks (MW w) h (Bytes.ownRelease (.ref a)) false :=
  (looks_own "__release_buffer__" hb BA.rel BA.ends1 BA.drop1).andThen (Looks.of_pure rfl)
theorem looks_buffer (id : String) (full : Bool) (hb : h.get? a = some { cls := .type "bytearray", data := .bytearray buf n }) : Looks (MW w) h (Bytes.buffer? id (.ref a) full) (some buf) := by
  unfold Bytes.buffer?
  refine (looks_special hb rfl BA.buf).andThen ?_
  try dsimp only
  refine (looks_own "__buffer__" hb BA.buf BA.ends2 BA.drop2).andThen ?_
  refine (looks_special hb rfl BA.buf).andThen ?_
  try dsimp only
  refine (looks_rel hb).andThen ?_
  exact (looks_pay hb).andThen .now
theorem looks_bufferV (id : String) (full : Bool) (x : Array UInt8) (t : Tok) : Looks (MW w) h (Bytes.buffer? id (.bytes x t) full) (some x) := by
  have sp : ∀ {name : Str} {r}, typeLookup (.type "bytes") name = pure r → Looks (MW w) h (specialOf (.bytes x t) name) r := fun e A Q E s k q => wpAny_specialOf (v := .bytes x t) (T := "bytes") rfl e q
  have ii : Looks (MW w) h (isInstance (.bytes x t) (.type "bytes")) true := fun A Q E s k q => wpAny_isInstance (v := .bytes x t) (T := "bytes") rfl BA.sub_bytes q
  have own : Looks (MW w) h (Bytes.slotIsOwn (.bytes x t) "__buffer__") true := by
    unfold Bytes.slotIsOwn
    refine (sp BA.bbuf).andThen ?_
    dsimp only
    rw [BA.ends3, BA.drop3]
    exact ii
  have rel : Looks (MW w) h (Bytes.ownRelease (.bytes x t)) false := by
    unfold Bytes.ownRelease Bytes.slotIsOwn
    refine Looks.andThen (a := true) ?_ (Looks.of_pure rfl)
    refine (sp BA.brel).andThen ?_
    exact .now
  unfold Bytes.buffer?
  refine (sp BA.bbuf).andThen ?_
  try dsimp only
  refine own.andThen ?_
  refine (sp BA.bbuf).andThen ?_
  try dsimp only
  refine rel.andThen ?_
  exact (Looks.of_pure rfl).andThen .now
end
end

-- FBC
section
open PySem PySem.W PySem.Calls PyProof.Rows Builtin

abbrev baO (buf : Array UInt8) : Obj := { cls := .type "bytearray", data := .bytearray buf 0 }
/-- a alone has turned, to o -/
structure Turned (h h' : Heap) (a : Addr) (o : Obj) : Prop where
  at_ : h'.get? a = some o
  else_ : ∀ b, b ≠ a → h'.get? b = h.get? b
  size : h'.objs.size = h.objs.size
theorem Turned.upd {h : Heap} {a : Addr} {o : Obj} {f : Obj → Obj} (hb : h.get? a = some o) (hf : (f o).isFreed = false) : Turned h (h.update a f) a (f o) :=
  ⟨Heap.get?_update_self _ hb hf, fun b hb' => Heap.get?_update_ne _ _ _ _ hb', Heap.size_update ..⟩
theorem Turned.trans {h h' h'' : Heap} {a : Addr} {o o' : Obj} (x : Turned h h' a o) (y : Turned h' h'' a o') : Turned h h'' a o' :=
  ⟨y.at_, fun b hb => (y.else_ b hb).trans (x.else_ b hb), y.size.trans x.size⟩
theorem Turned.refl {h : Heap} {a : Addr} {o : Obj} (hb : h.get? a = some o) : Turned h h a o := ⟨hb, fun _ _ => rfl, rfl⟩

section
variable {w : World} {A : Around} {h : Heap} {a : Addr} {buf : Array UInt8}
theorem W_write {f : Array UInt8 → Array UInt8} {Q : Unit → Heap → Prop} (hb : h.get? a = some (baO buf)) (hz : (f buf).size ≤ sizeLine) (q : ∀ h', Turned h h' a (baO (f buf)) → Q () h') : W w A (Bytes.write (.ref a) f) Q h := by
  unfold Bytes.write updateBytearray
  refine W_bind (W_load hb ?_)
  dsimp only
  have T := Turned.upd (f := Obj.mapBytearray f) hb rfl
  refine W_bind (W_update hb ?_)
  unfold lookBehind
  refine W_bind (W_loadPart T.at_ ?_)
  have : (Obj.mapBytearray f (baO buf)).data.pastItsLine = none := by
    show (if (f buf).size > sizeLine then some "bytearray:memory" else none) = none
    rw [if_neg (Nat.not_lt.mpr hz)]
  rw [this]
  exact W_pure (q _ T)
theorem looks_exports (hb : h.get? a = some (baO buf)) : Looks (MW w) h (Bytes.exportsOf (.ref a)) 0 := by
  unfold Bytes.exportsOf
  exact (Looks.ld (part := none) hb).andThen .now
theorem looks_specialV {v : Value} {T : String} {name : Str} {x : Option Value} (hv : typeOf v = pure (.type T)) (e : typeLookup (.type T) name = pure x) : Looks (MW w) h (specialOf v name) x :=
  fun A Q E s k q => wpAny_specialOf_val hv e q
set_option maxHeartbeats 1000000 in
theorem W_init_int {n : Int} {t : Tok} (hb : h.get? a = some (baO buf)) (h0 : 0 ≤ n) (hz : n.toNat ≤ sizeLine) {Q : Fin → Heap → Prop}
    (q : ∀ h', Turned h h' a (baO (Array.replicate n.toNat 0)) → Q (.done (.ret .none)) h') : W w A (Builtin.«bytearray.__init__» ⟨[.ref a, .int n t], []⟩) Q h := by
  unfold Builtin.«bytearray.__init__»
  refine W_bind (W_looks (looks_rel hb) ?_)
  refine W_if_neg (by decide) ?_
  refine W_bind (W_of_eq (a := [some (.int n t), none, none]) rfl ?_)
  dsimp only
  refine W_bind (W_of_eq (a := ()) rfl ?_)
  refine W_bind (W_of_eq (a := ()) rfl ?_)
  refine W_bind (W_bind (W_exported ?_))
  refine W_bind (W_looks (looks_exports hb) (W_pure ?_))
  refine W_if_neg (by decide) ?_
  refine W_bind (W_write hb (Nat.zero_le _) fun h₁ T => ?_)
  refine W_bind (W_of_eq (a := none) rfl ?_)
  refine W_if_neg (by decide) ?_
  refine W_bind (W_of_eq (a := ()) rfl ?_)
  refine W_bind (W_looks (looks_specialV (T := "int") rfl BA.iidx) ?_)
  refine W_if_pos rfl ?_
  refine W_bind (W_attempt (W_of_eq (a := n) rfl ?_))
  dsimp only
  refine W_if_neg ?_ ?_
  · simp only [Bytes.fitsIndex, Bool.not_eq_true', Bool.and_eq_false_iff, decide_eq_false_iff_not]; rw [sizeLine_eq] at hz; omega
  refine W_if_neg (by omega) ?_
  refine W_if_neg ?_ ?_
  · rw [sizeLine_eq] at hz; simp; omega
  refine W_if_neg (by simp [Bytes.tooLong]; omega) ?_
  refine W_bind (W_rule ?_)
  by_cases hp : n > 0
  · refine W_if_pos hp (W_bind (W_write T.at_ (by simpa using hz) fun h₂ T₂ => W_pure (q _ (T.trans T₂))))
  · refine W_if_neg hp (W_pure (q _ ?_))
    have : n = 0 := by omega
    subst this
    exact T
set_option maxHeartbeats 1000000 in
theorem W_init_bytes {x : Array UInt8} {t : Tok} (hb : h.get? a = some (baO buf)) (hz : x.size ≤ sizeLine) {Q : Fin → Heap → Prop}
    (q : ∀ h', Turned h h' a (baO x) → Q (.done (.ret .none)) h') : W w A (Builtin.«bytearray.__init__» ⟨[.ref a, .bytes x t], []⟩) Q h := by
  unfold Builtin.«bytearray.__init__»
  refine W_bind (W_looks (looks_rel hb) ?_)
  refine W_if_neg (by decide) ?_
  refine W_bind (W_of_eq (a := [some (.bytes x t), none, none]) rfl ?_)
  dsimp only
  refine W_bind (W_of_eq (a := ()) rfl ?_)
  refine W_bind (W_of_eq (a := ()) rfl ?_)
  refine W_bind (W_bind (W_exported ?_))
  refine W_bind (W_looks (looks_exports hb) (W_pure ?_))
  refine W_if_neg (by decide) ?_
  refine W_bind (W_write hb (Nat.zero_le _) fun h₁ T => ?_)
  refine W_bind (W_of_eq (a := none) rfl ?_)
  refine W_if_neg (by decide) ?_
  refine W_bind (W_of_eq (a := ()) rfl ?_)
  refine W_bind (W_looks (looks_specialV (T := "bytes") rfl BA.bidx) ?_)
  refine W_if_neg (by decide) ?_
  refine W_bind (W_looks (looks_bufferV _ _ x t) ?_)
  dsimp only
  refine W_bind (W_rule ?_)
  exact W_bind (W_write T.at_ hz fun h₂ T₂ => W_pure (q _ (T.trans T₂)))

theorem WC_builtin {id : String} {args : Args} {b : Builtin} {Q : Flow → Heap → Prop} (hok : okId id = true) (hb : entryFor table id = some b) (x : W w (A.under (.builtin id args)) (b args) (FinQ w A Q) h) : WC w A (.builtin id args) Q h := by
  refine WC_tree hok ?_
  show W w _ (match entryFor table id with | some b => b args | none => unsupported ((withoutEnding? id "#data").getD id)) _ h
  rw [hb]; exact x
theorem WC_callBuiltin {id : String} {args : Args} {b : Builtin} {Q : Flow → Heap → Prop} (hq : plainId id = true) (hok : okId id = true) (hb : entryFor table id = some b)
    (x : W w A.in1 (checkBuiltinCall id args) (fun _ h₁ => W w A.in1 (b args) (FinQ w A Q) h₁) h) : WC w A (.call (.builtin id) args) Q h := by
  refine WC_tree rfl ?_
  show W w A.in1 (do checkBuiltinCall id args; again (.builtin id args)) _ h
  refine W_bind (W_mono x fun _ h₁ y => W_pure ⟨plainId_quiet hq args, WC_builtin hok hb ?_⟩)
  rw [Around.under_plainId hq args]; exact y
/-- what typeOf says, from the heap alone -/
def TypeAt (h : Heap) (v : Value) (T : String) : Prop := match v with
  | .ref a => ∃ o, h.get? a = some o ∧ o.cls = .type T
  | v => typeOf v = pure (.type T)
theorem TypeAt.is {s : Shared} {v : Value} {T : String} (x : TypeAt h v T) (e : s.heap = h) : s.TypeIs v T := by
  subst e
  cases v <;> exact x
theorem W_check {T : String} {name : Str} {id : String} {self : Value} {rest : List Value} {Q : Unit → Heap → Prop} (S : Slot T name id) (hT : TypeAt h self T) (ha : argsOk id ⟨self :: rest, []⟩) (q : Q () h) : W w A (checkBuiltinCall id ⟨self :: rest, []⟩) Q h :=
  W_any fun s e => S.check _ _ _ _ _ _ _ _ (hT.is e) ha ⟨Rest.refl s, e ▸ q⟩
theorem W_special? {T : String} {name : Str} {id : String} {self : Value} {rest : List Value} {b : Builtin} {Q : Option Value → Heap → Prop} (S : Slot T name id) (hT : TypeAt h self T) (hok : okId id = true) (hb : entryFor table id = some b) (ha : argsOk id ⟨self :: rest, []⟩)
    (x : W w A.in1 (b ⟨self :: rest, []⟩) (FinQ w A fun f h' => ∃ v, f = .ret v ∧ Q (some v) h') h) : W w A (callSpecial? self name rest) Q h := by
  unfold callSpecial?
  refine W_bind (W_any fun s e => wpAny_specialOf (hT.is e) S.lookup ⟨Rest.refl s, e ▸ ?_⟩)
  simp only [S.bind]
  refine W_holding (W_bind (W_pure (W_bind ?_)))
  refine W_mono (W_call (Q := fun v h' => Q (some v) h') (WC_callBuiltin S.plain hok hb (W_check S hT ha x))) fun v h' y => W_pure y
theorem WC_typeCall {T newId initId : String} {Bi : Builtin} {args : List Value} {Q : Value → Heap → Prop} (ft : TypeCalled T newId initId) (hok : okId initId = true)
    (hct : checkTypeCall T ⟨args, []⟩ = pure ()) (entryI : entryFor table initId = some Bi)
    (new : WC w A.in1 (.call (.builtin newId) ⟨.type T :: args, []⟩) (fun f h₁ => ∃ obj, f = .ret obj ∧ TypeAt h₁ obj T ∧ argsOk initId ⟨obj :: args, []⟩ ∧
      W w A.in1.in1 (Bi ⟨obj :: args, []⟩) (FinQ w A.in1 fun f h₂ => f = .ret .none ∧ Q obj h₂) h₁) h) :
    W w A (call (.type T) args) Q h := by
  obtain ⟨c, tl, hmro⟩ := ft.mro
  refine W_call (WC_tree rfl ?_)
  show W w _ (callAny (.type T) _) _ _
  refine W_pure ⟨Code.quiet_builtin _ (by decide +kernel), WC_builtin (by decide +kernel) F.entry_type_call ?_⟩
  rw [Around.under_plain (weight_type_call_type T args []) rfl]
  unfold Builtin.«type.__call__»
  dsimp only
  refine W_if_neg (by rw [ft.notType]; decide) ?_
  refine W_if_neg (by rw [ft.canCreate]; decide) ?_
  refine W_bind (W_of_eq hct ?_)
  refine W_bind (W_of_eq hmro ?_)
  refine W_if_neg (by simp) ?_
  refine W_bind (W_of_eq ft.made ?_)
  refine W_bind (W_pure ?_)
  refine W_bind (W_holding (W_mono (W_call (Q := fun obj h₁ => TypeAt h₁ obj T ∧ argsOk initId ⟨obj :: args, []⟩ ∧ W w A.in1.in1 (Bi ⟨obj :: args, []⟩) (FinQ w A.in1 fun f h₂ => f = .ret .none ∧ Q obj h₂) h₁) new) fun obj h₁ y => ?_))
  obtain ⟨hT, ha, y⟩ := y
  refine W_bind (W_any fun s e => wpAny_isInstance (hT.is e) ft.sub ⟨Rest.refl s, e ▸ ?_⟩)
  refine W_if_neg (by decide) ?_
  refine W_bind (W_holding (W_mono (W_special? (Q := fun r h₂ => r = some .none ∧ Q obj h₂) ft.init hT hok entryI ha (W_mono y fun fin h₂ z => ?_)) fun r h₂ z => ?_))
  · cases fin with
    | done f => obtain ⟨rfl, z⟩ := z; exact ⟨_, rfl, rfl, z⟩
    | again c => exact ⟨z.1, WC_mono z.2 fun f h' u => ⟨_, u.1, rfl, u.2⟩⟩
  · obtain ⟨rfl, z⟩ := z
    refine W_if_neg (by decide) (W_pure ⟨_, rfl, z⟩)

theorem Turned.led {H0 h h' : Heap} {a : Addr} {o o' : Obj} {l : List (Addr × Obj)} (T : Turned h h' a o') (D : Led H0 h ((a, o) :: l)) (hc : o'.data = .plain → o.data = .plain ∧ o'.dict = o.dict := by first | exact fun e => ⟨e, rfl⟩ | exact fun e => nomatch e | (intro e; cases e)) : Led H0 h' ((a, o') :: l) := D.turn T.else_ T.size T.at_ hc
variable {K : Frag} {H0 : Heap} {env : Env} {gs : List Str} {ls : List (Str × Option Value)} {l : List (Addr × Obj)}
theorem Here.alloc {o : Obj} (D : Here K w H0 env gs ls h l) (hf : o.isFreed = false) (hc : o.data = .plain → o.dict = none := by first | exact fun _ => rfl | exact fun e => nomatch e | (intro e; cases e)) : Here K w H0 env gs ls (h.push o) ((h.objs.size, o) :: l) := D.with fun X E => (E.alloc hf hc).swap
theorem Here.turn {h' : Heap} {o o' : Obj} (D : Here K w H0 env gs ls h ((a, o) :: l)) (T : Turned h h' a o') (hc : o'.data = .plain → o.data = .plain ∧ o'.dict = o.dict := by first | exact fun e => ⟨e, rfl⟩ | exact fun e => nomatch e | (intro e; cases e)) : Here K w H0 env gs ls h' ((a, o') :: l) := D.with fun X E => (T.led E.swap hc).swap
theorem Here.turn1 {h' : Heap} {o o' : Obj} {p : Addr × Obj} (D : Here K w H0 env gs ls h (p :: (a, o) :: l)) (T : Turned h h' a o') (hc : o'.data = .plain → o.data = .plain ∧ o'.dict = o.dict := by first | exact fun e => ⟨e, rfl⟩ | exact fun e => nomatch e | (intro e; cases e)) : Here K w H0 env gs ls h' (p :: (a, o') :: l) := (D.swap.turn T hc).swap
theorem Here.at0 {o : Obj} (D : Here K w H0 env gs ls h ((a, o) :: l)) : h.get? a = some o := D.led.own _ (.head _)
theorem Here.at1 {o : Obj} {p : Addr × Obj} (D : Here K w H0 env gs ls h (p :: (a, o) :: l)) : h.get? a = some o := D.led.own _ (.tail _ (.head _))
theorem Here.at2 {o : Obj} {p q : Addr × Obj} (D : Here K w H0 env gs ls h (p :: q :: (a, o) :: l)) : h.get? a = some o := D.led.own _ (.tail _ (.tail _ (.head _)))

theorem W_newBA {n : Int} {t : Tok} {Q : Value → Heap → Prop} (D : Here K w H0 env gs ls h l) (h0 : 0 ≤ n) (hz : n.toNat ≤ sizeLine)
    (q : ∀ h' a, Here K w H0 env gs ls h' ((a, baO (Array.replicate n.toNat 0)) :: l) → Q (.ref a) h') : W w A (call (.type "bytearray") [.int n t]) Q h := by
  refine WC_typeCall BA.called (by decide +kernel) (BA.typeCall1 _) BA.entry_init (WC_any fun s e => ba_new_code ⟨_, rfl, ⟨rfl, rfl⟩, _, rfl, ?_⟩)
  subst e
  have D' := D.alloc (o := baO #[]) rfl
  refine ⟨⟨_, D'.at0, rfl⟩, BA.args_init _ _, W_init_int D'.at0 h0 hz fun h' T => ⟨rfl, q _ _ (D'.turn T)⟩⟩
theorem W_baOf {x : Array UInt8} {t : Tok} {Q : Value → Heap → Prop} (D : Here K w H0 env gs ls h l) (hz : x.size ≤ sizeLine)
    (q : ∀ h' a, Here K w H0 env gs ls h' ((a, baO x) :: l) → Q (.ref a) h') : W w A (call (.type "bytearray") [.bytes x t]) Q h := by
  refine WC_typeCall BA.called (by decide +kernel) (BA.typeCall1 _) BA.entry_init (WC_any fun s e => ba_new_code ⟨_, rfl, ⟨rfl, rfl⟩, _, rfl, ?_⟩)
  subst e
  have D' := D.alloc (o := baO #[]) rfl
  refine ⟨⟨_, D'.at0, rfl⟩, BA.args_init _ _, W_init_bytes D'.at0 hz fun h' T => ⟨rfl, q _ _ (D'.turn T)⟩⟩
end
end

-- FBD
section
open PySem PySem.W PySem.Calls PyProof.Rows Builtin

namespace BA
theorem slot_getitem : Slot "bytearray" "__getitem__" "bytearray.__getitem__" :=
  .of (owner := "bytearray") (n := "__getitem__") (by rw [typeLookup_type, builtinLookup_eq_fast]; kernel_rfl) (by decide +kernel) (by decide +kernel) (by decide +kernel)
    (by first | exact .inl (by decide +kernel) | exact .inr (by decide +kernel)) (by rw [isSubtype_type]; kernel_rfl)
theorem slot_setitem : Slot "bytearray" "__setitem__" "bytearray.__setitem__" :=
  .of (owner := "bytearray") (n := "__setitem__") (by rw [typeLookup_type, builtinLookup_eq_fast]; kernel_rfl) (by decide +kernel) (by decide +kernel) (by decide +kernel)
    (by first | exact .inl (by decide +kernel) | exact .inr (by decide +kernel)) (by rw [isSubtype_type]; kernel_rfl)
theorem slot_ne : Slot "bytearray" "__ne__" "bytearray.__ne__" :=
  .of (owner := "bytearray") (n := "__ne__") (by rw [typeLookup_type, builtinLookup_eq_fast]; kernel_rfl) (by decide +kernel) (by decide +kernel) (by decide +kernel)
    (by first | exact .inl (by decide +kernel) | exact .inr (by decide +kernel)) (by rw [isSubtype_type]; kernel_rfl)
theorem entry_getitem : entryFor table "bytearray.__getitem__" = some Builtin.«bytearray.__getitem__» := entryFor_of_tree (by kernel_rfl)
theorem entry_setitem : entryFor table "bytearray.__setitem__" = some Builtin.«bytearray.__setitem__» := entryFor_of_tree (by kernel_rfl)
theorem entry_ne : entryFor table "bytearray.__ne__" = some Builtin.«bytearray.__ne__» := entryFor_of_tree (by kernel_rfl)
theorem args_getitem (a b : Value) : argsOk "bytearray.__getitem__" ⟨[a, b], []⟩ := by unfold argsOk; kernel_rfl
theorem args_setitem (a b c : Value) : argsOk "bytearray.__setitem__" ⟨[a, b, c], []⟩ := by unfold argsOk; kernel_rfl
theorem args_ne (a b : Value) : argsOk "bytearray.__ne__" ⟨[a, b], []⟩ := by unfold argsOk; kernel_rfl
theorem bint : typeLookup (.type "bytes") "__int__" = pure none := by rw [typeLookup_type, builtinLookup_eq_fast]; kernel_rfl
theorem bflt : typeLookup (.type "bytes") "__float__" = pure none := by rw [typeLookup_type, builtinLookup_eq_fast]; kernel_rfl
theorem bsub_ba : isSubtype (.type "bytes") (.type "bytearray") = pure false := by rw [isSubtype_type]; kernel_rfl
theorem bsub_cx : isSubtype (.type "bytes") (.type "complex") = pure false := by rw [isSubtype_type]; kernel_rfl
theorem aidx : typeLookup (.type "bytearray") "__index__" = pure none := by rw [typeLookup_type, builtinLookup_eq_fast]; kernel_rfl
end BA

abbrev slO (a b c : Value) : Obj := { cls := .type "slice", data := .fields #[a, b, c] }
section
variable {w : World} {A : Around} {h : Heap} {a sl : Addr} {buf : Array UInt8} {env : Env} {pos p p' : Pos}
theorem W_getItem_slot {o i : Value} {T id : String} {b : Builtin} {Q : Value → Heap → Prop} (hT : TypeAt h o T) (hn : seqItemTypes.contains T = false) (S : Slot T "__getitem__" id) (hok : okId id = true) (hb : entryFor table id = some b) (ha : argsOk id ⟨[o, i], []⟩)
    (x : W w A.in1 (b ⟨[o, i], []⟩) (FinQ w A fun f h' => ∃ v, f = .ret v ∧ Q v h') h) : W w A (getItem o i) Q h := by
  unfold getItem
  refine W_holding ?_
  refine W_bind (W_any fun s e => wpAny_sequenceKey (hT.is e) hn ⟨Rest.refl s, e ▸ ?_⟩)
  refine W_bind (W_mono (W_special? (name := Str.ofString "__getitem__") (Q := fun r h' => ∃ v, r = some v ∧ Q v h') S hT hok hb ha (W_mono x fun fin h₂ z => ?_)) fun r h' y => ?_)
  · cases fin with
    | done f => obtain ⟨v, rfl, z⟩ := z; exact ⟨_, rfl, _, rfl, z⟩
    | again c => exact ⟨z.1, WC_mono z.2 fun f h' ⟨v, e, u⟩ => ⟨v, e, v, rfl, u⟩⟩
  · obtain ⟨v, rfl, y⟩ := y
    exact W_pure y
theorem W_setItem_slot {o i v : Value} {T id : String} {b : Builtin} {Q : Unit → Heap → Prop} (hT : TypeAt h o T) (hn : seqItemTypes.contains T = false) (S : Slot T "__setitem__" id) (hok : okId id = true) (hb : entryFor table id = some b) (ha : argsOk id ⟨[o, i, v], []⟩)
    (x : W w A.in1 (b ⟨[o, i, v], []⟩) (FinQ w A fun f h' => f = .ret .none ∧ Q () h') h) : W w A (setItem o i v) Q h := by
  unfold setItem
  refine W_holding ?_
  refine W_bind (W_any fun s e => wpAny_sequenceKey (hT.is e) hn ⟨Rest.refl s, e ▸ ?_⟩)
  refine W_bind (W_mono (W_special? (name := Str.ofString "__setitem__") (Q := fun r h' => r = some .none ∧ Q () h') S hT hok hb ha (W_mono x fun fin h₂ z => ?_)) fun r h' y => ?_)
  · cases fin with
    | done f => obtain ⟨rfl, z⟩ := z; exact ⟨_, rfl, rfl, z⟩
    | again c => exact ⟨z.1, WC_mono z.2 fun f h' ⟨e, u⟩ => ⟨_, e, rfl, u⟩⟩
  · obtain ⟨rfl, y⟩ := y
    exact W_pure y

-- slices
def bytesPart (v : Value) : Sem Value := do
  if v == .none then return .none
  if (← specialOf v "__index__").isNone then
    rule "bytes.slice.part-no-index"; raiseError "TypeError" "slice indices must be integers or None or have an __index__ method"
  return rawInt (← asIndex v)
theorem bytesSliceParts_eq (s : Value) : Bytes.sliceParts s = (do
    let step ← bytesPart (← field s 2)
    if step == rawInt 0 then rule "bytes.slice.step-zero"; raiseError "ValueError" "slice step cannot be zero"
    let start ← bytesPart (← field s 0)
    let stop ← bytesPart (← field s 1)
    return (start, stop, step)) := rfl
theorem looks_bytesPart {v : Value} {k : Option Int} (hv : IsPart v k) : Looks (MW w) h (bytesPart v) (rawPart k) := by
  cases hv with
  | none => exact .now
  | int i t =>
    unfold bytesPart
    rw [if_neg (show ¬ ((Value.int i t == Value.none) = true) from Bool.false_ne_true)]
    refine (looks_specialV (T := "int") rfl BA.iidx).andThen ?_
    exact (Looks.of_pure rfl).andThen .now
theorem looks_sliceParts {vl vu : Value} {lo hi : Option Int} (hs : h.get? sl = some (slO vl vu .none)) (pl : IsPart vl lo) (pu : IsPart vu hi) : Looks (MW w) h (Bytes.sliceParts (.ref sl)) (rawPart lo, rawPart hi, rawPart none) := by
  rw [bytesSliceParts_eq]
  refine (looks_field hs 2 (v := .none) rfl).andThen ?_
  refine (looks_bytesPart .none).andThen ?_
  rw [if_neg (by decide)]
  refine (looks_field hs 0 (v := vl) rfl).andThen ?_
  refine (looks_bytesPart pl).andThen ?_
  refine (looks_field hs 1 (v := vu) rfl).andThen ?_
  exact (looks_bytesPart pu).andThen .now
theorem looks_typeOf {T : String} {o : Obj} (hb : h.get? a = some o) (hc : o.cls = .type T) : Looks (MW w) h (typeOf (.ref a)) (.type T) :=
  fun A Q E s k q => wpAny_typeOf ⟨o, k _ _ hb, hc⟩ q
theorem looks_subscript_slice {vl vu vs : Value} (hs : h.get? sl = some (slO vl vu vs)) : Looks (MW w) h (Bytes.subscript? (.ref sl)) none := by
  unfold Bytes.subscript?
  refine (looks_special hs rfl slice_no_index).andThen ?_
  exact .now
theorem looks_subscript_int {k : Int} {t : Tok} (h0 : 0 ≤ k) (h1 : k ≤ sizeLine) : Looks (MW w) h (Bytes.subscript? (.int k t)) (some k) := by
  unfold Bytes.subscript?
  refine (looks_specialV (T := "int") rfl BA.iidx).andThen ?_
  refine (Looks.of_pure (r := k) rfl).andThen ?_
  have : Bytes.fitsIndex k = true := by simp only [Bytes.fitsIndex, Bool.and_eq_true, decide_eq_true_eq]; rw [sizeLine_eq] at h1; omega
  rw [if_neg (by rw [this]; decide)]
  exact .now

theorem looks_or {x y : Sem Bool} {r : Bool} (hx : Looks (MW w) h x false) (hy : Looks (MW w) h y r) : Looks (MW w) h (x <||> y) r := by
  unfold orM
  refine hx.andThen ?_
  exact hy

theorem sliced_from (b : Array UInt8) (k : Nat) (hk : k ≤ b.size) : Bytes.sliced b (sliceBounds (some (k : Int)) none none b.size).1 (sliceBounds (some (k : Int)) none none b.size).2.1 (sliceBounds (some (k : Int)) none none b.size).2.2 = (b.toList.drop k).toArray := by
  have e : sliceBounds (some (k : Int)) none none b.size = (((k : Nat) : Int), ((b.size : Nat) : Int), 1) := by
    simp [sliceBounds]
    omega
  rw [e]
  unfold Bytes.sliced
  dsimp only
  rw [sliceRange_one, pick_run]
  congr 1
  rw [List.take_of_length_le (by simp)]

theorem W_newBytearray {x : Array UInt8} {Q : Value → Heap → Prop} (hz : x.size ≤ sizeLine) (q : Q (.ref h.objs.size) (h.push (baO x))) : W w A (Bytes.newBytearray x) Q h :=
  W_any fun s e => wpAny_newObj_type (by subst e; exact ⟨⟨rfl, rfl⟩, q⟩) hz
theorem W_newSlice {x y z : Value} {Q : Value → Heap → Prop} (q : Q (.ref h.objs.size) (h.push (slO x y z))) : W w A (newFields "slice" [x, y, z]) Q h :=
  W_any fun s e => wpAny_newObj_type (by subst e; exact ⟨⟨rfl, rfl⟩, q⟩) (by show 3 ≤ sizeLine + 2; decide)

/-- B[k:] -/
theorem W_getFrom {k : Int} {t : Tok} {Q : Value → Heap → Prop} (hb : h.get? a = some (baO buf)) (hs : h.get? sl = some (slO (.int k t) .none .none)) (h0 : 0 ≤ k) (h1 : k ≤ buf.size) (hz : buf.size ≤ sizeLine)
    (q : Q (.ref h.objs.size) (h.push (baO (buf.toList.drop k.toNat).toArray))) : W w A (getItem (.ref a) (.ref sl)) Q h := by
  obtain ⟨k, rfl⟩ := Int.eq_ofNat_of_zero_le h0
  refine W_getItem_slot ⟨_, hb, rfl⟩ (by decide) BA.slot_getitem (by decide +kernel) BA.entry_getitem (BA.args_getitem _ _) ?_
  unfold Builtin.«bytearray.__getitem__»
  refine W_bind (W_of_eq (a := (.ref a, [.ref sl])) rfl ?_)
  dsimp only
  refine W_bind (W_looks (looks_subscript_slice hs) ?_)
  dsimp only
  refine W_bind (W_looks (looks_typeOf hs rfl) ?_)
  refine W_if_neg (by decide) ?_
  refine W_bind (W_looks (looks_sliceParts hs (.int _ _) .none) ?_)
  refine W_bind (W_looks (looks_pay hb) ?_)
  refine W_bind (W_of_eq (sliceIndices_raw (some (k : Int)) none none buf.size (by simp)) ?_)
  rw [sliced_from buf k (by omega)]
  exact W_bind (W_newBytearray (by simp; omega) (W_pure ⟨_, rfl, q⟩))

theorem bounds2 (lo hi : Nat) (n : Nat) (h1 : lo ≤ hi) (h2 : hi ≤ n) : sliceBounds (some (lo : Int)) (some (hi : Int)) none n = ((lo : Int), (hi : Int), 1) := by
  simp [sliceBounds]; omega
variable {K : Frag} {H0 : Heap} {gs : List Str} {ls : List (Str × Option Value)} {l : List (Addr × Obj)}
/-- B[lo:hi] = x, a bytes of the same size -/
theorem W_setSliceBytes {lo hi : Int} {t u v : Tok} {x : Array UInt8} {Q : Unit → Heap → Prop} (D : Here K w H0 env gs ls h ((a, baO buf) :: (sl, slO (.int lo t) (.int hi u) .none) :: l))
    (h0 : 0 ≤ lo) (h1 : lo ≤ hi) (h2 : hi ≤ buf.size) (hz : buf.size ≤ sizeLine) (hx : (x.size : Int) = hi - lo)
    (q : ∀ h', Here K w H0 env gs ls h' ((a, baO (buf.extract 0 lo.toNat ++ x ++ buf.extract hi.toNat buf.size)) :: l) → Q () h') : W w A (setItem (.ref a) (.ref sl) (.bytes x v)) Q h := by
  obtain ⟨lo, rfl⟩ := Int.eq_ofNat_of_zero_le h0
  obtain ⟨hi, rfl⟩ := Int.eq_ofNat_of_zero_le (Int.le_trans h0 h1)
  have hx' : x.size = hi - lo := by omega
  have hxz : x.size ≤ sizeLine := by omega
  refine W_setItem_slot ⟨_, D.at0, rfl⟩ (by decide) BA.slot_setitem (by decide +kernel) BA.entry_setitem (BA.args_setitem _ _ _) ?_
  unfold Builtin.«bytearray.__setitem__»
  refine W_if_neg Bool.false_ne_true ?_
  dsimp only
  refine W_bind (W_looks (looks_subscript_slice D.at1) ?_)
  dsimp only
  refine W_bind (W_looks (looks_typeOf D.at1 rfl) ?_)
  refine W_if_neg (by decide) ?_
  refine W_bind (W_looks (looks_sliceParts D.at1 (.int _ _) (.int _ _)) ?_)
  have isI : ∀ {T : String} {r : Bool} {h : Heap}, isSubtype (.type "bytes") (.type T) = pure r → Looks (MW w) h (isInstance (.bytes x v) (.type T)) r := fun e A Q E s k q => wpAny_isInstance (v := .bytes x v) (T := "bytes") rfl e q
  refine W_bind (W_looks (isI BA.bsub_ba) ?_)
  refine W_if_pos rfl ?_
  have sp : ∀ {name : Str} {r : Option Value} {h : Heap}, typeLookup (.type "bytes") name = pure r → Looks (MW w) h (specialOf (.bytes x v) name) r := fun e => looks_specialV (T := "bytes") rfl e
  refine W_bind (W_looks (looks_or ((sp BA.bidx).andThen .now) (looks_or ((sp BA.bint).andThen .now) (looks_or ((sp BA.bflt).andThen .now) (isI BA.bsub_cx)))) ?_)
  refine W_bind (W_of_eq (a := none) rfl ?_)
  refine W_if_neg (by decide) ?_
  refine W_bind (W_rule ?_)
  refine W_bind (W_baOf D hxz fun h₁ s D₁ => ?_)
  refine W_bind (W_holding (W_looks (looks_sliceParts D₁.at2 (.int _ _) (.int _ _)) ?_))
  refine W_bind (W_looks (looks_pay D₁.at0) ?_)
  refine W_bind (W_looks (looks_pay D₁.at1) ?_)
  refine W_bind (W_of_eq (sliceIndices_raw (some (lo : Int)) (some (hi : Int)) none buf.size (by simp)) ?_)
  rw [bounds2 lo hi buf.size (by omega) (by omega)]
  refine W_if_pos rfl ?_
  refine W_bind (W_rule ?_)
  refine W_if_neg ?_ ?_
  · simp only [bne_iff_ne, ne_eq, Decidable.not_not]; omega
  refine W_bind (W_write D₁.at1 ?_ fun h₂ T => W_pure ⟨rfl, ?_⟩)
  · simp only [Array.size_append, Array.size_extract]; omega
  have D₂ := (D₁.turn1 T).drop.drop1
  rw [show Int.toNat (max (lo : Int) (hi : Int)) = hi by omega] at D₂
  exact q _ D₂
/-- B[k:] = S, S a bytearray -/
theorem W_setFromBA {lo : Int} {t : Tok} {S : Addr} {src : Array UInt8} {Q : Unit → Heap → Prop} (D : Here K w H0 env gs ls h ((a, baO buf) :: (S, baO src) :: (sl, slO (.int lo t) .none .none) :: l))
    (h0 : 0 ≤ lo) (h1 : lo ≤ buf.size) (hz : buf.size ≤ sizeLine) (hx : (src.size : Int) = buf.size - lo)
    (q : ∀ h', Here K w H0 env gs ls h' ((a, baO (buf.extract 0 lo.toNat ++ src)) :: (S, baO src) :: l) → Q () h') : W w A (setItem (.ref a) (.ref sl) (.ref S)) Q h := by
  obtain ⟨lo, rfl⟩ := Int.eq_ofNat_of_zero_le h0
  have hne : a ≠ S := fun e => by have := D.led.nd; simp [e] at this
  refine W_setItem_slot ⟨_, D.at0, rfl⟩ (by decide) BA.slot_setitem (by decide +kernel) BA.entry_setitem (BA.args_setitem _ _ _) ?_
  unfold Builtin.«bytearray.__setitem__»
  refine W_if_neg Bool.false_ne_true ?_
  dsimp only
  refine W_bind (W_looks (looks_subscript_slice D.at2) ?_)
  dsimp only
  refine W_bind (W_looks (looks_typeOf D.at2 rfl) ?_)
  refine W_if_neg (by decide) ?_
  refine W_bind (W_looks (looks_sliceParts D.at2 (.int _ _) .none) ?_)
  have e : Bytes.sameRef (.ref a) (.ref S) = false := beq_eq_false_iff_ne.mpr hne
  rw [e]
  refine W_bind (W_looks (looks_inst D.at1 rfl BA.sub_self) ?_)
  refine W_if_neg (by decide) ?_
  refine W_bind (W_looks (looks_pay D.at1) ?_)
  refine W_bind (W_looks (looks_pay D.at0) ?_)
  refine W_bind (W_of_eq (sliceIndices_raw (some (lo : Int)) none none buf.size (by simp)) ?_)
  have eb : sliceBounds (some (lo : Int)) none none buf.size = ((lo : Int), (buf.size : Int), 1) := by simp [sliceBounds]; omega
  rw [eb]
  refine W_if_pos rfl ?_
  refine W_bind (W_rule ?_)
  refine W_if_neg ?_ ?_
  · simp only [bne_iff_ne, ne_eq, Decidable.not_not]; omega
  refine W_bind (W_write D.at0 ?_ fun h₂ T => W_pure ⟨rfl, ?_⟩)
  · simp only [Array.size_append, Array.size_extract]; omega
  have D₂ := (D.turn T).drop2
  rw [show Int.toNat (max (lo : Int) (buf.size : Int)) = buf.size by omega, show buf.extract buf.size = #[] by simp, Array.append_empty] at D₂
  exact q _ D₂
/-- B[i] = x -/
theorem W_setByte {i x : Int} {t u : Tok} {Q : Unit → Heap → Prop} (D : Here K w H0 env gs ls h ((a, baO buf) :: l)) (h0 : 0 ≤ i) (h1 : i < buf.size) (hz : buf.size ≤ sizeLine) (x0 : 0 ≤ x) (x1 : x < 256)
    (q : ∀ h', Here K w H0 env gs ls h' ((a, baO (buf.setIfInBounds i.toNat x.toNat.toUInt8)) :: l) → Q () h') : W w A (setItem (.ref a) (.int i t) (.int x u)) Q h := by
  refine W_setItem_slot ⟨_, D.at0, rfl⟩ (by decide) BA.slot_setitem (by decide +kernel) BA.entry_setitem (BA.args_setitem _ _ _) ?_
  unfold Builtin.«bytearray.__setitem__»
  refine W_if_neg Bool.false_ne_true ?_
  dsimp only
  refine W_bind (W_looks (looks_subscript_int h0 (by omega)) ?_)
  dsimp only
  refine W_bind (m := Bytes.byteValue _) ?_
  · unfold Bytes.byteValue
    refine W_bind (W_of_eq (a := x) rfl ?_)
    refine W_if_neg (by simp; omega) ?_
    refine W_pure ?_
    refine W_bind (W_looks (looks_pay D.at0) ?_)
    have : seqIndex? i buf.size = some i.toNat := by
      have hn : ¬ i < 0 := by omega
      simp [seqIndex?, hn, h0, h1]
    rw [this]
    refine W_bind (W_write D.at0 (by simpa using hz) fun h₂ T => W_pure ⟨rfl, q _ (D.turn T)⟩)
theorem order_eq : ∀ (x y : List UInt8), Bytes.order x y = .eq ↔ x = y
  | [], [] => by simp [Bytes.order]
  | [], _ :: _ => by simp [Bytes.order]
  | _ :: _, [] => by simp [Bytes.order]
  | x :: xs, y :: ys => by
    unfold Bytes.order
    split
    · rename_i h; simp; intro e; subst e; exact absurd h (by simp)
    · split
      · rename_i h1 h2; simp; intro e; subst e; exact absurd h2 (by simp)
      · rename_i h1 h2
        rw [order_eq xs ys]
        have : x = y := UInt8.le_antisymm (UInt8.not_lt.mp h2) (UInt8.not_lt.mp h1)
        simp [this]
end
end

-- FBE
section
open PySem PySem.W PySem.Calls PyProof.Rows Builtin

/-- as W, under any stack -/
def V {α : Type} (w : World) (A : Around) (t : Sem α) (Q : α → Heap → Prop) (h : Heap) : Prop :=
  ∀ s, s.heap = h → wpAny (MW w) A t (fun a s' => Rest s s' ∧ Q a s'.heap) (fun _ _ => False) s
section
variable {α β : Type} {w : World} {A : Around} {h : Heap}
theorem V_pure {a : α} {Q : α → Heap → Prop} (q : Q a h) : V w A (pure a) Q h := fun s e => wpAny_pure ⟨Rest.refl s, e ▸ q⟩
theorem V_mono {t : Sem α} {Q Q' : α → Heap → Prop} (x : V w A t Q h) (q : ∀ a h', Q a h' → Q' a h') : V w A t Q' h :=
  fun s e => wpAny_mono (x s e) (fun a s' y => ⟨y.1, q _ _ y.2⟩) fun _ _ y => y
theorem V_bind {m : Sem α} {f : α → Sem β} {Q : β → Heap → Prop} (x : V w A m (fun a h' => V w A (f a) Q h') h) : V w A (m >>= f) Q h :=
  fun s e => wpAny_bind (wpAny_mono (x s e) (fun a s' y => wpAny_mono (y.2 s' rfl) (fun b s'' z => ⟨y.1.trans z.1, z.2⟩) fun _ _ z => z) fun _ _ y => y)
theorem V_of_eq {t : Sem α} {a : α} {Q : α → Heap → Prop} (e : t = pure a) (q : Q a h) : V w A t Q h := by rw [e]; exact V_pure q
theorem V_looks {t : Sem α} {r : α} {Q : α → Heap → Prop} (x : Looks (MW w) h t r) (q : Q r h) : V w A t Q h :=
  fun s e => x A _ _ s (fun b o y => by rw [e]; exact y) ⟨Rest.refl s, e ▸ q⟩
theorem V_if_pos {c : Prop} [Decidable c] {a b : Sem α} {Q : α → Heap → Prop} (hc : c) (x : V w A a Q h) : V w A (if c then a else b) Q h := by rw [if_pos hc]; exact x
theorem V_if_neg {c : Prop} [Decidable c] {a b : Sem α} {Q : α → Heap → Prop} (hc : ¬ c) (x : V w A b Q h) : V w A (if c then a else b) Q h := by rw [if_neg hc]; exact x
theorem V_gate {t x : Sem α} {c : Prop} [Decidable c] {a : α} {Q : α → Heap → Prop} (e : t = if c then x else pure a) (hc : ¬ c) (q : Q a h) : V w A t Q h := by rw [e, if_neg hc]; exact V_pure q
theorem V_attempt {m : Sem α} {Q : Except Value α → Heap → Prop} (x : V w A m (fun a => Q (.ok a)) h) : V w A m.attempt Q h :=
  fun s e => wpAny_attempt (wpAny_mono (x s e) (fun _ _ y => y) fun _ _ y => y.elim)
theorem V_write {a : Addr} {buf : Array UInt8} {f : Array UInt8 → Array UInt8} {Q : Unit → Heap → Prop} (hb : h.get? a = some (baO buf)) (hz : (f buf).size ≤ sizeLine) (q : ∀ h', Turned h h' a (baO (f buf)) → Q () h') : V w A (Bytes.write (.ref a) f) Q h := by
  unfold Bytes.write updateBytearray
  refine V_bind (fun s e => wpAny_load (e ▸ hb) ⟨Rest.refl s, e ▸ ?_⟩)
  dsimp only
  have T := Turned.upd (f := Obj.mapBytearray f) hb rfl
  refine V_bind (fun s e => wpAny_update (e ▸ hb) ⟨⟨rfl, rfl⟩, e ▸ ?_⟩)
  unfold lookBehind
  refine V_bind (fun s e => wpAny_loadPart (o := Obj.mapBytearray f (baO buf)) (e ▸ T.at_) ⟨Rest.refl s, e ▸ ?_⟩)
  have : (Obj.mapBytearray f (baO buf)).data.pastItsLine = none := by
    show (if (f buf).size > sizeLine then some "bytearray:memory" else none) = none
    rw [if_neg (Nat.not_lt.mpr hz)]
  dsimp only
  rw [this]
  exact V_pure (q _ T)
end

namespace ST
theorem plain : PlainAttrs "_struct.Struct" := ⟨⟨"_struct.Struct.__getattribute__", by rw [typeLookup_type, builtinLookup_eq_fast]; kernel_rfl, by decide +kernel⟩, by rw [typeLookup_type, builtinLookup_eq_fast]; kernel_rfl⟩
theorem slot_pack : Slot "_struct.Struct" "pack_into" "_struct.Struct.pack_into" :=
  .of (owner := "_struct.Struct") (n := "pack_into") (by rw [typeLookup_type, builtinLookup_eq_fast]; kernel_rfl) (by decide +kernel) (by decide +kernel) (by decide +kernel)
    (by first | exact .inl (by decide +kernel) | exact .inr (by decide +kernel)) (by rw [isSubtype_type]; kernel_rfl)
theorem type_pack : typeOf (.builtin "_struct.Struct.pack_into") = pure (.type "method_descriptor") := by kernel_rfl
theorem entry_pack : entryFor table "_struct.Struct.pack_into" = some Builtin.«_struct.Struct.pack_into» := entryFor_of_tree (by kernel_rfl)
theorem entry_held : entryFor table "_struct.pack_into.held" = some Builtin.«_struct.pack_into.held» := entryFor_of_tree (by kernel_rfl)
theorem args_pack (a b c d : Value) : argsOk "_struct.Struct.pack_into" ⟨[a, b, c, d], []⟩ := by unfold argsOk; kernel_rfl
end ST

/-- raw, laid into out from p on -/
def plc (out : Array UInt8) (p : Nat) (raw : Array UInt8) : Array UInt8 := raw.toList.zipIdx.foldl (fun out (c, k) => out.setIfInBounds (p + k) c) out
theorem plc_aux (p : Nat) : ∀ (raw : List UInt8) (k : Nat) (X Y Z : List UInt8), X.length = p + k → Y.length = raw.length →
    ((raw.zipIdx k).foldl (fun out (c, k) => out.setIfInBounds (p + k) c) (X ++ Y ++ Z).toArray) = (X ++ raw ++ Z).toArray
  | [], k, X, Y, Z, hX, hY => by
    have : Y = [] := List.length_eq_zero_iff.mp hY
    simp [this]
  | c :: r, k, X, [], Z, hX, hY => by simp at hY
  | c :: r, k, X, y :: Y, Z, hX, hY => by
    rw [List.zipIdx_cons, List.foldl_cons]
    have e : (X ++ y :: Y ++ Z).toArray.setIfInBounds (p + k) c = ((X ++ [c]) ++ Y ++ Z).toArray := by
      apply Array.toList_inj.mp
      rw [Array.toList_setIfInBounds]
      simp [List.set_append, hX]
    show List.foldl _ ((X ++ y :: Y ++ Z).toArray.setIfInBounds (p + k) c) _ = _
    rw [e, plc_aux p r (k + 1) (X ++ [c]) Y Z (by simp [hX]; omega) (by simpa using hY)]
    simp
theorem plc_split (X Y Z : List UInt8) (p : Nat) (raw : Array UInt8) (hX : X.length = p) (hY : Y.length = raw.size) : plc (X ++ Y ++ Z).toArray p raw = (X ++ raw.toList ++ Z).toArray :=
  plc_aux p raw.toList 0 X Y Z hX (by simpa using hY)
theorem split3 (out : Array UInt8) (p n : Nat) (hl : p + n ≤ out.size) : ∃ X Y Z : List UInt8, out = (X ++ Y ++ Z).toArray ∧ X.length = p ∧ Y.length = n :=
  ⟨out.toList.take p, (out.toList.drop p).take n, (out.toList.drop p).drop n, by rw [List.append_assoc, List.take_append_drop, List.take_append_drop], by simp; omega, by simp; omega⟩
theorem plc_size (out : Array UInt8) (p : Nat) (raw : Array UInt8) : (plc out p raw).size = out.size := by
  unfold plc
  generalize raw.toList.zipIdx = l
  induction l generalizing out with
  | nil => rfl
  | cons x r ih => rw [List.foldl_cons, ih, Array.size_setIfInBounds]
theorem plc_twice (out : Array UInt8) (p : Nat) (x y : Array UInt8) (hl : p + x.size ≤ out.size) (e : x.size = y.size) : plc (plc out p x) p y = plc out p y := by
  obtain ⟨X, Y, Z, rfl, hX, hY⟩ := split3 out p x.size hl
  rw [plc_split X Y Z p x hX hY, plc_split X x.toList Z p y hX (by simpa using e), plc_split X Y Z p y hX (by omega)]

def encI (size : Nat) (i : Int) : Array UInt8 := Struct.intBytes false size i
theorem encI_size (size : Nat) (i : Int) : (encI size i).size = size := by simp [encI, Struct.intBytes, Memoryview.toLittleEndian]

/-- the code of one kind, held: what it lays -/
def Held (w : World) (S : Addr) (fmt : Array UInt8) (x : Value) (raw : Array UInt8) : Prop :=
  ∀ (A : Around) (h : Heap) (a : Addr) (buf : Array UInt8) (off : Int) (ot ft : Tok) (Q : PySem.Fin → Heap → Prop), h.get? a = some (baO buf) → buf.size ≤ sizeLine → 0 ≤ off → off + raw.size ≤ buf.size →
    (∀ h', Turned h h' a (baO (plc buf off.toNat raw)) → Q (.done (.ret .none)) h') →
    V w A (Builtin.«_struct.pack_into.held» ⟨[.ref a, .ref a, rawInt 0, rawInt buf.size, .ref S, .bytes fmt ft, .int off ot, x], []⟩) Q h
theorem held_B (w : World) (S : Addr) {n : Int} {nt : Tok} (n0 : 0 ≤ n) (n1 : n ≤ 255) : Held w S #[60, 66] (.int n nt) (encI 1 n) := by
  intro A h a buf off ot ft Q hb hz h0 h1 q
  rw [show (encI 1 n).size = 1 from encI_size _ _] at h1
  unfold Builtin.«_struct.pack_into.held»
  refine V_bind (V_of_eq (a := #[60, 66]) rfl ?_)
  refine V_bind (V_of_eq (t := Struct.parse _) (a := ⟨false, false, [⟨'B', 1, 0, 1⟩], 1, 1⟩) (by kernel_rfl) ?_)
  unfold Struct.packHeld
  refine V_bind (V_of_eq (a := off) rfl ?_)
  have fit : Bytes.fitsIndex off = true := by simp only [Bytes.fitsIndex, Bool.and_eq_true, decide_eq_true_eq]; rw [sizeLine_eq] at hz; omega
  refine V_if_neg (by rw [fit]; decide) ?_
  refine V_bind (m := Struct.placeIn _ _ _ _ _ _) ?_
  unfold Struct.placeIn
  refine V_if_neg (by omega) ?_
  refine V_if_neg (by dsimp only; split <;> omega) ?_
  refine V_pure ?_
  rw [if_neg (show ¬ off < 0 by omega), show Int.toNat 0 + off.toNat = off.toNat from Nat.zero_add _]
  refine V_bind (V_write hb (by show (plc buf _ _).size ≤ _; rw [plc_size]; exact hz) fun h₁ T => ?_)
  have T : Turned h h₁ a (baO (plc buf off.toNat (Array.replicate 1 0))) := T
  unfold Struct.packEach
  dsimp only
  refine V_bind ?_
  rw [List.forIn_cons]
  refine V_bind ?_
  rw [if_neg (show ¬ ((('B' : Char) == 'x') = true) by decide), if_neg (show ¬ ((('B' : Char) == 's' || ('B' : Char) == 'p') = true) by decide)]
  rw [Std.Legacy.Range.forIn_eq_forIn_range', show List.range' (0 : Nat) (Std.Legacy.Range.size [0:1]) 1 = [0] from rfl, List.forIn_cons]
  refine V_bind (V_bind (V_bind ?_))
  dsimp only
  refine V_bind ?_
  refine (V_gate (c := (decide (n < 0) || decide (n > 255)) = true) (a := encI 1 n) (by with_unfolding_all rfl) (by simp; omega) ?_)
  refine V_bind (V_write T.at_ (by show (plc _ _ _).size ≤ _; rw [plc_size, plc_size]; exact hz) fun h₂ T₂ => V_pure ?_)
  dsimp only
  rw [List.forIn_nil]
  refine V_pure (V_pure ?_)
  dsimp only
  rw [List.forIn_nil]
  refine V_pure (V_pure (V_pure (q _ ?_)))
  have e : plc (plc buf off.toNat (Array.replicate 1 0)) (off.toNat + (0 + 0 * 1)) (encI 1 n) = plc buf off.toNat (encI 1 n) :=
    plc_twice buf off.toNat (Array.replicate 1 0) (encI 1 n) (by simp; omega) (by rw [show (encI 1 n).size = 1 from encI_size _ _]; simp)
  rw [← e]
  exact T.trans T₂
theorem held_H (w : World) (S : Addr) {n : Int} {nt : Tok} (n0 : 0 ≤ n) (n1 : n ≤ 65535) : Held w S #[60, 72] (.int n nt) (encI 2 n) := by
  intro A h a buf off ot ft Q hb hz h0 h1 q
  rw [show (encI 2 n).size = 2 from encI_size _ _] at h1
  unfold Builtin.«_struct.pack_into.held»
  refine V_bind (V_of_eq (a := #[60, 72]) rfl ?_)
  refine V_bind (V_of_eq (t := Struct.parse _) (a := ⟨false, false, [⟨'H', 1, 0, 2⟩], 2, 1⟩) (by kernel_rfl) ?_)
  unfold Struct.packHeld
  refine V_bind (V_of_eq (a := off) rfl ?_)
  have fit : Bytes.fitsIndex off = true := by simp only [Bytes.fitsIndex, Bool.and_eq_true, decide_eq_true_eq]; rw [sizeLine_eq] at hz; omega
  refine V_if_neg (by rw [fit]; decide) ?_
  refine V_bind (m := Struct.placeIn _ _ _ _ _ _) ?_
  unfold Struct.placeIn
  refine V_if_neg (by omega) ?_
  refine V_if_neg (by dsimp only; split <;> omega) ?_
  refine V_pure ?_
  rw [if_neg (show ¬ off < 0 by omega), show Int.toNat 0 + off.toNat = off.toNat from Nat.zero_add _]
  refine V_bind (V_write hb (by show (plc buf _ _).size ≤ _; rw [plc_size]; exact hz) fun h₁ T => ?_)
  have T : Turned h h₁ a (baO (plc buf off.toNat (Array.replicate 2 0))) := T
  unfold Struct.packEach
  dsimp only
  refine V_bind ?_
  rw [List.forIn_cons]
  refine V_bind ?_
  rw [if_neg (show ¬ ((('H' : Char) == 'x') = true) by decide), if_neg (show ¬ ((('H' : Char) == 's' || ('H' : Char) == 'p') = true) by decide)]
  rw [Std.Legacy.Range.forIn_eq_forIn_range', show List.range' (0 : Nat) (Std.Legacy.Range.size [0:1]) 1 = [0] from rfl, List.forIn_cons]
  refine V_bind (V_bind (V_bind ?_))
  dsimp only
  refine V_bind ?_
  refine (V_gate (c := (decide (n < 0) || decide (n > 65535)) = true) (a := encI 2 n) (by with_unfolding_all rfl) (by simp; omega) ?_)
  refine V_bind (V_write T.at_ (by show (plc _ _ _).size ≤ _; rw [plc_size, plc_size]; exact hz) fun h₂ T₂ => V_pure ?_)
  dsimp only
  rw [List.forIn_nil]
  refine V_pure (V_pure ?_)
  dsimp only
  rw [List.forIn_nil]
  refine V_pure (V_pure (V_pure (q _ ?_)))
  have e : plc (plc buf off.toNat (Array.replicate 2 0)) (off.toNat + (0 + 0 * 2)) (encI 2 n) = plc buf off.toNat (encI 2 n) :=
    plc_twice buf off.toNat (Array.replicate 2 0) (encI 2 n) (by simp; omega) (by rw [show (encI 2 n).size = 2 from encI_size _ _]; simp)
  rw [← e]
  exact T.trans T₂
theorem held_I (w : World) (S : Addr) {n : Int} {nt : Tok} (n0 : 0 ≤ n) (n1 : n ≤ 4294967295) : Held w S #[60, 73] (.int n nt) (encI 4 n) := by
  intro A h a buf off ot ft Q hb hz h0 h1 q
  rw [show (encI 4 n).size = 4 from encI_size _ _] at h1
  unfold Builtin.«_struct.pack_into.held»
  refine V_bind (V_of_eq (a := #[60, 73]) rfl ?_)
  refine V_bind (V_of_eq (t := Struct.parse _) (a := ⟨false, false, [⟨'I', 1, 0, 4⟩], 4, 1⟩) (by kernel_rfl) ?_)
  unfold Struct.packHeld
  refine V_bind (V_of_eq (a := off) rfl ?_)
  have fit : Bytes.fitsIndex off = true := by simp only [Bytes.fitsIndex, Bool.and_eq_true, decide_eq_true_eq]; rw [sizeLine_eq] at hz; omega
  refine V_if_neg (by rw [fit]; decide) ?_
  refine V_bind (m := Struct.placeIn _ _ _ _ _ _) ?_
  unfold Struct.placeIn
  refine V_if_neg (by omega) ?_
  refine V_if_neg (by dsimp only; split <;> omega) ?_
  refine V_pure ?_
  rw [if_neg (show ¬ off < 0 by omega), show Int.toNat 0 + off.toNat = off.toNat from Nat.zero_add _]
  refine V_bind (V_write hb (by show (plc buf _ _).size ≤ _; rw [plc_size]; exact hz) fun h₁ T => ?_)
  have T : Turned h h₁ a (baO (plc buf off.toNat (Array.replicate 4 0))) := T
  unfold Struct.packEach
  dsimp only
  refine V_bind ?_
  rw [List.forIn_cons]
  refine V_bind ?_
  rw [if_neg (show ¬ ((('I' : Char) == 'x') = true) by decide), if_neg (show ¬ ((('I' : Char) == 's' || ('I' : Char) == 'p') = true) by decide)]
  rw [Std.Legacy.Range.forIn_eq_forIn_range', show List.range' (0 : Nat) (Std.Legacy.Range.size [0:1]) 1 = [0] from rfl, List.forIn_cons]
  refine V_bind (V_bind (V_bind ?_))
  dsimp only
  refine V_bind ?_
  refine (V_gate (c := (decide (n < 0) || decide (n > 4294967295)) = true) (a := encI 4 n) (by with_unfolding_all rfl) (by simp; omega) ?_)
  refine V_bind (V_write T.at_ (by show (plc _ _ _).size ≤ _; rw [plc_size, plc_size]; exact hz) fun h₂ T₂ => V_pure ?_)
  dsimp only
  rw [List.forIn_nil]
  refine V_pure (V_pure ?_)
  dsimp only
  rw [List.forIn_nil]
  refine V_pure (V_pure (V_pure (q _ ?_)))
  have e : plc (plc buf off.toNat (Array.replicate 4 0)) (off.toNat + (0 + 0 * 4)) (encI 4 n) = plc buf off.toNat (encI 4 n) :=
    plc_twice buf off.toNat (Array.replicate 4 0) (encI 4 n) (by simp; omega) (by rw [show (encI 4 n).size = 4 from encI_size _ _]; simp)
  rw [← e]
  exact T.trans T₂
theorem held_Q (w : World) (S : Addr) {n : Int} {nt : Tok} (n0 : 0 ≤ n) (n1 : n ≤ 18446744073709551615) : Held w S #[60, 81] (.int n nt) (encI 8 n) := by
  intro A h a buf off ot ft Q hb hz h0 h1 q
  rw [show (encI 8 n).size = 8 from encI_size _ _] at h1
  unfold Builtin.«_struct.pack_into.held»
  refine V_bind (V_of_eq (a := #[60, 81]) rfl ?_)
  refine V_bind (V_of_eq (t := Struct.parse _) (a := ⟨false, false, [⟨'Q', 1, 0, 8⟩], 8, 1⟩) (by kernel_rfl) ?_)
  unfold Struct.packHeld
  refine V_bind (V_of_eq (a := off) rfl ?_)
  have fit : Bytes.fitsIndex off = true := by simp only [Bytes.fitsIndex, Bool.and_eq_true, decide_eq_true_eq]; rw [sizeLine_eq] at hz; omega
  refine V_if_neg (by rw [fit]; decide) ?_
  refine V_bind (m := Struct.placeIn _ _ _ _ _ _) ?_
  unfold Struct.placeIn
  refine V_if_neg (by omega) ?_
  refine V_if_neg (by dsimp only; split <;> omega) ?_
  refine V_pure ?_
  rw [if_neg (show ¬ off < 0 by omega), show Int.toNat 0 + off.toNat = off.toNat from Nat.zero_add _]
  refine V_bind (V_write hb (by show (plc buf _ _).size ≤ _; rw [plc_size]; exact hz) fun h₁ T => ?_)
  have T : Turned h h₁ a (baO (plc buf off.toNat (Array.replicate 8 0))) := T
  unfold Struct.packEach
  dsimp only
  refine V_bind ?_
  rw [List.forIn_cons]
  refine V_bind ?_
  rw [if_neg (show ¬ ((('Q' : Char) == 'x') = true) by decide), if_neg (show ¬ ((('Q' : Char) == 's' || ('Q' : Char) == 'p') = true) by decide)]
  rw [Std.Legacy.Range.forIn_eq_forIn_range', show List.range' (0 : Nat) (Std.Legacy.Range.size [0:1]) 1 = [0] from rfl, List.forIn_cons]
  refine V_bind (V_bind (V_bind ?_))
  dsimp only
  refine V_bind ?_
  refine (V_gate (c := (decide (n < 0) || decide (n > 18446744073709551615)) = true) (a := encI 8 n) (by with_unfolding_all rfl) (by simp; omega) ?_)
  refine V_bind (V_write T.at_ (by show (plc _ _ _).size ≤ _; rw [plc_size, plc_size]; exact hz) fun h₂ T₂ => V_pure ?_)
  dsimp only
  rw [List.forIn_nil]
  refine V_pure (V_pure ?_)
  dsimp only
  rw [List.forIn_nil]
  refine V_pure (V_pure (V_pure (q _ ?_)))
  have e : plc (plc buf off.toNat (Array.replicate 8 0)) (off.toNat + (0 + 0 * 8)) (encI 8 n) = plc buf off.toNat (encI 8 n) :=
    plc_twice buf off.toNat (Array.replicate 8 0) (encI 8 n) (by simp; omega) (by rw [show (encI 8 n).size = 8 from encI_size _ _]; simp)
  rw [← e]
  exact T.trans T₂
theorem held_b (w : World) (S : Addr) {n : Int} {nt : Tok} (n0 : -128 ≤ n) (n1 : n ≤ 127) : Held w S #[60, 98] (.int n nt) (encI 1 n) := by
  intro A h a buf off ot ft Q hb hz h0 h1 q
  rw [show (encI 1 n).size = 1 from encI_size _ _] at h1
  unfold Builtin.«_struct.pack_into.held»
  refine V_bind (V_of_eq (a := #[60, 98]) rfl ?_)
  refine V_bind (V_of_eq (t := Struct.parse _) (a := ⟨false, false, [⟨'b', 1, 0, 1⟩], 1, 1⟩) (by kernel_rfl) ?_)
  unfold Struct.packHeld
  refine V_bind (V_of_eq (a := off) rfl ?_)
  have fit : Bytes.fitsIndex off = true := by simp only [Bytes.fitsIndex, Bool.and_eq_true, decide_eq_true_eq]; rw [sizeLine_eq] at hz; omega
  refine V_if_neg (by rw [fit]; decide) ?_
  refine V_bind (m := Struct.placeIn _ _ _ _ _ _) ?_
  unfold Struct.placeIn
  refine V_if_neg (by omega) ?_
  refine V_if_neg (by dsimp only; split <;> omega) ?_
  refine V_pure ?_
  rw [if_neg (show ¬ off < 0 by omega), show Int.toNat 0 + off.toNat = off.toNat from Nat.zero_add _]
  refine V_bind (V_write hb (by show (plc buf _ _).size ≤ _; rw [plc_size]; exact hz) fun h₁ T => ?_)
  have T : Turned h h₁ a (baO (plc buf off.toNat (Array.replicate 1 0))) := T
  unfold Struct.packEach
  dsimp only
  refine V_bind ?_
  rw [List.forIn_cons]
  refine V_bind ?_
  rw [if_neg (show ¬ ((('b' : Char) == 'x') = true) by decide), if_neg (show ¬ ((('b' : Char) == 's' || ('b' : Char) == 'p') = true) by decide)]
  rw [Std.Legacy.Range.forIn_eq_forIn_range', show List.range' (0 : Nat) (Std.Legacy.Range.size [0:1]) 1 = [0] from rfl, List.forIn_cons]
  refine V_bind (V_bind (V_bind ?_))
  dsimp only
  refine V_bind ?_
  refine (V_gate (c := (decide (n < -128) || decide (n > 127)) = true) (a := encI 1 n) (by with_unfolding_all rfl) (by simp; omega) ?_)
  refine V_bind (V_write T.at_ (by show (plc _ _ _).size ≤ _; rw [plc_size, plc_size]; exact hz) fun h₂ T₂ => V_pure ?_)
  dsimp only
  rw [List.forIn_nil]
  refine V_pure (V_pure ?_)
  dsimp only
  rw [List.forIn_nil]
  refine V_pure (V_pure (V_pure (q _ ?_)))
  have e : plc (plc buf off.toNat (Array.replicate 1 0)) (off.toNat + (0 + 0 * 1)) (encI 1 n) = plc buf off.toNat (encI 1 n) :=
    plc_twice buf off.toNat (Array.replicate 1 0) (encI 1 n) (by simp; omega) (by rw [show (encI 1 n).size = 1 from encI_size _ _]; simp)
  rw [← e]
  exact T.trans T₂
theorem held_h (w : World) (S : Addr) {n : Int} {nt : Tok} (n0 : -32768 ≤ n) (n1 : n ≤ 32767) : Held w S #[60, 104] (.int n nt) (encI 2 n) := by
  intro A h a buf off ot ft Q hb hz h0 h1 q
  rw [show (encI 2 n).size = 2 from encI_size _ _] at h1
  unfold Builtin.«_struct.pack_into.held»
  refine V_bind (V_of_eq (a := #[60, 104]) rfl ?_)
  refine V_bind (V_of_eq (t := Struct.parse _) (a := ⟨false, false, [⟨'h', 1, 0, 2⟩], 2, 1⟩) (by kernel_rfl) ?_)
  unfold Struct.packHeld
  refine V_bind (V_of_eq (a := off) rfl ?_)
  have fit : Bytes.fitsIndex off = true := by simp only [Bytes.fitsIndex, Bool.and_eq_true, decide_eq_true_eq]; rw [sizeLine_eq] at hz; omega
  refine V_if_neg (by rw [fit]; decide) ?_
  refine V_bind (m := Struct.placeIn _ _ _ _ _ _) ?_
  unfold Struct.placeIn
  refine V_if_neg (by omega) ?_
  refine V_if_neg (by dsimp only; split <;> omega) ?_
  refine V_pure ?_
  rw [if_neg (show ¬ off < 0 by omega), show Int.toNat 0 + off.toNat = off.toNat from Nat.zero_add _]
  refine V_bind (V_write hb (by show (plc buf _ _).size ≤ _; rw [plc_size]; exact hz) fun h₁ T => ?_)
  have T : Turned h h₁ a (baO (plc buf off.toNat (Array.replicate 2 0))) := T
  unfold Struct.packEach
  dsimp only
  refine V_bind ?_
  rw [List.forIn_cons]
  refine V_bind ?_
  rw [if_neg (show ¬ ((('h' : Char) == 'x') = true) by decide), if_neg (show ¬ ((('h' : Char) == 's' || ('h' : Char) == 'p') = true) by decide)]
  rw [Std.Legacy.Range.forIn_eq_forIn_range', show List.range' (0 : Nat) (Std.Legacy.Range.size [0:1]) 1 = [0] from rfl, List.forIn_cons]
  refine V_bind (V_bind (V_bind ?_))
  dsimp only
  refine V_bind ?_
  refine (V_gate (c := (decide (n < -32768) || decide (n > 32767)) = true) (a := encI 2 n) (by with_unfolding_all rfl) (by simp; omega) ?_)
  refine V_bind (V_write T.at_ (by show (plc _ _ _).size ≤ _; rw [plc_size, plc_size]; exact hz) fun h₂ T₂ => V_pure ?_)
  dsimp only
  rw [List.forIn_nil]
  refine V_pure (V_pure ?_)
  dsimp only
  rw [List.forIn_nil]
  refine V_pure (V_pure (V_pure (q _ ?_)))
  have e : plc (plc buf off.toNat (Array.replicate 2 0)) (off.toNat + (0 + 0 * 2)) (encI 2 n) = plc buf off.toNat (encI 2 n) :=
    plc_twice buf off.toNat (Array.replicate 2 0) (encI 2 n) (by simp; omega) (by rw [show (encI 2 n).size = 2 from encI_size _ _]; simp)
  rw [← e]
  exact T.trans T₂
theorem held_i (w : World) (S : Addr) {n : Int} {nt : Tok} (n0 : -2147483648 ≤ n) (n1 : n ≤ 2147483647) : Held w S #[60, 105] (.int n nt) (encI 4 n) := by
  intro A h a buf off ot ft Q hb hz h0 h1 q
  rw [show (encI 4 n).size = 4 from encI_size _ _] at h1
  unfold Builtin.«_struct.pack_into.held»
  refine V_bind (V_of_eq (a := #[60, 105]) rfl ?_)
  refine V_bind (V_of_eq (t := Struct.parse _) (a := ⟨false, false, [⟨'i', 1, 0, 4⟩], 4, 1⟩) (by kernel_rfl) ?_)
  unfold Struct.packHeld
  refine V_bind (V_of_eq (a := off) rfl ?_)
  have fit : Bytes.fitsIndex off = true := by simp only [Bytes.fitsIndex, Bool.and_eq_true, decide_eq_true_eq]; rw [sizeLine_eq] at hz; omega
  refine V_if_neg (by rw [fit]; decide) ?_
  refine V_bind (m := Struct.placeIn _ _ _ _ _ _) ?_
  unfold Struct.placeIn
  refine V_if_neg (by omega) ?_
  refine V_if_neg (by dsimp only; split <;> omega) ?_
  refine V_pure ?_
  rw [if_neg (show ¬ off < 0 by omega), show Int.toNat 0 + off.toNat = off.toNat from Nat.zero_add _]
  refine V_bind (V_write hb (by show (plc buf _ _).size ≤ _; rw [plc_size]; exact hz) fun h₁ T => ?_)
  have T : Turned h h₁ a (baO (plc buf off.toNat (Array.replicate 4 0))) := T
  unfold Struct.packEach
  dsimp only
  refine V_bind ?_
  rw [List.forIn_cons]
  refine V_bind ?_
  rw [if_neg (show ¬ ((('i' : Char) == 'x') = true) by decide), if_neg (show ¬ ((('i' : Char) == 's' || ('i' : Char) == 'p') = true) by decide)]
  rw [Std.Legacy.Range.forIn_eq_forIn_range', show List.range' (0 : Nat) (Std.Legacy.Range.size [0:1]) 1 = [0] from rfl, List.forIn_cons]
  refine V_bind (V_bind (V_bind ?_))
  dsimp only
  refine V_bind ?_
  refine (V_gate (c := (decide (n < -2147483648) || decide (n > 2147483647)) = true) (a := encI 4 n) (by with_unfolding_all rfl) (by simp; omega) ?_)
  refine V_bind (V_write T.at_ (by show (plc _ _ _).size ≤ _; rw [plc_size, plc_size]; exact hz) fun h₂ T₂ => V_pure ?_)
  dsimp only
  rw [List.forIn_nil]
  refine V_pure (V_pure ?_)
  dsimp only
  rw [List.forIn_nil]
  refine V_pure (V_pure (V_pure (q _ ?_)))
  have e : plc (plc buf off.toNat (Array.replicate 4 0)) (off.toNat + (0 + 0 * 4)) (encI 4 n) = plc buf off.toNat (encI 4 n) :=
    plc_twice buf off.toNat (Array.replicate 4 0) (encI 4 n) (by simp; omega) (by rw [show (encI 4 n).size = 4 from encI_size _ _]; simp)
  rw [← e]
  exact T.trans T₂
theorem held_q (w : World) (S : Addr) {n : Int} {nt : Tok} (n0 : -9223372036854775808 ≤ n) (n1 : n ≤ 9223372036854775807) : Held w S #[60, 113] (.int n nt) (encI 8 n) := by
  intro A h a buf off ot ft Q hb hz h0 h1 q
  rw [show (encI 8 n).size = 8 from encI_size _ _] at h1
  unfold Builtin.«_struct.pack_into.held»
  refine V_bind (V_of_eq (a := #[60, 113]) rfl ?_)
  refine V_bind (V_of_eq (t := Struct.parse _) (a := ⟨false, false, [⟨'q', 1, 0, 8⟩], 8, 1⟩) (by kernel_rfl) ?_)
  unfold Struct.packHeld
  refine V_bind (V_of_eq (a := off) rfl ?_)
  have fit : Bytes.fitsIndex off = true := by simp only [Bytes.fitsIndex, Bool.and_eq_true, decide_eq_true_eq]; rw [sizeLine_eq] at hz; omega
  refine V_if_neg (by rw [fit]; decide) ?_
  refine V_bind (m := Struct.placeIn _ _ _ _ _ _) ?_
  unfold Struct.placeIn
  refine V_if_neg (by omega) ?_
  refine V_if_neg (by dsimp only; split <;> omega) ?_
  refine V_pure ?_
  rw [if_neg (show ¬ off < 0 by omega), show Int.toNat 0 + off.toNat = off.toNat from Nat.zero_add _]
  refine V_bind (V_write hb (by show (plc buf _ _).size ≤ _; rw [plc_size]; exact hz) fun h₁ T => ?_)
  have T : Turned h h₁ a (baO (plc buf off.toNat (Array.replicate 8 0))) := T
  unfold Struct.packEach
  dsimp only
  refine V_bind ?_
  rw [List.forIn_cons]
  refine V_bind ?_
  rw [if_neg (show ¬ ((('q' : Char) == 'x') = true) by decide), if_neg (show ¬ ((('q' : Char) == 's' || ('q' : Char) == 'p') = true) by decide)]
  rw [Std.Legacy.Range.forIn_eq_forIn_range', show List.range' (0 : Nat) (Std.Legacy.Range.size [0:1]) 1 = [0] from rfl, List.forIn_cons]
  refine V_bind (V_bind (V_bind ?_))
  dsimp only
  refine V_bind ?_
  refine (V_gate (c := (decide (n < -9223372036854775808) || decide (n > 9223372036854775807)) = true) (a := encI 8 n) (by with_unfolding_all rfl) (by simp; omega) ?_)
  refine V_bind (V_write T.at_ (by show (plc _ _ _).size ≤ _; rw [plc_size, plc_size]; exact hz) fun h₂ T₂ => V_pure ?_)
  dsimp only
  rw [List.forIn_nil]
  refine V_pure (V_pure ?_)
  dsimp only
  rw [List.forIn_nil]
  refine V_pure (V_pure (V_pure (q _ ?_)))
  have e : plc (plc buf off.toNat (Array.replicate 8 0)) (off.toNat + (0 + 0 * 8)) (encI 8 n) = plc buf off.toNat (encI 8 n) :=
    plc_twice buf off.toNat (Array.replicate 8 0) (encI 8 n) (by simp; omega) (by rw [show (encI 8 n).size = 8 from encI_size _ _]; simp)
  rw [← e]
  exact T.trans T₂
theorem held_bool (w : World) (S : Addr) (b : Bool) : Held w S #[63] (.bool b) #[if b then (1 : UInt8) else 0] := by
  intro A h a buf off ot ft Q hb hz h0 h1 q
  rw [show (#[if b then (1 : UInt8) else 0]).size = 1 from rfl] at h1
  unfold Builtin.«_struct.pack_into.held»
  refine V_bind (V_of_eq (a := #[63]) rfl ?_)
  refine V_bind (V_of_eq (t := Struct.parse _) (a := ⟨false, true, [⟨'?', 1, 0, 1⟩], 1, 1⟩) (by kernel_rfl) ?_)
  unfold Struct.packHeld
  refine V_bind (V_of_eq (a := off) rfl ?_)
  have fit : Bytes.fitsIndex off = true := by simp only [Bytes.fitsIndex, Bool.and_eq_true, decide_eq_true_eq]; rw [sizeLine_eq] at hz; omega
  refine V_if_neg (by rw [fit]; decide) ?_
  refine V_bind (m := Struct.placeIn _ _ _ _ _ _) ?_
  unfold Struct.placeIn
  refine V_if_neg (by omega) ?_
  refine V_if_neg (by dsimp only; split <;> omega) ?_
  refine V_pure ?_
  rw [if_neg (show ¬ off < 0 by omega), show Int.toNat 0 + off.toNat = off.toNat from Nat.zero_add _]
  refine V_bind (V_write hb (by show (plc buf _ _).size ≤ _; rw [plc_size]; exact hz) fun h₁ T => ?_)
  have T : Turned h h₁ a (baO (plc buf off.toNat (Array.replicate 1 0))) := T
  unfold Struct.packEach
  dsimp only
  refine V_bind ?_
  rw [List.forIn_cons]
  refine V_bind ?_
  rw [if_neg (show ¬ ((('?' : Char) == 'x') = true) by decide), if_neg (show ¬ ((('?' : Char) == 's' || ('?' : Char) == 'p') = true) by decide)]
  rw [Std.Legacy.Range.forIn_eq_forIn_range', show List.range' (0 : Nat) (Std.Legacy.Range.size [0:1]) 1 = [0] from rfl, List.forIn_cons]
  refine V_bind (V_bind (V_bind ?_))
  dsimp only
  refine V_bind ?_
  refine (V_of_eq (a := #[if b then (1 : UInt8) else 0]) (by with_unfolding_all rfl) ?_)
  refine V_bind (V_write T.at_ (by show (plc _ _ _).size ≤ _; rw [plc_size, plc_size]; exact hz) fun h₂ T₂ => V_pure ?_)
  dsimp only
  rw [List.forIn_nil]
  refine V_pure (V_pure ?_)
  dsimp only
  rw [List.forIn_nil]
  refine V_pure (V_pure (V_pure (q _ ?_)))
  have e : plc (plc buf off.toNat (Array.replicate 1 0)) (off.toNat + (0 + 0 * 1)) (#[if b then (1 : UInt8) else 0]) = plc buf off.toNat (#[if b then (1 : UInt8) else 0]) :=
    plc_twice buf off.toNat (Array.replicate 1 0) (#[if b then (1 : UInt8) else 0]) (by simp; omega) (by rw [show (#[if b then (1 : UInt8) else 0]).size = 1 from rfl]; simp)
  rw [← e]
  exact T.trans T₂
end

-- FBF
section
open PySem PySem.W PySem.Calls PyProof.Rows Builtin

structure AOK (id : String) (args : Args) : Prop where
  ok : argsOk id args
/-- a Struct of the program's top, and how it is read -/
structure StructK (K : Frag) (S : Addr) (fmt : Array UInt8) (size : Nat) : Prop where
  rc : ∃ t, K.lookup S = some { cls := .type "_struct.Struct", data := .fields #[.bytes fmt t] }
  ps : ∃ f : Struct.Format, Struct.parse fmt = pure f ∧ f.items = 1
section
variable {w : World} {A : Around} {h : Heap} {a S : Addr} {buf fmt raw : Array UInt8} {off : Int} {ot : Tok} {x : Value} {size : Nat} {K : Frag} {H0 : Heap} {env : Env} {gs : List Str} {ls : List (Str × Option Value)} {l : List (Addr × Obj)}
theorem StructK.at_ (X : K.In h) (hS : StructK K S fmt size) : ∃ t sl, h.get? S = some ⟨.type "_struct.Struct", none, .fields #[.bytes fmt t], sl⟩ := by
  obtain ⟨t, e⟩ := hS.rc
  exact ⟨t, _, X _ _ e⟩
theorem W_packMeth {pl : Sem Bool} {Q : Value × List Value → Heap → Prop} (X : K.In h) (hS : StructK K S fmt size) (q : Q (.builtin "_struct.Struct.pack_into", [.ref S]) h) : W w A (getMethod (.ref S) "pack_into" pl) Q h := by
  obtain ⟨t, sl, hs⟩ := hS.at_ X
  refine W_any fun s e => getMethod_builtin (T := "_struct.Struct") ⟨_, e ▸ hs, rfl⟩ ST.plain ST.slot_pack ST.type_pack (fun b hb => ?_) ⟨Rest.refl s, e ▸ q⟩
  cases hb
  exact ⟨_, e ▸ hs, rfl⟩
theorem W_callSlot {T : String} {name : Str} {id : String} {self : Value} {rest : List Value} {b : Builtin} {Q : Value → Heap → Prop} (S : Slot T name id) (hT : TypeAt h self T) (hok : okId id = true) (hb : entryFor table id = some b) (ha : AOK id ⟨self :: rest, []⟩)
    (x : W w A.in1 (b ⟨self :: rest, []⟩) (FinQ w A fun f h' => ∃ v, f = .ret v ∧ Q v h') h) : W w A (call (.builtin id) (self :: rest)) Q h :=
  W_call (WC_callBuiltin S.plain hok hb (W_check S hT ha.ok x))
theorem W_pack {Q : Value → Heap → Prop} (D : Here K w H0 env gs ls h ((a, baO buf) :: l)) (hS : StructK K S fmt size) (H : Held w S fmt x raw) (hz : buf.size ≤ sizeLine) (h0 : 0 ≤ off) (h1 : off + raw.size ≤ buf.size)
    (q : ∀ h', Here K w H0 env gs ls h' ((a, baO (plc buf off.toNat raw)) :: l) → Q .none h') : W w A (call (.builtin "_struct.Struct.pack_into") [.ref S, .ref a, .int off ot, x]) Q h := by
  obtain ⟨t, sl, hs⟩ := hS.at_ D.kin
  obtain ⟨f, hf, hi⟩ := hS.ps
  have T0 : TypeAt h (.ref S) "_struct.Struct" := ⟨_, hs, rfl⟩
  have ok : okId "_struct.Struct.pack_into" = true := by decide +kernel
  have ag : AOK "_struct.Struct.pack_into" ⟨(.ref S) :: [.ref a, .int off ot, x], []⟩ := ⟨ST.args_pack _ _ _ _⟩
  refine W_callSlot ST.slot_pack T0 ok ST.entry_pack ag ?_
  clear ag ok T0
  unfold Builtin.«_struct.Struct.pack_into»
  refine W_bind (W_of_eq (a := ()) rfl ?_)
  dsimp only
  unfold Struct.structFormat
  refine W_bind (W_bind (W_looks (looks_field hs 0 (v := .bytes fmt t) rfl) ?_))
  refine W_if_neg (by simp) ?_
  refine W_bind (W_of_eq (a := fmt) rfl ?_)
  refine W_bind (W_of_eq hf (W_pure ?_))
  refine W_bind (W_looks (looks_field hs 0 (v := .bytes fmt t) rfl) ?_)
  unfold Struct.packInto
  refine W_if_neg (by simp [hi]) ?_
  dsimp only
  refine W_bind (W_looks (looks_special D.at0 rfl BA.buf) ?_)
  refine W_bind (W_looks (looks_pay D.at0) ?_)
  refine W_bind (W_pure ?_)
  refine W_pure ⟨Code.quiet_builtin _ (by decide +kernel), WC_any fun s e => codeAny_builtin ST.entry_held (wpAny_mono (H _ h a buf off ot t (fun fin h' => fin = .done (.ret .none) ∧ Q .none h') D.at0 hz h0 h1 (fun h' T => ⟨rfl, q _ (D.turn T)⟩) s e) (fun fin s' z => ?_) fun _ _ z => z.elim)⟩
  obtain ⟨r, rfl, z⟩ := z
  exact ⟨_, rfl, r, _, rfl, z⟩
end
end

-- FBG
section
open PySem PySem.W PySem.Calls PyProof.Rows Builtin

namespace BA
theorem nobytes : typeLookup (.type "bytearray") "__bytes__" = pure none := by rw [typeLookup_type, builtinLookup_eq_fast]; kernel_rfl
theorem sunpack : entryFor table "_struct.unpack" = some Builtin.«_struct.unpack» := entryFor_of_tree (by kernel_rfl)
theorem punpack : plainId "_struct.unpack" = true := by decide +kernel
theorem cunpack (a b : Value) : checkBuiltinCall "_struct.unpack" ⟨[a, b], []⟩ = pure () := by kernel_rfl
end BA
section
variable {w : World} {A : Around} {h : Heap} {a b S : Addr} {x y : Array UInt8} {K : Frag} {H0 : Heap} {env : Env} {gs : List Str} {ls : List (Str × Option Value)} {l : List (Addr × Obj)}
theorem V_rule {tag : String} {Q : Unit → Heap → Prop} (q : Q () h) : V w A (rule tag) Q h := fun s e => wpAny_rule ⟨Rest.refl s, e ▸ q⟩

theorem W_neBA {n : Nat} {Q : Value → Heap → Prop} (O : AOk n A) (ha : h.get? a = some (baO x)) (hb : h.get? b = some (baO y)) (q : Q (.bool (x.toList != y.toList)) h) : W w A (compareOp .NotEq (.ref a) (.ref b)) Q h := by
  refine W_any fun s e => ?_
  show wpAny _ _ (richCompare .NotEq (.ref a) (.ref b)) _ _ s
  refine wpAny_richCompare_same_room (T := "bytearray") ⟨_, e ▸ ha, rfl⟩ ⟨_, e ▸ hb, rfl⟩ BA.slot_ne ?_ O.units
  refine wpAny_call_entry BA.slot_ne ⟨_, e ▸ ha, rfl⟩ BA.entry_ne ?_ (BA.args_ne _ _)
  have V1 : V w A.in1 (Builtin.«bytearray.__ne__» ⟨[.ref a, .ref b], []⟩) (fun fin h' => fin = .done (.ret (.bool (x.toList != y.toList))) ∧ h' = h) h := by
    unfold Builtin.«bytearray.__ne__»
    refine V_bind (V_of_eq (t := slotArgs _ _ _) (a := (.ref a, [.ref b])) rfl ?_)
    dsimp only
    refine V_bind (V_looks (looks_buffer _ _ ha) ?_)
    dsimp only
    refine V_bind (V_bind (V_attempt (V_looks (looks_buffer _ _ hb) (V_pure ?_))))
    dsimp only
    refine V_pure ⟨?_, rfl⟩
    congr 3
    show (Bytes.order x.toList y.toList != .eq) = _
    rw [Bool.eq_iff_iff]
    simp only [bne_iff_ne, ne_eq, order_eq]
  exact wpAny_mono (V1 s e) (fun fin s' z => by obtain ⟨r, rfl, z⟩ := z; exact ⟨_, rfl, by simp, r, by rw [z]; exact q⟩) fun _ _ z => z.elim

theorem W_bytesOf {Q : Value → Heap → Prop} (ha : h.get? a = some (baO x)) (hz : x.size ≤ sizeLine) (q : ∀ t, Q (.bytes x t) h) : W w A (call (.type "bytes") [.ref a]) Q h := by
  refine W_any fun s e => ?_
  refine callType_codes (Q₁ := fun obj s₁ => (∃ t, obj = .bytes x t) ∧ Rest s s₁ ∧ s₁.heap = h) F.bm_called (F.bm_typeCall _) F.entry_object_init ?_ fun obj s₁ h₁ => ?_
  · refine codeAny_of_tree ?_
    show wpAny _ A.in1.in1 (do checkBuiltinCall "bytes.__new__" ⟨[.type "bytes", .ref a], []⟩; again (.builtin "bytes.__new__" ⟨[.type "bytes", .ref a], []⟩)) _ _ s
    refine wpAny_bind (wpAny_of_eq (F.bm_newCall _) (wpAny_pure ⟨plainId_quiet F.bm_plain _, codeAny_builtin F.bm_entry ?_⟩))
    rw [Around.under_plainId F.bm_plain _]
    have V1 : V w A.in1.in1 (Builtin.«bytes.__new__» ⟨[.type "bytes", .ref a], []⟩) (fun fin h' => (∃ t, fin = .done (.ret (.bytes x t))) ∧ h' = h) h := by
      unfold Builtin.«bytes.__new__»
      refine V_bind (V_of_eq (a := true) rfl ?_)
      refine V_if_neg (by decide) ?_
      refine V_bind (V_of_eq F.bm_sub ?_)
      refine V_if_neg (by decide) ?_
      refine V_bind (V_of_eq (F.bm_bind _) ?_)
      refine V_bind (V_of_eq (a := ()) rfl ?_)
      refine V_bind (V_of_eq (a := ()) rfl ?_)
      refine V_if_neg (by decide) ?_
      refine V_bind (V_looks (looks_special ha rfl BA.nobytes) ?_)
      have str : Looks (MW w) h (asStr? (.ref a)) none := (Looks.ld (part := none) ha).andThen .now
      refine V_bind (V_bind (V_looks str (V_pure ?_)))
      refine V_if_neg (by decide) ?_
      refine V_bind (V_looks (looks_special ha rfl BA.aidx) ?_)
      refine V_if_pos rfl ?_
      refine V_bind (V_looks (looks_buffer _ _ ha) ?_)
      dsimp only
      refine V_bind (V_rule ?_)
      refine V_bind (fun s e => wpAny_mkBytes ⟨⟨rfl, rfl⟩, ?_⟩ hz)
      rw [e]
      refine V_if_pos (by decide) ?_
      exact V_pure ⟨⟨_, rfl⟩, rfl⟩
    refine wpAny_mono (V1 s e) (fun fin s' z => ?_) fun _ _ z => z.elim
    obtain ⟨r, ⟨t, rfl⟩, z⟩ := z
    exact ⟨⟨_, rfl⟩, r, z⟩
  · obtain ⟨⟨t, rfl⟩, r, e1⟩ := h₁
    have hT : s₁.TypeIs (.bytes x t) "bytes" := PySem.W.typeIs_bytes _ _ _
    exact ⟨hT, F.args_object_init_2 _ _, object_init_meets F.bm_called.init.lookup F.bm_called.made (by decide) _ w A.in1 _ s₁ ⟨hT, rfl, r, by rw [e1]; exact q t⟩⟩

/-- the bytes that a text is encoded to -/
def EncK (x : Str) (bs : Array UInt8) : Prop := ∀ t u, Builtin.«str.encode» ⟨[.str x t, .str "utf-8" u], []⟩ = (do ret (← mkBytes bs))
theorem W_encode {x : Str} {bs : Array UInt8} {t u : Tok} {Q : Value → Heap → Prop} (E : EncK x bs) (hz : bs.size ≤ sizeLine) (q : ∀ t, Q (.bytes bs t) h) : W w A (call (.builtin "str.encode") [.str x t, .str "utf-8" u]) Q h := by
  refine W_any fun s e => ?_
  refine wpAny_call_entry F.slot_str_encode (typeIs_str s x t) F.entry_str_encode ?_ (F.args_str_encode_2 _ _)
  rw [E]
  exact wpAny_bind (wpAny_mkBytes (wpAny_pure ⟨_, rfl, ⟨rfl, rfl⟩, by subst e; exact q _⟩) hz)
theorem W_encodeMeth {x : Str} {t : Tok} {pl : Sem Bool} {Q : Value × List Value → Heap → Prop} (q : Q (.builtin "str.encode", [.str x t]) h) : W w A (getMethod (.str x t) "encode" pl) Q h :=
  W_any fun s e => getMethod_builtin (T := "str") (typeIs_str s x t) F.plainAttrs_str F.slot_str_encode F.type_str_encode (fun b hb => nomatch hb) ⟨Rest.refl s, e ▸ q⟩
theorem enc_0 : EncK "" #[] := fun t u => by kernel_rfl
theorem enc_a : EncK "a" #[97] := fun t u => by kernel_rfl
theorem enc_same : EncK "same" #[115, 97, 109, 101] := fun t u => by kernel_rfl
theorem enc_eb : EncK "éb" #[195, 169, 98] := fun t u => by kernel_rfl
theorem enc_left : EncK "left" #[108, 101, 102, 116] := fun t u => by kernel_rfl
theorem W_isStr {x : Str} {t : Tok} {p : Addr} {Q : Value → Heap → Prop} (hp : h.get? p = some { cls := .type "tuple", data := .seq #[.type "str"] }) (q : Q (.bool true) h) : W w A (call (.builtin "isinstance") [.str x t, .ref p]) Q h :=
  W_any fun s e => IsiPair.tupleOf (cs := [.type "str"]) (vs := [true]) (by pv_isi_answers) (typeIs_str s x t) (e ▸ hp) fun tk => ⟨⟨rfl, rfl⟩, e ▸ q⟩

theorem W_newTuple {vs : List Value} {Q : Value → Heap → Prop} (hz : vs.length ≤ sizeLine) (q : Q (.ref h.objs.size) (h.push { cls := .type "tuple", data := .seq vs.toArray })) : V w A (newTuple vs) Q h :=
  fun s e => wpAny_newObj_type (by subst e; exact ⟨⟨rfl, rfl⟩, q⟩) (by show vs.toArray.size ≤ sizeLine; simpa using hz)
end
end

-- FBH
section
open PySem PySem.W PySem.Calls PyProof.Rows Builtin
section
variable {w : World} {A : Around} {h : Heap}
theorem V_newTuple {vs : List Value} {Q : Value → Heap → Prop} (hz : vs.length ≤ sizeLine) (q : Q (.ref h.objs.size) (h.push { cls := .type "tuple", data := .seq vs.toArray })) : V w A (newTuple vs) Q h := W_newTuple hz q
abbrev tupO (vs : List Value) : Obj := { cls := .type "tuple", data := .seq vs.toArray }
theorem V_mkInt {i : Int} {Q : Value → Heap → Prop} (q : ∀ t, Q (.int i t) h) : V w A (mkInt i) Q h := fun s e => wpAny_mkInt ⟨⟨rfl, rfl⟩, e ▸ q _⟩
theorem V_unpack {t u : Tok} {Q : PySem.Fin → Heap → Prop}
    (q : ∀ t1 t2 t3 t4, Q (.done (.ret (.ref h.objs.size))) (h.push (tupO [.int 77 t1, .int 65 t2, .int 82 t3, .int 75 t4]))) :
    V w A (Builtin.«_struct.unpack» ⟨[.str ">BBBB" t, .bytes #[77, 65, 82, 75] u], []⟩) Q h := by
  unfold Builtin.«_struct.unpack»
  refine V_bind (V_of_eq (a := ()) rfl ?_)
  refine V_bind (V_of_eq (a := ()) rfl ?_)
  refine V_bind (V_of_eq (t := Struct.moduleFormat _) (a := ⟨true, false, [⟨'B', 1, 0, 1⟩, ⟨'B', 1, 1, 1⟩, ⟨'B', 1, 2, 1⟩, ⟨'B', 1, 3, 1⟩], 4, 4⟩) (by kernel_rfl) ?_)
  unfold Struct.unpackExact
  refine V_bind (V_bind (V_looks (looks_bufferV _ _ _ u) (V_pure ?_)))
  refine V_bind (V_pure ?_)
  refine V_if_neg (by decide) ?_
  refine V_bind ?_
  unfold Struct.unpacked
  dsimp only
  refine V_bind ?_
  rw [List.forIn_cons]
  refine V_bind ?_
  try dsimp only
  refine V_if_neg (by decide) ?_
  rw [Std.Legacy.Range.forIn_eq_forIn_range', show List.range' (0 : Nat) (Std.Legacy.Range.size [0:1]) 1 = [0] from rfl, List.forIn_cons]
  refine V_bind (V_bind (V_bind ?_))
  try dsimp only
  refine V_mkInt fun t1 => ?_
  refine V_pure ?_
  try dsimp only
  rw [List.forIn_nil]
  refine V_pure (V_pure ?_)
  try dsimp only
  rw [List.forIn_cons]
  refine V_bind ?_
  try dsimp only
  refine V_if_neg (by decide) ?_
  rw [Std.Legacy.Range.forIn_eq_forIn_range', show List.range' (0 : Nat) (Std.Legacy.Range.size [0:1]) 1 = [0] from rfl, List.forIn_cons]
  refine V_bind (V_bind (V_bind ?_))
  try dsimp only
  refine V_mkInt fun t2 => ?_
  refine V_pure ?_
  try dsimp only
  rw [List.forIn_nil]
  refine V_pure (V_pure ?_)
  try dsimp only
  rw [List.forIn_cons]
  refine V_bind ?_
  try dsimp only
  refine V_if_neg (by decide) ?_
  rw [Std.Legacy.Range.forIn_eq_forIn_range', show List.range' (0 : Nat) (Std.Legacy.Range.size [0:1]) 1 = [0] from rfl, List.forIn_cons]
  refine V_bind (V_bind (V_bind ?_))
  try dsimp only
  refine V_mkInt fun t3 => ?_
  refine V_pure ?_
  try dsimp only
  rw [List.forIn_nil]
  refine V_pure (V_pure ?_)
  try dsimp only
  rw [List.forIn_cons]
  refine V_bind ?_
  try dsimp only
  refine V_if_neg (by decide) ?_
  rw [Std.Legacy.Range.forIn_eq_forIn_range', show List.range' (0 : Nat) (Std.Legacy.Range.size [0:1]) 1 = [0] from rfl, List.forIn_cons]
  refine V_bind (V_bind (V_bind ?_))
  try dsimp only
  refine V_mkInt fun t4 => ?_
  refine V_pure ?_
  try dsimp only
  rw [List.forIn_nil]
  refine V_pure (V_pure ?_)
  try dsimp only
  rw [List.forIn_nil]
  refine V_pure ?_
  refine V_newTuple (by show 4 ≤ sizeLine; decide) (V_pure ?_)
  exact q t1 t2 t3 t4
theorem W_unpack {t u : Tok} {Q : Value → Heap → Prop} (q : ∀ t1 t2 t3 t4, Q (.ref h.objs.size) (h.push (tupO [.int 77 t1, .int 65 t2, .int 82 t3, .int 75 t4]))) : W w A (call (.builtin "_struct.unpack") [.str ">BBBB" t, .bytes #[77, 65, 82, 75] u]) Q h := by
  refine W_any fun s e => wpAny_call (codeAny_call_builtin BA.punpack BA.sunpack (wpAny_of_eq (BA.cunpack _ _) (wpAny_mono (V_unpack (A := A.in1) (w := w) (h := h) (t := t) (u := u) (Q := fun fin h' => ∃ v, fin = .done (.ret v) ∧ Q v h') (fun t1 t2 t3 t4 => ⟨_, rfl, q t1 t2 t3 t4⟩) s e) (fun fin s' z => ?_) fun _ _ z => z.elim)))
  obtain ⟨r, v, rfl, z⟩ := z
  exact ⟨r, z⟩
end
end

-- FBI
section
open PySem PySem.W PySem.Calls PyProof.Rows Builtin

abbrev lstO (vs : List Value) (n : Nat) : Obj := { cls := .type "list", data := .seq vs.toArray n }
section
variable {w : World} {A : Around} {h : Heap} {a b S : Addr} {K : Frag} {H0 : Heap} {env : Env} {gs : List Str} {ls : List (Str × Option Value)} {l : List (Addr × Obj)} {vs : List Value} {n : Nat} {pos : Pos}

theorem Led.kept {h' : Heap} (D : Led H0 h l) (k : ∀ b o, h.get? b = some o → h'.get? b = some o) : Led H0 h' l :=
  ⟨fun b o e => k b o (D.keep b o e), fun p hp => k _ _ (D.own p hp), D.nd, D.new, D.grow⟩
theorem Here.kept {h' : Heap} (D : Here K w H0 env gs ls h l) (k : ∀ b o, h.get? b = some o → h'.get? b = some o) : Here K w H0 env gs ls h' l :=
  D.with fun X E => E.kept k
/-- what is not a is kept: a leaves the ledger -/
theorem Here.ext {h' : Heap} {o : Obj} (D : Here K w H0 env gs ls h ((a, o) :: l)) (k : Heap.ExtBut a h h') : Here K w H0 env gs ls h' l :=
  D.with fun X E => by
    have nd := E.nd
    simp only [List.map_cons, List.nodup_cons, List.mem_cons, not_or] at nd
    have hx : h'.get? X.1 = some X.2 := k _ _ nd.1.1 (E.own X (.head _))
    refine ⟨fun b o e => k b o (E.old_ne e (p := (a, _)) (.tail _ (.head _))) (E.keep b o e), fun p hp => ?_, ?_, fun p hp => ?_, E.grow⟩
    · rcases List.mem_cons.mp hp with rfl | hp
      · exact hx
      · exact k _ _ (fun e => nd.2.1 (List.mem_map.mpr ⟨p, hp, e⟩)) (E.own p (.tail _ (.tail _ hp)))
    · simp only [List.map_cons, List.nodup_cons]; exact ⟨nd.1.2, nd.2.2⟩
    · rcases List.mem_cons.mp hp with rfl | hp
      · exact E.new _ (.head _)
      · exact E.new p (.tail _ (.tail _ hp))
/-- a alone has turned -/
theorem Here.same {h' : Heap} {o o' : Obj} (D : Here K w H0 env gs ls h ((a, o) :: l)) (s : Heap.SameBut a h h') (e : h'.get? a = some o') (hc : o'.data = .plain → o.data = .plain ∧ o'.dict = o.dict := by first | exact fun e => ⟨e, rfl⟩ | exact fun e => nomatch e | (intro e; cases e)) : Here K w H0 env gs ls h' ((a, o') :: l) :=
  D.turn ⟨e, fun b hb => s.2 b hb, s.1⟩ hc

-- lists
theorem lstO_is (hl : h.get? a = some (lstO vs n)) : h.IsList a vs.toArray := ⟨_, hl, rfl, n, rfl⟩
theorem W_lget {k : Int} {t : Tok} {x : Value} {Q : Value → Heap → Prop} (hl : h.get? a = some (lstO vs n)) (h0 : 0 ≤ k) (hfit : k < 2 ^ 63) (hx : vs[k.toNat]? = some x) (q : Q x h) : W w A (getItem (.ref a) (.int k t)) Q h :=
  W_any fun s e => wpAny_getItem_list (lstO_is (e ▸ hl)) h0 hfit (by simpa using hx) ⟨Rest.refl s, e ▸ q⟩
theorem looks_listSub {k : Int} {t : Tok} (hfit : Builtin.List.listFitsIndex k = true) : Looks (MW w) h (Builtin.List.listSubscript? (.int k t)) (some k) := fun A Q E s k q => wpAny_listSubscript_int hfit q
theorem looks_seqItem {o : Obj} {items : Array Value} {i : Nat} (ho : h.get? a = some o) (hd : o.data = .seq items n) : Looks (MW w) h (seqItemAt a i) items[i]? := fun A Q E s k q => wpAny_seqItemAt (k _ _ ho) hd q
theorem W_setSeqItem {j : Nat} {v : Value} {Q : Unit → Heap → Prop} (hl : h.get? a = some (lstO vs n)) (q : Q () (h.update a (Obj.mapSeq (·.setIfInBounds j v)))) : W w A (setSeqItemAt a j v) Q h :=
  W_any fun s e => wpAny_setSeqItemAt (e ▸ hl) rfl ⟨⟨rfl, rfl⟩, by subst e; exact q⟩
theorem W_lset {k : Int} {t : Tok} {v : Value} {Q : Unit → Heap → Prop} (D : Here K w H0 env gs ls h ((a, lstO vs n) :: l)) (h0 : 0 ≤ k) (hn : k < vs.length) (hz : vs.length ≤ sizeLine)
    (q : ∀ h' n', Here K w H0 env gs ls h' ((a, lstO (vs.set k.toNat v) n') :: l) → Q () h') : W w A (setItem (.ref a) (.int k t) v) Q h := by
  refine W_setItem_slot ⟨_, D.at0, rfl⟩ (by decide) slot_list_setitem (by decide +kernel) entry_list_setitem (args_list_setitem _ _ _) ?_
  have hl := D.at0
  have hfit : Builtin.List.listFitsIndex k = true := fitsIndex_of h0 (by rw [sizeLine_eq] at hz; omega)
  unfold Builtin.«list.__setitem__»
  refine W_bind ?_
  refine W_of_eq (a := (Value.ref a, [Value.int k t, v])) rfl ?_
  refine W_bind ?_
  refine W_looks (looks_listSub hfit) ?_
  clear hfit
  obtain ⟨j, rfl⟩ := Int.eq_ofNat_of_zero_le h0
  have hj : j < vs.length := by omega
  dsimp only
  refine W_bind ?_
  refine W_bind (m := seqItemAt a j) (W_looks (looks_seqItem hl rfl) (W_pure ?_))
  rw [show vs.toArray[j]? = some vs[j] by simp [hj]]
  obtain ⟨n', hd'⟩ := Obj.data_mapSeq (o := lstO vs n) rfl (·.setIfInBounds j v)
  refine W_bind (W_setSeqItem hl (W_pure ⟨rfl, q _ n' ?_⟩))
  refine D.turn ⟨?_, fun b hb => Heap.get?_update_ne _ _ _ _ hb, Heap.size_update ..⟩
  rw [Heap.get?_update_self _ hl (Obj.isFreed_of_seq hd')]
  congr 1
  simp only [Obj.mapSeq] at hd' ⊢
  rw [hd']
  simp
theorem W_lappend {x : Value} {Q : Value → Heap → Prop} (D : Here K w H0 env gs ls h ((a, lstO vs n) :: l)) (hz : vs.length ≤ sizeLine)
    (q : ∀ h' n', Here K w H0 env gs ls h' ((a, lstO (vs ++ [x]) n') :: l) → Q .none h') : W w A (call (.builtin "list.append") [.ref a, x]) Q h := by
  refine W_any fun s e => ?_
  subst e
  refine wpAny_list_append_plain ⟨n, D.at0⟩ (fun h' ⟨n', hp⟩ sb => ⟨⟨rfl, rfl⟩, q h' n' (D.same sb ?_)⟩) (by simpa using hz)
  rw [hp]; simp
theorem W_lappendMeth {pl : Sem Bool} {Q : Value × List Value → Heap → Prop} (hl : h.get? a = some (lstO vs n)) (q : Q (.builtin "list.append", [.ref a]) h) : W w A (getMethod (.ref a) "append" pl) Q h :=
  W_any fun s e => getMethod_list_append (e ▸ hl) rfl rfl ⟨Rest.refl s, e ▸ q⟩
theorem W_llen {Q : Value → Heap → Prop} (hl : h.get? a = some (lstO vs n)) (hz : vs.length ≤ sizeLine) (q : ∀ t, Q (.int vs.length t) h) : W w A (call (.builtin "len") [.ref a]) Q h :=
  W_any fun s e => call_len_list (lstO_is (e ▸ hl)) (by rw [sizeLine_eq] at hz; simp; omega) ⟨⟨rfl, rfl⟩, by subst e; simpa using q _⟩
theorem foldl_one (x : Value) : ∀ (k : Nat) (acc : Array Value), List.foldl (fun x1 x2 => x1 ++ x2) acc (List.replicate k #[x]) = acc ++ (List.replicate k x).toArray
  | 0, acc => by simp
  | k + 1, acc => by
    rw [List.replicate_succ, List.foldl_cons, foldl_one x k, List.replicate_succ]
    apply Array.toList_inj.mp
    simp
theorem W_lmul {x : Value} {k : Int} {u : Tok} {Q : Value → Heap → Prop} (D : Here K w H0 env gs ls h ((a, lstO [x] n) :: l)) (h0 : 0 ≤ k) (hz : k ≤ 1000)
    (q : ∀ h' b, Here K w H0 env gs ls h' ((b, lstO (List.replicate k.toNat x) 0) :: (a, lstO [x] n) :: l) → Q (.ref b) h') : W w A (binaryOp .Mult (.ref a) (.int k u)) Q h := by
  refine W_any fun s e => ?_
  subst e
  have hl := D.at0
  refine wpAny_binaryOp_repeat_ref (T := "list") (U := "int") (by decide) ⟨_, hl, rfl⟩ (fun s' => typeIs_int s' k u) noFill_list_mul F.fills_int_mul F.slot_int_rmul repeat_list F.slot_int_index.lookup
    (call_meets F.slot_int_rmul (typeIs_int s k u) F.entry_int_rmul (F.args_int_rmul_2 _ _) (int___rmul___int_list k u a #[x] n)
      ⟨hl, rfl, ⟨_, hl, rfl⟩, call_meets F.slot_list_mul ⟨_, hl, rfl⟩ F.entry_list_mul (F.args_list_mul_2 _ _)
        (AutoListH.list___mul___list_int_3 a #[x] n k u (by simp [Builtin.List.listFitsIndex]; omega) (by simp; omega) (by simp [Builtin.List.listTooLong, sizeLine]; omega))
        ⟨hl, ⟨rfl, rfl⟩, q _ _ ?_⟩⟩)
  have e : (List.foldl (fun x1 x2 => x1 ++ x2) #[] (List.replicate (if (#[x] : Array Value).isEmpty = true then 0 else k.toNat) #[x])) = (List.replicate k.toNat x).toArray := by
    rw [if_neg (by simp), foldl_one]; simp
  rw [e]
  exact D.alloc (o := lstO (List.replicate k.toNat x) 0) rfl
theorem W_lslice {vl vu : Value} {lo hi : Option Int} {Q : Value → Heap → Prop} (hl : h.get? a = some (lstO vs n)) (hs : h.get? S = some (slO vl vu .none)) (pl : IsPart vl lo) (pu : IsPart vu hi) (hz : vs.length ≤ sizeLine)
    (q : Q (.ref h.objs.size) (h.push (lstO (slicePick vs.toArray lo hi none).toList 0))) : W w A (getItem (.ref a) (.ref S)) Q h :=
  W_any fun s e => by
    subst e
    exact wpAny_getItem_list_slice (lstO_is hl) ⟨_, hs, rfl, rfl⟩ pl pu .none (by simp) ⟨⟨rfl, rfl⟩, q⟩ (by simpa using hz)
theorem W_tupleOf {Q : Value → Heap → Prop} (D : Here K w H0 env gs ls h l) (hl : h.get? a = some (lstO vs n)) (hz : vs.length ≤ sizeLine)
    (q : ∀ h' b, Here K w H0 env gs ls h' ((b, tupO vs) :: l) → Q (.ref b) h') : W w A (call (.type "tuple") [.ref a]) Q h :=
  W_any fun s e => by
    subst e
    exact call_tuple_list (lstO_is hl) (fun h' hk => ⟨⟨rfl, rfl⟩, q _ _ ((D.kept hk).alloc rfl)⟩) (by simpa using hz)
theorem W_tget {k : Int} {t : Tok} {x : Value} {Q : Value → Heap → Prop} (ht : h.get? a = some (tupO vs)) (h0 : 0 ≤ k) (hfit : k < 2 ^ 63) (hx : vs[k.toNat]? = some x) (q : Q x h) : W w A (getItem (.ref a) (.int k t)) Q h :=
  W_any fun s e => PyProof.Rows.getItem_tuple (j := k.toNat) (x := x) ⟨_, e ▸ ht, rfl, 0, rfl⟩ (by omega) hfit (by
    have hj := (List.getElem?_eq_some_iff.mp hx).1
    have hn : ¬ k < 0 := by omega
    have : k < (vs.length : Int) := by omega
    simp [seqIndex?, hn, h0, this]) (by simpa using hx) ⟨Rest.refl s, e ▸ q⟩
theorem W_min2 {x y : Int} {t u : Tok} {Q : Value → Heap → Prop} {m : Nat} (O : AOk m A) (D : Here K w H0 env gs ls h l) (q : ∀ h' t, Here K w H0 env gs ls h' l → Q (.int (if y < x then y else x) t) h') : W w A (call (.builtin "min") [.int x t, .int y u]) Q h :=
  W_any fun s e => by
    subst e
    refine min_two_ints O.hd fun h' tk hk => ⟨⟨rfl, rfl⟩, ?_⟩
    by_cases c : y < x
    · have := q h' u (D.kept hk); rw [if_pos c] at this ⊢; exact this
    · have := q h' t (D.kept hk); rw [if_neg c] at this ⊢; exact this
theorem W_intOf {x : Int} {t : Tok} {Q : Value → Heap → Prop} (q : Q (.int x t) h) : W w A (call (.type "int") [.int x t]) Q h := W_any fun s e => call_int_int ⟨Rest.refl s, e ▸ q⟩
theorem W_letGo {base : Expr} {o r : Value} {Q : Unit → Heap → Prop} (q : Q () h) : W w A (letTemporaryGo base o r) Q h := W_any fun s e => wpAny_letTemporaryGo ⟨Rest.refl s, e ▸ q⟩

-- iterators
structure LIt (o : Obj) (a : Addr) (i : Nat) : Prop where
  c : o.cls = .type "list_iterator"
  d : o.data = .fields #[.ref a, .int i 0]
structure RIt (o : Obj) (a : Addr) (i : Int) : Prop where
  c : o.cls = .type "list_reverseiterator"
  d : o.data = .fields #[.ref a, rawInt i]
abbrev rngIt (x left step : Int) : Obj := { cls := .type "range_iterator", data := .fields #[rawInt x, rawInt left, rawInt step] }
theorem W_iterList {Q : Value → Heap → Prop} (D : Here K w H0 env gs ls h l) (hl : h.get? a = some (lstO vs n)) (q : ∀ h' it o, Here K w H0 env gs ls h' ((it, o) :: l) → LIt o a 0 → Q (.ref it) h') : W w A (pyIter (.ref a)) Q h :=
  W_any fun s e => by subst e; exact wpAny_pyIter_list (lstO_is hl) ⟨⟨rfl, rfl⟩, q _ _ _ (D.alloc rfl) ⟨rfl, rfl⟩⟩
theorem W_nextList {it : Addr} {o : Obj} {i : Nat} {x : Value} {Q : Option Value → Heap → Prop} (D : Here K w H0 env gs ls h ((it, o) :: l)) (I : LIt o a i) (hl : h.get? a = some (lstO vs n)) (hx : vs[i]? = some x)
    (q : ∀ h' o', Here K w H0 env gs ls h' ((it, o') :: l) → LIt o' a (i + 1) → Q (some x) h') : W w A (pyNext (.ref it)) Q h :=
  W_any fun s e => by
    subst e
    refine wpAny_pyNext_list_item (i := i) ⟨_, D.at0, I.c, I.d⟩ (lstO_is hl) (x := x) (by simpa using hx) fun h' hi sb => ⟨⟨rfl, rfl⟩, ?_⟩
    obtain ⟨o', e', c', d'⟩ := hi
    exact q h' o' (D.same sb e' (fun e => by rw [d'] at e; cases e)) ⟨c', d'⟩
theorem W_endList {m : Nat} (O : AOk m A) {it : Addr} {o : Obj} {i : Nat} {Q : Option Value → Heap → Prop} (D : Here K w H0 env gs ls h ((it, o) :: l)) (I : LIt o a i) (hl : h.get? a = some (lstO vs n)) (hx : vs.length ≤ i)
    (q : ∀ h', Here K w H0 env gs ls h' l → Q none h') : W w A (pyNext (.ref it)) Q h :=
  W_any fun s e => by
    subst e
    exact wpAny_pyNext_list_end O.hd (i := i) ⟨_, D.at0, I.c, I.d⟩ (lstO_is hl) (by simpa using hx) fun h' k => ⟨⟨rfl, rfl⟩, q h' (D.ext k)⟩
theorem W_reversed {Q : Value → Heap → Prop} (D : Here K w H0 env gs ls h l) (hl : h.get? a = some (lstO vs n)) (q : ∀ h' it o, Here K w H0 env gs ls h' ((it, o) :: l) → RIt o a ((vs.length : Int) - 1) → Q (.ref it) h') : W w A (call (.type "reversed") [.ref a]) Q h :=
  W_any fun s e => by subst e; exact call_reversed_list (lstO_is hl) ⟨⟨rfl, rfl⟩, q _ _ _ (D.alloc rfl) ⟨rfl, by simp [revObj]⟩⟩
theorem W_iterRev {it : Addr} {o : Obj} {i : Int} {Q : Value → Heap → Prop} (ho : h.get? it = some o) (I : RIt o a i) (q : Q (.ref it) h) : W w A (pyIter (.ref it)) Q h :=
  W_any fun s e => wpAny_pyIter_revIter (i := i) ⟨_, e ▸ ho, I.c, I.d⟩ ⟨Rest.refl s, e ▸ q⟩
theorem W_nextRev {it : Addr} {o : Obj} {i : Nat} {x : Value} {Q : Option Value → Heap → Prop} (D : Here K w H0 env gs ls h ((it, o) :: l)) (I : RIt o a (i : Int)) (hl : h.get? a = some (lstO vs n)) (hx : vs[i]? = some x)
    (q : ∀ h' o', Here K w H0 env gs ls h' ((it, o') :: l) → RIt o' a ((i : Int) - 1) → Q (some x) h') : W w A (pyNext (.ref it)) Q h :=
  W_any fun s e => by
    subst e
    refine wpAny_pyNext_rev_item (i := i) ⟨_, D.at0, I.c, I.d⟩ (lstO_is hl) (x := x) (by simpa using hx) fun h' hi sb => ⟨⟨rfl, rfl⟩, ?_⟩
    obtain ⟨o', e', c', d'⟩ := hi
    exact q h' o' (D.same sb e' (fun e => by rw [d'] at e; cases e)) ⟨c', d'⟩
theorem W_endRev {m : Nat} (O : AOk m A) {it : Addr} {o : Obj} {Q : Option Value → Heap → Prop} (D : Here K w H0 env gs ls h ((it, o) :: l)) (I : RIt o a (-1)) (q : ∀ h', Here K w H0 env gs ls h' l → Q none h') : W w A (pyNext (.ref it)) Q h :=
  W_any fun s e => by
    subst e
    exact wpAny_pyNext_rev_end O.hd ⟨_, D.at0, I.c, I.d⟩ fun h' k => ⟨⟨rfl, rfl⟩, q h' (D.ext k)⟩
abbrev rngO (x y z : Int) (t u v : Tok) : Obj := { cls := .type "range", data := .fields #[.int x t, .int y u, .int z v] }
theorem W_range1 {x : Int} {t : Tok} {Q : Value → Heap → Prop} (D : Here K w H0 env gs ls h l) (q : ∀ h' r t u v, Here K w H0 env gs ls h' ((r, rngO 0 x 1 t u v) :: l) → Q (.ref r) h') : W w A (call (.type "range") [.int x t]) Q h :=
  W_any fun s e => by subst e; exact call_range_1 ⟨⟨rfl, rfl⟩, q _ _ _ _ _ (D.alloc rfl)⟩
theorem W_range2 {x y : Int} {t u : Tok} {Q : Value → Heap → Prop} (D : Here K w H0 env gs ls h l) (q : ∀ h' r t u v, Here K w H0 env gs ls h' ((r, rngO x y 1 t u v) :: l) → Q (.ref r) h') : W w A (call (.type "range") [.int x t, .int y u]) Q h :=
  W_any fun s e => by subst e; exact call_range_2 ⟨⟨rfl, rfl⟩, q _ _ _ _ _ (D.alloc rfl)⟩
theorem W_range3 {x y z : Int} {t u v : Tok} {Q : Value → Heap → Prop} (D : Here K w H0 env gs ls h l) (hz : z ≠ 0) (hp : Builtin.divisionGoesByPylong (y - x) z = false) (q : ∀ h' r t u v, Here K w H0 env gs ls h' ((r, rngO x y z t u v) :: l) → Q (.ref r) h') : W w A (call (.type "range") [.int x t, .int y u, .int z v]) Q h :=
  W_any fun s e => by subst e; exact call_range_3 hz ⟨⟨rfl, rfl⟩, q _ _ _ _ _ (D.alloc rfl)⟩ (.inl hp)
theorem W_iterRange {r : Addr} {x y z : Int} {t u v : Tok} {Q : Value → Heap → Prop} (D : Here K w H0 env gs ls h ((r, rngO x y z t u v) :: l)) (hs : Builtin.Range.small x y z = true) (q : ∀ h' it, Here K w H0 env gs ls h' ((it, rngIt x (Builtin.Range.rangeSize x y z) z) :: l) → Q (.ref it) h') : W w A (pyIter (.ref r)) Q h :=
  W_any fun s e => by subst e; exact wpAny_pyIter_range D.at0 hs ⟨⟨rfl, rfl⟩, q _ _ (D.alloc rfl).drop1⟩
theorem W_nextRange {it : Addr} {x left step : Int} {Q : Option Value → Heap → Prop} (D : Here K w H0 env gs ls h ((it, rngIt x left step) :: l)) (hl : 0 < left) (q : ∀ h' t, Here K w H0 env gs ls h' ((it, rngIt (x + step) (left - 1) step) :: l) → Q (some (.int x t)) h') : W w A (pyNext (.ref it)) Q h :=
  W_any fun s e => by subst e; exact wpAny_pyNext_range_item D.at0 hl fun h' hi sb => ⟨⟨rfl, rfl⟩, q h' _ (D.same sb hi)⟩
theorem W_endRange {m : Nat} (O : AOk m A) {it : Addr} {x left step : Int} {Q : Option Value → Heap → Prop} (D : Here K w H0 env gs ls h ((it, rngIt x left step) :: l)) (hl : left ≤ 0) (q : ∀ h', Here K w H0 env gs ls h' l → Q none h') : W w A (pyNext (.ref it)) Q h :=
  W_any fun s e => by subst e; exact wpAny_pyNext_range_end O.hd D.at0 hl fun h' k => ⟨⟨rfl, rfl⟩, q h' (D.ext k)⟩

-- loops
def Turn (w : World) (A : Around) (c : Code) (Q : Flow → Heap → Prop) (f : Flow) (h' : Heap) : Prop := match f with
  | .next | .cont => WC w A c Q h'
  | .brk => Q .next h'
  | .ret v => Q (.ret v) h'
theorem turn_next {c : Code} {Q : Flow → Heap → Prop} (x : WC w A c Q h) : Turn w A c Q .next h := x
theorem turn_cont {c : Code} {Q : Flow → Heap → Prop} (x : WC w A c Q h) : Turn w A c Q .cont h := x
theorem WC_while {test : Expr} {body : List Stmt} {Q : Flow → Heap → Prop}
    (x : W w A (isTrue test env (eval test env)) (fun b h₁ => if b = true then W w A (execs body env) (Turn w A (.whileLoop test body [] env) Q) h₁ else Q .next h₁) h) : WC w A (.whileLoop test body [] env) Q h := by
  refine WC_tree rfl ?_
  show W w A ((whileTurn test body [] env).onRaise (fun x => do noteFrame x env; theTreesLotGoes x)) _ h
  refine W_onRaise ?_
  unfold whileTurn
  refine W_bind (W_mono x fun b h₁ y => ?_)
  cases b with
  | false => exact W_bind (W_nil (W_pure y))
  | true =>
    refine W_bind (W_mono y fun f h₂ z => ?_)
    cases f with
    | next => exact W_pure ⟨rfl, z⟩
    | cont => exact W_pure ⟨rfl, z⟩
    | brk => exact W_pure z
    | ret v => exact W_pure z
theorem W_While {test : Expr} {body : List Stmt} {Q : Flow → Heap → Prop} (x : WC w A (.whileLoop test body [] env) Q h) : W w A (exec (.While test body [] pos) env) Q h := by
  rw [arm_exec_While]
  exact W_bind (W_standAt (W_runOwn x))
theorem WC_for {x : Str} {p : Pos} {it : Value} {body : List Stmt} {Q : Flow → Heap → Prop}
    (y : W w A (pyNext it) (fun r h₁ => match r with
      | none => Q .next h₁
      | some v => W w A (storeName env x v) (fun _ h₂ => W w A (execs body env) (Turn w A (.forLoop (.Name x p) it body [] env) Q) h₂) h₁) h) : WC w A (.forLoop (.Name x p) it body [] env) Q h := by
  refine WC_tree rfl ?_
  show W w A ((forTurn (.Name x p) it body [] env).onRaise (fun x => do noteFrame x env; theTreesLotGoes x)) _ h
  refine W_onRaise ?_
  unfold forTurn
  refine W_bind (W_standAt (W_bind (W_onRaise (W_mono y fun r h₁ z => ?_))))
  cases r with
  | none =>
    refine W_pure ⟨rfl, WC_tree rfl ?_⟩
    show W w A (do return Fin.done (← (execs [] env).onRaise (fun x => do noteFrame x env; theTreesLotGoes x))) _ h₁
    exact W_bind (W_onRaise (W_nil (W_pure z)))
  | some v =>
    refine W_bind (W_of_eq (a := ()) rfl ?_)
    rw [PySem.assign_Name]
    refine W_bind (W_bind (W_standAt (W_bindName (W_mono z fun _ h₂ u => ?_))))
    refine W_bind (W_mono u fun f h₃ t => ?_)
    cases f with
    | next => exact W_pure ⟨rfl, t⟩
    | cont => exact W_pure ⟨rfl, t⟩
    | brk => exact W_pure t
    | ret v => exact W_pure t
theorem W_For {x : Str} {p : Pos} {iter : Expr} {body : List Stmt} {Q : Flow → Heap → Prop}
    (y : W w A (eval iter env) (fun xv h₁ => W w A (pyIter xv) (fun it h₂ => WC w A (.forLoop (.Name x p) it body [] env) Q h₂) h₁) h)
    (hf : ∀ v, foldedSetIterable iter env v = pure v := by intro _; rfl) : W w A (exec (.For (.Name x p) iter body [] pos) env) Q h := by
  rw [arm_exec_For]
  refine W_bind (W_standAt (W_bind (W_mono y fun xv h₁ z => ?_)))
  rw [hf]
  refine W_bind (W_pure ?_)
  refine W_bind (W_standAt (W_bind (W_holding (W_mono z fun it h₂ u => W_runOwn u))))
end
end

-- FKG
section
open PySem PySem.W PySem.Calls PyProof.Rows Builtin
/-- a class of flags and what it says -/
structure FlagK (K : Frag) (C : Addr) (wd : Int) (wt : Tok) (lo hi : Value) (S : Addr) : Prop where
  rd : readsIn K C (.type "type") = true
  bw : findCls K (.ref C) (.type "type") "bytewidth" = some (.val (.int wd wt))
  mn : findCls K (.ref C) (.type "type") "min_val" = some (.val lo)
  mx : findCls K (.ref C) (.type "type") "max_val" = some (.val hi)
  pk : findCls K (.ref C) (.type "type") "packer_type" = some (.val (.ref S))
  hn : (lo == Value.none) = false
theorem type_int : typeOf (.type "int") = pure (.type "type") := by kernel_rfl
theorem type_get : typeLookup (.type "type") "__get__" = pure none := by rw [typeLookup_type, builtinLookup_eq_fast]; kernel_rfl
/-- C.name, a built-in type kept in a class of the program -/
theorem cls_type {w : World} {A : Around} {E : Value → Shared → Prop} {s : Shared} {K : Frag} {C : Addr} {name : Str} {expr : Bool} {Q : Value → Shared → Prop} (X : K.In s.heap) (hr : readsIn K C (.type "type") = true)
    (h1 : findIn K (.type "type") name = some none) (h2 : findIn K (.ref C) name = some (some (.type "int"))) (h3 : heldUnderItsOwnName name (.type "int") = false) (h : Q (.type "int") { s with toks := s.toks + 1 }) :
    wpAny (MW w) A (getAttr (.ref C) name expr) Q E s := by
  simp only [readsIn, Bool.and_eq_true, beq_iff_eq] at hr
  obtain ⟨⟨⟨⟨a, b⟩, hga⟩, d⟩, hi⟩ := hr
  obtain ⟨hk, d⟩ := Option.isSome_iff_exists.mp d
  have ho : Looks (MW w) s.heap (opaqueClassAbove (.ref C)) none := looks_opaque X a
  have ht : Looks (MW w) s.heap (typeOf (.ref C)) (.type "type") := looks_typeIn X b
  have hb : Looks (MW w) s.heap (hookBefore (.type "type")) hk := looks_hook X d
  refine wpAny_bind (wpAny_mkText (wpAny_holding (wpAny_bind (ht _ _ _ _ (fun _ _ e => e) (wpAny_bind (looks_findIn X hga _ _ _ _ (fun _ _ e => e) ?_))))))
  dsimp only
  rw [show (onTheHeap (.type "type") && Value.builtin "type.__getattribute__" == Value.builtin "object.__getattribute__") = false from rfl, if_neg (by decide)]
  refine wpAny_bind (hb _ _ _ _ (fun _ _ e => e) (wpAny_bind (wpAny_attempt (wpAny_holding ?_))))
  unfold callGetattribute
  rw [show (expr && onTheHeap (Value.builtin "type.__getattribute__")) = false from Bool.and_false _, if_neg (by decide)]
  unfold boundAndCalled
  rw [KF.slot_tga.bind]
  refine wpAny_bind (wpAny_pure ?_)
  show wpAny _ _ (call (.builtin "type.__getattribute__") [.ref C, .str name s.toks]) _ _ _
  refine wpAny_call ?_
  refine codeAny_call_builtin KF.slot_tga.plain KF.entry_tga ?_
  refine @check_slot (MW w) _ _ { s with toks := s.toks + 1 } "type.__getattribute__" "type" "__getattribute__" (.ref C) [.str name s.toks] [] _ (by decide +kernel) (by decide +kernel) (ht.andThen (looks_subIn X hi)) (KF.args_tga (.ref C) (.str name s.toks)) ?_
  unfold Builtin.«type.__getattribute__»
  obtain ⟨hh, g, dr, t, os⟩ := s
  dsimp only at X ho ht ⊢
  have L1 := looks_findIn (M := MW w) X h1
  have L2 := looks_findIn (M := MW w) X h2
  refine wpAny_bind (wpAny_pure (wpAny_bind (ho.at (wpAny_bind (ht.at (wpAny_bind (L1.at ?_)))))))
  refine wpAny_bind (wpAny_pure ?_)
  refine wpAny_bind (L2.at ?_)
  dsimp only
  rw [if_neg (by rw [h3]; decide)]
  refine wpAny_bind (wpAny_of_eq type_int ?_)
  rw [if_neg (by decide)]
  refine wpAny_bind (wpAny_bind (wpAny_of_eq type_int (wpAny_of_eq type_get ?_)))
  exact wpAny_bind (wpAny_pure (wpAny_pure (wpAny_pure h)))

theorem glob_unpack (w : World) : nsIn (hd.heap_39 w.params) mainGlobals "unpack" = some (some (.builtin "_struct.unpack")) := by k_is
theorem glob_string_types (w : World) : nsIn (hd.heap_39 w.params) mainGlobals "string_types" = some (some (.ref 50)) := by k_is
theorem glob_uoffset (w : World) : nsIn (hd.heap_39 w.params) mainGlobals "uoffset" = some (some (.ref 55)) := by k_is
theorem glob_soffset (w : World) : nsIn (hd.heap_39 w.params) mainGlobals "soffset" = some (some (.ref 59)) := by k_is
theorem glob_BoolFlags (w : World) : nsIn (hd.heap_39 w.params) mainGlobals "BoolFlags" = some (some (.ref 70)) := by k_is
theorem glob_Uint8Flags (w : World) : nsIn (hd.heap_39 w.params) mainGlobals "Uint8Flags" = some (some (.ref 84)) := by k_is
theorem glob_Uint16Flags (w : World) : nsIn (hd.heap_39 w.params) mainGlobals "Uint16Flags" = some (some (.ref 98)) := by k_is
theorem glob_Uint32Flags (w : World) : nsIn (hd.heap_39 w.params) mainGlobals "Uint32Flags" = some (some (.ref 112)) := by k_is
theorem glob_Uint64Flags (w : World) : nsIn (hd.heap_39 w.params) mainGlobals "Uint64Flags" = some (some (.ref 126)) := by k_is
theorem glob_Int8Flags (w : World) : nsIn (hd.heap_39 w.params) mainGlobals "Int8Flags" = some (some (.ref 140)) := by k_is
theorem glob_Int16Flags (w : World) : nsIn (hd.heap_39 w.params) mainGlobals "Int16Flags" = some (some (.ref 154)) := by k_is
theorem glob_Int32Flags (w : World) : nsIn (hd.heap_39 w.params) mainGlobals "Int32Flags" = some (some (.ref 168)) := by k_is
theorem glob_Int64Flags (w : World) : nsIn (hd.heap_39 w.params) mainGlobals "Int64Flags" = some (some (.ref 182)) := by k_is
theorem glob_SOffsetTFlags (w : World) : nsIn (hd.heap_39 w.params) mainGlobals "SOffsetTFlags" = some (some (.ref 196)) := by k_is
theorem glob_UOffsetTFlags (w : World) : nsIn (hd.heap_39 w.params) mainGlobals "UOffsetTFlags" = some (some (.ref 208)) := by k_is
theorem glob_VOffsetTFlags (w : World) : nsIn (hd.heap_39 w.params) mainGlobals "VOffsetTFlags" = some (some (.ref 220)) := by k_is
theorem glob_enforce_number (w : World) : nsIn (hd.heap_39 w.params) mainGlobals "enforce_number" = some (some (.ref 229)) := by k_is
theorem glob_FILE_IDENTIFIER_LENGTH (w : World) : nsIn (hd.heap_39 w.params) mainGlobals "FILE_IDENTIFIER_LENGTH" = some (some (.int 4 735)) := by k_is
theorem glob_Write (w : World) : nsIn (hd.heap_39 w.params) mainGlobals "Write" = some (some (.ref 236)) := by k_is
theorem glob_OffsetArithmeticError (w : World) : nsIn (hd.heap_39 w.params) mainGlobals "OffsetArithmeticError" = some (some (.ref 246)) := by k_is
theorem glob_IsNotNestedError (w : World) : nsIn (hd.heap_39 w.params) mainGlobals "IsNotNestedError" = some (some (.ref 259)) := by k_is
theorem glob_IsNestedError (w : World) : nsIn (hd.heap_39 w.params) mainGlobals "IsNestedError" = some (some (.ref 272)) := by k_is
theorem glob_BuilderSizeError (w : World) : nsIn (hd.heap_39 w.params) mainGlobals "BuilderSizeError" = some (some (.ref 285)) := by k_is
theorem glob_BuilderNotFinishedError (w : World) : nsIn (hd.heap_39 w.params) mainGlobals "BuilderNotFinishedError" = some (some (.ref 298)) := by k_is
theorem glob_EndVectorLengthMismatched (w : World) : nsIn (hd.heap_39 w.params) mainGlobals "EndVectorLengthMismatched" = some (some (.ref 311)) := by k_is
theorem glob_VtableMetadataFields (w : World) : nsIn (hd.heap_39 w.params) mainGlobals "VtableMetadataFields" = some (some (.int 2 857)) := by k_is
theorem glob_Builder (w : World) : nsIn (hd.heap_39 w.params) mainGlobals "Builder" = some (some (.ref 716)) := by k_is
theorem glob_law_widths (w : World) : nsIn (hd.heap_39 w.params) mainGlobals "_law_widths" = some (some (.ref 736)) := by k_is
theorem glob_law_scalar (w : World) : nsIn (hd.heap_39 w.params) mainGlobals "_law_scalar" = some (some (.ref 743)) := by k_is
theorem glob_law_slot (w : World) : nsIn (hd.heap_39 w.params) mainGlobals "_law_slot" = some (some (.ref 750)) := by k_is
theorem glob_law_put (w : World) : nsIn (hd.heap_39 w.params) mainGlobals "_law_put" = some (some (.ref 757)) := by k_is
theorem glob_law_message (w : World) : nsIn (hd.heap_39 w.params) mainGlobals "_law_message" = some (some (.ref 762)) := by k_is
theorem glob_law_left (w : World) : nsIn (hd.heap_39 w.params) mainGlobals "_law_left" = some (some (.ref 769)) := by k_is
theorem glob_law_refused (w : World) : nsIn (hd.heap_39 w.params) mainGlobals "_law_refused" = some (some (.ref 776)) := by k_is
theorem bi_bytearray (w : World) : nsIn (hd.heap_39 w.params) mainGlobals "bytearray" = some none := by k_is
theorem boot_bytearray : bootBuiltins "bytearray" = some (.type "bytearray") := by decide +kernel
theorem bi_len (w : World) : nsIn (hd.heap_39 w.params) mainGlobals "len" = some none := by k_is
theorem boot_len : bootBuiltins "len" = some (.builtin "len") := by decide +kernel
theorem bi_min (w : World) : nsIn (hd.heap_39 w.params) mainGlobals "min" = some none := by k_is
theorem boot_min : bootBuiltins "min" = some (.builtin "min") := by decide +kernel
theorem bi_reversed (w : World) : nsIn (hd.heap_39 w.params) mainGlobals "reversed" = some none := by k_is
theorem boot_reversed : bootBuiltins "reversed" = some (.type "reversed") := by decide +kernel
theorem bi_tuple (w : World) : nsIn (hd.heap_39 w.params) mainGlobals "tuple" = some none := by k_is
theorem boot_tuple : bootBuiltins "tuple" = some (.type "tuple") := by decide +kernel
theorem bi_isinstance (w : World) : nsIn (hd.heap_39 w.params) mainGlobals "isinstance" = some none := by k_is
theorem boot_isinstance : bootBuiltins "isinstance" = some (.builtin "isinstance") := by decide +kernel
theorem bi_range (w : World) : nsIn (hd.heap_39 w.params) mainGlobals "range" = some none := by k_is
theorem boot_range : bootBuiltins "range" = some (.type "range") := by decide +kernel
theorem bi_bytes (w : World) : nsIn (hd.heap_39 w.params) mainGlobals "bytes" = some none := by k_is
theorem boot_bytes : bootBuiltins "bytes" = some (.type "bytes") := by decide +kernel
theorem keep_enforce_number (w : World) : keepIn (hd.heap_39 w.params) (.ref 229) = true := by k_is
theorem keep_Write (w : World) : keepIn (hd.heap_39 w.params) (.ref 236) = true := by k_is
theorem keep_law_widths (w : World) : keepIn (hd.heap_39 w.params) (.ref 736) = true := by k_is
theorem keep_law_scalar (w : World) : keepIn (hd.heap_39 w.params) (.ref 743) = true := by k_is
theorem keep_law_slot (w : World) : keepIn (hd.heap_39 w.params) (.ref 750) = true := by k_is
theorem keep_law_put (w : World) : keepIn (hd.heap_39 w.params) (.ref 757) = true := by k_is
theorem keep_law_message (w : World) : keepIn (hd.heap_39 w.params) (.ref 762) = true := by k_is
theorem keep_law_left (w : World) : keepIn (hd.heap_39 w.params) (.ref 769) = true := by k_is
theorem keep_law_refused (w : World) : keepIn (hd.heap_39 w.params) (.ref 776) = true := by k_is
theorem flag_BoolFlags (w : World) : FlagK (hd.heap_39 w.params) 70 1 377 (.bool false) (.bool true) 52 := ⟨by k_is, by k_is, by k_is, by k_is, by k_is, rfl⟩
theorem flag_Uint8Flags (w : World) : FlagK (hd.heap_39 w.params) 84 1 405 (.int (0) 407) (.int (255) 413) 53 := ⟨by k_is, by k_is, by k_is, by k_is, by k_is, rfl⟩
theorem flag_Uint16Flags (w : World) : FlagK (hd.heap_39 w.params) 98 2 439 (.int (0) 441) (.int (65535) 447) 54 := ⟨by k_is, by k_is, by k_is, by k_is, by k_is, rfl⟩
theorem flag_Uint32Flags (w : World) : FlagK (hd.heap_39 w.params) 112 4 473 (.int (0) 475) (.int (4294967295) 481) 55 := ⟨by k_is, by k_is, by k_is, by k_is, by k_is, rfl⟩
theorem flag_Uint64Flags (w : World) : FlagK (hd.heap_39 w.params) 126 8 507 (.int (0) 509) (.int (18446744073709551615) 515) 56 := ⟨by k_is, by k_is, by k_is, by k_is, by k_is, rfl⟩
theorem flag_Int8Flags (w : World) : FlagK (hd.heap_39 w.params) 140 1 541 (.int (-128) 546) (.int (127) 552) 57 := ⟨by k_is, by k_is, by k_is, by k_is, by k_is, rfl⟩
theorem flag_Int16Flags (w : World) : FlagK (hd.heap_39 w.params) 154 2 578 (.int (-32768) 583) (.int (32767) 589) 58 := ⟨by k_is, by k_is, by k_is, by k_is, by k_is, rfl⟩
theorem flag_Int32Flags (w : World) : FlagK (hd.heap_39 w.params) 168 4 615 (.int (-2147483648) 620) (.int (2147483647) 626) 59 := ⟨by k_is, by k_is, by k_is, by k_is, by k_is, rfl⟩
theorem flag_Int64Flags (w : World) : FlagK (hd.heap_39 w.params) 182 8 652 (.int (-9223372036854775808) 657) (.int (9223372036854775807) 663) 60 := ⟨by k_is, by k_is, by k_is, by k_is, by k_is, rfl⟩
theorem flag_SOffsetTFlags (w : World) : FlagK (hd.heap_39 w.params) 196 4 615 (.int (-2147483648) 620) (.int (2147483647) 626) 59 := ⟨by k_is, by k_is, by k_is, by k_is, by k_is, rfl⟩
theorem flag_UOffsetTFlags (w : World) : FlagK (hd.heap_39 w.params) 208 4 473 (.int (0) 475) (.int (4294967295) 481) 55 := ⟨by k_is, by k_is, by k_is, by k_is, by k_is, rfl⟩
theorem flag_VOffsetTFlags (w : World) : FlagK (hd.heap_39 w.params) 220 2 439 (.int (0) 441) (.int (65535) 447) 54 := ⟨by k_is, by k_is, by k_is, by k_is, by k_is, rfl⟩
theorem py_UOffsetTFlags (w : World) : findIn (hd.heap_39 w.params) (.ref 208) "py_type" = some (some (.type "int")) := by k_is
theorem reads_UOffsetTFlags (w : World) : readsIn (hd.heap_39 w.params) 208 (.type "type") = true := by k_is
theorem py_SOffsetTFlags (w : World) : findIn (hd.heap_39 w.params) (.ref 196) "py_type" = some (some (.type "int")) := by k_is
theorem reads_SOffsetTFlags (w : World) : readsIn (hd.heap_39 w.params) 196 (.type "type") = true := by k_is
theorem py_VOffsetTFlags (w : World) : findIn (hd.heap_39 w.params) (.ref 220) "py_type" = some (some (.type "int")) := by k_is
theorem reads_VOffsetTFlags (w : World) : readsIn (hd.heap_39 w.params) 220 (.type "type") = true := by k_is
theorem py_meta (w : World) : findIn (hd.heap_39 w.params) (.type "type") "py_type" = some none := by k_is
theorem max_B (w : World) : findCls (hd.heap_39 w.params) (.ref 716) (.type "type") "MAX_BUFFER_SIZE" = some (.val (.int 2147483648 886)) := by k_is
theorem reads_B (w : World) : readsIn (hd.heap_39 w.params) 716 (.type "type") = true := by k_is
theorem struct_52 (w : World) : StructK (hd.heap_39 w.params) 52 #[63] 1 := ⟨⟨335, by k_is⟩, ⟨⟨false, true, [⟨'?', 1, 0, 1⟩], 1, 1⟩, by kernel_rfl, rfl⟩⟩
theorem struct_53 (w : World) : StructK (hd.heap_39 w.params) 53 #[60, 66] 1 := ⟨⟨338, by k_is⟩, ⟨⟨false, false, [⟨'B', 1, 0, 1⟩], 1, 1⟩, by kernel_rfl, rfl⟩⟩
theorem struct_54 (w : World) : StructK (hd.heap_39 w.params) 54 #[60, 72] 2 := ⟨⟨341, by k_is⟩, ⟨⟨false, false, [⟨'H', 1, 0, 2⟩], 2, 1⟩, by kernel_rfl, rfl⟩⟩
theorem struct_55 (w : World) : StructK (hd.heap_39 w.params) 55 #[60, 73] 4 := ⟨⟨344, by k_is⟩, ⟨⟨false, false, [⟨'I', 1, 0, 4⟩], 4, 1⟩, by kernel_rfl, rfl⟩⟩
theorem struct_56 (w : World) : StructK (hd.heap_39 w.params) 56 #[60, 81] 8 := ⟨⟨347, by k_is⟩, ⟨⟨false, false, [⟨'Q', 1, 0, 8⟩], 8, 1⟩, by kernel_rfl, rfl⟩⟩
theorem struct_57 (w : World) : StructK (hd.heap_39 w.params) 57 #[60, 98] 1 := ⟨⟨350, by k_is⟩, ⟨⟨false, false, [⟨'b', 1, 0, 1⟩], 1, 1⟩, by kernel_rfl, rfl⟩⟩
theorem struct_58 (w : World) : StructK (hd.heap_39 w.params) 58 #[60, 104] 2 := ⟨⟨353, by k_is⟩, ⟨⟨false, false, [⟨'h', 1, 0, 2⟩], 2, 1⟩, by kernel_rfl, rfl⟩⟩
theorem struct_59 (w : World) : StructK (hd.heap_39 w.params) 59 #[60, 105] 4 := ⟨⟨356, by k_is⟩, ⟨⟨false, false, [⟨'i', 1, 0, 4⟩], 4, 1⟩, by kernel_rfl, rfl⟩⟩
theorem struct_60 (w : World) : StructK (hd.heap_39 w.params) 60 #[60, 113] 8 := ⟨⟨359, by k_is⟩, ⟨⟨false, false, [⟨'q', 1, 0, 8⟩], 8, 1⟩, by kernel_rfl, rfl⟩⟩
theorem str_types (w : World) : ((hd.heap_39 w.params).lookup 50) = some { cls := .type "tuple", data := .seq #[.type "str"] } := by k_is
end

-- FBJ
section
open PySem PySem.W PySem.Calls PyProof.Rows Builtin

section
variable {w : World} {A : Around} {h : Heap} {a b S C f : Addr} {K : Frag} {H0 : Heap} {env : Env} {gs : List Str} {ls : List (Str × Option Value)} {l : List (Addr × Obj)} {vs : List Value} {n : Nat} {pos p p' apos : Pos}

theorem W_tChain {x r1 r2 : Expr} {op1 op2 : CmpOp} {whole : Sem Value} {Q : Bool → Heap → Prop}
    (y : W w A (eval x env) (fun a h₁ => W w A (eval r1 env) (fun b h₂ => W w A (compareOp op1 a b) (fun c h₃ => W w A (truthy c) (fun t h₄ => if t = true then
      W w A (eval r2 env) (fun d h₅ => W w A (compareOp op2 b d) (fun c h₆ => W w A (truthy c) Q h₆) h₅) h₄ else Q false h₄) h₃) h₂) h₁) h)
    (hm : behindInMarks op2 r2 = false := by with_unfolding_all rfl) : W w A (isTrue (.Compare x [op1, op2] [r1, r2] pos) env whole) Q h := by
  rw [arm_isTrue_Compare]
  refine W_bind (W_mono y fun a h₁ z => ?_)
  show W w A (testChain pos a (op1 :: [op2]) (eval r1 env :: [markedBehindIn op2 r2 (eval r2 env)])) Q h₁
  rw [markedBehindIn_of_false hm]
  show W w A (do
    let rv ← holding [a] (eval r1 env)
    standAt pos
    let c ← holding [a, rv] (compareOp op1 a rv)
    release [a, rv] [c]
    if ← holding [c, rv] (truthy c) then testChain pos rv [op2] [eval r2 env] else pure false) Q h₁
  refine W_bind (W_holding (W_mono z fun b h₂ z => W_bind (W_standAt (W_bind (W_holding (W_mono z fun c h₃ z => W_bind (W_release _ _ (W_bind (W_holding (W_mono z fun t h₄ z => ?_))))))))))
  cases t with
  | false => exact W_pure z
  | true =>
    rw [if_pos rfl]
    rw [if_pos rfl] at z
    show W w A (do
      let rv ← holding [b] (eval r2 env)
      standAt pos
      let c ← operate [b, rv] (compareOp op2 b rv)
      holding [c] (truthy c)) Q h₄
    exact W_bind (W_holding (W_mono z fun d h₅ z => W_bind (W_standAt (W_bind (W_operate (W_mono z fun c h₆ z => W_holding z))))))
theorem W_leB {x y : Bool} {Q : Value → Heap → Prop} (q : Q (.bool (decide (b2i x ≤ b2i y))) h) : W w A (compareOp .LtE (.bool x) (.bool y)) Q h := W_any fun s e => le_bool ⟨Rest.refl s, e ▸ q⟩
theorem W_neB {x y : Bool} {Q : Value → Heap → Prop} (q : Q (.bool (x != y)) h) : W w A (compareOp .NotEq (.bool x) (.bool y)) Q h := W_any fun s e => ne_bool ⟨Rest.refl s, e ▸ q⟩

theorem W_Expr {e : Expr} {Q : Flow → Heap → Prop} (hi : interactive env = false) (x : W w A (eval e env) (fun _ => Q .next) h) (hs : swapsWith e none pos.line env = pure false := by rfl) : W w A (exec (.Expr e pos) env) Q h := by
  rw [exec_Expr env e pos hi hs]
  exact W_bind (W_standAt (W_bind (W_mono x fun v h' y => W_any fun s e => wpAny_dropValue ⟨Rest.refl s, e ▸ y⟩)))

-- classes
theorem W_clsVal {name : Str} {v : Value} {e : Bool} {Q : Value → Heap → Prop} (X : K.In h) (hr : readsIn K C (.type "type") = true) (hf : findCls K (.ref C) (.type "type") name = some (.val v)) (hh : handedIn v = true) (q : Q v h) : W w A (getAttr (.ref C) name e) Q h :=
  W_any fun s e => by subst e; exact cls_value X hr hf hh ⟨⟨rfl, rfl⟩, q⟩
theorem W_clsInt {name : Str} {e : Bool} {Q : Value → Heap → Prop} (X : K.In h) (hr : readsIn K C (.type "type") = true) (h1 : findIn K (.type "type") name = some none) (h2 : findIn K (.ref C) name = some (some (.type "int"))) (h3 : heldUnderItsOwnName name (.type "int") = false) (q : Q (.type "int") h) : W w A (getAttr (.ref C) name e) Q h :=
  W_any fun s e => by subst e; exact cls_type X hr h1 h2 h3 ⟨⟨rfl, rfl⟩, q⟩
theorem pack_none : typeLookup (.type "type") "pack_into" = pure none := by rw [typeLookup_type, builtinLookup_eq_fast]; kernel_rfl

-- bound methods
theorem findObj_bound {name : Str} {g : Value} (hc : (clsIn K C).isSome = true) (ha : findIn K (.ref C) name = some (some (.ref f))) (hg : specialIn K (.ref f) "__get__" = some (some g)) (ht : takesIn K (.ref f) = some false) (hn : copiedNames.contains name = false) :
    findObj K C (some emptyD) name = some (.bind g (.ref f)) := by
  obtain ⟨cd, hc⟩ := Option.isSome_iff_exists.mp hc
  have ho : W.ownOf cd (some emptyD) name = some none := by unfold W.ownOf; split <;> rfl
  unfold findObj
  rw [hc, Option.bind_some, ha, Option.bind_some]
  simp only [hg, ht, Option.bind_some, ho, hn, Bool.false_and, Bool.false_eq_true, if_false]
abbrev methO (f self : Value) : Obj := { cls := .type "method", data := .fields #[f, self] }
theorem W_getBound {name : Str} {e : Bool} {sl : Array (Option Value)} {Q : Value → Heap → Prop} (D : Here K w H0 env gs ls h l) (S : MethK K C name f) (hb : InstK h b C sl) (hg : specialIn K (.ref f) "__get__" = some (some (.builtin "function.__get__"))) (ht : takesIn K (.ref f) = some false) (hn : copiedNames.contains name = false)
    (q : ∀ h' m, Here K w H0 env gs ls h' ((m, methO (.ref f) (.ref b)) :: l) → Q (.ref m) h') : W w A (getAttr (.ref b) name e) Q h :=
  W_any fun s e => by
    subst e
    obtain ⟨dx, hb, hd⟩ := hb.ex
    exact get_bind D.kin (instAt hb hd) (plainGet_of S.cls.hg).1 (findObj_bound S.cls.hc S.hf hg ht hn) (plainGet_of S.cls.hg).2
      (wpAny_call (fn_get (s := { s with toks := s.toks + 1 }) D.kin (beq_iff_eq.mp S.ht) (handed_on rfl ⟨⟨rfl, rfl⟩, q _ _ (D.alloc rfl)⟩)))
theorem W_callBound {m : Addr} {self fv : Value} {pos : List Value} {kw : List (Str × Value)} {Q : Value → Heap → Prop} (hm : h.get? m = some (methO fv self)) (x : WC w A (.call fv ⟨self :: pos, kw⟩) (fun f h' => ∃ v, f = .ret v ∧ Q v h') h) : W w A (call (.ref m) pos kw) Q h := by
  refine W_call (WC_tree rfl ?_)
  show W w A.in1 (callAny (.ref m) ⟨pos, kw⟩) _ h
  simp only [callAny]
  refine W_bind (W_load hm ?_)
  cases fv <;> exact W_pure ⟨rfl, x⟩
theorem kept_meth {m : Addr} {self : Value} (X : K.In h) (hm : h.get? m = some (methO (.ref f) self)) (hf : fnIn K f = true) : ∃ k, Looks (MW w) h (keeperOf (.ref m)) k :=
  let ⟨k, _, L⟩ := keeps_M (M := MW w) hf h ⟨hm, X⟩
  ⟨k, L⟩
-- *args
theorem looks_iterT (ht : h.get? a = some (tupO vs)) : Looks (MW w) h (notIterableAtAll (.ref a)) false := by
  unfold notIterableAtAll
  refine (looks_special ht rfl F.slot_tuple_iter.lookup).andThen ?_
  exact .now
theorem W_spStar {x : Str} {p q : Pos} {Q : List Value → Heap → Prop} (D : Here K w H0 env gs ls h l) (hx : (x, some (.ref a)) ∈ ls) (ht : h.get? a = some (tupO vs)) (hz : vs.length ≤ sizeLine)
    (y : ∀ h', Here K w H0 env gs ls h' l → Q vs h') : W w A (spliced (backTo pos (starEach [.Starred (.Name x p) q] env))) Q h := by
  show W w A (spliced [(true, do let v ← eval (.Name x p) env; standAt pos; pure v)]) Q h
  rw [spliced]
  refine W_bind (W_bind (W_local D hx (W_bind (W_standAt (W_pure ?_)))))
  refine W_bind (W_looks (looks_iterT ht) ?_)
  rw [if_neg (by decide)]
  refine W_bind (W_any fun s e => ?_)
  subst e
  refine wpAny_collect_seq (T := "tuple") a (.inr rfl) ht rfl rfl (fun h' hk => ⟨⟨rfl, rfl⟩, ?_⟩) (by simpa using hz)
  have := y h' (D.kept hk)
  exact W_bind (W_holding (W_pure (W_pure (by simpa using this))))
/-- self.name(e, *args), self a name of the frame's -/
theorem W_starCall {x y : Str} {name : Str} {p q r : Pos} {e : Expr} {sl : Array (Option Value)} {Q : Value → Heap → Prop} (D : Here K w H0 env gs ls h l) (hx : (x, some (.ref b)) ∈ ls) (hb : InstK h b C sl) (S : MethK K C name f)
    (hg : specialIn K (.ref f) "__get__" = some (some (.builtin "function.__get__"))) (ht : takesIn K (.ref f) = some false) (hn : copiedNames.contains name = false) (hfn : fnIn K f = true)
    (z : ∀ h' m, Here K w H0 env gs ls h' ((m, methO (.ref f) (.ref b)) :: l) → W w A (spliced (backTo pos (starEach [e, .Starred (.Name y q) r] env))) (fun vs h₂ => Here K w H0 env gs ls h₂ ((m, methO (.ref f) (.ref b)) :: l) ∧ WC w A (.call (.ref f) ⟨.ref b :: vs, []⟩) (fun f h' => ∃ v, f = .ret v ∧ Q v h') h₂) h')
    (he : starEach [e, .Starred (.Name y q) r] env = [(false, eval e env), (true, eval (.Name y q) env)] := by rfl) (hl : (apos.endLine == pos.line) = true := by rfl) :
    W w A (eval (.Call (.Attribute (.Name x p) name apos) [e, .Starred (.Name y q) r] [] pos) env) Q h := by
  rw [arm_eval_Call, show attributeBase (.Name x p) name env (eval (.Name x p) env) = eval (.Name x p) env from rfl]
  refine W_bind (W_local D hx (W_bind (W_standAt ?_)))
  unfold methodCall
  rw [he]
  rw [show methodCallForm ([e, .Starred (.Name y q) r].length + ([] : List Keyword).length) (backTo pos [(false, eval e env), (true, eval (.Name y q) env)]) (backToKw pos (keywordEach [] env)) = false from rfl]
  unfold calleeOf methodCallPos
  refine W_bind (W_holding ?_)
  rw [if_neg (by decide)]
  refine W_bind (W_getBound D S hb hg ht hn fun h' m D' => W_pure ?_)
  refine W_bind (W_pure ?_)
  have zz := z h' m D'
  rw [he] at zz
  refine W_callWith ?_
  unfold evalArgs
  show W w A (spliced (backTo pos [(false, eval e env), (true, eval (.Name y q) env)]) >>= _) _ h'
  refine W_bind (W_mono zz fun vs h₂ u => ?_)
  refine W_holding ?_
  refine W_bind (W_pure (W_bind (W_pure (W_pure ?_))))
  exact ⟨kept_meth u.1.kin u.1.at0 hfn, W_callBound u.1.at0 u.2⟩
end
end

-- FC0
section
open PySem PySem.W PySem.Calls PyProof.Rows
theorem ite_t {p q : Prop} (x : p) : if (true : Bool) = true then p else q := x
theorem ite_f {p q : Prop} (x : q) : if (false : Bool) = true then p else q := x
theorem ite_nt {p q : Prop} (x : q) : if (!true) = true then p else q := x
theorem ite_nf {p q : Prop} (x : p) : if (!false) = true then p else q := x
section
variable {w : World} {A : Around} {H0 h : Heap} {env : Env} {gs : List Str} {ls : List (Str × Option Value)} {l : List (Addr × Obj)} {b : Addr} {st : BS} {e : Bool}
theorem set_cv0 {B0 : Addr} {cv0 : Option Addr} {fin0 : Bool} {force0 : Bool} {head0 : Int} {ht0 : Tok} {ma0 : Int} {mt0 : Tok} {nested0 : Bool} {oe0 : Option (Int × Tok)} {ss0 : Option Addr} {vne0 : Option (Option (Int × Tok))} {vt0 : Addr} {dx0 : Addr} {Q : Unit → Heap → Prop} (D : Here (hd.heap_39 w.params) w H0 env gs ls h ((b, bobj ⟨B0, cv0, fin0, force0, head0, ht0, ma0, mt0, nested0, oe0, ss0, vne0, vt0, dx0⟩) :: l)) (q : ∀ h', Here (hd.heap_39 w.params) w H0 env gs ls h' ((b, bobj ⟨B0, none, fin0, force0, head0, ht0, ma0, mt0, nested0, oe0, ss0, vne0, vt0, dx0⟩) :: l) → Q () h') : W w A (setAttr (.ref b) "current_vtable" .none) Q h := set_cv (x := none) D q
theorem set_oe0 {B0 : Addr} {cv0 : Option Addr} {fin0 : Bool} {force0 : Bool} {head0 : Int} {ht0 : Tok} {ma0 : Int} {mt0 : Tok} {nested0 : Bool} {oe0 : Option (Int × Tok)} {ss0 : Option Addr} {vne0 : Option (Option (Int × Tok))} {vt0 : Addr} {dx0 : Addr} {Q : Unit → Heap → Prop} (D : Here (hd.heap_39 w.params) w H0 env gs ls h ((b, bobj ⟨B0, cv0, fin0, force0, head0, ht0, ma0, mt0, nested0, oe0, ss0, vne0, vt0, dx0⟩) :: l)) (q : ∀ h', Here (hd.heap_39 w.params) w H0 env gs ls h' ((b, bobj ⟨B0, cv0, fin0, force0, head0, ht0, ma0, mt0, nested0, none, ss0, vne0, vt0, dx0⟩) :: l) → Q () h') : W w A (setAttr (.ref b) "objectEnd" .none) Q h := set_oe (x := none) D q
theorem set_ss0 {B0 : Addr} {cv0 : Option Addr} {fin0 : Bool} {force0 : Bool} {head0 : Int} {ht0 : Tok} {ma0 : Int} {mt0 : Tok} {nested0 : Bool} {oe0 : Option (Int × Tok)} {ss0 : Option Addr} {vne0 : Option (Option (Int × Tok))} {vt0 : Addr} {dx0 : Addr} {Q : Unit → Heap → Prop} (D : Here (hd.heap_39 w.params) w H0 env gs ls h ((b, bobj ⟨B0, cv0, fin0, force0, head0, ht0, ma0, mt0, nested0, oe0, ss0, vne0, vt0, dx0⟩) :: l)) (q : ∀ h', Here (hd.heap_39 w.params) w H0 env gs ls h' ((b, bobj ⟨B0, cv0, fin0, force0, head0, ht0, ma0, mt0, nested0, oe0, none, vne0, vt0, dx0⟩) :: l) → Q () h') : W w A (setAttr (.ref b) "sharedStrings" .none) Q h := set_ss (x := none) D q
theorem set_vne0 {B0 : Addr} {cv0 : Option Addr} {fin0 : Bool} {force0 : Bool} {head0 : Int} {ht0 : Tok} {ma0 : Int} {mt0 : Tok} {nested0 : Bool} {oe0 : Option (Int × Tok)} {ss0 : Option Addr} {vne0 : Option (Option (Int × Tok))} {vt0 : Addr} {dx0 : Addr} {Q : Unit → Heap → Prop} (D : Here (hd.heap_39 w.params) w H0 env gs ls h ((b, bobj ⟨B0, cv0, fin0, force0, head0, ht0, ma0, mt0, nested0, oe0, ss0, vne0, vt0, dx0⟩) :: l)) (q : ∀ h', Here (hd.heap_39 w.params) w H0 env gs ls h' ((b, bobj ⟨B0, cv0, fin0, force0, head0, ht0, ma0, mt0, nested0, oe0, ss0, some none, vt0, dx0⟩) :: l) → Q () h') : W w A (setAttr (.ref b) "vectorNumElems" .none) Q h := set_vne (x := none) D q
theorem set_cv1 {B0 : Addr} {cv0 : Option Addr} {fin0 : Bool} {force0 : Bool} {head0 : Int} {ht0 : Tok} {ma0 : Int} {mt0 : Tok} {nested0 : Bool} {oe0 : Option (Int × Tok)} {ss0 : Option Addr} {vne0 : Option (Option (Int × Tok))} {vt0 : Addr} {dx0 : Addr} {a : Addr} {Q : Unit → Heap → Prop} (D : Here (hd.heap_39 w.params) w H0 env gs ls h ((b, bobj ⟨B0, cv0, fin0, force0, head0, ht0, ma0, mt0, nested0, oe0, ss0, vne0, vt0, dx0⟩) :: l)) (q : ∀ h', Here (hd.heap_39 w.params) w H0 env gs ls h' ((b, bobj ⟨B0, some a, fin0, force0, head0, ht0, ma0, mt0, nested0, oe0, ss0, vne0, vt0, dx0⟩) :: l) → Q () h') : W w A (setAttr (.ref b) "current_vtable" (.ref a)) Q h := set_cv (x := some a) D q
theorem set_oe1 {B0 : Addr} {cv0 : Option Addr} {fin0 : Bool} {force0 : Bool} {head0 : Int} {ht0 : Tok} {ma0 : Int} {mt0 : Tok} {nested0 : Bool} {oe0 : Option (Int × Tok)} {ss0 : Option Addr} {vne0 : Option (Option (Int × Tok))} {vt0 : Addr} {dx0 : Addr} {i : Int} {t : Tok} {Q : Unit → Heap → Prop} (D : Here (hd.heap_39 w.params) w H0 env gs ls h ((b, bobj ⟨B0, cv0, fin0, force0, head0, ht0, ma0, mt0, nested0, oe0, ss0, vne0, vt0, dx0⟩) :: l)) (q : ∀ h', Here (hd.heap_39 w.params) w H0 env gs ls h' ((b, bobj ⟨B0, cv0, fin0, force0, head0, ht0, ma0, mt0, nested0, some (i, t), ss0, vne0, vt0, dx0⟩) :: l) → Q () h') : W w A (setAttr (.ref b) "objectEnd" (.int i t)) Q h := set_oe (x := some (i, t)) D q
theorem set_ss1 {B0 : Addr} {cv0 : Option Addr} {fin0 : Bool} {force0 : Bool} {head0 : Int} {ht0 : Tok} {ma0 : Int} {mt0 : Tok} {nested0 : Bool} {oe0 : Option (Int × Tok)} {ss0 : Option Addr} {vne0 : Option (Option (Int × Tok))} {vt0 : Addr} {dx0 : Addr} {a : Addr} {Q : Unit → Heap → Prop} (D : Here (hd.heap_39 w.params) w H0 env gs ls h ((b, bobj ⟨B0, cv0, fin0, force0, head0, ht0, ma0, mt0, nested0, oe0, ss0, vne0, vt0, dx0⟩) :: l)) (q : ∀ h', Here (hd.heap_39 w.params) w H0 env gs ls h' ((b, bobj ⟨B0, cv0, fin0, force0, head0, ht0, ma0, mt0, nested0, oe0, some a, vne0, vt0, dx0⟩) :: l) → Q () h') : W w A (setAttr (.ref b) "sharedStrings" (.ref a)) Q h := set_ss (x := some a) D q
theorem set_vne1 {B0 : Addr} {cv0 : Option Addr} {fin0 : Bool} {force0 : Bool} {head0 : Int} {ht0 : Tok} {ma0 : Int} {mt0 : Tok} {nested0 : Bool} {oe0 : Option (Int × Tok)} {ss0 : Option Addr} {vne0 : Option (Option (Int × Tok))} {vt0 : Addr} {dx0 : Addr} {i : Int} {t : Tok} {Q : Unit → Heap → Prop} (D : Here (hd.heap_39 w.params) w H0 env gs ls h ((b, bobj ⟨B0, cv0, fin0, force0, head0, ht0, ma0, mt0, nested0, oe0, ss0, vne0, vt0, dx0⟩) :: l)) (q : ∀ h', Here (hd.heap_39 w.params) w H0 env gs ls h' ((b, bobj ⟨B0, cv0, fin0, force0, head0, ht0, ma0, mt0, nested0, oe0, ss0, some (some (i, t)), vt0, dx0⟩) :: l) → Q () h') : W w A (setAttr (.ref b) "vectorNumElems" (.int i t)) Q h := set_vne (x := some (i, t)) D q

/-- what a builder holds, but for its buffer and for what marks an int -/
structure AS where
  cv : Option Addr
  fin : Bool
  force : Bool
  ma : Int
  nested : Bool
  oe : Option Int
  ss : Option Addr
  vne : Option (Option Int)
  vt : Addr
def BS.abs (st : BS) : AS := ⟨st.cv, st.fin, st.force, st.ma, st.nested, st.oe.map (·.1), st.ss, st.vne.map (Option.map (·.1)), st.vt⟩
/-- the builder b stands first in the ledger, its buffer next: T is what has been written, at the buffer's end; there is room for r octets ahead of it -/
def HB (w : World) (H0 : Heap) (env : Env) (gs : List Str) (ls : List (Str × Option Value)) (b : Addr) (as : AS) (T : List UInt8) (r : Nat) (h : Heap) (l : List (Addr × Obj)) : Prop :=
  ∃ (st : BS) (J : List UInt8), st.abs = as ∧ st.head = (J.length : Int) ∧ r ≤ J.length ∧ J.length + T.length ≤ 4096 ∧ Here (hd.heap_39 w.params) w H0 env gs ls h ((b, bobj st) :: (st.B, baO (J ++ T).toArray) :: l)
theorem HB.room {as : AS} {T : List UInt8} {r r' : Nat} (D : HB w H0 env gs ls b as T r h l) (hr : r' ≤ r) : HB w H0 env gs ls b as T r' h l :=
  let ⟨st, J, a, c, d, e, f⟩ := D
  ⟨st, J, a, c, Nat.le_trans hr d, e, f⟩
end
end

-- FBK
section
open PySem PySem.W PySem.Calls PyProof.Rows Builtin

section
variable {w : World} {A : Around} {h : Heap} {a b S C f : Addr} {K : Frag} {H0 : Heap} {env : Env} {gs : List Str} {ls : List (Str × Option Value)} {l : List (Addr × Obj)} {pos p p' : Pos}
/-- the turn is over, the measure has fallen -/
def Fell (I : Nat → Heap → Prop) (n : Nat) (f : Flow) (h' : Heap) : Prop := (f = .next ∨ f = .cont) ∧ ∃ m, m < n ∧ I m h'
theorem WC_whileInd {test : Expr} {body : List Stmt} {Q : Flow → Heap → Prop} (I : Nat → Heap → Prop)
    (step : ∀ n h, I n h → W w A (isTrue test env (eval test env)) (fun b h₁ => if b = true then W w A (execs body env) (Fell I n) h₁ else Q .next h₁) h) (h0 : ∃ n, I n h) : WC w A (.whileLoop test body [] env) Q h := by
  obtain ⟨n, h0⟩ := h0
  induction n using Nat.strongRecOn generalizing h with
  | ind n ih =>
    refine WC_while (W_mono (step n h h0) fun b h₁ y => ?_)
    cases b with
    | false => exact y
    | true =>
      refine W_mono y fun f h₂ z => ?_
      obtain ⟨hf, m, hm, z⟩ := z
      rcases hf with rfl | rfl
      · exact ih m hm z
      · exact ih m hm z
theorem WC_forInd {x : Str} {it : Value} {body : List Stmt} {Q : Flow → Heap → Prop} (I : Nat → Heap → Prop)
    (step : ∀ n h, I n h → W w A (pyNext it) (fun r h₁ => match r with
      | none => Q .next h₁
      | some v => W w A (storeName env x v) (fun _ h₂ => W w A (execs body env) (Fell I n) h₂) h₁) h) (h0 : ∃ n, I n h) : WC w A (.forLoop (.Name x p) it body [] env) Q h := by
  obtain ⟨n, h0⟩ := h0
  induction n using Nat.strongRecOn generalizing h with
  | ind n ih =>
    refine WC_for (W_mono (step n h h0) fun r h₁ y => ?_)
    cases r with
    | none => exact y
    | some v =>
      refine W_mono y fun _ h₂ z => W_mono z fun f h₃ z => ?_
      obtain ⟨hf, m, hm, z⟩ := z
      rcases hf with rfl | rfl
      · exact ih m hm z
      · exact ih m hm z
/-- what a list iterator has yet to give -/
theorem W_ListFor {x : Str} {iter : Expr} {body : List Stmt} {Q : Flow → Heap → Prop} {n0 m0 : Nat} {vs : List Value} (O : AOk m0 A) (I : Nat → Heap → Prop)
    (y : W w A (eval iter env) (fun xv h₁ => xv = .ref a ∧ Here K w H0 env gs ls h₁ l ∧ h₁.get? a = some (lstO vs n0) ∧ ∀ h₂ it o, Here K w H0 env gs ls h₂ ((it, o) :: l) → LIt o a 0 → WC w A (.forLoop (.Name x p) (.ref it) body [] env) Q h₂) h)
    (hf : ∀ v, foldedSetIterable iter env v = pure v := by intro _; rfl) : W w A (exec (.For (.Name x p) iter body [] pos) env) Q h :=
  W_For (W_mono y fun xv h₁ ⟨e, D, hl, z⟩ => by subst e; exact W_iterList D hl fun h₂ it o D' L => z h₂ it o D' L) hf
theorem W_IfP {test : Expr} {body : List Stmt} {Q : Flow → Heap → Prop} (P : Heap → Prop)
    (x : W w A (isTrue test env (eval test env)) (fun b h' => if b = true then W w A (execs body env) (fun f h'' => f = .next ∧ P h'') h' else P h') h) (y : ∀ h, P h → Q .next h) : W w A (exec (.If test body [] pos) env) Q h := by
  refine W_If (W_mono x fun b h' z => ?_)
  cases b with
  | false => rw [if_neg (by decide)] at z; exact W_nil (y _ z)
  | true => rw [if_pos rfl] at z; exact W_mono z fun f h'' u => by obtain ⟨rfl, u⟩ := u; exact y _ u
theorem W_flag {name : Str} {v : Value} {e : Bool} {Q : Value → Heap → Prop} (X : K.In h) (hf : readsIn K C (.type "type") = true ∧ findCls K (.ref C) (.type "type") name = some (.val v) ∧ handedIn v = true) (q : Q v h) : W w A (getAttr (.ref C) name e) Q h :=
  W_clsVal X hf.1 hf.2.1 hf.2.2 q
end
theorem fa_Uint8Flags (w : World) : readsIn (hd.heap_39 w.params) 84 (.type "type") = true ∧ findCls (hd.heap_39 w.params) (.ref 84) (.type "type") "bytewidth" = some (.val (.int 1 405)) ∧ handedIn (.int 1 405) = true := ⟨(flag_Uint8Flags w).rd, (flag_Uint8Flags w).bw, rfl⟩
theorem fa_Uint32Flags (w : World) : readsIn (hd.heap_39 w.params) 112 (.type "type") = true ∧ findCls (hd.heap_39 w.params) (.ref 112) (.type "type") "bytewidth" = some (.val (.int 4 473)) ∧ handedIn (.int 4 473) = true := ⟨(flag_Uint32Flags w).rd, (flag_Uint32Flags w).bw, rfl⟩
theorem fa_Int32Flags (w : World) : readsIn (hd.heap_39 w.params) 168 (.type "type") = true ∧ findCls (hd.heap_39 w.params) (.ref 168) (.type "type") "bytewidth" = some (.val (.int 4 615)) ∧ handedIn (.int 4 615) = true := ⟨(flag_Int32Flags w).rd, (flag_Int32Flags w).bw, rfl⟩
theorem fa_SOffsetTFlags (w : World) : readsIn (hd.heap_39 w.params) 196 (.type "type") = true ∧ findCls (hd.heap_39 w.params) (.ref 196) (.type "type") "bytewidth" = some (.val (.int 4 615)) ∧ handedIn (.int 4 615) = true := ⟨(flag_SOffsetTFlags w).rd, (flag_SOffsetTFlags w).bw, rfl⟩
theorem fa_UOffsetTFlags (w : World) : readsIn (hd.heap_39 w.params) 208 (.type "type") = true ∧ findCls (hd.heap_39 w.params) (.ref 208) (.type "type") "bytewidth" = some (.val (.int 4 473)) ∧ handedIn (.int 4 473) = true := ⟨(flag_UOffsetTFlags w).rd, (flag_UOffsetTFlags w).bw, rfl⟩
theorem fa_VOffsetTFlags (w : World) : readsIn (hd.heap_39 w.params) 220 (.type "type") = true ∧ findCls (hd.heap_39 w.params) (.ref 220) (.type "type") "bytewidth" = some (.val (.int 2 439)) ∧ handedIn (.int 2 439) = true := ⟨(flag_VOffsetTFlags w).rd, (flag_VOffsetTFlags w).bw, rfl⟩
theorem fa_max (w : World) : readsIn (hd.heap_39 w.params) 716 (.type "type") = true ∧ findCls (hd.heap_39 w.params) (.ref 716) (.type "type") "MAX_BUFFER_SIZE" = some (.val (.int 2147483648 886)) ∧ handedIn (.int 2147483648 886) = true := ⟨reads_B w, max_B w, rfl⟩
end

-- FC1
section
open PySem PySem.W PySem.Calls PyProof.Rows
end
section
open PySem PySem.W PySem.Calls PyProof.Rows
-- lines of my own for the walk
local macro_rules | `(tactic| kt_at_get) => `(tactic| with_reducible first
  | exact glob_unpack _
  | exact glob_string_types _
  | exact glob_uoffset _
  | exact glob_soffset _
  | exact glob_BoolFlags _
  | exact glob_Uint8Flags _
  | exact glob_Uint16Flags _
  | exact glob_Uint32Flags _
  | exact glob_Uint64Flags _
  | exact glob_Int8Flags _
  | exact glob_Int16Flags _
  | exact glob_Int32Flags _
  | exact glob_Int64Flags _
  | exact glob_SOffsetTFlags _
  | exact glob_UOffsetTFlags _
  | exact glob_VOffsetTFlags _
  | exact glob_enforce_number _
  | exact glob_FILE_IDENTIFIER_LENGTH _
  | exact glob_Write _
  | exact glob_OffsetArithmeticError _
  | exact glob_IsNotNestedError _
  | exact glob_IsNestedError _
  | exact glob_BuilderSizeError _
  | exact glob_BuilderNotFinishedError _
  | exact glob_EndVectorLengthMismatched _
  | exact glob_VtableMetadataFields _
  | exact glob_Builder _
  | exact glob_law_widths _
  | exact glob_law_scalar _
  | exact glob_law_slot _
  | exact glob_law_put _
  | exact glob_law_message _
  | exact glob_law_left _
  | exact glob_law_refused _)
local macro_rules | `(tactic| kt_at_item) => `(tactic| with_reducible first
  | exact keep_enforce_number _
  | exact keep_Write _
  | exact keep_law_widths _
  | exact keep_law_scalar _
  | exact keep_law_slot _
  | exact keep_law_put _
  | exact keep_law_message _
  | exact keep_law_left _
  | exact keep_law_refused _)
local macro_rules | `(tactic| kt_at_method) => `(tactic| with_reducible first
  | exact bi_bytearray _
  | exact bi_len _
  | exact bi_min _
  | exact bi_reversed _
  | exact bi_tuple _
  | exact bi_isinstance _
  | exact bi_range _
  | exact bi_bytes _)
local macro_rules | `(tactic| kt_at_notin) => `(tactic| with_reducible first
  | exact boot_bytearray
  | exact boot_len
  | exact boot_min
  | exact boot_reversed
  | exact boot_tuple
  | exact boot_isinstance
  | exact boot_range
  | exact boot_bytes)
local macro_rules | `(tactic| kt_at_in) => `(tactic| with_reducible first
  | exact meth_Clear _
  | exact meth_Output _
  | exact meth_StartObject _
  | exact meth_WriteVtable _
  | exact meth_EndObject _
  | exact meth_GrowByteBuffer _
  | exact meth_Head _
  | exact meth_Offset _
  | exact meth_Pad _
  | exact meth_Prep _
  | exact meth_PrependSOffsetTRelative _
  | exact meth_PrependUOffsetTRelative _
  | exact meth_StartVector _
  | exact meth_EndVector _
  | exact meth_CreateSharedString _
  | exact meth_CreateString _
  | exact meth_assertNested _
  | exact meth_assertNotNested _
  | exact meth_Slot _
  | exact meth_iFinish _
  | exact meth_Finish _
  | exact meth_FinishSizePrefixed _
  | exact meth_Prepend _
  | exact meth_PrependSlot _
  | exact meth_PrependBoolSlot _
  | exact meth_PrependUint8Slot _
  | exact meth_PrependUint16Slot _
  | exact meth_PrependUint32Slot _
  | exact meth_PrependUint64Slot _
  | exact meth_PrependInt8Slot _
  | exact meth_PrependInt16Slot _
  | exact meth_PrependInt32Slot _
  | exact meth_PrependInt64Slot _
  | exact meth_PrependUOffsetTRelativeSlot _
  | exact meth_PrependBool _
  | exact meth_PrependUint8 _
  | exact meth_PrependUint16 _
  | exact meth_PrependUint32 _
  | exact meth_PrependUint64 _
  | exact meth_PrependInt8 _
  | exact meth_PrependInt16 _
  | exact meth_PrependInt32 _
  | exact meth_PrependInt64 _
  | exact meth_ForceDefaults _
  | exact meth_PrependVOffsetT _
  | exact meth_Place _
  | exact meth_PlaceSOffsetT _
  | exact meth_PlaceUOffsetT _)
local macro_rules | `(tactic| kpc_turns) => `(tactic| with_reducible first
  | exact fa_Uint8Flags _
  | exact fa_Uint32Flags _
  | exact fa_Int32Flags _
  | exact fa_SOffsetTFlags _
  | exact fa_UOffsetTFlags _
  | exact fa_VOffsetTFlags _
  | exact fa_max _)
local macro_rules | `(tactic| keq_rows) => `(tactic| first
  | ((with_reducible show W _ _ (PySem.execs _ _) _ _); with_reducible first
    | refine W_cons ?_
    | refine W_nil ?_)
  | ((with_reducible show W _ _ (PySem.exec _ _) _ _); with_reducible first
    | refine W_If ?_
    | refine W_AssignName ?_ (by with_unfolding_all exact rfl)
    | refine W_AssignAttr ?_ (by with_unfolding_all exact rfl)
    | refine W_AssignSub ?_ (by with_unfolding_all exact rfl)
    | refine W_AugName ?_
    | refine W_Expr (Here.inter (by with_reducible assumption)) ?_ (by with_unfolding_all exact rfl)
    | refine W_Return ?_
    | refine W_Return0 ?_
    | refine W_Continue ?_
    | refine W_Pass ?_)
  | ((with_reducible show W _ _ (PySem.eval (.Name _ _) _) _ _); with_reducible first
    | refine W_local (by with_reducible assumption) (by repeat (first | with_reducible exact List.mem_cons_self | with_reducible refine List.mem_cons_of_mem _ ?_)) ?_
    | refine W_global (by with_reducible assumption) (by repeat (first | with_reducible exact List.mem_cons_self | with_reducible refine List.mem_cons_of_mem _ ?_)) (by kt_at_get) ?_)
  | ((with_reducible show W _ _ (PySem.eval (.Constant _ _ _) _) _ _); with_reducible first
    | (refine W_int ?_; intro _)
    | refine W_none ?_
    | refine W_boolC ?_
    | (refine W_strC ?_; intro _)
    | (refine W_bytesC ?_; intro _))
  | ((with_reducible show W _ _ (PySem.eval (.Call (.Attribute (.Name _ _) _ _) _ _ _) _) _ _); with_reducible first
    | refine W_mcall0 (by with_reducible assumption) (by repeat (first | with_reducible exact List.mem_cons_self | with_reducible refine List.mem_cons_of_mem _ ?_)) (Here.inst0 (by with_reducible assumption)) (by kt_at_in) ?_ (by with_unfolding_all exact rfl)
    | refine W_mcall (by with_reducible assumption) (by repeat (first | with_reducible exact List.mem_cons_self | with_reducible refine List.mem_cons_of_mem _ ?_)) (Here.inst0 (by with_reducible assumption)) (by kt_at_in) ?_ (by with_unfolding_all exact rfl) (by with_unfolding_all exact rfl) (by with_unfolding_all exact rfl))
  | ((with_reducible show W _ _ (PySem.eval (.Call (.Name _ _) _ _ _) _) _ _); with_reducible first
    | refine W_fcall0 (by with_reducible assumption) (by repeat (first | with_reducible exact List.mem_cons_self | with_reducible refine List.mem_cons_of_mem _ ?_)) (by kt_at_get) (by kt_at_item) ?_
    | refine W_fcall (by with_reducible assumption) (by repeat (first | with_reducible exact List.mem_cons_self | with_reducible refine List.mem_cons_of_mem _ ?_)) (by kt_at_get) (by kt_at_item) ?_ (by with_unfolding_all exact rfl)
    | refine W_bcall (by with_reducible assumption) (by repeat (first | with_reducible exact List.mem_cons_self | with_reducible refine List.mem_cons_of_mem _ ?_)) (by kt_at_method) (by kt_at_notin) (by decide) ?_ (by with_unfolding_all exact rfl)
    | refine W_tcall (by with_reducible assumption) (by repeat (first | with_reducible exact List.mem_cons_self | with_reducible refine List.mem_cons_of_mem _ ?_)) (by kt_at_method) (by kt_at_notin) (by decide) ?_ (by with_unfolding_all exact rfl))
  | ((with_reducible show W _ _ (PySem.eval _ _) _ _); with_reducible first
    | refine W_AttrName ?_
    | refine W_BinOp ?_
    | refine W_UnaryOp ?_
    | refine W_Compare1 ?_ (by with_unfolding_all exact rfl)
    | refine W_IfExp ?_)
  | ((with_reducible show W _ _ (spliced _) _ _); with_reducible first
    | refine W_sp1 ?_ (by with_unfolding_all exact rfl)
    | refine W_sp0 ?_)
  | ((with_reducible show W _ _ (binaryOp _ _ _) _ _); with_reducible first
    | (refine W_add ?_; intro _)
    | (refine W_sub ?_; intro _)
    | (refine W_and ?_; intro _))
  | ((with_reducible show W _ _ (inplaceOp _ _ _) _ _); with_reducible first
    | (refine W_iadd ?_; intro _)
    | (refine W_isub ?_; intro _)
    | (refine W_iand ?_; intro _))
  | ((with_reducible show W _ _ (unaryOp _ _) _ _); with_reducible first
    | (refine W_neg ?_; intro _)
    | (refine W_inv ?_; intro _))
  | ((with_reducible show W _ _ (compareOp _ _ _) _ _); with_reducible first
    | refine W_eq ?_
    | refine W_ne ?_
    | refine W_leB ?_
    | refine W_neB ?_
    | refine W_lt ?_
    | refine W_le ?_
    | refine W_gt ?_
    | refine W_ge ?_
    | refine W_is ?_
    | refine W_isNot ?_)
  | ((with_reducible show W _ _ (getAttr _ _ _) _ _); with_reducible first
    | refine get_head (by with_reducible assumption) ?_
    | refine get_Bytes (by with_reducible assumption) ?_
    | refine get_nested (by with_reducible assumption) ?_
    | refine get_ma (by with_reducible assumption) ?_
    | refine get_cv (by with_reducible assumption) ?_
    | refine get_fin (by with_reducible assumption) ?_
    | refine get_force (by with_reducible assumption) ?_
    | refine get_oe (by with_reducible assumption) ?_
    | refine get_ss (by with_reducible assumption) ?_
    | refine get_vt (by with_reducible assumption) ?_
    | refine get_vne (by with_reducible assumption) (by with_reducible assumption) ?_
    | refine W_flag (Here.kin (by with_reducible assumption)) (by kpc_turns) ?_)
  | ((with_reducible show W _ _ (setAttr _ _ _) _ _); with_reducible first
    | (refine set_head (by with_reducible assumption) ?_; intro _ _)
    | (refine set_Bytes (by with_reducible assumption) ?_; intro _ _)
    | (refine set_nested (by with_reducible assumption) ?_; intro _ _)
    | (refine set_ma (by with_reducible assumption) ?_; intro _ _)
    | (refine set_fin (by with_reducible assumption) ?_; intro _ _)
    | (refine set_force (by with_reducible assumption) ?_; intro _ _)
    | (refine set_vt (by with_reducible assumption) ?_; intro _ _)
    | (refine set_cv0 (by with_reducible assumption) ?_; intro _ _)
    | (refine set_oe0 (by with_reducible assumption) ?_; intro _ _)
    | (refine set_ss0 (by with_reducible assumption) ?_; intro _ _)
    | (refine set_vne0 (by with_reducible assumption) ?_; intro _ _)
    | (refine set_cv1 (by with_reducible assumption) ?_; intro _ _)
    | (refine set_oe1 (by with_reducible assumption) ?_; intro _ _)
    | (refine set_ss1 (by with_reducible assumption) ?_; intro _ _)
    | (refine set_vne1 (by with_reducible assumption) ?_; intro _ _))
  | ((with_reducible show W _ _ (isTrue _ _ _) _ _); with_reducible first
    | refine W_tCompare1 ?_ (by with_unfolding_all exact rfl)
    | refine W_tChain ?_ (by with_unfolding_all exact rfl)
    | refine W_tNot ?_
    | refine W_tBool ?_
    | refine W_tVal ?_ (by with_unfolding_all exact rfl))
  | ((with_reducible show W _ _ (allTrue _ _ _) _ _); with_reducible first
    | refine W_all1 ?_
    | refine W_any1 ?_
    | refine W_all0 ?_
    | refine W_any0 ?_)
  | ((with_reducible show W _ _ (truthy _) _ _); with_reducible first
    | refine W_truthyB ?_
    | refine W_truthyI ?_
    | refine W_truthyN ?_)
  | ((with_reducible show W _ _ (storeName _ _ _) _ _); with_reducible first
    | (refine W_store (by with_reducible assumption) (by repeat (first | with_reducible exact SetL.head | with_reducible apply SetL.tail)) ?_; intro _ _))
  | ((with_reducible show W _ _ (loadName _ _) _ _); with_reducible first
    | refine W_loadLocal (by with_reducible assumption) (by repeat (first | with_reducible exact List.mem_cons_self | with_reducible refine List.mem_cons_of_mem _ ?_)) ?_)
  | (with_reducible refine then_next ?_)
  | ((with_reducible show (@ite Prop _ _ _ _)); with_reducible first | refine ite_t ?_ | refine ite_f ?_ | refine ite_nt ?_ | refine ite_nf ?_)
  | ((with_reducible show (Frag.In _ _ ∧ _)); with_reducible refine ⟨Here.kin (by with_reducible assumption), ?_⟩))
section
section
variable {w : World} {A : Around} {H0 h : Heap} {env : Env} {gs : List Str} {ls : List (Str × Option Value)} {l : List (Addr × Obj)} {b : Addr} {as : AS} {T : List UInt8} {r : Nat}

theorem sz {J T : List UInt8} : ((J ++ T).toArray.size : Int) = J.length + T.length := by simp
theorem sp_Head {Q : Value → Heap → Prop} (D : HB w H0 env gs ls b as T r h l) (O : AOk 1 A) (q : ∀ h' (n : Nat) t, r ≤ n → n + T.length ≤ 4096 → HB w H0 env gs ls b as T r h' l → Q (.int n t) h') : W w A (call (.ref 379) [.ref b]) Q h := by
  obtain ⟨st, J, a, c, d, e, D⟩ := D
  refine W_fn2 D O [("self", .ref b)] ["self"] [] [] (by k_is) (by k_is) (fun _ _ => BindsTo.of_eq rfl) rfl (by decide +kernel) ?_
  intro env A h X O D back
  simp only [startL, List.map_cons, List.map_nil, List.cons_append, List.nil_append] at D
  (repeat keq_rows)
  rw [c]
  exact q _ _ _ d e ⟨st, J, a, c, d, e, back _ _ _ _ _ D⟩
theorem sp_Offset {Q : Value → Heap → Prop} (D : HB w H0 env gs ls b as T r h l) (O : AOk 1 A) (q : ∀ h' t, HB w H0 env gs ls b as T r h' l → Q (.int (T.length : Int) t) h') : W w A (call (.ref 386) [.ref b]) Q h := by
  obtain ⟨st, J, a, c, d, e, D⟩ := D
  refine W_fn2 D O [("self", .ref b)] ["self"] [] ["len"] (by k_is) (by k_is) (fun _ _ => BindsTo.of_eq rfl) rfl (by decide +kernel) ?_
  intro env A h X O D back
  simp only [startL, List.map_cons, List.map_nil, List.cons_append, List.nil_append] at D
  (repeat keq_rows)
  refine W_lenBA D.at1 (by simp; rw [sizeLine_eq]; omega) fun t => ?_
  (repeat keq_rows)
  rw [sz, c, show (J.length : Int) + T.length - J.length = T.length by omega]
  exact q _ _ ⟨st, J, a, c, d, e, back _ _ _ _ _ D⟩
theorem sp_assertNested {Q : Value → Heap → Prop} (D : HB w H0 env gs ls b as T r h l) (O : AOk 1 A) (hn : as.nested = true) (q : ∀ h', HB w H0 env gs ls b as T r h' l → Q .none h') : W w A (call (.ref 457) [.ref b]) Q h := by
  obtain ⟨st, J, a, c, d, e, D⟩ := D
  have hn : st.nested = true := by rw [← hn, ← a]; rfl
  refine W_fn2 D O [("self", .ref b)] ["self"] [] ["IsNotNestedError"] (by k_is) (by k_is) (fun _ _ => BindsTo.of_eq rfl) rfl (by decide +kernel) ?_
  intro env A h X O D back
  simp only [startL, List.map_cons, List.map_nil, List.cons_append, List.nil_append] at D
  (repeat keq_rows)
  rw [hn]
  (repeat keq_rows)
  exact q _ ⟨st, J, a, c, d, e, back _ _ _ _ _ D⟩
theorem sp_assertNotNested {Q : Value → Heap → Prop} (D : HB w H0 env gs ls b as T r h l) (O : AOk 1 A) (hn : as.nested = false) (q : ∀ h', HB w H0 env gs ls b as T r h' l → Q .none h') : W w A (call (.ref 464) [.ref b]) Q h := by
  obtain ⟨st, J, a, c, d, e, D⟩ := D
  have hn : st.nested = false := by rw [← hn, ← a]; rfl
  refine W_fn2 D O [("self", .ref b)] ["self"] [] ["IsNestedError"] (by k_is) (by k_is) (fun _ _ => BindsTo.of_eq rfl) rfl (by decide +kernel) ?_
  intro env A h X O D back
  simp only [startL, List.map_cons, List.map_nil, List.cons_append, List.nil_append] at D
  (repeat keq_rows)
  rw [hn]
  (repeat keq_rows)
  exact q _ ⟨st, J, a, c, d, e, back _ _ _ _ _ D⟩
theorem sp_ForceDefaults {x : Bool} {Q : Value → Heap → Prop} (D : HB w H0 env gs ls b as T r h l) (O : AOk 1 A) (q : ∀ h', HB w H0 env gs ls b { as with force := x } T r h' l → Q .none h') : W w A (call (.ref 677) [.ref b, .bool x]) Q h := by
  obtain ⟨st, J, a, c, d, e, D⟩ := D
  refine W_fn2 D O [("self", .ref b), ("forceDefaults", .bool x)] ["self", "forceDefaults"] [] [] (by k_is) (by k_is) (fun _ _ => BindsTo.of_eq rfl) rfl (by decide +kernel) ?_
  intro env A h X O D back
  simp only [startL, List.map_cons, List.map_nil, List.cons_append, List.nil_append] at D
  (repeat keq_rows)
  rename_i D
  exact q _ ⟨{ st with force := x }, J, by rw [← a]; rfl, c, d, e, back _ _ _ _ _ D⟩
end
end

-- FC2
section
open PySem PySem.W PySem.Calls PyProof.Rows
section
variable {w : World} {A : Around} {H0 h : Heap} {env : Env} {gs : List Str} {ls : List (Str × Option Value)} {l : List (Addr × Obj)} {b : Addr} {as : AS} {T : List UInt8} {r : Nat} {pos p p' : Pos}

theorem W_Slice2 {x y : Expr} {Q : Value → Heap → Prop} (z : W w A (eval x env) (fun l h₁ => W w A (eval y env) (fun u h₂ => Q (.ref h₂.objs.size) (h₂.push (slO l u .none))) h₁) h) : W w A (eval (.Slice (some x) (some y) none p) env) Q h := by
  rw [arm_eval_Slice]
  refine W_bind (W_mono z fun l h₁ y => W_bind (W_holding (W_mono y fun u h₂ y => W_bind (W_holding (W_pure ?_)))))
  exact W_newSlice y
theorem W_Slice1 {x : Expr} {Q : Value → Heap → Prop} (z : W w A (eval x env) (fun l h₁ => Q (.ref h₁.objs.size) (h₁.push (slO l .none .none))) h) : W w A (eval (.Slice (some x) none none p) env) Q h := by
  rw [arm_eval_Slice]
  refine W_bind (W_mono z fun l h₁ y => W_bind (W_holding (W_pure (W_bind (W_holding (W_pure ?_))))))
  exact W_newSlice y
theorem W_Slice0 {y : Expr} {Q : Value → Heap → Prop} (z : W w A (eval y env) (fun u h₂ => Q (.ref h₂.objs.size) (h₂.push (slO .none u .none))) h) : W w A (eval (.Slice none (some y) none p) env) Q h := by
  rw [arm_eval_Slice]
  refine W_bind (W_pure (W_bind (W_holding (W_mono z fun u h₂ y => W_bind (W_holding (W_pure ?_))))))
  exact W_newSlice y
theorem W_zeros {n : Int} {t u : Tok} {Q : Value → Heap → Prop} (h0 : 0 ≤ n) (h1 : n ≤ 1048576) (q : ∀ t, Q (.bytes (List.replicate n.toNat 0).toArray t) h) : W w A (binaryOp .Mult (.bytes [0].toArray t) (.int n u)) Q h := by
  refine W_any fun s e => PySem.W.bytes_mul_any (b := [0]) (by simp) (by omega) h1 (by simp) fun t' k => ⟨⟨rfl, rfl⟩, ?_⟩
  subst e
  have e : (List.replicate n.toNat ([0] : List UInt8)).flatten = List.replicate n.toNat 0 := by
    generalize n.toNat = m
    induction m with
    | zero => rfl
    | succ m ih => rw [List.replicate_succ, List.flatten_cons, ih]; rfl
  rw [e]
  exact q _
/-- B[lo:hi] = x, the builder ahead of its buffer -/
theorem W_putBytes {K : Frag} {a : Addr} {p : Addr × Obj} {buf : Array UInt8} {lo hi : Int} {t u v : Tok} {x : Array UInt8} {Q : Unit → Heap → Prop} (D : Here K w H0 env gs ls h (p :: (a, baO buf) :: l))
    (h0 : 0 ≤ lo) (h1 : lo ≤ hi) (h2 : hi ≤ buf.size) (hz : buf.size ≤ sizeLine) (hx : (x.size : Int) = hi - lo)
    (q : ∀ h', Here K w H0 env gs ls h' (p :: (a, baO (buf.extract 0 lo.toNat ++ x ++ buf.extract hi.toNat buf.size)) :: l) → Q () h') :
    W w A (setItem (.ref a) (.ref h.objs.size) (.bytes x v)) Q (h.push (slO (.int lo t) (.int hi u) .none)) :=
  W_setSliceBytes (l := p :: l) ((D.alloc (o := slO (.int lo t) (.int hi u) .none) rfl).perm (List.perm_middle (l₁ := [_, _]))|>.perm (.cons _ (.refl _))) h0 h1 h2 hz hx fun h' D => q h' D.swap
theorem W_putBA {K : Frag} {a S : Addr} {p : Addr × Obj} {buf src : Array UInt8} {lo : Int} {t : Tok} {Q : Unit → Heap → Prop} (D : Here K w H0 env gs ls h (p :: (a, baO buf) :: (S, baO src) :: l))
    (h0 : 0 ≤ lo) (h1 : lo ≤ buf.size) (hz : buf.size ≤ sizeLine) (hx : (src.size : Int) = buf.size - lo)
    (q : ∀ h', Here K w H0 env gs ls h' (p :: (a, baO (buf.extract 0 lo.toNat ++ src)) :: (S, baO src) :: l) → Q () h') : W w A (setItem (.ref a) (.ref h.objs.size) (.ref S)) Q (h.push (slO (.int lo t) .none .none)) := by
  have D1 := D.alloc (o := slO (.int lo t) .none .none) rfl
  have D2 : Here K w H0 env gs ls _ ((a, baO buf) :: (S, baO src) :: (h.objs.size, slO (.int lo t) .none .none) :: p :: l) := D1.perm (((List.perm_middle (l₁ := [_, _])).trans (.cons _ (List.perm_middle (l₁ := [_, _])))))
  exact W_setFromBA D2 h0 h1 hz hx fun h' D => q h' (D.perm (List.perm_middle (l₁ := [_, _])))
theorem W_cutFrom {K : Frag} {a : Addr} {p : Addr × Obj} {buf : Array UInt8} {k : Int} {t : Tok} {Q : Value → Heap → Prop} (D : Here K w H0 env gs ls h (p :: (a, baO buf) :: l)) (h0 : 0 ≤ k) (h1 : k ≤ buf.size) (hz : buf.size ≤ sizeLine)
    (q : ∀ h' c, Here K w H0 env gs ls h' ((c, baO (buf.toList.drop k.toNat).toArray) :: p :: (a, baO buf) :: l) → Q (.ref c) h') : W w A (getItem (.ref a) (.ref h.objs.size)) Q (h.push (slO (.int k t) .none .none)) := by
  have D1 := D.alloc (o := slO (.int k t) .none .none) rfl
  exact W_getFrom D1.at2 D1.at0 h0 h1 hz (q _ _ (D1.alloc (o := baO (buf.toList.drop k.toNat).toArray) rfl).drop1)
theorem pad_list (J T : List UInt8) (n : Nat) (hn : n ≤ J.length) (x : List UInt8) : (J ++ T).toArray.extract 0 (J.length - n) ++ x.toArray ++ (J ++ T).toArray.extract J.length (J ++ T).toArray.size = (J.take (J.length - n) ++ (x ++ T)).toArray := by
  apply Array.toList_inj.mp
  simp [List.take_append, List.drop_append]
theorem sp_Pad {n : Int} {t : Tok} {Q : Value → Heap → Prop} (D : HB w H0 env gs ls b as T r h l) (O : AOk 1 A) (h0 : 0 ≤ n) (hn : n.toNat ≤ r) (q : ∀ h', HB w H0 env gs ls b as (List.replicate n.toNat 0 ++ T) (r - n.toNat) h' l → Q .none h') : W w A (call (.ref 393) [.ref b, .int n t]) Q h := by
  obtain ⟨st, J, a, c, d, e, D⟩ := D
  refine W_fn2 D O [("self", .ref b), ("n", .int n t)] ["self", "n"] ["new_head"] [] (by k_is) (by k_is) (fun _ _ => BindsTo.of_eq rfl) rfl (by decide +kernel) ?_
  intro env A h X O D back
  simp only [startL, List.map_cons, List.map_nil, List.cons_append, List.nil_append] at D
  (repeat keq_rows)
  by_cases hz : n ≤ 0
  · have : n = 0 := by omega
    subst this
    rw [if_pos (by simp)]
    (repeat keq_rows)
    exact q _ ⟨st, J, a, c, by omega, by simpa using e, back _ _ _ _ _ D⟩
  · rw [if_neg (by simpa using hz)]
    (repeat keq_rows)
    refine W_zeros h0 (by omega) fun t2 => ?_
    (repeat keq_rows)
    refine W_Slice2 ?_
    (repeat keq_rows)
    (rename Here _ _ _ _ _ _ _ _ => D)
    refine W_putBytes D (by rw [c]; omega) (by omega) (by rw [c, sz]; omega) (by simp; rw [sizeLine_eq]; omega) (by simp; omega) ?_
    intro h' D
    (repeat keq_rows)
    (rename Here _ _ _ _ _ _ _ _ => D)
    have e1 : (st.head - n).toNat = J.length - n.toNat := by omega
    have e2 : st.head.toNat = J.length := by omega
    rw [e1, e2, pad_list J T n.toNat (by omega)] at D
    exact q _ ⟨{ st with head := st.head - n, ht := _ }, J.take (J.length - n.toNat), a, by simp; omega, by simp; omega, by simp; omega, back _ _ _ _ _ D⟩

theorem grow_arr (m : Nat) (lo : Nat) (k : Nat) (e : lo = k) (hk : k ≤ m) : (Array.replicate m (0 : UInt8)).extract 0 lo = Array.replicate k 0 := by
  subst e
  apply Array.toList_inj.mp
  simp
  omega
/-- GrowByteBuffer: twice the buffer, what was in it at its end -/
theorem sp_Grow {st : BS} {buf : Array UInt8} {Q : Value → Heap → Prop} (D : Here (hd.heap_39 w.params) w H0 env gs ls h ((b, bobj st) :: (st.B, baO buf) :: l)) (O : AOk 1 A) (hz : buf.size ≤ 2048)
    (q : ∀ h' B', Here (hd.heap_39 w.params) w H0 env gs ls h' ((b, bobj { st with B := B' }) :: (B', baO (Array.replicate (if buf.size = 0 then 1 else buf.size) 0 ++ buf)) :: l) → Q .none h') : W w A (call (.ref 372) [.ref b]) Q h := by
  refine W_fn2 D O [("self", .ref b)] ["self"] ["newSize", "bytes2", "msg"] ["len", "Builder", "min", "bytearray", "BuilderSizeError"] (by k_is) (by k_is) (fun _ _ => BindsTo.of_eq rfl) rfl (by decide +kernel) ?_
  intro env A h X O D back
  simp only [startL, List.map_cons, List.map_nil, List.cons_append, List.nil_append] at D
  have hlen : ∀ {h Q ls'} {l' : List (Addr × Obj)}, Here (hd.heap_39 w.params) w H0 env ["len", "Builder", "min", "bytearray", "BuilderSizeError"] ls' h ((b, bobj st) :: (st.B, baO buf) :: l') → (∀ t, Q (.int buf.size t) h) → W w A (call (.builtin "len") [.ref st.B]) Q h :=
    fun D q => W_lenBA D.at1 (by rw [sizeLine_eq]; omega) q
  (repeat keq_rows)
  refine hlen D fun t1 => ?_
  (repeat keq_rows)
  rw [show ((buf.size : Int) == 2147483648) = false from beq_eq_false_iff_ne.mpr (by omega)]
  (repeat keq_rows)
  refine hlen D fun t2 => ?_
  (repeat keq_rows)
  refine W_mul (IntMulOk.of_right (by decide +kernel)) fun t3 => ?_
  (repeat keq_rows)
  refine W_min2 O D fun h t4 D => ?_
  rw [if_neg (by omega)]
  (repeat keq_rows)
  rcases Nat.eq_zero_or_pos buf.size with hs | hs
  case' inl =>
    rw [if_pos (by simp [hs])]
    (repeat keq_rows)
  case' inr =>
    rw [if_neg (by simp only [beq_iff_eq]; omega)]
    (repeat keq_rows)
  all_goals
    (rename Here _ _ _ _ _ _ _ _ => D)
    refine W_newBA D (by omega) (by rw [sizeLine_eq]; omega) fun h N D => ?_
    have D := D.swap
    (repeat keq_rows)
    (rename Here _ _ _ _ _ _ _ _ => D)
    refine W_Slice1 ?_
    (repeat keq_rows)
    (rename Here _ _ _ _ _ _ _ _ => D)
    refine W_lenBA D.at2 (by rw [sizeLine_eq]; omega) fun t1 => ?_
    (repeat keq_rows)
    refine W_putBA D (by omega) (by simp; omega) (by simp; rw [sizeLine_eq]; omega) (by simp; omega) ?_
    intro h' D
    (repeat keq_rows)
    (rename Here _ _ _ _ _ _ _ _ => D)
  · rw [grow_arr _ _ buf.size (by omega) (by omega)] at D
    rw [if_neg (by omega)] at q
    exact q _ N (back _ _ _ _ _ D.drop2)
  · rw [grow_arr _ _ 1 (by omega) (by omega)] at D
    rw [if_pos hs] at q
    exact q _ N (back _ _ _ _ _ D.drop2)
end
end

-- FC3
section
open PySem PySem.W PySem.Calls PyProof.Rows
section
variable {w : World} {A : Around} {H0 h : Heap} {env : Env} {gs : List Str} {ls : List (Str × Option Value)} {l : List (Addr × Obj)} {b : Addr} {as : AS} {T : List UInt8} {r : Nat} {pos p p' : Pos}
def isW (size : Int) : Prop := size = 1 ∨ size = 2 ∨ size = 4 ∨ size = 8
/-- how many octets align x to size -/
def al (size x : Int) : Nat := ((-x) % size).toNat
theorem al_lt {size x : Int} (hs : isW size) : ((al size x : Nat) : Int) < size := by unfold al; rcases hs with rfl | rfl | rfl | rfl <;> omega
theorem al_eq {size x : Int} (hs : isW size) : Builtin.bitAnd (Builtin.bitNot x + 1) (size - 1) = (al size x : Nat) := by
  have e : Builtin.bitNot x + 1 = -x := by show -x - 1 + 1 = -x; omega
  rw [e]
  unfold al
  rcases hs with rfl | rfl | rfl | rfl
  · show Builtin.bitAnd (-x) 0 = _
    have : Builtin.bitAnd (-x) 0 = 0 := by unfold Builtin.bitAnd; split <;> simp_all
    rw [this]; omega
  · show Builtin.bitAnd (-x) 1 = _
    rw [bitAnd_m1]; omega
  · show Builtin.bitAnd (-x) 3 = _
    rw [bitAnd_m2]; omega
  · show Builtin.bitAnd (-x) 7 = _
    rw [bitAnd_m3]; omega
theorem grown (k : Nat) (J T : List UInt8) : Array.replicate k 0 ++ (J ++ T).toArray = ((List.replicate k 0 ++ J) ++ T).toArray := by
  apply Array.toList_inj.mp
  simp
theorem sp_Prep {size add : Int} {t u : Tok} {Q : Value → Heap → Prop} (D : HB w H0 env gs ls b as T r h l) (O : AOk 2 A) (hs : isW size) (ha : 0 ≤ add) (hb : T.length + add ≤ 1000)
    (q : ∀ h', HB w H0 env gs ls b { as with ma := max as.ma size } (List.replicate (al size (T.length + add)) 0 ++ T) (max (size + add).toNat (r - al size (T.length + add))) h' l → Q .none h') : W w A (call (.ref 400) [.ref b, .int size t, .int add u]) Q h := by
  have hal := al_lt (x := T.length + add) hs
  have hs8 : 1 ≤ size ∧ size ≤ 8 := by rcases hs with rfl | rfl | rfl | rfl <;> omega
  obtain ⟨st, J, a, c, d, e, D⟩ := D
  refine W_fn2 D O [("self", .ref b), ("size", .int size t), ("additionalBytes", .int add u)] ["self", "size", "additionalBytes"] ["head", "buf_len", "alignSize", "needed", "oldBufSize"] ["len"] (by k_is) (by k_is) (fun _ _ => BindsTo.of_eq rfl) rfl (by decide +kernel) ?_
  intro env A h X O D back
  simp only [startL, List.map_cons, List.map_nil, List.cons_append, List.nil_append] at D
  refine W_cons ?_
  refine W_IfP (fun h => ∃ mt, Here (hd.heap_39 w.params) w H0 env ["len"] [("self", some (.ref b)), ("size", some (.int size t)), ("additionalBytes", some (.int add u)), ("head", none), ("buf_len", none), ("alignSize", none), ("needed", none), ("oldBufSize", none)] h ((b, bobj { st with ma := max st.ma size, mt := mt }) :: (st.B, baO (J ++ T).toArray) :: X :: l)) ?_ ?_
  · (repeat keq_rows)
    by_cases hm : st.ma < size
    · rw [if_pos (by simpa using hm)]
      (repeat keq_rows)
      (rename Here _ _ _ _ _ _ _ _ => D)
      have em : max st.ma size = size := by omega
      refine ⟨rfl, ?_⟩
      rw [em]
      exact ⟨_, D⟩
    · rw [if_neg (by simpa using hm)]
      refine ⟨st.mt, ?_⟩
      rw [Int.max_eq_left (by omega)]
      exact D
  clear D
  rintro h ⟨mt, D⟩
  (repeat keq_rows)
  (rename Here _ _ _ _ _ _ _ _ => D)
  refine W_lenBA D.at1 (by rw [List.size_toArray, List.length_append, sizeLine_eq]; omega) fun t1 => ?_
  rw [sz]
  (repeat keq_rows)
  (rename Here _ _ _ _ _ _ _ _ => D)
  have e1 : (J.length : Int) + T.length - st.head + add = T.length + add := by omega
  rw [e1, al_eq hs] at D
  generalize hA : al size (T.length + add) = a1 at D hal q
  refine W_While (WC_whileInd (fun n h => ∃ (B' : Addr) (J' : List UInt8) (hv bv nv : Int) (t1 t2 t3 t4 : Tok) (o : Option Value), Here (hd.heap_39 w.params) w H0 env ["len"] [("self", some (.ref b)), ("size", some (.int size t)), ("additionalBytes", some (.int add u)),
      ("head", some (.int hv t1)), ("buf_len", some (.int bv t2)), ("alignSize", some (.int a1 t3)), ("needed", some (.int nv t4)), ("oldBufSize", o)] h
      ((b, bobj { st with B := B', ma := max st.ma size, mt := mt }) :: (B', baO (J' ++ T).toArray) :: X :: l) ∧ J.length ≤ J'.length ∧ J'.length + T.length ≤ 4096 ∧ hv = J'.length ∧ bv = J'.length + T.length ∧ nv = a1 + size + add ∧ n = (nv - J'.length).toNat) ?_ ?_)
  · rintro n h ⟨B', J', hv, bv, nv, t1, t2, t3, t4, o, D, j1, j2, e1, e2, e3, e4⟩
    (repeat keq_rows)
    by_cases hl : hv < nv
    · rw [if_pos (by simpa using hl)]
      (repeat keq_rows)
      (rename Here _ _ _ _ _ _ _ _ => D)
      refine sp_Grow D O (by rw [List.size_toArray, List.length_append]; omega) fun h B2 D => ?_
      rw [grown] at D
      generalize hk : (if (J' ++ T).toArray.size = 0 then 1 else (J' ++ T).toArray.size) = k at D
      have hk2 : 1 ≤ k ∧ k ≤ J'.length + T.length + 1 ∧ (J'.length + T.length ≠ 0 → k = J'.length + T.length) := by
        rw [List.size_toArray, List.length_append] at hk
        split at hk <;> omega
      (repeat keq_rows)
      (rename Here _ _ _ _ _ _ _ _ => D)
      have zl : ((List.replicate k (0 : UInt8) ++ J').length : Int) = k + J'.length := by simp
      refine W_lenBA D.at1 (by rw [List.size_toArray, List.length_append, List.length_append, List.length_replicate, sizeLine_eq]; omega) fun t1 => ?_
      rw [sz, zl]
      (repeat keq_rows)
      (rename Here _ _ _ _ _ _ _ _ => D)
      refine ⟨.inl rfl, _, ?_, B2, List.replicate k 0 ++ J', _, _, _, _, _, _, _, _, D, ?_, ?_, ?_, ?_, e3, rfl⟩ <;> simp only [List.length_append, List.length_replicate] at * <;> omega
    · rw [if_neg (by simpa using hl)]
      (repeat keq_rows)
      (rename Here _ _ _ _ _ _ _ _ => D)
      refine sp_Pad (as := { as with ma := max as.ma size }) (T := T) (r := J'.length) ⟨_, J', by rw [← a]; rfl, e1, Nat.le_refl _, j2, D⟩ O (by omega) (by omega) fun h D => ?_
      (repeat keq_rows)
      obtain ⟨st2, J2, a2, c2, d2, e2, D⟩ := D
      exact q _ ⟨st2, J2, a2, c2, by simp only [Int.toNat_natCast] at d2; omega, e2, back _ _ _ _ _ D⟩
  · exact ⟨_, st.B, J, _, _, _, _, _, _, _, _, D, Nat.le_refl _, e, c, rfl, rfl, rfl⟩
end
end

-- FC4
section
open PySem PySem.W PySem.Calls PyProof.Rows
section
variable {w : World} {A : Around} {H0 h : Heap} {env : Env} {gs : List Str} {ls : List (Str × Option Value)} {l : List (Addr × Obj)} {b a C S : Addr} {as : AS} {T : List UInt8} {r : Nat} {pos p p' : Pos} {x : Value} {wd : Nat} {raw : List UInt8}
/-- the flags C take x: it is laid as raw -/
structure FitD (w : World) (C : Addr) (x : Value) (wd : Nat) (raw : List UInt8) (wt : Tok) (lo hi : Value) (S : Addr) (fmt : Array UInt8) : Prop where
  fk : FlagK (hd.heap_39 w.params) C wd wt lo hi S
  sk : StructK (hd.heap_39 w.params) S fmt wd
  hd : Held w S fmt x raw.toArray
  hl : handedIn lo = true
  hh : handedIn hi = true
  len : raw.length = wd
  le1 : ∀ (A : Around) (Q : Value → Heap → Prop) (h : Heap), Q (.bool true) h → W w A (compareOp .LtE lo x) Q h
  le2 : ∀ (A : Around) (Q : Value → Heap → Prop) (h : Heap), Q (.bool true) h → W w A (compareOp .LtE x hi) Q h
def Fit (w : World) (C : Addr) (x : Value) (wd : Nat) (raw : List UInt8) : Prop := ∃ wt lo hi S fmt, FitD w C x wd raw wt lo hi S fmt
theorem sp_enforce {Q : Value → Heap → Prop} (D : Here (hd.heap_39 w.params) w H0 env gs ls h l) (O : AOk 1 A) (F : Fit w C x wd raw) (q : ∀ h', Here (hd.heap_39 w.params) w H0 env gs ls h' l → Q .none h') : W w A (call (.ref 229) [x, .ref C]) Q h := by
  obtain ⟨wt, lo, hi, S, fmt, F⟩ := F
  refine W_fn D O [("n", x), ("flags", .ref C)] ["n", "flags"] [] [] (by k_is) (by k_is) (fun _ _ => BindsTo.of_eq rfl) rfl (by decide +kernel) ?_
  intro env A h X O D back
  simp only [startL, List.map_cons, List.map_nil, List.cons_append, List.nil_append] at D
  (repeat keq_rows)
  refine W_clsVal D.kin F.fk.rd F.fk.mn F.hl ?_
  (repeat keq_rows)
  rw [F.fk.hn]
  (repeat keq_rows)
  refine W_clsVal D.kin F.fk.rd F.fk.mn F.hl ?_
  (repeat keq_rows)
  refine F.le1 _ _ _ ?_
  (repeat keq_rows)
  refine W_clsVal D.kin F.fk.rd F.fk.mx F.hh ?_
  refine F.le2 _ _ _ ?_
  (repeat keq_rows)
  exact q _ (back _ _ _ D)
theorem sp_Write {buf fmt : Array UInt8} {raw : Array UInt8} {off : Int} {t : Tok} {size : Nat} {Q : Value → Heap → Prop} (D : Here (hd.heap_39 w.params) w H0 env gs ls h ((a, baO buf) :: l)) (O : AOk 1 A) (hS : StructK (hd.heap_39 w.params) S fmt size) (H : Held w S fmt x raw)
    (hz : buf.size ≤ sizeLine) (h0 : 0 ≤ off) (h1 : off + raw.size ≤ buf.size) (q : ∀ h', Here (hd.heap_39 w.params) w H0 env gs ls h' ((a, baO (plc buf off.toNat raw)) :: l) → Q .none h') : W w A (call (.ref 236) [.ref S, .ref a, .int off t, x]) Q h := by
  refine W_fn1 D O [("packer_type", .ref S), ("buf", .ref a), ("head", .int off t), ("n", x)] ["packer_type", "buf", "head", "n"] [] [] (by k_is) (by k_is) (fun _ _ => BindsTo.of_eq rfl) rfl (by decide +kernel) ?_
  intro env A h X O D back
  simp only [startL, List.map_cons, List.map_nil, List.cons_append, List.nil_append] at D
  refine W_cons (W_Expr D.inter (W_CallAttr (W_local D (.head _) (W_packMeth D.kin hS ?_)) rfl rfl rfl) rfl)
  refine W_callWith (W_argsPlain ?_ rfl)
  (repeat keq_rows)
  refine ⟨⟨.machine, Looks.of_pure rfl⟩, ?_⟩
  refine W_pack D hS H hz h0 h1 fun h D => ?_
  (repeat keq_rows)
  exact q _ (back _ _ _ _ D)
theorem place_list (J T raw : List UInt8) (off : Int) (k : off.toNat = J.length - raw.length) (hk : raw.length ≤ J.length) : plc (J ++ T).toArray off.toNat raw.toArray = (J.take (J.length - raw.length) ++ (raw ++ T)).toArray := by
  have e : J ++ T = J.take (J.length - raw.length) ++ J.drop (J.length - raw.length) ++ T := by rw [List.take_append_drop]
  rw [k]
  conv => lhs; rw [e]
  rw [plc_split _ _ _ _ _ (by simp) (by simp; omega)]
  simp
theorem sp_Place {Q : Value → Heap → Prop} (D : HB w H0 env gs ls b as T r h l) (O : AOk 2 A) (F : Fit w C x wd raw) (hr : wd ≤ r) (q : ∀ h', HB w H0 env gs ls b as (raw ++ T) (r - wd) h' l → Q .none h') : W w A (call (.ref 691) [.ref b, x, .ref C]) Q h := by
  obtain ⟨st, J, a, c, d, e, D⟩ := D
  refine W_fn2 D O [("self", .ref b), ("x", x), ("flags", .ref C)] ["self", "x", "flags"] ["new_head"] ["enforce_number", "Write"] (by k_is) (by k_is) (fun _ _ => BindsTo.of_eq rfl) rfl (by decide +kernel) ?_
  intro env A h X O D back
  simp only [startL, List.map_cons, List.map_nil, List.cons_append, List.nil_append] at D
  (repeat keq_rows)
  refine sp_enforce D O F fun h D => ?_
  obtain ⟨wt, lo, hi, S, fmt, F⟩ := F
  (repeat keq_rows)
  (rename Here _ _ _ _ _ _ _ _ => D)
  refine W_clsVal D.kin F.fk.rd F.fk.bw rfl ?_
  (repeat keq_rows)
  (rename Here _ _ _ _ _ _ _ _ => D)
  refine W_clsVal D.kin F.fk.rd F.fk.pk rfl ?_
  (repeat keq_rows)
  have hl := F.len
  refine sp_Write D.swap O F.sk F.hd (by rw [List.size_toArray, List.length_append, sizeLine_eq]; omega) (by omega) (by rw [sz, List.size_toArray]; omega) fun h D => ?_
  (repeat keq_rows)
  (rename Here _ _ _ _ _ _ _ _ => D)
  rw [place_list J T raw _ (by omega) (by omega)] at D
  exact q _ ⟨{ st with head := st.head - wd, ht := _ }, J.take (J.length - raw.length), a, by simp; omega, by simp; omega, by simp; omega, back _ _ _ _ _ D.swap⟩
theorem sp_PlaceS {n : Int} {t : Tok} {Q : Value → Heap → Prop} (D : HB w H0 env gs ls b as T r h l) (O : AOk 2 A) (F : Fit w 196 (.int n t) 4 raw) (hr : 4 ≤ r) (q : ∀ h', HB w H0 env gs ls b as (raw ++ T) (r - 4) h' l → Q .none h') : W w A (call (.ref 705) [.ref b, .int n t]) Q h := by
  obtain ⟨st, J, a, c, d, e, D⟩ := D
  refine W_fn2 D O [("self", .ref b), ("x", .int n t)] ["self", "x"] ["new_head"] ["enforce_number", "SOffsetTFlags", "Write", "soffset"] (by k_is) (by k_is) (fun _ _ => BindsTo.of_eq rfl) rfl (by decide +kernel) ?_
  intro env A h X O D back
  simp only [startL, List.map_cons, List.map_nil, List.cons_append, List.nil_append] at D
  (repeat keq_rows)
  refine sp_enforce D O F fun h D => ?_
  obtain ⟨wt, lo, hi, S, fmt, F⟩ := F
  have hS : S = 59 := by
    have := F.fk.pk
    rw [(flag_SOffsetTFlags w).pk] at this
    simpa using this.symm
  subst hS
  (repeat keq_rows)
  (rename Here _ _ _ _ _ _ _ _ => D)
  have hl := F.len
  refine sp_Write D.swap O F.sk F.hd (by rw [List.size_toArray, List.length_append, sizeLine_eq]; omega) (by omega) (by rw [sz, List.size_toArray]; omega) fun h D => ?_
  (repeat keq_rows)
  (rename Here _ _ _ _ _ _ _ _ => D)
  rw [place_list J T raw _ (by omega) (by omega)] at D
  exact q _ ⟨{ st with head := st.head - 4, ht := _ }, J.take (J.length - raw.length), a, by simp; omega, by simp; omega, by simp; omega, back _ _ _ _ _ D.swap⟩
theorem sp_PlaceU {n : Int} {t : Tok} {Q : Value → Heap → Prop} (D : HB w H0 env gs ls b as T r h l) (O : AOk 2 A) (F : Fit w 208 (.int n t) 4 raw) (hr : 4 ≤ r) (q : ∀ h', HB w H0 env gs ls b as (raw ++ T) (r - 4) h' l → Q .none h') : W w A (call (.ref 712) [.ref b, .int n t]) Q h := by
  obtain ⟨st, J, a, c, d, e, D⟩ := D
  refine W_fn2 D O [("self", .ref b), ("x", .int n t)] ["self", "x"] ["new_head"] ["enforce_number", "UOffsetTFlags", "Write", "uoffset"] (by k_is) (by k_is) (fun _ _ => BindsTo.of_eq rfl) rfl (by decide +kernel) ?_
  intro env A h X O D back
  simp only [startL, List.map_cons, List.map_nil, List.cons_append, List.nil_append] at D
  (repeat keq_rows)
  refine sp_enforce D O F fun h D => ?_
  obtain ⟨wt, lo, hi, S, fmt, F⟩ := F
  have hS : S = 55 := by
    have := F.fk.pk
    rw [(flag_UOffsetTFlags w).pk] at this
    simpa using this.symm
  subst hS
  (repeat keq_rows)
  (rename Here _ _ _ _ _ _ _ _ => D)
  have hl := F.len
  refine sp_Write D.swap O F.sk F.hd (by rw [List.size_toArray, List.length_append, sizeLine_eq]; omega) (by omega) (by rw [sz, List.size_toArray]; omega) fun h D => ?_
  (repeat keq_rows)
  (rename Here _ _ _ _ _ _ _ _ => D)
  rw [place_list J T raw _ (by omega) (by omega)] at D
  exact q _ ⟨{ st with head := st.head - 4, ht := _ }, J.take (J.length - raw.length), a, by simp; omega, by simp; omega, by simp; omega, back _ _ _ _ _ D.swap⟩

-- what fits
theorem enc_len (k : Nat) (n : Int) : (encI k n).toList.length = k := by simpa using encI_size k n
theorem fitI {C S : Addr} {k : Nat} {wt u v : Tok} {lo hi n : Int} {t : Tok} {fmt : Array UInt8} (n0 : lo ≤ n) (n1 : n ≤ hi) (fk : FlagK (hd.heap_39 w.params) C k wt (.int lo u) (.int hi v) S) (sk : StructK (hd.heap_39 w.params) S fmt k) (H : Held w S fmt (.int n t) (encI k n)) :
    FitD w C (.int n t) k (encI k n).toList wt (.int lo u) (.int hi v) S fmt :=
  ⟨fk, sk, by simpa using H, rfl, rfl, enc_len k n, fun A Q h q => W_le (by rw [decide_eq_true n0]; exact q), fun A Q h q => W_le (by rw [decide_eq_true n1]; exact q)⟩
theorem fit_B {n : Int} {t : Tok} (n0 : 0 ≤ n) (n1 : n ≤ 255) : Fit w 84 (.int n t) 1 (encI 1 n).toList := ⟨_, _, _, _, _, fitI n0 n1 (flag_Uint8Flags w) (struct_53 w) (held_B w _ n0 n1)⟩
theorem fit_H {n : Int} {t : Tok} (n0 : 0 ≤ n) (n1 : n ≤ 65535) : Fit w 98 (.int n t) 2 (encI 2 n).toList := ⟨_, _, _, _, _, fitI n0 n1 (flag_Uint16Flags w) (struct_54 w) (held_H w _ n0 n1)⟩
theorem fit_I {n : Int} {t : Tok} (n0 : 0 ≤ n) (n1 : n ≤ 4294967295) : Fit w 112 (.int n t) 4 (encI 4 n).toList := ⟨_, _, _, _, _, fitI n0 n1 (flag_Uint32Flags w) (struct_55 w) (held_I w _ n0 n1)⟩
theorem fit_Q {n : Int} {t : Tok} (n0 : 0 ≤ n) (n1 : n ≤ 18446744073709551615) : Fit w 126 (.int n t) 8 (encI 8 n).toList := ⟨_, _, _, _, _, fitI n0 n1 (flag_Uint64Flags w) (struct_56 w) (held_Q w _ n0 n1)⟩
theorem fit_b {n : Int} {t : Tok} (n0 : -128 ≤ n) (n1 : n ≤ 127) : Fit w 140 (.int n t) 1 (encI 1 n).toList := ⟨_, _, _, _, _, fitI n0 n1 (flag_Int8Flags w) (struct_57 w) (held_b w _ n0 n1)⟩
theorem fit_h {n : Int} {t : Tok} (n0 : -32768 ≤ n) (n1 : n ≤ 32767) : Fit w 154 (.int n t) 2 (encI 2 n).toList := ⟨_, _, _, _, _, fitI n0 n1 (flag_Int16Flags w) (struct_58 w) (held_h w _ n0 n1)⟩
theorem fit_i {n : Int} {t : Tok} (n0 : -2147483648 ≤ n) (n1 : n ≤ 2147483647) : Fit w 168 (.int n t) 4 (encI 4 n).toList := ⟨_, _, _, _, _, fitI n0 n1 (flag_Int32Flags w) (struct_59 w) (held_i w _ n0 n1)⟩
theorem fit_q {n : Int} {t : Tok} (n0 : -9223372036854775808 ≤ n) (n1 : n ≤ 9223372036854775807) : Fit w 182 (.int n t) 8 (encI 8 n).toList := ⟨_, _, _, _, _, fitI n0 n1 (flag_Int64Flags w) (struct_60 w) (held_q w _ n0 n1)⟩
theorem fit_U {n : Int} {t : Tok} (n0 : 0 ≤ n) (n1 : n ≤ 4294967295) : Fit w 208 (.int n t) 4 (encI 4 n).toList := ⟨_, _, _, _, _, fitI n0 n1 (flag_UOffsetTFlags w) (struct_55 w) (held_I w _ n0 n1)⟩
theorem fit_S {n : Int} {t : Tok} (n0 : -2147483648 ≤ n) (n1 : n ≤ 2147483647) : Fit w 196 (.int n t) 4 (encI 4 n).toList := ⟨_, _, _, _, _, fitI n0 n1 (flag_SOffsetTFlags w) (struct_59 w) (held_i w _ n0 n1)⟩
theorem fit_V {n : Int} {t : Tok} (n0 : 0 ≤ n) (n1 : n ≤ 65535) : Fit w 220 (.int n t) 2 (encI 2 n).toList := ⟨_, _, _, _, _, fitI n0 n1 (flag_VOffsetTFlags w) (struct_54 w) (held_H w _ n0 n1)⟩
theorem fit_bool {x : Bool} : Fit w 70 (.bool x) 1 [if x then 1 else 0] :=
  ⟨_, _, _, _, _, ⟨flag_BoolFlags w, struct_52 w, held_bool w _ x, rfl, rfl, rfl, fun A Q h q => W_leB (by rw [show decide (b2i false ≤ b2i x) = true by cases x <;> decide]; exact q), fun A Q h q => W_leB (by rw [show decide (b2i x ≤ b2i true) = true by cases x <;> decide]; exact q)⟩⟩
end
end

-- FBL
section
open PySem PySem.W PySem.Calls PyProof.Rows Builtin
section
variable {w : World} {A : Around} {h : Heap} {env : Env} {K : Frag} {H0 : Heap} {gs : List Str} {ls : List (Str × Option Value)} {l : List (Addr × Obj)} {pos : Pos}
theorem WC_fnB {l1 : List (Addr × Obj)} {n : Nat} (D : Here K w H0 env gs ls h l) (O : AOk (n + 1) A) {f : Addr} {name qual : Str} {params : Arguments} {body : List Stmt} {scope : Scope} {dV kV doc pm cdv ct oc : Value} {an od : Option Addr} {osl : Array (Option Value)}
    (ho : K.lookup f = some ⟨oc, od, .func (fnOf name qual params body scope dV kV doc pm an cdv ct), osl⟩) (hcd : codeIn K cdv qual = true)
    {args : Args} {binds : List (Str × Value)} (hb : W w A.in1 (bindArgs (fnOf name qual params body scope dV kV doc pm an cdv ct) args) (fun bs h₁ => bs = binds ∧ Here K w H0 env gs ls h₁ l1) h)
    {ps xs gs' : List Str} (hps : binds.map (·.1) = ps) (hchk : frameOk scope ps xs gs' = true) {Q : Value → Heap → Prop}
    (x : ∀ env' A' h₁ X, AOk n A' → Here K w H0 env' gs' (startL binds xs) h₁ (X :: l1) →
      (∀ ls'' h' l', Here K w H0 env' gs' ls'' h' (X :: l') → Here K w H0 env gs ls h' l') →
      W w A' (execs body env') (fun fl h' => Q (match fl with | .ret v => v | _ => .none) h') h₁) :
    WC w A (.call (.ref f) args) (fun fl h' => ∃ v, fl = .ret v ∧ Q v h') h := by
  simp only [frameOk, Bool.and_eq_true, List.all_eq_true, beq_iff_eq, Bool.not_eq_true', decide_eq_true_eq, bne_iff_ne, ne_eq] at hchk
  obtain ⟨⟨⟨⟨⟨⟨hl, hg⟩, hnd⟩, hcell⟩, hk⟩, hgen⟩, hco⟩ := hchk
  subst hps
  obtain ⟨c, oc', vs, tq, hc, hoc, hdc, hq⟩ := codeRec_of D.kin hcd
  refine WC_tree rfl ?_
  show W w A.in1 (callAny (.ref f) args) _ h
  simp only [callAny]
  refine W_bind (W_load (D.kin _ _ ho) ?_)
  dsimp only
  simp only [callFunction, hco, hgen, hc]
  refine W_bind (m := field (.ref c) 1) (W_any fun s e => wpAny_field (e ▸ hoc) hdc hq ⟨Rest.refl s, e ▸ W_bind (W_pure ?_)⟩)
  refine W_bind (W_mono hb fun bs h1 z => ?_)
  obtain ⟨e1, D1⟩ := z
  rw [e1]
  obtain ⟨odl, E, N⟩ := D1.fr
  refine W_bind (W_any fun s' e' => wpAny_newFunctionEnv (s := s') (scope := scope) (binds := binds) (fun y hy => hcell y hy) (fun y hy => (hl y.1 (List.mem_append_left _ (List.mem_map_of_mem hy))).1) (fun h' hn hs => ⟨⟨rfl, rfl⟩, ?_⟩) hk)
  have es' : s'.heap = h1 := e'
  clear e' hb
  rw [es'] at hn hs ⊢
  show W w A.in1 _ _ h'
  clear s' es'
  obtain ⟨o', es, ep, ho', hd', hsk, hm⟩ := hn
  have E1 : Led H0 h' ((h1.objs.size, o') :: (env.locals, odl) :: l1) :=
    (E.alloc (o := { cls := .type (if (none : Option Env).isSome then "dict" else "frame"), data := .dict #[] }) rfl).turn (fun b hb => hs.2 b hb) hs.1 ho' (fun e => by rw [hd'] at e; cases e)
  have lim : h'.NoLimit := D.base.lim.keeps E1.keep
  refine W_bind (W_any fun s e => wpAny_enterFrame (e ▸ lim) (by have := O.room; exact this) ⟨Rest.refl s, ?_⟩)
  rw [e]
  refine W_pure ⟨rfl, WC_func ?_⟩
  have kk : ∀ y ∈ binds.map (·.1) ++ xs, (newEnv scope h1.objs.size mainGlobals [] (qual ++ ".<locals>.") (some f) (.ref c) none builtinsNs).kindOf y = some .local ∧ (y == ("__debug__" : Str)) = false := fun y hy => hl y hy
  have hD : Here K w H0 (newEnv scope h1.objs.size mainGlobals [] (qual ++ ".<locals>.") (some f) (.ref c) none builtinsNs) gs' (startL binds xs) h' ((env.locals, odl) :: l1) := by
    refine ⟨D.base, hk, rfl, rfl, fun p hp => ?_, fun y hy => hg y hy, o', ?_, es, ep, hd', hsk, ?_, fun p hp => ?_⟩
    · refine kk p.1 ?_
      rcases List.mem_append.mp hp with hp | hp
      · obtain ⟨q, hq, rfl⟩ := List.mem_map.mp hp
        exact List.mem_append_left _ (List.mem_map_of_mem hq)
      · obtain ⟨q, hq, rfl⟩ := List.mem_map.mp hp
        exact List.mem_append_right _ hq
    · exact E1
    · have : (startL binds xs).map (·.1) = binds.map (·.1) ++ xs := by
        unfold startL
        rw [List.map_append, List.map_map, List.map_map]
        congr 1
        exact List.map_id xs
      rw [this]; exact hnd
    · rw [hm]
      rcases List.mem_append.mp hp with hp | hp
      · obtain ⟨q, hq, rfl⟩ := List.mem_map.mp hp
        exact nsFind_lookup binds q hq (List.nodup_append.mp hnd).1
      · obtain ⟨q, hq, rfl⟩ := List.mem_map.mp hp
        exact lookup_none_of binds q fun hm' => (List.nodup_append.mp hnd).2.2 q hm' q hq rfl
  refine W_mono (x _ _ h' (env.locals, odl) (O.deeper _) hD fun ls'' h2 l' D' => ?_) fun fl h2 y => ⟨_, rfl, y⟩
  obtain ⟨od2, E2, _⟩ := D'.fr
  exact ⟨D.base, D.kind, D.gl, D.bl, D.lk, D.gk, odl, E2.drop, N⟩

theorem WC_fn3 {p q r : Addr × Obj} {n : Nat} (D : Here K w H0 env gs ls h (p :: q :: r :: l)) (O : AOk (n + 1) A) {f : Addr} {name qual : Str} {params : Arguments} {body : List Stmt} {scope : Scope} {dV kV doc pm cdv ct oc : Value} {an od : Option Addr} {osl : Array (Option Value)}
    {pos : List Value} {kw : List (Str × Value)} (binds : List (Str × Value)) (ps xs gs' : List Str) {Q : Value → Heap → Prop}
    (ho : K.lookup f = some ⟨oc, od, .func (fnOf name qual params body scope dV kV doc pm an cdv ct), osl⟩) (hcd : codeIn K cdv qual = true)
    (hb : ∀ s : Shared, s.heap = h → BindsTo s (fnOf name qual params body scope dV kV doc pm an cdv ct) ⟨pos, kw⟩ binds)
    (hps : binds.map (·.1) = ps) (hchk : frameOk scope ps xs gs' = true)
    (x : ∀ env' A' h₁ X, AOk n A' → Here K w H0 env' gs' (startL binds xs) h₁ (p :: q :: r :: X :: l) →
      (∀ ls'' h' p' q' r' l', Here K w H0 env' gs' ls'' h' (p' :: q' :: r' :: X :: l') → Here K w H0 env gs ls h' (p' :: q' :: r' :: l')) →
      W w A' (execs body env') (fun fl h' => Q (match fl with | .ret v => v | _ => .none) h') h₁) :
    WC w A (.call (.ref f) ⟨pos, kw⟩) (fun fl h' => ∃ v, fl = .ret v ∧ Q v h') h := by
  refine (WC_fn D O ho hcd hb hps hchk fun env' A' h₁ X O' D' back => x env' A' h₁ X O' (D'.perm (List.perm_middle (l₁ := [p, q, r])).symm) fun ls'' h' p' q' r' l' D2 => back ls'' h' _ (D2.perm (List.perm_middle (l₁ := [p', q', r']))))
/-- the bind of a def with *args: a tuple of what is over -/
theorem W_fnStar {n : Nat} (D : Here K w H0 env gs ls h l) (O : AOk (n + 1) A) {f : Addr} {name qual : Str} {params : Arguments} {body : List Stmt} {scope : Scope} {dV kV doc pm cdv ct oc : Value} {an od : Option Addr} {osl : Array (Option Value)}
    {first : Value} {rest : List Value} (ho : K.lookup f = some ⟨oc, od, .func (fnOf name qual params body scope dV kV doc pm an cdv ct), osl⟩) (hcd : codeIn K cdv qual = true)
    {s1 s2 : Str} (hb : bindArgs (fnOf name qual params body scope dV kV doc pm an cdv ct) ⟨first :: rest, []⟩ = (do let t ← newTuple rest; pure [(s1, first), (s2, t)])) (hz : rest.length ≤ sizeLine)
    {xs gs' : List Str} (hchk : frameOk scope [s1, s2] xs gs' = true) {Q : Value → Heap → Prop}
    (x : ∀ env' A' h₁ X a, AOk n A' → Here K w H0 env' gs' (startL [(s1, first), (s2, .ref a)] xs) h₁ (X :: (a, tupO rest) :: l) →
      (∀ ls'' h' l', Here K w H0 env' gs' ls'' h' (X :: l') → Here K w H0 env gs ls h' l') →
      W w A' (execs body env') (fun fl h' => Q (match fl with | .ret v => v | _ => .none) h') h₁) :
    WC w A (.call (.ref f) ⟨first :: rest, []⟩) (fun fl h' => ∃ v, fl = .ret v ∧ Q v h') h := by
  refine WC_fnB (l1 := (h.objs.size, tupO rest) :: l) D O ho hcd (binds := [(s1, first), (s2, .ref h.objs.size)]) ?_ rfl hchk fun env' A' h₁ X O' D' back => x env' A' h₁ X _ O' D' back
  rw [hb]
  refine W_bind (W_any fun s e => W_newTuple (w := w) (A := A.in1) hz (Q := fun v h' => W w A.in1 (pure [(s1, first), (s2, v)]) (fun bs h₁ => bs = [(s1, first), (s2, .ref h.objs.size)] ∧ Here K w H0 env gs ls h₁ ((h.objs.size, tupO rest) :: l)) h') (W_pure ⟨rfl, D.alloc rfl⟩) s e)
end
end

-- FC5
section
open PySem PySem.W PySem.Calls PyProof.Rows
section
variable {w : World} {A : Around} {H0 h : Heap} {env : Env} {gs : List Str} {ls : List (Str × Option Value)} {l : List (Addr × Obj)} {b a C S : Addr} {as : AS} {T : List UInt8} {r : Nat} {pos p p' : Pos} {x : Value} {wd : Nat} {raw : List UInt8}
/-- what is there when size octets may follow, add octets between them and the rest -/
def padT (size add : Int) (T : List UInt8) : List UInt8 := List.replicate (al size (T.length + add)) 0 ++ T
theorem padT_len (size add : Int) (T : List UInt8) : (padT size add T).length = al size (T.length + add) + T.length := by simp [padT]
theorem padT_lt {size add : Int} {T : List UInt8} (hs : isW size) : (padT size add T).length < 8 + T.length := by
  have := al_lt (x := T.length + add) hs
  rw [padT_len]
  rcases hs with rfl | rfl | rfl | rfl <;> omega
def AS.aligned (as : AS) (size : Int) : AS := { as with ma := max as.ma size }
theorem HB.intoHere (D : HB w H0 env gs ls b as T r h l) : ∃ (st : BS) (J : List UInt8), Here (hd.heap_39 w.params) w H0 env gs ls h ((b, bobj st) :: (st.B, baO (J ++ T).toArray) :: l) := let ⟨st, J, _, _, _, _, D⟩ := D; ⟨st, J, D⟩

theorem sp_Prepend {Q : Value → Heap → Prop} (D : HB w H0 env gs ls b as T r h l) (O : AOk 3 A) (F : Fit w C x wd raw) (hs : isW wd) (hb : T.length ≤ 900)
    (q : ∀ h', HB w H0 env gs ls b (as.aligned wd) (raw ++ padT wd 0 T) (r - al wd (T.length + 0) - wd) h' l → Q .none h') : W w A (call (.ref 509) [.ref b, .ref C, x]) Q h := by
  obtain ⟨st, J, a, c, d, e, D⟩ := D
  refine W_fn2 D O [("self", .ref b), ("flags", .ref C), ("off", x)] ["self", "flags", "off"] [] [] (by k_is) (by k_is) (fun _ _ => BindsTo.of_eq rfl) rfl (by decide +kernel) ?_
  intro env A h X O D back
  simp only [startL, List.map_cons, List.map_nil, List.cons_append, List.nil_append] at D
  (repeat keq_rows)
  obtain ⟨wt, lo, hi, S, fmt, F'⟩ := id F
  refine W_clsVal D.kin F'.fk.rd F'.fk.bw rfl ?_
  (repeat keq_rows)
  refine sp_Prep ⟨st, J, a, c, d, e, D⟩ O hs (by omega) (by omega) fun h D => ?_
  obtain ⟨st, J, a, c, d, e, D⟩ := D
  (repeat keq_rows)
  refine sp_Place ⟨st, J, a, c, d, e, D⟩ (O.mono (by omega)) F (by omega) fun h D => ?_
  (repeat keq_rows)
  obtain ⟨st, J, a, c, d, e, D⟩ := D
  exact q _ ⟨st, J, a, c, by omega, e, back _ _ _ _ _ D⟩

theorem sp_PrependU {off : Int} {t : Tok} {Q : Value → Heap → Prop} (D : HB w H0 env gs ls b as T r h l) (O : AOk 3 A) (h0 : 0 ≤ off) (h1 : off ≤ T.length) (hb : T.length ≤ 900)
    (q : ∀ h', HB w H0 env gs ls b (as.aligned 4) ((encI 4 ((padT 4 0 T).length - off + 4)).toList ++ padT 4 0 T) (r - al 4 (T.length + 0) - 4) h' l → Q .none h') : W w A (call (.ref 414) [.ref b, .int off t]) Q h := by
  obtain ⟨st, J, a, c, d, e, D⟩ := D
  have hp := padT_lt (T := T) (add := 0) (size := 4) (by unfold isW; omega)
  have hp2 := padT_len 4 0 T
  refine W_fn2 D O [("self", .ref b), ("off", .int off t)] ["self", "off"] ["msg", "off2"] ["UOffsetTFlags", "OffsetArithmeticError"] (by k_is) (by k_is) (fun _ _ => BindsTo.of_eq rfl) rfl (by decide +kernel) ?_
  intro env A h X O D back
  simp only [startL, List.map_cons, List.map_nil, List.cons_append, List.nil_append] at D
  (repeat keq_rows)
  refine sp_Prep ⟨st, J, a, c, d, e, D⟩ O (by unfold isW; omega) (by omega) (by omega) fun h D => ?_
  obtain ⟨st, J, a, c, d, e, D⟩ := D
  (repeat keq_rows)
  refine sp_Offset ⟨st, J, a, c, d, e, D⟩ (O.mono (by omega)) fun h t D => ?_
  obtain ⟨st, J, a, c, d, e, D⟩ := D
  (repeat keq_rows)
  rw [show decide (off ≤ ((List.replicate (al 4 (T.length + 0)) (0 : UInt8) ++ T).length : Int)) = true from decide_eq_true (by rw [List.length_append, List.length_replicate]; omega)]
  (repeat keq_rows)
  refine sp_Offset ⟨st, J, a, c, d, e, D⟩ (O.mono (by omega)) fun h t D => ?_
  obtain ⟨st, J, a, c, d, e, D⟩ := D
  (repeat keq_rows)
  (rename Here _ _ _ _ _ _ _ _ => D)
  refine sp_PlaceU ⟨st, J, a, c, d, e, D⟩ (O.mono (by omega)) (fit_U (by change (0 : Int) ≤ ((padT 4 0 T).length : Int) - off + 4; omega) (by change ((padT 4 0 T).length : Int) - off + 4 ≤ _; omega)) (by omega) fun h D => ?_
  (repeat keq_rows)
  obtain ⟨st, J, a, c, d, e, D⟩ := D
  exact q _ ⟨st, J, a, c, by omega, e, back _ _ _ _ _ D⟩

theorem sp_PrependS {off : Int} {t : Tok} {Q : Value → Heap → Prop} (D : HB w H0 env gs ls b as T r h l) (O : AOk 3 A) (h0 : 0 ≤ off) (h1 : off ≤ T.length) (hb : T.length ≤ 900)
    (q : ∀ h', HB w H0 env gs ls b (as.aligned 4) ((encI 4 ((padT 4 0 T).length - off + 4)).toList ++ padT 4 0 T) (r - al 4 (T.length + 0) - 4) h' l → Q .none h') : W w A (call (.ref 407) [.ref b, .int off t]) Q h := by
  obtain ⟨st, J, a, c, d, e, D⟩ := D
  have hp := padT_lt (T := T) (add := 0) (size := 4) (by unfold isW; omega)
  have hp2 := padT_len 4 0 T
  refine W_fn2 D O [("self", .ref b), ("off", .int off t)] ["self", "off"] ["msg", "off2"] ["SOffsetTFlags", "OffsetArithmeticError"] (by k_is) (by k_is) (fun _ _ => BindsTo.of_eq rfl) rfl (by decide +kernel) ?_
  intro env A h X O D back
  simp only [startL, List.map_cons, List.map_nil, List.cons_append, List.nil_append] at D
  (repeat keq_rows)
  refine sp_Prep ⟨st, J, a, c, d, e, D⟩ O (by unfold isW; omega) (by omega) (by omega) fun h D => ?_
  obtain ⟨st, J, a, c, d, e, D⟩ := D
  (repeat keq_rows)
  refine sp_Offset ⟨st, J, a, c, d, e, D⟩ (O.mono (by omega)) fun h t D => ?_
  obtain ⟨st, J, a, c, d, e, D⟩ := D
  (repeat keq_rows)
  rw [show decide (off ≤ ((List.replicate (al 4 (T.length + 0)) (0 : UInt8) ++ T).length : Int)) = true from decide_eq_true (by rw [List.length_append, List.length_replicate]; omega)]
  (repeat keq_rows)
  refine sp_Offset ⟨st, J, a, c, d, e, D⟩ (O.mono (by omega)) fun h t D => ?_
  obtain ⟨st, J, a, c, d, e, D⟩ := D
  (repeat keq_rows)
  (rename Here _ _ _ _ _ _ _ _ => D)
  refine sp_PlaceS ⟨st, J, a, c, d, e, D⟩ (O.mono (by omega)) (fit_S (by change (-2147483648 : Int) ≤ ((padT 4 0 T).length : Int) - off + 4; omega) (by change ((padT 4 0 T).length : Int) - off + 4 ≤ _; omega)) (by omega) fun h D => ?_
  (repeat keq_rows)
  obtain ⟨st, J, a, c, d, e, D⟩ := D
  exact q _ ⟨st, J, a, c, by omega, e, back _ _ _ _ _ D⟩
theorem sp_PrependBool {Q : Value → Heap → Prop} (D : HB w H0 env gs ls b as T r h l) (O : AOk 4 A) (F : Fit w 70 x wd raw) (hs : isW wd) (hb : T.length ≤ 900)
    (q : ∀ h', HB w H0 env gs ls b (as.aligned wd) (raw ++ padT wd 0 T) (r - al wd (T.length + 0) - wd) h' l → Q .none h') : W w A (call (.ref 607) [.ref b, x]) Q h := by
  obtain ⟨st, J, a, c, d, e, D⟩ := D
  refine W_fn2 D O [("self", .ref b), ("x", x)] ["self", "x"] [] ["BoolFlags"] (by k_is) (by k_is) (fun _ _ => BindsTo.of_eq rfl) rfl (by decide +kernel) ?_
  intro env A h X O D back
  simp only [startL, List.map_cons, List.map_nil, List.cons_append, List.nil_append] at D
  (repeat keq_rows)
  refine sp_Prepend ⟨st, J, a, c, d, e, D⟩ O F hs hb fun h D => ?_
  obtain ⟨st, J, a, c, d, e, D⟩ := D
  (repeat keq_rows)
  exact q _ ⟨st, J, a, c, d, e, back _ _ _ _ _ D⟩
theorem sp_PrependUint8 {Q : Value → Heap → Prop} (D : HB w H0 env gs ls b as T r h l) (O : AOk 4 A) (F : Fit w 84 x wd raw) (hs : isW wd) (hb : T.length ≤ 900)
    (q : ∀ h', HB w H0 env gs ls b (as.aligned wd) (raw ++ padT wd 0 T) (r - al wd (T.length + 0) - wd) h' l → Q .none h') : W w A (call (.ref 621) [.ref b, x]) Q h := by
  obtain ⟨st, J, a, c, d, e, D⟩ := D
  refine W_fn2 D O [("self", .ref b), ("x", x)] ["self", "x"] [] ["Uint8Flags"] (by k_is) (by k_is) (fun _ _ => BindsTo.of_eq rfl) rfl (by decide +kernel) ?_
  intro env A h X O D back
  simp only [startL, List.map_cons, List.map_nil, List.cons_append, List.nil_append] at D
  (repeat keq_rows)
  refine sp_Prepend ⟨st, J, a, c, d, e, D⟩ O F hs hb fun h D => ?_
  obtain ⟨st, J, a, c, d, e, D⟩ := D
  (repeat keq_rows)
  exact q _ ⟨st, J, a, c, d, e, back _ _ _ _ _ D⟩
theorem sp_PrependUint16 {Q : Value → Heap → Prop} (D : HB w H0 env gs ls b as T r h l) (O : AOk 4 A) (F : Fit w 98 x wd raw) (hs : isW wd) (hb : T.length ≤ 900)
    (q : ∀ h', HB w H0 env gs ls b (as.aligned wd) (raw ++ padT wd 0 T) (r - al wd (T.length + 0) - wd) h' l → Q .none h') : W w A (call (.ref 628) [.ref b, x]) Q h := by
  obtain ⟨st, J, a, c, d, e, D⟩ := D
  refine W_fn2 D O [("self", .ref b), ("x", x)] ["self", "x"] [] ["Uint16Flags"] (by k_is) (by k_is) (fun _ _ => BindsTo.of_eq rfl) rfl (by decide +kernel) ?_
  intro env A h X O D back
  simp only [startL, List.map_cons, List.map_nil, List.cons_append, List.nil_append] at D
  (repeat keq_rows)
  refine sp_Prepend ⟨st, J, a, c, d, e, D⟩ O F hs hb fun h D => ?_
  obtain ⟨st, J, a, c, d, e, D⟩ := D
  (repeat keq_rows)
  exact q _ ⟨st, J, a, c, d, e, back _ _ _ _ _ D⟩
theorem sp_PrependUint32 {Q : Value → Heap → Prop} (D : HB w H0 env gs ls b as T r h l) (O : AOk 4 A) (F : Fit w 112 x wd raw) (hs : isW wd) (hb : T.length ≤ 900)
    (q : ∀ h', HB w H0 env gs ls b (as.aligned wd) (raw ++ padT wd 0 T) (r - al wd (T.length + 0) - wd) h' l → Q .none h') : W w A (call (.ref 635) [.ref b, x]) Q h := by
  obtain ⟨st, J, a, c, d, e, D⟩ := D
  refine W_fn2 D O [("self", .ref b), ("x", x)] ["self", "x"] [] ["Uint32Flags"] (by k_is) (by k_is) (fun _ _ => BindsTo.of_eq rfl) rfl (by decide +kernel) ?_
  intro env A h X O D back
  simp only [startL, List.map_cons, List.map_nil, List.cons_append, List.nil_append] at D
  (repeat keq_rows)
  refine sp_Prepend ⟨st, J, a, c, d, e, D⟩ O F hs hb fun h D => ?_
  obtain ⟨st, J, a, c, d, e, D⟩ := D
  (repeat keq_rows)
  exact q _ ⟨st, J, a, c, d, e, back _ _ _ _ _ D⟩
theorem sp_PrependUint64 {Q : Value → Heap → Prop} (D : HB w H0 env gs ls b as T r h l) (O : AOk 4 A) (F : Fit w 126 x wd raw) (hs : isW wd) (hb : T.length ≤ 900)
    (q : ∀ h', HB w H0 env gs ls b (as.aligned wd) (raw ++ padT wd 0 T) (r - al wd (T.length + 0) - wd) h' l → Q .none h') : W w A (call (.ref 642) [.ref b, x]) Q h := by
  obtain ⟨st, J, a, c, d, e, D⟩ := D
  refine W_fn2 D O [("self", .ref b), ("x", x)] ["self", "x"] [] ["Uint64Flags"] (by k_is) (by k_is) (fun _ _ => BindsTo.of_eq rfl) rfl (by decide +kernel) ?_
  intro env A h X O D back
  simp only [startL, List.map_cons, List.map_nil, List.cons_append, List.nil_append] at D
  (repeat keq_rows)
  refine sp_Prepend ⟨st, J, a, c, d, e, D⟩ O F hs hb fun h D => ?_
  obtain ⟨st, J, a, c, d, e, D⟩ := D
  (repeat keq_rows)
  exact q _ ⟨st, J, a, c, d, e, back _ _ _ _ _ D⟩
theorem sp_PrependInt8 {Q : Value → Heap → Prop} (D : HB w H0 env gs ls b as T r h l) (O : AOk 4 A) (F : Fit w 140 x wd raw) (hs : isW wd) (hb : T.length ≤ 900)
    (q : ∀ h', HB w H0 env gs ls b (as.aligned wd) (raw ++ padT wd 0 T) (r - al wd (T.length + 0) - wd) h' l → Q .none h') : W w A (call (.ref 649) [.ref b, x]) Q h := by
  obtain ⟨st, J, a, c, d, e, D⟩ := D
  refine W_fn2 D O [("self", .ref b), ("x", x)] ["self", "x"] [] ["Int8Flags"] (by k_is) (by k_is) (fun _ _ => BindsTo.of_eq rfl) rfl (by decide +kernel) ?_
  intro env A h X O D back
  simp only [startL, List.map_cons, List.map_nil, List.cons_append, List.nil_append] at D
  (repeat keq_rows)
  refine sp_Prepend ⟨st, J, a, c, d, e, D⟩ O F hs hb fun h D => ?_
  obtain ⟨st, J, a, c, d, e, D⟩ := D
  (repeat keq_rows)
  exact q _ ⟨st, J, a, c, d, e, back _ _ _ _ _ D⟩
theorem sp_PrependInt16 {Q : Value → Heap → Prop} (D : HB w H0 env gs ls b as T r h l) (O : AOk 4 A) (F : Fit w 154 x wd raw) (hs : isW wd) (hb : T.length ≤ 900)
    (q : ∀ h', HB w H0 env gs ls b (as.aligned wd) (raw ++ padT wd 0 T) (r - al wd (T.length + 0) - wd) h' l → Q .none h') : W w A (call (.ref 656) [.ref b, x]) Q h := by
  obtain ⟨st, J, a, c, d, e, D⟩ := D
  refine W_fn2 D O [("self", .ref b), ("x", x)] ["self", "x"] [] ["Int16Flags"] (by k_is) (by k_is) (fun _ _ => BindsTo.of_eq rfl) rfl (by decide +kernel) ?_
  intro env A h X O D back
  simp only [startL, List.map_cons, List.map_nil, List.cons_append, List.nil_append] at D
  (repeat keq_rows)
  refine sp_Prepend ⟨st, J, a, c, d, e, D⟩ O F hs hb fun h D => ?_
  obtain ⟨st, J, a, c, d, e, D⟩ := D
  (repeat keq_rows)
  exact q _ ⟨st, J, a, c, d, e, back _ _ _ _ _ D⟩
theorem sp_PrependInt32 {Q : Value → Heap → Prop} (D : HB w H0 env gs ls b as T r h l) (O : AOk 4 A) (F : Fit w 168 x wd raw) (hs : isW wd) (hb : T.length ≤ 900)
    (q : ∀ h', HB w H0 env gs ls b (as.aligned wd) (raw ++ padT wd 0 T) (r - al wd (T.length + 0) - wd) h' l → Q .none h') : W w A (call (.ref 663) [.ref b, x]) Q h := by
  obtain ⟨st, J, a, c, d, e, D⟩ := D
  refine W_fn2 D O [("self", .ref b), ("x", x)] ["self", "x"] [] ["Int32Flags"] (by k_is) (by k_is) (fun _ _ => BindsTo.of_eq rfl) rfl (by decide +kernel) ?_
  intro env A h X O D back
  simp only [startL, List.map_cons, List.map_nil, List.cons_append, List.nil_append] at D
  (repeat keq_rows)
  refine sp_Prepend ⟨st, J, a, c, d, e, D⟩ O F hs hb fun h D => ?_
  obtain ⟨st, J, a, c, d, e, D⟩ := D
  (repeat keq_rows)
  exact q _ ⟨st, J, a, c, d, e, back _ _ _ _ _ D⟩
theorem sp_PrependInt64 {Q : Value → Heap → Prop} (D : HB w H0 env gs ls b as T r h l) (O : AOk 4 A) (F : Fit w 182 x wd raw) (hs : isW wd) (hb : T.length ≤ 900)
    (q : ∀ h', HB w H0 env gs ls b (as.aligned wd) (raw ++ padT wd 0 T) (r - al wd (T.length + 0) - wd) h' l → Q .none h') : W w A (call (.ref 670) [.ref b, x]) Q h := by
  obtain ⟨st, J, a, c, d, e, D⟩ := D
  refine W_fn2 D O [("self", .ref b), ("x", x)] ["self", "x"] [] ["Int64Flags"] (by k_is) (by k_is) (fun _ _ => BindsTo.of_eq rfl) rfl (by decide +kernel) ?_
  intro env A h X O D back
  simp only [startL, List.map_cons, List.map_nil, List.cons_append, List.nil_append] at D
  (repeat keq_rows)
  refine sp_Prepend ⟨st, J, a, c, d, e, D⟩ O F hs hb fun h D => ?_
  obtain ⟨st, J, a, c, d, e, D⟩ := D
  (repeat keq_rows)
  exact q _ ⟨st, J, a, c, d, e, back _ _ _ _ _ D⟩
theorem sp_PrependVOffsetT {Q : Value → Heap → Prop} (D : HB w H0 env gs ls b as T r h l) (O : AOk 4 A) (F : Fit w 220 x wd raw) (hs : isW wd) (hb : T.length ≤ 900)
    (q : ∀ h', HB w H0 env gs ls b (as.aligned wd) (raw ++ padT wd 0 T) (r - al wd (T.length + 0) - wd) h' l → Q .none h') : W w A (call (.ref 684) [.ref b, x]) Q h := by
  obtain ⟨st, J, a, c, d, e, D⟩ := D
  refine W_fn2 D O [("self", .ref b), ("x", x)] ["self", "x"] [] ["VOffsetTFlags"] (by k_is) (by k_is) (fun _ _ => BindsTo.of_eq rfl) rfl (by decide +kernel) ?_
  intro env A h X O D back
  simp only [startL, List.map_cons, List.map_nil, List.cons_append, List.nil_append] at D
  (repeat keq_rows)
  refine sp_Prepend ⟨st, J, a, c, d, e, D⟩ O F hs hb fun h D => ?_
  obtain ⟨st, J, a, c, d, e, D⟩ := D
  (repeat keq_rows)
  exact q _ ⟨st, J, a, c, d, e, back _ _ _ _ _ D⟩
end
end

-- FC6
section
open PySem PySem.W PySem.Calls PyProof.Rows
section
variable {w : World} {A : Around} {H0 h : Heap} {env : Env} {gs : List Str} {ls : List (Str × Option Value)} {l : List (Addr × Obj)} {b a C S c : Addr} {as : AS} {T : List UInt8} {r n : Nat} {pos p p' : Pos} {x d : Value} {wd : Nat} {raw : List UInt8} {vs : List Value}

theorem sp_Slot {o : Int} {t : Tok} {Q : Value → Heap → Prop} (D : HB w H0 env gs ls b as T r h ((c, lstO vs n) :: l)) (O : AOk 2 A) (hn : as.nested = true) (hc : as.cv = some c) (h0 : 0 ≤ o) (h1 : o < vs.length) (hz : vs.length ≤ 1000)
    (q : ∀ h' n' t, HB w H0 env gs ls b as T r h' ((c, lstO (vs.set o.toNat (.int T.length t)) n') :: l) → Q .none h') : W w A (call (.ref 478) [.ref b, .int o t]) Q h := by
  obtain ⟨st, J, a, e1, e2, e, D⟩ := D
  refine W_fn3 D O [("self", .ref b), ("slotnum", .int o t)] ["self", "slotnum"] [] [] (by k_is) (by k_is) (fun _ _ => BindsTo.of_eq rfl) rfl (by decide +kernel) ?_
  intro env A h X O D back
  simp only [startL, List.map_cons, List.map_nil, List.cons_append, List.nil_append] at D
  (repeat keq_rows)
  refine sp_assertNested ⟨st, J, a, e1, e2, e, D⟩ (O.mono (by omega)) hn fun h D => ?_
  obtain ⟨st, J, a, e1, e2, e, D⟩ := D
  (repeat keq_rows)
  refine sp_Offset ⟨st, J, a, e1, e2, e, D⟩ (O.mono (by omega)) fun h t D => ?_
  obtain ⟨st, J, a, e1, e2, e, D⟩ := D
  (repeat keq_rows)
  rw [show st.cv = some c by rw [← hc, ← a]; rfl]
  refine W_lset (D.perm (List.perm_middle (l₁ := [_, _]))) h0 h1 (by rw [sizeLine_eq]; omega) fun h n' D => ?_
  have D := D.perm (List.perm_middle (l₁ := [_, _])).symm
  (repeat keq_rows)
  exact q _ n' t ⟨st, J, a, e1, e2, e, back _ _ _ _ _ _ D⟩
/-- how two numbers of one kind are asked to differ -/
def NeIs (w : World) (x d : Value) (ne : Bool) : Prop := ∀ (A : Around) (Q : Value → Heap → Prop) (h : Heap), Q (.bool ne) h → W w A (compareOp .NotEq x d) Q h
theorem wc_PrependSlot {o : Int} {t : Tok} {ne : Bool} {raw' : List UInt8} {Q : Value → Heap → Prop} (D : HB w H0 env gs ls b as T r h ((c, lstO vs n) :: l)) (O : AOk 4 A) (F : Fit w C x wd raw) (F' : Fit w C d wd raw') (hx : (x == Value.none) = false) (hd : (d == Value.none) = false) (hne : NeIs w x d ne)
    (hs : isW wd) (hb : T.length ≤ 900) (hn : as.nested = true) (hc : as.cv = some c) (h0 : 0 ≤ o) (h1 : o < vs.length) (hz : vs.length ≤ 1000)
    (q1 : (ne || as.force) = true → ∀ h' n' t, HB w H0 env gs ls b (as.aligned wd) (raw ++ padT wd 0 T) 0 h' ((c, lstO (vs.set o.toNat (.int (raw ++ padT wd 0 T).length t)) n') :: l) → Q .none h')
    (q2 : (ne || as.force) = false → ∀ h', HB w H0 env gs ls b as T 0 h' ((c, lstO vs n) :: l) → Q .none h') : WC w A (.call (.ref 516) ⟨[.ref b, .ref C, .int o t, x, d], []⟩) (fun fl h' => ∃ v, fl = .ret v ∧ Q v h') h := by
  obtain ⟨st, J, a, e1, e2, e, D⟩ := D
  refine WC_fn3 D O [("self", .ref b), ("flags", .ref C), ("o", .int o t), ("x", x), ("d", d)] ["self", "flags", "o", "x", "d"] [] ["enforce_number"] (by k_is) (by k_is) (fun _ _ => BindsTo.of_eq rfl) rfl (by decide +kernel) ?_
  intro env A h X O D back
  simp only [startL, List.map_cons, List.map_nil, List.cons_append, List.nil_append] at D
  (repeat keq_rows)
  rw [hx]
  (repeat keq_rows)
  refine sp_enforce D (O.mono (by omega)) F fun h D => ?_
  (repeat keq_rows)
  rw [hd]
  (repeat keq_rows)
  refine sp_enforce D (O.mono (by omega)) F' fun h D => ?_
  (repeat keq_rows)
  refine hne _ _ _ ?_
  (repeat keq_rows)
  have hf : st.force = as.force := by rw [← a]; rfl
  cases ne with
  | true =>
    (repeat keq_rows)
    refine sp_Prepend ⟨st, J, a, e1, e2, e, D⟩ (O.mono (by omega)) F hs hb fun h D => ?_
    obtain ⟨st, J, a, e1, e2, e, D⟩ := D
    (repeat keq_rows)
    refine sp_Slot ⟨st, J, a, e1, e2, e, D⟩ (O.mono (by omega)) hn hc h0 h1 hz fun h n' t D => ?_
    obtain ⟨st, J, a, e1, e2, e, D⟩ := D
    (repeat keq_rows)
    exact q1 rfl _ n' t ⟨st, J, a, e1, Nat.zero_le _, e, back _ _ _ _ _ _ D⟩
  | false =>
    (repeat keq_rows)
    rw [hf]
    cases hfo : as.force with
    | true =>
      (repeat keq_rows)
      rw [hd]
      (repeat keq_rows)
      refine sp_Prepend ⟨st, J, a, e1, e2, e, D⟩ (O.mono (by omega)) F hs hb fun h D => ?_
      obtain ⟨st, J, a, e1, e2, e, D⟩ := D
      (repeat keq_rows)
      refine sp_Slot ⟨st, J, a, e1, e2, e, D⟩ (O.mono (by omega)) hn hc h0 h1 hz fun h n' t D => ?_
      obtain ⟨st, J, a, e1, e2, e, D⟩ := D
      (repeat keq_rows)
      exact q1 (by rw [hfo]; rfl) _ n' t ⟨st, J, a, e1, Nat.zero_le _, e, back _ _ _ _ _ _ D⟩
    | false =>
      (repeat keq_rows)
      exact q2 (by rw [hfo]; rfl) _ ⟨st, J, a, e1, Nat.zero_le _, e, back _ _ _ _ _ _ D⟩
theorem star_back {K : Frag} {p q r m X ta : Addr × Obj} (D : Here K w H0 env gs ls h (p :: q :: r :: m :: X :: ta :: l)) : Here K w H0 env gs ls h (X :: p :: q :: r :: l) :=
  (((D.perm (List.perm_middle (l₁ := [_, _, _]))).drop.perm (List.perm_middle (l₁ := [_, _, _]))).perm (List.perm_middle (l₁ := [_, _, _, _]))).drop
theorem sp_PrependBoolSlot {o : Int} {t : Tok} {ne : Bool} {raw' : List UInt8} {Q : Value → Heap → Prop} (D : HB w H0 env gs ls b as T r h ((c, lstO vs n) :: l)) (O : AOk 5 A) (F : Fit w 70 x wd raw) (F' : Fit w 70 d wd raw') (hx : (x == Value.none) = false) (hd : (d == Value.none) = false) (hne : NeIs w x d ne)
    (hs : isW wd) (hb : T.length ≤ 900) (hn : as.nested = true) (hc : as.cv = some c) (h0 : 0 ≤ o) (h1 : o < vs.length) (hz : vs.length ≤ 1000)
    (q1 : (ne || as.force) = true → ∀ h' n' t, HB w H0 env gs ls b (as.aligned wd) (raw ++ padT wd 0 T) 0 h' ((c, lstO (vs.set o.toNat (.int (raw ++ padT wd 0 T).length t)) n') :: l) → Q .none h')
    (q2 : (ne || as.force) = false → ∀ h', HB w H0 env gs ls b as T 0 h' ((c, lstO vs n) :: l) → Q .none h') : W w A (call (.ref 523) [.ref b, .int o t, x, d]) Q h := by
  obtain ⟨st, J, a, e1, e2, e, D⟩ := D
  refine W_call (W_fnStar D O (first := .ref b) (rest := [.int o t, x, d]) (s1 := "self") (s2 := "args") (by k_is) (by k_is) rfl (by rw [sizeLine_eq]; simp) (xs := []) (gs' := ["BoolFlags"]) (by decide +kernel) ?_)
  intro env A h X ta O D back
  simp only [startL, List.map_cons, List.map_nil, List.cons_append, List.nil_append] at D
  have D := D.perm (List.perm_append_comm_assoc [_, _] [_, _, _] _)
  refine W_cons (W_Expr D.inter (W_starCall D (.head _) D.inst0 (meth_PrependSlot w) (by k_is) (by k_is) (by decide) (by k_is) (fun h m D => ?_) rfl rfl) rfl)
  have D := D.perm (List.perm_middle (l₁ := [_])).symm
  refine W_sp1 ?_ rfl
  (repeat keq_rows)
  refine W_spStar D (.tail _ (.head _)) (D.led.own _ (.tail _ (.tail _ (.tail _ (.tail _ (.tail _ (.head _))))))) (by rw [sizeLine_eq]; simp) fun h D => ?_
  refine ⟨D.perm (List.perm_middle (l₁ := [_])), ?_⟩
  refine wc_PrependSlot ⟨st, J, a, e1, e2, e, D.perm (.cons _ (List.perm_middle (l₁ := [_, _])).symm)⟩ (O.mono (by omega)) F F' hx hd hne hs hb hn hc h0 h1 hz (fun hq h n' t D => ?_) (fun hq h D => ?_)
  · obtain ⟨st, J, a, e1, e2, e, D⟩ := D
    (repeat keq_rows)
    exact q1 hq _ n' t ⟨st, J, a, e1, e2, e, back _ _ _ (star_back D)⟩
  · obtain ⟨st, J, a, e1, e2, e, D⟩ := D
    (repeat keq_rows)
    exact q2 hq _ ⟨st, J, a, e1, e2, e, back _ _ _ (star_back D)⟩
theorem sp_PrependUint8Slot {o : Int} {t : Tok} {ne : Bool} {raw' : List UInt8} {Q : Value → Heap → Prop} (D : HB w H0 env gs ls b as T r h ((c, lstO vs n) :: l)) (O : AOk 5 A) (F : Fit w 84 x wd raw) (F' : Fit w 84 d wd raw') (hx : (x == Value.none) = false) (hd : (d == Value.none) = false) (hne : NeIs w x d ne)
    (hs : isW wd) (hb : T.length ≤ 900) (hn : as.nested = true) (hc : as.cv = some c) (h0 : 0 ≤ o) (h1 : o < vs.length) (hz : vs.length ≤ 1000)
    (q1 : (ne || as.force) = true → ∀ h' n' t, HB w H0 env gs ls b (as.aligned wd) (raw ++ padT wd 0 T) 0 h' ((c, lstO (vs.set o.toNat (.int (raw ++ padT wd 0 T).length t)) n') :: l) → Q .none h')
    (q2 : (ne || as.force) = false → ∀ h', HB w H0 env gs ls b as T 0 h' ((c, lstO vs n) :: l) → Q .none h') : W w A (call (.ref 537) [.ref b, .int o t, x, d]) Q h := by
  obtain ⟨st, J, a, e1, e2, e, D⟩ := D
  refine W_call (W_fnStar D O (first := .ref b) (rest := [.int o t, x, d]) (s1 := "self") (s2 := "args") (by k_is) (by k_is) rfl (by rw [sizeLine_eq]; simp) (xs := []) (gs' := ["Uint8Flags"]) (by decide +kernel) ?_)
  intro env A h X ta O D back
  simp only [startL, List.map_cons, List.map_nil, List.cons_append, List.nil_append] at D
  have D := D.perm (List.perm_append_comm_assoc [_, _] [_, _, _] _)
  refine W_cons (W_Expr D.inter (W_starCall D (.head _) D.inst0 (meth_PrependSlot w) (by k_is) (by k_is) (by decide) (by k_is) (fun h m D => ?_) rfl rfl) rfl)
  have D := D.perm (List.perm_middle (l₁ := [_])).symm
  refine W_sp1 ?_ rfl
  (repeat keq_rows)
  refine W_spStar D (.tail _ (.head _)) (D.led.own _ (.tail _ (.tail _ (.tail _ (.tail _ (.tail _ (.head _))))))) (by rw [sizeLine_eq]; simp) fun h D => ?_
  refine ⟨D.perm (List.perm_middle (l₁ := [_])), ?_⟩
  refine wc_PrependSlot ⟨st, J, a, e1, e2, e, D.perm (.cons _ (List.perm_middle (l₁ := [_, _])).symm)⟩ (O.mono (by omega)) F F' hx hd hne hs hb hn hc h0 h1 hz (fun hq h n' t D => ?_) (fun hq h D => ?_)
  · obtain ⟨st, J, a, e1, e2, e, D⟩ := D
    (repeat keq_rows)
    exact q1 hq _ n' t ⟨st, J, a, e1, e2, e, back _ _ _ (star_back D)⟩
  · obtain ⟨st, J, a, e1, e2, e, D⟩ := D
    (repeat keq_rows)
    exact q2 hq _ ⟨st, J, a, e1, e2, e, back _ _ _ (star_back D)⟩
theorem sp_PrependUint16Slot {o : Int} {t : Tok} {ne : Bool} {raw' : List UInt8} {Q : Value → Heap → Prop} (D : HB w H0 env gs ls b as T r h ((c, lstO vs n) :: l)) (O : AOk 5 A) (F : Fit w 98 x wd raw) (F' : Fit w 98 d wd raw') (hx : (x == Value.none) = false) (hd : (d == Value.none) = false) (hne : NeIs w x d ne)
    (hs : isW wd) (hb : T.length ≤ 900) (hn : as.nested = true) (hc : as.cv = some c) (h0 : 0 ≤ o) (h1 : o < vs.length) (hz : vs.length ≤ 1000)
    (q1 : (ne || as.force) = true → ∀ h' n' t, HB w H0 env gs ls b (as.aligned wd) (raw ++ padT wd 0 T) 0 h' ((c, lstO (vs.set o.toNat (.int (raw ++ padT wd 0 T).length t)) n') :: l) → Q .none h')
    (q2 : (ne || as.force) = false → ∀ h', HB w H0 env gs ls b as T 0 h' ((c, lstO vs n) :: l) → Q .none h') : W w A (call (.ref 544) [.ref b, .int o t, x, d]) Q h := by
  obtain ⟨st, J, a, e1, e2, e, D⟩ := D
  refine W_call (W_fnStar D O (first := .ref b) (rest := [.int o t, x, d]) (s1 := "self") (s2 := "args") (by k_is) (by k_is) rfl (by rw [sizeLine_eq]; simp) (xs := []) (gs' := ["Uint16Flags"]) (by decide +kernel) ?_)
  intro env A h X ta O D back
  simp only [startL, List.map_cons, List.map_nil, List.cons_append, List.nil_append] at D
  have D := D.perm (List.perm_append_comm_assoc [_, _] [_, _, _] _)
  refine W_cons (W_Expr D.inter (W_starCall D (.head _) D.inst0 (meth_PrependSlot w) (by k_is) (by k_is) (by decide) (by k_is) (fun h m D => ?_) rfl rfl) rfl)
  have D := D.perm (List.perm_middle (l₁ := [_])).symm
  refine W_sp1 ?_ rfl
  (repeat keq_rows)
  refine W_spStar D (.tail _ (.head _)) (D.led.own _ (.tail _ (.tail _ (.tail _ (.tail _ (.tail _ (.head _))))))) (by rw [sizeLine_eq]; simp) fun h D => ?_
  refine ⟨D.perm (List.perm_middle (l₁ := [_])), ?_⟩
  refine wc_PrependSlot ⟨st, J, a, e1, e2, e, D.perm (.cons _ (List.perm_middle (l₁ := [_, _])).symm)⟩ (O.mono (by omega)) F F' hx hd hne hs hb hn hc h0 h1 hz (fun hq h n' t D => ?_) (fun hq h D => ?_)
  · obtain ⟨st, J, a, e1, e2, e, D⟩ := D
    (repeat keq_rows)
    exact q1 hq _ n' t ⟨st, J, a, e1, e2, e, back _ _ _ (star_back D)⟩
  · obtain ⟨st, J, a, e1, e2, e, D⟩ := D
    (repeat keq_rows)
    exact q2 hq _ ⟨st, J, a, e1, e2, e, back _ _ _ (star_back D)⟩
theorem sp_PrependUint32Slot {o : Int} {t : Tok} {ne : Bool} {raw' : List UInt8} {Q : Value → Heap → Prop} (D : HB w H0 env gs ls b as T r h ((c, lstO vs n) :: l)) (O : AOk 5 A) (F : Fit w 112 x wd raw) (F' : Fit w 112 d wd raw') (hx : (x == Value.none) = false) (hd : (d == Value.none) = false) (hne : NeIs w x d ne)
    (hs : isW wd) (hb : T.length ≤ 900) (hn : as.nested = true) (hc : as.cv = some c) (h0 : 0 ≤ o) (h1 : o < vs.length) (hz : vs.length ≤ 1000)
    (q1 : (ne || as.force) = true → ∀ h' n' t, HB w H0 env gs ls b (as.aligned wd) (raw ++ padT wd 0 T) 0 h' ((c, lstO (vs.set o.toNat (.int (raw ++ padT wd 0 T).length t)) n') :: l) → Q .none h')
    (q2 : (ne || as.force) = false → ∀ h', HB w H0 env gs ls b as T 0 h' ((c, lstO vs n) :: l) → Q .none h') : W w A (call (.ref 551) [.ref b, .int o t, x, d]) Q h := by
  obtain ⟨st, J, a, e1, e2, e, D⟩ := D
  refine W_call (W_fnStar D O (first := .ref b) (rest := [.int o t, x, d]) (s1 := "self") (s2 := "args") (by k_is) (by k_is) rfl (by rw [sizeLine_eq]; simp) (xs := []) (gs' := ["Uint32Flags"]) (by decide +kernel) ?_)
  intro env A h X ta O D back
  simp only [startL, List.map_cons, List.map_nil, List.cons_append, List.nil_append] at D
  have D := D.perm (List.perm_append_comm_assoc [_, _] [_, _, _] _)
  refine W_cons (W_Expr D.inter (W_starCall D (.head _) D.inst0 (meth_PrependSlot w) (by k_is) (by k_is) (by decide) (by k_is) (fun h m D => ?_) rfl rfl) rfl)
  have D := D.perm (List.perm_middle (l₁ := [_])).symm
  refine W_sp1 ?_ rfl
  (repeat keq_rows)
  refine W_spStar D (.tail _ (.head _)) (D.led.own _ (.tail _ (.tail _ (.tail _ (.tail _ (.tail _ (.head _))))))) (by rw [sizeLine_eq]; simp) fun h D => ?_
  refine ⟨D.perm (List.perm_middle (l₁ := [_])), ?_⟩
  refine wc_PrependSlot ⟨st, J, a, e1, e2, e, D.perm (.cons _ (List.perm_middle (l₁ := [_, _])).symm)⟩ (O.mono (by omega)) F F' hx hd hne hs hb hn hc h0 h1 hz (fun hq h n' t D => ?_) (fun hq h D => ?_)
  · obtain ⟨st, J, a, e1, e2, e, D⟩ := D
    (repeat keq_rows)
    exact q1 hq _ n' t ⟨st, J, a, e1, e2, e, back _ _ _ (star_back D)⟩
  · obtain ⟨st, J, a, e1, e2, e, D⟩ := D
    (repeat keq_rows)
    exact q2 hq _ ⟨st, J, a, e1, e2, e, back _ _ _ (star_back D)⟩
theorem sp_PrependUint64Slot {o : Int} {t : Tok} {ne : Bool} {raw' : List UInt8} {Q : Value → Heap → Prop} (D : HB w H0 env gs ls b as T r h ((c, lstO vs n) :: l)) (O : AOk 5 A) (F : Fit w 126 x wd raw) (F' : Fit w 126 d wd raw') (hx : (x == Value.none) = false) (hd : (d == Value.none) = false) (hne : NeIs w x d ne)
    (hs : isW wd) (hb : T.length ≤ 900) (hn : as.nested = true) (hc : as.cv = some c) (h0 : 0 ≤ o) (h1 : o < vs.length) (hz : vs.length ≤ 1000)
    (q1 : (ne || as.force) = true → ∀ h' n' t, HB w H0 env gs ls b (as.aligned wd) (raw ++ padT wd 0 T) 0 h' ((c, lstO (vs.set o.toNat (.int (raw ++ padT wd 0 T).length t)) n') :: l) → Q .none h')
    (q2 : (ne || as.force) = false → ∀ h', HB w H0 env gs ls b as T 0 h' ((c, lstO vs n) :: l) → Q .none h') : W w A (call (.ref 558) [.ref b, .int o t, x, d]) Q h := by
  obtain ⟨st, J, a, e1, e2, e, D⟩ := D
  refine W_call (W_fnStar D O (first := .ref b) (rest := [.int o t, x, d]) (s1 := "self") (s2 := "args") (by k_is) (by k_is) rfl (by rw [sizeLine_eq]; simp) (xs := []) (gs' := ["Uint64Flags"]) (by decide +kernel) ?_)
  intro env A h X ta O D back
  simp only [startL, List.map_cons, List.map_nil, List.cons_append, List.nil_append] at D
  have D := D.perm (List.perm_append_comm_assoc [_, _] [_, _, _] _)
  refine W_cons (W_Expr D.inter (W_starCall D (.head _) D.inst0 (meth_PrependSlot w) (by k_is) (by k_is) (by decide) (by k_is) (fun h m D => ?_) rfl rfl) rfl)
  have D := D.perm (List.perm_middle (l₁ := [_])).symm
  refine W_sp1 ?_ rfl
  (repeat keq_rows)
  refine W_spStar D (.tail _ (.head _)) (D.led.own _ (.tail _ (.tail _ (.tail _ (.tail _ (.tail _ (.head _))))))) (by rw [sizeLine_eq]; simp) fun h D => ?_
  refine ⟨D.perm (List.perm_middle (l₁ := [_])), ?_⟩
  refine wc_PrependSlot ⟨st, J, a, e1, e2, e, D.perm (.cons _ (List.perm_middle (l₁ := [_, _])).symm)⟩ (O.mono (by omega)) F F' hx hd hne hs hb hn hc h0 h1 hz (fun hq h n' t D => ?_) (fun hq h D => ?_)
  · obtain ⟨st, J, a, e1, e2, e, D⟩ := D
    (repeat keq_rows)
    exact q1 hq _ n' t ⟨st, J, a, e1, e2, e, back _ _ _ (star_back D)⟩
  · obtain ⟨st, J, a, e1, e2, e, D⟩ := D
    (repeat keq_rows)
    exact q2 hq _ ⟨st, J, a, e1, e2, e, back _ _ _ (star_back D)⟩
theorem sp_PrependInt8Slot {o : Int} {t : Tok} {ne : Bool} {raw' : List UInt8} {Q : Value → Heap → Prop} (D : HB w H0 env gs ls b as T r h ((c, lstO vs n) :: l)) (O : AOk 5 A) (F : Fit w 140 x wd raw) (F' : Fit w 140 d wd raw') (hx : (x == Value.none) = false) (hd : (d == Value.none) = false) (hne : NeIs w x d ne)
    (hs : isW wd) (hb : T.length ≤ 900) (hn : as.nested = true) (hc : as.cv = some c) (h0 : 0 ≤ o) (h1 : o < vs.length) (hz : vs.length ≤ 1000)
    (q1 : (ne || as.force) = true → ∀ h' n' t, HB w H0 env gs ls b (as.aligned wd) (raw ++ padT wd 0 T) 0 h' ((c, lstO (vs.set o.toNat (.int (raw ++ padT wd 0 T).length t)) n') :: l) → Q .none h')
    (q2 : (ne || as.force) = false → ∀ h', HB w H0 env gs ls b as T 0 h' ((c, lstO vs n) :: l) → Q .none h') : W w A (call (.ref 565) [.ref b, .int o t, x, d]) Q h := by
  obtain ⟨st, J, a, e1, e2, e, D⟩ := D
  refine W_call (W_fnStar D O (first := .ref b) (rest := [.int o t, x, d]) (s1 := "self") (s2 := "args") (by k_is) (by k_is) rfl (by rw [sizeLine_eq]; simp) (xs := []) (gs' := ["Int8Flags"]) (by decide +kernel) ?_)
  intro env A h X ta O D back
  simp only [startL, List.map_cons, List.map_nil, List.cons_append, List.nil_append] at D
  have D := D.perm (List.perm_append_comm_assoc [_, _] [_, _, _] _)
  refine W_cons (W_Expr D.inter (W_starCall D (.head _) D.inst0 (meth_PrependSlot w) (by k_is) (by k_is) (by decide) (by k_is) (fun h m D => ?_) rfl rfl) rfl)
  have D := D.perm (List.perm_middle (l₁ := [_])).symm
  refine W_sp1 ?_ rfl
  (repeat keq_rows)
  refine W_spStar D (.tail _ (.head _)) (D.led.own _ (.tail _ (.tail _ (.tail _ (.tail _ (.tail _ (.head _))))))) (by rw [sizeLine_eq]; simp) fun h D => ?_
  refine ⟨D.perm (List.perm_middle (l₁ := [_])), ?_⟩
  refine wc_PrependSlot ⟨st, J, a, e1, e2, e, D.perm (.cons _ (List.perm_middle (l₁ := [_, _])).symm)⟩ (O.mono (by omega)) F F' hx hd hne hs hb hn hc h0 h1 hz (fun hq h n' t D => ?_) (fun hq h D => ?_)
  · obtain ⟨st, J, a, e1, e2, e, D⟩ := D
    (repeat keq_rows)
    exact q1 hq _ n' t ⟨st, J, a, e1, e2, e, back _ _ _ (star_back D)⟩
  · obtain ⟨st, J, a, e1, e2, e, D⟩ := D
    (repeat keq_rows)
    exact q2 hq _ ⟨st, J, a, e1, e2, e, back _ _ _ (star_back D)⟩
theorem sp_PrependInt16Slot {o : Int} {t : Tok} {ne : Bool} {raw' : List UInt8} {Q : Value → Heap → Prop} (D : HB w H0 env gs ls b as T r h ((c, lstO vs n) :: l)) (O : AOk 5 A) (F : Fit w 154 x wd raw) (F' : Fit w 154 d wd raw') (hx : (x == Value.none) = false) (hd : (d == Value.none) = false) (hne : NeIs w x d ne)
    (hs : isW wd) (hb : T.length ≤ 900) (hn : as.nested = true) (hc : as.cv = some c) (h0 : 0 ≤ o) (h1 : o < vs.length) (hz : vs.length ≤ 1000)
    (q1 : (ne || as.force) = true → ∀ h' n' t, HB w H0 env gs ls b (as.aligned wd) (raw ++ padT wd 0 T) 0 h' ((c, lstO (vs.set o.toNat (.int (raw ++ padT wd 0 T).length t)) n') :: l) → Q .none h')
    (q2 : (ne || as.force) = false → ∀ h', HB w H0 env gs ls b as T 0 h' ((c, lstO vs n) :: l) → Q .none h') : W w A (call (.ref 572) [.ref b, .int o t, x, d]) Q h := by
  obtain ⟨st, J, a, e1, e2, e, D⟩ := D
  refine W_call (W_fnStar D O (first := .ref b) (rest := [.int o t, x, d]) (s1 := "self") (s2 := "args") (by k_is) (by k_is) rfl (by rw [sizeLine_eq]; simp) (xs := []) (gs' := ["Int16Flags"]) (by decide +kernel) ?_)
  intro env A h X ta O D back
  simp only [startL, List.map_cons, List.map_nil, List.cons_append, List.nil_append] at D
  have D := D.perm (List.perm_append_comm_assoc [_, _] [_, _, _] _)
  refine W_cons (W_Expr D.inter (W_starCall D (.head _) D.inst0 (meth_PrependSlot w) (by k_is) (by k_is) (by decide) (by k_is) (fun h m D => ?_) rfl rfl) rfl)
  have D := D.perm (List.perm_middle (l₁ := [_])).symm
  refine W_sp1 ?_ rfl
  (repeat keq_rows)
  refine W_spStar D (.tail _ (.head _)) (D.led.own _ (.tail _ (.tail _ (.tail _ (.tail _ (.tail _ (.head _))))))) (by rw [sizeLine_eq]; simp) fun h D => ?_
  refine ⟨D.perm (List.perm_middle (l₁ := [_])), ?_⟩
  refine wc_PrependSlot ⟨st, J, a, e1, e2, e, D.perm (.cons _ (List.perm_middle (l₁ := [_, _])).symm)⟩ (O.mono (by omega)) F F' hx hd hne hs hb hn hc h0 h1 hz (fun hq h n' t D => ?_) (fun hq h D => ?_)
  · obtain ⟨st, J, a, e1, e2, e, D⟩ := D
    (repeat keq_rows)
    exact q1 hq _ n' t ⟨st, J, a, e1, e2, e, back _ _ _ (star_back D)⟩
  · obtain ⟨st, J, a, e1, e2, e, D⟩ := D
    (repeat keq_rows)
    exact q2 hq _ ⟨st, J, a, e1, e2, e, back _ _ _ (star_back D)⟩
theorem sp_PrependInt32Slot {o : Int} {t : Tok} {ne : Bool} {raw' : List UInt8} {Q : Value → Heap → Prop} (D : HB w H0 env gs ls b as T r h ((c, lstO vs n) :: l)) (O : AOk 5 A) (F : Fit w 168 x wd raw) (F' : Fit w 168 d wd raw') (hx : (x == Value.none) = false) (hd : (d == Value.none) = false) (hne : NeIs w x d ne)
    (hs : isW wd) (hb : T.length ≤ 900) (hn : as.nested = true) (hc : as.cv = some c) (h0 : 0 ≤ o) (h1 : o < vs.length) (hz : vs.length ≤ 1000)
    (q1 : (ne || as.force) = true → ∀ h' n' t, HB w H0 env gs ls b (as.aligned wd) (raw ++ padT wd 0 T) 0 h' ((c, lstO (vs.set o.toNat (.int (raw ++ padT wd 0 T).length t)) n') :: l) → Q .none h')
    (q2 : (ne || as.force) = false → ∀ h', HB w H0 env gs ls b as T 0 h' ((c, lstO vs n) :: l) → Q .none h') : W w A (call (.ref 579) [.ref b, .int o t, x, d]) Q h := by
  obtain ⟨st, J, a, e1, e2, e, D⟩ := D
  refine W_call (W_fnStar D O (first := .ref b) (rest := [.int o t, x, d]) (s1 := "self") (s2 := "args") (by k_is) (by k_is) rfl (by rw [sizeLine_eq]; simp) (xs := []) (gs' := ["Int32Flags"]) (by decide +kernel) ?_)
  intro env A h X ta O D back
  simp only [startL, List.map_cons, List.map_nil, List.cons_append, List.nil_append] at D
  have D := D.perm (List.perm_append_comm_assoc [_, _] [_, _, _] _)
  refine W_cons (W_Expr D.inter (W_starCall D (.head _) D.inst0 (meth_PrependSlot w) (by k_is) (by k_is) (by decide) (by k_is) (fun h m D => ?_) rfl rfl) rfl)
  have D := D.perm (List.perm_middle (l₁ := [_])).symm
  refine W_sp1 ?_ rfl
  (repeat keq_rows)
  refine W_spStar D (.tail _ (.head _)) (D.led.own _ (.tail _ (.tail _ (.tail _ (.tail _ (.tail _ (.head _))))))) (by rw [sizeLine_eq]; simp) fun h D => ?_
  refine ⟨D.perm (List.perm_middle (l₁ := [_])), ?_⟩
  refine wc_PrependSlot ⟨st, J, a, e1, e2, e, D.perm (.cons _ (List.perm_middle (l₁ := [_, _])).symm)⟩ (O.mono (by omega)) F F' hx hd hne hs hb hn hc h0 h1 hz (fun hq h n' t D => ?_) (fun hq h D => ?_)
  · obtain ⟨st, J, a, e1, e2, e, D⟩ := D
    (repeat keq_rows)
    exact q1 hq _ n' t ⟨st, J, a, e1, e2, e, back _ _ _ (star_back D)⟩
  · obtain ⟨st, J, a, e1, e2, e, D⟩ := D
    (repeat keq_rows)
    exact q2 hq _ ⟨st, J, a, e1, e2, e, back _ _ _ (star_back D)⟩
theorem sp_PrependInt64Slot {o : Int} {t : Tok} {ne : Bool} {raw' : List UInt8} {Q : Value → Heap → Prop} (D : HB w H0 env gs ls b as T r h ((c, lstO vs n) :: l)) (O : AOk 5 A) (F : Fit w 182 x wd raw) (F' : Fit w 182 d wd raw') (hx : (x == Value.none) = false) (hd : (d == Value.none) = false) (hne : NeIs w x d ne)
    (hs : isW wd) (hb : T.length ≤ 900) (hn : as.nested = true) (hc : as.cv = some c) (h0 : 0 ≤ o) (h1 : o < vs.length) (hz : vs.length ≤ 1000)
    (q1 : (ne || as.force) = true → ∀ h' n' t, HB w H0 env gs ls b (as.aligned wd) (raw ++ padT wd 0 T) 0 h' ((c, lstO (vs.set o.toNat (.int (raw ++ padT wd 0 T).length t)) n') :: l) → Q .none h')
    (q2 : (ne || as.force) = false → ∀ h', HB w H0 env gs ls b as T 0 h' ((c, lstO vs n) :: l) → Q .none h') : W w A (call (.ref 586) [.ref b, .int o t, x, d]) Q h := by
  obtain ⟨st, J, a, e1, e2, e, D⟩ := D
  refine W_call (W_fnStar D O (first := .ref b) (rest := [.int o t, x, d]) (s1 := "self") (s2 := "args") (by k_is) (by k_is) rfl (by rw [sizeLine_eq]; simp) (xs := []) (gs' := ["Int64Flags"]) (by decide +kernel) ?_)
  intro env A h X ta O D back
  simp only [startL, List.map_cons, List.map_nil, List.cons_append, List.nil_append] at D
  have D := D.perm (List.perm_append_comm_assoc [_, _] [_, _, _] _)
  refine W_cons (W_Expr D.inter (W_starCall D (.head _) D.inst0 (meth_PrependSlot w) (by k_is) (by k_is) (by decide) (by k_is) (fun h m D => ?_) rfl rfl) rfl)
  have D := D.perm (List.perm_middle (l₁ := [_])).symm
  refine W_sp1 ?_ rfl
  (repeat keq_rows)
  refine W_spStar D (.tail _ (.head _)) (D.led.own _ (.tail _ (.tail _ (.tail _ (.tail _ (.tail _ (.head _))))))) (by rw [sizeLine_eq]; simp) fun h D => ?_
  refine ⟨D.perm (List.perm_middle (l₁ := [_])), ?_⟩
  refine wc_PrependSlot ⟨st, J, a, e1, e2, e, D.perm (.cons _ (List.perm_middle (l₁ := [_, _])).symm)⟩ (O.mono (by omega)) F F' hx hd hne hs hb hn hc h0 h1 hz (fun hq h n' t D => ?_) (fun hq h D => ?_)
  · obtain ⟨st, J, a, e1, e2, e, D⟩ := D
    (repeat keq_rows)
    exact q1 hq _ n' t ⟨st, J, a, e1, e2, e, back _ _ _ (star_back D)⟩
  · obtain ⟨st, J, a, e1, e2, e, D⟩ := D
    (repeat keq_rows)
    exact q2 hq _ ⟨st, J, a, e1, e2, e, back _ _ _ (star_back D)⟩
theorem sp_USlot {o off : Int} {t u v : Tok} {Q : Value → Heap → Prop} (D : HB w H0 env gs ls b as T r h ((c, lstO vs n) :: l)) (O : AOk 4 A) (hn : as.nested = true) (hc : as.cv = some c) (h0 : 0 ≤ o) (h1 : o < vs.length) (hz : vs.length ≤ 1000) (i0 : 0 < off) (i1 : off ≤ T.length) (hb : T.length ≤ 900)
    (q : ∀ h' n' t, HB w H0 env gs ls b (as.aligned 4) ((encI 4 ((padT 4 0 T).length - off + 4)).toList ++ padT 4 0 T) 0 h' ((c, lstO (vs.set o.toNat (.int ((encI 4 ((padT 4 0 T).length - off + 4)).toList ++ padT 4 0 T).length t)) n') :: l) → Q .none h') :
    W w A (call (.ref 593) [.ref b, .int o t, .int off u, .int 0 v]) Q h := by
  obtain ⟨st, J, a, e1, e2, e, D⟩ := D
  refine W_fn3 D O [("self", .ref b), ("o", .int o t), ("x", .int off u), ("d", .int 0 v)] ["self", "o", "x", "d"] [] [] (by k_is) (by k_is) (fun _ _ => BindsTo.of_eq rfl) rfl (by decide +kernel) ?_
  intro env A h X O D back
  simp only [startL, List.map_cons, List.map_nil, List.cons_append, List.nil_append] at D
  (repeat keq_rows)
  rw [show (off != 0) = true from bne_iff_ne.mpr (by omega)]
  (repeat keq_rows)
  refine sp_PrependU ⟨st, J, a, e1, e2, e, D⟩ (O.mono (by omega)) (by omega) i1 hb fun h D => ?_
  obtain ⟨st, J, a, e1, e2, e, D⟩ := D
  (repeat keq_rows)
  refine sp_Slot ⟨st, J, a, e1, e2, e, D⟩ (O.mono (by omega)) hn hc h0 h1 hz fun h n' t D => ?_
  obtain ⟨st, J, a, e1, e2, e, D⟩ := D
  (repeat keq_rows)
  exact q _ n' t ⟨st, J, a, e1, Nat.zero_le _, e, back _ _ _ _ _ _ D⟩
end
end

-- FBM
section
open PySem PySem.W PySem.Calls PyProof.Rows Builtin
section
variable {w : World} {A : Around} {h : Heap} {env : Env} {H0 : Heap} {gs : List Str} {ls : List (Str × Option Value)} {l : List (Addr × Obj)} {pos : Pos} {d a : Addr} {o : Obj} {kvs : List (Str × Value)} {x : Str} {t : Tok} {v : Value}
theorem Here.to2 {K : Frag} {x y z : Addr × Obj} (D : Here K w H0 env gs ls h (z :: x :: y :: l)) : Here K w H0 env gs ls h (x :: y :: z :: l) := D.perm (List.perm_middle (l₁ := [x, y])).symm
theorem Here.fr2 {K : Frag} {x y z : Addr × Obj} (D : Here K w H0 env gs ls h (x :: y :: z :: l)) : Here K w H0 env gs ls h (z :: x :: y :: l) := D.perm (List.perm_middle (l₁ := [x, y]))
theorem Here.to3 {K : Frag} {x y z u : Addr × Obj} (D : Here K w H0 env gs ls h (z :: x :: y :: u :: l)) : Here K w H0 env gs ls h (x :: y :: u :: z :: l) := D.perm (List.perm_middle (l₁ := [x, y, u])).symm
theorem Here.fr3 {K : Frag} {x y z u : Addr × Obj} (D : Here K w H0 env gs ls h (x :: y :: u :: z :: l)) : Here K w H0 env gs ls h (z :: x :: y :: u :: l) := D.perm (List.perm_middle (l₁ := [x, y, u]))
theorem Here.to4 {K : Frag} {x y z u v : Addr × Obj} (D : Here K w H0 env gs ls h (z :: x :: y :: u :: v :: l)) : Here K w H0 env gs ls h (x :: y :: u :: v :: z :: l) := D.perm (List.perm_middle (l₁ := [x, y, u, v])).symm
theorem Here.fr4 {K : Frag} {x y z u v : Addr × Obj} (D : Here K w H0 env gs ls h (x :: y :: u :: v :: z :: l)) : Here K w H0 env gs ls h (z :: x :: y :: u :: v :: l) := D.perm (List.perm_middle (l₁ := [x, y, u, v]))
/-- the third and the fourth change places -/
theorem Here.sw2 {K : Frag} {x y z u : Addr × Obj} (D : Here K w H0 env gs ls h (x :: y :: z :: u :: l)) : Here K w H0 env gs ls h (x :: y :: u :: z :: l) := D.perm (.cons _ (.cons _ (.swap ..)))
theorem notSys {p : Addr × Obj} (D : Here (hd.heap_39 w.params) w H0 env gs ls h l) (hp : p ∈ l) : (p.1 == sysModules) = false := by
  have h2 := (D.led.new p hp).b
  refine beq_eq_false_iff_ne.mpr fun e => ?_
  rw [show p.1 = 1 from e] at h2
  exact absurd h2 (by decide)
abbrev dictE : Obj := { cls := .type "dict", data := .dict #[] }
theorem dictE_of : dictE.IsDictOf (PySem.strKind PySem.Challenge.pw_bp0003_01 w) [] := ⟨#[], 0, ⟨rfl, rfl, rfl⟩, rfl, by intro e h; simp at h, .nil, by simp⟩
theorem W_DictE {Q : Value → Heap → Prop} (D : Here (hd.heap_39 w.params) w H0 env gs ls h l) (q : ∀ h' d, Here (hd.heap_39 w.params) w H0 env gs ls h' ((d, dictE) :: l) → Q (.ref d) h') : W w A (eval (.Dict [] [] pos) env) Q h := by
  rw [eval_Dict_empty]
  exact W_bind (W_standAt (W_any fun s e => wpAny_newObj_type (by subst e; exact ⟨⟨rfl, rfl⟩, q _ _ (D.alloc rfl)⟩) (by show 0 ≤ sizeLine + 1; omega)))
theorem W_dictTruthy {Q : Bool → Heap → Prop} (D : Here (hd.heap_39 w.params) w H0 env gs ls h l) (hp : (d, o) ∈ l) (ho : o.IsDictOf (PySem.strKind PySem.Challenge.pw_bp0003_01 w) kvs) (hz : kvs.length ≤ 1000) (q : Q (!kvs.isEmpty) h) : W w A (truthy (.ref d)) Q h :=
  W_any fun s e => wpAny_truthy_dict (knd := PySem.strKind PySem.Challenge.pw_bp0003_01 w) (notSys D hp) (Heap.dictOf_iff.mpr ⟨o, e ▸ D.led.own _ hp, ho⟩) (by omega) ⟨⟨rfl, rfl⟩, by subst e; exact q⟩
theorem is_str (x : Str) (t : Tok) : (PySem.strKind PySem.Challenge.pw_bp0003_01 w).is x (.str x t) = true := by simp [PySem.strKind, Value.isStrOf]
theorem W_inDict {Q : Value → Heap → Prop} (D : Here (hd.heap_39 w.params) w H0 env gs ls h l) (hp : (d, o) ∈ l) (ho : o.IsDictOf (PySem.strKind PySem.Challenge.pw_bp0003_01 w) kvs) (q : Q (.bool (valueAt kvs x).isSome) h) : W w A (compareOp .In (.str x t) (.ref d)) Q h :=
  W_any fun s e => wpAny_in_of (knd := PySem.strKind PySem.Challenge.pw_bp0003_01 w) (is_str x t) (notSys D hp) (Heap.DictOf.mapOf (Heap.dictOf_iff.mpr ⟨o, e ▸ D.led.own _ hp, ho⟩)) ⟨⟨rfl, rfl⟩, by subst e; exact q⟩
theorem W_getDict {Q : Value → Heap → Prop} (D : Here (hd.heap_39 w.params) w H0 env gs ls h l) (hp : (d, o) ∈ l) (ho : o.IsDictOf (PySem.strKind PySem.Challenge.pw_bp0003_01 w) kvs) (hv : valueAt kvs x = some v) (q : Q v h) : W w A (getItem (.ref d) (.str x t)) Q h :=
  W_any fun s e => wpAny_getItem_of (knd := PySem.strKind PySem.Challenge.pw_bp0003_01 w) (is_str x t) (Heap.DictOf.mapOf (Heap.dictOf_iff.mpr ⟨o, e ▸ D.led.own _ hp, ho⟩)) hv ⟨⟨rfl, rfl⟩, by subst e; exact q⟩
theorem W_setDict {Q : Unit → Heap → Prop} (D : Here (hd.heap_39 w.params) w H0 env gs ls h ((d, o) :: l)) (ho : o.IsDictOf (PySem.strKind PySem.Challenge.pw_bp0003_01 w) kvs) (hz : kvs.length ≤ 1000)
    (q : ∀ h' o', Here (hd.heap_39 w.params) w H0 env gs ls h' ((d, o') :: l) → o'.IsDictOf (PySem.strKind PySem.Challenge.pw_bp0003_01 w) (stored kvs x v) → Q () h') : W w A (setItem (.ref d) (.str x t) v) Q h :=
  W_any fun s e => by
    subst e
    refine wpAny_setItem_pairs (knd := PySem.strKind PySem.Challenge.pw_bp0003_01 w) (is_str x t) (Heap.dictOf_iff.mpr ⟨o, D.at0, ho⟩) (fun h' hm sb => ⟨⟨rfl, rfl⟩, ?_⟩) (by rw [sizeLine_eq]; omega)
    obtain ⟨o', e', ho'⟩ := Heap.dictOf_iff.mp hm
    exact q h' o' (D.same sb e' (by obtain ⟨es, ep, hx, hdt, _⟩ := ho'; intro e; rw [hdt] at e; cases e)) ho'
-- a tuple of ints as a key
theorem emptyH {h : Heap} (hd : h.get? d = some dictE) : h.DictOfH (tupleKind (intKind PySem.Challenge.pw_bp0003_01 w)) d [] := ⟨dictE, #[], 0, hd, ⟨rfl, rfl, rfl⟩, rfl, rfl, by simp, by simp⟩
theorem W_getMeth {pl : Sem Bool} {Q : Value × List Value → Heap → Prop} (hd : h.get? d = some dictE) (q : Q (.builtin "dict.get", [.ref d]) h) : W w A (getMethod (.ref d) "get" pl) Q h :=
  W_any fun s e => getMethod_builtin (T := "dict") ⟨_, e ▸ hd, rfl⟩ PySem.F.plainAttrs_dict PySem.F.slot_dict_get PySem.F.type_dict_get (fun b hb => by cases hb; exact ⟨_, e ▸ hd, rfl⟩) ⟨Rest.refl s, e ▸ q⟩
theorem W_getTup {m : Nat} {vs : List Value} {ks : List Int} {Q : Value → Heap → Prop} (O : AOk m A) (D : Here (hd.heap_39 w.params) w H0 env gs ls h l) (hp : (d, dictE) ∈ l) (ha : h.get? a = some (tupO vs)) (hi : PySem.ItemsAre (intKind PySem.Challenge.pw_bp0003_01 w) ks vs)
    (q : Q .none h) : W w A (call (.builtin "dict.get") [.ref d, .ref a]) Q h :=
  W_any fun s e => by
    subst e
    have hdE := D.led.own _ hp
    exact call_meetsIn PySem.F.slot_dict_get ⟨_, hdE, rfl⟩ PySem.F.entry_dict_get (PySem.F.args_dict_get_2 _ _) (meetsH_dict_get (tupleKind (intKind PySem.Challenge.pw_bp0003_01 w)) d a (notSys D hp))
      ⟨tupleKind_room_in1 (by have := O.un; show A.units + 1 < 9900; omega), ks, [], ⟨_, vs.toArray, 0, ha, rfl, rfl, by simpa using hi⟩, emptyH hdE, ⟨⟨rfl, rfl⟩, q⟩⟩
theorem W_setTup {m : Nat} {vs : List Value} {ks : List Int} {Q : Unit → Heap → Prop} (O : AOk m A) (D : Here (hd.heap_39 w.params) w H0 env gs ls h ((d, dictE) :: l)) (ha : h.get? a = some (tupO vs)) (hi : PySem.ItemsAre (intKind PySem.Challenge.pw_bp0003_01 w) ks vs)
    (q : ∀ h' o', Here (hd.heap_39 w.params) w H0 env gs ls h' ((d, o') :: l) → Q () h') : W w A (setItem (.ref d) (.ref a) v) Q h :=
  W_any fun s e => by
    subst e
    refine wpAny_setItem_heap (knd := tupleKind (intKind PySem.Challenge.pw_bp0003_01 w)) (k := ks) (xs := []) (tupleKind_room_in1 (by have := O.un; show A.units + 1 < 9900; omega)) ⟨_, vs.toArray, 0, ha, rfl, rfl, by simpa using hi⟩ (emptyH D.at0) (fun h' hm sb => ⟨⟨rfl, rfl⟩, ?_⟩) (by simp)
    obtain ⟨o', es', ep', ho', hx, hdt, _⟩ := hm
    exact q h' o' (D.same sb ho' (by intro e; rw [hdt] at e; cases e))
end
end

-- FC7
section
open PySem PySem.W PySem.Calls PyProof.Rows
section
variable {w : World} {A : Around} {H0 h : Heap} {env : Env} {gs : List Str} {ls : List (Str × Option Value)} {l : List (Addr × Obj)} {b a C S c : Addr} {as : AS} {T : List UInt8} {r n : Nat} {pos p p' : Pos} {x d : Value} {wd : Nat} {raw : List UInt8} {vs : List Value}

theorem HB.of {st : BS} {J : List UInt8} (D : Here (hd.heap_39 w.params) w H0 env gs ls h ((b, bobj st) :: (st.B, baO (J ++ T).toArray) :: l)) (a : st.abs = as) (e1 : st.head = (J.length : Int)) (e2 : r ≤ J.length) (e3 : J.length + T.length ≤ 4096) : HB w H0 env gs ls b as T r h l :=
  ⟨st, J, a, e1, e2, e3, D⟩
theorem al_mul {size x : Int} (hs : isW size) (hx : x % size = 0) : al size x = 0 := by unfold al; rcases hs with rfl | rfl | rfl | rfl <;> omega
theorem al_add {size x : Int} (hs : isW size) : (x + al size x) % size = 0 := by unfold al; rcases hs with rfl | rfl | rfl | rfl <;> omega
/-- what a vector opens with -/
def vecT (e n : Int) (T : List UInt8) : List UInt8 := padT e (e * n) (padT 4 (e * n) T)
def AS.vec (as : AS) (e n : Int) : AS := (({ as with nested := true, vne := some (some n) } : AS).aligned 4).aligned e
theorem vecT_lt {e n : Int} (he : isW e) (T : List UInt8) : (vecT e n T).length < 16 + T.length := by
  have h1 := padT_lt (T := T) (add := e * n) (size := 4) (by unfold isW; omega)
  have h2 := padT_lt (T := padT 4 (e * n) T) (add := e * n) he
  unfold vecT; omega
theorem vec_al {e n : Int} (he : isW e) (T : List UInt8) : (al e ((padT 4 (e * n) T).length + e * n) : Int) + 4 ≤ max 4 e := by
  have h1 := al_add (x := T.length + e * n) (size := 4) (by unfold isW; omega)
  have h2 := al_lt (x := (padT 4 (e * n) T).length + e * n) he
  rcases he with rfl | rfl | rfl | rfl
  all_goals first
    | (rw [al_mul (by unfold isW; omega)]; · omega
       rw [padT_len]; omega)
    | (rw [padT_len] at *; unfold al at *; omega)
theorem vec_mod {e n : Int} (he : isW e) (T : List UInt8) : ((vecT e n T).length + e * n) % e = 0 := by
  have h := al_add (x := (padT 4 (e * n) T).length + e * n) he
  unfold vecT
  rw [padT_len]
  rw [show ((al e ((padT 4 (e * n) T).length + e * n) + (padT 4 (e * n) T).length : Nat) : Int) + e * n = (padT 4 (e * n) T).length + e * n + al e ((padT 4 (e * n) T).length + e * n) by omega]
  exact h
theorem sp_StartVector {e n al2 : Int} {t u v : Tok} {Q : Value → Heap → Prop} (D : HB w H0 env gs ls b as T r h l) (O : AOk 3 A) (he : isW e) (hal : al2 = e) (hn : as.nested = false) (n0 : 0 ≤ n) (hb : T.length + e * n ≤ 900)
    (q : ∀ h' t, HB w H0 env gs ls b (as.vec e n) (vecT e n T) (e * n + 4).toNat h' l → Q (.int (vecT e n T).length t) h') : W w A (call (.ref 421) [.ref b, .int e t, .int n u, .int al2 v]) Q h := by
  subst hal
  have hm : IntMulOk al2 n := .of_left (by rcases he with rfl | rfl | rfl | rfl <;> decide +kernel)
  have hp : 0 ≤ al2 * n := Int.mul_nonneg (by rcases he with rfl | rfl | rfl | rfl <;> omega) n0
  have hv := vec_al (n := n) he T
  have h1 := padT_lt (T := T) (add := al2 * n) (size := 4) (by unfold isW; omega)
  have e0 : (padT 4 (al2 * n) T).length = _ := padT_len _ _ _
  obtain ⟨st, J, a, e1, e2, e3, D⟩ := D
  refine W_fn2 D O [("self", .ref b), ("elemSize", .int al2 t), ("numElems", .int n u), ("alignment", .int al2 v)] ["self", "elemSize", "numElems", "alignment"] [] ["Uint32Flags"] (by k_is) (by k_is) (fun _ _ => BindsTo.of_eq rfl) rfl (by decide +kernel) ?_
  intro env A h X O D back
  simp only [startL, List.map_cons, List.map_nil, List.cons_append, List.nil_append] at D
  (repeat keq_rows)
  refine sp_assertNotNested ⟨st, J, a, e1, e2, e3, D⟩ (O.mono (by omega)) hn fun h D => ?_
  obtain ⟨st, J, a, e1, e2, e3, D⟩ := D
  (repeat keq_rows)
  (rename Here _ _ _ _ _ _ _ _ => D)
  refine W_mul hm fun t2 => ?_
  (repeat keq_rows)
  refine sp_Prep (as := { as with nested := true, vne := some (some n) }) (.of D (by rw [← a]; rfl) e1 e2 e3) (O.mono (by omega)) (by unfold isW; omega) hp (by omega) fun h D => ?_
  obtain ⟨st, J, a, e1, e2, e3, D⟩ := D
  (repeat keq_rows)
  refine W_mul hm fun t2 => ?_
  (repeat keq_rows)
  refine sp_Prep (T := padT 4 (al2 * n) T) ⟨st, J, a, e1, e2, e3, D⟩ (O.mono (by omega)) he hp (by omega) fun h D => ?_
  obtain ⟨st, J, a, e1, e2, e3, D⟩ := D
  (repeat keq_rows)
  refine sp_Offset ⟨st, J, a, e1, e2, e3, D⟩ (O.mono (by omega)) fun h t D => ?_
  obtain ⟨st, J, a, e1, e2, e3, D⟩ := D
  (repeat keq_rows)
  exact q _ t ⟨st, J, a, e1, by omega, e3, back _ _ _ _ _ D⟩
theorem sp_EndVector {n : Int} {Q : Value → Heap → Prop} (D : HB w H0 env gs ls b as T r h l) (O : AOk 3 A) (hr : 4 ≤ r) (hn : as.nested = true) (hv : as.vne = some (some n)) (n0 : 0 ≤ n) (n1 : n ≤ 4294967295)
    (q : ∀ h' t, HB w H0 env gs ls b { as with nested := false, vne := some none } ((encI 4 n).toList ++ T) (r - 4) h' l → Q (.int ((encI 4 n).toList ++ T).length t) h') : W w A (call (.ref 429) [.ref b]) Q h := by
  obtain ⟨st, J, a, e1, e2, e3, D⟩ := D
  have hT : (hd.heap_39 w.params).lookup 422 = some { cls := .type "tuple", data := .seq #[.none] } := by k_is
  refine W_fn2 D O [("self", .ref b), ("numElems", .none)] ["self", "numElems"] [] ["EndVectorLengthMismatched"] (by k_is) (by k_is) (fun s e => BindsTo.of_defaults rfl (e ▸ D.kin _ _ hT) rfl rfl rfl) rfl (by decide +kernel) ?_
  intro env A h X O D back
  simp only [startL, List.map_cons, List.map_nil, List.cons_append, List.nil_append] at D
  (repeat keq_rows)
  refine sp_assertNested ⟨st, J, a, e1, e2, e3, D⟩ (O.mono (by omega)) hn fun h D => ?_
  obtain ⟨st, J, a, e1, e2, e3, D⟩ := D
  (repeat keq_rows)
  (rename Here _ _ _ _ _ _ _ _ => D)
  obtain ⟨tok, hv2⟩ : ∃ tok, st.vne = some (some (n, tok)) := by
    have : st.vne.map (Option.map (·.1)) = some (some n) := by rw [← hv, ← a]; rfl
    cases hq : st.vne with
    | none => rw [hq] at this; cases this
    | some y => cases y with
      | none => rw [hq] at this; cases this
      | some z => rw [hq] at this; obtain ⟨z1, z2⟩ := z; simp at this; subst this; exact ⟨_, rfl⟩
  refine get_vne D hv2 ?_
  (repeat keq_rows)
  refine sp_PlaceU (as := { as with nested := false }) (.of D (by rw [← a]; rfl) e1 e2 e3) (O.mono (by omega)) (fit_U n0 n1) hr fun h D => ?_
  obtain ⟨st, J, a, e1, e2, e3, D⟩ := D
  (repeat keq_rows)
  (rename Here _ _ _ _ _ _ _ _ => D)
  refine sp_Offset (as := { as with nested := false, vne := some none }) (.of D (by have := congrArg (fun y : AS => { y with vne := some none }) a; exact this) e1 e2 e3) (O.mono (by omega)) fun h t D => ?_
  obtain ⟨st, J, a, e1, e2, e3, D⟩ := D
  (repeat keq_rows)
  exact q _ t ⟨st, J, a, e1, e2, e3, back _ _ _ _ _ D⟩
end
end

-- FC8
section
open PySem PySem.W PySem.Calls PyProof.Rows
section
variable {w : World} {A : Around} {H0 h : Heap} {env : Env} {gs : List Str} {ls : List (Str × Option Value)} {l : List (Addr × Obj)} {b a C S c : Addr} {as : AS} {T : List UInt8} {r n : Nat} {pos p p' : Pos} {x d : Value} {wd : Nat} {raw : List UInt8} {vs : List Value}
theorem W_ListD {K : Frag} {elts : List Expr} {Q : Value → Heap → Prop} (D0 : Here K w H0 env gs ls h l)
    (x : W w A (spliced (backTo pos (starEach elts env))) (fun vs h₁ => vs.length ≤ sizeLine ∧ ∃ l₁, Here K w H0 env gs ls h₁ l₁ ∧ ∀ h' a, Here K w H0 env gs ls h' ((a, lstO vs 0) :: l₁) → Q (.ref a) h') h) : W w A (eval (.List elts pos) env) Q h :=
  W_List (W_mono x fun vs h₁ ⟨z, l₁, D, q⟩ => ⟨z, q _ _ (D.alloc rfl)⟩)
theorem looks_gip {o : Obj} {T id : String} (ho : h.get? a = some o) (hc : o.cls = .type T) (e : typeLookup (.type T) "__getitem__" = pure (some (.builtin id))) : Looks (MW w) h (getitemInPython (.ref a)) false := by
  unfold getitemInPython
  exact (looks_special ho hc e).andThen .now
theorem sp_StartObject {k : Int} {t : Tok} {Q : Value → Heap → Prop} (D : HB w H0 env gs ls b as T r h l) (O : AOk 2 A) (hn : as.nested = false) (h0 : 0 ≤ k) (h1 : k ≤ 1000)
    (q : ∀ h' c t, HB w H0 env gs ls b { as with cv := some c, oe := some T.length, nested := true } T r h' ((c, lstO (List.replicate k.toNat (.int 0 t)) 0) :: l) → Q .none h') : W w A (call (.ref 351) [.ref b, .int k t]) Q h := by
  obtain ⟨st, J, a, e1, e2, e3, D⟩ := D
  refine W_fn2 D O [("self", .ref b), ("numfields", .int k t)] ["self", "numfields"] [] [] (by k_is) (by k_is) (fun _ _ => BindsTo.of_eq rfl) rfl (by decide +kernel) ?_
  intro env A h X O D back
  simp only [startL, List.map_cons, List.map_nil, List.cons_append, List.nil_append] at D
  (repeat keq_rows)
  refine sp_assertNotNested (.of D a e1 e2 e3) (O.mono (by omega)) hn fun h D => ?_
  obtain ⟨st, J, a, e1, e2, e3, D⟩ := D
  (repeat keq_rows)
  refine W_ListD D ?_
  (repeat keq_rows)
  refine ⟨by rw [sizeLine_eq]; simp, _, D, fun h a D => ?_⟩
  (repeat keq_rows)
  refine W_lmul D h0 h1 fun h c D => ?_
  have D := D.drop1.to2
  (repeat keq_rows)
  (rename Here _ _ _ _ _ _ _ _ => D)
  refine sp_Offset (as := { as with cv := some c }) (.of D (by rw [← ‹st.abs = as›]; rfl) e1 e2 e3) (O.mono (by omega)) fun h t D => ?_
  obtain ⟨st, J, a, e1, e2, e3, D⟩ := D
  (repeat keq_rows)
  (rename Here _ _ _ _ _ _ _ _ => D)
  have D := back _ _ _ _ _ D.sw2
  exact q _ c _ (.of D (by have := congrArg (fun y : AS => { y with oe := some (T.length : Int), nested := true }) a; exact this) e1 e2 e3)
theorem sp_Clear {Q : Value → Heap → Prop} (D : HB w H0 env gs ls b as T r h l) (O : AOk 1 A)
    (q : ∀ h' V, HB w H0 env gs ls b ⟨none, false, false, 1, false, none, none, some none, V⟩ [] 0 h' ((V, dictE) :: l) → Q .none h') : W w A (call (.ref 337) [.ref b]) Q h := by
  obtain ⟨st, J, a, e1, e2, e3, D⟩ := D
  refine W_fn2 D O [("self", .ref b)] ["self"] [] ["len"] (by k_is) (by k_is) (fun _ _ => BindsTo.of_eq rfl) rfl (by decide +kernel) ?_
  intro env A h X O D back
  simp only [startL, List.map_cons, List.map_nil, List.cons_append, List.nil_append] at D
  (repeat keq_rows)
  (rename Here _ _ _ _ _ _ _ _ => D)
  refine W_lenBA D.at1 (by rw [List.size_toArray, List.length_append, sizeLine_eq]; omega) fun t1 => ?_
  rw [sz]
  (repeat keq_rows)
  (rename Here _ _ _ _ _ _ _ _ => D)
  refine W_DictE D fun h V D => ?_
  have D := D.to2
  (repeat keq_rows)
  (rename Here _ _ _ _ _ _ _ _ => D)
  have D := back _ _ _ _ _ D.sw2
  rw [← List.append_nil (J ++ T)] at D
  exact q _ V (.of D rfl (by simp) (Nat.zero_le _) (by simpa using e3))
theorem sp_Output {Q : Value → Heap → Prop} (D : HB w H0 env gs ls b as T r h l) (O : AOk 1 A) (hf : as.fin = true)
    (q : ∀ h' c, HB w H0 env gs ls b as T r h' ((c, baO T.toArray) :: l) → Q (.ref c) h') : W w A (call (.ref 344) [.ref b]) Q h := by
  obtain ⟨st, J, a, e1, e2, e3, D⟩ := D
  refine W_fn2 D O [("self", .ref b)] ["self"] [] ["BuilderNotFinishedError"] (by k_is) (by k_is) (fun _ _ => BindsTo.of_eq rfl) rfl (by decide +kernel) ?_
  intro env A h X O D back
  simp only [startL, List.map_cons, List.map_nil, List.cons_append, List.nil_append] at D
  (repeat keq_rows)
  rw [show st.fin = true by rw [← hf, ← a]; rfl]
  (repeat keq_rows)
  refine W_Subscript ?_
  (repeat keq_rows)
  refine W_Slice1 ?_
  (repeat keq_rows)
  (rename Here _ _ _ _ _ _ _ _ => D)
  have D1 := D.alloc (o := slO (.int st.head st.ht) .none .none) rfl
  refine W_looks (looks_gip D1.at2 rfl BA.slot_getitem.lookup) ?_
  refine W_operate (W_cutFrom D (by omega) (by rw [sz]; omega) (by rw [List.size_toArray, List.length_append, sizeLine_eq]; omega) fun h c D => W_letGo ?_)
  rw [show ((J ++ T).toArray.toList.drop st.head.toNat).toArray = T.toArray by rw [e1]; simp] at D
  have D := D.to2
  exact q _ c (.of (back _ _ _ _ _ D.sw2) a e1 e2 e3)
end
end

-- FC9
section
open PySem PySem.W PySem.Calls PyProof.Rows
section
variable {w : World} {A : Around} {H0 h : Heap} {env : Env} {gs : List Str} {ls : List (Str × Option Value)} {l : List (Addr × Obj)} {b a C S c : Addr} {as : AS} {T : List UInt8} {r n : Nat} {pos p p' : Pos} {x d : Value} {wd : Nat} {raw : List UInt8} {vs : List Value} {s : Str} {bs : Array UInt8} {o : Obj} {kvs : List (Str × Value)}
/-- a text, laid -/
def strT (bs : Array UInt8) (T : List UInt8) : List UInt8 := (encI 4 bs.size).toList ++ (bs.toList ++ ((encI 1 0).toList ++ padT 4 (bs.size + 1) T))
theorem strT_lt {bs : Array UInt8} {T : List UInt8} : (strT bs T).length < 13 + bs.size + T.length := by
  have h1 := padT_lt (T := T) (add := bs.size + 1) (size := 4) (by unfold isW; omega)
  unfold strT
  simp only [List.length_append, Array.length_toList, encI_size]
  omega
theorem cut_list (J T : List UInt8) (k : Nat) (hk : k ≤ J.length) (x : List UInt8) : (J ++ T).toArray.extract 0 k ++ x.toArray ++ (J ++ T).toArray.extract J.length (J ++ T).toArray.size = (J.take k ++ (x ++ T)).toArray := by
  have := pad_list J T (J.length - k) (by omega) x
  rw [show J.length - (J.length - k) = k by omega] at this
  exact this
theorem W_lenBytes {t : Tok} {Q : Value → Heap → Prop} (hz : bs.size ≤ 1000) (q : ∀ t, Q (.int bs.size t) h) : W w A (call (.builtin "len") [.bytes bs t]) Q h :=
  W_any fun s e => len_bytes (by omega) ⟨⟨rfl, rfl⟩, by subst e; exact q _⟩
theorem sp_CreateString {t : Tok} {Q : Value → Heap → Prop} (D : HB w H0 env gs ls b as T r h l) (O : AOk 4 A) (E : EncK s bs) (hz : bs.size ≤ 8) (hn : as.nested = false) (hb : T.length ≤ 800)
    (q : ∀ h' t, HB w H0 env gs ls b (({ as with nested := false, vne := some none } : AS).aligned 4) (strT bs T) 0 h' l → Q (.int (strT bs T).length t) h') : W w A (call (.ref 443) [.ref b, .str s t]) Q h := by
  have hm : IntMulOk ((bs.size : Int) + 1) 1 := .of_right (by decide +kernel)
  obtain ⟨st, J, a, e1, e2, e3, D⟩ := D
  refine W_fn2 D O [("self", .ref b), ("s", .str s t)] ["self", "s"] ["x", "payload_len", "new_head"] ["isinstance", "string_types", "len", "UOffsetTFlags", "Uint8Flags"] (by k_is) (by k_is) (fun _ _ => BindsTo.of_eq rfl) rfl (by decide +kernel) ?_
  intro env A h X O D back
  simp only [startL, List.map_cons, List.map_nil, List.cons_append, List.nil_append] at D
  (repeat keq_rows)
  refine sp_assertNotNested (.of D a e1 e2 e3) (O.mono (by omega)) hn fun h D => ?_
  obtain ⟨st, J, a, e1, e2, e3, D⟩ := D
  (repeat keq_rows)
  (rename Here _ _ _ _ _ _ _ _ => D)
  refine W_isStr (D.kin _ _ (str_types w)) ?_
  (repeat keq_rows)
  refine W_CallAttr (W_local D (.tail _ (.head _)) (W_encodeMeth ?_)) rfl rfl rfl
  refine W_callWith (W_argsPlain ?_ rfl)
  (repeat keq_rows)
  refine ⟨⟨.machine, Looks.of_pure rfl⟩, ?_⟩
  refine W_encode E (by rw [sizeLine_eq]; omega) fun t2 => ?_
  (repeat keq_rows)
  refine W_lenBytes (by omega) fun t3 => ?_
  (repeat keq_rows)
  refine W_mul hm fun t4 => ?_
  rw [Int.mul_one]
  (repeat keq_rows)
  (rename Here _ _ _ _ _ _ _ _ => D)
  refine sp_Prep (as := { as with nested := true }) (T := T) (.of D (by rw [← a]; rfl) e1 e2 e3) (O.mono (by omega)) (by unfold isW; omega) (by omega) (by omega) fun h D => ?_
  obtain ⟨st, J, a, e1, e2, e3, D⟩ := D
  (repeat keq_rows)
  refine sp_Place (.of D a e1 e2 e3) (O.mono (by omega)) (fit_B (by omega) (by omega)) (by omega) fun h D => ?_
  obtain ⟨st, J, a, e1, e2, e3, D⟩ := D
  (repeat keq_rows)
  (rename Here _ _ _ _ _ _ _ _ => D)
  have hal : ((encI 1 0).toList).length = 1 := enc_len 1 0
  refine W_Slice2 ?_
  (repeat keq_rows)
  (rename Here _ _ _ _ _ _ _ _ => D)
  refine W_putBytes D (by omega) (by omega) (by rw [sz]; omega) (by rw [List.size_toArray, List.length_append, sizeLine_eq]; omega) (by omega) fun h D => ?_
  rw [show (st.head - bs.size).toNat = J.length - bs.size by omega, show (st.head - bs.size + bs.size).toNat = J.length by omega, show bs = bs.toList.toArray by simp, cut_list J _ _ (by omega)] at D
  (repeat keq_rows)
  (rename Here _ _ _ _ _ _ _ _ => D)
  refine sp_EndVector (as := { ({ as with nested := true } : AS).aligned 4 with vne := some (some bs.size) }) (n := bs.size) (r := 4) (.of D (by have := congrArg (fun y : AS => { y with vne := some (some (bs.size : Int)) }) a; exact this) (by simp; omega) (by simp; omega) (by simp at e3 ⊢; omega)) (O.mono (by omega)) (Nat.le_refl _) rfl rfl (by omega) (by omega) fun h t D => ?_
  obtain ⟨st, J, a, e1, e2, e3, D⟩ := D
  (repeat keq_rows)
  exact q _ t (.of (back _ _ _ _ _ D) a e1 (Nat.zero_le _) e3)
end
end

-- FD1
section
open PySem PySem.W PySem.Calls PyProof.Rows
section
variable {w : World} {A : Around} {H0 h : Heap} {env : Env} {gs : List Str} {ls : List (Str × Option Value)} {l : List (Addr × Obj)} {b a C S c : Addr} {as : AS} {T : List UInt8} {r n : Nat} {pos p p' : Pos} {x d : Value} {wd : Nat} {raw : List UInt8} {vs : List Value} {s : Str} {bs : Array UInt8} {o : Obj} {kvs : List (Str × Value)}
def AS.str (as : AS) : AS := ({ as with nested := false, vne := some none } : AS).aligned 4
theorem sp_CSS0 {t : Tok} {Q : Value → Heap → Prop} (D : HB w H0 env gs ls b as T r h l) (O : AOk 5 A) (E : EncK s bs) (hz : bs.size ≤ 8) (hn : as.nested = false) (hs : as.ss = none) (hb : T.length ≤ 800)
    (q : ∀ h' t d o, o.IsDictOf (PySem.strKind PySem.Challenge.pw_bp0003_01 w) [(s, .int (strT bs T).length t)] → HB w H0 env gs ls b ({ as with ss := some d } : AS).str (strT bs T) 0 h' ((d, o) :: l) → Q (.int (strT bs T).length t) h') : W w A (call (.ref 436) [.ref b, .str s t]) Q h := by
  obtain ⟨st, J, a, e1, e2, e3, D⟩ := D
  refine W_fn2 D O [("self", .ref b), ("s", .str s t)] ["self", "s"] ["off"] [] (by k_is) (by k_is) (fun _ _ => BindsTo.of_eq rfl) rfl (by decide +kernel) ?_
  intro env A h X O D back
  simp only [startL, List.map_cons, List.map_nil, List.cons_append, List.nil_append] at D
  (repeat keq_rows)
  rw [show st.ss = none by rw [← hs, ← a]; rfl]
  refine W_truthyN ?_
  (repeat keq_rows)
  refine W_DictE D fun h d D => ?_
  have D := D.to2
  (repeat keq_rows)
  (rename Here _ _ _ _ _ _ _ _ => D)
  refine sp_CreateString (as := { as with ss := some d }) (.of D (by rw [← a]; rfl) e1 e2 e3) (O.mono (by omega)) E hz hn hb fun h t D => ?_
  obtain ⟨st, J, a, e1, e2, e3, D⟩ := D
  (repeat keq_rows)
  (rename Here _ _ _ _ _ _ _ _ => D)
  rw [show st.ss = some d by have : st.abs.ss = some d := by rw [a]; rfl
                             exact this]
  refine W_setDict D.fr2 dictE_of (by simp) fun h o D ho => ?_
  have D := D.to2
  (repeat keq_rows)
  exact q _ t d o ho (.of (back _ _ _ _ _ D.sw2) a e1 e2 e3)
theorem sp_CSS1 {t : Tok} {d : Addr} {Q : Value → Heap → Prop} (D : HB w H0 env gs ls b as T r h ((d, o) :: l)) (O : AOk 5 A) (E : EncK s bs) (hz : bs.size ≤ 8) (hn : as.nested = false) (hs : as.ss = some d) (hb : T.length ≤ 800) (ho : o.IsDictOf (PySem.strKind PySem.Challenge.pw_bp0003_01 w) kvs) (hk : kvs.isEmpty = false) (hkz : kvs.length ≤ 100)
    (q1 : ∀ v, valueAt kvs s = some v → ∀ h', HB w H0 env gs ls b as T 0 h' ((d, o) :: l) → Q v h')
    (q2 : valueAt kvs s = none → ∀ h' t o', HB w H0 env gs ls b as.str (strT bs T) 0 h' ((d, o') :: l) → Q (.int (strT bs T).length t) h') : W w A (call (.ref 436) [.ref b, .str s t]) Q h := by
  obtain ⟨st, J, a, e1, e2, e3, D⟩ := D
  refine W_fn3 D O [("self", .ref b), ("s", .str s t)] ["self", "s"] ["off"] [] (by k_is) (by k_is) (fun _ _ => BindsTo.of_eq rfl) rfl (by decide +kernel) ?_
  intro env A h X O D back
  simp only [startL, List.map_cons, List.map_nil, List.cons_append, List.nil_append] at D
  (repeat keq_rows)
  rw [show st.ss = some d by rw [← hs, ← a]; rfl]
  refine W_dictTruthy (d := d) D (.tail _ (.tail _ (.head _))) ho (by omega) ?_
  rw [hk, Bool.not_false]
  (repeat keq_rows)
  rw [show st.ss = some d by rw [← hs, ← a]; rfl]
  refine W_inDict (d := d) D (.tail _ (.tail _ (.head _))) ho ?_
  (repeat keq_rows)
  cases hv : valueAt kvs s with
  | some v =>
    refine ite_t ?_
    (repeat keq_rows)
    refine W_Subscript ?_
    (repeat keq_rows)
    rw [show st.ss = some d by rw [← hs, ← a]; rfl]
    have hdc : h.get? d = some o := D.led.own _ (.tail _ (.tail _ (.head _)))
    obtain ⟨es, ep, hx, _⟩ := id ho
    refine W_looks (looks_gip hdc hx.1 slot_dict_getitem.lookup) ?_
    refine W_operate (W_getDict (d := d) D (.tail _ (.tail _ (.head _))) ho hv (W_letGo ?_))
    exact q1 v hv _ (.of (back _ _ _ _ _ _ D) a e1 (Nat.zero_le _) e3)
  | none =>
    refine ite_f ?_
    (repeat keq_rows)
    (rename Here _ _ _ _ _ _ _ _ => D)
    refine sp_CreateString (.of D a e1 e2 e3) (O.mono (by omega)) E hz hn hb fun h t D => ?_
    obtain ⟨st, J, a, e1, e2, e3, D⟩ := D
    (repeat keq_rows)
    (rename Here _ _ _ _ _ _ _ _ => D)
    rw [show st.ss = some d by have : st.abs.ss = as.ss := by rw [a]; rfl
                               exact this.trans hs]
    refine W_setDict D.fr2 ho (by omega) fun h o D ho => ?_
    have D := D.to2
    (repeat keq_rows)
    exact q2 hv _ t o (.of (back _ _ _ _ _ _ D) a e1 e2 e3)
end
end

-- FBN
section
open PySem PySem.W PySem.Calls PyProof.Rows Builtin
section
variable {w : World} {A : Around} {h : Heap} {env : Env} {H0 : Heap} {gs : List Str} {ls : List (Str × Option Value)} {l : List (Addr × Obj)} {pos p apos : Pos} {C : Addr} {K : Frag} {name : Str}
theorem W_thenP {t : Sem Flow} {rest : List Stmt} {Q : Flow → Heap → Prop} (P : Heap → Prop) (x : W w A t (fun f h' => f = .next ∧ P h') h) (y : ∀ h', P h' → W w A (execs rest env) Q h') : W w A t (Then w A rest env Q) h :=
  W_mono x fun f h' z => by obtain ⟨rfl, z⟩ := z; exact y _ z
theorem W_methCls {pl : Sem Bool} {Q : Value × List Value → Heap → Prop} (X : K.In h) (hg : specialIn K (.ref C) "__getattribute__" = some (some (.builtin "type.__getattribute__"))) (x : W w A (getAttr (.ref C) name) (fun v h' => Q (v, []) h') h) : W w A (getMethod (.ref C) name pl) Q h := by
  unfold getMethod
  refine W_bind (W_looks (looks_specialIn X hg) ?_)
  dsimp only
  rw [if_pos canon_tga]
  exact W_bind (W_mono x fun v h' y => W_pure y)
/-- a class that keeps int as py_type -/
structure PyK (K : Frag) (x : Str) (C : Addr) : Prop where
  g : nsIn K mainGlobals x = some (some (.ref C))
  rd : readsIn K C (.type "type") = true
  sp : specialIn K (.ref C) "__getattribute__" = some (some (.builtin "type.__getattribute__"))
  me : findIn K (.type "type") "py_type" = some none
  py : findIn K (.ref C) "py_type" = some (some (.type "int"))
theorem W_pyInt {x : Str} {e : Expr} {Q : Value → Heap → Prop} (D : Here K w H0 env gs ls h l) (hx : x ∈ gs) (P : PyK K x C)
    (y : W w A (eval e env) (fun v h₁ => ∃ i t, v = .int i t ∧ Q (.int i t) h₁) h)
    (hf : methodCallForm ([e].length + ([] : List Keyword).length) (backTo pos (starEach [e] env)) (backToKw pos (keywordEach [] env)) = true := by rfl) (hl : (apos.endLine == pos.line) = true := by rfl)
    (he : starEach [e] env = [(false, eval e env)] := by rfl) :
    W w A (eval (.Call (.Attribute (.Name x p) "py_type" apos) [e] [] pos) env) Q h := by
  refine W_CallAttr (W_global D hx P.g (W_methCls D.kin P.sp (W_clsInt D.kin P.rd P.me P.py (by decide) ?_))) rfl hf hl
  refine W_callWith (W_argsPlain (W_sp1 (W_mono y fun v h₁ z => W_sp0 ?_) he) he)
  obtain ⟨i, t, rfl, z⟩ := z
  exact ⟨⟨.machine, Looks.of_pure rfl⟩, W_intOf z⟩
theorem pk_U (w : World) : PyK (hd.heap_39 w.params) "UOffsetTFlags" 208 := ⟨glob_UOffsetTFlags w, reads_UOffsetTFlags w, by k_is, py_meta w, py_UOffsetTFlags w⟩
theorem pk_S (w : World) : PyK (hd.heap_39 w.params) "SOffsetTFlags" 196 := ⟨glob_SOffsetTFlags w, reads_SOffsetTFlags w, by k_is, py_meta w, py_SOffsetTFlags w⟩
theorem pk_V (w : World) : PyK (hd.heap_39 w.params) "VOffsetTFlags" 220 := ⟨glob_VOffsetTFlags w, reads_VOffsetTFlags w, by k_is, py_meta w, py_VOffsetTFlags w⟩
end
end

-- FD2
section
open PySem PySem.W PySem.Calls PyProof.Rows
section
variable {w : World} {A : Around} {H0 h : Heap} {env : Env} {gs : List Str} {ls : List (Str × Option Value)} {l : List (Addr × Obj)} {b a C S c V : Addr} {as : AS} {T : List UInt8} {r n : Nat} {pos p p' : Pos} {x d : Value} {wd : Nat} {raw : List UInt8} {vs : List Value} {ns : List Int}
/-- ints all -/
def AllInt (w : World) (vs : List Value) : Prop := ∃ ks, PySem.ItemsAre (intKind PySem.Challenge.pw_bp0003_01 w) ks vs
theorem is_int (i : Int) (t : Tok) : (intKind PySem.Challenge.pw_bp0003_01 w).is i (.int i t) = true := by simp [intKind, Value.isInt]
theorem AllInt.nil : AllInt w [] := ⟨[], .nil⟩
theorem AllInt.snoc {i : Int} {t : Tok} : ∀ {vs : List Value}, AllInt w vs → AllInt w (vs ++ [.int i t])
  | [], _ => ⟨[i], .cons (is_int i t) .nil⟩
  | v :: vs, ⟨ks, hk⟩ => by
    cases hk with
    | cons a b =>
      obtain ⟨k2, h2⟩ := AllInt.snoc (i := i) (t := t) ⟨_, b⟩
      exact ⟨_, .cons a h2⟩
/-- the list holds the ints -/
def IL (vs : List Value) (ns : List Int) : Prop := vs.length = ns.length ∧ ∀ (i : Nat) (n : Int), ns[i]? = some n → ∃ t, vs[i]? = some (.int n t)
theorem IL.item (H : IL vs ns) {i : Nat} (hi : i < vs.length) : ∃ n t, ns[i]? = some n ∧ vs[i]? = some (.int n t) := by
  have h2 : i < ns.length := H.1 ▸ hi
  obtain ⟨t, ht⟩ := H.2 i _ (List.getElem?_eq_getElem h2)
  exact ⟨_, t, List.getElem?_eq_getElem h2, ht⟩
theorem then_cont {rest : List Stmt} {Q : Flow → Heap → Prop} (x : Q .cont h) : Then w A rest env Q .cont h := x

def vput (off : Int) (T : List UInt8) : List UInt8 := (encI 2 off).toList ++ padT 2 0 T
theorem vput_lt {off : Int} {T : List UInt8} : (vput off T).length ≤ T.length + 9 := by
  have := padT_lt (T := T) (add := 0) (size := 2) (by unfold isW; omega)
  unfold vput
  rw [List.length_append, enc_len]; omega
theorem vput_ge {off : Int} {T : List UInt8} : T.length ≤ (vput off T).length := by
  unfold vput
  rw [List.length_append, padT_len]; omega
/-- the offsets of a table, laid from the last slot on: how many trail, and what stands then -/
def vloop (oo : Int) : List Int → Bool → Int → List UInt8 → Int × List UInt8
  | [], _, tr, T => (tr, T)
  | e :: r, trim, tr, T => if e = 0 then (if trim then vloop oo r true (tr + 1) T else vloop oo r false tr (vput 0 T)) else vloop oo r false tr (vput (oo - e) T)
def objT1 (T : List UInt8) : List UInt8 := (encI 4 ((padT 4 0 T).length - 0 + 4)).toList ++ padT 4 0 T
def objT4 (oe0 : Int) (ns : List Int) (T : List UInt8) : List UInt8 :=
  vput ((ns.length - (vloop (objT1 T).length ns.reverse true 0 (objT1 T)).1 + 2) * 2) (vput ((objT1 T).length - oe0) (vloop (objT1 T).length ns.reverse true 0 (objT1 T)).2)
/-- a table, ended -/
def objT (oe0 : Int) (ns : List Int) (T : List UInt8) : List UInt8 :=
  (objT4 oe0 ns T).take ((objT4 oe0 ns T).length - (objT1 T).length) ++ (encI 4 ((objT4 oe0 ns T).length - (objT1 T).length)).toList ++ (objT4 oe0 ns T).drop ((objT4 oe0 ns T).length - (objT1 T).length + 4)
theorem aligned_id {as : AS} {k : Int} (h : k ≤ as.ma) : as.aligned k = as := by
  unfold AS.aligned
  rw [Int.max_eq_left h]
theorem sp_OffsetD {st : BS} {J : List UInt8} {Q : Value → Heap → Prop} (D : Here (hd.heap_39 w.params) w H0 env gs ls h ((b, bobj st) :: (st.B, baO (J ++ T).toArray) :: l)) (c : st.head = (J.length : Int)) (e : J.length + T.length ≤ 4096) (O : AOk 1 A)
    (q : ∀ h' t, Here (hd.heap_39 w.params) w H0 env gs ls h' ((b, bobj st) :: (st.B, baO (J ++ T).toArray) :: l) → Q (.int (T.length : Int) t) h') : W w A (call (.ref 386) [.ref b]) Q h := by
  refine W_fn2 D O [("self", .ref b)] ["self"] [] ["len"] (by k_is) (by k_is) (fun _ _ => BindsTo.of_eq rfl) rfl (by decide +kernel) ?_
  intro env A h X O D back
  simp only [startL, List.map_cons, List.map_nil, List.cons_append, List.nil_append] at D
  (repeat keq_rows)
  refine W_lenBA D.at1 (by simp; rw [sizeLine_eq]; omega) fun t => ?_
  (repeat keq_rows)
  rw [sz, c, show (J.length : Int) + T.length - J.length = T.length by omega]
  exact q _ _ (back _ _ _ _ _ D)
theorem patch (J T : List UInt8) (raw : List UInt8) (p : Nat) (k : Int) (hk : k.toNat = J.length + p) (hp : p + raw.length ≤ T.length) : plc (J ++ T).toArray k.toNat raw.toArray = (J ++ (T.take p ++ raw ++ T.drop (p + raw.length))).toArray := by
  have e : J ++ T = (J ++ T.take p) ++ (T.drop p).take raw.length ++ T.drop (p + raw.length) := by
    rw [List.append_assoc, List.append_assoc, ← List.drop_drop, List.take_append_drop, List.take_append_drop]
  rw [hk]
  conv => lhs; rw [e]
  rw [plc_split _ _ _ _ _ (by rw [List.length_append, List.length_take]; omega) (by simp; omega)]
  simp
set_option maxHeartbeats 8000000 in
theorem sp_WriteVtable {oe0 : Int} {Q : Value → Heap → Prop} (D : HB w H0 env gs ls b as T r h ((c, lstO vs n) :: (V, dictE) :: l)) (O : AOk 6 A) (hc : as.cv = some c) (hV : as.vt = V) (ho : as.oe = some oe0) (H : IL vs ns) (hns : ∀ e ∈ ns, 0 ≤ e ∧ e ≤ T.length) (ho0 : 0 ≤ oe0) (ho1 : oe0 ≤ T.length) (hb : T.length ≤ 700) (hv : vs.length ≤ 10)
    (q : ∀ h' t, HB w H0 env gs ls b { as.aligned 4 with cv := none } (objT oe0 ns T) 0 h' l → Q (.int (objT1 T).length t) h') : W w A (call (.ref 358) [.ref b]) Q h := by
  obtain ⟨st, J, a, e1, e2, e3, D⟩ := D
  refine W_fn4 D O [("self", .ref b)] ["self"] ["objectOffset", "vtKey", "trim", "elem", "objectSize", "vt2Offset", "i", "trailing", "off", "vBytes", "objectStart"] ["reversed", "UOffsetTFlags", "tuple", "len", "VOffsetTFlags", "VtableMetadataFields", "SOffsetTFlags", "Write", "soffset"] (by k_is) (by k_is) (fun _ _ => BindsTo.of_eq rfl) rfl (by decide +kernel) ?_
  intro env A h X O D back
  simp only [startL, List.map_cons, List.map_nil, List.cons_append, List.nil_append] at D
  (repeat keq_rows)
  have hp := padT_lt (T := T) (add := 0) (size := 4) (by unfold isW; omega)
  refine sp_PrependS (.of D a e1 e2 e3) (O.mono (by omega)) (by omega) (by omega) (by omega) fun h D => ?_
  change HB w H0 env _ _ b _ (objT1 T) _ h _ at D
  generalize hT1 : objT1 T = T1 at D
  have hl1 : T1.length = 4 + (padT 4 0 T).length := by rw [← hT1, objT1, List.length_append, enc_len]
  have hl2 : T.length ≤ (padT 4 0 T).length := by rw [padT_len]; omega
  obtain ⟨st, J, a, e1, e2, e3, D⟩ := D
  (repeat keq_rows)
  refine sp_Offset (.of D a e1 e2 e3) (O.mono (by omega)) fun h t1 D => ?_
  obtain ⟨st, J, a, e1, e2, e3, D⟩ := D
  (repeat keq_rows)
  (rename Here _ _ _ _ _ _ _ _ => D)
  refine W_ListD D ?_
  (repeat keq_rows)
  refine ⟨by rw [sizeLine_eq]; simp, _, D, fun h K D => ?_⟩
  have D := D.to4
  (repeat keq_rows)
  (rename Here _ _ _ _ _ _ _ _ => D)
  have hcv : st.cv = some c := (congrArg AS.cv a).trans hc
  refine W_thenP (fun h => ∃ (tv : Bool) (ev : Option Value) (vks : List Value) (nk : Nat), Here (hd.heap_39 w.params) w H0 env ["reversed", "UOffsetTFlags", "tuple", "len", "VOffsetTFlags", "VtableMetadataFields", "SOffsetTFlags", "Write", "soffset"]
      [("self", some (.ref b)), ("objectOffset", some (.int T1.length t1)), ("vtKey", some (.ref K)), ("trim", some (.bool tv)), ("elem", ev), ("objectSize", none), ("vt2Offset", none), ("i", none), ("trailing", none), ("off", none), ("vBytes", none), ("objectStart", none)] h
      ((K, lstO vks nk) :: (b, bobj st) :: (st.B, baO (J ++ T1).toArray) :: (c, lstO vs n) :: (V, dictE) :: X :: l) ∧ AllInt w vks ∧ vks.length ≤ 13) ?_ ?_
  · refine W_For ?_
    (repeat keq_rows)
    rw [hcv]
    refine W_reversed D (a := c) (vs := vs) (n := n) (D.led.own _ (.tail _ (.tail _ (.head _)))) fun h it o D hit => ?_
    refine W_iterRev D.at0 hit ?_
    refine WC_forInd (fun m h => ∃ (o : Obj) (i : Int) (tv : Bool) (ev : Option Value) (vks : List Value) (nk : Nat), Here (hd.heap_39 w.params) w H0 env ["reversed", "UOffsetTFlags", "tuple", "len", "VOffsetTFlags", "VtableMetadataFields", "SOffsetTFlags", "Write", "soffset"]
        [("self", some (.ref b)), ("objectOffset", some (.int T1.length t1)), ("vtKey", some (.ref K)), ("trim", some (.bool tv)), ("elem", ev), ("objectSize", none), ("vt2Offset", none), ("i", none), ("trailing", none), ("off", none), ("vBytes", none), ("objectStart", none)] h
        ((it, o) :: (K, lstO vks nk) :: (b, bobj st) :: (st.B, baO (J ++ T1).toArray) :: (c, lstO vs n) :: (V, dictE) :: X :: l) ∧ RIt o c i ∧ -1 ≤ i ∧ i < vs.length ∧ m = (i + 1).toNat ∧ AllInt w vks ∧ vks.length + i ≤ 12) ?_ ⟨_, o, _, true, none, [], 0, D.perm ?_, hit, by omega, by omega, rfl, .nil, by simp; omega⟩
    · rintro m h ⟨o, i, tv, ev, vks, nk, D, hit, i0, i1, rfl, hA, hz⟩
      by_cases hi : i = -1
      · subst hi
        refine W_endRev O D hit fun h D => ?_
        exact ⟨rfl, tv, ev, vks, nk, D, hA, by omega⟩
      · obtain ⟨j, rfl⟩ : ∃ j : Nat, i = j := ⟨i.toNat, by omega⟩
        obtain ⟨e, te, hne, hve⟩ := H.item (i := j) (by omega)
        refine W_nextRev D hit (D.led.own _ (.tail _ (.tail _ (.tail _ (.tail _ (.head _)))))) hve fun h o D hit => ?_
        dsimp only
        (repeat keq_rows)
        by_cases he : e = 0
        · rw [if_pos (by simpa using he)]
          (repeat keq_rows)
          cases tv with
          | true =>
            (repeat keq_rows)
            repeat refine then_cont ?_
            (rename Here _ _ _ _ _ _ _ _ => D)
            exact ⟨.inr rfl, _, by omega, o, _, true, _, _, nk, D, hit, by omega, by omega, rfl, hA, by omega⟩
          | false =>
            (repeat keq_rows)
            (rename Here _ _ _ _ _ _ _ _ => D)
            refine W_CallAttr (W_local D (by repeat (first | with_reducible exact List.mem_cons_self | with_reducible refine List.mem_cons_of_mem _ ?_)) (W_lappendMeth (D.led.own _ (.tail _ (.head _))) ?_)) rfl rfl rfl
            refine W_callWith (W_argsPlain ?_ rfl)
            (repeat keq_rows)
            refine ⟨⟨.machine, Looks.of_pure rfl⟩, ?_⟩
            refine W_lappend D.swap (by rw [sizeLine_eq]; omega) fun h nk D => ?_
            have D := D.swap
            (repeat keq_rows)
            exact ⟨.inl rfl, _, by omega, o, _, _, _, _, nk, D, hit, by omega, by omega, rfl, hA.snoc, by rw [List.length_append, List.length_singleton]; omega⟩
        · rw [if_neg (by simpa using he)]
          (repeat keq_rows)
          (rename Here _ _ _ _ _ _ _ _ => D)
          refine W_CallAttr (W_local D (by repeat (first | with_reducible exact List.mem_cons_self | with_reducible refine List.mem_cons_of_mem _ ?_)) (W_lappendMeth (D.led.own _ (.tail _ (.head _))) ?_)) rfl rfl rfl
          refine W_callWith (W_argsPlain ?_ rfl)
          (repeat keq_rows)
          refine ⟨⟨.machine, Looks.of_pure rfl⟩, ?_⟩
          refine W_lappend D.swap (by rw [sizeLine_eq]; omega) fun h nk D => ?_
          have D := D.swap
          (repeat keq_rows)
          exact ⟨.inl rfl, _, by omega, o, _, _, _, _, nk, D, hit, by omega, by omega, rfl, hA.snoc, by rw [List.length_append, List.length_singleton]; omega⟩
    · exact .cons _ (List.perm_middle (l₁ := [_, _, _, _]))
  · rintro h ⟨tv, ev, vks, nk, D, hA, hz⟩
    have D := D.to4
    (repeat keq_rows)
    refine W_pyInt D (by repeat (first | with_reducible exact List.mem_cons_self | with_reducible refine List.mem_cons_of_mem _ ?_)) (pk_U w) ?_
    (repeat keq_rows)
    obtain ⟨to, hoe⟩ : ∃ to, st.oe = some (oe0, to) := by
      have h1 : st.oe.map (·.1) = some oe0 := by rw [← ho]; exact congrArg AS.oe a
      cases hq : st.oe with
      | none => rw [hq] at h1; cases h1
      | some z => obtain ⟨z1, z2⟩ := z; rw [hq] at h1; simp at h1; subst h1; exact ⟨z2, rfl⟩
    rw [hoe]
    dsimp only [vInt]
    (repeat keq_rows)
    refine ⟨_, _, rfl, ?_⟩
    (repeat keq_rows)
    (rename Here _ _ _ _ _ _ _ _ => D)
    refine W_CallAttr (W_local D (by repeat (first | with_reducible exact List.mem_cons_self | with_reducible refine List.mem_cons_of_mem _ ?_)) (W_lappendMeth (D.led.own _ (.tail _ (.tail _ (.tail _ (.tail _ (.head _)))))) ?_)) rfl rfl rfl
    refine W_callWith (W_argsPlain ?_ rfl)
    (repeat keq_rows)
    refine ⟨⟨.machine, Looks.of_pure rfl⟩, ?_⟩
    refine W_lappend D.fr4 (by rw [sizeLine_eq]; omega) fun h nk D => ?_
    have hA := fun t => hA.snoc (i := T1.length - oe0) (t := t)
    (repeat keq_rows)
    refine W_tupleOf D D.at0 (by rw [sizeLine_eq, List.length_append, List.length_singleton]; omega) fun h tk D => ?_
    have D := D.drop1.to4
    (repeat keq_rows)
    (rename Here _ _ _ _ _ _ _ _ => D)
    refine W_CallAttr ?_ rfl rfl rfl
    (repeat keq_rows)
    have hvt : st.vt = V := (congrArg AS.vt a).trans hV
    rw [hvt]
    refine W_getMeth (D.led.own _ (.tail _ (.tail _ (.tail _ (.head _))))) ?_
    refine W_callWith (W_argsPlain ?_ rfl)
    (repeat keq_rows)
    refine ⟨⟨.machine, Looks.of_pure rfl⟩, ?_⟩
    refine W_getTup O D (.tail _ (.tail _ (.tail _ (.head _)))) (D.led.own _ (.tail _ (.tail _ (.tail _ (.tail _ (.head _)))))) (hA _).choose_spec ?_
    (repeat keq_rows)
    rw [show (Value.none == Value.none) = true from rfl]
    (repeat keq_rows)
    (rename Here _ _ _ _ _ _ _ _ => D)
    rw [hcv]
    refine W_llen (D.led.own _ (.tail _ (.tail _ (.head _)))) (by rw [sizeLine_eq]; omega) fun tl => ?_
    (repeat keq_rows)
    (rename Here _ _ _ _ _ _ _ _ => D)
    generalize htv : vks ++ [Value.int (T1.length - oe0) _] = tvs at D
    have hB : AllInt w tvs := htv ▸ hA _
    clear hA htv
    generalize hfin : vloop T1.length ns.reverse true 0 T1 = fin
    refine W_thenP (fun h => ∃ (st : BS) (J T' : List UInt8) (i tr : Int) (tv : Bool) (ev ov : Option Value) (ti tt tos : Tok), Here (hd.heap_39 w.params) w H0 env ["reversed", "UOffsetTFlags", "tuple", "len", "VOffsetTFlags", "VtableMetadataFields", "SOffsetTFlags", "Write", "soffset"]
        [("self", some (.ref b)), ("objectOffset", some (.int T1.length t1)), ("vtKey", some (.ref tk)), ("trim", some (.bool tv)), ("elem", ev), ("objectSize", some (.int (T1.length - oe0) tos)), ("vt2Offset", some .none), ("i", some (.int i ti)), ("trailing", some (.int tr tt)), ("off", ov), ("vBytes", none), ("objectStart", none)] h
        ((b, bobj st) :: (st.B, baO (J ++ T').toArray) :: (c, lstO vs n) :: (V, dictE) :: (tk, tupO tvs) :: X :: l) ∧ st.abs = as.aligned 4 ∧ st.head = (J.length : Int) ∧ J.length + T'.length ≤ 4096 ∧ 0 ≤ tr ∧ tr ≤ vs.length ∧ T'.length ≤ T1.length + 9 * vs.length ∧ T1.length ≤ T'.length ∧ (tr, T') = fin) ?_ ?_
    · refine W_While (WC_whileInd (fun m h => ∃ (st : BS) (J T' : List UInt8) (i tr : Int) (tv : Bool) (ev ov : Option Value) (ti tt tos : Tok), Here (hd.heap_39 w.params) w H0 env ["reversed", "UOffsetTFlags", "tuple", "len", "VOffsetTFlags", "VtableMetadataFields", "SOffsetTFlags", "Write", "soffset"]
          [("self", some (.ref b)), ("objectOffset", some (.int T1.length t1)), ("vtKey", some (.ref tk)), ("trim", some (.bool tv)), ("elem", ev), ("objectSize", some (.int (T1.length - oe0) tos)), ("vt2Offset", some .none), ("i", some (.int i ti)), ("trailing", some (.int tr tt)), ("off", ov), ("vBytes", none), ("objectStart", none)] h
          ((b, bobj st) :: (st.B, baO (J ++ T').toArray) :: (c, lstO vs n) :: (V, dictE) :: (tk, tupO tvs) :: X :: l) ∧ st.abs = as.aligned 4 ∧ st.head = (J.length : Int) ∧ J.length + T'.length ≤ 4096 ∧ -1 ≤ i ∧ i < vs.length ∧ m = (i + 1).toNat ∧ 0 ≤ tr ∧ tr + i + 1 ≤ vs.length ∧
          T'.length + 9 * (i + 1) ≤ T1.length + 9 * vs.length ∧ T1.length ≤ T'.length ∧ vloop T1.length ((ns.take (i + 1).toNat).reverse) tv tr T' = fin) ?_
          ⟨_, st, J, T1, _, 0, true, _, _, _, _, _, D, a, e1, e3, by omega, by omega, rfl, by omega, by omega, by omega, Nat.le_refl _, by rw [List.take_of_length_le (by have := H.1; omega)]; exact hfin⟩)
      clear D a e1 e2 e3
      rintro m h ⟨st, J, T', i, tr, tv, ev, ov, ti, tt, tos, D, a, e1, e3, i0, i1, rfl, r0, r1, z1, z2, hvl⟩
      (repeat keq_rows)
      by_cases hi : 0 ≤ i
      · rw [if_pos (by simpa using hi)]
        obtain ⟨j, rfl⟩ := Int.eq_ofNat_of_zero_le hi
        obtain ⟨e, te, hne, hve⟩ := H.item (i := j) (by omega)
        have hcv : st.cv = some c := (congrArg AS.cv a).trans hc
        have he2 := hns e (List.mem_of_getElem? hne)
        rw [show ((j : Int) + 1).toNat = j + 1 by omega, List.take_add_one, hne, Option.toList_some, List.reverse_append, List.reverse_singleton, List.singleton_append] at hvl
        (repeat keq_rows)
        refine W_Subscript ?_
        (repeat keq_rows)
        (rename Here _ _ _ _ _ _ _ _ => D)
        rw [hcv]
        have hlc := D.led.own (c, lstO vs n) (.tail _ (.tail _ (.head _)))
        refine W_looks (looks_gip (a := c) hlc rfl slot_list_getitem.lookup) ?_
        refine W_operate (W_lget (a := c) hlc (by omega) (by omega) hve (W_letGo ?_))
        (repeat keq_rows)
        rw [vloop] at hvl
        by_cases he : e = 0
        · rw [if_pos (by simpa using he)]
          rw [if_pos he] at hvl
          (repeat keq_rows)
          cases tv with
          | true =>
            (repeat keq_rows)
            repeat refine then_cont ?_
            (rename Here _ _ _ _ _ _ _ _ => D)
            rw [if_pos rfl] at hvl
            refine ⟨.inr rfl, _, ?_, st, J, T', _, _, true, _, _, _, _, tos, D, a, e1, e3, ?_, ?_, rfl, ?_, ?_, ?_, z2, ?_⟩
            case refine_7 => rw [show ((j : Int) - 1 + 1).toNat = j by omega]; exact hvl
            all_goals omega
          | false =>
            (repeat keq_rows)
            (rename Here _ _ _ _ _ _ _ _ => D)
            rw [if_neg (by decide)] at hvl
            refine sp_PrependVOffsetT (.of D a e1 (Nat.zero_le _) e3) (O.mono (by omega)) (fit_V (by omega) (by omega)) (by unfold isW; omega) (by omega) fun h D => ?_
            have hv9 := vput_lt (off := 0) (T := T')
            have hv8 := vput_ge (off := 0) (T := T')
            rw [aligned_id (by show (2 : Int) ≤ max as.ma 4; omega)] at D
            obtain ⟨st, J, a, e1, e2, e3, D⟩ := D
            (repeat keq_rows)
            refine ⟨.inl rfl, _, ?_, st, J, vput 0 T', _, _, false, _, _, _, _, tos, D, a, e1, e3, ?_, ?_, rfl, ?_, ?_, ?_, ?_, ?_⟩
            case refine_8 => rw [show ((j : Int) - 1 + 1).toNat = j by omega]; exact hvl
            all_goals omega
        · rw [if_neg (by simpa using he)]
          rw [if_neg he] at hvl
          (repeat keq_rows)
          (rename Here _ _ _ _ _ _ _ _ => D)
          refine sp_PrependVOffsetT (.of D a e1 (Nat.zero_le _) e3) (O.mono (by omega)) (fit_V (by omega) (by omega)) (by unfold isW; omega) (by omega) fun h D => ?_
          have hv9 := vput_lt (off := (T1.length - e)) (T := T')
          have hv8 := vput_ge (off := (T1.length - e)) (T := T')
          rw [aligned_id (by show (2 : Int) ≤ max as.ma 4; omega)] at D
          obtain ⟨st, J, a, e1, e2, e3, D⟩ := D
          (repeat keq_rows)
          refine ⟨.inl rfl, _, ?_, st, J, vput (T1.length - e) T', _, _, false, _, _, _, _, tos, D, a, e1, e3, ?_, ?_, rfl, ?_, ?_, ?_, ?_, ?_⟩
          case refine_8 => rw [show ((j : Int) - 1 + 1).toNat = j by omega]; exact hvl
          all_goals omega
      · rw [if_neg (by simpa using hi)]
        have hi1 : i = -1 := by omega
        subst hi1
        exact ⟨rfl, st, J, T', -1, tr, tv, ev, ov, ti, tt, tos, D, a, e1, e3, r0, by omega, by omega, z2, by simpa [vloop] using hvl⟩
    · clear D a e1 e2 e3
      rintro h ⟨st, J, T', i, tr, tv, ev, ov, ti, tt, tos, D, a, e1, e3, r0, r1, z1, z2, hvl⟩
      have hcv : st.cv = some c := (congrArg AS.cv a).trans hc
      have hvt : st.vt = V := (congrArg AS.vt a).trans hV
      (repeat keq_rows)
      refine W_pyInt D (by repeat (first | with_reducible exact List.mem_cons_self | with_reducible refine List.mem_cons_of_mem _ ?_)) (pk_V w) ?_
      (repeat keq_rows)
      refine ⟨_, _, rfl, ?_⟩
      (repeat keq_rows)
      refine sp_PrependVOffsetT (.of D a e1 (Nat.zero_le _) e3) (O.mono (by omega)) (fit_V (by omega) (by omega)) (by unfold isW; omega) (by omega) fun h D => ?_
      have hv1 := vput_lt (off := T1.length - oe0) (T := T')
      have hv2 := vput_ge (off := T1.length - oe0) (T := T')
      rw [aligned_id (by show (2 : Int) ≤ max as.ma 4; omega)] at D
      change HB w H0 env _ _ b _ (vput (T1.length - oe0) T') _ h _ at D
      generalize hT3 : vput (T1.length - oe0) T' = T3 at D hv1 hv2
      clear hcv hvt a e1 e3
      obtain ⟨st, J, a, e1, e2, e3, D⟩ := D
      have hcv : st.cv = some c := (congrArg AS.cv a).trans hc
      have hvt : st.vt = V := (congrArg AS.vt a).trans hV
      (repeat keq_rows)
      rw [hcv]
      refine W_llen (D.led.own (c, lstO vs n) (.tail _ (.tail _ (.head _)))) (by rw [sizeLine_eq]; omega) fun tl => ?_
      (repeat keq_rows)
      (rename Here _ _ _ _ _ _ _ _ => D)
      refine W_imul (.of_right (by decide +kernel)) fun tm => ?_
      (repeat keq_rows)
      (rename Here _ _ _ _ _ _ _ _ => D)
      refine W_pyInt D (by repeat (first | with_reducible exact List.mem_cons_self | with_reducible refine List.mem_cons_of_mem _ ?_)) (pk_V w) ?_
      (repeat keq_rows)
      refine ⟨_, _, rfl, ?_⟩
      (repeat keq_rows)
      refine sp_PrependVOffsetT (.of D a e1 (Nat.zero_le _) e3) (O.mono (by omega)) (fit_V (by omega) (by omega)) (by unfold isW; omega) (by omega) fun h D => ?_
      have hv3 := vput_lt (off := (vs.length - tr + 2) * 2) (T := T3)
      have hv4 := vput_ge (off := (vs.length - tr + 2) * 2) (T := T3)
      rw [aligned_id (by show (2 : Int) ≤ max as.ma 4; omega)] at D
      change HB w H0 env _ _ b _ (vput ((vs.length - tr + 2) * 2) T3) _ h _ at D
      generalize hT4 : vput ((vs.length - tr + 2) * 2) T3 = T4 at D hv3 hv4
      clear hcv hvt a e1 e3
      obtain ⟨st, J, a, e1, e2, e3, D⟩ := D
      (repeat keq_rows)
      refine W_pyInt D (by repeat (first | with_reducible exact List.mem_cons_self | with_reducible refine List.mem_cons_of_mem _ ?_)) (pk_S w) ?_
      (repeat keq_rows)
      refine W_lenBA D.at1 (by rw [List.size_toArray, List.length_append, sizeLine_eq]; omega) fun t1 => ?_
      rw [sz]
      (repeat keq_rows)
      refine ⟨_, _, rfl, ?_⟩
      (repeat keq_rows)
      (rename Here _ _ _ _ _ _ _ _ => D)
      refine W_pyInt D (by repeat (first | with_reducible exact List.mem_cons_self | with_reducible refine List.mem_cons_of_mem _ ?_)) (pk_S w) ?_
      (repeat keq_rows)
      refine sp_OffsetD D e1 e3 (O.mono (by omega)) fun h t D => ?_
      (repeat keq_rows)
      refine ⟨_, _, rfl, ?_⟩
      (repeat keq_rows)
      refine sp_Write D.swap (O.mono (by omega)) (struct_59 w) (held_i w 59 (by omega) (by omega)) (by rw [List.size_toArray, List.length_append, sizeLine_eq]; omega) (by omega) (by rw [sz, encI_size]; omega) fun h D => ?_
      have hp4 : (encI 4 (T4.length - T1.length)).toList.length = 4 := enc_len _ _
      rw [show encI 4 (T4.length - T1.length) = (encI 4 (T4.length - T1.length)).toList.toArray by simp, patch J T4 _ (T4.length - T1.length) _ (by omega) (by omega), hp4] at D
      have D := D.swap
      generalize hT5 : T4.take (T4.length - T1.length) ++ (encI 4 (T4.length - T1.length)).toList ++ T4.drop (T4.length - T1.length + 4) = T5 at D
      have hl5 : T5.length = T4.length := by rw [← hT5]; simp only [List.length_append, List.length_take, List.length_drop, hp4]; omega
      (repeat keq_rows)
      refine sp_OffsetD D e1 (by omega) (O.mono (by omega)) fun h t D => ?_
      (repeat keq_rows)
      rw [show st.vt = V from (congrArg AS.vt a).trans hV]
      refine W_setTup O D.fr3 (D.led.own (tk, tupO tvs) (.tail _ (.tail _ (.tail _ (.tail _ (.head _)))))) hB.choose_spec fun h o D => ?_
      have D := D.drop
      (repeat keq_rows)
      (rename Here _ _ _ _ _ _ _ _ => D)
      have hT : T5 = objT oe0 ns T := by
        rw [← hT5, ← hT4, ← hT3]
        unfold objT objT4
        rw [hT1, hfin, ← hvl, H.1]
      rw [hT] at D hl5
      subst hT1
      exact q _ _ (.of (back _ _ _ _ _ _ _ D).drop2.drop2 (by have := congrArg (fun y : AS => { y with cv := none }) a; exact this) e1 (Nat.zero_le _) (by omega))
end
end

-- FD3
section
open PySem PySem.W PySem.Calls PyProof.Rows
section
variable {w : World} {A : Around} {H0 h : Heap} {env : Env} {gs : List Str} {ls : List (Str × Option Value)} {l : List (Addr × Obj)} {b a C S c V : Addr} {as : AS} {T : List UInt8} {r n : Nat} {pos p p' : Pos} {x d : Value} {wd : Nat} {raw : List UInt8} {vs : List Value} {ns : List Int}
theorem sp_EndObject {oe0 : Int} {Q : Value → Heap → Prop} (D : HB w H0 env gs ls b as T r h ((c, lstO vs n) :: (V, dictE) :: l)) (O : AOk 7 A) (hn : as.nested = true) (hc : as.cv = some c) (hV : as.vt = V) (ho : as.oe = some oe0) (H : IL vs ns) (hns : ∀ e ∈ ns, 0 ≤ e ∧ e ≤ T.length) (ho0 : 0 ≤ oe0) (ho1 : oe0 ≤ T.length) (hb : T.length ≤ 700) (hv : vs.length ≤ 10)
    (q : ∀ h' t, HB w H0 env gs ls b { ({ as with nested := false } : AS).aligned 4 with cv := none } (objT oe0 ns T) 0 h' l → Q (.int (objT1 T).length t) h') : W w A (call (.ref 365) [.ref b]) Q h := by
  obtain ⟨st, J, a, e1, e2, e3, D⟩ := D
  refine W_fn D O [("self", .ref b)] ["self"] [] [] (by k_is) (by k_is) (fun _ _ => BindsTo.of_eq rfl) rfl (by decide +kernel) ?_
  intro env A h X O D back
  simp only [startL, List.map_cons, List.map_nil, List.cons_append, List.nil_append] at D
  have D := D.to4
  (repeat keq_rows)
  refine sp_assertNested (.of D a e1 e2 e3) (O.mono (by omega)) hn fun h D => ?_
  obtain ⟨st, J, a, e1, e2, e3, D⟩ := D
  (repeat keq_rows)
  (rename Here _ _ _ _ _ _ _ _ => D)
  refine sp_WriteVtable (as := { as with nested := false }) (.of D (by rw [← a]; rfl) e1 e2 e3) (O.mono (by omega)) hc hV ho H hns ho0 ho1 hb hv fun h t D => ?_
  obtain ⟨st, J, a, e1, e2, e3, D⟩ := D
  exact q _ t (.of (back _ _ _ D.fr2) a e1 e2 e3)
end
end

-- FD4
section
open PySem PySem.W PySem.Calls PyProof.Rows
section
variable {w : World} {A : Around} {H0 h : Heap} {env : Env} {gs : List Str} {ls : List (Str × Option Value)} {l : List (Addr × Obj)} {b a C S c V : Addr} {as : AS} {T : List UInt8} {r n : Nat} {pos p p' : Pos} {x d : Value} {wd : Nat} {raw : List UInt8} {vs : List Value} {ns : List Int}
def relU (root : Int) (T : List UInt8) : List UInt8 := (encI 4 ((padT 4 0 T).length - root + 4)).toList ++ padT 4 0 T
theorem sp_iFinish00 {root : Int} {t : Tok} {Q : Value → Heap → Prop} (D : HB w H0 env gs ls b as T r h l) (O : AOk 5 A) (hm : isW as.ma) (r0 : 0 ≤ root) (r1 : root ≤ T.length) (hb : T.length ≤ 800)
    (q : ∀ h' i t, HB w H0 env gs ls b { (as.aligned as.ma).aligned 4 with fin := true } (relU root (padT as.ma 4 T)) 0 h' l → Q (.int i t) h') : W w A (call (.ref 486) [.ref b, .int root t, .bool false] [("file_identifier", .none)]) Q h := by
  obtain ⟨st, J, a, e1, e2, e3, D⟩ := D
  have hT : (hd.heap_39 w.params).lookup 479 = some { cls := .type "tuple", data := .seq #[.none] } := by k_is
  have hp := padT_lt (T := T) (add := 4) hm
  have hp2 := padT_len as.ma 4 T
  refine W_fn2 D O [("self", .ref b), ("rootTable", .int root t), ("sizePrefix", .bool false), ("file_identifier", .none)] ["self", "rootTable", "sizePrefix", "file_identifier"] ["prepSize", "i", "size"] ["enforce_number", "UOffsetTFlags", "Int32Flags", "FILE_IDENTIFIER_LENGTH", "unpack", "range", "Uint8Flags", "len"] (by k_is) (by k_is) (fun s e => BindsTo.of_defaults rfl (e ▸ D.kin _ _ hT) rfl rfl rfl) rfl (by decide +kernel) ?_
  intro env A h X O D back
  simp only [startL, List.map_cons, List.map_nil, List.cons_append, List.nil_append] at D
  (repeat keq_rows)
  refine sp_enforce D (O.mono (by omega)) (fit_U r0 (by omega)) fun h D => ?_
  (repeat keq_rows)
  rw [show (!Value.none == Value.none) = false from rfl]
  (repeat keq_rows)
  (rename Here _ _ _ _ _ _ _ _ => D)
  rw [show st.ma = as.ma from congrArg AS.ma a]
  refine sp_Prep (.of D a e1 e2 e3) (O.mono (by omega)) hm (by omega) (by omega) fun h D => ?_
  obtain ⟨st, J, a, e1, e2, e3, D⟩ := D
  (repeat keq_rows)
  rw [show (!Value.none == Value.none) = false from rfl]
  (repeat keq_rows)
  refine sp_PrependU (T := padT as.ma 4 T) (.of D a e1 e2 e3) (O.mono (by omega)) r0 (by omega) (by omega) fun h D => ?_
  obtain ⟨st, J, a, e1, e2, e3, D⟩ := D
  (repeat keq_rows)
  (rename Here _ _ _ _ _ _ _ _ => D)
  exact q _ _ _ (.of (back _ _ _ _ _ D) (by have := congrArg (fun y : AS => { y with fin := true }) a; exact this) e1 (Nat.zero_le _) e3)
def markT (T : List UInt8) : List UInt8 := (encI 1 77).toList ++ ((encI 1 65).toList ++ ((encI 1 82).toList ++ ((encI 1 75).toList ++ T)))
theorem sp_iFinish10 {root : Int} {t mt : Tok} {Q : Value → Heap → Prop} (D : HB w H0 env gs ls b as T r h l) (O : AOk 5 A) (hm : isW as.ma) (r0 : 0 ≤ root) (r1 : root ≤ T.length) (hb : T.length ≤ 800)
    (q : ∀ h' i t, HB w H0 env gs ls b { ((as.aligned as.ma).aligned 4).aligned 4 with fin := true } (relU root (markT (padT 4 4 (padT as.ma 8 T)))) 0 h' l → Q (.int i t) h') : W w A (call (.ref 486) [.ref b, .int root t, .bool false] [("file_identifier", .bytes #[77, 65, 82, 75] mt)]) Q h := by
  obtain ⟨st, J, a, e1, e2, e3, D⟩ := D
  have hT : (hd.heap_39 w.params).lookup 479 = some { cls := .type "tuple", data := .seq #[.none] } := by k_is
  have hp := padT_lt (T := T) (add := 8) hm
  have hp2 := padT_len as.ma 8 T
  have hq := padT_lt (T := padT as.ma 8 T) (add := 4) (size := 4) (by unfold isW; omega)
  have hq2 := padT_len 4 4 (padT as.ma 8 T)
  refine W_fn2 D O [("self", .ref b), ("rootTable", .int root t), ("sizePrefix", .bool false), ("file_identifier", .bytes #[77, 65, 82, 75] mt)] ["self", "rootTable", "sizePrefix", "file_identifier"] ["prepSize", "i", "size"] ["enforce_number", "UOffsetTFlags", "Int32Flags", "FILE_IDENTIFIER_LENGTH", "unpack", "range", "Uint8Flags", "len"] (by k_is) (by k_is) (fun s e => BindsTo.of_defaults rfl (e ▸ D.kin _ _ hT) rfl rfl rfl) rfl (by decide +kernel) ?_
  intro env A h X O D back
  simp only [startL, List.map_cons, List.map_nil, List.cons_append, List.nil_append] at D
  (repeat keq_rows)
  refine sp_enforce D (O.mono (by omega)) (fit_U r0 (by omega)) fun h D => ?_
  (repeat keq_rows)
  rw [show (!(Value.bytes #[77, 65, 82, 75] mt) == Value.none) = true from rfl]
  (repeat keq_rows)
  (rename Here _ _ _ _ _ _ _ _ => D)
  rw [show st.ma = as.ma from congrArg AS.ma a]
  refine sp_Prep (.of D a e1 e2 e3) (O.mono (by omega)) hm (by omega) (by omega) fun h D => ?_
  obtain ⟨st, J, a, e1, e2, e3, D⟩ := D
  (repeat keq_rows)
  rw [show (!(Value.bytes #[77, 65, 82, 75] mt) == Value.none) = true from rfl]
  (repeat keq_rows)
  refine sp_Prep (T := padT as.ma 8 T) (.of D a e1 e2 e3) (O.mono (by omega)) (by unfold isW; omega) (by omega) (by omega) fun h D => ?_
  obtain ⟨st, J, a, e1, e2, e3, D⟩ := D
  (repeat keq_rows)
  refine W_CallName (W_global D (by repeat (first | with_reducible exact List.mem_cons_self | with_reducible refine List.mem_cons_of_mem _ ?_)) (glob_unpack w) ?_)
  refine W_callWith (W_argsPlain ?_ rfl)
  (repeat keq_rows)
  refine ⟨⟨.machine, Looks.of_pure rfl⟩, ?_⟩
  refine W_unpack fun t1 t2 t3 t4 => ?_
  have D := (D.alloc (o := tupO [.int 77 t1, .int 65 t2, .int 82 t3, .int 75 t4]) rfl).to2
  (repeat keq_rows)
  (rename Here _ _ _ _ _ _ _ _ => D)
  generalize hfid : (Heap.objs _).size = fid at D
  refine W_thenP (fun h => ∃ (st : BS) (J : List UInt8) (iv : Option Value) (tp : Tok), Here (hd.heap_39 w.params) w H0 env ["enforce_number", "UOffsetTFlags", "Int32Flags", "FILE_IDENTIFIER_LENGTH", "unpack", "range", "Uint8Flags", "len"] [("self", some (.ref b)), ("rootTable", some (.int root t)), ("sizePrefix", some (.bool false)), ("file_identifier", some (.ref fid)), ("prepSize", some (.int (4 + 4) tp)), ("i", iv), ("size", none)] h
    ((b, bobj st) :: (st.B, baO (J ++ markT (padT 4 4 (padT as.ma 8 T))).toArray) :: X :: l) ∧ st.abs = (as.aligned as.ma).aligned 4 ∧ st.head = (J.length : Int) ∧ J.length + (markT (padT 4 4 (padT as.ma 8 T))).length ≤ 4096) ?_ ?_
  · refine W_For ?_
    (repeat keq_rows)
    (rename Here _ _ _ _ _ _ _ _ => D)
    refine W_range3 D (by decide) (by decide) fun h rg u1 u2 u3 D => ?_
    refine W_iterRange D (by decide) fun h it D => ?_
    refine WC_for (W_nextRange D (by decide) fun h ti D => ?_)
    have D := D.to3
    dsimp only
    (repeat keq_rows)
    (rename Here _ _ _ _ _ _ _ _ => D)
    refine W_Subscript ?_
    (repeat keq_rows)
    have htp := D.led.own (fid, tupO [.int 77 t1, .int 65 t2, .int 82 t3, .int 75 t4]) (.tail _ (.tail _ (.head _)))
    refine W_looks (looks_gip (a := fid) htp rfl slot_tuple_getitem.lookup) ?_
    refine W_operate (W_tget (a := fid) htp (by decide) (by decide) rfl (W_letGo ?_))
    (repeat keq_rows)
    refine sp_Place (.of D a e1 e2 e3) (O.mono (by omega)) (fit_B (by omega) (by omega)) (by omega) fun h D => ?_
    obtain ⟨st, J, a, e1, e2, e3, D⟩ := D
    (repeat keq_rows)
    refine turn_next ?_
    (rename Here _ _ _ _ _ _ _ _ => D)
    have D := D.fr3
    refine WC_for (W_nextRange D (by decide) fun h ti D => ?_)
    have D := D.to3
    dsimp only
    (repeat keq_rows)
    (rename Here _ _ _ _ _ _ _ _ => D)
    refine W_Subscript ?_
    (repeat keq_rows)
    have htp := D.led.own (fid, tupO [.int 77 t1, .int 65 t2, .int 82 t3, .int 75 t4]) (.tail _ (.tail _ (.head _)))
    refine W_looks (looks_gip (a := fid) htp rfl slot_tuple_getitem.lookup) ?_
    refine W_operate (W_tget (a := fid) htp (by decide) (by decide) rfl (W_letGo ?_))
    (repeat keq_rows)
    refine sp_Place (.of D a e1 e2 e3) (O.mono (by omega)) (fit_B (by omega) (by omega)) (by omega) fun h D => ?_
    obtain ⟨st, J, a, e1, e2, e3, D⟩ := D
    (repeat keq_rows)
    refine turn_next ?_
    (rename Here _ _ _ _ _ _ _ _ => D)
    have D := D.fr3
    refine WC_for (W_nextRange D (by decide) fun h ti D => ?_)
    have D := D.to3
    dsimp only
    (repeat keq_rows)
    (rename Here _ _ _ _ _ _ _ _ => D)
    refine W_Subscript ?_
    (repeat keq_rows)
    have htp := D.led.own (fid, tupO [.int 77 t1, .int 65 t2, .int 82 t3, .int 75 t4]) (.tail _ (.tail _ (.head _)))
    refine W_looks (looks_gip (a := fid) htp rfl slot_tuple_getitem.lookup) ?_
    refine W_operate (W_tget (a := fid) htp (by decide) (by decide) rfl (W_letGo ?_))
    (repeat keq_rows)
    refine sp_Place (.of D a e1 e2 e3) (O.mono (by omega)) (fit_B (by omega) (by omega)) (by omega) fun h D => ?_
    obtain ⟨st, J, a, e1, e2, e3, D⟩ := D
    (repeat keq_rows)
    refine turn_next ?_
    (rename Here _ _ _ _ _ _ _ _ => D)
    have D := D.fr3
    refine WC_for (W_nextRange D (by decide) fun h ti D => ?_)
    have D := D.to3
    dsimp only
    (repeat keq_rows)
    (rename Here _ _ _ _ _ _ _ _ => D)
    refine W_Subscript ?_
    (repeat keq_rows)
    have htp := D.led.own (fid, tupO [.int 77 t1, .int 65 t2, .int 82 t3, .int 75 t4]) (.tail _ (.tail _ (.head _)))
    refine W_looks (looks_gip (a := fid) htp rfl slot_tuple_getitem.lookup) ?_
    refine W_operate (W_tget (a := fid) htp (by decide) (by decide) rfl (W_letGo ?_))
    (repeat keq_rows)
    refine sp_Place (.of D a e1 e2 e3) (O.mono (by omega)) (fit_B (by omega) (by omega)) (by omega) fun h D => ?_
    obtain ⟨st, J, a, e1, e2, e3, D⟩ := D
    (repeat keq_rows)
    refine turn_next ?_
    (rename Here _ _ _ _ _ _ _ _ => D)
    have D := D.fr3
    refine WC_for (W_endRange O D (by decide) fun h D => ?_)
    exact ⟨rfl, st, J, _, _, D.drop2, a, e1, e3⟩
  · clear D a e1 e2 e3
    rintro h ⟨st, J, iv, tp, D, a, e1, e3⟩
    have hml : (markT (padT 4 4 (padT as.ma 8 T))).length = 4 + (padT 4 4 (padT as.ma 8 T)).length := by
      unfold markT
      simp only [List.length_append, enc_len]
      omega
    (repeat keq_rows)
    refine sp_PrependU (T := markT (padT 4 4 (padT as.ma 8 T))) (.of D a e1 (Nat.zero_le _) e3) (O.mono (by omega)) r0 (by omega) (by omega) fun h D => ?_
    obtain ⟨st, J, a, e1, e2, e3, D⟩ := D
    (repeat keq_rows)
    (rename Here _ _ _ _ _ _ _ _ => D)
    exact q _ _ _ (.of (back _ _ _ _ _ D) (by have := congrArg (fun y : AS => { y with fin := true }) a; exact this) e1 (Nat.zero_le _) e3)
def preT (T : List UInt8) : List UInt8 := (encI 4 T.length).toList ++ padT 4 0 T
theorem sp_iFinish01 {root : Int} {t : Tok} {Q : Value → Heap → Prop} (D : HB w H0 env gs ls b as T r h l) (O : AOk 5 A) (hm : isW as.ma) (r0 : 0 ≤ root) (r1 : root ≤ T.length) (hb : T.length ≤ 800)
    (q : ∀ h' i t, HB w H0 env gs ls b { ((as.aligned as.ma).aligned 4).aligned 4 with fin := true } (preT (relU root (padT as.ma 8 T))) 0 h' l → Q (.int i t) h') : W w A (call (.ref 486) [.ref b, .int root t, .bool true] [("file_identifier", .none)]) Q h := by
  obtain ⟨st, J, a, e1, e2, e3, D⟩ := D
  have hT : (hd.heap_39 w.params).lookup 479 = some { cls := .type "tuple", data := .seq #[.none] } := by k_is
  have hp := padT_lt (T := T) (add := 8) hm
  have hp2 := padT_len as.ma 8 T
  refine W_fn2 D O [("self", .ref b), ("rootTable", .int root t), ("sizePrefix", .bool true), ("file_identifier", .none)] ["self", "rootTable", "sizePrefix", "file_identifier"] ["prepSize", "i", "size"] ["enforce_number", "UOffsetTFlags", "Int32Flags", "FILE_IDENTIFIER_LENGTH", "unpack", "range", "Uint8Flags", "len"] (by k_is) (by k_is) (fun s e => BindsTo.of_defaults rfl (e ▸ D.kin _ _ hT) rfl rfl rfl) rfl (by decide +kernel) ?_
  intro env A h X O D back
  simp only [startL, List.map_cons, List.map_nil, List.cons_append, List.nil_append] at D
  (repeat keq_rows)
  refine sp_enforce D (O.mono (by omega)) (fit_U r0 (by omega)) fun h D => ?_
  (repeat keq_rows)
  rw [show (!Value.none == Value.none) = false from rfl]
  (repeat keq_rows)
  (rename Here _ _ _ _ _ _ _ _ => D)
  rw [show st.ma = as.ma from congrArg AS.ma a]
  refine sp_Prep (.of D a e1 e2 e3) (O.mono (by omega)) hm (by omega) (by omega) fun h D => ?_
  obtain ⟨st, J, a, e1, e2, e3, D⟩ := D
  (repeat keq_rows)
  rw [show (!Value.none == Value.none) = false from rfl]
  (repeat keq_rows)
  refine sp_PrependU (T := padT as.ma 8 T) (.of D a e1 e2 e3) (O.mono (by omega)) r0 (by omega) (by omega) fun h D => ?_
  obtain ⟨st, J, a, e1, e2, e3, D⟩ := D
  change Here _ w H0 _ _ _ _ ((b, bobj st) :: (st.B, baO (J ++ relU root (padT as.ma 8 T)).toArray) :: _) at D
  have e4 : J.length + (relU root (padT as.ma 8 T)).length ≤ 4096 := e3
  generalize hT3 : relU root (padT as.ma 8 T) = T3 at D e4 q
  have hl3 : T3.length ≤ 840 := by
    have h9 := padT_lt (T := (padT as.ma 8 T)) (add := 0) (size := 4) (by unfold isW; omega)
    rw [← hT3]; unfold relU; rw [List.length_append, enc_len]; omega
  (repeat keq_rows)
  refine W_lenBA D.at1 (by rw [List.size_toArray, List.length_append, sizeLine_eq]; omega) fun tz => ?_
  rw [sz]
  (repeat keq_rows)
  (rename Here _ _ _ _ _ _ _ _ => D)
  have e9 : (J.length : Int) + T3.length - st.head = T3.length := by omega
  rw [e9] at D ⊢
  refine sp_enforce D (O.mono (by omega)) (fit_i (by omega) (by omega)) fun h D => ?_
  (repeat keq_rows)
  refine sp_PrependInt32 (.of D a e1 (Nat.zero_le _) (by omega)) (O.mono (by omega)) (fit_i (by omega) (by omega)) (by unfold isW; omega) (by omega) fun h D => ?_
  have D := (show HB w H0 env _ _ b (AS.aligned _ 4) (preT T3) _ h _ from D)
  obtain ⟨st, J, a, e1, e2, e3, D⟩ := D
  (repeat keq_rows)
  (rename Here _ _ _ _ _ _ _ _ => D)
  exact q _ _ _ (.of (back _ _ _ _ _ D) (by have := congrArg (fun y : AS => { y with fin := true }) a; exact this) e1 (Nat.zero_le _) e3)
theorem sp_iFinish11 {root : Int} {t mt : Tok} {Q : Value → Heap → Prop} (D : HB w H0 env gs ls b as T r h l) (O : AOk 5 A) (hm : isW as.ma) (r0 : 0 ≤ root) (r1 : root ≤ T.length) (hb : T.length ≤ 800)
    (q : ∀ h' i t, HB w H0 env gs ls b { (((as.aligned as.ma).aligned 4).aligned 4).aligned 4 with fin := true } (preT (relU root (markT (padT 4 4 (padT as.ma 12 T))))) 0 h' l → Q (.int i t) h') : W w A (call (.ref 486) [.ref b, .int root t, .bool true] [("file_identifier", .bytes #[77, 65, 82, 75] mt)]) Q h := by
  obtain ⟨st, J, a, e1, e2, e3, D⟩ := D
  have hT : (hd.heap_39 w.params).lookup 479 = some { cls := .type "tuple", data := .seq #[.none] } := by k_is
  have hp := padT_lt (T := T) (add := 12) hm
  have hp2 := padT_len as.ma 12 T
  have hq := padT_lt (T := padT as.ma 12 T) (add := 4) (size := 4) (by unfold isW; omega)
  have hq2 := padT_len 4 4 (padT as.ma 12 T)
  refine W_fn2 D O [("self", .ref b), ("rootTable", .int root t), ("sizePrefix", .bool true), ("file_identifier", .bytes #[77, 65, 82, 75] mt)] ["self", "rootTable", "sizePrefix", "file_identifier"] ["prepSize", "i", "size"] ["enforce_number", "UOffsetTFlags", "Int32Flags", "FILE_IDENTIFIER_LENGTH", "unpack", "range", "Uint8Flags", "len"] (by k_is) (by k_is) (fun s e => BindsTo.of_defaults rfl (e ▸ D.kin _ _ hT) rfl rfl rfl) rfl (by decide +kernel) ?_
  intro env A h X O D back
  simp only [startL, List.map_cons, List.map_nil, List.cons_append, List.nil_append] at D
  (repeat keq_rows)
  refine sp_enforce D (O.mono (by omega)) (fit_U r0 (by omega)) fun h D => ?_
  (repeat keq_rows)
  rw [show (!(Value.bytes #[77, 65, 82, 75] mt) == Value.none) = true from rfl]
  (repeat keq_rows)
  (rename Here _ _ _ _ _ _ _ _ => D)
  rw [show st.ma = as.ma from congrArg AS.ma a]
  refine sp_Prep (.of D a e1 e2 e3) (O.mono (by omega)) hm (by omega) (by omega) fun h D => ?_
  obtain ⟨st, J, a, e1, e2, e3, D⟩ := D
  (repeat keq_rows)
  rw [show (!(Value.bytes #[77, 65, 82, 75] mt) == Value.none) = true from rfl]
  (repeat keq_rows)
  refine sp_Prep (T := padT as.ma 12 T) (.of D a e1 e2 e3) (O.mono (by omega)) (by unfold isW; omega) (by omega) (by omega) fun h D => ?_
  obtain ⟨st, J, a, e1, e2, e3, D⟩ := D
  (repeat keq_rows)
  refine W_CallName (W_global D (by repeat (first | with_reducible exact List.mem_cons_self | with_reducible refine List.mem_cons_of_mem _ ?_)) (glob_unpack w) ?_)
  refine W_callWith (W_argsPlain ?_ rfl)
  (repeat keq_rows)
  refine ⟨⟨.machine, Looks.of_pure rfl⟩, ?_⟩
  refine W_unpack fun t1 t2 t3 t4 => ?_
  have D := (D.alloc (o := tupO [.int 77 t1, .int 65 t2, .int 82 t3, .int 75 t4]) rfl).to2
  (repeat keq_rows)
  (rename Here _ _ _ _ _ _ _ _ => D)
  generalize hfid : (Heap.objs _).size = fid at D
  refine W_thenP (fun h => ∃ (st : BS) (J : List UInt8) (iv : Option Value) (tp : Tok), Here (hd.heap_39 w.params) w H0 env ["enforce_number", "UOffsetTFlags", "Int32Flags", "FILE_IDENTIFIER_LENGTH", "unpack", "range", "Uint8Flags", "len"] [("self", some (.ref b)), ("rootTable", some (.int root t)), ("sizePrefix", some (.bool true)), ("file_identifier", some (.ref fid)), ("prepSize", some (.int (4 + 4 + 4) tp)), ("i", iv), ("size", none)] h
    ((b, bobj st) :: (st.B, baO (J ++ markT (padT 4 4 (padT as.ma 12 T))).toArray) :: X :: l) ∧ st.abs = (as.aligned as.ma).aligned 4 ∧ st.head = (J.length : Int) ∧ J.length + (markT (padT 4 4 (padT as.ma 12 T))).length ≤ 4096) ?_ ?_
  · refine W_For ?_
    (repeat keq_rows)
    (rename Here _ _ _ _ _ _ _ _ => D)
    refine W_range3 D (by decide) (by decide) fun h rg u1 u2 u3 D => ?_
    refine W_iterRange D (by decide) fun h it D => ?_
    refine WC_for (W_nextRange D (by decide) fun h ti D => ?_)
    have D := D.to3
    dsimp only
    (repeat keq_rows)
    (rename Here _ _ _ _ _ _ _ _ => D)
    refine W_Subscript ?_
    (repeat keq_rows)
    have htp := D.led.own (fid, tupO [.int 77 t1, .int 65 t2, .int 82 t3, .int 75 t4]) (.tail _ (.tail _ (.head _)))
    refine W_looks (looks_gip (a := fid) htp rfl slot_tuple_getitem.lookup) ?_
    refine W_operate (W_tget (a := fid) htp (by decide) (by decide) rfl (W_letGo ?_))
    (repeat keq_rows)
    refine sp_Place (.of D a e1 e2 e3) (O.mono (by omega)) (fit_B (by omega) (by omega)) (by omega) fun h D => ?_
    obtain ⟨st, J, a, e1, e2, e3, D⟩ := D
    (repeat keq_rows)
    refine turn_next ?_
    (rename Here _ _ _ _ _ _ _ _ => D)
    have D := D.fr3
    refine WC_for (W_nextRange D (by decide) fun h ti D => ?_)
    have D := D.to3
    dsimp only
    (repeat keq_rows)
    (rename Here _ _ _ _ _ _ _ _ => D)
    refine W_Subscript ?_
    (repeat keq_rows)
    have htp := D.led.own (fid, tupO [.int 77 t1, .int 65 t2, .int 82 t3, .int 75 t4]) (.tail _ (.tail _ (.head _)))
    refine W_looks (looks_gip (a := fid) htp rfl slot_tuple_getitem.lookup) ?_
    refine W_operate (W_tget (a := fid) htp (by decide) (by decide) rfl (W_letGo ?_))
    (repeat keq_rows)
    refine sp_Place (.of D a e1 e2 e3) (O.mono (by omega)) (fit_B (by omega) (by omega)) (by omega) fun h D => ?_
    obtain ⟨st, J, a, e1, e2, e3, D⟩ := D
    (repeat keq_rows)
    refine turn_next ?_
    (rename Here _ _ _ _ _ _ _ _ => D)
    have D := D.fr3
    refine WC_for (W_nextRange D (by decide) fun h ti D => ?_)
    have D := D.to3
    dsimp only
    (repeat keq_rows)
    (rename Here _ _ _ _ _ _ _ _ => D)
    refine W_Subscript ?_
    (repeat keq_rows)
    have htp := D.led.own (fid, tupO [.int 77 t1, .int 65 t2, .int 82 t3, .int 75 t4]) (.tail _ (.tail _ (.head _)))
    refine W_looks (looks_gip (a := fid) htp rfl slot_tuple_getitem.lookup) ?_
    refine W_operate (W_tget (a := fid) htp (by decide) (by decide) rfl (W_letGo ?_))
    (repeat keq_rows)
    refine sp_Place (.of D a e1 e2 e3) (O.mono (by omega)) (fit_B (by omega) (by omega)) (by omega) fun h D => ?_
    obtain ⟨st, J, a, e1, e2, e3, D⟩ := D
    (repeat keq_rows)
    refine turn_next ?_
    (rename Here _ _ _ _ _ _ _ _ => D)
    have D := D.fr3
    refine WC_for (W_nextRange D (by decide) fun h ti D => ?_)
    have D := D.to3
    dsimp only
    (repeat keq_rows)
    (rename Here _ _ _ _ _ _ _ _ => D)
    refine W_Subscript ?_
    (repeat keq_rows)
    have htp := D.led.own (fid, tupO [.int 77 t1, .int 65 t2, .int 82 t3, .int 75 t4]) (.tail _ (.tail _ (.head _)))
    refine W_looks (looks_gip (a := fid) htp rfl slot_tuple_getitem.lookup) ?_
    refine W_operate (W_tget (a := fid) htp (by decide) (by decide) rfl (W_letGo ?_))
    (repeat keq_rows)
    refine sp_Place (.of D a e1 e2 e3) (O.mono (by omega)) (fit_B (by omega) (by omega)) (by omega) fun h D => ?_
    obtain ⟨st, J, a, e1, e2, e3, D⟩ := D
    (repeat keq_rows)
    refine turn_next ?_
    (rename Here _ _ _ _ _ _ _ _ => D)
    have D := D.fr3
    refine WC_for (W_endRange O D (by decide) fun h D => ?_)
    exact ⟨rfl, st, J, _, _, D.drop2, a, e1, e3⟩
  · clear D a e1 e2 e3
    rintro h ⟨st, J, iv, tp, D, a, e1, e3⟩
    have hml : (markT (padT 4 4 (padT as.ma 12 T))).length = 4 + (padT 4 4 (padT as.ma 12 T)).length := by
      unfold markT
      simp only [List.length_append, enc_len]
      omega
    (repeat keq_rows)
    refine sp_PrependU (T := markT (padT 4 4 (padT as.ma 12 T))) (.of D a e1 (Nat.zero_le _) e3) (O.mono (by omega)) r0 (by omega) (by omega) fun h D => ?_
    obtain ⟨st, J, a, e1, e2, e3, D⟩ := D
    change Here _ w H0 _ _ _ _ ((b, bobj st) :: (st.B, baO (J ++ relU root (markT (padT 4 4 (padT as.ma 12 T)))).toArray) :: _) at D
    have e4 : J.length + (relU root (markT (padT 4 4 (padT as.ma 12 T)))).length ≤ 4096 := e3
    generalize hT3 : relU root (markT (padT 4 4 (padT as.ma 12 T))) = T3 at D e4 q
    have hl3 : T3.length ≤ 840 := by
      have h9 := padT_lt (T := (markT (padT 4 4 (padT as.ma 12 T)))) (add := 0) (size := 4) (by unfold isW; omega)
      rw [← hT3]; unfold relU; rw [List.length_append, enc_len]; omega
    (repeat keq_rows)
    refine W_lenBA D.at1 (by rw [List.size_toArray, List.length_append, sizeLine_eq]; omega) fun tz => ?_
    rw [sz]
    (repeat keq_rows)
    (rename Here _ _ _ _ _ _ _ _ => D)
    have e9 : (J.length : Int) + T3.length - st.head = T3.length := by omega
    rw [e9] at D ⊢
    refine sp_enforce D (O.mono (by omega)) (fit_i (by omega) (by omega)) fun h D => ?_
    (repeat keq_rows)
    refine sp_PrependInt32 (.of D a e1 (Nat.zero_le _) (by omega)) (O.mono (by omega)) (fit_i (by omega) (by omega)) (by unfold isW; omega) (by omega) fun h D => ?_
    have D := (show HB w H0 env _ _ b (AS.aligned _ 4) (preT T3) _ h _ from D)
    obtain ⟨st, J, a, e1, e2, e3, D⟩ := D
    (repeat keq_rows)
    (rename Here _ _ _ _ _ _ _ _ => D)
    exact q _ _ _ (.of (back _ _ _ _ _ D) (by have := congrArg (fun y : AS => { y with fin := true }) a; exact this) e1 (Nat.zero_le _) e3)
end
end

-- FE1
end
section
open PySem PySem.W PySem.Calls PyProof.Rows Builtin

/-- which cell a name has -/
structure CellK (env : Env) (x : Str) (c : Addr) : Prop where
  k : env.kindOf x = some .cell
  c : env.cells.lookup x = some c
  d : (x == ("__debug__" : Str)) = false
section
variable {K : Frag} {w : World} {A : Around} {H0 h : Heap} {env : Env} {gs : List Str} {ls ls' : List (Str × Option Value)} {l : List (Addr × Obj)} {x : Str} {pos : Pos} {v : Value} {c : Addr} {o : Obj}
theorem W_cellLoad {Q : Value → Heap → Prop} (D : Here K w H0 env gs ls h l) (C : CellK env x c) (hm : (c, o) ∈ l) (hd : o.data = .cell (some v)) (q : Q v h) : W w A (loadName env x) Q h :=
  W_any fun s e => wpAny_loadName_cell D.kind C.k C.c ⟨_, e ▸ D.led.own _ hm, hd⟩ ⟨Rest.refl s, e ▸ q⟩
theorem W_cell {Q : Value → Heap → Prop} (D : Here K w H0 env gs ls h l) (C : CellK env x c) (hm : (c, o) ∈ l) (hd : o.data = .cell (some v)) (q : Q v h) : W w A (eval (.Name x pos) env) Q h :=
  W_Name C.d (W_cellLoad D C hm hd q)
theorem W_cellStore {u : Option Value} {Q : Unit → Heap → Prop} (D : Here K w H0 env gs ls h ((c, o) :: l)) (C : CellK env x c) (hd : o.data = .cell u)
    (q : ∀ h' o', o'.data = .cell (some v) → Here K w H0 env gs ls h' ((c, o') :: l) → Q () h') : W w A (storeName env x v) Q h := by
  refine W_any fun s e => ?_
  subst e
  unfold storeName
  simp only [C.k, D.kind]
  refine wpAny_bind (wpAny_cellOf C.c ?_)
  unfold cellSet
  refine wpAny_bind (wpAny_load D.at0 ?_)
  rw [hd]
  exact wpAny_update D.at0 ⟨⟨rfl, rfl⟩, q _ { o with data := .cell (some v) } rfl (D.with fun X E => E.upd1 (f := fun o => { o with data := .cell (some v) }) rfl)⟩
/-- self.name(args ..), self any expression that gives the object -/
theorem W_mcallE {b f : Addr} {C : Addr} {p apos : Pos} {name : Str} {e : Expr} {rest : List Expr} {sl : Array (Option Value)} {Q : Value → Heap → Prop} (hx : ∀ Q' : Value → Heap → Prop, Q' (.ref b) h → W w A (eval (.Name x p) env) Q' h) (X : K.In h) (hb : InstK h b C sl) (S : MethK K C name f)
    (y : W w A (spliced (backTo pos (starEach (e :: rest) env))) (fun vs h₂ => K.In h₂ ∧ W w A (call (.ref f) (.ref b :: vs)) Q h₂) h)
    (hf : methodCallForm ((e :: rest).length + ([] : List Keyword).length) (backTo pos (starEach (e :: rest) env)) (backToKw pos (keywordEach [] env)) = true := by rfl) (hl : (apos.endLine == pos.line) = true := by rfl)
    (he : starEach (e :: rest) env = (false, eval e env) :: starEach rest env := by rfl) :
    W w A (eval (.Call (.Attribute (.Name x p) name apos) (e :: rest) [] pos) env) Q h := by
  refine W_CallAttr (hx _ (W_method X S hb ?_)) rfl hf hl
  exact W_callWith (W_argsPlain (W_mono y fun vs h₂ z => ⟨kept_fn S.hk z.1, z.2⟩) he)
theorem W_mcallE0 {b f : Addr} {C : Addr} {p apos : Pos} {name : Str} {sl : Array (Option Value)} {Q : Value → Heap → Prop} (hx : ∀ Q' : Value → Heap → Prop, Q' (.ref b) h → W w A (eval (.Name x p) env) Q' h) (X : K.In h) (hb : InstK h b C sl) (S : MethK K C name f)
    (y : W w A (call (.ref f) [.ref b]) Q h) (hl : (apos.endLine == pos.line) = true := by rfl) :
    W w A (eval (.Call (.Attribute (.Name x p) name apos) [] [] pos) env) Q h := by
  refine W_CallAttr (hx _ (W_method X S hb ?_)) rfl rfl hl
  exact W_callWith (W_args0 ⟨kept_fn S.hk X, y⟩)
theorem W_mcallC {b f : Addr} {C : Addr} {p apos : Pos} {name : Str} {e : Expr} {rest : List Expr} {sl : Array (Option Value)} {Q : Value → Heap → Prop} (D : Here K w H0 env gs ls h l) (CK : CellK env x c) (hm : (c, o) ∈ l) (hd : o.data = .cell (some (.ref b))) (hb : InstK h b C sl) (S : MethK K C name f)
    (y : W w A (spliced (backTo pos (starEach (e :: rest) env))) (fun vs h₂ => K.In h₂ ∧ W w A (call (.ref f) (.ref b :: vs)) Q h₂) h)
    (hf : methodCallForm ((e :: rest).length + ([] : List Keyword).length) (backTo pos (starEach (e :: rest) env)) (backToKw pos (keywordEach [] env)) = true := by rfl) (hl : (apos.endLine == pos.line) = true := by rfl)
    (he : starEach (e :: rest) env = (false, eval e env) :: starEach rest env := by rfl) :
    W w A (eval (.Call (.Attribute (.Name x p) name apos) (e :: rest) [] pos) env) Q h :=
  W_mcallE (fun _ q => W_cell D CK hm hd q) D.kin hb S y hf hl he
theorem W_mcallC0 {b f : Addr} {C : Addr} {p apos : Pos} {name : Str} {sl : Array (Option Value)} {Q : Value → Heap → Prop} (D : Here K w H0 env gs ls h l) (CK : CellK env x c) (hm : (c, o) ∈ l) (hd : o.data = .cell (some (.ref b))) (hb : InstK h b C sl) (S : MethK K C name f)
    (y : W w A (call (.ref f) [.ref b]) Q h) (hl : (apos.endLine == pos.line) = true := by rfl) :
    W w A (eval (.Call (.Attribute (.Name x p) name apos) [] [] pos) env) Q h :=
  W_mcallE0 (fun _ q => W_cell D CK hm hd q) D.kin hb S y hl
/-- one keyword behind the plain arguments -/
theorem W_argsKw {f : Value} {e ev : Expr} {rest : List Expr} {k : Str} {kp : Pos} {Q : Args → Heap → Prop}
    (y : W w A (spliced (backTo pos (starEach (e :: rest) env))) (fun vs h₁ => W w A (eval ev env) (fun v h₂ => Q ⟨vs, [(k, v)]⟩ h₂) h₁) h) (he : starEach (e :: rest) env = (false, eval e env) :: starEach rest env := by rfl) :
    W w A (evalArgs f true (backTo pos (starEach (e :: rest) env)) (backToKw pos (keywordEach [⟨some k, ev, kp⟩] env))) Q h := by
  rw [he] at y ⊢
  unfold evalArgs
  show W w A (spliced (backTo pos ((false, eval e env) :: starEach rest env)) >>= _) Q h
  refine W_bind (W_mono y fun vs h₁ z => ?_)
  refine W_bind (W_pure ?_)
  refine W_holding ?_
  refine W_if_pos (by rfl) ?_
  refine W_bind ?_
  show W w A (evalAll [do let v ← eval ev env; standAt pos; pure v]) _ h₁
  rw [evalAll]
  refine W_bind (W_bind (W_mono z fun v h₂ u => W_bind (W_standAt (W_pure ?_))))
  rw [evalAll]
  exact W_bind (W_holding (W_pure (W_pure (W_bind (W_pure (W_pure u))))))

-- functions with cells
theorem lookup_cell {n : Str} {c : Addr} {r : List (Str × Addr)} : ((n, c) :: r).lookup n = some c := by simp
/-- what the names of a def with three cells are -/
def frameOkC (scope : Scope) (xs gs cs : List Str) : Bool :=
  xs.all (fun n => scope.names.lookup n == some .local && !(n == ("__debug__" : Str))) && gs.all (fun n => scope.names.lookup n == some .globalImplicit && !(n == ("__debug__" : Str))) &&
  cs.all (fun n => scope.names.lookup n == some .cell && !(n == ("__debug__" : Str))) &&
  decide (xs.Nodup) && scope.kind == .function && !scope.isGenerator && !scope.isCoroutine
theorem WC_fnC {p q : Addr × Obj} {n : Nat} (D : Here K w H0 env gs ls h (p :: q :: l)) (O : AOk (n + 1) A) {f : Addr} {name qual : Str} {params : Arguments} {body : List Stmt} {scope : Scope} {dV kV doc pm cdv ct oc : Value} {an od : Option Addr} {osl : Array (Option Value)}
    (ho : K.lookup f = some ⟨oc, od, .func (fnOf name qual params body scope dV kV doc pm an cdv ct), osl⟩) (hcd : codeIn K cdv qual = true)
    {args : Args} {x1 x2 x3 : Str} {v1 v2 : Value} (hb : ∀ s : Shared, s.heap = h → BindsTo s (fnOf name qual params body scope dV kV doc pm an cdv ct) args [(x1, v1), (x2, v2)])
    {xs gs' : List Str} (hchk : frameOkC scope xs gs' [x1, x2, x3] = true) (hcf : ∀ m : Nat, cellsFrom m scope.names [] = [(x3, m + 2), (x2, m + 1), (x1, m)]) (n12 : x1 ≠ x2) (n13 : x1 ≠ x3) (n23 : x2 ≠ x3) {Q : Value → Heap → Prop}
    (x : ∀ env' A' h₁ X c1 c2 c3 o1 o2 o3, AOk n A' → Here K w H0 env' gs' (xs.map fun x => (x, none)) h₁ (p :: q :: (c1, o1) :: (c2, o2) :: (c3, o3) :: X :: l) → CellK env' x1 c1 → CellK env' x2 c2 → CellK env' x3 c3 →
      o1.data = .cell (some v1) → o2.data = .cell (some v2) → o3.data = .cell none →
      (∀ ls'' h' l', Here K w H0 env' gs' ls'' h' (X :: l') → Here K w H0 env gs ls h' l') →
      W w A' (execs body env') (fun fl h' => Q (match fl with | .ret v => v | _ => .none) h') h₁) :
    WC w A (.call (.ref f) args) (fun fl h' => ∃ v, fl = .ret v ∧ Q v h') h := by
  simp only [frameOkC, Bool.and_eq_true, List.all_eq_true, beq_iff_eq, Bool.not_eq_true', decide_eq_true_eq] at hchk
  obtain ⟨⟨⟨⟨⟨⟨hl, hg⟩, hcs⟩, hnd⟩, hk⟩, hgen⟩, hco⟩ := hchk
  obtain ⟨c, oc', vs, tq, hc, hoc, hdc, hq⟩ := codeRec_of D.kin hcd
  obtain ⟨odl, E, N⟩ := D.fr
  refine WC_tree rfl ?_
  show W w A.in1 (callAny (.ref f) args) _ h
  simp only [callAny]
  refine W_bind (W_load (D.kin _ _ ho) ?_)
  dsimp only
  simp only [callFunction, hco, hgen, hc]
  refine W_bind (m := field (.ref c) 1) (W_any fun s e => wpAny_field (e ▸ hoc) hdc hq ⟨Rest.refl s, e ▸ W_bind (W_pure ?_)⟩)
  refine W_bind (W_any fun s e => hb s e _ _ _ _ ⟨Rest.refl s, ?_⟩)
  have k1 := hcs x1 (by simp)
  have k2 := hcs x2 (by simp)
  have k3 := hcs x3 (by simp)
  refine W_bind (W_any fun s' e' => wpAny_newFunctionEnv_cells (s := s') (scope := scope) (binds := [(x1, v1), (x2, v2)]) hk (fun y hy => ?_) (fun env' he s2 hI => ?_))
  · right
    rw [hcf]
    rcases List.mem_cons.mp hy with rfl | hy
    · exact ⟨k1.1, by simp [List.lookup_cons, beq_eq_false_iff_ne.mpr n13, beq_eq_false_iff_ne.mpr n12]⟩
    · rcases List.mem_cons.mp hy with rfl | hy
      · exact ⟨k2.1, by simp [List.lookup_cons, beq_eq_false_iff_ne.mpr n23]⟩
      · cases hy
  have es' : s'.heap = h := by rw [e', e]
  have hkn : ∀ y, env'.kindOf y = scope.names.lookup y := fun y => by rw [he]; rfl
  have hcl : env'.cells = [(x3, h.objs.size + 1 + 2), (x2, h.objs.size + 1 + 1), (x1, h.objs.size + 1)] := by rw [he, ← es']; exact hcf _
  have hL : env'.locals = h.objs.size := by rw [he, ← es']; rfl
  obtain ⟨⟨⟨h2, tk, rfl⟩, hns, hkeep, hfr⟩, hcell, hap, hab⟩ := hI
  dsimp only at hns hkeep hcell
  rw [es'] at hkeep
  refine ⟨⟨rfl, rfl⟩, ?_⟩
  show W w A.in1 _ _ h2
  have C1 : CellK env' x1 (h.objs.size + 1) := ⟨by rw [hkn]; exact k1.1, by rw [hcl]; simp [List.lookup_cons, beq_eq_false_iff_ne.mpr n13, beq_eq_false_iff_ne.mpr n12], k1.2⟩
  have C2 : CellK env' x2 (h.objs.size + 1 + 1) := ⟨by rw [hkn]; exact k2.1, by rw [hcl]; simp [List.lookup_cons, beq_eq_false_iff_ne.mpr n23], k2.2⟩
  have C3 : CellK env' x3 (h.objs.size + 1 + 2) := ⟨by rw [hkn]; exact k3.1, by rw [hcl]; simp, k3.2⟩
  obtain ⟨o1, ho1, hd1⟩ := hcell _ _ C1.c
  obtain ⟨o2, ho2, hd2⟩ := hcell _ _ C2.c
  obtain ⟨o3, ho3, hd3⟩ := hcell _ _ C3.c
  have nl1 : ¬ env'.kindOf x1 = some .local := by rw [C1.k]; decide
  have nl2 : ¬ env'.kindOf x2 = some .local := by rw [C2.k]; decide
  simp only [bindC, if_neg nl1, if_neg nl2, if_neg n12, if_neg (Ne.symm n13), if_neg (Ne.symm n23), if_pos] at hd1 hd2 hd3
  obtain ⟨o', es, ep, ho', hd', hsk, hm⟩ := hns
  rw [hL] at ho'
  have old : ∀ y ∈ (env.locals, odl) :: p :: q :: l, y.1 < h.objs.size := fun y hy => Heap.lt_size (E.own y hy)
  have E1 : Led H0 h2 ((h.objs.size, o') :: p :: q :: (h.objs.size + 1, o1) :: (h.objs.size + 1 + 1, o2) :: (h.objs.size + 1 + 2, o3) :: (env.locals, odl) :: l) := by
    have E0 : Led H0 h2 ((h.objs.size, o') :: (h.objs.size + 1, o1) :: (h.objs.size + 1 + 1, o2) :: (h.objs.size + 1 + 2, o3) :: (env.locals, odl) :: p :: q :: l) := by
      refine ⟨fun b o q => hkeep b o (E.keep b o q), fun y hy => ?_, ?_, fun y hy => ?_, ?_⟩
      · simp only [List.mem_cons] at hy
        rcases hy with rfl | rfl | rfl | rfl | hy
        · exact ho'
        · exact ho1
        · exact ho2
        · exact ho3
        · exact hkeep _ _ (E.own y (by simpa using hy))
      · simp only [List.map_cons, List.nodup_cons, List.mem_cons, not_or]
        have nd := E.nd
        simp only [List.map_cons, List.nodup_cons, List.mem_cons, not_or] at nd
        have b1 : ∀ a : Nat, h.objs.size ≤ a → a ≠ env.locals := fun a ha z => absurd (old (env.locals, odl) (.head _)) (by dsimp only; rw [← z]; exact Nat.not_lt.mpr ha)
        have b2 : ∀ a : Nat, h.objs.size ≤ a → a ≠ p.1 := fun a ha z => absurd (old p (.tail _ (.head _))) (by rw [← z]; exact Nat.not_lt.mpr ha)
        have b3 : ∀ a : Nat, h.objs.size ≤ a → a ≠ q.1 := fun a ha z => absurd (old q (.tail _ (.tail _ (.head _)))) (by rw [← z]; exact Nat.not_lt.mpr ha)
        have b4 : ∀ a : Nat, h.objs.size ≤ a → a ∉ l.map (·.1) := fun a ha hm => by
          obtain ⟨y, hy, e⟩ := List.mem_map.mp hm
          exact absurd (old y (.tail _ (.tail _ (.tail _ hy)))) (by rw [e]; exact Nat.not_lt.mpr ha)
        have c0 : h.objs.size ≤ h.objs.size := Nat.le_refl _
        have c1 : h.objs.size ≤ h.objs.size + 1 := Nat.le_add_right _ _
        have c2 : h.objs.size ≤ h.objs.size + 1 + 1 := Nat.le_add_right_of_le c1
        have c3 : h.objs.size ≤ h.objs.size + 1 + 2 := Nat.le_add_right_of_le c1
        have u : ∀ a b : Nat, a < b → a ≠ b := fun _ _ => Nat.ne_of_lt
        exact ⟨⟨u _ _ (Nat.lt_succ_self _), u _ _ (Nat.lt_add_of_pos_right (k := 2) (by decide)), u _ _ (Nat.lt_add_of_pos_right (k := 3) (by decide)), b1 _ c0, b2 _ c0, b3 _ c0, b4 _ c0⟩,
          ⟨u _ _ (Nat.lt_succ_self _), u _ _ (Nat.lt_add_of_pos_right (by decide)), b1 _ c1, b2 _ c1, b3 _ c1, b4 _ c1⟩,
          ⟨u _ _ (Nat.lt_succ_self _), b1 _ c2, b2 _ c2, b3 _ c2, b4 _ c2⟩, ⟨b1 _ c3, b2 _ c3, b3 _ c3, b4 _ c3⟩, nd⟩
      · simp only [List.mem_cons] at hy
        have np : ∀ {o : Obj} {v : Option Value}, o.data = .cell v → o.data = .plain → o.dict = none := fun e e' => by rw [e] at e'; cases e'
        rcases hy with rfl | rfl | rfl | rfl | hy
        · exact E.ent (Nat.le_refl _) fun e => by rw [hd'] at e; cases e
        · exact E.ent (Nat.le_add_right _ _) (np hd1)
        · exact E.ent (Nat.le_add_right_of_le (Nat.le_add_right _ _)) (np hd2)
        · exact E.ent (Nat.le_add_right_of_le (Nat.le_add_right _ _)) (np hd3)
        · exact E.new y (by simpa using hy)
      · exact E.grow
    exact E0.perm (.cons _ ((List.perm_append_comm_assoc [_, _, _, _] [_, _] _)))
  have lim : h2.NoLimit := D.base.lim.keeps E1.keep
  refine W_bind (W_any fun s e => wpAny_enterFrame (e ▸ lim) (by have := O.room; exact this) ⟨Rest.refl s, ?_⟩)
  rw [e]
  refine W_pure ⟨rfl, WC_func ?_⟩
  have hD : Here K w H0 env' gs' (xs.map fun x => (x, none)) h2 (p :: q :: (h.objs.size + 1, o1) :: (h.objs.size + 1 + 1, o2) :: (h.objs.size + 1 + 2, o3) :: (env.locals, odl) :: l) := by
    refine ⟨D.base, by rw [he]; exact hk, by rw [he]; rfl, by rw [he]; rfl, fun y hy => ?_, fun y hy => by rw [hkn]; exact hg y hy, o', by rw [hL]; exact E1, es, ep, hd', hsk, ?_, fun y hy => ?_⟩
    · obtain ⟨z, hz, rfl⟩ := List.mem_map.mp hy
      rw [hkn]; exact hl z hz
    · rw [List.map_map]
      have : ((fun x => x.1) ∘ fun x => (x, (none : Option Value))) = (id : Str → Str) := rfl
      rw [this, List.map_id]; exact hnd
    · obtain ⟨z, hz, rfl⟩ := List.mem_map.mp hy
      rw [hm]
      simp only [bindL, if_neg nl1, if_neg nl2]
  refine W_mono (x _ _ h2 (env.locals, odl) _ _ _ o1 o2 o3 (O.deeper _) hD C1 C2 C3 hd1 hd2 hd3 fun ls'' h2 l' D' => ?_) fun fl h2 y => ⟨_, rfl, y⟩
  obtain ⟨od2, E2, _⟩ := D'.fr
  exact ⟨D.base, D.kind, D.gl, D.bl, D.lk, D.gk, odl, E2.drop, N⟩
end
end

-- FE2
section
open PySem PySem.W PySem.Calls PyProof.Rows Builtin
section
variable {K : Frag} {w : World} {A : Around} {H0 h : Heap} {env : Env} {gs : List Str} {ls : List (Str × Option Value)} {l : List (Addr × Obj)} {x : Str} {px pos : Pos} {it acc : Value} {elt iter : Expr} {scope : Scope}

theorem WC_compStart {target : Expr} {Q : Flow → Heap → Prop}
    (h0 : WC w A (.compLoop (.ListComp elt [⟨target, iter, [], 0⟩] scope pos) 0 it acc env) Q h)
    (hs : W w A (pyIter it) (fun it' h' => it' = it ∧ h' = h) h) : WC w A (.compStart (.ListComp elt [⟨target, iter, [], 0⟩] scope pos) 0 it acc env) Q h := by
  refine WC_tree rfl ?_
  show W w A ((compStart (.ListComp elt [⟨target, iter, [], 0⟩] scope pos) 0 it acc env).onRaise (fun x => do noteFrame x env; standAt theWindowsPlace)) _ h
  refine W_onRaise ?_
  unfold compStart
  show W w A (ask >>= _) _ h
  refine W_bind (W_ask ?_)
  refine W_ite (fun _ => ?_) (fun _ => ?_)
  · first
      | exact W_pure ⟨rfl, h0⟩
      | exact W_bind (W_pure (W_pure ⟨rfl, h0⟩))
  · refine W_bind (W_rule ?_)
    show W w A (standAt iter.pos >>= _) _ h
    exact W_bind (W_standAt (W_bind (W_mono hs fun it' h' e => by obtain ⟨rfl, rfl⟩ := e; exact W_pure ⟨rfl, h0⟩)))
theorem WC_comp {Q : Flow → Heap → Prop}
    (y : W w A (pyNext it) (fun r h₁ => match r with
      | none => Q .next h₁
      | some v => W w A (storeName env x v) (fun _ h₂ => W w A (eval elt env) (fun y h₃ => W w A (call (.builtin "list.append") [acc, y]) (fun _ h₄ => WC w A (.compLoop (.ListComp elt [⟨.Name x px, iter, [], 0⟩] scope pos) 0 it acc env) Q h₄) h₃) h₂) h₁) h) :
    WC w A (.compLoop (.ListComp elt [⟨.Name x px, iter, [], 0⟩] scope pos) 0 it acc env) Q h := by
  refine WC_tree rfl ?_
  show W w A ((compTurn (.ListComp elt [⟨.Name x px, iter, [], 0⟩] scope pos) 0 it acc env).onRaise (fun x => do noteFrame x env; theTreesLotGoes x)) _ h
  refine W_onRaise ?_
  rw [compTurn_list1]
  refine W_bind (W_standAt (W_bind (W_mono y fun r h₁ z => ?_)))
  cases r with
  | none => exact W_pure z
  | some v =>
    refine W_bind (W_of_eq (a := ()) rfl ?_)
    rw [PySem.assign_Name]
    refine W_bind (W_bind (W_standAt (W_bindName (W_mono z fun _ h₂ u => ?_))))
    exact W_bind (W_bind (W_mono u fun y h₃ u => W_bind (W_mono u fun _ h₄ u => W_pure (W_pure ⟨rfl, u⟩))))
theorem WC_compInd {Q : Flow → Heap → Prop} (I : Nat → Heap → Prop)
    (step : ∀ n h, I n h → W w A (pyNext it) (fun r h₁ => match r with
      | none => Q .next h₁
      | some v => W w A (storeName env x v) (fun _ h₂ => W w A (eval elt env) (fun y h₃ => W w A (call (.builtin "list.append") [acc, y]) (fun _ h₄ => ∃ m, m < n ∧ I m h₄) h₃) h₂) h₁) h) (h0 : ∃ n, I n h) :
    WC w A (.compLoop (.ListComp elt [⟨.Name x px, iter, [], 0⟩] scope pos) 0 it acc env) Q h := by
  obtain ⟨n, h0⟩ := h0
  induction n using Nat.strongRecOn generalizing h with
  | ind n ih =>
    refine WC_comp (W_mono (step n h h0) fun r h₁ y => ?_)
    cases r with
    | none => exact y
    | some v => exact W_mono y fun _ h₂ z => W_mono z fun y h₃ z => W_mono z fun _ h₄ ⟨m, hm, z⟩ => ih m hm z

theorem lookup_relabel {env : Env} {k : NameKind} : ∀ {names : List (Str × NameKind)} {x : Str}, names.lookup x = some k →
    (names.map fun (n, k) => if (k == NameKind.free && env.scope.kind == .function && env.kindOf n == some .cell) then (n, NameKind.cell) else (n, k)).lookup x = some (if (k == NameKind.free && env.scope.kind == .function && env.kindOf x == some .cell) then .cell else k)
  | [], _, h => by simp at h
  | (n, k') :: r, x, h => by
    have ih := @lookup_relabel env k r x
    show List.lookup x ((if (k' == NameKind.free && env.scope.kind == .function && env.kindOf n == some .cell) = true then (n, NameKind.cell) else (n, k')) :: _) = _
    cases hx : x == n with
    | true =>
      simp only [List.lookup_cons, hx] at h
      cases h
      obtain rfl := beq_iff_eq.mp hx
      by_cases hc : (k == NameKind.free && env.scope.kind == .function && env.kindOf x == some .cell) = true
      · rw [if_pos hc, if_pos hc]; simp [List.lookup_cons]
      · rw [if_neg hc, if_neg hc]; simp [List.lookup_cons]
    | false =>
      simp only [List.lookup_cons, hx] at h
      by_cases hc : (k' == NameKind.free && env.scope.kind == .function && env.kindOf n == some .cell) = true
      · rw [if_pos hc]; simp only [List.lookup_cons, hx]; exact ih h
      · rw [if_neg hc]; simp only [List.lookup_cons, hx]; exact ih h
def compOk (scope : Scope) (x : Str) (gs : List Str) : Bool :=
  (scope.names.lookup x == some .local && !(x == ("__debug__" : Str))) && gs.all (fun n => scope.names.lookup n == some .globalImplicit && !(n == ("__debug__" : Str))) &&
  scope.names.all (fun y => y.2 != .cell) && scope.kind == .function && scope.names.all (fun y => y.2 != .local || scope.names.lookup y.1 == some .local)
/-- what a comprehension's own frame is entered with, and what is wanted behind its loop -/
def CompBlk (K : Frag) (w : World) (A : Around) (H0 : Heap) (env : Env) (gs : List Str) (ls : List (Str × Option Value)) (elt iter : Expr) (x : Str) (px pos : Pos) (scope : Scope) (cl : List (Str × Addr)) (gs' : List Str)
    (R : Addr → List Value → Nat → List (Addr × Obj) → Heap → Prop) (it : Value) (h₂ : Heap) : Prop :=
  ∃ l₂, Here K w H0 env gs ls h₂ l₂ ∧ ∀ cenv h₃ X a, Here K w H0 cenv gs' [(x, none)] h₃ (X :: (a, lstO [] 0) :: l₂) → (∀ p ∈ cl, CellK cenv p.1 p.2) →
    W w A (pyIter it) (fun it' h' => it' = it ∧ h' = h₃) h₃ ∧
    WC w A (.compLoop (.ListComp elt [⟨.Name x px, iter, [], 0⟩] scope pos) 0 it (.ref a) cenv) (fun f h₄ => ∃ ls'' vs n l₄, Here K w H0 cenv gs' ls'' h₄ (X :: (a, lstO vs n) :: l₄) ∧ R a vs n l₄ h₄) h₃
theorem W_standIf {α : Type} {c : Prop} [Decidable c] {pos : Pos} {k : PUnit → Sem α} {Q : α → Heap → Prop} (y : W w A (k ()) Q h) : W w A (if c then (standAt pos >>= k) else k ()) Q h := by
  split
  · exact W_bind (W_standAt y)
  · exact y
theorem W_newListE {Q : Value → Heap → Prop} (D : Here K w H0 env gs ls h l) (q : ∀ h' a, Here K w H0 env gs ls h' ((a, lstO [] 0) :: l) → Q (.ref a) h') : W w A (newList []) Q h :=
  W_any fun s e => wpAny_newObj_type (by subst e; exact ⟨⟨rfl, rfl⟩, q _ _ (D.alloc rfl)⟩) (by show 0 ≤ sizeLine; exact Nat.zero_le _)
theorem W_compEnv {cl : List (Str × Addr)} {gs' : List Str} {Q : Env → Heap → Prop} (D : Here K w H0 env gs ls h l)
    (hx : scope.names.lookup x = some .local ∧ (x == ("__debug__" : Str)) = false) (hg : ∀ n ∈ gs', scope.names.lookup n = some .globalImplicit ∧ (n == ("__debug__" : Str)) = false) (hcell : ∀ y ∈ scope.names, ¬ y.2 = .cell) (hk : scope.kind = .function)
    (hcl : ∀ p ∈ cl, CellK env p.1 p.2 ∧ scope.names.lookup p.1 = some .free ∧ cl.lookup p.1 = some p.2)
    (q : ∀ h' C X, Here K w H0 (compEnvC scope cl C env) gs' [(x, none)] h' (X :: l) → (∀ p ∈ cl, CellK (compEnvC scope cl C env) p.1 p.2) →
      (∀ ls'' h'' l', Here K w H0 (compEnvC scope cl C env) gs' ls'' h'' (X :: l') → ∃ od, Here K w H0 env gs ls h'' ((C, od) :: l')) →
      Q (newEnv scope C env.globals cl env.qual none .none (some env) builtinsNs) h') : W w A (newFunctionEnv scope env.globals cl [] env.qual none .none (some env)) Q h := by
  obtain ⟨odl, E, N⟩ := D.fr
  refine W_any fun s e => wpAny_newFunctionEnv (s := s) (scope := scope) (binds := []) (fun y hy => hcell y hy) (fun y hy => nomatch hy) (fun h' hn hs' => ⟨⟨rfl, rfl⟩, ?_⟩) hk
  subst e
  obtain ⟨o', es, ep, ho', hd', hsk, hm⟩ := hn
  have E1 : Led H0 h' ((s.heap.objs.size, o') :: (env.locals, odl) :: l) :=
    (E.alloc (o := { cls := .type (if (some env).isSome then "dict" else "frame"), data := .dict #[] }) rfl).turn (fun b hb => hs'.2 b hb) hs'.1 ho' (fun e => by rw [hd'] at e; cases e)
  have rl : ∀ {n : Str} {k : NameKind}, scope.names.lookup n = some k → (compEnvC scope cl s.heap.objs.size env).kindOf n = some (if (k == NameKind.free && env.scope.kind == .function && env.kindOf n == some .cell) then .cell else k) := fun e => lookup_relabel e
  refine q h' s.heap.objs.size (env.locals, odl) ⟨D.base, hk, D.gl, D.bl, fun p hp => ?_, fun n hn => ?_, o', E1, es, ep, hd', hsk, by simp, fun p hp => ?_⟩ (fun p hp => ?_) (fun ls'' h'' l' D' => ?_)
  · obtain rfl : p = (x, none) := by simpa using hp
    exact ⟨rl hx.1, hx.2⟩
  · exact ⟨rl (hg n hn).1, (hg n hn).2⟩
  · obtain rfl : p = (x, none) := by simpa using hp
    rw [hm]; rfl
  · obtain ⟨a, b, c⟩ := hcl p hp
    refine ⟨?_, c, a.d⟩
    rw [rl b, if_pos]
    rw [D.kind, a.k]; rfl
  · obtain ⟨od2, E2, _⟩ := D'.fr
    exact ⟨od2, D.base, D.kind, D.gl, D.bl, D.lk, D.gk, odl, E2.swap, N⟩
theorem W_letGoVars {cenv : Env} {cellsOf : List (Str × NameKind) → List Value} {o : Obj} {ns : Str → Option Value} (D : Here K w H0 env gs ls h ((cenv.locals, o) :: l)) (hk : cenv.scope.kind = .function) (hn : h.Ns cenv.locals ns) {vs : List (Str × NameKind)}
    (hv : ∀ x ∈ vs, x.2 = .local → cenv.kindOf x.1 = some .local) {Q : Unit → Heap → Prop} (q : ∀ h', Here K w H0 env gs ls h' l → Q () h') : W w A (comprehension.letGo cenv cellsOf vs) Q h :=
  W_any fun s e => by
    subst e
    refine wpAny_comp_letGo hk vs s ns hv hn fun h' m' hn' hs => ⟨⟨rfl, rfl⟩, q h' ?_⟩
    obtain ⟨o', es, ep, ho', hd', _⟩ := hn'
    exact (D.same hs ho' (fun e => by rw [hd'] at e; cases e)).drop
theorem W_compr {cpos : Pos} {cl : List (Str × Addr)} {gs' : List Str} {use : Option (Value → Sem Unit)} {first : Sem Value} {Q : Value → Heap → Prop}
    (R : Addr → List Value → Nat → List (Addr × Obj) → Heap → Prop)
    (hs : ∀ x, foldedSetIterable iter env x = pure x) (hclos : closureFor scope env = pure cl) (hchk : compOk scope x gs' = true) (hcl : ∀ p ∈ cl, CellK env p.1 p.2 ∧ scope.names.lookup p.1 = some .free ∧ cl.lookup p.1 = some p.2)
    (z : W w A first (fun xv h₁ => W w A (pyIter xv) (CompBlk K w A H0 env gs ls elt iter x px pos scope cl gs' R) h₁) h)
    (fin : ∀ C oC a vs n l₄ h₄, Here K w H0 env gs ls h₄ ((C, oC) :: (a, lstO vs n) :: l₄) → R a vs n l₄ h₄ → match use with
      | none => ∀ h', Here K w H0 env gs ls h' ((a, lstO vs n) :: l₄) → Q (.ref a) h'
      | some u => W w A (u (.ref a)) (fun _ h₅ => ∃ ls' l₅, Here K w H0 env gs ls' h₅ ((C, oC) :: l₅) ∧ ∀ h', Here K w H0 env gs ls' h' l₅ → Q .none h') h₄) :
    W w A (comprehension (.ListComp elt [⟨.Name x px, iter, [], 0⟩] scope pos) scope env cpos (newList []) false first use) Q h := by
  simp only [compOk, Bool.and_eq_true, List.all_eq_true, beq_iff_eq, Bool.not_eq_true', bne_iff_ne, ne_eq, Bool.or_eq_true] at hchk
  obtain ⟨⟨⟨⟨hx, hg⟩, hcell⟩, hk⟩, hloc⟩ := hchk
  unfold comprehension
  rw [hclos]
  refine W_bind (W_mono z fun xv h₁ z => W_bind (W_standAt (W_bind (W_of_eq (hs xv) (W_bind (W_holding (W_mono z fun it h₂ z => ?_)))))))
  obtain ⟨l₂, D, z⟩ := z
  refine W_standIf (W_bind (W_newListE D fun h3 a D => ?_))
  refine W_bind (W_pure (W_bind (W_compEnv (x := x) (gs' := gs') D hx hg hcell hk hcl fun h4 C X D hC back => ?_)))
  obtain ⟨z1, z2⟩ := z _ _ _ _ D hC
  have hv : ∀ (vs : List (Str × NameKind)), (∀ y ∈ vs, y ∈ scope.names) → ∀ y ∈ vs, y.2 = .local → (compEnvC scope cl C env).kindOf y.1 = some .local := fun vs hvs y hy hl =>
    lookup_relabel_local ((hloc y (hvs y hy)).resolve_left fun n => n hl)
  refine W_holding (W_bind (W_attempt (W_holding (W_run (WC_mono (WC_compStart z2 z1) fun f h5 y => ?_)))))
  obtain ⟨ls'', vs, n, l₄, D, r⟩ := y
  obtain ⟨m, hn, _⟩ := D.ns
  obtain ⟨od, D5⟩ := back _ _ _ D
  have F := fin _ _ _ _ _ _ _ D5 r
  cases use with
  | none =>
    refine W_bind (W_holding (W_letGoVars (cenv := compEnvC scope cl C env) D5 hk hn (hv _ fun y hy => (List.mem_filter.mp (List.mem_reverse.mp hy)).1) fun h' D => W_pure (F h' D)))
  | some u =>
    refine W_bind (W_rule (W_bind (W_holding (W_mono F fun _ h6 y => ?_))))
    obtain ⟨ls', l₅, D, q⟩ := y
    have hn' := hn.at' fun o e => by
      have e1 := D5.led.own (C, od) (.head _)
      rw [show (compEnvC scope cl C env).locals = C from rfl] at e
      rw [e1] at e
      cases e
      exact D.led.own (C, od) (.head _)
    refine W_bind (W_letGoVars (cenv := compEnvC scope cl C env) D hk hn' (hv _ fun y hy => ?_) fun h' D => W_pure (q h' D))
    rcases List.mem_append.mp hy with h1 | h1
    · exact (List.mem_filter.mp (List.mem_reverse.mp (List.mem_of_mem_drop h1))).1
    · exact (List.mem_filter.mp (List.mem_reverse.mp (List.mem_of_mem_take h1))).1
/-- y = [elt for x in iter] -/
theorem W_AssignComp {y : Str} {py spos : Pos} {cl : List (Str × Addr)} {gs' : List Str} {Q : Flow → Heap → Prop} (D0 : Here K w H0 env gs ls h l) (ls' : Addr → List (Str × Option Value))
    (R : Addr → List Value → Nat → List (Addr × Obj) → Heap → Prop)
    (hsw : swapsWith (.ListComp elt [⟨.Name x px, iter, [], 0⟩] scope pos) (some (.Name y py)) spos.line env = pure true)
    (hclos : closureFor scope env = pure cl) (hchk : compOk scope x gs' = true) (hcl : ∀ p ∈ cl, CellK env p.1 p.2 ∧ scope.names.lookup p.1 = some .free ∧ cl.lookup p.1 = some p.2)
    (hy : ∀ a, SetL y (.ref a) ls (ls' a))
    (z : W w A (eval iter env) (fun xv h₁ => W w A (pyIter xv) (CompBlk K w A H0 env gs ls elt iter x px pos scope cl gs' R) h₁) h)
    (fin : ∀ a vs n l₄ h₄ h', R a vs n l₄ h₄ → Here K w H0 env gs (ls' a) h' ((a, lstO vs n) :: l₄) → Q .next h')
    (hs : ∀ x, foldedSetIterable iter env x = pure x := by intro _; rfl) :
    W w A (exec (.Assign [.Name y py] (.ListComp elt [⟨.Name x px, iter, [], 0⟩] scope pos) spos) env) Q h := by
  rw [exec_Assign_Name_used _ _ _ _ hsw]
  refine W_bind (W_standAt (W_bind ?_))
  show W w A (do let _ ← comprehension (.ListComp elt [⟨.Name x px, iter, [], 0⟩] scope pos) scope env _ (newList []) false (eval iter env) (some (assign (.Name y py) env))) _ h
  refine W_bind (W_compr (use := some (assign (.Name y py) env)) (Q := fun _ h' => W w A (pure ()) (fun _ h'' => W w A (pure Flow.next) Q h'') h') R hs hclos hchk hcl z fun C oC a vs n l₄ h₄ D r => ?_)
  dsimp only
  rw [PySem.assign_Name]
  refine W_bind (W_standAt (W_bindName (W_store D (hy a) fun h5 D => ⟨ls' a, _, D, fun h' D => W_pure (W_pure (fin _ _ _ _ _ _ r D))⟩)))
/-- [elt for x in iter] -/
theorem W_Comp {cl : List (Str × Addr)} {gs' : List Str} {Q : Value → Heap → Prop} (D0 : Here K w H0 env gs ls h l)
    (R : Addr → List Value → Nat → List (Addr × Obj) → Heap → Prop)
    (hclos : closureFor scope env = pure cl) (hchk : compOk scope x gs' = true) (hcl : ∀ p ∈ cl, CellK env p.1 p.2 ∧ scope.names.lookup p.1 = some .free ∧ cl.lookup p.1 = some p.2)
    (z : W w A (eval iter env) (fun xv h₁ => W w A (pyIter xv) (CompBlk K w A H0 env gs ls elt iter x px pos scope cl gs' R) h₁) h)
    (fin : ∀ a vs n l₄ h₄ h', R a vs n l₄ h₄ → Here K w H0 env gs ls h' ((a, lstO vs n) :: l₄) → Q (.ref a) h')
    (hs : ∀ x, foldedSetIterable iter env x = pure x := by intro _; rfl) :
    W w A (eval (.ListComp elt [⟨.Name x px, iter, [], 0⟩] scope pos) env) Q h := by
  rw [eval_ListComp]
  exact W_compr (use := none) R hs hclos hchk hcl z fun C oC a vs n l₄ h₄ D r h' D' => fin _ _ _ _ _ _ r D'
theorem Here.fr1to2 {x y z : Addr × Obj} (D : Here K w H0 env gs ls h (x :: y :: z :: l)) : Here K w H0 env gs ls h (y :: z :: x :: l) := D.perm (List.perm_middle (l₁ := [y, z])).symm
/-- the block of a comprehension over a list that the call has made -/
theorem CompBlk.list {cl : List (Str × Addr)} {gs' : List Str} {src it : Addr} {o : Obj} {items : List Value} {n0 m0 : Nat} (O : AOk m0 A) (D : Here K w H0 env gs ls h ((it, o) :: l)) (I : LIt o src 0) (J : Nat → List Value → List (Addr × Obj) → Prop) (j0 : J 0 [] l)
    (hsrc : ∀ i vs l', J i vs l' → (src, lstO items n0) ∈ l') (hz : items.length ≤ 1000)
    (el : ∀ i v, items[i]? = some v → ∀ vs l', J i vs l' → ∀ cenv h₃ Y1 Y2 Y3, Here K w H0 cenv gs' [(x, some v)] h₃ (Y1 :: Y2 :: Y3 :: l') → (∀ p ∈ cl, CellK cenv p.1 p.2) →
      W w A (eval elt cenv) (fun r h₄ => ∃ l'', J (i + 1) (vs ++ [r]) l'' ∧ Here K w H0 cenv gs' [(x, some v)] h₄ (Y1 :: Y2 :: Y3 :: l'')) h₃) :
    CompBlk K w A H0 env gs ls elt iter x px pos scope cl gs' (fun a vs n l₄ h₄ => J items.length vs l₄) (.ref it) h := by
  refine ⟨_, D, fun cenv h₃ X a D hC => ⟨?_, ?_⟩⟩
  · exact W_any fun s e => wpAny_pyIter_listiter (i := 0) ⟨_, e ▸ D.led.own _ (.tail _ (.tail _ (.head _))), I.c, I.d⟩ ⟨Rest.refl s, rfl, e⟩
  · refine WC_compInd (fun k h => ∃ i vs n o ov l', Here K w H0 cenv gs' [(x, ov)] h ((it, o) :: X :: (a, lstO vs n) :: l') ∧ LIt o src i ∧ i ≤ items.length ∧ vs.length = i ∧ k = items.length - i ∧ J i vs l') ?_ ⟨_, 0, [], 0, o, none, l, D.perm (List.perm_middle (l₁ := [_, _])), I, Nat.zero_le _, rfl, rfl, j0⟩
    rintro k h ⟨i, vs, n, o, ov, l', D, I, hi, hl, rfl, j⟩
    have hs := D.led.own _ (.tail _ (.tail _ (.tail _ (hsrc _ _ _ j))))
    by_cases hlt : i < items.length
    · refine W_nextList D I hs (List.getElem?_eq_getElem hlt) fun h o D I => ?_
      dsimp only
      refine W_store D SetL.head fun h D => W_mono (el i _ (List.getElem?_eq_getElem hlt) vs l' j cenv h _ _ _ D hC) fun r h y => ?_
      obtain ⟨l'', j, D⟩ := y
      refine W_lappend (D.perm (List.perm_middle (l₁ := [_, _]))) (by rw [sizeLine_eq]; omega) fun h n' D => ?_
      exact ⟨_, by omega, i + 1, vs ++ [r], n', o, _, l'', D.perm (List.perm_middle (l₁ := [_, _])).symm, I, by omega, by simp [hl], rfl, j⟩
    · obtain rfl : i = items.length := by omega
      exact W_endList O D I hs (Nat.le_refl _) fun h D => ⟨_, vs, n, l', D, j⟩
/-- the block of a comprehension over a range -/
theorem CompBlk.range {cl : List (Str × Addr)} {gs' : List Str} {it : Addr} {lo : Int} {m m0 : Nat} (O : AOk m0 A) (D : Here K w H0 env gs ls h ((it, rngIt lo m 1) :: l)) (J : Nat → List Value → List (Addr × Obj) → Prop) (j0 : J 0 [] l) (hz : m ≤ 1000)
    (el : ∀ i t, i < m → ∀ vs l', J i vs l' → ∀ cenv h₃ Y1 Y2 Y3, Here K w H0 cenv gs' [(x, some (.int (lo + i) t))] h₃ (Y1 :: Y2 :: Y3 :: l') → (∀ p ∈ cl, CellK cenv p.1 p.2) →
      W w A (eval elt cenv) (fun r h₄ => ∃ l'', J (i + 1) (vs ++ [r]) l'' ∧ Here K w H0 cenv gs' [(x, some (.int (lo + i) t))] h₄ (Y1 :: Y2 :: Y3 :: l'')) h₃) :
    CompBlk K w A H0 env gs ls elt iter x px pos scope cl gs' (fun a vs n l₄ h₄ => J m vs l₄) (.ref it) h := by
  refine ⟨_, D, fun cenv h₃ X a D hC => ⟨?_, ?_⟩⟩
  · refine W_any fun s e => (Walks.range O.hd it lo 1 m).self 0 s _ _ ?_ ⟨Rest.refl s, rfl, e⟩
    have := D.led.own (it, rngIt lo m 1) (.tail _ (.tail _ (.head _)))
    show s.heap.get? it = some _
    rw [e, this]
    simp
  · refine WC_compInd (fun k h => ∃ i vs n ov l', Here K w H0 cenv gs' [(x, ov)] h ((it, rngIt (lo + (i : Nat)) ((m : Int) - (i : Nat)) 1) :: X :: (a, lstO vs n) :: l') ∧ i ≤ m ∧ vs.length = i ∧ k = m - i ∧ J i vs l') ?_ ⟨_, 0, [], 0, none, l, by simpa using D.perm (List.perm_middle (l₁ := [_, _])), Nat.zero_le _, rfl, rfl, j0⟩
    rintro k h ⟨i, vs, n, ov, l', D, hi, hl, rfl, j⟩
    by_cases hlt : i < m
    · refine W_nextRange D (by omega) fun h t D => ?_
      dsimp only
      refine W_store D SetL.head fun h D => W_mono (el i _ hlt vs l' j cenv h _ _ _ D hC) fun r h y => ?_
      obtain ⟨l'', j, D⟩ := y
      refine W_lappend (D.perm (List.perm_middle (l₁ := [_, _]))) (by rw [sizeLine_eq]; omega) fun h n' D => ?_
      have D := D.perm (List.perm_middle (l₁ := [_, _])).symm
      rw [show lo + (i : Int) + 1 = lo + ((i + 1 : Nat) : Int) by omega, show (m : Int) - (i : Nat) - 1 = (m : Int) - ((i + 1 : Nat) : Int) by omega] at D
      exact ⟨_, by omega, i + 1, vs ++ [r], n', _, l'', D, by omega, by simp [hl], rfl, j⟩
    · obtain rfl : i = m := by omega
      exact W_endRange O D (by omega) fun h D => ⟨_, vs, n, l', D, j⟩
end
end

-- FE3
section
open PySem PySem.W PySem.Calls PyProof.Rows
theorem ite_bt {c : Bool} {p q : Prop} (h : c = true) (x : p) : if c = true then p else q := by rw [if_pos h]; exact x
theorem ite_bf {c : Bool} {p q : Prop} (h : c = false) (x : q) : if c = true then p else q := by rw [if_neg (by rw [h]; decide)]; exact x
theorem ite_join {α : Type} {w : World} {A : Around} {h : Heap} {c : Prop} [Decidable c] {t1 t2 : Sem α} {Q Q' : α → Heap → Prop} (x : if c then W w A t1 Q h else W w A t2 Q h) (y : ∀ a h', Q a h' → Q' a h') : if c then W w A t1 Q' h else W w A t2 Q' h := by
  split
  · rw [if_pos ‹_›] at x; exact W_mono x y
  · rw [if_neg ‹_›] at x; exact W_mono x y
end
section
open PySem PySem.W PySem.Calls PyProof.Rows
-- lines of my own for the walk
local macro_rules | `(tactic| kt_at_get) => `(tactic| with_reducible first
  | exact glob_unpack _
  | exact glob_string_types _
  | exact glob_uoffset _
  | exact glob_soffset _
  | exact glob_BoolFlags _
  | exact glob_Uint8Flags _
  | exact glob_Uint16Flags _
  | exact glob_Uint32Flags _
  | exact glob_Uint64Flags _
  | exact glob_Int8Flags _
  | exact glob_Int16Flags _
  | exact glob_Int32Flags _
  | exact glob_Int64Flags _
  | exact glob_SOffsetTFlags _
  | exact glob_UOffsetTFlags _
  | exact glob_VOffsetTFlags _
  | exact glob_enforce_number _
  | exact glob_FILE_IDENTIFIER_LENGTH _
  | exact glob_Write _
  | exact glob_OffsetArithmeticError _
  | exact glob_IsNotNestedError _
  | exact glob_IsNestedError _
  | exact glob_BuilderSizeError _
  | exact glob_BuilderNotFinishedError _
  | exact glob_EndVectorLengthMismatched _
  | exact glob_VtableMetadataFields _
  | exact glob_Builder _
  | exact glob_law_widths _
  | exact glob_law_scalar _
  | exact glob_law_slot _
  | exact glob_law_put _
  | exact glob_law_message _
  | exact glob_law_left _
  | exact glob_law_refused _)
local macro_rules | `(tactic| kt_at_item) => `(tactic| with_reducible first
  | exact keep_enforce_number _
  | exact keep_Write _
  | exact keep_law_widths _
  | exact keep_law_scalar _
  | exact keep_law_slot _
  | exact keep_law_put _
  | exact keep_law_message _
  | exact keep_law_left _
  | exact keep_law_refused _)
local macro_rules | `(tactic| kt_at_method) => `(tactic| with_reducible first
  | exact bi_bytearray _
  | exact bi_len _
  | exact bi_min _
  | exact bi_reversed _
  | exact bi_tuple _
  | exact bi_isinstance _
  | exact bi_range _
  | exact bi_bytes _)
local macro_rules | `(tactic| kt_at_notin) => `(tactic| with_reducible first
  | exact boot_bytearray
  | exact boot_len
  | exact boot_min
  | exact boot_reversed
  | exact boot_tuple
  | exact boot_isinstance
  | exact boot_range
  | exact boot_bytes)
local macro_rules | `(tactic| kt_at_in) => `(tactic| with_reducible first
  | exact meth_Clear _
  | exact meth_Output _
  | exact meth_StartObject _
  | exact meth_WriteVtable _
  | exact meth_EndObject _
  | exact meth_GrowByteBuffer _
  | exact meth_Head _
  | exact meth_Offset _
  | exact meth_Pad _
  | exact meth_Prep _
  | exact meth_PrependSOffsetTRelative _
  | exact meth_PrependUOffsetTRelative _
  | exact meth_StartVector _
  | exact meth_EndVector _
  | exact meth_CreateSharedString _
  | exact meth_CreateString _
  | exact meth_assertNested _
  | exact meth_assertNotNested _
  | exact meth_Slot _
  | exact meth_iFinish _
  | exact meth_Finish _
  | exact meth_FinishSizePrefixed _
  | exact meth_Prepend _
  | exact meth_PrependSlot _
  | exact meth_PrependBoolSlot _
  | exact meth_PrependUint8Slot _
  | exact meth_PrependUint16Slot _
  | exact meth_PrependUint32Slot _
  | exact meth_PrependUint64Slot _
  | exact meth_PrependInt8Slot _
  | exact meth_PrependInt16Slot _
  | exact meth_PrependInt32Slot _
  | exact meth_PrependInt64Slot _
  | exact meth_PrependUOffsetTRelativeSlot _
  | exact meth_PrependBool _
  | exact meth_PrependUint8 _
  | exact meth_PrependUint16 _
  | exact meth_PrependUint32 _
  | exact meth_PrependUint64 _
  | exact meth_PrependInt8 _
  | exact meth_PrependInt16 _
  | exact meth_PrependInt32 _
  | exact meth_PrependInt64 _
  | exact meth_ForceDefaults _
  | exact meth_PrependVOffsetT _
  | exact meth_Place _
  | exact meth_PlaceSOffsetT _
  | exact meth_PlaceUOffsetT _)
local macro_rules | `(tactic| kpc_turns) => `(tactic| with_reducible first
  | exact fa_Uint8Flags _
  | exact fa_Uint32Flags _
  | exact fa_Int32Flags _
  | exact fa_SOffsetTFlags _
  | exact fa_UOffsetTFlags _
  | exact fa_VOffsetTFlags _
  | exact fa_max _)
local macro_rules | `(tactic| kt_len) => `(tactic| first | with_reducible exact SetL.head | (with_reducible apply SetL.tail; kt_len))
local macro_rules | `(tactic| ktr_rel) => `(tactic| first | with_reducible exact List.mem_cons_self | (with_reducible refine List.mem_cons_of_mem _ ?_; ktr_rel))
local macro_rules | `(tactic| keq_rows) => `(tactic| first
  | ((with_reducible show W _ _ (PySem.execs _ _) _ _); with_reducible first
    | refine W_cons ?_
    | refine W_nil ?_
    | fail)
  | ((with_reducible show W _ _ (PySem.exec _ _) _ _); with_reducible first
    | refine W_If ?_
    | refine W_AssignName ?_ (by with_unfolding_all exact rfl)
    | refine W_AssignAttr ?_ (by with_unfolding_all exact rfl)
    | refine W_AssignSub ?_ (by with_unfolding_all exact rfl)
    | refine W_AugName ?_
    | refine W_Expr (Here.inter (by with_reducible assumption)) ?_ (by with_unfolding_all exact rfl)
    | refine W_Return ?_
    | refine W_Return0 ?_
    | refine W_Continue ?_
    | refine W_Pass ?_
    | fail)
  | ((with_reducible show W _ _ (PySem.eval (.Name _ _) _) _ _); with_reducible first
    | refine W_local (by with_reducible assumption) (by ktr_rel) ?_
    | refine W_global (by with_reducible assumption) (by ktr_rel) (by kt_at_get) ?_
    | refine W_cell (by with_reducible assumption) (by with_reducible assumption) (by ktr_rel) (by with_reducible assumption) ?_
    | fail)
  | ((with_reducible show W _ _ (PySem.eval (.Constant _ _ _) _) _ _); with_reducible first
    | (refine W_int ?_; intro _)
    | refine W_none ?_
    | refine W_boolC ?_
    | (refine W_strC ?_; intro _)
    | (refine W_bytesC ?_; intro _)
    | fail)
  | ((with_reducible show W _ _ (PySem.eval (.Call (.Attribute (.Name _ _) _ _) _ _ _) _) _ _); with_reducible first
    | refine W_mcallC0 (by with_reducible assumption) (by with_reducible assumption) (by ktr_rel) (by with_reducible assumption) (Here.inst0 (by with_reducible assumption)) (by kt_at_in) ?_ (by with_unfolding_all exact rfl)
    | refine W_mcallC (by with_reducible assumption) (by with_reducible assumption) (by ktr_rel) (by with_reducible assumption) (Here.inst0 (by with_reducible assumption)) (by kt_at_in) ?_ (by with_unfolding_all exact rfl) (by with_unfolding_all exact rfl) (by with_unfolding_all exact rfl)
    | refine W_mcall0 (by with_reducible assumption) (by ktr_rel) (Here.inst0 (by with_reducible assumption)) (by kt_at_in) ?_ (by with_unfolding_all exact rfl)
    | refine W_mcall (by with_reducible assumption) (by ktr_rel) (Here.inst0 (by with_reducible assumption)) (by kt_at_in) ?_ (by with_unfolding_all exact rfl) (by with_unfolding_all exact rfl) (by with_unfolding_all exact rfl)
    | fail)
  | ((with_reducible show W _ _ (PySem.eval (.Call (.Name _ _) _ _ _) _) _ _); with_reducible first
    | refine W_fcall0 (by with_reducible assumption) (by ktr_rel) (by kt_at_get) (by kt_at_item) ?_
    | refine W_fcall (by with_reducible assumption) (by ktr_rel) (by kt_at_get) (by kt_at_item) ?_ (by with_unfolding_all exact rfl)
    | refine W_bcall (by with_reducible assumption) (by ktr_rel) (by kt_at_method) (by kt_at_notin) (by decide) ?_ (by with_unfolding_all exact rfl)
    | refine W_tcall (by with_reducible assumption) (by ktr_rel) (by kt_at_method) (by kt_at_notin) (by decide) ?_ (by with_unfolding_all exact rfl)
    | fail)
  | ((with_reducible show W _ _ (PySem.eval _ _) _ _); with_reducible first
    | refine W_AttrName ?_
    | refine W_BinOp ?_
    | refine W_UnaryOp ?_
    | refine W_Compare1 ?_ (by with_unfolding_all exact rfl)
    | refine W_IfExp ?_
    | fail)
  | ((with_reducible show W _ _ (spliced _) _ _); with_reducible first
    | refine W_sp1 ?_ (by with_unfolding_all exact rfl)
    | refine W_sp0 ?_
    | fail)
  | ((with_reducible show W _ _ (binaryOp _ _ _) _ _); with_reducible first
    | (refine W_add ?_; intro _)
    | (refine W_sub ?_; intro _)
    | (refine W_and ?_; intro _)
    | (refine W_fdiv (by decide) (PyProof.noPylong_small (by decide)) ?_; intro _)
    | (refine W_mod (by decide) ?_; intro _)
    | fail)
  | ((with_reducible show W _ _ (inplaceOp _ _ _) _ _); with_reducible first
    | (refine W_iadd ?_; intro _)
    | (refine W_isub ?_; intro _)
    | (refine W_iand ?_; intro _)
    | fail)
  | ((with_reducible show W _ _ (unaryOp _ _) _ _); with_reducible first
    | (refine W_neg ?_; intro _)
    | (refine W_inv ?_; intro _)
    | fail)
  | ((with_reducible show W _ _ (compareOp _ _ _) _ _); with_reducible first
    | refine W_eq ?_
    | refine W_ne ?_
    | refine W_leB ?_
    | refine W_neB ?_
    | refine W_lt ?_
    | refine W_le ?_
    | refine W_gt ?_
    | refine W_ge ?_
    | refine W_is ?_
    | refine W_isNot ?_
    | fail)
  | ((with_reducible show W _ _ (getAttr _ _ _) _ _); with_reducible first
    | refine get_head (by with_reducible assumption) ?_
    | refine get_Bytes (by with_reducible assumption) ?_
    | refine get_nested (by with_reducible assumption) ?_
    | refine get_ma (by with_reducible assumption) ?_
    | refine get_cv (by with_reducible assumption) ?_
    | refine get_fin (by with_reducible assumption) ?_
    | refine get_force (by with_reducible assumption) ?_
    | refine get_oe (by with_reducible assumption) ?_
    | refine get_ss (by with_reducible assumption) ?_
    | refine get_vt (by with_reducible assumption) ?_
    | refine get_vne (by with_reducible assumption) (by with_reducible assumption) ?_
    | refine W_flag (Here.kin (by with_reducible assumption)) (by kpc_turns) ?_
    | fail)
  | ((with_reducible show W _ _ (setAttr _ _ _) _ _); with_reducible first
    | (refine set_head (by with_reducible assumption) ?_; intro _ _)
    | (refine set_Bytes (by with_reducible assumption) ?_; intro _ _)
    | (refine set_nested (by with_reducible assumption) ?_; intro _ _)
    | (refine set_ma (by with_reducible assumption) ?_; intro _ _)
    | (refine set_fin (by with_reducible assumption) ?_; intro _ _)
    | (refine set_force (by with_reducible assumption) ?_; intro _ _)
    | (refine set_vt (by with_reducible assumption) ?_; intro _ _)
    | (refine set_cv0 (by with_reducible assumption) ?_; intro _ _)
    | (refine set_oe0 (by with_reducible assumption) ?_; intro _ _)
    | (refine set_ss0 (by with_reducible assumption) ?_; intro _ _)
    | (refine set_vne0 (by with_reducible assumption) ?_; intro _ _)
    | (refine set_cv1 (by with_reducible assumption) ?_; intro _ _)
    | (refine set_oe1 (by with_reducible assumption) ?_; intro _ _)
    | (refine set_ss1 (by with_reducible assumption) ?_; intro _ _)
    | (refine set_vne1 (by with_reducible assumption) ?_; intro _ _)
    | fail)
  | ((with_reducible show W _ _ (isTrue _ _ _) _ _); with_reducible first
    | refine W_tCompare1 ?_ (by with_unfolding_all exact rfl)
    | refine W_tChain ?_ (by with_unfolding_all exact rfl)
    | refine W_tNot ?_
    | refine W_tBool ?_
    | refine W_tVal ?_ (by with_unfolding_all exact rfl)
    | fail)
  | ((with_reducible show W _ _ (allTrue _ _ _) _ _); with_reducible first
    | refine W_all1 ?_
    | refine W_any1 ?_
    | refine W_all0 ?_
    | refine W_any0 ?_
    | fail)
  | ((with_reducible show W _ _ (truthy _) _ _); with_reducible first
    | refine W_truthyB ?_
    | refine W_truthyI ?_
    | refine W_truthyN ?_
    | fail)
  | ((with_reducible show W _ _ (storeName _ _ _) _ _); with_reducible first
    | (refine W_store (by with_reducible assumption) (by kt_len) ?_; intro _ _)
    | fail)
  | ((with_reducible show W _ _ (loadName _ _) _ _); with_reducible first
    | refine W_loadLocal (by with_reducible assumption) (by ktr_rel) ?_
    | fail)
  | (with_reducible refine then_next ?_)
  | ((with_reducible show (@ite Prop _ _ _ _)); with_reducible first | refine ite_t ?_ | refine ite_f ?_ | refine ite_nt ?_ | refine ite_nf ?_ | refine ite_bt (by decide) ?_ | refine ite_bf (by decide) ?_)
  | ((with_reducible show (Frag.In _ _ ∧ _)); with_reducible refine ⟨Here.kin (by with_reducible assumption), ?_⟩))
section
section
variable {w : World} {A : Around} {H0 h : Heap} {env : Env} {gs : List Str} {ls : List (Str × Option Value)} {l : List (Addr × Obj)} {b a C S c V : Addr} {as : AS} {T : List UInt8} {r n : Nat} {pos p p' : Pos} {x d : Value} {wd : Nat} {raw : List UInt8} {vs : List Value} {ns : List Int}
theorem IL.nil : IL [] [] := ⟨rfl, fun i n h => by simp at h⟩
theorem IL.cons {i : Int} {t : Tok} (H : IL vs ns) : IL (.int i t :: vs) (i :: ns) := by
  refine ⟨by simp [H.1], fun j n h => ?_⟩
  cases j with
  | zero => simp at h; subst h; exact ⟨t, rfl⟩
  | succ j => exact H.2 j n (by simpa using h)
def widths : List Int := [1, 1, 2, 4, 8, 1, 2, 4, 8]
def wdOf (k : Nat) : Nat := [1, 1, 2, 4, 8, 1, 2, 4, 8].getD k 1
theorem wdOf_at {k : Nat} (hk : k ≤ 8) : widths[k]? = some (wdOf k : Int) := by
  rcases k with _ | _ | _ | _ | _ | _ | _ | _ | _ | k <;> first | rfl | omega
theorem wdOf_isW {k : Nat} (hk : k ≤ 8) : isW (wdOf k) := by
  unfold isW
  rcases k with _ | _ | _ | _ | _ | _ | _ | _ | _ | k <;> first | decide | omega
theorem wdOf_b (k : Nat) : 1 ≤ wdOf k ∧ wdOf k ≤ 8 := by
  rcases k with _ | _ | _ | _ | _ | _ | _ | _ | _ | k <;> first | decide | (unfold wdOf; simp)
def lowOf (k : Nat) : Int := if 4 < k then 0 - 2 ^ (8 * wdOf k - 1) else 0
def topOf (k : Nat) : Int := 2 ^ (8 * wdOf k)
def num1 (k : Nat) (rest : Int) : Int := if rest.fmod 5 < 2 then (if rest.fmod 5 = 0 then 0 else topOf k - 1) else (rest.fdiv 5).fmod (topOf k)
def num2 (k : Nat) (rest : Int) : Int := if rest.fmod 5 = 2 then 0 - lowOf k else num1 k rest
def scB (rest : Int) : Bool := (num2 0 rest).fmod 2 == 1
def scI (k : Nat) (rest : Int) : Int := lowOf k + num2 k rest
/-- a scalar of the law, of kind k -/
def SV (k : Nat) (rest : Int) (v : Value) : Prop := (k = 0 ∧ v = .bool (scB rest)) ∨ (k ≠ 0 ∧ ∃ t, v = .int (scI k rest) t)

theorem W_TupleD {K : Frag} {elts : List Expr} {k : Nat} {Q : Value → Heap → Prop} (D0 : Here K w H0 env gs ls h l)
    (x : W w A (spliced (backTo pos (starEach elts env))) (fun vs h₁ => vs.length ≤ sizeLine ∧ ∃ l₁, Here K w H0 env gs ls h₁ l₁ ∧ ∀ h' a, Here K w H0 env gs ls h' ((a, tupO vs) :: l₁) → Q (.ref a) h') h) : W w A (eval (.Tuple elts k pos) env) Q h :=
  W_Tuple (W_mono x fun vs h₁ ⟨z, l₁, D, q⟩ => ⟨z, q _ _ (D.alloc rfl)⟩)
theorem sp_widths {Q : Value → Heap → Prop} (D : Here (hd.heap_39 w.params) w H0 env gs ls h l) (O : AOk 1 A) (q : ∀ h' a vs, IL vs widths → Here (hd.heap_39 w.params) w H0 env gs ls h' ((a, lstO vs 0) :: l) → Q (.ref a) h') : W w A (call (.ref 736) []) Q h := by
  refine W_fn D O [] [] [] [] (by k_is) (by k_is) (fun _ _ => BindsTo.of_eq rfl) rfl (by decide +kernel) ?_
  intro env A h X O D back
  simp only [startL, List.map_cons, List.map_nil, List.cons_append, List.nil_append] at D
  (repeat keq_rows)
  refine W_ListD D ?_
  (repeat keq_rows)
  refine ⟨by rw [sizeLine_eq]; simp, _, D, fun h a D => ?_⟩
  exact q _ a _ (.cons (.cons (.cons (.cons (.cons (.cons (.cons (.cons (.cons .nil))))))))) (back _ _ _ D.swap)
theorem sp_scalar {k : Nat} {kt rt : Tok} {rest : Int} {Q : Value → Heap → Prop} (hk : k ≤ 8) (D : Here (hd.heap_39 w.params) w H0 env gs ls h l) (O : AOk 2 A) (q : ∀ h' v, SV k rest v → Here (hd.heap_39 w.params) w H0 env gs ls h' l → Q v h') :
    W w A (call (.ref 743) [.int k kt, .int rest rt]) Q h := by
  have hw := wdOf_b k
  refine W_fn D O [("k", .int k kt), ("rest", .int rest rt)] ["k", "rest"] ["width", "low", "number"] ["_law_widths"] (by k_is) (by k_is) (fun _ _ => BindsTo.of_eq rfl) rfl (by decide +kernel) ?_
  intro env A h X O D back
  simp only [startL, List.map_cons, List.map_nil, List.cons_append, List.nil_append] at D
  (repeat keq_rows)
  refine W_Subscript ?_
  (repeat keq_rows)
  refine sp_widths D (O.mono (by omega)) fun h a vs I D => ?_
  (repeat keq_rows)
  obtain ⟨wt, hwt⟩ := I.2 k _ (wdOf_at hk)
  refine W_looks (looks_gip D.at0 rfl slot_list_getitem.lookup) ?_
  refine W_operate (W_lget D.at0 (by omega) (by omega) (by simpa using hwt) (W_letGo ?_))
  have D := D.drop
  (repeat keq_rows)
  (rename Here _ _ _ _ _ _ _ _ => D)
  refine ite_join (Q := fun (v : Value) h' => ∃ t, v = .int (lowOf k) t ∧ Here (hd.heap_39 w.params) w H0 env ["_law_widths"] [("k", some (.int k kt)), ("rest", some (.int rest rt)), ("width", some (.int (wdOf k) wt)), ("low", none), ("number", none)] h' (X :: l)) ?_ ?_
  · by_cases h4 : 4 < k
    · rw [if_pos (decide_eq_true (by omega))]
      (repeat keq_rows)
      refine W_mul (.of_left (by decide +kernel)) fun t2 => ?_
      (repeat keq_rows)
      refine W_pow (by omega) (by omega) (by decide) fun t3 => ?_
      (repeat keq_rows)
      have e : (0 : Int) - 2 ^ (8 * (wdOf k : Int) - 1).toNat = lowOf k := by rw [lowOf, if_pos h4, show (8 * (wdOf k : Int) - 1).toNat = 8 * wdOf k - 1 by omega]
      rw [e]
      exact ⟨_, rfl, D⟩
    · rw [if_neg (by simp; omega)]
      (repeat keq_rows)
      exact ⟨_, by rw [lowOf, if_neg h4], D⟩
  · rintro v h ⟨lt, rfl, D⟩
    (repeat keq_rows)
    refine W_mul (.of_left (by decide +kernel)) fun t2 => ?_
    (repeat keq_rows)
    refine W_pow (by omega) (by omega) (by decide) fun t3 => ?_
    rw [show (8 * (wdOf k : Int)).toNat = 8 * wdOf k by omega]
    (repeat keq_rows)
    refine W_mod (show topOf k ≠ 0 from Int.ne_of_gt (Int.pow_pos (by decide))) fun t4 => ?_
    (repeat keq_rows)
    (rename Here _ _ _ _ _ _ _ _ => D)
    refine ite_join (Q := fun (f : Flow) h' => f = .next ∧ ∃ t, Here (hd.heap_39 w.params) w H0 env ["_law_widths"] [("k", some (.int k kt)), ("rest", some (.int rest rt)), ("width", some (.int (wdOf k) wt)), ("low", some (.int (lowOf k) lt)), ("number", some (.int (num1 k rest) t))] h' (X :: l)) ?_ ?_
    · have m0 : 0 ≤ rest.fmod 5 := Int.fmod_nonneg_of_pos _ (by decide)
      by_cases h2 : rest.fmod 5 < 2
      · rw [if_pos (by simpa using h2)]
        (repeat keq_rows)
        refine W_Subscript ?_
        (repeat keq_rows)
        refine W_TupleD D ?_
        (repeat keq_rows)
        refine W_mul (.of_left (by decide +kernel)) fun t2 => ?_
        (repeat keq_rows)
        refine W_pow (by omega) (by omega) (by decide) fun t3 => ?_
        rw [show (8 * (wdOf k : Int)).toNat = 8 * wdOf k by omega]
        (repeat keq_rows)
        refine ⟨by rw [sizeLine_eq]; simp, _, D, fun h a D => ?_⟩
        (repeat keq_rows)
        refine W_looks (looks_gip D.at0 rfl slot_tuple_getitem.lookup) ?_
        have hv : num1 k rest = if rest.fmod 5 = 0 then 0 else topOf k - 1 := by rw [num1, if_pos h2]
        have key : ∀ t u, ∃ nt, [Value.int 0 t, Value.int (2 ^ (8 * wdOf k) - 1) u][(rest.fmod 5).toNat]? = some (.int (num1 k rest) nt) := fun t u => by
          rw [hv]
          obtain h0 | h1 : rest.fmod 5 = 0 ∨ rest.fmod 5 = 1 := by omega
          · exact ⟨t, by rw [if_pos h0, h0]; rfl⟩
          · exact ⟨u, by rw [if_neg (by omega), h1]; rfl⟩
        refine W_operate (W_tget D.at0 m0 (by omega) (key _ _).choose_spec (W_letGo ?_))
        have D := D.drop
        (repeat keq_rows)
        (rename Here _ _ _ _ _ _ _ _ => D)
        exact ⟨rfl, _, D⟩
      · rw [if_neg (by simpa using h2)]
        (repeat keq_rows)
        rw [num1, if_neg h2]
        exact ⟨rfl, _, D⟩
    · clear D
      rintro _ h ⟨rfl, nt, D⟩
      (repeat keq_rows)
      refine ite_join (Q := fun (f : Flow) h' => f = .next ∧ ∃ t, Here (hd.heap_39 w.params) w H0 env ["_law_widths"] [("k", some (.int k kt)), ("rest", some (.int rest rt)), ("width", some (.int (wdOf k) wt)), ("low", some (.int (lowOf k) lt)), ("number", some (.int (num2 k rest) t))] h' (X :: l)) ?_ ?_
      · by_cases h2 : rest.fmod 5 = 2
        · rw [if_pos (by simpa using h2)]
          (repeat keq_rows)
          (rename Here _ _ _ _ _ _ _ _ => D)
          rw [num2, if_pos h2]
          exact ⟨rfl, _, D⟩
        · rw [if_neg (by simpa using h2)]
          (repeat keq_rows)
          rw [num2, if_neg h2]
          exact ⟨rfl, _, D⟩
      · clear D
        rintro _ h ⟨rfl, nt, D⟩
        (repeat keq_rows)
        by_cases h0 : k = 0
        · subst h0
          rw [if_pos (by decide)]
          (repeat keq_rows)
          exact q _ _ (.inl ⟨rfl, rfl⟩) (back _ _ _ D)
        · rw [if_neg (by simpa using h0)]
          (repeat keq_rows)
          exact q _ _ (.inr ⟨h0, _, rfl⟩) (back _ _ _ D)
end
end

-- FE4
section
open PySem PySem.W PySem.Calls PyProof.Rows
section
variable {w : World} {A : Around} {H0 h : Heap} {env : Env} {gs : List Str} {ls : List (Str × Option Value)} {l : List (Addr × Obj)} {b a C S c V : Addr} {as : AS} {T : List UInt8} {r n : Nat} {pos p p' : Pos} {x d : Value} {wd : Nat} {raw : List UInt8} {vs : List Value} {ns : List Int}
theorem num2_b {k : Nat} (hk : k ≤ 8) (rest : Int) : 0 ≤ num2 k rest ∧ num2 k rest ≤ topOf k - 1 := by
  have t1 : ∀ x : Int, 0 ≤ x.fmod (topOf k) ∧ x.fmod (topOf k) < topOf k := fun x => by
    have hp : (0 : Int) < topOf k := Int.pow_pos (by decide)
    exact ⟨Int.fmod_nonneg_of_pos _ hp, Int.fmod_lt_of_pos _ hp⟩
  have t2 := t1 (rest.fdiv 5)
  have t3 : 0 ≤ 0 - lowOf k ∧ 0 - lowOf k ≤ topOf k - 1 := by
    rcases k with _ | _ | _ | _ | _ | _ | _ | _ | _ | k <;> first | decide | omega
  unfold num2 num1
  split
  · exact t3
  · split
    · split <;> omega
    · omega
theorem scI_u {k : Nat} (hk : k ≤ 4) (rest : Int) : 0 ≤ scI k rest ∧ scI k rest ≤ topOf k - 1 := by
  have := num2_b (k := k) (by omega) rest
  unfold scI lowOf
  rw [if_neg (by omega)]
  omega
theorem scI_s {k : Nat} (h4 : 4 < k) (hk : k ≤ 8) (rest : Int) : lowOf k ≤ scI k rest ∧ scI k rest ≤ lowOf k + topOf k - 1 := by
  have := num2_b (k := k) (by omega) rest
  unfold scI
  omega
/-- what a scalar is laid as -/
def rawOf (k : Nat) (rest : Int) : List UInt8 := if k = 0 then [if scB rest then 1 else 0] else (encI (wdOf k) (scI k rest)).toList
def flagOf (k : Nat) : Addr := [70, 84, 98, 112, 126, 140, 154, 168, 182].getD k 70
theorem rawOf_len {k : Nat} (hk : k ≤ 8) (rest : Int) : (rawOf k rest).length = wdOf k := by
  unfold rawOf
  split
  · subst k; rfl
  · exact enc_len _ _
theorem SV.fit {k : Nat} {rest : Int} (H : SV k rest x) (hk : k ≤ 8) : Fit w (flagOf k) x (wdOf k) (rawOf k rest) := by
  rcases H with ⟨rfl, rfl⟩ | ⟨h0, t, rfl⟩
  · exact fit_bool
  · rw [rawOf, if_neg h0]
    rcases k with _ | _ | _ | _ | _ | _ | _ | _ | _ | k
    · exact absurd rfl h0
    · have := scI_u (k := 1) (by omega) rest; exact fit_B this.1 this.2
    · have := scI_u (k := 2) (by omega) rest; exact fit_H this.1 this.2
    · have := scI_u (k := 3) (by omega) rest; exact fit_I this.1 this.2
    · have := scI_u (k := 4) (by omega) rest; exact fit_Q this.1 this.2
    · have := scI_s (k := 5) (by omega) (by omega) rest; exact fit_b this.1 this.2
    · have := scI_s (k := 6) (by omega) (by omega) rest; exact fit_h this.1 this.2
    · have := scI_s (k := 7) (by omega) (by omega) rest; exact fit_i this.1 this.2
    · have := scI_s (k := 8) (by omega) (by omega) rest; exact fit_q this.1 this.2
    · omega
def neOf (k : Nat) (r1 r2 : Int) : Bool := if k = 0 then scB r1 != scB r2 else scI k r1 != scI k r2
theorem SV.ne {k : Nat} {r1 r2 : Int} (H : SV k r1 x) (H' : SV k r2 d) : NeIs w x d (neOf k r1 r2) := by
  intro A Q h q
  rcases H with ⟨rfl, rfl⟩ | ⟨h0, t, rfl⟩
  · obtain rfl : d = .bool (scB r2) := H'.elim (fun z => z.2) fun z => absurd rfl z.1
    exact W_neB q
  · obtain ⟨u, rfl⟩ : ∃ u, d = .int (scI k r2) u := H'.elim (fun z => absurd z.1 h0) fun z => z.2
    rw [neOf, if_neg h0] at q
    exact W_ne q
theorem SV.nn {k : Nat} {rest : Int} (H : SV k rest x) : (x == Value.none) = false := by
  rcases H with ⟨rfl, rfl⟩ | ⟨h0, t, rfl⟩ <;> rfl
theorem sp_put {k : Nat} {kt : Tok} {rest : Int} {Q : Value → Heap → Prop} (hk : k ≤ 8) (H : SV k rest x) (D : HB w H0 env gs ls b as T r h l) (O : AOk 5 A) (hb : T.length ≤ 900)
    (q : ∀ h', HB w H0 env gs ls b (as.aligned (wdOf k)) (rawOf k rest ++ padT (wdOf k) 0 T) (r - al (wdOf k) (T.length + 0) - wdOf k) h' l → Q .none h') : W w A (call (.ref 757) [.ref b, .int k kt, x]) Q h := by
  obtain ⟨st, J, a, e1, e2, e3, D⟩ := D
  have F : Fit w (flagOf k) x (wdOf k) (rawOf k rest) := H.fit hk
  have hw := wdOf_isW hk
  refine W_fn2 D O [("b", .ref b), ("k", .int k kt), ("x", x)] ["b", "k", "x"] [] [] (by k_is) (by k_is) (fun _ _ => BindsTo.of_eq rfl) rfl (by decide +kernel) ?_
  intro env A h X O D back
  simp only [startL, List.map_cons, List.map_nil, List.cons_append, List.nil_append] at D
  (repeat keq_rows)
  by_cases k0 : k = 0
  · subst k0
    rw [if_pos (by decide)]
    (repeat keq_rows)
    refine sp_PrependBool (.of D a e1 e2 e3) (O.mono (by omega)) F hw hb fun h D => ?_
    obtain ⟨st, J, a, e1, e2, e3, D⟩ := D
    (repeat keq_rows)
    exact q _ (.of (back _ _ _ _ _ D) a e1 e2 e3)
  rw [if_neg (by simp only [beq_iff_eq]; omega)]
  (repeat keq_rows)
  by_cases k1 : k = 1
  · subst k1
    rw [if_pos (by decide)]
    (repeat keq_rows)
    refine sp_PrependUint8 (.of D a e1 e2 e3) (O.mono (by omega)) F hw hb fun h D => ?_
    obtain ⟨st, J, a, e1, e2, e3, D⟩ := D
    (repeat keq_rows)
    exact q _ (.of (back _ _ _ _ _ D) a e1 e2 e3)
  rw [if_neg (by simp only [beq_iff_eq]; omega)]
  (repeat keq_rows)
  by_cases k2 : k = 2
  · subst k2
    rw [if_pos (by decide)]
    (repeat keq_rows)
    refine sp_PrependUint16 (.of D a e1 e2 e3) (O.mono (by omega)) F hw hb fun h D => ?_
    obtain ⟨st, J, a, e1, e2, e3, D⟩ := D
    (repeat keq_rows)
    exact q _ (.of (back _ _ _ _ _ D) a e1 e2 e3)
  rw [if_neg (by simp only [beq_iff_eq]; omega)]
  (repeat keq_rows)
  by_cases k3 : k = 3
  · subst k3
    rw [if_pos (by decide)]
    (repeat keq_rows)
    refine sp_PrependUint32 (.of D a e1 e2 e3) (O.mono (by omega)) F hw hb fun h D => ?_
    obtain ⟨st, J, a, e1, e2, e3, D⟩ := D
    (repeat keq_rows)
    exact q _ (.of (back _ _ _ _ _ D) a e1 e2 e3)
  rw [if_neg (by simp only [beq_iff_eq]; omega)]
  (repeat keq_rows)
  by_cases k4 : k = 4
  · subst k4
    rw [if_pos (by decide)]
    (repeat keq_rows)
    refine sp_PrependUint64 (.of D a e1 e2 e3) (O.mono (by omega)) F hw hb fun h D => ?_
    obtain ⟨st, J, a, e1, e2, e3, D⟩ := D
    (repeat keq_rows)
    exact q _ (.of (back _ _ _ _ _ D) a e1 e2 e3)
  rw [if_neg (by simp only [beq_iff_eq]; omega)]
  (repeat keq_rows)
  by_cases k5 : k = 5
  · subst k5
    rw [if_pos (by decide)]
    (repeat keq_rows)
    refine sp_PrependInt8 (.of D a e1 e2 e3) (O.mono (by omega)) F hw hb fun h D => ?_
    obtain ⟨st, J, a, e1, e2, e3, D⟩ := D
    (repeat keq_rows)
    exact q _ (.of (back _ _ _ _ _ D) a e1 e2 e3)
  rw [if_neg (by simp only [beq_iff_eq]; omega)]
  (repeat keq_rows)
  by_cases k6 : k = 6
  · subst k6
    rw [if_pos (by decide)]
    (repeat keq_rows)
    refine sp_PrependInt16 (.of D a e1 e2 e3) (O.mono (by omega)) F hw hb fun h D => ?_
    obtain ⟨st, J, a, e1, e2, e3, D⟩ := D
    (repeat keq_rows)
    exact q _ (.of (back _ _ _ _ _ D) a e1 e2 e3)
  rw [if_neg (by simp only [beq_iff_eq]; omega)]
  (repeat keq_rows)
  by_cases k7 : k = 7
  · subst k7
    rw [if_pos (by decide)]
    (repeat keq_rows)
    refine sp_PrependInt32 (.of D a e1 e2 e3) (O.mono (by omega)) F hw hb fun h D => ?_
    obtain ⟨st, J, a, e1, e2, e3, D⟩ := D
    (repeat keq_rows)
    exact q _ (.of (back _ _ _ _ _ D) a e1 e2 e3)
  rw [if_neg (by simp only [beq_iff_eq]; omega)]
  (repeat keq_rows)
  obtain rfl : k = 8 := by omega
  refine sp_PrependInt64 (.of D a e1 e2 e3) (O.mono (by omega)) F hw hb fun h D => ?_
  obtain ⟨st, J, a, e1, e2, e3, D⟩ := D
  (repeat keq_rows)
  exact q _ (.of (back _ _ _ _ _ D) a e1 e2 e3)
theorem sp_slot {k : Nat} {kt : Tok} {o r1 r2 : Int} {t : Tok} {Q : Value → Heap → Prop} (hk : k ≤ 8) (H : SV k r1 x) (H' : SV k r2 d) (D : HB w H0 env gs ls b as T r h ((c, lstO vs n) :: l)) (O : AOk 6 A) (hb : T.length ≤ 900)
    (hn : as.nested = true) (hc : as.cv = some c) (h0 : 0 ≤ o) (h1 : o < vs.length) (hz : vs.length ≤ 1000)
    (q1 : (neOf k r1 r2 || as.force) = true → ∀ h' n' t, HB w H0 env gs ls b (as.aligned (wdOf k)) (rawOf k r1 ++ padT (wdOf k) 0 T) 0 h' ((c, lstO (vs.set o.toNat (.int (rawOf k r1 ++ padT (wdOf k) 0 T).length t)) n') :: l) → Q .none h')
    (q2 : (neOf k r1 r2 || as.force) = false → ∀ h', HB w H0 env gs ls b as T 0 h' ((c, lstO vs n) :: l) → Q .none h') : W w A (call (.ref 750) [.ref b, .int k kt, .int o t, x, d]) Q h := by
  obtain ⟨st, J, a, e1, e2, e3, D⟩ := D
  have F : Fit w (flagOf k) x (wdOf k) (rawOf k r1) := H.fit hk
  have F' : Fit w (flagOf k) d (wdOf k) (rawOf k r2) := H'.fit hk
  have hne : NeIs w x d (neOf k r1 r2) := H.ne H'
  have hx := H.nn
  have hd := H'.nn
  have hw := wdOf_isW hk
  refine W_fn3 D O [("b", .ref b), ("k", .int k kt), ("slot", .int o t), ("x", x), ("d", d)] ["b", "k", "slot", "x", "d"] [] [] (by k_is) (by k_is) (fun _ _ => BindsTo.of_eq rfl) rfl (by decide +kernel) ?_
  intro env A h X O D back
  simp only [startL, List.map_cons, List.map_nil, List.cons_append, List.nil_append] at D
  (repeat keq_rows)
  by_cases k0 : k = 0
  · subst k0
    rw [if_pos (by decide)]
    (repeat keq_rows)
    refine sp_PrependBoolSlot (.of D a e1 e2 e3) (O.mono (by omega)) F F' hx hd hne hw hb hn hc h0 h1 hz (fun hq h n' t D => ?_) (fun hq h D => ?_)
    · obtain ⟨st, J, a, e1, e2, e3, D⟩ := D
      (repeat keq_rows)
      exact q1 hq _ n' t (.of (back _ _ _ _ _ _ D) a e1 e2 e3)
    · obtain ⟨st, J, a, e1, e2, e3, D⟩ := D
      (repeat keq_rows)
      exact q2 hq _ (.of (back _ _ _ _ _ _ D) a e1 e2 e3)
  rw [if_neg (by simp only [beq_iff_eq]; omega)]
  (repeat keq_rows)
  by_cases k1 : k = 1
  · subst k1
    rw [if_pos (by decide)]
    (repeat keq_rows)
    refine sp_PrependUint8Slot (.of D a e1 e2 e3) (O.mono (by omega)) F F' hx hd hne hw hb hn hc h0 h1 hz (fun hq h n' t D => ?_) (fun hq h D => ?_)
    · obtain ⟨st, J, a, e1, e2, e3, D⟩ := D
      (repeat keq_rows)
      exact q1 hq _ n' t (.of (back _ _ _ _ _ _ D) a e1 e2 e3)
    · obtain ⟨st, J, a, e1, e2, e3, D⟩ := D
      (repeat keq_rows)
      exact q2 hq _ (.of (back _ _ _ _ _ _ D) a e1 e2 e3)
  rw [if_neg (by simp only [beq_iff_eq]; omega)]
  (repeat keq_rows)
  by_cases k2 : k = 2
  · subst k2
    rw [if_pos (by decide)]
    (repeat keq_rows)
    refine sp_PrependUint16Slot (.of D a e1 e2 e3) (O.mono (by omega)) F F' hx hd hne hw hb hn hc h0 h1 hz (fun hq h n' t D => ?_) (fun hq h D => ?_)
    · obtain ⟨st, J, a, e1, e2, e3, D⟩ := D
      (repeat keq_rows)
      exact q1 hq _ n' t (.of (back _ _ _ _ _ _ D) a e1 e2 e3)
    · obtain ⟨st, J, a, e1, e2, e3, D⟩ := D
      (repeat keq_rows)
      exact q2 hq _ (.of (back _ _ _ _ _ _ D) a e1 e2 e3)
  rw [if_neg (by simp only [beq_iff_eq]; omega)]
  (repeat keq_rows)
  by_cases k3 : k = 3
  · subst k3
    rw [if_pos (by decide)]
    (repeat keq_rows)
    refine sp_PrependUint32Slot (.of D a e1 e2 e3) (O.mono (by omega)) F F' hx hd hne hw hb hn hc h0 h1 hz (fun hq h n' t D => ?_) (fun hq h D => ?_)
    · obtain ⟨st, J, a, e1, e2, e3, D⟩ := D
      (repeat keq_rows)
      exact q1 hq _ n' t (.of (back _ _ _ _ _ _ D) a e1 e2 e3)
    · obtain ⟨st, J, a, e1, e2, e3, D⟩ := D
      (repeat keq_rows)
      exact q2 hq _ (.of (back _ _ _ _ _ _ D) a e1 e2 e3)
  rw [if_neg (by simp only [beq_iff_eq]; omega)]
  (repeat keq_rows)
  by_cases k4 : k = 4
  · subst k4
    rw [if_pos (by decide)]
    (repeat keq_rows)
    refine sp_PrependUint64Slot (.of D a e1 e2 e3) (O.mono (by omega)) F F' hx hd hne hw hb hn hc h0 h1 hz (fun hq h n' t D => ?_) (fun hq h D => ?_)
    · obtain ⟨st, J, a, e1, e2, e3, D⟩ := D
      (repeat keq_rows)
      exact q1 hq _ n' t (.of (back _ _ _ _ _ _ D) a e1 e2 e3)
    · obtain ⟨st, J, a, e1, e2, e3, D⟩ := D
      (repeat keq_rows)
      exact q2 hq _ (.of (back _ _ _ _ _ _ D) a e1 e2 e3)
  rw [if_neg (by simp only [beq_iff_eq]; omega)]
  (repeat keq_rows)
  by_cases k5 : k = 5
  · subst k5
    rw [if_pos (by decide)]
    (repeat keq_rows)
    refine sp_PrependInt8Slot (.of D a e1 e2 e3) (O.mono (by omega)) F F' hx hd hne hw hb hn hc h0 h1 hz (fun hq h n' t D => ?_) (fun hq h D => ?_)
    · obtain ⟨st, J, a, e1, e2, e3, D⟩ := D
      (repeat keq_rows)
      exact q1 hq _ n' t (.of (back _ _ _ _ _ _ D) a e1 e2 e3)
    · obtain ⟨st, J, a, e1, e2, e3, D⟩ := D
      (repeat keq_rows)
      exact q2 hq _ (.of (back _ _ _ _ _ _ D) a e1 e2 e3)
  rw [if_neg (by simp only [beq_iff_eq]; omega)]
  (repeat keq_rows)
  by_cases k6 : k = 6
  · subst k6
    rw [if_pos (by decide)]
    (repeat keq_rows)
    refine sp_PrependInt16Slot (.of D a e1 e2 e3) (O.mono (by omega)) F F' hx hd hne hw hb hn hc h0 h1 hz (fun hq h n' t D => ?_) (fun hq h D => ?_)
    · obtain ⟨st, J, a, e1, e2, e3, D⟩ := D
      (repeat keq_rows)
      exact q1 hq _ n' t (.of (back _ _ _ _ _ _ D) a e1 e2 e3)
    · obtain ⟨st, J, a, e1, e2, e3, D⟩ := D
      (repeat keq_rows)
      exact q2 hq _ (.of (back _ _ _ _ _ _ D) a e1 e2 e3)
  rw [if_neg (by simp only [beq_iff_eq]; omega)]
  (repeat keq_rows)
  by_cases k7 : k = 7
  · subst k7
    rw [if_pos (by decide)]
    (repeat keq_rows)
    refine sp_PrependInt32Slot (.of D a e1 e2 e3) (O.mono (by omega)) F F' hx hd hne hw hb hn hc h0 h1 hz (fun hq h n' t D => ?_) (fun hq h D => ?_)
    · obtain ⟨st, J, a, e1, e2, e3, D⟩ := D
      (repeat keq_rows)
      exact q1 hq _ n' t (.of (back _ _ _ _ _ _ D) a e1 e2 e3)
    · obtain ⟨st, J, a, e1, e2, e3, D⟩ := D
      (repeat keq_rows)
      exact q2 hq _ (.of (back _ _ _ _ _ _ D) a e1 e2 e3)
  rw [if_neg (by simp only [beq_iff_eq]; omega)]
  (repeat keq_rows)
  obtain rfl : k = 8 := by omega
  refine sp_PrependInt64Slot (.of D a e1 e2 e3) (O.mono (by omega)) F F' hx hd hne hw hb hn hc h0 h1 hz (fun hq h n' t D => ?_) (fun hq h D => ?_)
  · obtain ⟨st, J, a, e1, e2, e3, D⟩ := D
    (repeat keq_rows)
    exact q1 hq _ n' t (.of (back _ _ _ _ _ _ D) a e1 e2 e3)
  · obtain ⟨st, J, a, e1, e2, e3, D⟩ := D
    (repeat keq_rows)
    exact q2 hq _ (.of (back _ _ _ _ _ _ D) a e1 e2 e3)
end
end

-- FE5
section
open PySem PySem.W PySem.Calls PyProof.Rows
section
variable {w : World} {A : Around} {H0 h : Heap} {env : Env} {gs : List Str} {ls : List (Str × Option Value)} {l : List (Addr × Obj)} {b a C S c V : Addr} {as : AS} {T : List UInt8} {r n : Nat} {pos p p' apos : Pos} {x d : Value} {wd : Nat} {raw : List UInt8} {vs : List Value} {ns : List Int}
/-- a message, finished -/
def finT (ma : Int) (mk pre : Bool) (root : Int) (T : List UInt8) : List UInt8 :=
  match mk, pre with
  | false, false => relU root (padT ma 4 T)
  | true, false => relU root (markT (padT 4 4 (padT ma 8 T)))
  | false, true => preT (relU root (padT ma 8 T))
  | true, true => preT (relU root (markT (padT 4 4 (padT ma 12 T))))
def MarkV (mk : Bool) (v : Value) : Prop := (mk = false ∧ v = .none) ∨ (mk = true ∧ ∃ t, v = .bytes #[77, 65, 82, 75] t)
/-- self.name(e .., k=ev) -/
theorem W_mcallK {K : Frag} {f : Addr} {y : Str} {name k : Str} {e ev : Expr} {rest : List Expr} {kp : Pos} {sl : Array (Option Value)} {Q : Value → Heap → Prop} (D : Here K w H0 env gs ls h l) (hx : (y, some (.ref b)) ∈ ls) (hb : InstK h b C sl) (S : MethK K C name f)
    (z : W w A (spliced (backTo pos (starEach (e :: rest) env))) (fun vs h₁ => W w A (eval ev env) (fun v h₂ => K.In h₂ ∧ W w A (call (.ref f) (.ref b :: vs) [(k, v)]) Q h₂) h₁) h)
    (hf : methodCallForm ((e :: rest).length + [(⟨some k, ev, kp⟩ : Keyword)].length) (backTo pos (starEach (e :: rest) env)) (backToKw pos (keywordEach [⟨some k, ev, kp⟩] env)) = true := by rfl) (hl : (apos.endLine == pos.line) = true := by rfl)
    (he : starEach (e :: rest) env = (false, eval e env) :: starEach rest env := by rfl) :
    W w A (eval (.Call (.Attribute (.Name y p) name apos) (e :: rest) [⟨some k, ev, kp⟩] pos) env) Q h := by
  refine W_CallAttr (W_local D hx (W_method D.kin S hb ?_)) rfl hf hl
  exact W_callWith (W_argsKw (W_mono z fun vs h₁ z => W_mono z fun v h₂ z => ⟨kept_fn S.hk z.1, z.2⟩) he)
theorem sp_Finish {root : Int} {t : Tok} {mk : Bool} {mv : Value} {Q : Value → Heap → Prop} (D : HB w H0 env gs ls b as T r h l) (O : AOk 6 A) (hm : isW as.ma) (r0 : 0 ≤ root) (r1 : root ≤ T.length) (hb : T.length ≤ 800) (hv : MarkV mk mv)
    (q : ∀ h' as' v, as'.fin = true → HB w H0 env gs ls b as' (finT as.ma mk false root T) 0 h' l → Q v h') : W w A (call (.ref 494) [.ref b, .int root t, mv]) Q h := by
  obtain ⟨st, J, a, e1, e2, e3, D⟩ := D
  have hT : (hd.heap_39 w.params).lookup 487 = some { cls := .type "tuple", data := .seq #[.none] } := by k_is
  refine W_fn2 D O [("self", .ref b), ("rootTable", .int root t), ("file_identifier", mv)] ["self", "rootTable", "file_identifier"] [] [] (by k_is) (by k_is) (fun s e => BindsTo.of_defaults rfl (e ▸ D.kin _ _ hT) rfl rfl rfl) rfl (by decide +kernel) ?_
  intro env A h X O D back
  simp only [startL, List.map_cons, List.map_nil, List.cons_append, List.nil_append] at D
  rcases hv with ⟨rfl, rfl⟩ | ⟨rfl, mt, rfl⟩
  · (repeat keq_rows)
    refine W_mcallK D (.head _) D.inst0 (meth_iFinish w) ?_ rfl rfl rfl
    (repeat keq_rows)
    refine sp_iFinish00 (.of D a e1 e2 e3) (O.mono (by omega)) hm r0 r1 hb fun h i t D => ?_
    obtain ⟨st, J, a, e1, e2, e3, D⟩ := D
    exact q _ _ _ rfl (.of (back _ _ _ _ _ D) a e1 e2 e3)
  · (repeat keq_rows)
    refine W_mcallK D (.head _) D.inst0 (meth_iFinish w) ?_ rfl rfl rfl
    (repeat keq_rows)
    refine sp_iFinish10 (.of D a e1 e2 e3) (O.mono (by omega)) hm r0 r1 hb fun h i t D => ?_
    obtain ⟨st, J, a, e1, e2, e3, D⟩ := D
    exact q _ _ _ rfl (.of (back _ _ _ _ _ D) a e1 e2 e3)
theorem sp_FinishSizePrefixed {root : Int} {t : Tok} {mk : Bool} {mv : Value} {Q : Value → Heap → Prop} (D : HB w H0 env gs ls b as T r h l) (O : AOk 6 A) (hm : isW as.ma) (r0 : 0 ≤ root) (r1 : root ≤ T.length) (hb : T.length ≤ 800) (hv : MarkV mk mv)
    (q : ∀ h' as' v, as'.fin = true → HB w H0 env gs ls b as' (finT as.ma mk true root T) 0 h' l → Q v h') : W w A (call (.ref 502) [.ref b, .int root t, mv]) Q h := by
  obtain ⟨st, J, a, e1, e2, e3, D⟩ := D
  have hT : (hd.heap_39 w.params).lookup 495 = some { cls := .type "tuple", data := .seq #[.none] } := by k_is
  refine W_fn2 D O [("self", .ref b), ("rootTable", .int root t), ("file_identifier", mv)] ["self", "rootTable", "file_identifier"] [] [] (by k_is) (by k_is) (fun s e => BindsTo.of_defaults rfl (e ▸ D.kin _ _ hT) rfl rfl rfl) rfl (by decide +kernel) ?_
  intro env A h X O D back
  simp only [startL, List.map_cons, List.map_nil, List.cons_append, List.nil_append] at D
  rcases hv with ⟨rfl, rfl⟩ | ⟨rfl, mt, rfl⟩
  · (repeat keq_rows)
    refine W_mcallK D (.head _) D.inst0 (meth_iFinish w) ?_ rfl rfl rfl
    (repeat keq_rows)
    refine sp_iFinish01 (.of D a e1 e2 e3) (O.mono (by omega)) hm r0 r1 hb fun h i t D => ?_
    obtain ⟨st, J, a, e1, e2, e3, D⟩ := D
    exact q _ _ _ rfl (.of (back _ _ _ _ _ D) a e1 e2 e3)
  · (repeat keq_rows)
    refine W_mcallK D (.head _) D.inst0 (meth_iFinish w) ?_ rfl rfl rfl
    (repeat keq_rows)
    refine sp_iFinish11 (.of D a e1 e2 e3) (O.mono (by omega)) hm r0 r1 hb fun h i t D => ?_
    obtain ⟨st, J, a, e1, e2, e3, D⟩ := D
    exact q _ _ _ rfl (.of (back _ _ _ _ _ D) a e1 e2 e3)
end
end

-- FE6
section
open PySem PySem.W PySem.Calls PyProof.Rows Builtin
/-! what a message is, without the program -/
def wStr (i : Nat) : Str := (["", "a", "same", "éb"] : List Str).getD i ""
def wBs (i : Nat) : Array UInt8 := [#[], #[97], #[115, 97, 109, 101], #[195, 169, 98]].getD i #[]
theorem wEnc {i : Nat} (hi : i < 4) : EncK (wStr i) (wBs i) := by
  rcases i with _ | _ | _ | _ | i
  · exact enc_0
  · exact enc_a
  · exact enc_same
  · exact enc_eb
  · omega
theorem wBs_size (i : Nat) : (wBs i).size ≤ 4 := by
  rcases i with _ | _ | _ | _ | i <;> first | decide | (unfold wBs; simp)
theorem wStr_inj {i j : Nat} (hi : i < 4) (hj : j < 4) (e : wStr i = wStr j) : i = j := by
  have key : ∀ i j : Fin 4, wStr i = wStr j → i = j := by decide +kernel
  exact congrArg Fin.val (key ⟨i, hi⟩ ⟨j, hj⟩ e)
theorem fmod_b (x : Int) {m : Int} (hm : 0 < m) : 0 ≤ x.fmod m ∧ x.fmod m < m := ⟨Int.fmod_nonneg_of_pos _ hm, Int.fmod_lt_of_pos _ hm⟩
def ft (n : Int) : Bool := n.fmod 2 == 1
def nw (n : Int) : Nat := ((n.fdiv 2).fmod 3).toNat
def wIx (n : Int) (k : Nat) : Nat := ((n.fdiv (3 ^ k)).fmod 4).toNat
def kd (n : Int) : Nat := ((n.fdiv 7).fmod 9).toNat
def nr (n : Int) : Nat := ((n.fdiv 5).fmod 4).toNat
def cnt (n : Int) : Nat := ((n.fdiv 11).fmod 5).toNat
theorem nw_b (n : Int) : (nw n : Int) = (n.fdiv 2).fmod 3 ∧ nw n ≤ 2 := by have := fmod_b (n.fdiv 2) (m := 3) (by decide); unfold nw; omega
theorem wIx_b (n : Int) (k : Nat) : (wIx n k : Int) = (n.fdiv (3 ^ k)).fmod 4 ∧ wIx n k < 4 := by have := fmod_b (n.fdiv (3 ^ k)) (m := 4) (by decide); unfold wIx; omega
theorem kd_b (n : Int) : (kd n : Int) = (n.fdiv 7).fmod 9 ∧ kd n ≤ 8 := by have := fmod_b (n.fdiv 7) (m := 9) (by decide); unfold kd; omega
theorem nr_b (n : Int) : (nr n : Int) = (n.fdiv 5).fmod 4 ∧ nr n ≤ 3 := by have := fmod_b (n.fdiv 5) (m := 4) (by decide); unfold nr; omega
theorem cnt_b (n : Int) : (cnt n : Int) = (n.fdiv 11).fmod 5 ∧ cnt n ≤ 4 := by have := fmod_b (n.fdiv 11) (m := 5) (by decide); unfold cnt; omega
/-- the texts laid: where they begin, what stands then, the alignment -/
def tx (n : Int) : Nat → List Int × List UInt8 × Int
  | 0 => ([], [], 1)
  | 1 => ([((strT (wBs (wIx n 1)) []).length : Int)], strT (wBs (wIx n 1)) [], 4)
  | _ => if wIx n 2 = wIx n 1 then ([((strT (wBs (wIx n 1)) []).length : Int), ((strT (wBs (wIx n 1)) []).length : Int)], strT (wBs (wIx n 1)) [], 4)
    else ([((strT (wBs (wIx n 1)) []).length : Int), ((strT (wBs (wIx n 2)) (strT (wBs (wIx n 1)) [])).length : Int)], strT (wBs (wIx n 2)) (strT (wBs (wIx n 1)) []), 4)
theorem strT_ge {bs : Array UInt8} {T : List UInt8} : T.length < (strT bs T).length := by
  unfold strT
  simp only [List.length_append, padT_len, enc_len]
  omega
theorem tx_b (n : Int) (i : Nat) : (tx n i).2.1.length ≤ 34 ∧ (i ≤ 2 → (tx n i).1.length = i) ∧ (∀ e ∈ (tx n i).1, 0 < e ∧ e ≤ (tx n i).2.1.length) ∧ isW (tx n i).2.2 := by
  have a1 := strT_lt (bs := wBs (wIx n 1)) (T := [])
  have a2 := strT_lt (bs := wBs (wIx n 2)) (T := strT (wBs (wIx n 1)) [])
  have a3 := strT_ge (bs := wBs (wIx n 1)) (T := [])
  have a4 := strT_ge (bs := wBs (wIx n 2)) (T := strT (wBs (wIx n 1)) [])
  have b1 := wBs_size (wIx n 1)
  have b2 := wBs_size (wIx n 2)
  simp only [List.length_nil] at a1 a3
  rcases i with _ | _ | i
  · exact ⟨by simp [tx], by simp [tx], by simp [tx], by simp [tx, isW]⟩
  · refine ⟨by simp only [tx]; omega, by simp [tx], fun e he => ?_, by simp [tx, isW]⟩
    simp only [tx, List.mem_singleton] at he ⊢
    omega
  · rw [tx]
    · split
      · refine ⟨by dsimp only; omega, fun h => by simp; omega, fun e he => ?_, by simp [isW]⟩
        simp only [List.mem_cons, List.not_mem_nil, or_false] at he ⊢
        omega
      · refine ⟨by dsimp only; omega, fun h => by simp; omega, fun e he => ?_, by simp [isW]⟩
        simp only [List.mem_cons, List.not_mem_nil, or_false] at he ⊢
        omega
    all_goals omega
def putT (k : Nat) (rest : Int) (T : List UInt8) : List UInt8 := rawOf k rest ++ padT (wdOf k) 0 T
/-- what is left of the row, laid from its end -/
def vecL (n : Int) (i : Nat) : List UInt8 := ((List.range (nr n)).drop i).foldr (fun j T => putT (kd n) (n.fdiv (5 ^ j)) T) (vecT (wdOf (kd n)) (nr n) (tx n (nw n)).2.1)
theorem vecL_end (n : Int) : vecL n (nr n) = vecT (wdOf (kd n)) (nr n) (tx n (nw n)).2.1 := by
  unfold vecL
  rw [List.drop_of_length_le (by simp)]; rfl
theorem vecL_step (n : Int) {i : Nat} (hi : i < nr n) : vecL n i = putT (kd n) (n.fdiv (5 ^ i)) (vecL n (i + 1)) := by
  unfold vecL
  rw [List.drop_eq_getElem_cons (by simpa using hi), List.foldr_cons, List.getElem_range]
theorem al_zero {size : Int} {x : Int} (hs : isW size) (hx : x % size = 0) : al size (x + 0) = 0 := al_mul hs (by rw [Int.add_zero]; exact hx)
theorem isW_pos {x : Int} (h : isW x) : 0 < x := by rcases h with rfl | rfl | rfl | rfl <;> decide
/-- while the row is laid no octet is added but its own -/
theorem vecL_mod (n : Int) : ∀ d i, d + i = nr n → ((vecL n i).length + (wdOf (kd n) : Int) * i) % wdOf (kd n) = 0 ∧ (vecL n i).length ≤ 50 + 8 * d := by
  have hw := wdOf_isW (kd_b n).2
  have hb := wdOf_b (kd n)
  have t := tx_b n (nw n)
  intro d
  induction d with
  | zero =>
    intro i hi
    obtain rfl : i = nr n := by omega
    rw [vecL_end]
    exact ⟨vec_mod hw _, by have := vecT_lt (n := (nr n : Int)) hw (tx n (nw n)).2.1; omega⟩
  | succ d ih =>
    intro i hi
    obtain ⟨a, c⟩ := ih (i + 1) (by omega)
    have a' : (vecL n (i + 1)).length % (wdOf (kd n) : Int) = 0 := by
      rw [Int.add_mul_emod_self_left] at a; exact a
    rw [vecL_step n (by omega), putT, List.length_append, padT_len, rawOf_len (kd_b n).2, al_zero hw a']
    refine ⟨?_, by omega⟩
    rw [Int.add_mul_emod_self_left, show ((wdOf (kd n) + (0 + (vecL n (i + 1)).length) : Nat) : Int) = (vecL n (i + 1)).length + (wdOf (kd n) : Int) * 1 by omega, Int.add_mul_emod_self_left]
    exact a'
theorem vecL_al (n : Int) {i : Nat} (hi : i ≤ nr n) : al (wdOf (kd n)) ((vecL n i).length + 0) = 0 := by
  have := (vecL_mod n (nr n - i) i (by omega)).1
  rw [Int.add_mul_emod_self_left] at this
  exact al_zero (wdOf_isW (kd_b n).2) this
def T3 (n : Int) : List UInt8 := (encI 4 (nr n)).toList ++ vecL n 0
theorem T3_b (n : Int) : (T3 n).length ≤ 78 ∧ 4 ≤ (T3 n).length := by
  have := (vecL_mod n (nr n) 0 (by omega)).2
  have h3 := nr_b n
  unfold T3
  rw [List.length_append, enc_len]
  omega
def M3 (n : Int) : Int := max (max (tx n (nw n)).2.2 4) (wdOf (kd n))
theorem isW_max {x y : Int} (hx : isW x) (hy : isW y) : isW (max x y) := by
  rcases Int.le_total x y with h | h
  · rw [Int.max_eq_right h]; exact hy
  · rw [Int.max_eq_left h]; exact hx
theorem isW4 : isW 4 := by unfold isW; omega
theorem M3_w (n : Int) : isW (M3 n) := isW_max (isW_max (tx_b n _).2.2.2 isW4) (wdOf_isW (kd_b n).2)
/-- a table under way -/
structure PS where
  T : List UInt8
  ns : List Int
  ma : Int
structure PS.Ok (s : PS) (z lo hi : Nat) : Prop where
  len : s.ns.length = z
  ent : ∀ e ∈ s.ns, 0 ≤ e ∧ e ≤ s.T.length
  lo : lo ≤ s.T.length
  hi : s.T.length ≤ hi
  ma : isW s.ma
theorem PS.Ok.grow {s : PS} {z lo hi : Nat} (x : s.Ok z lo hi) {T : List UInt8} {sl : Nat} {m : Int} {k : Nat} (h1 : s.T.length ≤ T.length) (h2 : T.length ≤ s.T.length + k) (hm : isW m) : (⟨T, s.ns.set sl T.length, max s.ma m⟩ : PS).Ok z lo (hi + k) := by
  have a := x.lo
  have c := x.hi
  refine ⟨by simp [x.len], fun e he => ?_, by dsimp only; omega, by dsimp only; omega, isW_max x.ma hm⟩
  dsimp only at he ⊢
  rcases List.mem_or_eq_of_mem_set he with he | rfl
  · have := x.ent e he; omega
  · omega
theorem PS.Ok.wide {s : PS} {z lo hi hi' : Nat} (x : s.Ok z lo hi) (h : hi ≤ hi') : s.Ok z lo hi' := ⟨x.len, x.ent, x.lo, Nat.le_trans x.hi h, x.ma⟩
def slK (n : Int) (k : Nat) : Nat := (kd n + k) % 9
def slI (n : Int) (k : Nat) : Nat := (((k : Int) + n.fdiv 13).fmod (cnt n)).toNat
def slotStep (n : Int) (k : Nat) (s : PS) : PS :=
  if (neOf (slK n k) (n.fdiv (17 ^ k)) ((n.fdiv 19).fmod 5) || ft n) = true then
    ⟨putT (slK n k) (n.fdiv (17 ^ k)) s.T, s.ns.set (slI n k) (putT (slK n k) (n.fdiv (17 ^ k)) s.T).length, max s.ma (wdOf (slK n k))⟩
  else s
theorem slK_b (n : Int) (k : Nat) : slK n k ≤ 8 := by unfold slK; omega
theorem putT_b {k : Nat} (hk : k ≤ 8) (rest : Int) (T : List UInt8) : T.length ≤ (putT k rest T).length ∧ (putT k rest T).length ≤ T.length + 16 := by
  have := padT_lt (T := T) (add := 0) (wdOf_isW hk)
  have h2 := padT_len (wdOf k) 0 T
  have := wdOf_b k
  unfold putT
  rw [List.length_append, rawOf_len hk]
  omega
theorem slotStep_ok {n : Int} {k : Nat} {s : PS} {z lo hi : Nat} (x : s.Ok z lo hi) : (slotStep n k s).Ok z lo (hi + 16) := by
  unfold slotStep
  have := putT_b (slK_b n k) (n.fdiv (17 ^ k)) s.T
  split
  · exact x.grow this.1 this.2 (wdOf_isW (slK_b n k))
  · exact x.wide (by omega)
def uStep (sl : Nat) (off : Int) (s : PS) : PS := ⟨relU off s.T, s.ns.set sl (relU off s.T).length, max s.ma 4⟩
theorem relU_b (off : Int) (T : List UInt8) : T.length ≤ (relU off T).length ∧ (relU off T).length ≤ T.length + 16 := by
  have := padT_lt (T := T) (add := 0) isW4
  have h2 := padT_len 4 0 T
  unfold relU
  rw [List.length_append, enc_len]
  omega
theorem uStep_ok {sl : Nat} {off : Int} {s : PS} {z lo hi : Nat} (x : s.Ok z lo hi) : (uStep sl off s).Ok z lo (hi + 16) := x.grow (relU_b off s.T).1 (relU_b off s.T).2 isW4
def S0 (n : Int) : PS := ⟨T3 n, List.replicate (cnt n + 3) 0, M3 n⟩
def S1 (n : Int) (i : Nat) : PS := (List.range i).foldl (fun s k => slotStep n k s) (S0 n)
def S2 (n : Int) (i : Nat) : PS := (List.range i).foldl (fun s k => uStep (cnt n + k) ((tx n (nw n)).1.getD k 0) s) (S1 n (cnt n))
def S3 (n : Int) : PS := uStep (cnt n + 2) (T3 n).length (S2 n (nw n))
theorem S1_succ (n : Int) (i : Nat) : S1 n (i + 1) = slotStep n i (S1 n i) := by unfold S1; rw [List.range_succ, List.foldl_append]; rfl
theorem S2_succ (n : Int) (i : Nat) : S2 n (i + 1) = uStep (cnt n + i) ((tx n (nw n)).1.getD i 0) (S2 n i) := by unfold S2; rw [List.range_succ, List.foldl_append]; rfl
theorem S1_ok (n : Int) : ∀ i, (S1 n i).Ok (cnt n + 3) (T3 n).length (78 + 16 * i)
  | 0 => by
    refine ⟨by simp [S1, S0], fun e he => ?_, Nat.le_refl _, (T3_b n).1, M3_w n⟩
    obtain rfl := List.eq_of_mem_replicate (show e ∈ List.replicate (cnt n + 3) 0 from he)
    omega
  | i + 1 => by rw [S1_succ]; exact (slotStep_ok (S1_ok n i)).wide (by omega)
theorem S2_ok (n : Int) : ∀ i, (S2 n i).Ok (cnt n + 3) (T3 n).length (142 + 16 * i)
  | 0 => (S1_ok n _).wide (by have := (cnt_b n).2; omega)
  | i + 1 => by rw [S2_succ]; exact (uStep_ok (S2_ok n i)).wide (by omega)
theorem S3_ok (n : Int) : (S3 n).Ok (cnt n + 3) (T3 n).length 190 := (uStep_ok (S2_ok n _)).wide (by have := (nw_b n).2; omega)
def T4 (n : Int) : List UInt8 := objT (T3 n).length (S3 n).ns (S3 n).T
theorem vloop_b (oo : Int) : ∀ (l : List Int) (tr : Bool) (k : Int) (T : List UInt8), T.length ≤ (vloop oo l tr k T).2.length ∧ (vloop oo l tr k T).2.length ≤ T.length + 9 * l.length
  | [], _, _, _ => by simp [vloop]
  | e :: r, tr, k, T => by
    have p1 := vput_lt (off := 0) (T := T)
    have p2 := vput_ge (off := 0) (T := T)
    have p3 := vput_lt (off := oo - e) (T := T)
    have p4 := vput_ge (off := oo - e) (T := T)
    rw [vloop]
    simp only [List.length_cons]
    split
    · split
      · have := vloop_b oo r true (k + 1) T; omega
      · have := vloop_b oo r false k (vput 0 T); omega
    · have := vloop_b oo r false k (vput (oo - e) T); omega
theorem objT1_b (T : List UInt8) : 4 + T.length ≤ (objT1 T).length ∧ (objT1 T).length ≤ T.length + 12 := by
  have := padT_lt (T := T) (add := 0) isW4
  have h2 := padT_len 4 0 T
  unfold objT1
  rw [List.length_append, enc_len]
  omega
theorem objT_b (oe : Int) (ns : List Int) (T : List UInt8) : (objT1 T).length ≤ (objT oe ns T).length ∧ (objT oe ns T).length ≤ T.length + 30 + 9 * ns.length := by
  have h1 := objT1_b T
  have h2 := vloop_b (objT1 T).length ns.reverse true 0 (objT1 T)
  rw [List.length_reverse] at h2
  have h4 : (objT1 T).length ≤ (objT4 oe ns T).length ∧ (objT4 oe ns T).length ≤ T.length + 30 + 9 * ns.length := by
    unfold objT4
    have p1 := vput_lt (off := (ns.length - (vloop (objT1 T).length ns.reverse true 0 (objT1 T)).1 + 2) * 2) (T := vput ((objT1 T).length - oe) (vloop (objT1 T).length ns.reverse true 0 (objT1 T)).2)
    have p2 := vput_ge (off := (ns.length - (vloop (objT1 T).length ns.reverse true 0 (objT1 T)).1 + 2) * 2) (T := vput ((objT1 T).length - oe) (vloop (objT1 T).length ns.reverse true 0 (objT1 T)).2)
    have p3 := vput_lt (off := (objT1 T).length - oe) (T := (vloop (objT1 T).length ns.reverse true 0 (objT1 T)).2)
    have p4 := vput_ge (off := (objT1 T).length - oe) (T := (vloop (objT1 T).length ns.reverse true 0 (objT1 T)).2)
    omega
  unfold objT
  simp only [List.length_append, List.length_take, List.length_drop, enc_len]
  omega
theorem T4_b (n : Int) : (objT1 (S3 n).T).length ≤ (T4 n).length ∧ (T4 n).length ≤ 300 := by
  have := objT_b (T3 n).length (S3 n).ns (S3 n).T
  have h := S3_ok n
  have h1 := h.len
  have h2 := h.hi
  have h3 := (cnt_b n).2
  unfold T4
  omega
def mk (n : Int) : Bool := (n.fdiv 23).fmod 2 == 1
def pre (n : Int) : Bool := (n.fdiv 46).fmod 2 == 1
/-- the octets of the message of n -/
def msgT (n : Int) : List UInt8 := finT (max (S3 n).ma 4) (mk n) (pre n) (objT1 (S3 n).T).length (T4 n)
theorem padT_ge (s a : Int) (T : List UInt8) : T.length ≤ (padT s a T).length := by rw [padT_len]; omega
theorem msgT_b (n : Int) : 0 < (msgT n).length ∧ (msgT n).length ≤ 400 := by
  have t := (T4_b n).2
  have hm : isW (max (S3 n).ma 4) := isW_max (S3_ok n).ma isW4
  unfold msgT finT
  generalize max (S3 n).ma 4 = m at hm ⊢
  generalize hT : T4 n = T at t ⊢
  have r := fun T => relU_b (objT1 (S3 n).T).length T
  have r0 : ∀ T, 0 < (relU (objT1 (S3 n).T).length T).length := fun T => by unfold relU; rw [List.length_append, enc_len]; omega
  have mkl : ∀ T, (markT T).length = 4 + T.length := fun T => by unfold markT; simp only [List.length_append, enc_len]; omega
  have p4 := padT_lt (T := T) (add := 4) hm
  have p8 := padT_lt (T := T) (add := 8) hm
  have p12 := padT_lt (T := T) (add := 12) hm
  have q8 := padT_lt (T := padT m 8 T) (add := 4) isW4
  have q12 := padT_lt (T := padT m 12 T) (add := 4) isW4
  have pl : ∀ T, (preT T).length ≤ T.length + 12 ∧ T.length ≤ (preT T).length := fun T => by
    have := padT_lt (T := T) (add := 0) isW4
    have := padT_ge 4 0 T
    unfold preT; rw [List.length_append, enc_len]; omega
  have a1 := r (padT m 4 T)
  have a2 := r (markT (padT 4 4 (padT m 8 T)))
  have a3 := r (padT m 8 T)
  have a4 := r (markT (padT 4 4 (padT m 12 T)))
  have c1 := r0 (padT m 4 T)
  have c2 := r0 (markT (padT 4 4 (padT m 8 T)))
  have c3 := r0 (padT m 8 T)
  have c4 := r0 (markT (padT 4 4 (padT m 12 T)))
  rw [mkl] at a2 a4
  have d3 := pl (relU (objT1 (S3 n).T).length (padT m 8 T))
  have d4 := pl (relU (objT1 (S3 n).T).length (markT (padT 4 4 (padT m 12 T))))
  cases mk n <;> cases pre n <;> dsimp only <;> omega
end

-- FE7h
section
open PySem PySem.W PySem.Calls PyProof.Rows Builtin
section
variable {K : Frag} {w : World} {A : Around} {H0 h : Heap} {env : Env} {gs : List Str} {ls ls' : List (Str × Option Value)} {l l' : List (Addr × Obj)} {x y : Str} {px pos : Pos} {it acc : Value} {elt iter : Expr} {scope : Scope} {vs : List Value} {ns : List Int}
theorem Led.sub (D : Led H0 h l) (s : l'.Sublist l) : Led H0 h l' :=
  ⟨D.keep, fun p q => D.own p (s.subset q), D.nd.sublist (s.map _), fun p q => D.new p (s.subset q), D.grow⟩
theorem Here.sub (D : Here K w H0 env gs ls h l) (s : l'.Sublist l) : Here K w H0 env gs ls h l' := D.with fun X E => E.sub (s.cons_cons _)
theorem IL.set {i : Int} {t : Tok} (H : IL vs ns) (k : Nat) : IL (vs.set k (.int i t)) (ns.set k i) := by
  refine ⟨by simp [H.1], fun j n h => ?_⟩
  by_cases e : k = j
  · subst e
    rw [List.getElem?_set_self'] at h ⊢
    cases hn : ns[k]? with
    | none => rw [hn] at h; simp at h
    | some z =>
      rw [hn] at h
      obtain ⟨t', ht⟩ := H.2 k z hn
      rw [ht]
      simp at h
      subst h
      exact ⟨t, by simp⟩
  · rw [List.getElem?_set_ne e] at h ⊢
    exact H.2 j n h
theorem IL.zeros (k : Nat) (t : Tok) : IL (List.replicate k (.int 0 t)) (List.replicate k 0) := by
  refine ⟨by simp, fun j n h => ?_⟩
  rw [List.getElem?_replicate] at h ⊢
  split at h
  · simp at h; subst h; exact ⟨t, by rw [if_pos ‹_›]⟩
  · simp at h
theorem IL.snoc {i : Int} {t : Tok} (H : IL vs ns) : IL (vs ++ [.int i t]) (ns ++ [i]) := by
  refine ⟨by simp [H.1], fun j n h => ?_⟩
  by_cases e : j < ns.length
  · rw [List.getElem?_append_left e] at h
    rw [List.getElem?_append_left (H.1 ▸ e)]
    exact H.2 j n h
  · have hj : j = ns.length := by
      have := (List.getElem?_eq_some_iff.mp h).1
      simp at this; omega
    subst hj
    simp at h
    subst h
    exact ⟨t, by simp [← H.1]⟩
theorem swaps_comp {gens : List Comprehension} {py spos : Pos} {o : Option Value} (D : Here K w H0 env gs ls h l) (hm : (y, o) ∈ ls) (hl : (py.line == pos.line) = true)
    (hn : (scope.names.any fun x => x.1 == y && (x.2 == .local || x.2 == .cell)) = false) : swapsWith (.ListComp elt gens scope pos) (some (.Name y py)) spos.line env = pure true := by
  have h1 := (D.lk _ hm).1
  show (pure (env.blockKind == .function && env.kindOf y == some .local && py.line == pos.line && !(scope.names.any fun (n, k) => n == y && (k == .local || k == .cell))) : Sem Bool) = pure true
  rw [show env.blockKind = .function from by simp only [Env.blockKind, D.kind]; rfl, h1, hl]
  congr 1
  show (_ && !(scope.names.any fun x => x.1 == y && (x.2 == .local || x.2 == .cell))) = true
  rw [hn]; rfl
theorem cellOf_K {c : Addr} (C : CellK env x c) : cellOf env x = pure c := by unfold cellOf; rw [C.c]
theorem CompBlk.rangeK {cl : List (Str × Addr)} {gs' : List Str} {it : Addr} {lo : Int} {m m0 : Nat} (O : AOk m0 A) (D : Here K w H0 env gs ls h ((it, rngIt lo m 1) :: l)) (P : Nat → Value → Prop) (hz : m ≤ 1000)
    (el : ∀ i t, i < m → ∀ cenv h₃ Y1 Y2 Y3, Here K w H0 cenv gs' [(x, some (.int (lo + i) t))] h₃ (Y1 :: Y2 :: Y3 :: l) → (∀ p ∈ cl, CellK cenv p.1 p.2) →
      W w A (eval elt cenv) (fun r h₄ => P i r ∧ Here K w H0 cenv gs' [(x, some (.int (lo + i) t))] h₄ (Y1 :: Y2 :: Y3 :: l)) h₃) :
    CompBlk K w A H0 env gs ls elt iter x px pos scope cl gs' (fun a vs n l₄ h₄ => l₄ = l ∧ vs.length = m ∧ ∀ j v, vs[j]? = some v → P j v) (.ref it) h := by
  refine CompBlk.range O D (fun i vs l' => l' = l ∧ vs.length = i ∧ ∀ j v, vs[j]? = some v → P j v) ⟨rfl, rfl, fun j v hv => by simp at hv⟩ hz fun i t hi vs l' j cenv h₃ Y1 Y2 Y3 D2 hC => ?_
  obtain ⟨rfl, hl, hp⟩ := j
  refine W_mono (el i t hi cenv h₃ Y1 Y2 Y3 D2 hC) fun r h₄ z => ⟨_, ⟨rfl, by simp [hl], fun j v hv => ?_⟩, z.2⟩
  by_cases e : j < vs.length
  · rw [List.getElem?_append_left e] at hv; exact hp j v hv
  · have hj : j = i := by
      have := (List.getElem?_eq_some_iff.mp hv).1
      simp at this; omega
    subst hj
    rw [← hl] at hv
    simp at hv
    subst hv
    exact z.1
theorem rangeSize1 (lo : Int) (m : Nat) : Builtin.Range.rangeSize lo (lo + m) 1 = m := by
  unfold Builtin.Range.rangeSize
  simp
  omega
theorem range_small (lo : Int) (m : Nat) (h0 : 0 ≤ lo) (h1 : lo ≤ 1000) (hm : m ≤ 1000) : Builtin.Range.small lo (lo + m) 1 = true := by
  unfold Builtin.Range.small
  rw [rangeSize1]
  simp [Builtin.Range.rangeFitsLong]
  omega
theorem pw (b k K : Nat) (hk : k ≤ K) (hb : 0 < b) (h : b ^ K < 1073741824) : ((b : Int) ^ k).natAbs < 1073741824 ∧ (b : Int) ^ k ≠ 0 := by
  have h1 : b ^ k ≤ b ^ K := Nat.pow_le_pow_right hb hk
  rw [Int.natAbs_pow, Int.natAbs_natCast]
  refine ⟨by omega, ?_⟩
  have : (0 : Int) < (b : Int) ^ k := Int.pow_pos (by omega)
  omega
theorem vecT_ge (e n : Int) (T : List UInt8) : T.length ≤ (vecT e n T).length := by
  have h1 := padT_ge 4 (e * n) T
  have h2 := padT_ge e (e * n) (padT 4 (e * n) T)
  unfold vecT; omega
theorem vecL_ge (n : Int) : ∀ d i, d + i = nr n → (tx n (nw n)).2.1.length ≤ (vecL n i).length := by
  intro d
  induction d with
  | zero =>
    intro i hi
    obtain rfl : i = nr n := by omega
    rw [vecL_end]
    exact vecT_ge _ _ _
  | succ d ih =>
    intro i hi
    have h1 := ih (i + 1) (by omega)
    have h2 := (putT_b (kd_b n).2 (n.fdiv (5 ^ i)) (vecL n (i + 1))).1
    rw [vecL_step n (by omega)]
    omega
theorem T3_ge (n : Int) : (tx n (nw n)).2.1.length ≤ (T3 n).length := by
  have := vecL_ge n (nr n) 0 (by omega)
  unfold T3
  rw [List.length_append]
  omega
theorem tx_off (n : Int) {i : Nat} (hi : i < nw n) : (tx n (nw n)).1[i]? = some ((tx n (nw n)).1.getD i 0) ∧ 0 < (tx n (nw n)).1.getD i 0 ∧ (tx n (nw n)).1.getD i 0 ≤ (T3 n).length := by
  have t := tx_b n (nw n)
  have hl := t.2.1 (nw_b n).2
  have e : (tx n (nw n)).1[i]? = some ((tx n (nw n)).1.getD i 0) := by
    rw [List.getD_eq_getElem?_getD, List.getElem?_eq_getElem (by omega)]; rfl
  have h1 := t.2.2.1 _ (List.mem_of_getElem? e)
  have h2 := T3_ge n
  exact ⟨e, h1.1, by omega⟩
end
end

-- FE7
section
open PySem PySem.W PySem.Calls PyProof.Rows
section
variable {w : World} {A : Around} {H0 h : Heap} {env : Env} {gs : List Str} {ls : List (Str × Option Value)} {l : List (Addr × Obj)} {b a C S c V : Addr} {as : AS} {T : List UInt8} {r : Nat} {pos p p' : Pos} {x d : Value} {wd : Nat} {raw : List UInt8} {vs : List Value} {ns : List Int}
theorem wKey (x : Int) (h0 : 0 ≤ x) (h1 : x < 4) (t0 t1 t2 t3 : Tok) : ∃ t, [Value.str "" t0, .str "a" t1, .str "same" t2, .str "éb" t3][x.toNat]? = some (.str (wStr x.toNat) t) := by
  obtain ⟨k, rfl⟩ := Int.eq_ofNat_of_zero_le h0
  rcases k with _ | _ | _ | _ | k
  · exact ⟨t0, rfl⟩
  · exact ⟨t1, rfl⟩
  · exact ⟨t2, rfl⟩
  · exact ⟨t3, rfl⟩
  · omega
def IsWd (n : Int) (j : Nat) (v : Value) : Prop := ∃ t, v = .str (wStr (wIx n (j + 1))) t
def TxJ (w : World) (n : Int) (b V wa : Addr) (wvs : List Value) (n0 : Nat) (L1 : List (Addr × Obj)) (i : Nat) (vs : List Value) (l' : List (Addr × Obj)) : Prop :=
  ∃ (st : BS) (J : List UInt8) (Ds : List (Addr × Obj)) (ss : Option Addr) (vne : Option (Option Int)), l' = (b, bobj st) :: (st.B, baO (J ++ (tx n i).2.1).toArray) :: (Ds ++ (wa, lstO wvs n0) :: L1) ∧ st.abs = ⟨none, false, ft n, (tx n i).2.2, false, none, ss, vne, V⟩ ∧ st.head = (J.length : Int) ∧ J.length + (tx n i).2.1.length ≤ 4096 ∧ IL vs (tx n i).1 ∧
    ((i = 0 ∧ ss = none ∧ Ds = []) ∨ (i = 1 ∧ ∃ d o t, ss = some d ∧ Ds = [(d, o)] ∧ o.IsDictOf (PySem.strKind PySem.Challenge.pw_bp0003_01 w) [(wStr (wIx n 1), .int (strT (wBs (wIx n 1)) []).length t)]) ∨ (2 ≤ i ∧ ∃ d o, Ds = [(d, o)]))
theorem tx2_eq {n : Int} (h : wIx n 2 = wIx n 1) : tx n 2 = ([((strT (wBs (wIx n 1)) []).length : Int), ((strT (wBs (wIx n 1)) []).length : Int)], strT (wBs (wIx n 1)) [], 4) := by
  show (if wIx n 2 = wIx n 1 then _ else _) = _
  rw [if_pos h]
theorem tx2_ne {n : Int} (h : ¬ wIx n 2 = wIx n 1) : tx n 2 = ([((strT (wBs (wIx n 1)) []).length : Int), ((strT (wBs (wIx n 2)) (strT (wBs (wIx n 1)) [])).length : Int)], strT (wBs (wIx n 2)) (strT (wBs (wIx n 1)) []), 4) := by
  show (if wIx n 2 = wIx n 1 then _ else _) = _
  rw [if_neg h]
set_option maxHeartbeats 8000000 in
theorem sp_message {n : Int} {nt : Tok} {vne0 : Option (Option Int)} {Q : Value → Heap → Prop} (D : HB w H0 env gs ls b ⟨none, false, false, 1, false, none, none, vne0, V⟩ [] r h ((V, dictE) :: l)) (O : AOk 9 A)
    (q : ∀ h' c as', HB w H0 env gs ls b as' (msgT n) 0 h' ((c, baO (msgT n).toArray) :: l) → Q (.ref c) h') : W w A (call (.ref 762) [.ref b, .int n nt]) Q h := by
  obtain ⟨st, J, a, e1, e2, e3, D⟩ := D
  refine W_call (WC_fnC D O (x1 := "b") (x2 := "n") (x3 := "kind") (xs := ["k", "words", "texts", "row", "x", "numbers", "count", "slot", "root", "mark"]) (gs' := ["range", "_law_widths", "len", "reversed", "_law_put", "_law_slot", "_law_scalar"]) (by k_is) (by k_is) (fun _ _ => BindsTo.of_eq rfl) (by decide +kernel) (fun m => rfl) (by decide) (by decide) (by decide) ?_)
  intro env A h X c1 c2 c3 o1 o2 o3 O D C1 C2 C3 d1 d2 d3 back
  simp only [List.map_cons, List.map_nil] at D
  (repeat keq_rows)
  refine ite_join (Q := fun (f : Flow) h' => f = .next ∧ HB w H0 env ["range", "_law_widths", "len", "reversed", "_law_put", "_law_slot", "_law_scalar"] [("k", none), ("words", none), ("texts", none), ("row", none), ("x", none), ("numbers", none), ("count", none), ("slot", none), ("root", none), ("mark", none)] b
    ⟨none, false, ft n, 1, false, none, none, vne0, V⟩ [] 0 h' ((c1, o1) :: (c2, o2) :: (c3, o3) :: X :: (V, dictE) :: l)) ?_ ?_
  · by_cases hf : ft n = true
    · rw [if_pos (show (n.fmod 2 == 1) = true from hf)]
      (repeat keq_rows)
      refine sp_ForceDefaults (.of D a e1 (Nat.zero_le _) e3) (O.mono (by omega)) fun h D => ?_
      (repeat keq_rows)
      rw [hf]
      exact ⟨rfl, D⟩
    · rw [if_neg (show ¬ (n.fmod 2 == 1) = true from hf)]
      (repeat keq_rows)
      rw [show ft n = false by simpa using hf]
      exact ⟨rfl, .of D a e1 (Nat.zero_le _) e3⟩
  · clear D a e1 e2 e3
    rintro _ h ⟨rfl, D⟩
    obtain ⟨st, J, a, e1, e2, e3, D⟩ := D
    (repeat keq_rows)
    have hcl : closureFor (Scope.mk .function [(PySem.Str.ofString ".0", PySem.NameKind.local), (PySem.Str.ofString "k", PySem.NameKind.local), (PySem.Str.ofString "n", PySem.NameKind.free)] false false []) env = pure [(("n" : Str), c2)] := by
      have := cellOf_K C2
      simp [closureFor, this]
    refine W_thenP (fun h => ∃ (wa : Addr) (wvs : List Value) (n0 : Nat) (st : BS) (J : List UInt8), Here (hd.heap_39 w.params) w H0 env ["range", "_law_widths", "len", "reversed", "_law_put", "_law_slot", "_law_scalar"] [("k", none), ("words", some (.ref wa)), ("texts", none), ("row", none), ("x", none), ("numbers", none), ("count", none), ("slot", none), ("root", none), ("mark", none)] h
      ((b, bobj st) :: (st.B, baO (J ++ []).toArray) :: (wa, lstO wvs n0) :: (c1, o1) :: (c2, o2) :: (c3, o3) :: X :: (V, dictE) :: l) ∧ st.abs = ⟨none, false, ft n, 1, false, none, none, vne0, V⟩ ∧ st.head = (J.length : Int) ∧ J.length + 0 ≤ 4096 ∧ wvs.length = nw n ∧ ∀ j v, wvs[j]? = some v → IsWd n j v) ?_ ?_
    · refine W_AssignComp D (fun a => [("k", none), ("words", some (.ref a)), ("texts", none), ("row", none), ("x", none), ("numbers", none), ("count", none), ("slot", none), ("root", none), ("mark", none)]) (gs' := []) (fun a vs m l₄ _ => l₄ = ((b, bobj st) :: (st.B, baO (J ++ []).toArray) :: (c1, o1) :: (c2, o2) :: (c3, o3) :: X :: (V, dictE) :: l) ∧ vs.length = nw n ∧ ∀ j v, vs[j]? = some v → IsWd n j v) (swaps_comp D (.tail _ (.head _)) rfl rfl) hcl (by decide +kernel) ?_ (fun a => .tail .head) ?_ ?_
      · intro p hp
        obtain rfl : p = (("n" : Str), c2) := by simpa using hp
        exact ⟨C2, by dsimp only; decide +kernel, by simp⟩
      · (repeat keq_rows)
        have hn := (nw_b n).1
        rw [← hn]
        refine W_range2 D fun h rg t u v D => ?_
        refine W_iterRange D (range_small _ _ (by omega) (by omega) (by have := (nw_b n).2; omega)) fun h it D => ?_
        rw [rangeSize1] at D
        refine CompBlk.rangeK O D (IsWd n) (by have := (nw_b n).2; omega) fun i t hi cenv h Y1 Y2 Y3 D hC => ?_
        have C2' := hC (("n" : Str), c2) (by simp)
        (repeat keq_rows)
        refine W_Subscript ?_
        (repeat keq_rows)
        refine W_TupleD D ?_
        (repeat keq_rows)
        refine ⟨by rw [sizeLine_eq]; simp, _, D, fun h a D => ?_⟩
        (repeat keq_rows)
        refine W_pow (by omega) (by have := (nw_b n).2; omega) (by decide) fun t3 => ?_
        rw [show ((1 : Int) + (i : Int)).toNat = i + 1 by omega]
        have hp := pw 3 (i + 1) 2 (by have := (nw_b n).2; omega) (by decide) (by decide)
        refine W_fdiv hp.2 (PyProof.noPylong_small hp.1) fun t4 => ?_
        (repeat keq_rows)
        have hi := wIx_b n (i + 1)
        refine W_looks (looks_gip D.at0 rfl slot_tuple_getitem.lookup) ?_
        refine W_operate (W_tget D.at0 (fmod_b _ (by decide)).1 (by have := (fmod_b (n.fdiv (3 ^ (i + 1))) (m := 4) (by decide)).2; omega) (wKey _ (fmod_b _ (by decide)).1 (fmod_b _ (by decide)).2 _ _ _ _).choose_spec (W_letGo ?_))
        exact ⟨⟨_, rfl⟩, D.drop⟩
      · rintro a vs m l₄ h₄ h' ⟨rfl, hl, hp⟩ D
        exact ⟨rfl, a, vs, m, st, J, D.to2, ‹_›, e1, e3, hl, hp⟩
    · clear D a e1 e2 e3
      rintro h ⟨wa, wvs, n0, st, J, D, a, e1, e3, hwl, hwv⟩
      (repeat keq_rows)
      have hcl : closureFor (Scope.mk .function [(PySem.Str.ofString ".0", PySem.NameKind.local), (PySem.Str.ofString "word", PySem.NameKind.local), (PySem.Str.ofString "b", PySem.NameKind.free)] false false []) env = pure [(("b" : Str), c1)] := by
        have := cellOf_K C1
        simp [closureFor, this]
      refine W_thenP (fun h => ∃ (ta : Addr) (tvs : List Value) (tn : Nat) (ss : Option Addr) (vne : Option (Option Int)), HB w H0 env ["range", "_law_widths", "len", "reversed", "_law_put", "_law_slot", "_law_scalar"] [("k", none), ("words", some (.ref wa)), ("texts", some (.ref ta)), ("row", none), ("x", none), ("numbers", none), ("count", none), ("slot", none), ("root", none), ("mark", none)] b
        ⟨none, false, ft n, (tx n (nw n)).2.2, false, none, ss, vne, V⟩ (tx n (nw n)).2.1 0 h ((ta, lstO tvs tn) :: (c1, o1) :: (c2, o2) :: (c3, o3) :: X :: (V, dictE) :: l) ∧ IL tvs (tx n (nw n)).1) ?_ ?_
      · refine W_AssignComp D (fun a => [("k", none), ("words", some (.ref wa)), ("texts", some (.ref a)), ("row", none), ("x", none), ("numbers", none), ("count", none), ("slot", none), ("root", none), ("mark", none)]) (gs' := []) (fun _ vs _ l₄ _ => TxJ w n b V wa wvs n0 ((c1, o1) :: (c2, o2) :: (c3, o3) :: X :: (V, dictE) :: l) wvs.length vs l₄) (swaps_comp D (.tail _ (.tail _ (.head _))) rfl rfl) hcl (by decide +kernel) ?_ (fun a => .tail (.tail .head)) ?_ ?_
        · intro p hp
          obtain rfl : p = (("b" : Str), c1) := by simpa using hp
          exact ⟨C1, by dsimp only; decide +kernel, by simp⟩
        · (repeat keq_rows)
          refine W_iterList D (D.led.own (wa, lstO wvs n0) (.tail _ (.tail _ (.head _)))) fun h it o D I => ?_
          refine CompBlk.list O D I (TxJ w n b V wa wvs n0 ((c1, o1) :: (c2, o2) :: (c3, o3) :: X :: (V, dictE) :: l)) ⟨st, J, [], none, vne0, rfl, a, e1, e3, .nil, .inl ⟨rfl, rfl, rfl⟩⟩ (n0 := n0) ?_ (by have := (nw_b n).2; omega) ?_
          · rintro i vs l' ⟨st, J, Ds, ss, vne, rfl, _⟩
            exact .tail _ (.tail _ (List.mem_append_right _ (.head _)))
          · clear D a e1 e3 I
            rintro i v hv vs l' ⟨st, J, Ds, ss, vne, rfl, a, e1, e3, hil, hd⟩ cenv h Y1 Y2 Y3 D hC
            have C1' := hC (("b" : Str), c1) (by simp)
            dsimp only at C1'
            obtain ⟨t, rfl⟩ := hwv i v hv
            have hi : i < nw n := by rw [← hwl]; exact (List.getElem?_eq_some_iff.mp hv).1
            have hi2 := (nw_b n).2
            have hs1 := wBs_size (wIx n 1)
            have hs2 := wBs_size (wIx n 2)
            have hT := (tx_b n i).1
            rcases hd with ⟨rfl, rfl, rfl⟩ | ⟨rfl, d, o, t', rfl, rfl, ho⟩ | ⟨h2, _⟩
            · simp only [List.nil_append] at D
              have D := D.perm (List.perm_append_comm_assoc [_, _, _] [_, _] _)
              simp only [List.cons_append, List.nil_append] at D
              (repeat keq_rows)
              refine sp_CSS0 (.of D a e1 (Nat.zero_le _) e3) (O.mono (by omega)) (wEnc (wIx_b n 1).2) (Nat.le_trans (wBs_size _) (by decide)) rfl rfl (by omega) fun h t d o ho D => ?_
              obtain ⟨st, J, a, e1, e2, e3, D⟩ := D
              refine ⟨_, ⟨st, J, [(d, o)], some d, some none, rfl, a, e1, e3, ?_, .inr (.inl ⟨rfl, d, o, t, rfl, rfl, ho⟩)⟩, ?_⟩
              · obtain rfl : vs = [] := List.eq_nil_of_length_eq_zero hil.1
                exact .cons .nil
              · exact D.perm (List.perm_append_comm_assoc [_, _, _] [_, _, _] _)
            · simp only [List.cons_append, List.nil_append] at D
              have D := D.perm (List.perm_append_comm_assoc [_, _, _] [_, _, _] _)
              simp only [List.cons_append, List.nil_append] at D
              (repeat keq_rows)
              refine sp_CSS1 (.of D a e1 (Nat.zero_le _) e3) (O.mono (by omega)) (wEnc (wIx_b n 2).2) (Nat.le_trans (wBs_size _) (by decide)) rfl rfl (by omega) ho rfl (by simp) (fun v hv h D => ?_) (fun hv h t o D => ?_)
              · have he : wIx n 2 = wIx n 1 ∧ v = .int (strT (wBs (wIx n 1)) []).length t' := by
                  unfold valueAt at hv
                  simp only [List.find?_cons, List.find?_nil] at hv
                  split at hv
                  · rename_i hb
                    simp at hb hv
                    exact ⟨(wStr_inj (wIx_b n 1).2 (wIx_b n 2).2 hb).symm, hv.symm⟩
                  · cases hv
                obtain ⟨hw, rfl⟩ := he
                obtain ⟨st, J, a, e1, e2, e3, D⟩ := D
                refine ⟨_, ⟨st, J, [(d, o)], some d, vne, rfl, by rw [a, tx2_eq hw]; rfl, e1, by rw [tx2_eq hw]; exact e3, by rw [tx2_eq hw]; exact hil.snoc, .inr (.inr ⟨Nat.le_refl _, d, o, rfl⟩)⟩, ?_⟩
                rw [tx2_eq hw]
                exact D.perm (List.perm_append_comm_assoc [_, _, _] [_, _, _] _)
              · have hw : ¬ wIx n 2 = wIx n 1 := fun e => by
                  unfold valueAt at hv
                  simp [← e] at hv
                obtain ⟨st, J, a, e1, e2, e3, D⟩ := D
                refine ⟨_, ⟨st, J, [(d, o)], some d, some none, rfl, by rw [a, tx2_ne hw]; rfl, e1, by rw [tx2_ne hw]; exact e3, by rw [tx2_ne hw]; exact hil.snoc, .inr (.inr ⟨Nat.le_refl _, d, o, rfl⟩)⟩, ?_⟩
                rw [tx2_ne hw]
                exact D.perm (List.perm_append_comm_assoc [_, _, _] [_, _, _] _)
            · omega
        · rintro a vs m l₄ h₄ h' ⟨st, J, Ds, ss, vne, rfl, aa, e1, e3, hil, hd⟩ D
          rw [hwl] at aa e3 hil D
          refine ⟨rfl, a, vs, m, ss, vne, .of (st := st) (J := J) ?_ aa e1 (Nat.zero_le _) e3, hil⟩
          rcases hd with ⟨_, _, rfl⟩ | ⟨_, d, o, t', _, rfl, ho⟩ | ⟨_, d, o, rfl⟩
          all_goals
            simp only [List.cons_append, List.nil_append] at D
            exact Here.to2 (D.sub (by repeat (first | with_reducible exact List.Sublist.refl _ | with_reducible apply List.Sublist.cons_cons | with_reducible apply List.Sublist.cons)))
      · clear D a e1 e3
        rintro h ⟨ta, tvs, tn, ss, vne, D, hil⟩
        obtain ⟨st, J, a, e1, e2, e3, D⟩ := D
        (repeat keq_rows)
        rw [← (kd_b n).1]
        refine W_cellStore (D.perm (List.perm_middle (l₁ := [_, _, _, _, _]))) C3 d3 fun h o3 d3 D => ?_
        have D := D.perm (List.perm_middle (l₁ := [_, _, _, _, _])).symm
        simp only [List.cons_append, List.nil_append] at D
        (repeat keq_rows)
        have hcl : closureFor (Scope.mk .function [(PySem.Str.ofString ".0", PySem.NameKind.local), (PySem.Str.ofString "k", PySem.NameKind.local), (PySem.Str.ofString "_law_scalar", PySem.NameKind.globalImplicit), (PySem.Str.ofString "kind", PySem.NameKind.free), (PySem.Str.ofString "n", PySem.NameKind.free)] false false []) env = pure [(("n" : Str), c2), (("kind" : Str), c3)] := by
          have h2 := cellOf_K C2
          have h3 := cellOf_K C3
          simp [closureFor, h2, h3]
        refine W_thenP (fun h => ∃ (ra : Addr) (rvs : List Value) (rn : Nat) (st : BS) (J : List UInt8), Here (hd.heap_39 w.params) w H0 env ["range", "_law_widths", "len", "reversed", "_law_put", "_law_slot", "_law_scalar"] [("k", none), ("words", some (.ref wa)), ("texts", some (.ref ta)), ("row", some (.ref ra)), ("x", none), ("numbers", none), ("count", none), ("slot", none), ("root", none), ("mark", none)] h
          ((b, bobj st) :: (st.B, baO (J ++ (tx n (nw n)).2.1).toArray) :: (ra, lstO rvs rn) :: (ta, lstO tvs tn) :: (c1, o1) :: (c2, o2) :: (c3, o3) :: X :: (V, dictE) :: l) ∧ st.abs = ⟨none, false, ft n, (tx n (nw n)).2.2, false, none, ss, vne, V⟩ ∧ st.head = (J.length : Int) ∧ J.length + (tx n (nw n)).2.1.length ≤ 4096 ∧ rvs.length = nr n ∧ ∀ j v, rvs[j]? = some v → SV (kd n) (n.fdiv (5 ^ j)) v) ?_ ?_
        · refine W_AssignComp D (fun a => [("k", none), ("words", some (.ref wa)), ("texts", some (.ref ta)), ("row", some (.ref a)), ("x", none), ("numbers", none), ("count", none), ("slot", none), ("root", none), ("mark", none)]) (gs' := ["_law_scalar"]) (fun _ vs _ l₄ _ => l₄ = ((b, bobj st) :: (st.B, baO (J ++ (tx n (nw n)).2.1).toArray) :: (ta, lstO tvs tn) :: (c1, o1) :: (c2, o2) :: (c3, o3) :: X :: (V, dictE) :: l) ∧ vs.length = nr n ∧ ∀ j v, vs[j]? = some v → SV (kd n) (n.fdiv (5 ^ j)) v)
            (swaps_comp D (.tail _ (.tail _ (.tail _ (.head _)))) rfl rfl) hcl (by decide +kernel) ?_ (fun a => .tail (.tail (.tail .head))) ?_ ?_
          · intro p hp
            simp only [List.mem_cons, List.not_mem_nil, or_false] at hp
            rcases hp with rfl | rfl
            · exact ⟨C2, by dsimp only; decide +kernel, by simp⟩
            · exact ⟨C3, by dsimp only; decide +kernel, by simp [List.lookup_cons, show (PySem.Str.ofString "kind" == PySem.Str.ofString "n") = false from by decide +kernel]⟩
          · (repeat keq_rows)
            rw [← (nr_b n).1]
            refine W_range1 D fun h rg t u v D => ?_
            rw [show ((nr n : Nat) : Int) = 0 + (nr n : Nat) by omega] at D
            refine W_iterRange D (range_small _ _ (by omega) (by omega) (by have := (nr_b n).2; omega)) fun h it D => ?_
            rw [rangeSize1] at D
            refine CompBlk.rangeK O D (fun j v => SV (kd n) (n.fdiv (5 ^ j)) v) (by have := (nr_b n).2; omega) fun i t hi cenv h Y1 Y2 Y3 D hC => ?_
            have C2' := hC (("n" : Str), c2) (by simp)
            have C3' := hC (("kind" : Str), c3) (by simp)
            dsimp only at C2' C3'
            (repeat keq_rows)
            refine W_pow (by omega) (by have := (nr_b n).2; omega) (by decide) fun t3 => ?_
            rw [show ((0 : Int) + (i : Int)).toNat = i by omega]
            have hp := pw 5 i 2 (by have := (nr_b n).2; omega) (by decide) (by decide)
            refine W_fdiv hp.2 (PyProof.noPylong_small hp.1) fun t4 => ?_
            (repeat keq_rows)
            exact sp_scalar (kd_b n).2 D (O.mono (by omega)) fun h v hv D => ⟨hv, D⟩
          · rintro ra vs m l₄ h₄ h' ⟨rfl, hl, hp⟩ D
            exact ⟨rfl, ra, vs, m, st, J, D.to2, a, e1, e3, hl, hp⟩
        · clear D a e1 e2 e3
          rintro h ⟨ra, rvs, rn, st, J, D, a, e1, e3, hrl, hrv⟩
          (repeat keq_rows)
          refine W_Subscript ?_
          (repeat keq_rows)
          refine sp_widths D (O.mono (by omega)) fun h a0 vs I D => ?_
          (repeat keq_rows)
          refine W_looks (looks_gip D.at0 rfl slot_list_getitem.lookup) ?_
          refine W_operate (W_lget D.at0 (by omega) (by have := (kd_b n).2; omega) (I.2 (kd n) _ (wdOf_at (kd_b n).2)).choose_spec (W_letGo ?_))
          have D := D.drop
          (repeat keq_rows)
          refine W_llen (D.led.own (ra, lstO rvs rn) (.tail _ (.tail _ (.head _)))) (by rw [hrl, sizeLine_eq]; have := (nr_b n).2; omega) fun tl => ?_
          rw [hrl]
          (repeat keq_rows)
          refine W_Subscript ?_
          (repeat keq_rows)
          refine sp_widths D (O.mono (by omega)) fun h a0 vs I D => ?_
          (repeat keq_rows)
          refine W_looks (looks_gip D.at0 rfl slot_list_getitem.lookup) ?_
          refine W_operate (W_lget D.at0 (by omega) (by have := (kd_b n).2; omega) (I.2 (kd n) _ (wdOf_at (kd_b n).2)).choose_spec (W_letGo ?_))
          have D := D.drop
          (repeat keq_rows)
          have hwd := wdOf_b (kd n)
          have hen : 0 ≤ (wdOf (kd n) : Int) * (nr n : Int) ∧ (wdOf (kd n) : Int) * (nr n : Int) ≤ 24 := by
            have := (nr_b n).2
            have h : nr n = 0 ∨ nr n = 1 ∨ nr n = 2 ∨ nr n = 3 := by omega
            rcases h with h | h | h | h <;> rw [h] <;> omega
          have hT := (tx_b n (nw n)).1
          refine sp_StartVector (.of D a e1 (Nat.zero_le _) e3) (O.mono (by omega)) (wdOf_isW (kd_b n).2) rfl rfl (by omega) (by omega) fun h t D => ?_
          obtain ⟨st, J, a, e1, e2, e3, D⟩ := D
          (repeat keq_rows)
          have hcast : ((wdOf (kd n) * nr n : Nat) : Int) = (wdOf (kd n) : Int) * (nr n : Int) := Int.natCast_mul ..
          have hM : (wdOf (kd n) : Int) ≤ M3 n := by unfold M3; omega
          refine W_thenP (fun h => ∃ (xv : Option Value), HB w H0 env ["range", "_law_widths", "len", "reversed", "_law_put", "_law_slot", "_law_scalar"] [("k", none), ("words", some (.ref wa)), ("texts", some (.ref ta)), ("row", some (.ref ra)), ("x", xv), ("numbers", none), ("count", none), ("slot", none), ("root", none), ("mark", none)] b
            ⟨none, false, ft n, M3 n, true, none, ss, some (some (nr n : Int)), V⟩ (vecL n 0) 4 h ((ra, lstO rvs rn) :: (ta, lstO tvs tn) :: (c1, o1) :: (c2, o2) :: (c3, o3) :: X :: (V, dictE) :: l)) ?_ ?_
          · refine W_For ?_
            (repeat keq_rows)
            refine W_reversed D (a := ra) (vs := rvs) (n := rn) (D.led.own _ (.tail _ (.tail _ (.head _)))) fun h it o D hit => ?_
            refine W_iterRev D.at0 hit ?_
            refine WC_forInd (fun m h => ∃ (o : Obj) (i : Nat) (xv : Option Value) (st : BS) (J : List UInt8), Here (hd.heap_39 w.params) w H0 env ["range", "_law_widths", "len", "reversed", "_law_put", "_law_slot", "_law_scalar"] [("k", none), ("words", some (.ref wa)), ("texts", some (.ref ta)), ("row", some (.ref ra)), ("x", xv), ("numbers", none), ("count", none), ("slot", none), ("root", none), ("mark", none)] h
              ((it, o) :: (b, bobj st) :: (st.B, baO (J ++ vecL n i).toArray) :: (ra, lstO rvs rn) :: (ta, lstO tvs tn) :: (c1, o1) :: (c2, o2) :: (c3, o3) :: X :: (V, dictE) :: l) ∧ RIt o ra ((i : Int) - 1) ∧ i ≤ nr n ∧ m = i ∧ st.abs = ⟨none, false, ft n, M3 n, true, none, ss, some (some (nr n : Int)), V⟩ ∧ st.head = (J.length : Int) ∧ wdOf (kd n) * i + 4 ≤ J.length ∧ J.length + (vecL n i).length ≤ 4096) ?_
              ⟨_, o, nr n, none, st, J, by rw [vecL_end]; exact D, by rw [hrl] at hit; exact hit, Nat.le_refl _, rfl, a, e1, by omega, by rw [vecL_end]; exact e3⟩
            clear D a e1 e2 e3 hit
            rintro i h ⟨o, _, xv, st, J, D, hit, hi, rfl, a, e1, e2, e3⟩
            rcases i with _ | j
            · refine W_endRev O D hit fun h D => ?_
              exact ⟨rfl, xv, .of D a e1 (by omega) e3⟩
            · have hv := List.getElem?_eq_getElem (l := rvs) (i := j) (by omega)
              rw [show (((j + 1 : Nat) : Int) - 1) = (j : Int) by omega] at hit
              refine W_nextRev D hit (D.led.own (ra, lstO rvs rn) (.tail _ (.tail _ (.tail _ (.head _))))) hv fun h o D hit => ?_
              have D := D.to2
              dsimp only
              (repeat keq_rows)
              (rename Here _ _ _ _ _ _ _ _ => D)
              have hb := (vecL_mod n (nr n - (j + 1)) (j + 1) (by omega)).2
              refine sp_put (r := wdOf (kd n) * (j + 1) + 4) (kd_b n).2 (hrv j _ hv) (.of D a e1 e2 e3) (O.mono (by omega)) (by have := (nr_b n).2; omega) fun h D => ?_
              rw [vecL_al n hi, aligned_id hM] at D
              change HB w H0 env _ _ b _ (putT (kd n) (n.fdiv (5 ^ j)) (vecL n (j + 1))) _ h _ at D
              rw [← vecL_step n hi] at D
              obtain ⟨st, J, a, e1, e2, e3, D⟩ := D
              (repeat keq_rows)
              refine ⟨.inl rfl, j, by omega, o, j, _, st, J, D.fr2, hit, by omega, rfl, a, e1, by rw [Nat.mul_succ] at e2; omega, e3⟩
          · clear D a e1 e2 e3
            rintro h ⟨xv, D⟩
            obtain ⟨st, J, a, e1, e2, e3, D⟩ := D
            (repeat keq_rows)
            refine sp_EndVector (r := 4) (.of D a e1 e2 e3) (O.mono (by omega)) (Nat.le_refl _) rfl rfl (by omega) (by have := (nr_b n).2; omega) fun h nbt D => ?_
            change HB w H0 env _ _ b _ (T3 n) _ h _ at D
            change W w A (storeName env _ (.int (T3 n).length nbt)) _ h
            obtain ⟨st, J, a, e1, e2, e3, D⟩ := D
            (repeat keq_rows)
            (rename Here _ _ _ _ _ _ _ _ => D)
            rw [← (cnt_b n).1] at D ⊢
            have hc4 := (cnt_b n).2
            have hT3 := (T3_b n).1
            refine sp_StartObject (.of D a e1 (Nat.zero_le _) e3) (O.mono (by omega)) rfl (by omega) (by omega) fun h c zt D => ?_
            rw [show ((cnt n : Int) + 3).toNat = cnt n + 3 by omega] at D
            obtain ⟨st, J, a, e1, e2, e3, D⟩ := D
            (repeat keq_rows)
            refine W_thenP (fun h => ∃ (ct : Tok) (kv sv : Option Value) (vs : List Value) (vn : Nat), HB w H0 env ["range", "_law_widths", "len", "reversed", "_law_put", "_law_slot", "_law_scalar"] [("k", kv), ("words", some (.ref wa)), ("texts", some (.ref ta)), ("row", some (.ref ra)), ("x", xv), ("numbers", some (.int (T3 n).length nbt)), ("count", some (.int (cnt n) ct)), ("slot", sv), ("root", none), ("mark", none)] b
              ⟨some c, false, ft n, (S1 n (cnt n)).ma, true, some (T3 n).length, ss, some none, V⟩ (S1 n (cnt n)).T 0 h ((c, lstO vs vn) :: (ra, lstO rvs rn) :: (ta, lstO tvs tn) :: (c1, o1) :: (c2, o2) :: (c3, o3) :: X :: (V, dictE) :: l) ∧ IL vs (S1 n (cnt n)).ns) ?_ ?_
            · refine W_For ?_
              (repeat keq_rows)
              refine W_range1 D fun h rg t u v D => ?_
              rw [show ((cnt n : Nat) : Int) = 0 + (cnt n : Nat) by omega] at D
              refine W_iterRange D (range_small _ _ (by omega) (by omega) (by omega)) fun h it D => ?_
              rw [rangeSize1] at D
              try simp only [Int.zero_add] at D
              refine WC_forInd (fun m h => ∃ (i : Nat) (ct : Tok) (kv sv : Option Value) (vs : List Value) (vn : Nat) (st : BS) (J : List UInt8), Here (hd.heap_39 w.params) w H0 env ["range", "_law_widths", "len", "reversed", "_law_put", "_law_slot", "_law_scalar"] [("k", kv), ("words", some (.ref wa)), ("texts", some (.ref ta)), ("row", some (.ref ra)), ("x", xv), ("numbers", some (.int (T3 n).length nbt)), ("count", some (.int (cnt n) ct)), ("slot", sv), ("root", none), ("mark", none)] h
                ((it, rngIt (i : Int) ((cnt n : Int) - (i : Int)) 1) :: (b, bobj st) :: (st.B, baO (J ++ (S1 n i).T).toArray) :: (c, lstO vs vn) :: (ra, lstO rvs rn) :: (ta, lstO tvs tn) :: (c1, o1) :: (c2, o2) :: (c3, o3) :: X :: (V, dictE) :: l) ∧ i ≤ cnt n ∧ m = cnt n - i ∧
                st.abs = ⟨some c, false, ft n, (S1 n i).ma, true, some (T3 n).length, ss, some none, V⟩ ∧ st.head = (J.length : Int) ∧ J.length + (S1 n i).T.length ≤ 4096 ∧ IL vs (S1 n i).ns) ?_
                ⟨_, 0, _, _, _, _, _, st, J, D, Nat.zero_le _, rfl, a, e1, e3, IL.zeros _ _⟩
              clear D a e1 e2 e3
              rintro m h ⟨i, ct, kv, sv, vs, vn, st, J, D, hi, rfl, a, e1, e3, hil⟩
              have hok := S1_ok n i
              have hvl : vs.length = cnt n + 3 := by rw [hil.1]; exact hok.len
              by_cases hlt : i < cnt n
              · refine W_nextRange D (by omega) fun h t D => ?_
                have D := D.to3
                dsimp only
                (repeat keq_rows)
                refine W_mod (by omega) fun t2 => ?_
                (repeat keq_rows)
                (rename Here _ _ _ _ _ _ _ _ => D)
                have hsl := fmod_b ((i : Int) + n.fdiv 13) (m := (cnt n : Int)) (by omega)
                have e9 : ((kd n : Int) + (i : Int)).fmod 9 = (slK n i : Nat) := by
                  rw [Int.fmod_eq_emod_of_nonneg _ (by decide)]; unfold slK; omega
                refine W_pow (by omega) (by omega) (by decide) fun t3 => ?_
                rw [Int.toNat_natCast]
                have hp := pw 17 i 4 (by omega) (by decide) (by decide)
                refine W_fdiv hp.2 (PyProof.noPylong_small hp.1) fun t4 => ?_
                (repeat keq_rows)
                rw [e9]
                refine sp_scalar (slK_b n i) D (O.mono (by omega)) fun h v1 hv1 D => ?_
                (repeat keq_rows)
                rw [e9]
                refine sp_scalar (slK_b n i) D (O.mono (by omega)) fun h v2 hv2 D => ?_
                (repeat keq_rows)
                have hhi := hok.hi
                refine sp_slot (slK_b n i) hv1 hv2 (.of D a e1 (Nat.zero_le _) e3) (O.mono (by omega)) (by omega) rfl rfl hsl.1 (by omega) (by omega) (fun hq h n' t D => ?_) (fun hq h D => ?_)
                · have hS : S1 n (i + 1) = ⟨putT (slK n i) (n.fdiv (17 ^ i)) (S1 n i).T, (S1 n i).ns.set (slI n i) (putT (slK n i) (n.fdiv (17 ^ i)) (S1 n i).T).length, max (S1 n i).ma (wdOf (slK n i))⟩ := by
                    rw [S1_succ, slotStep]; exact if_pos hq
                  rw [show rawOf (slK n i) (n.fdiv (17 ^ i)) ++ padT (wdOf (slK n i)) 0 (S1 n i).T = (S1 n (i + 1)).T by rw [hS]; rfl] at D
                  obtain ⟨st, J, a, e1, e2, e3, D⟩ := D
                  (repeat keq_rows)
                  have D := D.fr3
                  rw [show (i : Int) + 1 = ((i + 1 : Nat) : Int) by omega, show (cnt n : Int) - (i : Int) - 1 = (cnt n : Int) - ((i + 1 : Nat) : Int) by omega] at D
                  exact ⟨.inl rfl, cnt n - (i + 1), by omega, i + 1, ct, _, _, _, _, st, J, D, hlt, rfl, by rw [hS]; exact a, e1, e3, by rw [hS]; exact hil.set _⟩
                · have hS : S1 n (i + 1) = S1 n i := by
                    rw [S1_succ, slotStep]; exact if_neg (by show ¬ _ = true; rw [show (neOf (slK n i) (n.fdiv (17 ^ i)) ((n.fdiv 19).fmod 5) || ft n) = false from hq]; decide)
                  obtain ⟨st, J, a, e1, e2, e3, D⟩ := D
                  (repeat keq_rows)
                  have D := D.fr3
                  rw [← hS, show (i : Int) + 1 = ((i + 1 : Nat) : Int) by omega, show (cnt n : Int) - (i : Int) - 1 = (cnt n : Int) - ((i + 1 : Nat) : Int) by omega] at D
                  exact ⟨.inl rfl, cnt n - (i + 1), by omega, i + 1, ct, _, _, _, _, st, J, D, hlt, rfl, by rw [hS]; exact a, e1, by rw [hS]; exact e3, by rw [hS]; exact hil⟩
              · obtain rfl : i = cnt n := by omega
                refine W_endRange O D (by omega) fun h D => ?_
                exact ⟨rfl, ct, kv, sv, vs, vn, .of D a e1 (Nat.zero_le _) e3, hil⟩
            · clear D a e1 e2 e3
              rintro h ⟨ct, kv, sv, vs, vn, D, hil2⟩
              obtain ⟨st, J, a, e1, e2, e3, D⟩ := D
              (repeat keq_rows)
              have htl : tvs.length = nw n := by rw [hil.1]; exact (tx_b n (nw n)).2.1 (nw_b n).2
              have hn2 := (nw_b n).2
              refine W_thenP (fun h => ∃ (kv : Option Value) (vs : List Value) (vn : Nat), HB w H0 env ["range", "_law_widths", "len", "reversed", "_law_put", "_law_slot", "_law_scalar"] [("k", kv), ("words", some (.ref wa)), ("texts", some (.ref ta)), ("row", some (.ref ra)), ("x", xv), ("numbers", some (.int (T3 n).length nbt)), ("count", some (.int (cnt n) ct)), ("slot", sv), ("root", none), ("mark", none)] b
                ⟨some c, false, ft n, (S2 n (nw n)).ma, true, some (T3 n).length, ss, some none, V⟩ (S2 n (nw n)).T 0 h ((c, lstO vs vn) :: (ra, lstO rvs rn) :: (ta, lstO tvs tn) :: (c1, o1) :: (c2, o2) :: (c3, o3) :: X :: (V, dictE) :: l) ∧ IL vs (S2 n (nw n)).ns) ?_ ?_
              · refine W_For ?_
                (repeat keq_rows)
                refine W_llen (D.led.own (ta, lstO tvs tn) (.tail _ (.tail _ (.tail _ (.tail _ (.head _)))))) (by rw [htl, sizeLine_eq]; omega) fun tl => ?_
                rw [htl]
                (repeat keq_rows)
                refine W_range1 D fun h rg t u v D => ?_
                rw [show ((nw n : Nat) : Int) = 0 + (nw n : Nat) by omega] at D
                refine W_iterRange D (range_small _ _ (by omega) (by omega) (by omega)) fun h it D => ?_
                rw [rangeSize1] at D
                try simp only [Int.zero_add] at D
                refine WC_forInd (fun m h => ∃ (i : Nat) (kv : Option Value) (vs : List Value) (vn : Nat) (st : BS) (J : List UInt8), Here (hd.heap_39 w.params) w H0 env ["range", "_law_widths", "len", "reversed", "_law_put", "_law_slot", "_law_scalar"] [("k", kv), ("words", some (.ref wa)), ("texts", some (.ref ta)), ("row", some (.ref ra)), ("x", xv), ("numbers", some (.int (T3 n).length nbt)), ("count", some (.int (cnt n) ct)), ("slot", sv), ("root", none), ("mark", none)] h
                  ((it, rngIt (i : Int) ((nw n : Int) - (i : Int)) 1) :: (b, bobj st) :: (st.B, baO (J ++ (S2 n i).T).toArray) :: (c, lstO vs vn) :: (ra, lstO rvs rn) :: (ta, lstO tvs tn) :: (c1, o1) :: (c2, o2) :: (c3, o3) :: X :: (V, dictE) :: l) ∧ i ≤ nw n ∧ m = nw n - i ∧
                  st.abs = ⟨some c, false, ft n, (S2 n i).ma, true, some (T3 n).length, ss, some none, V⟩ ∧ st.head = (J.length : Int) ∧ J.length + (S2 n i).T.length ≤ 4096 ∧ IL vs (S2 n i).ns) ?_
                  ⟨_, 0, _, _, _, st, J, D, Nat.zero_le _, rfl, a, e1, e3, hil2⟩
                clear D a e1 e2 e3 hil2
                rintro m h ⟨i, kv, vs, vn, st, J, D, hi, rfl, a, e1, e3, hil2⟩
                have hok := S2_ok n i
                have hvl : vs.length = cnt n + 3 := by rw [hil2.1]; exact hok.len
                by_cases hlt : i < nw n
                · refine W_nextRange D (by omega) fun h t D => ?_
                  have D := D.to3
                  dsimp only
                  (repeat keq_rows)
                  (rename Here _ _ _ _ _ _ _ _ => D)
                  obtain ⟨hx, ho0, ho1⟩ := tx_off n hlt
                  refine W_Subscript ?_
                  (repeat keq_rows)
                  have hta := D.led.own (ta, lstO tvs tn) (.tail _ (.tail _ (.tail _ (.tail _ (.tail _ (.head _))))))
                  refine W_looks (looks_gip (a := ta) hta rfl slot_list_getitem.lookup) ?_
                  refine W_operate (W_lget (a := ta) hta (by omega) (by omega) (hil.2 i _ hx).choose_spec (W_letGo ?_))
                  (repeat keq_rows)
                  have hhi := hok.hi
                  have hlo := hok.lo
                  refine sp_USlot (.of D a e1 (Nat.zero_le _) e3) (O.mono (by omega)) rfl rfl (by omega) (by omega) (by omega) ho0 (by omega) (by omega) fun h n' t D => ?_
                  have hS := S2_succ n i
                  rw [show ((cnt n : Int) + (i : Int)).toNat = cnt n + i by omega] at D
                  change HB w H0 env _ _ b _ (relU _ _) _ h ((c, lstO (vs.set _ (.int (relU _ _).length _)) _) :: _) at D
                  rw [show relU ((tx n (nw n)).1.getD i 0) (S2 n i).T = (S2 n (i + 1)).T by rw [hS]; rfl] at D
                  obtain ⟨st, J, a, e1, e2, e3, D⟩ := D
                  (repeat keq_rows)
                  have D := D.fr3
                  rw [show (i : Int) + 1 = ((i + 1 : Nat) : Int) by omega, show (nw n : Int) - (i : Int) - 1 = (nw n : Int) - ((i + 1 : Nat) : Int) by omega] at D
                  exact ⟨.inl rfl, nw n - (i + 1), by omega, i + 1, _, _, _, st, J, D, hlt, rfl, by rw [hS]; exact a, e1, e3, by rw [hS]; exact hil2.set _⟩
                · obtain rfl : i = nw n := by omega
                  refine W_endRange O D (by omega) fun h D => ?_
                  exact ⟨rfl, kv, vs, vn, .of D a e1 (Nat.zero_le _) e3, hil2⟩
              · clear D a e1 e2 e3 hil2
                rintro h ⟨kv, vs, vn, D, hil2⟩
                obtain ⟨st, J, a, e1, e2, e3, D⟩ := D
                (repeat keq_rows)
                have hok := S2_ok n (nw n)
                have hvl : vs.length = cnt n + 3 := by rw [hil2.1]; exact hok.len
                have hhi := hok.hi
                have hlo := hok.lo
                have hT4 := (T3_b n).2
                refine sp_USlot (.of D a e1 (Nat.zero_le _) e3) (O.mono (by omega)) rfl rfl (by omega) (by omega) (by omega) (by omega) (by omega) (by omega) fun h n' t D => ?_
                rw [show ((cnt n : Int) + 2).toNat = cnt n + 2 by omega] at D
                change HB w H0 env _ _ b ⟨some c, false, ft n, (S3 n).ma, true, some (T3 n).length, ss, some none, V⟩ (S3 n).T _ h ((c, lstO (vs.set _ (.int (S3 n).T.length _)) _) :: _) at D
                have hil3 : IL (vs.set (cnt n + 2) (.int (S3 n).T.length t)) (S3 n).ns := hil2.set _
                generalize vs.set (cnt n + 2) (.int (S3 n).T.length t) = vs3 at D hil3
                obtain ⟨st, J, a, e1, e2, e3, D⟩ := D
                (repeat keq_rows)
                have hok3 := S3_ok n
                have hvl3 : vs3.length = cnt n + 3 := by rw [hil3.1]; exact hok3.len
                have hhi3 := hok3.hi
                have hlo3 := hok3.lo
                have D := D.perm (.cons _ (.cons _ (.cons _ (List.perm_middle (l₁ := [_, _, _, _, _, _])))))
                simp only [List.cons_append, List.nil_append] at D
                refine sp_EndObject (.of D a e1 (Nat.zero_le _) e3) (O.mono (by omega)) rfl rfl rfl rfl hil3 hok3.ent (by omega) (by omega) (by omega) (by omega) fun h rt D => ?_
                change HB w H0 env _ _ b ⟨none, false, ft n, max (S3 n).ma 4, false, some (T3 n).length, ss, some none, V⟩ (T4 n) _ h ((ra, lstO rvs rn) :: (ta, lstO tvs tn) :: (c1, o1) :: (c2, o2) :: (c3, o3) :: X :: l) at D
                have hT4 := T4_b n
                have hm : isW (max (S3 n).ma 4) := isW_max hok3.ma isW4
                obtain ⟨st, J, a, e1, e2, e3, D⟩ := D
                (repeat keq_rows)
                (rename Here _ _ _ _ _ _ _ _ => D)
                refine ite_join (Q := fun (v : Value) h' => MarkV (mk n) v ∧ HB w H0 env ["range", "_law_widths", "len", "reversed", "_law_put", "_law_slot", "_law_scalar"] [("k", kv), ("words", some (.ref wa)), ("texts", some (.ref ta)), ("row", some (.ref ra)), ("x", xv), ("numbers", some (.int (T3 n).length nbt)), ("count", some (.int (cnt n) ct)), ("slot", sv), ("root", some (.int (objT1 (S3 n).T).length rt)), ("mark", none)] b
                  ⟨none, false, ft n, max (S3 n).ma 4, false, some (T3 n).length, ss, some none, V⟩ (T4 n) 0 h' ((ra, lstO rvs rn) :: (ta, lstO tvs tn) :: (c1, o1) :: (c2, o2) :: (c3, o3) :: X :: l)) ?_ ?_
                · by_cases hk : mk n = true
                  · rw [if_pos (show ((n.fdiv 23).fmod 2 == 1) = true from hk)]
                    (repeat keq_rows)
                    exact ⟨.inr ⟨hk, _, rfl⟩, .of D a e1 (Nat.zero_le _) e3⟩
                  · rw [if_neg (show ¬ ((n.fdiv 23).fmod 2 == 1) = true from hk)]
                    (repeat keq_rows)
                    exact ⟨.inl ⟨by simpa using hk, rfl⟩, .of D a e1 (Nat.zero_le _) e3⟩
                · clear D a e1 e2 e3
                  rintro mv h ⟨hmv, D⟩
                  obtain ⟨st, J, a, e1, e2, e3, D⟩ := D
                  (repeat keq_rows)
                  (rename Here _ _ _ _ _ _ _ _ => D)
                  refine ite_join (Q := fun (f : Flow) h' => f = .next ∧ ∃ as', as'.fin = true ∧ HB w H0 env ["range", "_law_widths", "len", "reversed", "_law_put", "_law_slot", "_law_scalar"] [("k", kv), ("words", some (.ref wa)), ("texts", some (.ref ta)), ("row", some (.ref ra)), ("x", xv), ("numbers", some (.int (T3 n).length nbt)), ("count", some (.int (cnt n) ct)), ("slot", sv), ("root", some (.int (objT1 (S3 n).T).length rt)), ("mark", some mv)] b as' (msgT n) 0 h' ((ra, lstO rvs rn) :: (ta, lstO tvs tn) :: (c1, o1) :: (c2, o2) :: (c3, o3) :: X :: l)) ?_ ?_
                  · by_cases hp : pre n = true
                    · rw [if_pos (show ((n.fdiv 46).fmod 2 == 1) = true from hp)]
                      (repeat keq_rows)
                      refine sp_FinishSizePrefixed (.of D a e1 (Nat.zero_le _) e3) (O.mono (by omega)) hm (by omega) (by omega) (by omega) hmv fun h as' v hf D => ?_
                      rw [← hp] at D
                      change HB w H0 env _ _ b as' (msgT n) _ h _ at D
                      obtain ⟨st, J, a, e1, e2, e3, D⟩ := D
                      (repeat keq_rows)
                      exact ⟨rfl, as', hf, .of D a e1 (Nat.zero_le _) e3⟩
                    · rw [if_neg (show ¬ ((n.fdiv 46).fmod 2 == 1) = true from hp)]
                      (repeat keq_rows)
                      refine sp_Finish (.of D a e1 (Nat.zero_le _) e3) (O.mono (by omega)) hm (by omega) (by omega) (by omega) hmv fun h as' v hf D => ?_
                      rw [← show pre n = false by simpa using hp] at D
                      change HB w H0 env _ _ b as' (msgT n) _ h _ at D
                      obtain ⟨st, J, a, e1, e2, e3, D⟩ := D
                      (repeat keq_rows)
                      exact ⟨rfl, as', hf, .of D a e1 (Nat.zero_le _) e3⟩
                  · clear D a e1 e2 e3
                    rintro _ h ⟨rfl, as', hf, D⟩
                    obtain ⟨st, J, a, e1, e2, e3, D⟩ := D
                    (repeat keq_rows)
                    refine sp_Output (.of D a e1 (Nat.zero_le _) e3) (O.mono (by omega)) hf fun h oc D => ?_
                    obtain ⟨st, J, a, e1, e2, e3, D⟩ := D
                    have D := D.perm (List.perm_middle (l₁ := [_, _, _, _, _, _, _, _]))
                    simp only [List.cons_append, List.nil_append] at D
                    exact q _ oc as' (.of (back _ _ _ (D.sub (l' := X :: (b, bobj st) :: (st.B, baO (J ++ msgT n).toArray) :: (oc, baO (msgT n).toArray) :: l) (by repeat (first | with_reducible exact List.Sublist.refl _ | with_reducible apply List.Sublist.cons_cons | with_reducible apply List.Sublist.cons)))) a e1 (Nat.zero_le _) e3)
end
end

-- FE8
section
open PySem PySem.W PySem.Calls PyProof.Rows
section
variable {w : World} {A : Around} {H0 h : Heap} {env : Env} {gs : List Str} {ls : List (Str × Option Value)} {l : List (Addr × Obj)} {b a C S c V : Addr} {as : AS} {T : List UInt8} {r : Nat} {pos p p' : Pos} {x d : Value} {wd : Nat} {raw : List UInt8} {vs : List Value} {ns : List Int}
set_option maxHeartbeats 8000000 in
theorem sp_left {n : Int} {nt : Tok} {vne0 : Option (Option Int)} {Q : Value → Heap → Prop} (D : HB w H0 env gs ls b ⟨none, false, false, 1, false, none, none, vne0, V⟩ [] r h ((V, dictE) :: l)) (O : AOk 10 A)
    (q : ∀ h' as' T', HB w H0 env gs ls b as' T' 0 h' l → Q .none h') : W w A (call (.ref 769) [.ref b, .int n nt]) Q h := by
  obtain ⟨st, J, a, e1, e2, e3, D⟩ := D
  refine W_fn2 D O [("b", .ref b), ("n", .int n nt)] ["b", "n"] [] ["_law_message"] (by k_is) (by k_is) (fun _ _ => BindsTo.of_eq rfl) rfl (by decide +kernel) ?_
  intro env A h X O D back
  simp only [startL, List.map_cons, List.map_nil, List.cons_append, List.nil_append] at D
  (repeat keq_rows)
  refine sp_ForceDefaults (.of D a e1 (Nat.zero_le _) e3) (O.mono (by omega)) fun h D => ?_
  obtain ⟨st, J, a, e1, e2, e3, D⟩ := D
  (repeat keq_rows)
  by_cases c0 : n.fmod 5 = 0
  · rw [if_pos (by simpa using c0)]
    (repeat keq_rows)
    refine sp_StartObject (.of D a e1 (Nat.zero_le _) e3) (O.mono (by omega)) rfl (by decide) (by decide) fun h c t D => ?_
    obtain ⟨st, J, a, e1, e2, e3, D⟩ := D
    (repeat keq_rows)
    refine sp_PrependInt16Slot (ne := true) (.of D a e1 (Nat.zero_le _) e3) (O.mono (by omega)) (fit_h (by decide) (by decide)) (fit_h (by decide) (by decide)) rfl rfl (fun A Q h q => W_ne q) (by unfold isW; decide) (by simp) rfl rfl (by decide) (by simp) (by simp) (fun _ h n' t D => ?_) (fun hq => by cases hq)
    obtain ⟨st, J, a, e1, e2, e3, D⟩ := D
    (repeat keq_rows)
    exact q _ _ _ (.of ((back _ _ _ _ _ (D.sub (l' := _ :: _ :: X :: l) (by repeat (first | with_reducible exact List.Sublist.refl _ | with_reducible apply List.Sublist.cons_cons | with_reducible apply List.Sublist.cons))))) a e1 (Nat.zero_le _) e3)
  · rw [if_neg (by simpa using c0)]
    (repeat keq_rows)
    by_cases c1 : n.fmod 5 = 1
    · rw [if_pos (by simpa using c1)]
      (repeat keq_rows)
      refine sp_CreateString (.of D a e1 (Nat.zero_le _) e3) (O.mono (by omega)) enc_left (by decide) rfl (by simp) fun h t D => ?_
      have hl := strT_lt (bs := #[108, 101, 102, 116]) (T := [])
      simp at hl
      obtain ⟨st, J, a, e1, e2, e3, D⟩ := D
      (repeat keq_rows)
      refine sp_StartVector (.of D a e1 (Nat.zero_le _) e3) (O.mono (by omega)) (by unfold isW; decide) rfl rfl (by decide) (by omega) fun h t D => ?_
      have hv := vecT_lt (e := 8) (n := 3) (by unfold isW; decide) (strT #[108, 101, 102, 116] [])
      obtain ⟨st, J, a, e1, e2, e3, D⟩ := D
      (repeat keq_rows)
      refine sp_PrependUint64 (.of D a e1 (Nat.zero_le _) e3) (O.mono (by omega)) (fit_Q (by decide) (by decide)) (by unfold isW; decide) (by omega) fun h D => ?_
      obtain ⟨st, J, a, e1, e2, e3, D⟩ := D
      (repeat keq_rows)
      exact q _ _ _ (.of ((back _ _ _ _ _ (D.sub (l' := _ :: _ :: X :: l) (by repeat (first | with_reducible exact List.Sublist.refl _ | with_reducible apply List.Sublist.cons_cons | with_reducible apply List.Sublist.cons))))) a e1 (Nat.zero_le _) e3)
    · rw [if_neg (by simpa using c1)]
      (repeat keq_rows)
      by_cases c2 : n.fmod 5 = 2
      · rw [if_pos (by simpa using c2)]
        (repeat keq_rows)
        have hl := strT_lt (bs := #[97]) (T := [])
        simp at hl
        refine sp_CSS0 (.of D a e1 (Nat.zero_le _) e3) (O.mono (by omega)) enc_a (by decide) rfl rfl (by simp) fun h t d o ho D => ?_
        obtain ⟨st, J, a, e1, e2, e3, D⟩ := D
        (repeat keq_rows)
        refine sp_CSS1 (.of D a e1 (Nat.zero_le _) e3) (O.mono (by omega)) enc_same (by decide) rfl rfl (by omega) ho rfl (by simp) (fun v hv h D => ?_) (fun hv h t o D => ?_)
        · obtain ⟨st, J, a, e1, e2, e3, D⟩ := D
          (repeat keq_rows)
          exact q _ _ _ (.of ((back _ _ _ _ _ (D.sub (l' := _ :: _ :: X :: l) (by repeat (first | with_reducible exact List.Sublist.refl _ | with_reducible apply List.Sublist.cons_cons | with_reducible apply List.Sublist.cons))))) a e1 (Nat.zero_le _) e3)
        · obtain ⟨st, J, a, e1, e2, e3, D⟩ := D
          (repeat keq_rows)
          exact q _ _ _ (.of ((back _ _ _ _ _ (D.sub (l' := _ :: _ :: X :: l) (by repeat (first | with_reducible exact List.Sublist.refl _ | with_reducible apply List.Sublist.cons_cons | with_reducible apply List.Sublist.cons))))) a e1 (Nat.zero_le _) e3)
      · rw [if_neg (by simpa using c2)]
        (repeat keq_rows)
        by_cases c3 : n.fmod 5 = 3
        · rw [if_pos (by simpa using c3)]
          (repeat keq_rows)
          rw [show (n.fmod 5 == 4) = false by rw [c3]; rfl] at a
          refine sp_message (.of D.sw2 a e1 (Nat.zero_le _) e3) (O.mono (by omega)) fun h c as' D => ?_
          obtain ⟨st, J, a, e1, e2, e3, D⟩ := D
          (repeat keq_rows)
          exact q _ _ _ (.of ((back _ _ _ _ _ (D.sub (l' := _ :: _ :: X :: l) (by repeat (first | with_reducible exact List.Sublist.refl _ | with_reducible apply List.Sublist.cons_cons | with_reducible apply List.Sublist.cons))))) a e1 (Nat.zero_le _) e3)
        · rw [if_neg (by simpa using c3)]
          (repeat keq_rows)
          exact q _ _ _ (.of ((back _ _ _ _ _ (D.sub (l' := _ :: _ :: X :: l) (by repeat (first | with_reducible exact List.Sublist.refl _ | with_reducible apply List.Sublist.cons_cons | with_reducible apply List.Sublist.cons))))) a e1 (Nat.zero_le _) e3)
end
end

-- FE9h
section
open PySem PySem.W PySem.Calls PyProof.Rows Builtin

/-- t runs from every state with the heap h to a value and a heap of Q, or raises with a heap of E -/
def WX {α : Type} (w : World) (A : Around) (t : Sem α) (Q : α → Heap → Prop) (E : Value → Heap → Prop) (h : Heap) : Prop :=
  ∀ Γ p s, Γ.In A → Clean Γ → s.heap = h → Sem.wp (MW w) Γ t (fun a _ s' => Rest s s' ∧ Q a s'.heap) (fun e _ s' => Rest s s' ∧ E e s'.heap) p s
def WCX (w : World) (A : Around) (c : Code) (Q : Flow → Heap → Prop) (E : Value → Heap → Prop) (h : Heap) : Prop :=
  ∀ Γ p s, Γ.code = c → Γ.Below A → (∀ c ∈ Γ.below, okCode c.1 = true) → s.heap = h → wpCode (MW w) Γ (fun r s' => Rest s s' ∧ match r with | .ok f => Q f s'.heap | .error e => E e s'.heap) p s
section
variable {α β : Type} {w : World} {A : Around} {h : Heap} {E : Value → Heap → Prop}
theorem W.toX {t : Sem α} {Q : α → Heap → Prop} (x : W w A t Q h) : WX w A t Q E h :=
  fun Γ p s hΓ hc e => Sem.wp_mono _ _ _ (fun _ _ _ y => y) (fun _ _ _ y => y.elim) _ _ (x Γ p s hΓ hc e)
theorem WX.toW {t : Sem α} {Q : α → Heap → Prop} (x : WX w A t Q (fun _ _ => False) h) : W w A t Q h :=
  fun Γ p s hΓ hc e => Sem.wp_mono _ _ _ (fun _ _ _ y => y) (fun _ _ _ y => y.2) _ _ (x Γ p s hΓ hc e)
theorem WX_mono {t : Sem α} {Q Q' : α → Heap → Prop} {E' : Value → Heap → Prop} (x : WX w A t Q E h) (q : ∀ a h', Q a h' → Q' a h') (e : ∀ a h', E a h' → E' a h') : WX w A t Q' E' h :=
  fun Γ p s hΓ hc e' => Sem.wp_mono _ _ _ (fun a _ s' y => ⟨y.1, q a _ y.2⟩) (fun a _ _ y => ⟨y.1, e a _ y.2⟩) _ _ (x Γ p s hΓ hc e')
theorem WX_bind {m : Sem α} {f : α → Sem β} {Q : β → Heap → Prop} (x : WX w A m (fun a h' => WX w A (f a) Q E h') E h) : WX w A (m >>= f) Q E h := by
  intro Γ p s hΓ hc e
  rw [Sem.wp_bind']
  refine Sem.wp_mono _ _ _ (fun a p' s' y => ?_) (fun _ _ _ y => y) _ _ (x Γ p s hΓ hc e)
  exact Sem.wp_mono _ _ _ (fun b _ s'' z => ⟨y.1.trans z.1, z.2⟩) (fun b _ s'' z => ⟨y.1.trans z.1, z.2⟩) _ _ (y.2 Γ p' s' hΓ hc rfl)
/-- a step that raises nothing, ahead -/
theorem WX_bindW {m : Sem α} {f : α → Sem β} {Q : β → Heap → Prop} (x : W w A m (fun a h' => WX w A (f a) Q E h') h) : WX w A (m >>= f) Q E h := WX_bind x.toX
theorem WX_holding {vs : List Value} {m : Sem α} {Q : α → Heap → Prop} (x : WX w A m Q E h) : WX w A (holding vs m) Q E h := by
  intro Γ p s hΓ hc e; rw [Sem.wp_holding]; exact x Γ p s hΓ hc e
theorem WX_keep {vs : List Value} {m : Sem α} {Q : α → Heap → Prop} (x : WX w A m Q E h) : WX w A (m.keep vs) Q E h := by
  intro Γ p s hΓ hc e; rw [Sem.wp_keep]; exact x Γ p s hΓ hc e
theorem WX_operate {vs : List Value} {m : Sem Value} {Q : Value → Heap → Prop} (x : WX w A m Q E h) : WX w A (operate vs m) Q E h := by
  intro Γ p s hΓ hc e; rw [Sem.wp_operate]; exact x Γ p s hΓ hc e
theorem W_attemptX {m : Sem α} {Q : Except Value α → Heap → Prop} (x : WX w A m (fun a => Q (.ok a)) (fun e => Q (.error e)) h) : W w A m.attempt Q h := by
  intro Γ p s hΓ hc e
  rw [Sem.wp_attempt]
  exact Sem.wp_mono _ _ _ (fun _ _ _ y => y) (fun _ _ _ y => y) _ _ (x Γ p s hΓ hc e)
theorem WX_onRaise {m : Sem α} {k : Value → Sem Unit} {Q : α → Heap → Prop} (x : WX w A m Q (fun e h' => W w A (k e) (fun _ h'' => E e h'') h') h) : WX w A (m.onRaise k) Q E h := by
  intro Γ p s hΓ hc e
  rw [Sem.wp_onRaise]
  refine Sem.wp_mono _ _ _ (fun _ _ _ y => y) (fun a p' s' y => ?_) _ _ (x Γ p s hΓ hc e)
  exact Sem.wp_mono _ _ _ (fun _ _ s'' z => ⟨y.1.trans z.1, z.2⟩) (fun _ _ _ z => z.elim) _ _ (y.2 Γ p' s' hΓ hc rfl)
theorem WX_any {t : Sem α} {Q : α → Heap → Prop} (x : ∀ s, s.heap = h → wpAny (MW w) A t (fun a s' => Rest s s' ∧ Q a s'.heap) (fun e s' => Rest s s' ∧ E e s'.heap) s) : WX w A t Q E h :=
  fun Γ p s hΓ _ e => x s e Γ p hΓ
theorem WX_if_pos {c : Prop} [Decidable c] {a b : Sem α} {Q : α → Heap → Prop} (hc : c) (x : WX w A a Q E h) : WX w A (if c then a else b) Q E h := by rw [if_pos hc]; exact x
def FinQX (w : World) (A : Around) (Q : Flow → Heap → Prop) (E : Value → Heap → Prop) (fin : PySem.Fin) (h' : Heap) : Prop := match fin with
  | .done f => Q f h'
  | .again c' => c'.quiet = true ∧ WCX w A c' Q E h'
theorem WCX_tree {c : Code} {Q : Flow → Heap → Prop} (hok : okCode c = true) (x : WX w (A.under c) ((MW w).den c) (FinQX w A Q E) E h) : WCX w A c Q E h := by
  intro Γ p s hc hB hcl e
  rw [wpCode_iff_wp, hc]
  refine Sem.wp_mono _ _ _ (fun fin p' s' y => ?_) (fun a _ _ y => ⟨y.1, y.2⟩) _ _ (x Γ p s (hc ▸ hB.in) ⟨by rw [hc]; exact hok, hcl⟩ e)
  cases fin with
  | done f => exact ⟨y.1, y.2⟩
  | again c' => exact ⟨y.2.1, wpCode_mono (fun r' s'' z => ⟨y.1.trans z.1, z.2⟩) (y.2.2 (Γ.goto c') p' s' rfl (hB.goto c') hcl rfl)⟩
theorem WCX.toWC {c : Code} {Q : Flow → Heap → Prop} (x : WCX w A c Q (fun _ _ => False) h) : WC w A c Q h := by
  intro Γ p s hc hB hcl e
  refine wpCode_mono (fun r s' y => ?_) (x Γ p s hc hB hcl e)
  cases r with
  | ok f => exact ⟨f, rfl, y.1, y.2⟩
  | error e => exact y.2.elim
theorem WX_call {f : Value} {pos : List Value} {kw : List (Str × Value)} {Q : Value → Heap → Prop} (x : WCX w A (.call f ⟨pos, kw⟩) (fun f h' => ∃ v, f = .ret v ∧ Q v h') E h) : WX w A (call f pos kw) Q E h := by
  intro Γ p s hΓ hcl e
  show Sem.wp _ _ (runValue _) _ _ _ _
  rw [Sem.wp_runValue]
  refine wpCode_mono (fun r s' y => ?_) (x _ p s rfl (hΓ.enter _ none p (by intro z; cases z)) (clean_enter hcl _ none p) e)
  cases r with
  | ok f => obtain ⟨y1, v, rfl, y2⟩ := y; exact ⟨y1, y2⟩
  | error e => exact y
theorem WX_nil {env : Env} {Q : Flow → Heap → Prop} (q : Q .next h) : WX w A (execs [] env) Q E h := (W_nil q).toX
theorem WX_cons {env : Env} {st : Stmt} {rest : List Stmt} {Q : Flow → Heap → Prop} (x : WX w A (exec st env) (fun f h' => match f with | .next => WX w A (execs rest env) Q E h' | f => Q f h') E h) : WX w A (execs (st :: rest) env) Q E h := by
  rw [arm_execs_cons]
  refine WX_bind (WX_mono x (fun f h' y => ?_) fun _ _ y => y)
  cases f <;> first | exact y | exact (W_pure y).toX
/-- the call's own rows, as W_callWith -/
theorem WX_callWith {pos : Pos} {f : Value} {first : List Value} {args : List (Bool × Sem Value)} {keywords : List (Option Str × Sem Value)} {Q : Value → Heap → Prop}
    (x : W w A (evalArgs f true args keywords) (fun a h₁ => (∃ k, Looks (MW w) h₁ (keeperOf f) k) ∧ WX w A (call f (first ++ a.pos) a.kw) Q E h₁) h) : WX w A (callWith pos f first args keywords) Q E h := by
  unfold callWith
  refine WX_bindW (W_holding (W_mono x fun a h₁ y => WX_bindW (W_standAt ?_)))
  obtain ⟨⟨k, L⟩, y⟩ := y
  refine WX_bindW (W_looks L ?_)
  have marked (mk : Value) : WX w A (callMarked mk f (first ++ a.pos) a.kw) Q E h₁ := by unfold callMarked; exact WX_keep y
  have tail : ∀ {t : Sem Value}, WX w A t Q E h₁ → WX w A (t >>= fun r => holding [r] point >>= fun _ => pure r) Q E h₁ :=
    fun ht => WX_bind (WX_mono ht (fun r h₂ z => WX_bindW (W_holding (W_point (W_pure z).toX))) fun _ _ y => y)
  generalize hs : (args.any (·.1) || keywords.any (·.1.isNone)) = st
  cases k <;> cases st <;> dsimp only <;> first
    | exact tail y
    | exact tail (marked _)
    | exact tail (WX_operate y)
    | (split <;> first | exact tail y | exact tail (marked _))
variable {K : Frag} {H0 : Heap} {gs : List Str} {ls : List (Str × Option Value)} {l : List (Addr × Obj)} {env : Env}
theorem WCX_func {body : List Stmt} {Q : Flow → Heap → Prop} (x : WX w (A.deeper env) (execs body env) (fun f h' => Q (.ret (match f with | .ret v => v | _ => .none)) h') (fun e h' => W w (A.deeper env) (leaving env e) (fun _ h'' => E e h'') h') h) : WCX w A (.func body env) Q E h := by
  refine WCX_tree rfl ?_
  show WX w (A.deeper env) (do point; match ← (execs body env).onRaise (leaving env) with | .ret v => ret v | _ => ret .none) _ E h
  refine WX_bindW (W_point (WX_bind (WX_onRaise (WX_mono x (fun f h' y => ?_) fun _ _ y => y))))
  cases f <;> (refine W.toX (W_pure ?_); exact y)
/-- what is known of a frame that has just been entered -/
structure FrameIn (A A' : Around) (env' : Env) (h h₁ : Heap) : Prop where
  a : A' = A.deeper env'
  f : env'.frame = some env'.locals
  n : h.get? env'.locals = none
  k : ∀ b o, h.get? b = some o → h₁.get? b = some o
theorem WCX_fn {n : Nat} (D : Here K w H0 env gs ls h l) (O : AOk (n + 1) A) {f : Addr} {name qual : Str} {params : Arguments} {body : List Stmt} {scope : Scope} {dV kV doc pm cdv ct oc : Value} {an od : Option Addr} {osl : Array (Option Value)}
    (ho : K.lookup f = some ⟨oc, od, .func (fnOf name qual params body scope dV kV doc pm an cdv ct), osl⟩) (hcd : codeIn K cdv qual = true)
    {args : Args} (binds : List (Str × Value)) (hb : ∀ s : Shared, s.heap = h → BindsTo s (fnOf name qual params body scope dV kV doc pm an cdv ct) args binds)
    (ps xs gs' : List Str) (hps : binds.map (·.1) = ps) (hchk : frameOk scope ps xs gs' = true) {Q : Value → Heap → Prop}
    (x : ∀ env' A' h₁ X, AOk n A' → FrameIn A A' env' h h₁ → Here K w H0 env' gs' (startL binds xs) h₁ (X :: l) →
      (∀ ls'' h' l', Here K w H0 env' gs' ls'' h' (X :: l') → Here K w H0 env gs ls h' l') →
      WX w A' (execs body env') (fun fl h' => Q (match fl with | .ret v => v | _ => .none) h') (fun e h' => W w A' (leaving env' e) (fun _ h'' => E e h'') h') h₁) :
    WCX w A (.call (.ref f) args) (fun fl h' => ∃ v, fl = .ret v ∧ Q v h') E h := by
  simp only [frameOk, Bool.and_eq_true, List.all_eq_true, beq_iff_eq, Bool.not_eq_true', decide_eq_true_eq, bne_iff_ne, ne_eq] at hchk
  obtain ⟨⟨⟨⟨⟨⟨hl, hg⟩, hnd⟩, hcell⟩, hk⟩, hgen⟩, hco⟩ := hchk
  subst hps
  obtain ⟨c, oc', vs, tq, hc, hoc, hdc, hq⟩ := codeRec_of D.kin hcd
  obtain ⟨odl, E0, N⟩ := D.fr
  refine WCX_tree rfl ?_
  show WX w A.in1 (callAny (.ref f) args) _ E h
  simp only [callAny]
  refine WX_bindW (W_load (D.kin _ _ ho) ?_)
  dsimp only
  simp only [callFunction, hco, hgen, hc]
  refine WX_bindW (m := field (.ref c) 1) (W_any fun s e => wpAny_field (e ▸ hoc) hdc hq ⟨Rest.refl s, e ▸ WX_bindW (W_pure ?_)⟩)
  refine WX_bindW (W_any fun s e => hb s e _ _ _ _ ⟨Rest.refl s, ?_⟩)
  refine WX_bindW (W_any fun s' e' => wpAny_newFunctionEnv (s := s') (scope := scope) (binds := binds) (fun y hy => hcell y hy) (fun y hy => (hl y.1 (List.mem_append_left _ (List.mem_map_of_mem hy))).1) (fun h' hn hs => ⟨⟨rfl, rfl⟩, ?_⟩) hk)
  have es' : s'.heap = h := by rw [e', e]
  clear e' e hb
  rw [es'] at hn hs ⊢
  show WX w A.in1 _ _ _ h'
  clear s' s es'
  obtain ⟨o', es, ep, ho', hd', hsk, hm⟩ := hn
  have E1 : Led H0 h' ((h.objs.size, o') :: (env.locals, odl) :: l) :=
    (E0.alloc (o := { cls := .type (if (none : Option Env).isSome then "dict" else "frame"), data := .dict #[] }) rfl).turn (fun b hb => hs.2 b hb) hs.1 ho' (fun e => by rw [hd'] at e; cases e)
  have kk0 : ∀ b o, h.get? b = some o → h'.get? b = some o := fun b o e => (hs.2 b (Nat.ne_of_lt (Heap.lt_size e))).trans (Heap.get?_push_of_some _ e)
  have lim : h'.NoLimit := D.base.lim.keeps E1.keep
  refine WX_bindW (W_any fun s e => wpAny_enterFrame (e ▸ lim) (by have := O.room; exact this) ⟨Rest.refl s, ?_⟩)
  rw [e]
  refine (W_pure ⟨rfl, WCX_func ?_⟩).toX
  have kk : ∀ y ∈ binds.map (·.1) ++ xs, (newEnv scope h.objs.size mainGlobals [] (qual ++ ".<locals>.") (some f) (.ref c) none builtinsNs).kindOf y = some .local ∧ (y == ("__debug__" : Str)) = false := fun y hy => hl y hy
  have hD : Here K w H0 (newEnv scope h.objs.size mainGlobals [] (qual ++ ".<locals>.") (some f) (.ref c) none builtinsNs) gs' (startL binds xs) h' ((env.locals, odl) :: l) := by
    refine ⟨D.base, hk, rfl, rfl, fun p hp => ?_, fun y hy => hg y hy, o', ?_, es, ep, hd', hsk, ?_, fun p hp => ?_⟩
    · refine kk p.1 ?_
      rcases List.mem_append.mp hp with hp | hp
      · obtain ⟨q, hq, rfl⟩ := List.mem_map.mp hp
        exact List.mem_append_left _ (List.mem_map_of_mem hq)
      · obtain ⟨q, hq, rfl⟩ := List.mem_map.mp hp
        exact List.mem_append_right _ hq
    · exact E1
    · have : (startL binds xs).map (·.1) = binds.map (·.1) ++ xs := by
        unfold startL
        rw [List.map_append, List.map_map, List.map_map]
        congr 1
        exact List.map_id xs
      rw [this]; exact hnd
    · rw [hm]
      rcases List.mem_append.mp hp with hp | hp
      · obtain ⟨q, hq, rfl⟩ := List.mem_map.mp hp
        exact nsFind_lookup binds q hq (List.nodup_append.mp hnd).1
      · obtain ⟨q, hq, rfl⟩ := List.mem_map.mp hp
        exact lookup_none_of binds q fun hm' => (List.nodup_append.mp hnd).2.2 q hm' q hq rfl
  refine WX_mono (x _ _ h' (env.locals, odl) (O.deeper _) ⟨rfl, rfl, Heap.get?_none_of_le (Nat.le_refl _), kk0⟩ hD fun ls'' h2 l' D' => ?_) (fun fl h2 y => ⟨_, rfl, y⟩) fun _ _ y => y
  obtain ⟨od2, E2, _⟩ := D'.fr
  exact ⟨D.base, D.kind, D.gl, D.bl, D.lk, D.gk, odl, E2.drop, N⟩
end
end

-- FE9
section
open PySem PySem.W PySem.Calls PyProof.Rows
theorem exc_at (w : World) : ∃ nm q N bs bm hdct sn sub ab col dd k0 k1 k2 k3 k5, (hd.heap_39 w.params).lookup 298 = some (excClassObj nm q 298 N bs bm hdct sn sub ab col dd k0 k1 k2 k3 k5 "RuntimeError.__new__") ∧
    bm = [.type "RuntimeError", .type "Exception", .type "BaseException", .type "object"] ∧ nsOkIn (hd.heap_39 w.params) N = true ∧ nsIn (hd.heap_39 w.params) N "__init__" = some none := by
  refine ⟨_, _, _, _, _, _, _, _, _, _, _, _, _, _, _, _, by k_is, ?_, ?_, ?_⟩
  · rfl
  · kernel_rfl
  · k_is
section
variable {w : World} {A : Around} {H0 h : Heap} {env : Env} {gs : List Str} {ls : List (Str × Option Value)} {l : List (Addr × Obj)} {b a C S c V : Addr} {as : AS} {T : List UInt8} {r : Nat} {pos p p' : Pos} {x d : Value} {wd : Nat} {raw : List UInt8} {vs : List Value} {ns : List Int}
/-- the exception is under way, out of the call of Output -/
def Out (base : Heap) (L : List Env) (h0 : Heap) (e : Value) (h' : Heap) : Prop := ∃ ea t, e = .ref ea ∧ Heap.FlyingW base L ea (.ref 298) (.ref t) h' ∧ h0.UpToSlots h'
theorem Here.frame_not {K : Frag} (D : Here K w H0 env gs ls h l) : ∀ p ∈ l, p.1 ≠ env.locals := fun p hp e => by
  obtain ⟨od, E, _⟩ := D.fr
  have := E.nd
  rw [List.map_cons, List.nodup_cons] at this
  exact this.1 (List.mem_map.mpr ⟨p, hp, e⟩)
theorem Here.frame_old {K : Frag} (D : Here K w H0 env gs ls h l) {b : Addr} {o : Obj} (e : H0.get? b = some o) : b ≠ env.locals := by
  obtain ⟨od, E, _⟩ := D.fr
  exact E.old_ne e (.head _)
theorem ld_global {K : Frag} {E : Value → Shared → Prop} {s : Shared} {y : Str} {v : Value} {Q : Value → Shared → Prop} (D : Here K w H0 env gs ls s.heap l) (hx : y ∈ gs) (e : nsIn K mainGlobals y = some (some v)) (q : Q v s) : wpAny (MW w) A (eval (.Name y pos) env) Q E s := by
  obtain ⟨mg, hg⟩ := D.base.glob
  obtain ⟨hk, hd⟩ := D.gk _ hx
  rw [eval_Name env y pos hd]
  refine wpAny_bind (wpAny_standAt ?_)
  unfold loadName
  simp only [Env.blockKind, D.kind, hk, ScopeKind.isAnnotationScope, Bool.false_and, Bool.false_eq_true, if_false]
  have hgh : s.heap.Ns env.globals mg := by rw [D.gl]; exact hg.keeps D.led.keep
  exact loadGlobal_global hgh (mg_of D.base.kin hg e) q
/-- the frame at hand, among those that an exception leaves -/
theorem frames_in {K : Frag} {base h0 h1 : Heap} {L : List Env} {A' : Around} (F : FrameIn A A' env h0 h1) (D : Here K w H0 env gs ls h1 l) (hb : base.StaysIn h0) (hL : h0.FunFrames base L) : h1.FunFrames base (env :: L) := by
  obtain ⟨od, E, es, ep, hd, _⟩ := D.fr
  refine ⟨by rw [D.kind]; decide, ⟨env.locals, od, F.f, ?_, E.own _ (.head _), fun vs e => by rw [hd] at e; cases e⟩, hL.of_keeps fun b o e _ => ⟨o, F.k b o e, rfl⟩⟩
  cases e : base.get? env.locals with
  | none => rfl
  | some o => have := hb _ _ e; rw [F.n] at this; cases this
/-- Output of a builder that is not finished raises -/
theorem sp_OutputX {st : BS} {buf : Array UInt8} {E : Value → Heap → Prop} {Q : Value → Heap → Prop} {base : Heap} {L : List Env} (D : Here (hd.heap_39 w.params) w H0 env gs ls h ((b, bobj st) :: (st.B, baO buf) :: l)) (O : AOk 1 A) (hf : st.fin = false)
    (hA : A.frames = some L) (hb : base.StaysIn h) (hL : h.FunFrames base L) (q : ∀ e h', Out base L h e h' → E e h') : WX w A (call (.ref 344) [.ref b]) Q E h := by
  refine WX_call (WCX_fn D O (by k_is) (by k_is) [("self", .ref b)] (fun _ _ => BindsTo.of_eq rfl) ["self"] [] ["BuilderNotFinishedError"] rfl (by decide +kernel) ?_)
  intro env2 A2 h2 X O2 F2 D2 back
  simp only [startL, List.map_cons, List.map_nil, List.cons_append, List.nil_append] at D2
  refine WX_cons ?_
  rw [exec_If]
  have D3 := D2.to2
  refine WX_bindW (W_standAt (WX_bindW ?_))
  (repeat keq_rows)
  rw [hf]
  (repeat keq_rows)
  refine WX_if_pos rfl (WX_cons (WX_any fun s e => ?_))
  subst e
  obtain ⟨nm, q', N, bs, bm, hdct, sn, sub, ab, col, dd, k0, k1, k2, k3, k5, hC, rfl, hN, hni⟩ := exc_at w
  have X2 := D2.kin
  refine wpAny_Raise_call_sub (C := 298) (N := N) (nm := nm) (q := q') (bs := bs) (hdct := hdct) (sn := sn) (sub := sub) (ab := ab) (col := col) (dd := dd) (k0 := k0) (k1 := k1) (k2 := k2) (k3 := k3) (k5 := k5) PySem.F.excBase_RuntimeError (mN := s.heap.nsMap N) O2.hd rfl (nsMap_none_of_in X2 hN hni) ?_
  refine ld_global D2 (.head _) (glob_BuilderNotFinishedError w) ⟨rfl, evalArgs_empty ⟨rfl, Nat.zero_le _, X2 _ _ hC, .of_isNs (isNs_of_in X2 hN), fun h' e hm => ⟨⟨rfl, rfl⟩, W_any fun s' e' => ?_⟩⟩⟩
  subst e'
  refine wpAny_leaves_madeW (base := base) (by rw [F2.a]; exact Around.frames_deeper hA) F2.f (fun b o e => F2.k _ _ (hb b o e)) (frames_in F2 D2 hb hL) hm fun h'' t x1 x2 x3 x4 => ⟨⟨rfl, rfl⟩, q _ _ ⟨e, t, rfl, x1, ?_⟩⟩
  exact ((Heap.UpToSlots.of_keeps F2.k).trans (Heap.UpToSlots.of_keeps hm.keeps)).trans x4
/-- the listed objects stand, the frame has turned in its slots alone -/
theorem Here.slots {K : Frag} {h' : Heap} (D : Here K w H0 env gs ls h l) (k0 : ∀ b o, H0.get? b = some o → h'.get? b = some o) (kl : ∀ p ∈ l, h'.get? p.1 = some p.2) (up : h.UpToSlots h') : Here K w H0 env gs ls h' l := by
  obtain ⟨od, E, es, ep, hd, r⟩ := D.fr
  obtain ⟨sl, hs⟩ := up env.locals od (E.own _ (.head _)) fun vs e => by rw [hd] at e; cases e
  refine ⟨D.base, D.kind, D.gl, D.bl, D.lk, D.gk, { od with slots := sl }, ⟨k0, fun p hp => ?_, E.nd, fun p hp => ?_, ?_⟩, es, ep, hd, r⟩
  · rcases List.mem_cons.mp hp with rfl | hp
    · exact hs
    · exact kl p hp
  · rcases List.mem_cons.mp hp with rfl | hp
    · exact (E.new (env.locals, od) (.head _)).to fun e => ⟨e, rfl⟩
    · exact E.new p (.tail _ hp)
  · exact E.grow
theorem sp_refused {Q : Value → Heap → Prop} (D : HB w H0 env gs ls b as T r h l) (O : AOk 3 A) (hA : A.frames = some [env]) (hef : env.frame = some env.locals) (hf : as.fin = false)
    (q : ∀ h', HB w H0 env gs ls b as T r h' l → Q (.bool true) h') : W w A (call (.ref 776) [.ref b]) Q h := by
  obtain ⟨st, J, a, e1, e2, e3, D⟩ := D
  have hf : st.fin = false := by rw [← hf, ← a]; rfl
  obtain ⟨odl, E0, N0⟩ := id D.fr
  -- all but the frame of the caller
  have hbase : (hideAll h [env.locals]).StaysIn h := fun b o e => of_hideAll _ e
  have hfrm : h.FunFrames (hideAll h [env.locals]) [env] := by
    obtain ⟨es, ep, hd, _⟩ := N0
    exact ⟨by rw [D.kind]; decide, ⟨env.locals, odl, hef, hideAll_none _ (.head _), E0.own _ (.head _), fun vs e => by rw [hd] at e; cases e⟩, trivial⟩
  have hin : ∀ b o, h.get? b = some o → b ≠ env.locals → (hideAll h [env.locals]).get? b = some o := fun b o e n => hideAll_get _ e (by simpa using n)
  generalize hB : hideAll h [env.locals] = base at hbase hfrm hin
  refine W_call (WCX.toWC (WCX_fn D O (by k_is) (by k_is) [("b", .ref b)] (fun _ _ => BindsTo.of_eq rfl) ["b"] [] ["BuilderNotFinishedError"] rfl (by decide +kernel) ?_))
  intro env1 A1 h1 X O1 F1 D1 back
  simp only [startL, List.map_cons, List.map_nil, List.cons_append, List.nil_append] at D1
  have D1' := D1.to2
  have hA1 : A1.frames = some [env1, env] := by rw [F1.a]; exact Around.frames_deeper hA
  have hfr1 := frames_in F1 D1 hbase hfrm
  have hb1 : base.StaysIn h1 := fun b o e => F1.k _ _ (hbase b o e)
  refine W.toX (W_cons ?_)
  rw [arm_exec_Try]
  refine W_bind (W_standAt ?_)
  unfold tryStmt
  simp only [List.isEmpty_nil, if_true, List.isEmpty_cons, Bool.false_and, Bool.false_eq_true, if_false]
  refine W_bind (W_attemptX (WX_mono (Q := fun _ _ => False) (E := Out base [env1, env] h1) ?_ (fun _ _ y => y.elim) fun e h' y => ?_))
  · refine WX_cons ?_
    rw [exec_Expr env1 _ _ D1.inter rfl]
    refine WX_bindW (W_standAt (WX_bind ?_))
    rw [arm_eval_Call, show attributeBase (.Name _ _) _ env1 (eval (.Name _ _) env1) = eval (.Name _ _) env1 from rfl]
    refine WX_bindW (W_local D1' (.head _) (WX_bindW (W_standAt ?_)))
    unfold methodCall
    rw [show methodCallForm (([] : List PySem.Expr).length + ([] : List Keyword).length) (backTo _ (starEach [] env1)) (backToKw _ (keywordEach [] env1)) = true from rfl]
    unfold calleeOf methodCallPos
    rw [show ((_ : Nat) == _) = true from rfl]
    refine WX_bindW (W_holding (W_method D1'.kin (meth_Output w) D1'.inst0 (WX_bindW (W_pure ?_))))
    exact WX_callWith (W_args0 ⟨kept_fn (meth_Output w).hk D1'.kin, sp_OutputX D1' (O1.mono (by omega)) hf hA1 hb1 hfr1 fun e h' y => y⟩)
  · obtain ⟨ea, t, rfl, hfl, hup⟩ := y
    dsimp only
    have keep : ∀ {h5 : Heap}, base.StaysIn h5 → (∀ b o, H0.get? b = some o → h5.get? b = some o) ∧ ∀ p ∈ (b, bobj st) :: (st.B, baO (J ++ T).toArray) :: l, h5.get? p.1 = some p.2 := fun k =>
      ⟨fun b o e => k _ _ (hin _ _ (D.led.keep _ _ e) (D.frame_old e)), fun p hp => k _ _ (hin _ _ (D.led.own p hp) (D.frame_not p hp))⟩
    refine W_any fun s e' => ?_
    subst e'
    refine wpAny_bind (wpAny_looks_onW hA1 F1.f hfl fun h4 hh4 hs4 => ?_)
    refine wpAny_bind (wpAny_landsW hh4 fun h5 hfl5 hs5 => ?_)
    obtain ⟨nm, q', N, bs, bm, hdct, sn, sub, ab, col, dd, k0, k1, k2, k3, k5, hC, rfl, hN, hni⟩ := exc_at w
    have D5 := Here.slots D1.drop (keep hfl5.1).1 (keep hfl5.1).2 (hup.trans (hs4.trans hs5))
    refine wpAny_handleBy_cons (codeAny_handlers_test (ld_global D5 (.head _) (glob_BuilderNotFinishedError w) ?_)) (by intro q; cases q)
    obtain ⟨oe, he, hcls⟩ := hfl5.there
    obtain ⟨hp, g, d, tk, os⟩ := s
    refine wpAny_excMatches_sub_self (C := 298) (N := N) (nm := nm) (q := q') (bs := bs) (hdct := hdct) (sn := sn) (sub := sub) (ab := ab) (col := col) (dd := dd) (k0 := k0) (k1 := k1) (k2 := k2) (k3 := k3) (k5 := k5) (D5.kin _ _ hC) he hcls (by decide +kernel) ?_
    refine codeAny_handlers_suite ?_
    refine lands_againW hfl5 fun h6 hfl6 hs6 => ?_
    rw [arm_execs_cons, exec_Return_some]
    refine wpAny_bind (wpAny_bind (wpAny_standAt (wpAny_bind ?_)))
    rw [arm_eval_Constant]
    refine wpAny_pure (wpAny_pure (wpAny_pure ⟨⟨rfl, rfl⟩, ?_⟩))
    exact q _ ⟨st, J, a, e1, e2, e3, Here.slots D (keep hfl6.1).1 (keep hfl6.1).2 ((Heap.UpToSlots.of_keeps F1.k).trans (hup.trans (hs4.trans (hs5.trans hs6))))⟩
end
end

-- FE10h
section
open PySem PySem.W PySem.Calls PyProof.Rows Builtin
section
variable {w : World} {A : Around} {h : Heap} {K : Frag} {H0 : Heap} {gs : List Str} {ls : List (Str × Option Value)} {l : List (Addr × Obj)} {env : Env} {C fI : Addr} {rest : List Value}
/-- C(rest ..), C a class of the program with an __init__ of its own -/
theorem W_make {Q : Value → Heap → Prop} (X : K.In h) (hm : makesIn K C = true) (hi : findIn K (.ref C) "__init__" = some (some (.ref fI))) (hf : typeIn K (.ref fI) = some (.type "function"))
    (hq : W w (A.under (.builtin "type.__call__" ⟨.ref C :: rest, []⟩)) (call (.ref fI) (.ref (h.objs.size + 1) :: rest)) (fun v h' => v = .none ∧ Q (.ref (h.objs.size + 1)) h') ((h.push emptyDict).push (instObj C h.objs.size))) : W w A (call (.ref C) rest) Q h := by
  have Y := makes_of (M := MW w) X hm
  have Y' := Y
  obtain ⟨⟨oc, od, cd, sl, hC, e1, e2, e4⟩, made, base, self, top, tcall, typ⟩ := Y
  refine W_call (WC_tree rfl ?_)
  show W w A.in1 (callAny (.ref C) ⟨rest, []⟩) _ h
  simp only [callAny]
  refine W_bind (W_load hC ?_)
  dsimp only
  show W w A.in1 (callAny.viaDunder (.ref C) _) _ h
  unfold callAny.viaDunder
  refine W_bind (W_looks tcall ?_)
  dsimp only
  rw [tc_bind]
  refine W_bind (W_pure (W_bind (W_pure ?_)))
  refine W_pure (a := Fin.again (.call (.builtin "type.__call__") ⟨.ref C :: rest, []⟩)) ⟨rfl, WC_tree rfl ?_⟩
  show W w A.in1 (do checkBuiltinCall "type.__call__" ⟨.ref C :: rest, []⟩; again (.builtin "type.__call__" ⟨.ref C :: rest, []⟩)) _ h
  refine W_bind (W_any fun s e => check_slot tc_kind tc_split (e ▸ typ) (tc_args _ _ _) ⟨Rest.refl s, e ▸ W_pure ⟨Code.quiet_builtin _ (by decide +kernel), WC_builtin (by decide +kernel) entry_typeCall ?_⟩⟩)
  unfold Builtin.«type.__call__»
  have hmro : Looks (MW w) h (mroOf (.ref C)) cd.mro := ((Looks.ld (part := none) hC).andThen .now).andThen .now
  dsimp only
  refine W_if_neg (by rw [show (Value.ref C == Value.type "type") = false from rfl]; decide) ?_
  refine W_bind (W_looks hmro ?_)
  refine W_if_neg (by rw [e4]; decide) ?_
  refine W_bind (W_looks made ?_)
  refine W_bind (W_pure ?_)
  have hiL : Looks (MW w) h (typeLookup (.ref C) "__init__") (some (.ref fI)) := looks_findIn X hi
  refine W_bind (W_holding (W_call (Q := fun v h' => W w (A.under (.builtin "type.__call__" ⟨.ref C :: rest, []⟩)) _ (FinQ w A fun f h' => ∃ v, f = .ret v ∧ Q v h') h') (WC_any fun s e => ?_)))
  obtain ⟨hh, g, d, t, os⟩ := s
  obtain rfl : hh = h := e
  refine new_K Y' hiL (.inl rfl) ⟨_, rfl, ⟨rfl, rfl⟩, _, rfl, ?_⟩
  have k : ∀ b o, hh.get? b = some o → ((hh.push emptyDict).push (instObj C hh.objs.size)).get? b = some o := fun b o e => Heap.get?_push_of_some _ (Heap.get?_push_of_some _ e)
  have hx : ((hh.push emptyDict).push (instObj C hh.objs.size)).get? (hh.objs.size + 1) = some (instObj C hh.objs.size) := by heap_get
  have t1 : Looks (MW w) ((hh.push emptyDict).push (instObj C hh.objs.size)) (typeOf (.ref (hh.objs.size + 1))) (.ref C) := (Looks.ld hx).andThen .now
  have s1 := self.keeps k
  have i1 := hiL.keeps k
  have b1 := (bind_fn (M := MW w) X (.ref (hh.objs.size + 1)) hf).keeps k
  refine W_bind (W_looks (t1.andThen s1) ?_)
  refine W_if_neg (by decide) ?_
  unfold callSpecial?
  refine W_bind (W_holding (W_bind (W_looks (t1.andThen i1) ?_)))
  dsimp only
  refine W_holding (W_bind (W_looks b1 (W_bind (W_mono hq fun v h' y => W_pure ?_))))
  obtain ⟨rfl, y⟩ := y
  exact W_if_neg (by decide) (W_pure ⟨_, rfl, y⟩)
theorem AOk.make {n : Nat} (x : AOk (n + 1) A) (args : List Value) : AOk n (A.under (.builtin "type.__call__" ⟨.ref C :: args, []⟩)) :=
  ⟨x.hd, by have := x.dp; show A.depth + 1 + n ≤ 900; omega, by have := x.un; show A.units + 1 + 10 * n ≤ 9000; omega⟩
end
end

-- FE10
section
open PySem PySem.W PySem.Calls PyProof.Rows
theorem makes_B (w : World) : makesIn (hd.heap_39 w.params) 716 = true := by kernel_rfl
section
variable {w : World} {A : Around} {H0 h : Heap} {env : Env} {gs : List Str} {ls : List (Str × Option Value)} {l : List (Addr × Obj)} {b a C S c V : Addr} {as : AS} {T : List UInt8} {r : Nat} {pos p p' : Pos} {x d : Value} {wd : Nat} {raw : List UInt8} {vs : List Value} {ns : List Int}
/-- all that stands, but for what may turn, stands for good: the new object's dict with it -/
theorem Here.rebase {K : Frag} {C : Addr} (D : Here K w H0 env gs ls h l) : ∃ H1, (∀ b o, H0.get? b = some o → H1.get? b = some o) ∧
    Here K w H1 env gs ls ((h.push emptyDict).push (instObj C h.objs.size)) ((h.objs.size + 1, inst C h.objs.size #[]) :: l) := by
  obtain ⟨od, E, N⟩ := D.fr
  have lt : ∀ p ∈ (env.locals, od) :: l, p.1 < h.objs.size := fun p hp => Heap.lt_size (E.own p hp)
  have up : ∀ b o, h.get? b = some o → ((h.push emptyDict).push (instObj C h.objs.size)).get? b = some o := fun b o e => Heap.get?_push_of_some _ (Heap.get?_push_of_some _ e)
  have hx : ((h.push emptyDict).push (instObj C h.objs.size)).get? (h.objs.size + 1) = some (instObj C h.objs.size) := by heap_get
  have hdx : ((h.push emptyDict).push (instObj C h.objs.size)).get? h.objs.size = some emptyDict := Heap.get?_push_of_some _ (Heap.get?_push_size _ rfl)
  have sub : ∀ b o, H0.get? b = some o → (hideAll ((h.push emptyDict).push (instObj C h.objs.size)) ((h.objs.size + 1) :: ((env.locals, od) :: l).map (·.1))).get? b = some o := fun b o e => by
    refine hideAll_get _ (up _ _ (D.led.keep _ _ e)) fun hm => ?_
    rcases List.mem_cons.mp hm with rfl | hm
    · exact absurd (Heap.lt_size (D.led.keep _ _ e)) (Nat.not_lt.mpr (Nat.le_succ _))
    · obtain ⟨p, hp, rfl⟩ := List.mem_map.mp hm
      exact E.old_ne e hp rfl
  refine ⟨_, sub, ⟨D.base.kin.keeps sub, D.base.lim.keeps sub, let ⟨mg, hg⟩ := D.base.glob; ⟨mg, hg.keeps sub⟩, let ⟨mb, hb, e⟩ := D.base.bi; ⟨mb, hb.keeps sub, e⟩⟩, D.kind, D.gl, D.bl, D.lk, D.gk, od, ⟨fun b o e => of_hideAll _ e, fun p hp => ?_, ?_, fun p hp => ?_, ?_⟩, N⟩
  · rcases List.mem_cons.mp hp with rfl | hp
    · exact up _ _ (E.own _ (.head _))
    · rcases List.mem_cons.mp hp with rfl | hp
      · exact hx
      · exact up _ _ (E.own p (.tail _ hp))
  · have nd := E.nd
    have ne : ∀ p ∈ (env.locals, od) :: l, p.1 ≠ h.objs.size + 1 := fun p hp => Nat.ne_of_lt (Nat.lt_succ_of_lt (lt p hp))
    simp only [List.map_cons, List.nodup_cons, List.mem_cons, not_or] at nd ⊢
    refine ⟨⟨ne (env.locals, od) (.head _), nd.1⟩, fun hm => ?_, nd.2⟩
    obtain ⟨p, hp, e⟩ := List.mem_map.mp hm
    exact ne p (.tail _ hp) e
  · rcases List.mem_cons.mp hp with rfl | hp
    · have z := E.new (env.locals, od) (.head _)
      exact ⟨hideAll_none _ (.tail _ (.head _)), z.b, fun e d hd => sub _ _ (z.d e d hd)⟩
    · rcases List.mem_cons.mp hp with rfl | hp
      · refine ⟨hideAll_none _ (.head _), Nat.lt_succ_of_lt E.past, fun e d hd => ?_⟩
        obtain rfl : h.objs.size = d := Option.some.inj hd
        refine hideAll_get _ hdx fun hm => ?_
        rcases List.mem_cons.mp hm with e | hm
        · exact absurd e (Nat.ne_of_lt (Nat.lt_succ_self _))
        · obtain ⟨p, hp, e⟩ := List.mem_map.mp hm
          exact absurd (lt p hp) (by rw [e]; exact Nat.lt_irrefl _)
      · have z := E.new p (.tail _ hp)
        exact ⟨hideAll_none _ (.tail _ (.tail _ (List.mem_map.mpr ⟨p, hp, rfl⟩))), z.b, fun e d hd => sub _ _ (z.d e d hd)⟩
  · obtain ⟨o, e⟩ := E.grow
    exact ⟨o, sub _ _ e⟩
theorem W_setS {i : Nat} {p b C dx : Addr} {name : Str} {v : Value} {sl : Array (Option Value)} {K : Frag} {Q : Unit → Heap → Prop} (sl' : Array (Option Value)) (D : Here K w H0 env gs ls h ((b, inst C dx sl) :: l)) (S : SlotK K C name p i)
    (e : (sl ++ Array.replicate (i + 1 - sl.size) none).setIfInBounds i (some v) = sl') (q : ∀ h', Here K w H0 env gs ls h' ((b, inst C dx sl') :: l) → Q () h') : W w A (setAttr (.ref b) name v) Q h :=
  W_setSlot D S (by rw [e]) q
theorem sp_Builder {n : Int} {t : Tok} {Q : Value → Heap → Prop} (D : Here (hd.heap_39 w.params) w H0 env gs ls h l) (O : AOk 3 A) (h0 : 0 ≤ n) (h1 : n ≤ 100)
    (q : ∀ H1 h' b V, (∀ b o, H0.get? b = some o → H1.get? b = some o) → HB w H1 env gs ls b ⟨none, false, false, 1, false, none, none, none, V⟩ [] 0 h' ((V, dictE) :: l) → Q (.ref b) h') : W w A (call (.ref 716) [.int n t]) Q h := by
  refine W_make D.kin (makes_B w) (fI := 330) (by k_is) (by k_is) ?_
  obtain ⟨H1, sub, D1⟩ := D.rebase (C := 716)
  generalize h.objs.size = dx at D1 ⊢
  generalize (h.push emptyDict).push (instObj 716 dx) = h1 at D1 ⊢
  generalize dx + 1 = b at D1 ⊢
  have O1 := O.make (C := 716) [.int n t]
  obtain ⟨od, hT⟩ : ∃ v, (hd.heap_39 w.params).lookup 323 = some { cls := .type "tuple", data := .seq #[v] } := ⟨_, by k_is⟩
  refine W_fn1 D1 O1 [("self", .ref b), ("initialSize", .int n t)] ["self", "initialSize"] ["msg"] ["Builder", "BuilderSizeError", "bytearray", "UOffsetTFlags"] (by k_is) (by k_is) (fun s e => BindsTo.of_defaults rfl (e ▸ D1.kin _ _ hT) rfl rfl rfl) rfl (by decide +kernel) ?_
  intro env A h X O D back
  simp only [startL, List.map_cons, List.map_nil, List.cons_append, List.nil_append] at D
  (repeat keq_rows)
  rw [decide_eq_true h0]
  (repeat keq_rows)
  rw [decide_eq_true (show n ≤ 2147483648 by omega)]
  (repeat keq_rows)
  refine W_newBA D h0 (by rw [sizeLine_eq]; omega) fun h N D => ?_
  have D := D.swap
  (repeat keq_rows)
  refine W_setS #[some (.ref N)] D (slot_Bytes w) rfl fun h D => ?_
  (repeat keq_rows)
  refine W_setS #[some (.ref N), some .none] D (slot_current_vtable w) rfl fun h D => ?_
  (repeat keq_rows)
  refine W_pyInt D (by repeat (first | with_reducible exact List.mem_cons_self | with_reducible refine List.mem_cons_of_mem _ ?_)) (pk_U w) ?_
  (repeat keq_rows)
  refine ⟨_, _, rfl, ?_⟩
  (repeat keq_rows)
  refine W_setS #[some (.ref N), some .none, none, none, some (.int n t)] D (slot_head w) rfl fun h D => ?_
  (repeat keq_rows)
  refine W_setS #[some (.ref N), some .none, none, none, some (.int n t), some (.int 1 _)] D (slot_minalign w) rfl fun h D => ?_
  (repeat keq_rows)
  refine W_setS #[some (.ref N), some .none, none, none, some (.int n t), some (.int 1 _), none, some .none] D (slot_objectEnd w) rfl fun h D => ?_
  (repeat keq_rows)
  refine W_DictE D fun h V D => ?_
  have D := D.to2
  (repeat keq_rows)
  refine W_setS #[some (.ref N), some .none, none, none, some (.int n t), some (.int 1 _), none, some .none, none, none, some (.ref V)] D (slot_vtables w) rfl fun h D => ?_
  (repeat keq_rows)
  refine W_setS #[some (.ref N), some .none, none, none, some (.int n t), some (.int 1 _), some (.bool false), some .none, none, none, some (.ref V)] D (slot_nested w) rfl fun h D => ?_
  (repeat keq_rows)
  refine W_setS #[some (.ref N), some .none, none, some (.bool false), some (.int n t), some (.int 1 _), some (.bool false), some .none, none, none, some (.ref V)] D (slot_forceDefaults w) rfl fun h D => ?_
  (repeat keq_rows)
  refine W_setS #[some (.ref N), some .none, none, some (.bool false), some (.int n t), some (.int 1 _), some (.bool false), some .none, some .none, none, some (.ref V)] D (slot_sharedStrings w) rfl fun h D => ?_
  (repeat keq_rows)
  refine W_setS #[some (.ref N), some .none, some (.bool false), some (.bool false), some (.int n t), some (.int 1 _), some (.bool false), some .none, some .none, none, some (.ref V)] D (slot_finished w) rfl fun h D => ?_
  (repeat keq_rows)
  have D := back _ _ _ _ (D.perm (.cons _ (List.perm_middle (l₁ := [_, _]))))
  rw [show Array.replicate n.toNat (0 : UInt8) = (List.replicate n.toNat (0 : UInt8) ++ []).toArray by apply Array.toList_inj.mp; simp] at D
  exact ⟨rfl, q H1 _ b V sub ⟨⟨N, none, false, false, n, t, 1, _, false, none, none, none, V, dx⟩, List.replicate n.toNat 0, rfl, by simp; omega, Nat.zero_le _, by simp; omega, D⟩⟩
end
end

-- FE11h
section
open PySem PySem.W PySem.Calls PyProof.Rows Builtin
section
variable {K : Frag} {w : World} {A : Around} {H0 H1 h h0 : Heap} {env : Env} {gs : List Str} {ls : List (Str × Option Value)} {l : List (Addr × Obj)} {a b : Addr} {vs us : List Value} {n m : Nat} {pos : Pos}
/-- back to what stood before, from a base that has more -/
theorem Here.unbase (D : Here K w H1 env gs ls h l) (sub : ∀ b o, H0.get? b = some o → H1.get? b = some o) (B : Base K w H0) (L : Led H0 h0 l) : Here K w H0 env gs ls h l := by
  obtain ⟨od, E, N⟩ := D.fr
  refine ⟨B, D.kind, D.gl, D.bl, D.lk, D.gk, od, ⟨fun b o e => E.keep b o (sub b o e), E.own, E.nd, fun p hp => ⟨?_, (E.new p hp).b, fun e d hd => ?_⟩, L.grow⟩, N⟩
  · cases e : H0.get? p.1 with
    | none => rfl
    | some o => have z := (E.new p hp).n; rw [sub _ _ e] at z; cases z
  · rcases List.mem_cons.mp hp with rfl | hp
    · obtain ⟨es, ep, hd', _⟩ := N
      rw [show ((env.locals, od) : Addr × Obj).2.data = od.data from rfl, hd'] at e
      cases e
    · exact (L.new p hp).d e d hd
theorem eqBytes (x : Array UInt8) (t u : Tok) (A : Around) (s : Shared) : SeqAt.EqAt A s (.bytes x t) (.bytes x u) true := fun prog w E Q h => by
  unfold eqBool
  refine wpAny_holding ?_
  refine wpAny_ite_split (fun _ => wpAny_bind (wpAny_rule (wpAny_pure h))) (fun _ => ?_)
  exact wpAny_bind (richCompare_gives (typeIs_bytes s x t) (typeIs_bytes s x u) FB.slot_bytes_eq FB.entry_bytes_eq (FB.args_bytes_eq_2 _ _) (gives_bytes_eq x x t u) (fun x => nomatch x)
    (by rw [beq_self_eq_true]; exact wpAny_truthy_bool h))
/-- two lists of bytes, alike one by one -/
theorem W_neLists {Q : Value → Heap → Prop} {k : Nat} (O : AOk k A) (ha : h.get? a = some (lstO vs n)) (hb : h.get? b = some (lstO us m)) (hl : vs.length = us.length)
    (he : ∀ (j : Nat) x y, vs[j]? = some x → us[j]? = some y → ∃ z t u, x = .bytes z t ∧ y = .bytes z u) (q : Q (.bool false) h) : W w A (compareOp .NotEq (.ref a) (.ref b)) Q h := by
  refine W_any fun s e => ?_
  show wpAny _ _ (richCompare .NotEq (.ref a) (.ref b)) _ _ s
  subst e
  refine SeqAt.RcNeAt.lists (e := fun _ => true) (lstO_is ha) (lstO_is hb) (by simpa using hl) O.units (fun j h1 h2 => ?_) _ _ _ _ ?_
  · obtain ⟨z, t, u, e1, e2⟩ := he j (vs.toArray[j]) (us.toArray[j]) (by simp) (by simp)
    rw [e1, e2]
    exact eqBytes z t u _ _
  · have : (List.range vs.toArray.size).all (fun _ => true) = true := by simp
    rw [this]
    exact ⟨Rest.refl s, q⟩
theorem W_truthyL {S : Addr} {items : Array Value} {Q : Bool → Heap → Prop} (hl : h.IsList S items) (hz : items.size ≤ sizeLine) (q : Q (!items.isEmpty) h) : W w A (truthy (.ref S)) Q h :=
  W_any fun s e => by subst e; exact wpAny_truthy_list hl (by rw [sizeLine_eq] at hz; omega) ⟨⟨rfl, rfl⟩, q⟩
theorem W_And {e₁ e₂ : Expr} {Q : Value → Heap → Prop}
    (x : W w A (eval e₁ env) (fun v h₁ => W w A (truthy v) (fun c h₂ => if c = true then W w A (eval e₂ env) Q h₂ else Q v h₂) h₁) h) : W w A (eval (.BoolOp .And [e₁, e₂] pos) env) Q h := by
  show W w A (do
    let v ← eval e₁ env
    standAt pos
    let c ← holding [v] (truthy v)
    match BoolOp.And, c with
    | .And, false | .Or, true => pure v
    | _, _ => boolOp pos .And (eval e₂ env :: evalEach [] env)) Q h
  refine W_bind (W_mono x fun v h₁ y => W_bind (W_standAt (W_bind (W_holding (W_mono y fun c h₂ z => ?_)))))
  cases c with
  | false => exact W_pure z
  | true => exact z
/-- [] -/
theorem W_lsliceI {S T : Addr} {items : List Value} {vl vu : Value} {lo hi : Option Int} {Q : Value → Heap → Prop} (hl : h.IsList T items.toArray) (hs : h.get? S = some (slO vl vu .none)) (pl : IsPart vl lo) (pu : IsPart vu hi) (hz : items.length ≤ sizeLine)
    (q : Q (.ref h.objs.size) (h.push (lstO (slicePick items.toArray lo hi none).toList 0))) : W w A (getItem (.ref T) (.ref S)) Q h :=
  W_any fun s e => by
    subst e
    exact wpAny_getItem_list_slice hl ⟨_, hs, rfl, rfl⟩ pl pu .none (by simp) ⟨⟨rfl, rfl⟩, q⟩ (by simpa using hz)
/-- items[lo:hi], the slice just made -/
theorem W_lsliceD {T : Addr} {items : List Value} {vl vu : Value} {lo hi : Option Int} {Q : Value → Heap → Prop} (D : Here K w H0 env gs ls h l) (hl : h.IsList T items.toArray) (pl : IsPart vl lo) (pu : IsPart vu hi) (hz : items.length ≤ sizeLine)
    (q : ∀ h' N, Here K w H0 env gs ls h' ((N, lstO (slicePick items.toArray lo hi none).toList 0) :: l) → Q (.ref N) h') : W w A (getItem (.ref T) (.ref h.objs.size)) Q (h.push (slO vl vu .none)) := by
  have D1 := D.alloc (o := slO vl vu .none) rfl
  obtain ⟨o, e, r⟩ := hl
  exact W_lsliceI ⟨o, Heap.get?_push_of_some _ e, r⟩ D1.at0 pl pu hz (q _ _ (D1.alloc (o := lstO (slicePick items.toArray lo hi none).toList 0) rfl).drop1)
/-- a function called where no frame stands -/
theorem WC_fn0 {n : Nat} (B : Base K w H0) (L : Led H0 h l) (O : AOk (n + 1) A) {f : Addr} {name qual : Str} {params : Arguments} {body : List Stmt} {scope : Scope} {dV kV doc pm cdv ct : Value} {an : Option Addr} {o : Obj}
    (ho : h.get? f = some o) (hfd : o.data = .func (fnOf name qual params body scope dV kV doc pm an cdv ct)) (hcd : h.CodeRec cdv qual)
    {args : Args} (binds : List (Str × Value)) (hb : ∀ s : Shared, s.heap = h → BindsTo s (fnOf name qual params body scope dV kV doc pm an cdv ct) args binds)
    (ps xs gs' : List Str) (hps : binds.map (·.1) = ps) (hchk : frameOk scope ps xs gs' = true) {Q : Value → Heap → Prop}
    (x : ∀ env' A' h₁, AOk n A' → A' = A.deeper env' → env'.frame = some env'.locals → Here K w H0 env' gs' (startL binds xs) h₁ l →
      W w A' (execs body env') (fun fl h' => Q (match fl with | .ret v => v | _ => .none) h') h₁) :
    WC w A (.call (.ref f) args) (fun fl h' => ∃ v, fl = .ret v ∧ Q v h') h := by
  refine WCX.toWC ?_
  simp only [frameOk, Bool.and_eq_true, List.all_eq_true, beq_iff_eq, Bool.not_eq_true', decide_eq_true_eq, bne_iff_ne, ne_eq] at hchk
  obtain ⟨⟨⟨⟨⟨⟨hl, hg⟩, hnd⟩, hcell⟩, hk⟩, hgen⟩, hco⟩ := hchk
  subst hps
  obtain ⟨c, oc', vs, tq, hc, hoc, hdc, hq⟩ := hcd
  obtain ⟨oc, od, odt, osl⟩ := o
  dsimp only at hfd
  subst hfd
  refine WCX_tree rfl ?_
  show WX w A.in1 (callAny (.ref f) args) _ _ h
  simp only [callAny]
  refine WX_bindW (W_load ho ?_)
  dsimp only
  simp only [callFunction, hco, hgen, hc]
  refine WX_bindW (m := field (.ref c) 1) (W_any fun s e => wpAny_field (e ▸ hoc) hdc hq ⟨Rest.refl s, e ▸ WX_bindW (W_pure ?_)⟩)
  refine WX_bindW (W_any fun s e => hb s e _ _ _ _ ⟨Rest.refl s, ?_⟩)
  refine WX_bindW (W_any fun s' e' => wpAny_newFunctionEnv (s := s') (scope := scope) (binds := binds) (fun y hy => hcell y hy) (fun y hy => (hl y.1 (List.mem_append_left _ (List.mem_map_of_mem hy))).1) (fun h' hn hs => ⟨⟨rfl, rfl⟩, ?_⟩) hk)
  have es' : s'.heap = h := by rw [e', e]
  clear e' e hb
  rw [es'] at hn hs ⊢
  show WX w A.in1 _ _ _ h'
  clear s' s es'
  obtain ⟨o', es, ep, ho', hd', hsk, hm⟩ := hn
  have E1 : Led H0 h' ((h.objs.size, o') :: l) :=
    (L.alloc (o := { cls := .type (if (none : Option Env).isSome then "dict" else "frame"), data := .dict #[] }) rfl).turn (fun b hb => hs.2 b hb) hs.1 ho' (fun e => by rw [hd'] at e; cases e)
  have lim : h'.NoLimit := B.lim.keeps E1.keep
  refine WX_bindW (W_any fun s e => wpAny_enterFrame (e ▸ lim) (by have := O.room; exact this) ⟨Rest.refl s, ?_⟩)
  rw [e]
  refine (W_pure ⟨rfl, WCX_func ?_⟩).toX
  have kk : ∀ y ∈ binds.map (·.1) ++ xs, (newEnv scope h.objs.size mainGlobals [] (qual ++ ".<locals>.") (some f) (.ref c) none builtinsNs).kindOf y = some .local ∧ (y == ("__debug__" : Str)) = false := fun y hy => hl y hy
  have hD : Here K w H0 (newEnv scope h.objs.size mainGlobals [] (qual ++ ".<locals>.") (some f) (.ref c) none builtinsNs) gs' (startL binds xs) h' l := by
    refine ⟨B, hk, rfl, rfl, fun p hp => ?_, fun y hy => hg y hy, o', ?_, es, ep, hd', hsk, ?_, fun p hp => ?_⟩
    · refine kk p.1 ?_
      rcases List.mem_append.mp hp with hp | hp
      · obtain ⟨q, hq, rfl⟩ := List.mem_map.mp hp
        exact List.mem_append_left _ (List.mem_map_of_mem hq)
      · obtain ⟨q, hq, rfl⟩ := List.mem_map.mp hp
        exact List.mem_append_right _ hq
    · exact E1
    · have : (startL binds xs).map (·.1) = binds.map (·.1) ++ xs := by
        unfold startL
        rw [List.map_append, List.map_map, List.map_map]
        congr 1
        exact List.map_id xs
      rw [this]; exact hnd
    · rw [hm]
      rcases List.mem_append.mp hp with hp | hp
      · obtain ⟨q, hq, rfl⟩ := List.mem_map.mp hp
        exact nsFind_lookup binds q hq (List.nodup_append.mp hnd).1
      · obtain ⟨q, hq, rfl⟩ := List.mem_map.mp hp
        exact lookup_none_of binds q fun hm' => (List.nodup_append.mp hnd).2.2 q hm' q hq rfl
  exact WX_mono (x _ _ h' (O.deeper _) rfl rfl hD).toX (fun fl h2 y => ⟨_, rfl, y⟩) fun _ _ y => y
end
end

-- FE11
section
open PySem PySem.W PySem.Calls PyProof.Rows
theorem keep_Builder (w : World) : keepIn (hd.heap_39 w.params) (.ref 716) = true := by k_is
/-- what has been made: where it is, its octets, and what marks the copy that is kept -/
abbrev Kv := List (Addr × Array UInt8 × Tok)
abbrev kvM (kv : Kv) : List Value := kv.map fun p => .ref p.1
abbrev kvK (kv : Kv) : List Value := kv.map fun p => .bytes p.2.1 p.2.2
abbrev kvL (kv : Kv) : List (Addr × Obj) := kv.map fun p => (p.1, baO p.2.1)
theorem lawPerm (x1 x2 x3 c it m k : Addr × Obj) (G Z : List (Addr × Obj)) : (x1 :: x2 :: x3 :: c :: it :: m :: k :: (G ++ Z)).Perm (it :: x1 :: x2 :: x3 :: m :: k :: ((G ++ [c]) ++ Z)) := by
  refine (List.perm_middle (l₁ := [x1, x2, x3, c])).trans (.cons _ (.cons _ (.cons _ (.cons _ ?_))))
  refine (List.perm_middle (l₁ := [m, k])).symm.trans (.cons _ (.cons _ ?_))
  rw [List.append_assoc]
  exact List.perm_middle.symm
section
variable {w : World} {A : Around} {H0 h : Heap} {env : Env} {gs : List Str} {ls : List (Str × Option Value)} {l : List (Addr × Obj)} {b a C S c V : Addr} {as : AS} {T : List UInt8} {r : Nat} {pos p p' : Pos} {x d : Value} {wd : Nat} {raw : List UInt8} {vs : List Value} {ns : List Int}
theorem W_compBytes {k : Nat} {kv : Kv} {mL : Addr} {mn : Nat} {p1 p2 p3 p4 p5 cp : Pos} {Q : Value → Heap → Prop} (D : Here (hd.heap_39 w.params) w H0 env gs ls h l) (O : AOk k A) (hx : (("made" : Str), some (Value.ref mL)) ∈ ls) (hm : (mL, lstO (kvM kv) mn) ∈ l)
    (hall : ∀ p ∈ kv, (p.1, baO p.2.1) ∈ l ∧ p.2.1.size ≤ 400) (hz : kv.length ≤ 10)
    (q : ∀ h' a us n, Here (hd.heap_39 w.params) w H0 env gs ls h' ((a, lstO us n) :: l) → us.length = kv.length → (∀ (j : Nat) (v : Value), us[j]? = some v → ∃ (p : Addr × Array UInt8 × Tok) (t : Tok), kv[j]? = some p ∧ v = Value.bytes p.2.1 t) → Q (.ref a) h') :
    W w A (eval (.ListComp (.Call (.Name "bytes" p1) [.Name "one" p2] [] p3) [⟨.Name "one" p4, .Name "made" p5, [], 0⟩] { kind := .function, names := [(Str.ofString ".0", .local), (Str.ofString "one", .local), (Str.ofString "bytes", .globalImplicit)], isGenerator := false, isCoroutine := false, more := [] } cp) env) Q h := by
  refine W_Comp D (gs' := ["bytes"]) (cl := []) (fun _ us _ l₄ _ => l₄ = l ∧ us.length = kv.length ∧ ∀ (j : Nat) (v : Value), us[j]? = some v → ∃ (p : Addr × Array UInt8 × Tok) (t : Tok), kv[j]? = some p ∧ v = Value.bytes p.2.1 t) (by simp [closureFor]) (by decide +kernel) (by simp) ?_ (fun a us n l₄ h₄ h' ⟨e, e1, e2⟩ D' => q _ _ _ _ (by rw [← e]; exact D') e1 e2)
  refine W_local D hx ?_
  refine W_iterList D (D.led.own _ hm) fun h it o D I => ?_
  have hlen : (kvM kv).length = kv.length := by simp
  rw [← hlen]
  refine CompBlk.list O D I (fun i us l' => l' = l ∧ us.length = i ∧ ∀ (j : Nat) (v : Value), us[j]? = some v → ∃ (p : Addr × Array UInt8 × Tok) (t : Tok), kv[j]? = some p ∧ v = Value.bytes p.2.1 t) ⟨rfl, rfl, by simp⟩ (n0 := mn) (fun i us l' y => by rw [y.1]; exact hm) (by simp; omega) ?_
  rintro i v hv us l' ⟨rfl, hl, hp⟩ cenv h Y1 Y2 Y3 D hC
  obtain ⟨p, hpi, rfl⟩ : ∃ p, kv[i]? = some p ∧ v = Value.ref p.1 := by
    rw [List.getElem?_map] at hv
    cases e : kv[i]? with
    | none => rw [e] at hv; cases hv
    | some p => rw [e] at hv; exact ⟨p, rfl, (Option.some.inj hv).symm⟩
  obtain ⟨hpl, hps⟩ := hall p (List.mem_of_getElem? hpi)
  (repeat keq_rows)
  refine W_bytesOf (D.led.own _ (.tail _ (.tail _ (.tail _ hpl)))) (by rw [sizeLine_eq]; omega) fun t => ?_
  refine ⟨_, ⟨rfl, by simp [hl], fun j v hj => ?_⟩, D⟩
  by_cases hji : j < us.length
  · rw [List.getElem?_append_left hji] at hj; exact hp j v hj
  · have hj' : j = us.length := by
      have := (List.getElem?_eq_some_iff.mp hj).1
      simp at this; omega
    subst hj'
    simp at hj
    exact ⟨p, t, by rw [hl]; exact hpi, hj.symm⟩
end
end

-- FE12
section
open PySem PySem.W PySem.Calls PyProof.Rows
theorem ints_item {vs : List Value} {ns : List Int} (h : IntsAre vs ns) {i : Nat} (hi : i < vs.length) : ∃ x t, vs[i]? = some (.int x t) := by
  obtain ⟨t, e⟩ := h.get i _ (List.getElem?_eq_getElem (by rw [← h.length]; exact hi))
  exact ⟨_, t, e⟩
theorem lawPerm0 (it M k m b B V N : Addr × Obj) (r : List (Addr × Obj)) : (it :: M :: k :: m :: b :: B :: V :: N :: r).Perm (it :: b :: B :: V :: m :: k :: ([] ++ (M :: N :: r))) := by
  refine .cons _ ?_
  refine ((List.perm_middle (l₁ := [M, k, m])).trans (.cons _ ((List.perm_middle (l₁ := [M, k, m])).trans (.cons _ ((List.perm_middle (l₁ := [M, k, m])).trans (.cons _ ?_))))))
  refine (List.perm_middle (l₁ := [M, k])).trans (.cons _ ?_)
  exact .swap ..
set_option maxHeartbeats 8000000 in
theorem holds : PySem.Challenge.rw_bp0003_01.Holds := by
  refine hd ?_
  k_fill
  intro w s₀ s₁ mg mb G Y fa o pm cd doc dV kV ho hD hcd hdf hmg hg args vals as hpre hlay hrd hwl hlo
  have KX := kIn_of Y
  refine Ground.open G ?_
  intro T X1 X2 X3 X4
  clear X1 X2 X3 X4
  wrow_args hpre hlay hrd hwl hlo
  rename Heap.IsList _ _ _ => hL
  rename IntsAre _ _ => hI
  rename ¬ _ < _ => hc
  rename_i S vs asx ra wx rx hrx hcx
  dsimp only [docDef] at hD
  have he := Dflts.none hdf rfl
  subst he
  have B : Base (hd.heap_39 w.params) w s₁.heap := ⟨KX, T.nolimit, ⟨_, T.g⟩, ⟨_, T.b, T.builtins⟩⟩
  have h50 : ∃ o, (hd.heap_39 w.params).lookup 50 = some o := ⟨_, by k_is⟩
  have L : Led s₁.heap s₁.heap [] := ⟨fun _ _ e => e, by simp, by simp, by simp, h50.imp fun _ e => KX _ _ e⟩
  have O : AOk 12 callerA := ⟨rfl, by decide +kernel, by decide +kernel⟩
  suffices H : W w callerA (call (.ref fa) [.ref S]) (fun v h' => v = .bool true ∧ ∀ b o, s₁.heap.get? b = some o → h'.get? b = some o) s₁.heap by
    refine Sem.wp_mono _ _ _ (fun v p s' y => ?_) (fun _ _ _ y => y.elim) _ _ (H ctx0 default s₁ caller_in ⟨by decide +kernel, by simp⟩ rfl)
    obtain ⟨r, rfl, k⟩ := y
    exact ⟨.inl ⟨.bool true, .bool true, [], rfl, raisesW_false (by wrow_none_raised), .bool true, by wrow_post, unshared_nil⟩, .of_keep k, r.2, .of_eq (r.1.trans hg)⟩
  refine W_call (WC_mono (WC_fn0 (Q := fun v h' => v = .bool true ∧ ∀ b o, s₁.heap.get? b = some o → h'.get? b = some o) B L O ho hD hcd [("script", .ref S)] (fun _ _ => BindsTo.of_eq rfl) ["script"] ["numbers", "b", "made", "kept", "n", "octets"] ["Builder", "_law_left", "_law_refused", "_law_message", "bytes", "len"] rfl (by decide +kernel) ?_) fun f h' y => by obtain ⟨v, rfl, y⟩ := y; exact ⟨v, rfl, y⟩)
  have hz : vs.length ≤ 63 := by have := hI.length; omega
  clear G Y KX T hdf hmg hg hrx hcx rx wx ra hc hD ho hcd
  generalize s₁.heap = H0 at B L hL ⊢

  intro env A h O eA hf D
  simp only [startL, List.map_cons, List.map_nil, List.cons_append, List.nil_append] at D
  have hA : A.frames = some [env] := by rw [eA]; exact Around.frames_deeper rfl
  clear eA
  refine W_cons (W_thenP (fun h => ∃ (N : Addr) (nvs : List Value) (nn : Nat), Here (hd.heap_39 w.params) w H0 env ["Builder", "_law_left", "_law_refused", "_law_message", "bytes", "len"] [("script", some (.ref S)), ("numbers", some (.ref N)), ("b", none), ("made", none), ("kept", none), ("n", none), ("octets", none)] h
    [(N, lstO nvs nn)] ∧ (∃ ms, IntsAre nvs ms) ∧ 0 < nvs.length ∧ nvs.length ≤ 5) ?_ ?_)
  · have hS : ∀ {h : Heap}, (∀ b o, H0.get? b = some o → h.get? b = some o) → h.IsList S vs.toArray := fun k => let ⟨o, e, r⟩ := hL; ⟨o, k _ _ e, r⟩
    (repeat keq_rows)
    refine W_truthyL (hS D.led.keep) (by rw [sizeLine_eq]; simp; omega) ?_
    cases vs with
    | nil =>
      rw [if_neg (by simp)]
      (repeat keq_rows)
      refine W_ListD D ?_
      (repeat keq_rows)
      refine ⟨by rw [sizeLine_eq]; simp, _, D, fun h N D => ?_⟩
      (repeat keq_rows)
      (rename Here _ _ _ _ _ _ _ _ => D)
      exact ⟨rfl, N, _, 0, D, ⟨_, .cons _ _ (.cons _ _ (.cons _ _ .nil))⟩, by simp, by simp⟩
    | cons v0 vs0 =>
      rw [if_pos (by simp)]
      (repeat keq_rows)
      refine W_Subscript ?_
      (repeat keq_rows)
      refine W_Slice0 ?_
      (repeat keq_rows)
      (rename Here _ _ _ _ _ _ _ _ => D)
      have hS1 := hS D.led.keep
      obtain ⟨oS, eS, cS, _⟩ := id hS1
      refine W_looks (looks_gip (Heap.get?_push_of_some _ eS) cS slot_list_getitem.lookup) ?_
      refine W_operate (W_lsliceD D hS1 .none (.int _ _) (by rw [sizeLine_eq]; omega) fun h N D => W_letGo ?_)
      have hI' := slice_ints_uptoW hI (y := 5) (by decide)
      have hl := hI'.length
      have hl0 := hI.length
      rw [List.length_take, ← hl0] at hl
      (repeat keq_rows)
      (rename Here _ _ _ _ _ _ _ _ => D)
      refine ⟨rfl, _, _, 0, D, ⟨_, hI'⟩, ?_, ?_⟩
      · rw [hl]; simp only [List.length_cons]; omega
      · rw [hl]; simp only [List.length_cons]; omega
  · rintro h ⟨N, nvs, nn, D, ⟨ms, hms⟩, hn0, hn5⟩
    clear hL hI hz
    (repeat keq_rows)
    refine W_fcall D (by repeat (first | with_reducible exact List.mem_cons_self | with_reducible refine List.mem_cons_of_mem _ ?_)) (glob_Builder w) (keep_Builder w) ?_ (by with_unfolding_all exact rfl)
    (repeat keq_rows)
    refine W_Subscript ?_
    (repeat keq_rows)
    obtain ⟨x0, t0, hx0⟩ := ints_item hms hn0
    refine W_looks (looks_gip D.at0 rfl slot_list_getitem.lookup) ?_
    refine W_operate (W_lget D.at0 (by decide) (by decide) hx0 (W_letGo ?_))
    (repeat keq_rows)
    refine sp_Builder D (O.mono (by omega)) (fmod_b _ (by decide)).1 (by have := (fmod_b x0 (m := 30) (by decide)).2; omega) fun H1 h b V sub D => ?_
    obtain ⟨st, J, a, e1, e2, e3, D⟩ := D
    (repeat keq_rows)
    (rename Here _ _ _ _ _ _ _ _ => D)
    refine W_ListD D ?_
    (repeat keq_rows)
    refine ⟨by rw [sizeLine_eq]; simp, _, D, fun h mL D => ?_⟩
    (repeat keq_rows)
    (rename Here _ _ _ _ _ _ _ _ => D)
    refine W_ListD D ?_
    (repeat keq_rows)
    refine ⟨by rw [sizeLine_eq]; simp, _, D, fun h kL D => ?_⟩
    (repeat keq_rows)
    refine W_thenP (fun h => ∃ (nv ov : Option Value) (V : Addr) (vne : Option (Option Int)) (l' : List (Addr × Obj)), HB w H1 env ["Builder", "_law_left", "_law_refused", "_law_message", "bytes", "len"] [("script", some (.ref S)), ("numbers", some (.ref N)), ("b", some (.ref b)), ("made", some (.ref mL)), ("kept", some (.ref kL)), ("n", nv), ("octets", ov)] b ⟨none, false, false, 1, false, none, none, vne, V⟩ [] 0 h l') ?_ ?_
    · refine W_For ?_
      refine W_Subscript ?_
      (repeat keq_rows)
      refine W_Slice1 ?_
      (repeat keq_rows)
      (rename Here _ _ _ _ _ _ _ _ => D)
      have hN := D.led.own (N, lstO nvs nn) (.tail _ (.tail _ (.tail _ (.tail _ (.tail _ (.head _))))))
      refine W_looks (looks_gip (Heap.get?_push_of_some _ hN) rfl slot_list_getitem.lookup) ?_
      refine W_operate (W_lsliceD D (lstO_is hN) (.int _ _) .none (by rw [sizeLine_eq]; omega) fun h M D => W_letGo ?_)
      have hm2 := slice_ints_fromW hms (x := 1) (by decide)
      have hl := hm2.length
      have hl0 := hms.length
      rw [List.length_drop, ← hl0] at hl
      clear hN
      generalize (slicePick nvs.toArray (some 1) none none).toList = vs2 at D hm2 hl ⊢
      refine W_iterList D D.at0 fun h it o D I => ?_
      have D := D.perm (lawPerm0 _ _ _ _ _ _ _ _ _)
      generalize hZ : [(M, lstO vs2 0), (N, lstO nvs nn)] = Z at D
      have hMZ : (M, lstO vs2 0) ∈ Z := by rw [← hZ]; exact .head _
      clear hZ
      refine WC_forInd (fun m h => ∃ (o : Obj) (i : Nat) (nv ov : Option Value) (kv : Kv) (mn kn : Nat) (st : BS) (J : List UInt8) (V : Addr) (vne : Option (Option Int)), Here (hd.heap_39 w.params) w H1 env ["Builder", "_law_left", "_law_refused", "_law_message", "bytes", "len"] [("script", some (.ref S)), ("numbers", some (.ref N)), ("b", some (.ref b)), ("made", some (.ref mL)), ("kept", some (.ref kL)), ("n", nv), ("octets", ov)] h
        ((it, o) :: (b, bobj st) :: (st.B, baO (J ++ []).toArray) :: (V, dictE) :: (mL, lstO (kvM kv) mn) :: (kL, lstO (kvK kv) kn) :: (kvL kv ++ Z)) ∧ LIt o M i ∧ i ≤ vs2.length ∧ m = vs2.length - i ∧
        st.abs = ⟨none, false, false, 1, false, none, none, vne, V⟩ ∧ st.head = (J.length : Int) ∧ J.length + 0 ≤ 4096 ∧ kv.length = i ∧ ∀ p ∈ kv, p.2.1.size ≤ 400) ?_ ⟨_, o, 0, none, none, [], 0, 0, st, J, V, none, D, I, Nat.zero_le _, rfl, a, e1, e3, rfl, by simp⟩
      clear D I a e1 e2 e3
      rintro m h ⟨o, i, nv, ov, kv, mn, kn, st, J, V, vne, D, I, hi, rfl, a, e1, e3, hk, hs⟩
      have hMo := D.led.own (M, lstO vs2 0) (.tail _ (.tail _ (.tail _ (.tail _ (.tail _ (.tail _ (List.mem_append_right _ hMZ)))))))
      by_cases hlt : i < vs2.length
      · obtain ⟨x, t, hx⟩ := ints_item hm2 hlt
        refine W_nextList D I hMo hx fun h o D I => ?_
        have D := D.to3
        dsimp only
        (repeat keq_rows)
        (rename Here _ _ _ _ _ _ _ _ => D)
        refine sp_left (.of D a e1 (Nat.zero_le _) e3) (O.mono (by omega)) fun h as' T' D => ?_
        obtain ⟨st, J, a, e1, e2, e3, D⟩ := D
        (repeat keq_rows)
        refine sp_Clear (.of D a e1 (Nat.zero_le _) e3) (O.mono (by omega)) fun h V D => ?_
        obtain ⟨st, J, a, e1, e2, e3, D⟩ := D
        (repeat keq_rows)
        refine sp_Offset (.of D a e1 (Nat.zero_le _) e3) (O.mono (by omega)) fun h ot D => ?_
        obtain ⟨st, J, a, e1, e2, e3, D⟩ := D
        (repeat keq_rows)
        refine sp_refused (.of D a e1 (Nat.zero_le _) e3) (O.mono (by omega)) hA hf rfl fun h D => ?_
        obtain ⟨st, J, a, e1, e2, e3, D⟩ := D
        (repeat keq_rows)
        refine sp_message (.of D a e1 (Nat.zero_le _) e3) (O.mono (by omega)) fun h c as' D => ?_
        obtain ⟨st, J, a, e1, e2, e3, D⟩ := D
        (repeat keq_rows)
        (rename Here _ _ _ _ _ _ _ _ => D)
        refine W_fcall D (by repeat (first | with_reducible exact List.mem_cons_self | with_reducible refine List.mem_cons_of_mem _ ?_)) (glob_Builder w) (keep_Builder w) ?_ (by with_unfolding_all exact rfl)
        (repeat keq_rows)
        refine sp_Builder D (O.mono (by omega)) (fmod_b _ (by decide)).1 (by have := (fmod_b (x.fdiv 29) (m := 50) (by decide)).2; omega) fun H2 h b2 V2 sub2 D2 => ?_
        obtain ⟨st2, J2, a2, e12, e22, e32, D2⟩ := D2
        (repeat keq_rows)
        refine sp_message (.of D2 a2 e12 (Nat.zero_le _) e32) (O.mono (by omega)) fun h c2 as2 D2 => ?_
        obtain ⟨st2, J2, a2, e12, e22, e32, D2⟩ := D2
        have hc2 := D2.led.own (c2, baO (msgT x).toArray) (.tail _ (.tail _ (.head _)))
        have D := Here.unbase D2.drop.drop.drop sub2 D.base D.led
        clear a2 e12 e22 e32
        have hb := msgT_b x
        refine W_neBA O (D.led.own (c, baO (msgT x).toArray) (.tail _ (.tail _ (.head _)))) hc2 ?_
        rw [bne_self_eq_false]
        clear hc2
        (repeat keq_rows)
        refine W_CallAttr (W_local D (by repeat (first | with_reducible exact List.mem_cons_self | with_reducible refine List.mem_cons_of_mem _ ?_)) (W_lappendMeth (D.led.own (mL, lstO (kvM kv) mn) (.tail _ (.tail _ (.tail _ (.tail _ (.head _)))))) ?_)) rfl rfl rfl
        refine W_callWith (W_argsPlain ?_ rfl)
        (repeat keq_rows)
        refine ⟨⟨.machine, Looks.of_pure rfl⟩, ?_⟩
        refine W_lappend D.fr4 (by rw [sizeLine_eq]; simp; omega) fun h mn D => ?_
        have D := D.to4
        (repeat keq_rows)
        refine W_CallAttr (W_local D (by repeat (first | with_reducible exact List.mem_cons_self | with_reducible refine List.mem_cons_of_mem _ ?_)) (W_lappendMeth (D.led.own (kL, lstO (kvK kv) kn) (.tail _ (.tail _ (.tail _ (.tail _ (.tail _ (.head _))))))) ?_)) rfl rfl rfl
        refine W_callWith (W_argsPlain ?_ rfl)
        (repeat keq_rows)
        refine W_bytesOf (D.led.own (c, baO (msgT x).toArray) (.tail _ (.tail _ (.head _)))) (by rw [sizeLine_eq, List.size_toArray]; omega) fun tb => ?_
        (repeat keq_rows)
        refine ⟨⟨.machine, Looks.of_pure rfl⟩, ?_⟩
        refine W_lappend (D.perm (List.perm_middle (l₁ := [_, _, _, _, _]))) (by rw [sizeLine_eq]; simp; omega) fun h kn D => ?_
        have D := D.perm (List.perm_middle (l₁ := [_, _, _, _, _])).symm
        simp only [List.cons_append, List.nil_append] at D
        have hkM : kvM kv ++ [.ref c] = kvM (kv ++ [(c, (msgT x).toArray, tb)]) := by simp [kvM]
        have hkK : kvK kv ++ [.bytes (msgT x).toArray tb] = kvK (kv ++ [(c, (msgT x).toArray, tb)]) := by simp [kvK]
        rw [hkM, hkK] at D
        (repeat keq_rows)
        refine W_compBytes D O (by repeat (first | with_reducible exact List.mem_cons_self | with_reducible refine List.mem_cons_of_mem _ ?_)) (.tail _ (.tail _ (.tail _ (.tail _ (.head _))))) (kv := kv ++ [(c, (msgT x).toArray, tb)]) (fun p hp => ?_) (by simp; omega) fun h ca us un D hul huv => ?_
        · rcases List.mem_append.mp hp with hp | hp
          · exact ⟨.tail _ (.tail _ (.tail _ (.tail _ (.tail _ (.tail _ (List.mem_append_left _ (List.mem_map.mpr ⟨p, hp, rfl⟩))))))), hs p hp⟩
          · obtain rfl := List.mem_singleton.mp hp
            exact ⟨.tail _ (.tail _ (.head _)), by simp; omega⟩
        (repeat keq_rows)
        refine W_neLists O D.at0 (D.led.own (kL, lstO (kvK (kv ++ [(c, (msgT x).toArray, tb)])) kn) (.tail _ (.tail _ (.tail _ (.tail _ (.tail _ (.tail _ (.head _)))))))) (by rw [hul]; simp) (fun j y z hy hz => ?_) ?_
        · obtain ⟨p, t', hp, rfl⟩ := huv j y hy
          rw [List.getElem?_map, hp] at hz
          exact ⟨_, _, _, rfl, (Option.some.inj hz).symm⟩
        have D := D.drop
        clear hul huv
        (repeat keq_rows)
        refine sp_Clear (.of D a e1 (Nat.zero_le _) e3) (O.mono (by omega)) fun h V' D => ?_
        obtain ⟨st, J, a, e1, e2, e3, D⟩ := D
        (repeat keq_rows)
        by_cases c1 : (x.fdiv 31).fmod 2 = 1
        · rw [if_pos (by simpa using c1)]
          (repeat keq_rows)
          refine W_lenBA (D.led.own (c, baO (msgT x).toArray) (.tail _ (.tail _ (.tail _ (.head _))))) (by rw [sizeLine_eq, List.size_toArray]; omega) fun tl => ?_
          (repeat keq_rows)
          refine W_mod (by rw [List.size_toArray]; omega) fun tm => ?_
          (repeat keq_rows)
          have hix := fmod_b (x.fdiv 62) (m := ((msgT x).toArray.size : Int)) (by rw [List.size_toArray]; omega)
          refine W_setByte D.fr3 hix.1 hix.2 (by rw [sizeLine_eq, List.size_toArray]; omega) (by decide) (by decide) fun h D => ?_
          have D := D.to3
          have hsz : ((msgT x).toArray.setIfInBounds ((x.fdiv 62).fmod ((msgT x).toArray.size : Int)).toNat (Int.toNat 255).toUInt8).size ≤ 400 := by simp; omega
          generalize (msgT x).toArray.setIfInBounds ((x.fdiv 62).fmod ((msgT x).toArray.size : Int)).toNat (Int.toNat 255).toUInt8 = y at D hsz
          (repeat keq_rows)
          refine W_bytesOf (D.led.own (c, baO y) (.tail _ (.tail _ (.tail _ (.head _))))) (by rw [sizeLine_eq]; omega) fun tc => ?_
          (repeat keq_rows)
          refine W_llen (D.led.own (kL, lstO (kvK (kv ++ [(c, (msgT x).toArray, tb)])) kn) (.tail _ (.tail _ (.tail _ (.tail _ (.tail _ (.tail _ (.head _)))))))) (by rw [sizeLine_eq]; simp; omega) fun tn => ?_
          (repeat keq_rows)
          refine W_lset (D.perm (List.perm_middle (l₁ := [_, _, _, _, _, _]))) (by simp) (by simp; omega) (by rw [sizeLine_eq]; simp; omega) fun h kn D => ?_
          have D := D.perm (List.perm_middle (l₁ := [_, _, _, _, _, _])).symm
          simp only [List.cons_append, List.nil_append] at D
          have hset : (kvK (kv ++ [(c, (msgT x).toArray, tb)])).set (((kvK (kv ++ [(c, (msgT x).toArray, tb)])).length : Int) - 1).toNat (.bytes y tc) = kvK (kv ++ [(c, y, tc)]) := by
            have : (((kvK (kv ++ [(c, (msgT x).toArray, tb)])).length : Int) - 1).toNat = (kvK kv).length := by simp
            rw [this]
            simp [kvK]
          have hkM : kvM (kv ++ [(c, (msgT x).toArray, tb)]) = kvM (kv ++ [(c, y, tc)]) := by simp [kvM]
          rw [hset, hkM] at D
          (repeat keq_rows)
          have D := D.perm (lawPerm _ _ _ _ _ _ _ _ _)
          have hkL : kvL kv ++ [(c, baO y)] = kvL (kv ++ [(c, y, tc)]) := by simp [kvL]
          rw [hkL] at D
          refine ⟨.inl rfl, vs2.length - (i + 1), by omega, o, i + 1, _, _, kv ++ [(c, y, tc)], _, _, st, J, V', _, D, I, hlt, rfl, a, e1, by simpa using e3, by simp [hk], fun p hp => ?_⟩
          rcases List.mem_append.mp hp with hp | hp
          · exact hs p hp
          · obtain rfl := List.mem_singleton.mp hp
            exact hsz
        · rw [if_neg (by simpa using c1)]
          (repeat keq_rows)
          have D := D.perm (lawPerm _ _ _ _ _ _ _ _ _)
          have hkL : kvL kv ++ [(c, baO (msgT x).toArray)] = kvL (kv ++ [(c, (msgT x).toArray, tb)]) := by simp [kvL]
          rw [hkL] at D
          refine ⟨.inl rfl, vs2.length - (i + 1), by omega, o, i + 1, _, _, kv ++ [(c, (msgT x).toArray, tb)], _, _, st, J, V', _, D, I, hlt, rfl, a, e1, by simpa using e3, by simp [hk], fun p hp => ?_⟩
          rcases List.mem_append.mp hp with hp | hp
          · exact hs p hp
          · obtain rfl := List.mem_singleton.mp hp
            simp; omega
      · refine W_endList O D I hMo (by omega) fun h D => ?_
        exact ⟨rfl, nv, ov, V, vne, _, .of D a e1 (Nat.zero_le _) e3⟩
    · clear D a e1 e2 e3
      rintro h ⟨nv, ov, V, vne, l', D⟩
      obtain ⟨st, J, a, e1, e2, e3, D⟩ := D
      (repeat keq_rows)
      refine W_And ?_
      (repeat keq_rows)
      refine sp_Offset (.of D a e1 (Nat.zero_le _) e3) (O.mono (by omega)) fun h ot D => ?_
      obtain ⟨st, J, a, e1, e2, e3, D⟩ := D
      (repeat keq_rows)
      refine sp_refused (.of D a e1 (Nat.zero_le _) e3) (O.mono (by omega)) hA hf rfl fun h D => ?_
      obtain ⟨st, J, a, e1, e2, e3, D⟩ := D
      exact ⟨rfl, fun b o e => D.led.keep _ _ (sub _ _ e)⟩
end

end

end Fb

theorem PySem.Challenge.cw_bp0003_01_holds : PySem.Challenge.rw_bp0003_01.Holds := by
  exact Fb.holds
