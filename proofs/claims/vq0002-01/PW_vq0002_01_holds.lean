import PyProof.Rows.All
import Wide.All
import OpenK.AllK
import Wide.FinOn
import PySem.Challenge.RW_vq0002_01
open PySem PySem.W PySem.Calls PyProof.Rows
set_option Elab.async false
set_option maxRecDepth 100000
set_option maxHeartbeats 8000000
set_option linter.all false
namespace Mine

/-! ### VN -/
section
/-! ## a wp over the contexts of an Around on whose stack no decoder stands -/
def decCode : Code → Bool
  | .builtin id _ => Builtin.Bytes.decodersThatHold.contains id
  | _ => false
def NoDec (Γ : Ctx) : Prop := decCode Γ.code = false ∧ ∀ x ∈ Γ.below, decCode x.1 = false
theorem NoDec.enter {Γ : Ctx} (h : NoDec Γ) {c : Code} (hc : decCode c = false) (m : Option Value) (p : Pos) : NoDec (Γ.enter c m p) :=
  ⟨hc, fun x hx => by rcases List.mem_cons.mp hx with rfl | hx; exact h.1; exact h.2 x hx⟩
theorem NoDec.goto {Γ : Ctx} (h : NoDec Γ) {c : Code} (hc : decCode c = false) : NoDec (Γ.goto c) := ⟨hc, h.2⟩

def wpN {α : Type} (M : Model) (A : Around) (t : Sem α) (Q : α → Shared → Prop) (E : Value → Shared → Prop) (s : Shared) : Prop :=
  ∀ Γ p, Γ.In A → NoDec Γ → Sem.wp M Γ t (fun a _ s' => Q a s') (fun e _ s' => E e s') p s
def codeN (M : Model) (A : Around) (c : Code) (R : Result → Shared → Prop) (s : Shared) : Prop :=
  ∀ Γ p, Γ.code = c → Γ.Below A → NoDec Γ → wpCode M Γ R p s

section
variable {α β : Type} {M : Model} {A : Around} {E : Value → Shared → Prop} {s : Shared}
theorem n_any {t : Sem α} {Q : α → Shared → Prop} (h : wpAny M A t Q E s) : wpN M A t Q E s := fun Γ p hΓ _ => h Γ p hΓ
theorem c_any {c : Code} {R : Result → Shared → Prop} (h : codeAny M A c R s) : codeN M A c R s := fun Γ p hc hΓ _ => h Γ p hc hΓ
theorem n_pure {a : α} {Q : α → Shared → Prop} (h : Q a s) : wpN M A (pure a) Q E s := fun _ _ _ _ => h
theorem n_mono {t : Sem α} {Q Q' : α → Shared → Prop} {E' : Value → Shared → Prop} (h : wpN M A t Q E s) (hQ : ∀ a s, Q a s → Q' a s) (hE : ∀ e s, E e s → E' e s) : wpN M A t Q' E' s :=
  fun Γ p hΓ z => Sem.wp_mono M Γ t (fun a _ s => hQ a s) (fun e _ s => hE e s) p s (h Γ p hΓ z)
theorem n_bind {m : Sem α} {f : α → Sem β} {Q : β → Shared → Prop} (h : wpN M A m (fun a s' => wpN M A (f a) Q E s') E s) : wpN M A (m >>= f) Q E s := fun Γ p hΓ z => by
  rw [Sem.wp_bind']
  exact Sem.wp_mono M Γ m (fun a p' s' h' => h' Γ p' hΓ z) (fun _ _ _ h' => h') p s (h Γ p hΓ z)
/-- the first part by the library's own rules -/
theorem n_then {m : Sem α} {f : α → Sem β} {Q : β → Shared → Prop} (h : wpAny M A m (fun a s' => wpN M A (f a) Q E s') E s) : wpN M A (m >>= f) Q E s := n_bind (n_any h)
theorem n_onRaise {m : Sem α} {k : Value → Sem Unit} {Q : α → Shared → Prop} (h : wpN M A m Q (fun e s' => wpN M A (k e) (fun _ s'' => E e s'') E s') s) : wpN M A (m.onRaise k) Q E s := fun Γ p hΓ z => by
  rw [Sem.wp_onRaise]
  exact Sem.wp_mono M Γ m (fun _ _ _ h' => h') (fun e p' s' h' => h' Γ p' hΓ z) p s (h Γ p hΓ z)
theorem n_tryCatch {m : Sem α} {k : Value → Sem α} {Q : α → Shared → Prop} (h : wpN M A m Q (fun e s' => wpN M A (k e) Q E s') s) : wpN M A (tryCatch m k) Q E s := fun Γ p hΓ z => by
  rw [Sem.wp_tryCatch']
  exact Sem.wp_mono M Γ m (fun _ _ _ h' => h') (fun e p' s' h' => h' Γ p' hΓ z) p s (h Γ p hΓ z)
theorem n_attempt {m : Sem α} {Q : Except Value α → Shared → Prop} (h : wpN M A m (fun a => Q (.ok a)) (fun e => Q (.error e)) s) : wpN M A m.attempt Q E s := fun Γ p hΓ z => by
  rw [Sem.wp_attempt]; exact h Γ p hΓ z
theorem n_holding {vs : List Value} {m : Sem α} {Q : α → Shared → Prop} (h : wpN M A m Q E s) : wpN M A (holding vs m) Q E s := fun Γ p hΓ z => by rw [Sem.wp_holding]; exact h Γ p hΓ z
theorem n_keep {vs : List Value} {m : Sem α} {Q : α → Shared → Prop} (h : wpN M A m Q E s) : wpN M A (m.keep vs) Q E s := fun Γ p hΓ z => by rw [Sem.wp_keep]; exact h Γ p hΓ z
theorem n_standAt {pos : Pos} {Q : Unit → Shared → Prop} (h : Q () s) : wpN M A (standAt pos) Q E s := fun _ _ _ _ => h
theorem n_point {Q : Unit → Shared → Prop} (h : Q () s) : wpN M A point Q E s := fun _ _ _ _ => h
theorem n_ite {c : Prop} [Decidable c] {a b : Sem α} {Q : α → Shared → Prop} (h : if c then wpN M A a Q E s else wpN M A b Q E s) : wpN M A (if c then a else b) Q E s := by split <;> simp_all

theorem c_mono {c : Code} {R R' : Result → Shared → Prop} (h : codeN M A c R s) (hR : ∀ r s, R r s → R' r s) : codeN M A c R' s := fun Γ p hc hΓ z => wpCode_mono hR (h Γ p hc hΓ z)
theorem n_run {c : Code} {h : Option Value} {Q : Flow → Shared → Prop} (hd : decCode c = false)
    (hc : codeN M (A.mark h) c (fun r s' => match r with | .ok f => Q f s' | .error e => E e s') s) (hnb : h ≠ some byPass := by intro x; cases x) : wpN M A (run c h) Q E s :=
  fun Γ p hΓ z => by rw [Sem.wp_run]; exact hc _ p rfl (hΓ.enter c h p hnb) (z.enter hd h p)
theorem n_runValue {c : Code} {Q : Value → Shared → Prop} (hd : decCode c = false)
    (hc : codeN M A c (fun r s' => match r with | .ok (.ret v) => Q v s' | .ok _ => False | .error e => E e s') s) : wpN M A (runValue c) Q E s :=
  fun Γ p hΓ z => by rw [Sem.wp_runValue]; exact hc _ p rfl (hΓ.enter c none p (by intro x; cases x)) (z.enter hd none p)
theorem n_call {f : Value} {pos : List Value} {kw : List (Str × Value)} {Q : Value → Shared → Prop}
    (hc : codeN M A (.call f ⟨pos, kw⟩) (fun r s' => match r with | .ok (.ret v) => Q v s' | .ok _ => False | .error e => E e s') s) : wpN M A (call f pos kw) Q E s := n_runValue rfl hc
theorem c_tree {c : Code} {R : Result → Shared → Prop}
    (h : wpN M (A.under c) (M.den c) (fun fin s' => match fin with | .done f => R (.ok f) s' | .again c' => c'.quiet = true ∧ decCode c' = false ∧ codeN M A c' R s') (fun e s' => R (.error e) s') s) : codeN M A c R s :=
  fun Γ p hc hΓ z => by
    rw [wpCode_iff_wp, hc]
    refine Sem.wp_mono M Γ _ (fun fin p' s' h' => ?_) (fun _ _ _ h' => h') p s (h Γ p (hc ▸ hΓ.in) z)
    cases fin with
    | done f => exact h'
    | again c' => exact ⟨h'.1, h'.2.2 (Γ.goto c') p' rfl (hΓ.goto c') (z.goto h'.2.1)⟩
theorem c_in1 {c : Code} {R : Result → Shared → Prop} (h : codeN M A.in1 c R s) : codeN M A c R s :=
  fun Γ p hc hΓ z => h Γ p hc ⟨hΓ.1, hΓ.2.1, hΓ.2.2.1, hΓ.2.2.2.1, Nat.le_succ_of_le hΓ.2.2.2.2⟩ z

/-- nobody holds the octets -/
theorem any_no {f : Code × Pos → Bool} (hf : ∀ c p, c.isGuard = false → decCode c = false → f (c, p) = false) :
    ∀ {l : List (Code × Pos)}, guardsOf l = [] → (∀ x ∈ l, decCode x.1 = false) → l.any f = false
  | [], _, _ => rfl
  | (c, p) :: l, hg, hd => by
    rw [guardsOf_cons] at hg
    have hc : c.isGuard = false := by
      cases q : c.isGuard with
      | false => rfl
      | true => simp [Code.guards, q] at hg
    rw [List.any_cons, hf c p hc (hd (c, p) (.head _)), any_no hf (List.append_eq_nil_iff.mp hg).2 fun x hx => hd x (.tail _ hx)]; rfl
theorem n_exported {b : Value} {Q : Bool → Shared → Prop} (hg : A.guards = some []) (h : Q false s) : wpN M A (Builtin.Bytes.exported b) Q E s := fun Γ p hΓ z => by
  show Q (((Γ.code, p) :: Γ.below).any _) s
  rw [any_no (fun c p h1 h2 => ?_) (by rw [guardsOf_cons]; exact hΓ.2.2.2.1 _ hg) (fun x hx => ?_)]
  · exact h
  · cases c with
    | builtin id a =>
      obtain ⟨pos, kw⟩ := a
      have h1' : guardIds.contains id = false := h1
      have h2' : Builtin.Bytes.decodersThatHold.contains id = false := h2
      simp only [guardIds, List.contains_cons, List.contains_nil, Bool.or_false, Bool.or_eq_false_iff, beq_eq_false_iff_ne, ne_eq] at h1'
      cases pos with
      | nil => split <;> simp_all
      | cons v r =>
        cases r with
        | nil =>

          split <;> simp_all
        | cons v2 r2 =>

          split <;> simp_all
    | _ => rfl
  · rcases List.mem_cons.mp hx with rfl | hx
    · exact z.1
    · exact z.2 x hx
end
end

/-! ### VNHead -/
def callerCtx : Ctx := ⟨.builtin "claim.caller" {}, none, none, [], none⟩
theorem callerCtx_noDec : NoDec callerCtx := ⟨by decide +kernel, fun _ h => nomatch h⟩

theorem thread_ends_N {prog : Program} {w : World} {t : Sem Fin} {s : Shared} {R : Result → Shared → Prop} (hreg : s.asleep)
    (h : wpN (model prog w) callerA t (fun fin s' => ∃ f, fin = .done f ∧ (R (.ok f) s' ∧ leftWithCleanup s'.gens = false)) (fun e s' => R (.error e) s' ∧ leftWithCleanup s'.gens = false) s) :
    ∃ n r s' s'', runN (denote table) prog w n s ⟨t, .builtin "claim.caller" {}, default, []⟩ = .halted (outcomeOf r) s' ∧
      schedN (denote table) prog w n (.single s ⟨t, .builtin "claim.caller" {}, default, []⟩) = .halted (outcomeOf r) s' ∧ s'.forget = s''.forget ∧ R r s'' := by
  have h' : Sem.wp (model prog w) callerCtx t (Sem.finPost (model prog w) callerCtx fun r s' => R r s' ∧ leftWithCleanup s'.gens = false) (fun e _ s' => R (.error e) s' ∧ leftWithCleanup s'.gens = false) default s := by
    refine Sem.wp_mono _ _ t (fun fin p' s' h' => ?_) (fun _ _ _ h' => h') default s (h callerCtx default caller_in callerCtx_noDec)
    obtain ⟨f, rfl, hf⟩ := h'
    exact hf
  obtain ⟨n, r, s₁, s₂, hs, hn, hfo, hR⟩ := wp_halts_full (M := model prog w) (R := R) hreg h'
  exact ⟨n, r, s₂, s₁, hn, hs, hfo, hR⟩

theorem callFrom_N {c : ClaimW} {tree : List Value → Sem Fin} {w : World} {s : Shared} {free : Addr → Prop} {gens : Prop} {kept : Heap → Prop} (hz : s.asleep) (hgens : s.gens = #[])
    (hspec : ∀ args, c.pre args = true → WData.layableAll args = true → ∀ ord : List DictEntry → List DictEntry, (∀ l, (ord l).Perm l) →
      ∃ vs s₁, layAllW c.records (classAt s.heap) w.params ord args s = some (vs, s₁) ∧
        wpN (model c.prog w) callerA (tree vs) (fun fin s' => ∃ f, fin = .done f ∧ (c.Ends s args vs s₁ (.ok f) s' ∧ s'.os = s.os ∧ AllBare s'.gens ∧ kept s'.heap))
          (fun e s' => c.Ends s args vs s₁ (.error e) s' ∧ s'.os = s.os ∧ AllBare s'.gens ∧ kept s'.heap) s₁) :
    c.CallFrom (fun vs => ⟨tree vs, .builtin "claim.caller" {}, default, []⟩) w free gens kept s := by
  intro args hpre hlay ord hord
  obtain ⟨vs, s₁, hlaid, hcode⟩ := hspec args hpre hlay ord hord
  have hal := layAllW_rest _ _ _ hlaid
  obtain ⟨k, r, s', s'', hrun, hsched, hfo, hcase, hos, hkp⟩ := thread_ends_N (prog := c.prog) (w := w) (t := tree vs) (s := s₁) (R := fun r s' => c.Ends s args vs s₁ r s' ∧ s'.os = s.os ∧ kept s'.heap)
    (Shared.asleep_of_life hal.2.2.2 hz)
    (n_mono hcode (fun _ _ ⟨f, e, h1, h2, h3, h4⟩ => ⟨f, e, ⟨h1, h2, h4⟩, leftWithCleanup_false_of_bare h3⟩) fun _ _ ⟨h1, h2, h3, h4⟩ => ⟨⟨h1, h2, h4⟩, leftWithCleanup_false_of_bare h3⟩)
  obtain ⟨eh, _, _, eo, _⟩ := Shared.forget_eq hfo
  have hcase := hcase.congr eh
  have hkp : kept s'.heap := by rw [eh]; exact hkp
  rw [← eo] at hos
  refine ⟨vs, s₁, hlaid, k, _, s', hsched, ?_, (fun _ i x hx => by rw [hgens] at hx; simp at hx), hkp, by rw [(runN_life _ _ _ hrun).trans hal.2.2.2], Shared.rest_eq hos⟩
  rcases hcase with ⟨v, rfl, d1, d2, d3, d4, d5⟩ | ⟨e, ob, cls, rfl, d1, d2, d3, d4, d5⟩
  · exact .inl ⟨v, rfl, d1, d2, d3, fun b o y _ => d4 b o y, d5⟩
  · exact .inr ⟨e, ob, cls, rfl, d1, d2, d3, d4, fun b o y _ => d5 b o y⟩

/-- the call of the law, at the contexts without a decoder -/
abbrev WalkD (q : Program) (loose : List Str) (XP : (Str → Option Value) → Heap → Prop) (YP : World → Heap → Prop) (r : RowW) (d : DefRec) (kwd : List (Str × Expr)) : Prop :=
  ∀ (w : World) (s₀ s₁ : Shared) (mg mb : Str → Option Value), Ground q loose r.records XP w s₀ mg mb s₁.heap → YP w s₁.heap → ∀ (a : Addr) (o : Obj) (pm cd doc dV kV : Value), s₁.heap.get? a = some o →
    o.data = .func { docDef d.name d.params d.body d.scope pm cd doc with defaults := dV, kwdefaults := kV } → s₁.heap.CodeRec cd d.name → Dflts mg s₁.heap d.params kwd dV kV → mg d.name = some (.ref a) → s₁.gens = #[] →
    ∀ (args : List WData) (vals : List Value) (as : List Addr), r.claim.pre args = true → WData.layableAll args = true → ReadsAllW r.records (classAt s₀.heap) s₁.heap vals args as → WellAll w.params s₁.heap vals args → (∀ a ∈ as, (a == sysModules) = false) →
      wpN (model r.prog w) callerA (PySem.call (.ref a) vals) (fun v s' => GoodWG r.claim (classAt s₀.heap) (ExcName.means s₀.heap) args s₁ (.ok (.ret v)) s')
        (fun e s' => GoodWG r.claim (classAt s₀.heap) (ExcName.means s₀.heap) args s₁ (.error e) s') s₁

theorem PySem.W.holds_open {r : OpenRow} {q : Program} {loose : List Str} {Xt : Shared → Bool} {XP : (Str → Option Value) → Heap → Prop} {α : Type} {Yf : Shared → α} {Ya : World → α} {YP : World → Heap → Prop} {d : DefRec} {kwd : List (Str × Expr)} {N : Nat}
    (left : LeftO r.prog q loose Xt Yf Ya N) (hY : ∀ w s, Yf s = Ya w → YP w s.heap) (hYk : ∀ w h h', YP w h → (∀ b o, h.get? b = some o → h'.get? b = some o) → YP w h')
    (hX : ∀ s, Xt s = true → XP (s.heap.nsMap mainGlobals) s.heap) (hXk : ∀ mg h h', XP mg h → (∀ b o, h.get? b = some o → h'.get? b = some o) → XP mg h')
    (hdef : defOf q r.name = some (d, kwd)) (hp : r.prog.theDef r.name = some (d.params, d.body, d.scope)) (hk : kwWritten? d.params.kwonlyargs d.params.kw_defaults = some kwd) (hRf : ∀ s, Xt s = true → RecFacts r.records s.heap) (hwr : (!r.writes || r.records.isEmpty) = true)
    (k1 : r.wellSaid = true) (ok : (chainsOk q && opensWell r.prog && (frees r.toRowW && r.within.isEmpty)) = true) (hb : r.prog.bare) (hw : r.toRowW.promised)
    (call : WalkD q loose XP YP r.toRowW d kwd) : r.Holds := by
  refine ⟨k1, hw, ?_⟩
  obtain ⟨ok, k5⟩ := Bool.and_eq_true_iff.mp ok
  obtain ⟨hch, o1⟩ := Bool.and_eq_true_iff.mp ok
  obtain ⟨k5, k6⟩ := Bool.and_eq_true_iff.mp k5
  obtain ⟨hsame, hu, ha, hap, hm⟩ := frees_parts k5
  refine ⟨⟨hb, o1, by show r.toRowW.makers.map _ = []; rw [hm]; rfl⟩, hw.witness, fun w => ⟨(left.behind hX hch w).1, fun s' hs' => ?_⟩⟩
  obtain ⟨s₀, hf, hg0, s, hT, hz, hgens, hg, G00, y⟩ := (left.behind (XP := fun mg h => XP mg h ∧ RecFacts r.records h) (fun s hs => ⟨hX s hs, hRf s hs⟩) hch w).2 s' hs'
  have G0 : Ground q loose [] XP w s (s.heap.nsMap mainGlobals) (s.heap.nsMap builtinsNs) s.heap := ⟨G00.T, G00.B, G00.D, G00.TE, G00.TD, G00.W, G00.X.1, G00.cls, G00.has, G00.apart, G00.once, G00.K⟩
  have RF := G00.X.2
  have hT' := hT
  refine ⟨s₀, hf, hg0, s, hT, ?_, RF.1, RF.2.1, ?_⟩
  · intro n hn
    obtain rfl : n = r.name := by split at hn <;> simp_all
    exact pinned_of_view hg G0 hdef hp hk
  have hgens : s.gens = #[] := Array.eq_empty_of_size_eq_zero (beq_iff_eq.mp hgens)
  have G : Ground q loose r.records XP w s _ _ s.heap := RF.ground G0
  refine callFrom_N (c := r.claim) hz hgens fun args hpre hlay ord hord => ?_
  obtain ⟨⟨vs, s₁⟩, hlaid⟩ := Option.isSome_iff_exists.mp (layAllW_isSome (P := w.params) (ord := ord) G.has args r.args s (pre_splitW hpre).1)
  have keeps := layAllW_keeps _ _ _ hlaid
  have hal := layAllW_rest _ _ _ hlaid
  obtain ⟨as, hrd, hin, hold⟩ := reads_layAllW hord _ _ _ hlaid hlay s₁.heap (fun _ _ e => e)
  have L : Laid r.records w s s₁ args vs as := ⟨⟨ord, hord, hlaid⟩, hrd, hin, hold, keeps, hal.1.trans hgens, hal.2.2.1⟩
  have G₁ := G.keeps hXk keeps
  obtain ⟨a, o, pm, cd, doc, dV, kV, h1, h2, h3, h4, h5⟩ := G₁.fn hdef
  have h := call w s s₁ _ _ G₁ (hYk _ _ _ (hY w s y) keeps) a o pm cd doc dV kV h2 h3 h4 h5 (defOf_name hdef ▸ h1) L.gens args vs as hpre hlay L.reads L.well (L.low G.low)
  have hi := ident_freeW hu ha hap
  have hwi : r.claim.within = [] := List.isEmpty_iff.mp k6
  refine ⟨vs, s₁, hlaid, n_then (wpAny_nsGet G₁.T.g ?_)⟩
  rw [h1]
  refine n_bind (n_mono h (fun v s' g => n_pure ⟨_, rfl, have z := g.laid (c := r.claim) hsame hwi hi L; ⟨z.1, z.2.1, z.2.2, fun q => ⟨namesKept_of hT' hg _ keeps g.2.1.old, noTable hwr q⟩⟩⟩) fun e s' g => have z := g.laid (c := r.claim) hsame hwi hi L; ⟨z.1, z.2.1, z.2.2, fun q => ⟨namesKept_of hT' hg _ keeps g.2.1.old, noTable hwr q⟩⟩)

open_top hd for PySem.Challenge.rw_vq0002_01

/-! ### VBase -/
theorem fresh2 {M : Model} {A : Around} {env : Env} {Q : Flow → Shared → Prop} {E : Value → Shared → Prop} {s : Shared} (h : Q .next s) : wpAny M A (execs [] env) Q E s := by
  w_top off
  (try walk1)
  all_goals first | exact h | exact wpAny_execs_nil h
section
/-- what stands outside the footprint stays -/
def Keep (fp : List Addr) (h h' : Heap) : Prop := ∀ a o, h.get? a = some o → a ∉ fp → h'.get? a = some o

theorem Keep.refl (fp : List Addr) (h : Heap) : Keep fp h h := fun _ _ e _ => e
theorem Keep.trans {fp : List Addr} {h₁ h₂ h₃ : Heap} (x : Keep fp h₁ h₂) (y : Keep fp h₂ h₃) : Keep fp h₁ h₃ := fun a o e n => y a o (x a o e n) n
theorem Keep.mono {fp fp' : List Addr} {h h' : Heap} (x : Keep fp h h') (s : ∀ a ∈ fp, a ∈ fp') : Keep fp' h h' := fun a o e n => x a o e fun q => n (s a q)

theorem below_keep {A : Around} {base h h' : Heap} {outer : List Env} {fp : List Addr} (B : Below A base outer h) (k : Keep fp h h')
    (hb : ∀ a ∈ fp, base.get? a = none) (hf : ∀ env ∈ outer, ∀ a ∈ fp, env.frame ≠ some a) : Below A base outer h' := by
  refine ⟨B.stack, fun b o e => k b o (B.stays b o e) fun q => ?_, ?_⟩
  · rw [hb b q] at e; cases e
  · have := B.frames
    clear B
    induction outer with
    | nil => trivial
    | cons env rest ih =>
      obtain ⟨hk, ⟨L, o, hL, hn, ho, hd⟩, hr⟩ := this
      exact ⟨hk, ⟨L, o, hL, hn, k L o ho fun q => hf env (.head _) L q hL, hd⟩, ih (fun e he => hf e (.tail _ he)) hr⟩

/-- the addresses of a footprint may be hidden from the frames below -/
structure Foot (base : Heap) (outer : List Env) (h : Heap) (fp : List (Addr × Obj)) : Prop where
  at_ : ∀ q ∈ fp, h.get? q.1 = some q.2
  new : ∀ q ∈ fp, base.get? q.1 = none
  off : ∀ env ∈ outer, ∀ q ∈ fp, env.frame ≠ some q.1

section
variable {prog : Program} {w : World} {A : Around} {s : Shared} {base : Heap} {outer : List Env} {K : Frag} {p : Program} {loose : List Str} {mean : ExcName → Option Value} {mg mb : Str → Option Value}
  {R : Result → Shared → Prop} {name qual : Str} {params : Arguments} {body : List Stmt} {scope : Scope} {dV kV doc pm cdv ct oc : Value} {an od : Option Addr} {osl : Array (Option Value)} {f : Addr} {args : Args} {binds : List (Str × Value)}

theorem enter_c (B : Below A base outer s.heap) (X : K.In base) (T : Top p loose mean mg mb base) (fp : List (Addr × Obj)) (P : Foot base outer s.heap fp)
    (ho : K.lookup f = some ⟨oc, od, .func (fnOf name qual params body scope dV kV doc pm an cdv ct), osl⟩) (hcd : codeIn K cdv qual = true) (hroom : A.depth < recursionLimit)
    (hbind : BindsTo s (fnOf name qual params body scope dV kV doc pm an cdv ct) args binds) (hloc : ∀ y ∈ binds, scope.names.lookup y.1 = some .local)
    (hcell : ∀ x ∈ scope.names, x.2 ≠ .cell) (hco : scope.isCoroutine = false) (hgen : scope.isGenerator = false) (hk : scope.kind = .function)
    (h : ∀ g L' h₁ (tk : Nat), Keep (fp.map (·.1)) s.heap g → Fr g L' h₁ (fun y => binds.reverse.lookup y) → News g L' h₁ fp → Below A base outer g → K.In g → Top p loose mean mg mb g → (∀ q ∈ fp, q.1 < L') →
      wpAny (model prog w) (A.deeper (envOf qual scope L' f cdv)) (execs body (envOf qual scope L' f cdv))
        (fun fl s' => R (.ok (.ret (match fl with | .ret v => v | _ => .none))) s')
        (fun e s' => wpAny (model prog w) (A.deeper (envOf qual scope L' f cdv)) (leaving (envOf qual scope L' f cdv) e) (fun _ s'' => R (.error e) s'') (fun e' s'' => R (.error e') s'') s')
        { s with heap := h₁, toks := tk }) :
    codeAny (model prog w) A (.call (.ref f) args) R s := by
  have st : base.StaysIn (hideAll s.heap (fp.map (·.1))) := fun b o e => hideAll_get _ (B.stays b o e) fun q => by
    obtain ⟨x, hx, rfl⟩ := List.mem_map.mp q
    rw [P.new x hx] at e; cases e
  refine codeAny_call_def (fd := fnOf name qual params body scope dV kV doc pm an cdv ct) (body := body) (binds := binds) hroom (B.stays _ _ (X _ _ ho)) rfl (T.nolimit.keeps B.stays) (codeRec_of (X.keeps B.stays) hcd) rfl hbind hcell hloc (fun h₁ hns hk₁ => ?_) hco hgen hk
  exact h _ s.heap.objs.size h₁ _ (fun a o e n => hideAll_get _ e n) ⟨hns, fun b o e => hk₁ b o (of_hideAll _ e), Nat.le_of_eq (hideAll_size _ _)⟩
    (fun q hq => ⟨hk₁ _ _ (P.at_ q hq), Nat.ne_of_lt (Heap.lt_size (P.at_ q hq)), hideAll_none _ (List.mem_map_of_mem hq)⟩)
    ⟨B.stack, st, funFrames_hideAll B.frames fun env he a ha hf => by
      obtain ⟨x, hx, rfl⟩ := List.mem_map.mp ha
      exact P.off env he x hx hf⟩ (X.keeps st) (T.keeps st) (fun q hq => Heap.lt_size (P.at_ q hq))
end
section
variable {prog : Program} {w : World} {A : Around} {s : Shared} {R : Result → Shared → Prop}

theorem c_func {body : List Stmt} {env : Env}
    (h : wpN (model prog w) (A.deeper env) (execs body env) (fun f s' => R (.ok (.ret (match f with | .ret v => v | _ => .none))) s')
      (fun e s' => wpAny (model prog w) (A.deeper env) (leaving env e) (fun _ s'' => R (.error e) s'') (fun e' s'' => R (.error e') s'') s') s) :
    codeN (model prog w) A (.func body env) R s := by
  refine c_tree ?_
  show wpN _ (A.deeper env) (do point; match ← (execs body env).onRaise (leaving env) with | .ret v => ret v | _ => ret .none) _ _ s
  refine n_bind (n_point (n_bind (n_onRaise (n_mono h (fun f s' h' => ?_) fun _ _ h' => n_any h'))))
  cases f <;> exact n_pure h'

theorem c_call_function {a : Addr} {args : Args} {o : Obj} {fd : FuncData} {body : List Stmt} (hroom : A.depth < recursionLimit) (ho : s.heap.get? a = some o)
    (hd' : o.data = .func fd) (hco : fd.scope.isCoroutine = false) (hgen : fd.scope.isGenerator = false) (hbody : fd.body = .stmts body) (hcd : s.heap.CodeRec fd.code fd.qualname)
    (h : wpAny (model prog w) A.in1 (bindArgs fd args) (fun binds s₁ =>
      wpAny (model prog w) A.in1 (newFunctionEnv fd.scope fd.globals fd.closure binds (fd.qualname ++ ".<locals>.") (some a) fd.code none fd.builtins)
        (fun env s₂ => s₂.heap.NoLimit ∧ codeN (model prog w) A (.func body env) R s₂) (fun e s' => R (.error e) s') s₁) (fun e s' => R (.error e) s') s) :
    codeN (model prog w) A (.call (.ref a) args) R s := by
  refine c_tree ?_
  show wpN _ A.in1 (callAny (.ref a) args) _ _ s
  simp only [callAny]
  refine n_then (wpAny_load ho ?_)
  obtain ⟨c, oc, vs, tq, hc, hoc, hdc, hq⟩ := hcd
  simp only [hd', callFunction, hco, hgen, hbody, hc]
  rw [hc] at h
  refine n_then (m := field (.ref c) 1) (wpAny_field hoc hdc hq ?_)
  refine n_bind (n_pure ?_)
  refine n_then (wpAny_mono h (fun binds s₁ h₁ => ?_) fun _ _ h' => h')
  refine n_then (wpAny_mono h₁ (fun env s₂ h₂ => ?_) fun _ _ h' => h')
  exact n_then (wpAny_enterFrame h₂.1 hroom (n_pure ⟨rfl, rfl, h₂.2⟩))

theorem c_call_def {a : Addr} {o : Obj} {fd : FuncData} {body : List Stmt} {args : Args} {binds : List (Str × Value)}
    (hroom : A.depth < recursionLimit) (ho : s.heap.get? a = some o) (hdata : o.data = .func fd) (hlim : s.heap.NoLimit) (hcd : s.heap.CodeRec fd.code fd.qualname)
    (hbody : fd.body = .stmts body) (hbind : BindsTo s fd args binds) (hcell : ∀ x ∈ fd.scope.names, x.2 ≠ .cell) (hloc : ∀ x ∈ binds, fd.scope.names.lookup x.1 = some .local)
    (h : ∀ h₀, h₀.Ns s.heap.objs.size (fun x => binds.reverse.lookup x) → (∀ b o, s.heap.get? b = some o → h₀.get? b = some o) →
      wpN (model prog w) (A.deeper (callEnv fd s.heap.objs.size a)) (execs body (callEnv fd s.heap.objs.size a)) (fun f s' => R (.ok (.ret (match f with | .ret v => v | _ => .none))) s')
        (fun e s' => wpAny (model prog w) (A.deeper (callEnv fd s.heap.objs.size a)) (leaving (callEnv fd s.heap.objs.size a) e) (fun _ s'' => R (.error e) s'') (fun e' s'' => R (.error e') s'') s')
        { s with heap := h₀, toks := s.toks + binds.length })
    (hco : fd.scope.isCoroutine = false := by rfl) (hgen : fd.scope.isGenerator = false := by rfl) (hk : fd.scope.kind = .function := by rfl) :
    codeN (model prog w) A (.call (.ref a) args) R s := by
  refine c_call_function hroom ho hdata hco hgen hbody hcd (hbind _ _ _ _ ?_)
  refine wpAny_newFunctionEnv hcell hloc (fun h₀ hns₀ hsb₀ => ⟨hlim.fresh _ hsb₀, c_func (h h₀ hns₀ fun b o e => ?_)⟩) hk
  exact hsb₀.extBut b o (Nat.ne_of_lt (Heap.lt_size e)) (Heap.get?_push_of_some _ e)
end

section
variable {prog : Program} {w : World} {A : Around} {s : Shared} {base : Heap} {outer : List Env} {K : Frag} {p : Program} {loose : List Str} {mean : ExcName → Option Value} {mg mb : Str → Option Value}
  {R : Result → Shared → Prop} {name qual : Str} {params : Arguments} {body : List Stmt} {scope : Scope} {dV kV doc pm cdv ct oc : Value} {an od : Option Addr} {osl : Array (Option Value)} {f : Addr} {args : Args} {binds : List (Str × Value)}

theorem enter_n (B : Below A base outer s.heap) (X : K.In base) (T : Top p loose mean mg mb base) (fp : List (Addr × Obj)) (P : Foot base outer s.heap fp)
    (ho : K.lookup f = some ⟨oc, od, .func (fnOf name qual params body scope dV kV doc pm an cdv ct), osl⟩) (hcd : codeIn K cdv qual = true) (hroom : A.depth < recursionLimit)
    (hbind : BindsTo s (fnOf name qual params body scope dV kV doc pm an cdv ct) args binds) (hloc : ∀ y ∈ binds, scope.names.lookup y.1 = some .local)
    (hcell : ∀ x ∈ scope.names, x.2 ≠ .cell) (hco : scope.isCoroutine = false) (hgen : scope.isGenerator = false) (hk : scope.kind = .function)
    (h : ∀ g L' h₁ (tk : Nat), Keep (fp.map (·.1)) s.heap g → Fr g L' h₁ (fun y => binds.reverse.lookup y) → News g L' h₁ fp → Below A base outer g → K.In g → Top p loose mean mg mb g → (∀ q ∈ fp, q.1 < L') →
      wpN (model prog w) (A.deeper (envOf qual scope L' f cdv)) (execs body (envOf qual scope L' f cdv))
        (fun fl s' => R (.ok (.ret (match fl with | .ret v => v | _ => .none))) s')
        (fun e s' => wpAny (model prog w) (A.deeper (envOf qual scope L' f cdv)) (leaving (envOf qual scope L' f cdv) e) (fun _ s'' => R (.error e) s'') (fun e' s'' => R (.error e') s'') s')
        { s with heap := h₁, toks := tk }) :
    codeN (model prog w) A (.call (.ref f) args) R s := by
  have st : base.StaysIn (hideAll s.heap (fp.map (·.1))) := fun b o e => hideAll_get _ (B.stays b o e) fun q => by
    obtain ⟨x, hx, rfl⟩ := List.mem_map.mp q
    rw [P.new x hx] at e; cases e
  refine c_call_def (fd := fnOf name qual params body scope dV kV doc pm an cdv ct) (body := body) (binds := binds) hroom (B.stays _ _ (X _ _ ho)) rfl (T.nolimit.keeps B.stays) (codeRec_of (X.keeps B.stays) hcd) rfl hbind hcell hloc (fun h₁ hns hk₁ => ?_) hco hgen hk
  exact h _ s.heap.objs.size h₁ _ (fun a o e n => hideAll_get _ e n) ⟨hns, fun b o e => hk₁ b o (of_hideAll _ e), Nat.le_of_eq (hideAll_size _ _)⟩
    (fun q hq => ⟨hk₁ _ _ (P.at_ q hq), Nat.ne_of_lt (Heap.lt_size (P.at_ q hq)), hideAll_none _ (List.mem_map_of_mem hq)⟩)
    ⟨B.stack, st, funFrames_hideAll B.frames fun env he a ha hf => by
      obtain ⟨x, hx, rfl⟩ := List.mem_map.mp ha
      exact P.off env he x hx hf⟩ (X.keeps st) (T.keeps st) (fun q hq => Heap.lt_size (P.at_ q hq))
end
end

/-! ### VNRules -/
theorem fresh3 {M : Model} {A : Around} {env : Env} {Q : Flow → Shared → Prop} {E : Value → Shared → Prop} {s : Shared} (h : Q .next s) : wpAny M A (execs [] env) Q E s := by
  w_top off
  (try walk1)
  all_goals first | exact h | exact wpAny_execs_nil h
section
section
variable {α : Type} {M : Model} {A : Around} {E : Value → Shared → Prop} {s : Shared} {env : Env} {K : Frag}

theorem n_eq {t t' : Sem α} {Q : α → Shared → Prop} (e : t = t') (h : wpN M A t' Q E s) : wpN M A t Q E s := e ▸ h
theorem n_execs_nil {Q : Flow → Shared → Prop} (h : Q .next s) : wpN M A (execs [] env) Q E s := n_pure h
theorem n_execs_cons {st : Stmt} {rest : List Stmt} {Q : Flow → Shared → Prop}
    (h : wpN M A (exec st env) (fun f s' => match f with | .next => wpN M A (execs rest env) Q E s' | f => Q f s') E s) : wpN M A (execs (st :: rest) env) Q E s := by
  rw [PySem.execs_cons]
  refine n_bind (n_mono h (fun f s' h' => ?_) fun _ _ x => x)
  cases f <;> first | exact h' | exact n_pure h'
theorem n_Expr {e : Expr} {pos : Pos} {Q : Flow → Shared → Prop} (h : wpN M A (eval e env) (fun v s' => match v with | .ref _ => False | _ => Q .next s') E s)
    (hi : interactive env = false := by rfl) (hs : swapsWith e none pos.line env = pure false := by rfl) : wpN M A (exec (.Expr e pos) env) Q E s := by
  rw [exec_Expr env e pos hi hs]
  refine n_bind (n_standAt (n_bind (n_mono h (fun v s' h' => ?_) fun _ _ x => x)))
  have hv : ∀ a, v ≠ .ref a := fun a hva => by subst hva; exact h'
  rw [dropValue_plain hv]
  refine n_pure ?_
  cases v <;> first | exact h' | exact (hv _ rfl).elim
theorem n_Assign_Name {x : Str} {pos' pos : Pos} {value : Expr} {Q : Flow → Shared → Prop} (h : wpN M A (eval value env) (fun v s₁ => wpAny M A (storeName env x v) (fun _ => Q .next) E s₁) E s)
    (hs : swapsWith value (some (.Name x pos')) pos.line env = pure false := by rfl) : wpN M A (exec (.Assign [.Name x pos'] value pos) env) Q E s := by
  rw [exec_Assign_Name env x pos' value pos hs]
  refine n_bind (n_standAt (n_bind (n_mono h (fun v s₁ h₁ => ?_) fun _ _ x => x)))
  exact n_bind (n_standAt (n_then (wpAny_bindName (wpAny_mono h₁ (fun _ _ q => n_pure q) fun _ _ x => x))))
theorem n_If {test : Expr} {body orelse : List Stmt} {pos : Pos} {Q : Flow → Shared → Prop}
    (h : wpN M A (isTrue test env (eval test env)) (fun b s₂ => if b then wpN M A (execs body env) Q E s₂ else wpN M A (execs orelse env) Q E s₂) E s) : wpN M A (exec (.If test body orelse pos) env) Q E s := by
  rw [exec_If]
  refine n_bind (n_standAt (n_bind (n_mono h (fun b s₂ h₂ => ?_) fun _ _ x => x)))
  cases b <;> exact h₂
/-- a test that the library walks -/
theorem n_IfAny {test : Expr} {body orelse : List Stmt} {pos : Pos} {Q : Flow → Shared → Prop}
    (h : wpAny M A (isTrue test env (eval test env)) (fun b s₂ => if b then wpN M A (execs body env) Q E s₂ else wpN M A (execs orelse env) Q E s₂) E s) : wpN M A (exec (.If test body orelse pos) env) Q E s := n_If (n_any h)
theorem any_operate {vs : List Value} {m : Sem Value} {Q : Value → Shared → Prop} (h : wpAny M A m Q E s) : wpAny M A (operate vs m) Q E s := fun Γ p hΓ => by
  rw [Sem.wp_operate]; exact h Γ p hΓ
theorem n_operate {vs : List Value} {m : Sem Value} {Q : Value → Shared → Prop} (h : wpN M A m Q E s) : wpN M A (operate vs m) Q E s := fun Γ p hΓ z => by
  rw [Sem.wp_operate]; exact h Γ p hΓ z
theorem n_isTrue_Compare1 {l r whole} {op : CmpOp} {pos : Pos} {Q : Bool → Shared → Prop}
    (h : wpN M A (eval l env) (fun a s₁ => wpAny M A (eval r env) (fun b s₂ => wpAny M A (compareOp op a b) (fun c s₃ => wpAny M A (truthy c) Q E s₃) E s₂) E s₁) E s)
    (hm : behindInMarks op r = false := by with_unfolding_all rfl) : wpN M A (isTrue (.Compare l [op] [r] pos) env whole) Q E s := by
  rw [isTrue_Compare1, markedBehindIn_of_false hm]
  refine n_bind (n_mono h (fun a s₁ h₁ => ?_) fun _ _ x => x)
  refine n_bind (n_holding (n_any (wpAny_mono h₁ (fun b s₂ h₂ => ?_) fun _ _ x => x)))
  refine n_bind (n_standAt (n_bind (n_any (any_operate (wpAny_mono h₂ (fun c s₃ h₃ => ?_) fun _ _ x => x)))))
  exact n_holding (n_any h₃)
theorem n_spliced_nil {Q : List Value → Shared → Prop} (h : Q [] s) : wpN M A (spliced []) Q E s := n_pure h
theorem n_spliced_cons {x : Sem Value} {rest : List (Bool × Sem Value)} {Q : List Value → Shared → Prop}
    (h : wpN M A x (fun v s₁ => wpN M A (spliced rest) (fun vs s₂ => Q (v :: vs) s₂) E s₁) E s) : wpN M A (spliced ((false, x) :: rest)) Q E s := by
  rw [spliced]
  refine n_bind (n_mono h (fun v s₁ h₁ => ?_) fun _ _ x => x)
  simp only [Bool.false_eq_true, if_false]
  exact n_bind (n_pure (n_bind (n_holding (n_mono h₁ (fun vs s₂ h₂ => n_pure h₂) fun _ _ x => x))))
theorem n_evalArgs {f : Value} {x : Sem Value} {rest : List (Bool × Sem Value)} {Q : Args → Shared → Prop}
    (h : wpN M A (spliced ((false, x) :: rest)) (fun vs s' => Q ⟨vs, []⟩ s') E s) : wpN M A (evalArgs f true ((false, x) :: rest) []) Q E s := by
  unfold evalArgs
  show wpN M A (spliced ((false, x) :: rest) >>= _) Q E s
  refine n_bind (n_mono h (fun vs s' h' => ?_) fun _ _ x => x)
  refine n_holding ?_
  exact n_bind (n_pure (n_bind (n_pure (n_pure h'))))
theorem n_callWith_of {f : Value} {first : List Value} {pos : Pos} {Q : Value → Shared → Prop} {P : Heap → Prop} {args : List (Bool × Sem Value)} {keywords : List (Option Str × Sem Value)} (hplain : (args.any (·.1) || keywords.any (·.1.isNone)) = false)
    (hk : ∀ h, P h → ∃ k, (k = Keeper.frame ∨ k = Keeper.machine ∨ k = Keeper.boundFrame) ∧ Looks M h (keeperOf f) k)
    (h : wpN M A (evalArgs f true args keywords) (fun a s₁ => P s₁.heap ∧ wpN M A (call f (first ++ a.pos) a.kw) Q E s₁) E s) : wpN M A (callWith pos f first args keywords) Q E s := by
  unfold callWith
  refine n_bind (n_holding (n_mono h (fun a s₁ h₁ => n_bind (n_standAt ?_)) fun _ _ x => x))
  obtain ⟨k, hk', L⟩ := hk _ h₁.1
  simp only [hplain]
  refine n_then (L.here ?_)
  have tail : ∀ {t : Sem Value}, wpN M A t Q E s₁ → wpN M A (t >>= fun r => holding [r] point >>= fun _ => pure r) Q E s₁ :=
    fun ht => n_bind (n_mono ht (fun r s₂ hr => n_bind (n_holding (n_point (n_pure hr)))) fun _ _ x => x)
  have marked (mk : Value) : wpN M A (callMarked mk f (first ++ a.pos) a.kw) Q E s₁ := by unfold callMarked; exact n_keep h₁.2
  rcases hk' with rfl | rfl | rfl <;> dsimp only <;> first | exact tail h₁.2 | (split <;> first | exact tail h₁.2 | exact tail (marked _))
theorem n_callWith {f : Value} {first : List Value} {pos : Pos} {Q : Value → Shared → Prop} {e : Expr} {rest : List Expr} (hk : keepIn K f = true)
    (h : wpN M A (spliced (backTo pos (starEach (e :: rest) env))) (fun vs s₁ => K.In s₁.heap ∧ wpN M A (call f (first ++ vs)) Q E s₁) E s)
    (he : starEach (e :: rest) env = (false, eval e env) :: starEach rest env := by rfl) (hplain : (backTo pos (starEach rest env)).any (·.1) = false := by rfl) :
    wpN M A (callWith pos f first (backTo pos (starEach (e :: rest) env)) []) Q E s := by
  rw [he] at h ⊢
  exact n_callWith_of (by show ((false || (backTo pos (starEach rest env)).any (·.1)) || false) = false; rw [hplain]; rfl) (keeps_K hk) (n_evalArgs h)
/-- the same, its arguments walked by the library -/
theorem n_callWithA {f : Value} {first : List Value} {pos : Pos} {Q : Value → Shared → Prop} {e : Expr} {rest : List Expr} (hk : keepIn K f = true)
    (h : wpAny M A (spliced (backTo pos (starEach (e :: rest) env))) (fun vs s₁ => K.In s₁.heap ∧ wpN M A (call f (first ++ vs)) Q E s₁) E s)
    (he : starEach (e :: rest) env = (false, eval e env) :: starEach rest env := by rfl) (hplain : (backTo pos (starEach rest env)).any (·.1) = false := by rfl) :
    wpN M A (callWith pos f first (backTo pos (starEach (e :: rest) env)) []) Q E s := n_callWith hk (n_any h) he hplain
theorem n_callWith0 {f : Value} {first : List Value} {pos : Pos} {Q : Value → Shared → Prop} (X : K.In s.heap) (hk : keepIn K f = true) (h : wpN M A (call f (first ++ [])) Q E s) :
    wpN M A (callWith pos f first (backTo pos (starEach [] env)) []) Q E s :=
  n_callWith_of rfl (keeps_K hk) (n_any (evalArgs_nil3 ⟨X, h⟩))
theorem n_callWithKW {f : Value} {first : List Value} {pos : Pos} {Q : Value → Shared → Prop} {e : Expr} {rest : List Expr} {kws : List Keyword} (hk : keepIn K f = true) (hall : (backToKw pos (keywordEach kws env)).all (·.1.isSome) = true)
    (h : wpAny M A (spliced (backTo pos (starEach (e :: rest) env))) (fun vs s₁ => wpAny M A (evalAll ((backToKw pos (keywordEach kws env)).map (·.2)))
      (fun ks s₂ => K.In s₂.heap ∧ wpN M A (call f (first ++ vs) (((backToKw pos (keywordEach kws env)).filterMap (·.1)).zip ks)) Q E s₂) E s₁) E s)
    (hplain : ((backTo pos (starEach (e :: rest) env)).any (·.1) || (backToKw pos (keywordEach kws env)).any (·.1.isNone)) = false := by rfl) (he : starEach (e :: rest) env = (false, eval e env) :: starEach rest env := by rfl) :
    wpN M A (callWith pos f first (backTo pos (starEach (e :: rest) env)) (backToKw pos (keywordEach kws env))) Q E s :=
  n_callWith_of hplain (keeps_K hk) (n_any (evalArgs_kw2 hall h he))
theorem n_Call_Name {x : Str} {p pos : Pos} {args : List Expr} {kws : List Keyword} {Q : Value → Shared → Prop}
    (h : wpAny M A (eval (.Name x p) env) (fun f s₁ => wpN M A (callWith pos f [] (backTo pos (starEach args env)) (backToKw pos (keywordEach kws env))) Q E s₁) E s) :
    wpN M A (eval (.Call (.Name x p) args kws pos) env) Q E s := n_then h
theorem n_methodCall {o : Expr} {name : Str} {apos pos : Pos} {args : List Expr} {kws : List Keyword} {pl : Sem Bool} {Q : Value → Shared → Prop}
    (h : wpAny M A (eval o env) (fun ov s₁ => wpAny M A (getMethod ov name pl) (fun fx s₂ => wpN M A (callWith pos fx.1 fx.2 (backTo pos (starEach args env)) (backToKw pos (keywordEach kws env))) Q E s₂) E s₁) E s)
    (he : eval (.Call (.Attribute o name apos) args kws pos) env = (do
      let ov ← eval o env
      standAt apos.atName
      let (f, first) ← holding [ov] (getMethod ov name pl)
      callWith pos f first (backTo pos (starEach args env)) (backToKw pos (keywordEach kws env))) := by rfl) :
    wpN M A (eval (.Call (.Attribute o name apos) args kws pos) env) Q E s := by
  rw [he]
  exact n_then (wpAny_mono h (fun ov s₁ h₁ => n_bind (n_standAt (n_bind (n_holding (n_any (wpAny_mono h₁ (fun fx s₂ h₂ => h₂) fun _ _ x => x)))))) fun _ _ x => x)
theorem n_Tuple {elts : List Expr} {k : Nat} {pos : Pos} {Q : Value → Shared → Prop}
    (h : wpN M A (spliced (backTo pos (starEach elts env))) (fun vs s₁ => wpAny M A (newTuple vs) Q E s₁) E s) : wpN M A (eval (.Tuple elts k pos) env) Q E s := by
  show wpN M A (do standAt pos; newTuple (← spliced (backTo pos (starEach elts env)))) Q E s
  exact n_bind (n_standAt (n_bind (n_mono h (fun _ _ q => n_any q) fun _ _ x => x)))
theorem n_UnaryNot {x : Expr} {pos : Pos} {Q : Value → Shared → Prop} (h : wpN M A (eval x env) (fun v s₁ => wpAny M A (unaryOp .Not v) Q E s₁) E s) : wpN M A (eval (.UnaryOp .Not x pos) env) Q E s := by
  show wpN M A (do let v ← eval x env; standAt pos; holding [v] (unaryOp .Not v)) Q E s
  exact n_bind (n_mono h (fun _ _ q => n_bind (n_standAt (n_holding (n_any q)))) fun _ _ x => x)
theorem n_runOwn {c : Code} {h : Option Value} {Q : Flow → Shared → Prop} (hd : decCode c = false)
    (hc : codeN M (A.mark h) c (fun r s' => match r with | .ok f => Q f s' | .error e => cameBackBy M A env E e s') s) (hnb : h ≠ some byPass := by intro x; cases x) : wpN M A (runOwn c env h) Q E s := by
  unfold runOwn
  exact n_onRaise (n_run hd (c_mono hc fun r s' q => by cases r with | ok f => exact q | error e => exact n_any q) hnb)
theorem n_While {test : Expr} {body orelse : List Stmt} {pos : Pos} {Q : Flow → Shared → Prop}
    (h : codeN M A (.whileLoop test body orelse env) (fun r s' => match r with | .ok f => Q f s' | .error e => cameBackBy M A env E e s') s) : wpN M A (exec (.While test body orelse pos) env) Q E s := by
  rw [exec_While]; exact n_bind (n_standAt (n_runOwn rfl h))
theorem n_For {target iter : Expr} {body orelse : List Stmt} {pos : Pos} {Q : Flow → Shared → Prop}
    (h : wpAny M A (eval iter env) (fun x s₁ => wpAny M A (pyIter x) (fun it s₂ =>
      codeN M A (.forLoop target it body orelse env) (fun r s' => match r with | .ok f => Q f s' | .error e => cameBackBy M A env E e s') s₂) E s₁) E s)
    (hs : ∀ x, foldedSetIterable iter env x = pure x := by intro _; rfl) : wpN M A (exec (.For target iter body orelse pos) env) Q E s := by
  rw [exec_For]
  refine n_bind (n_standAt (n_then (wpAny_mono h (fun x s₁ h₁ => ?_) fun _ _ x => x)))
  rw [hs x]
  exact n_bind (n_pure (n_bind (n_standAt (n_bind (n_holding (n_any (wpAny_mono h₁ (fun it s₂ h₂ => n_runOwn rfl h₂) fun _ _ x => x)))))))
theorem n_Try_except {prog : Program} {w : World} {body : List Stmt} {h₀ : ExceptHandler} {hs : List ExceptHandler} {pos : Pos} {Q : Flow → Shared → Prop}
    (h : wpN (model prog w) A (execs body env) Q
      (fun e s₁ => wpAny (model prog w) A (noteFrame e env) (fun _ s₂ => wpAny (model prog w) A (setFlight e none) (fun _ s₃ => wpAny (model prog w) A (handleBy e env (h₀ :: hs)) Q E s₃) E s₂) E s₁) s) :
    wpN (model prog w) A (exec (.Try body (h₀ :: hs) [] [] pos) env) Q E s := by
  rw [arm_exec_Try]
  refine n_bind (n_standAt ?_)
  unfold tryStmt
  simp only [List.isEmpty_nil, if_true, List.isEmpty_cons, Bool.false_and, Bool.false_eq_true, if_false]
  refine n_bind (n_attempt (n_mono h (fun f s₁ h₁ => ?_) fun e s₁ h₁ => ?_))
  · cases f <;> first | exact n_pure h₁ | exact n_execs_nil h₁
  · exact n_then (wpAny_mono h₁ (fun _ _ h₂ => n_then (wpAny_mono h₂ (fun _ _ h₃ => n_any h₃) fun _ _ x => x)) fun _ _ x => x)
end

section
variable {prog : Program} {w : World} {A : Around} {E : Value → Shared → Prop} {s : Shared} {env : Env} {R : Result → Shared → Prop}

theorem c_whileTurn {test : Expr} {body orelse : List Stmt}
    (h : wpAny (model prog w) A (isTrue test env (eval test env)) (fun b s₁ =>
        if b then wpN (model prog w) A (execs body env) (fun f s₂ => match f with
            | .next | .cont => codeN (model prog w) A (.whileLoop test body orelse env) R s₂
            | .brk => R (.ok .next) s₂
            | .ret v => R (.ok (.ret v)) s₂) (notedBy (model prog w) A env fun e s' => R (.error e) s') s₁
        else wpN (model prog w) A (execs orelse env) (fun f s₂ => R (.ok f) s₂) (notedBy (model prog w) A env fun e s' => R (.error e) s') s₁)
        (notedBy (model prog w) A env fun e s' => R (.error e) s') s) :
    codeN (model prog w) A (.whileLoop test body orelse env) R s := by
  refine c_tree ?_
  have hA : A.under (.whileLoop test body orelse env) = A := Around.under_of_weight rfl
  rw [hA]
  show wpN _ _ ((whileTurn test body orelse env).onRaise (fun x => do noteFrame x env; theTreesLotGoes x)) _ _ s
  have key : ∀ {m : Sem Fin} {Q : Fin → Shared → Prop} {s : Shared}, wpN (model prog w) A m Q (notedBy (model prog w) A env fun e s' => R (.error e) s') s →
      wpN (model prog w) A (m.onRaise (fun x => do noteFrame x env; theTreesLotGoes x)) Q (fun e s' => R (.error e) s') s := fun hm =>
    n_onRaise (n_mono hm (fun _ _ q => q) fun e s' q => n_then (wpAny_mono q (fun _ _ z => n_any (wpAny_theTreesLotGoes z)) fun _ _ x => x))
  refine key ?_
  unfold whileTurn
  refine n_then (wpAny_mono h (fun b s₁ h₁ => ?_) fun _ _ x => x)
  cases b with
  | true =>
    refine n_bind (n_mono h₁ (fun f s₂ h₂ => ?_) fun _ _ x => x)
    cases f <;> first | exact n_pure ⟨rfl, rfl, h₂⟩ | exact n_pure h₂
  | false => exact n_bind (n_mono h₁ (fun f s₂ h₂ => n_pure h₂) fun _ _ x => x)

theorem c_forTurn {target : Expr} {it : Value} {body orelse : List Stmt}
    (h : wpAny (model prog w) A (pyNext it) (fun r s₁ => match r with
      | none => wpAny (model prog w) A (execs orelse env) (fun f s₃ => R (.ok f) s₃) (notedBy (model prog w) A env fun e s' => R (.error e) s') s₁
      | some v => wpAny (model prog w) A (assign target env v) (fun _ s₂ => wpN (model prog w) A (execs body env) (fun f s₃ => match f with
          | .next | .cont => codeN (model prog w) A (.forLoop target it body orelse env) R s₃
          | .brk => R (.ok .next) s₃
          | .ret v => R (.ok (.ret v)) s₃) (notedBy (model prog w) A env fun e s' => R (.error e) s') s₂) (notedBy (model prog w) A env fun e s' => R (.error e) s') s₁) (notedBy (model prog w) A env fun e s' => R (.error e) s') s)
    (ht : ∀ v, letOwnedTupleGo target it v = pure () := by intro _; rfl) : codeN (model prog w) A (.forLoop target it body orelse env) R s := by
  refine c_tree ?_
  have hA : A.under (.forLoop target it body orelse env) = A := Around.under_of_weight rfl
  rw [hA]
  show wpN _ _ ((forTurn target it body orelse env).onRaise (fun x => do noteFrame x env; theTreesLotGoes x)) _ _ s
  have key : ∀ {m : Sem Fin} {Q : Fin → Shared → Prop} {s : Shared}, wpN (model prog w) A m Q (notedBy (model prog w) A env fun e s' => R (.error e) s') s →
      wpN (model prog w) A (m.onRaise (fun x => do noteFrame x env; theTreesLotGoes x)) Q (fun e s' => R (.error e) s') s := fun hm =>
    n_onRaise (n_mono hm (fun _ _ q => q) fun e s' q => n_then (wpAny_mono q (fun _ _ z => n_any (wpAny_theTreesLotGoes z)) fun _ _ x => x))
  refine key ?_
  unfold forTurn
  refine n_bind (n_standAt (n_then (wpAny_onRaise (wpAny_mono h (fun r s₁ h₁ => ?_) fun _ _ q => wpAny_standAt q))))
  cases r with
  | none =>
    dsimp only at h₁ ⊢
    refine n_pure ⟨rfl, rfl, c_any (codeAny_of_tree ?_)⟩
    have hB : A.under (.block orelse env) = A := Around.under_of_weight rfl
    rw [hB]
    show wpAny _ _ (do return Fin.done (← (execs orelse env).onRaise (fun x => do noteFrame x env; theTreesLotGoes x))) _ _ s₁
    exact wpAny_bind (wpAny_noted (wpAny_mono h₁ (fun _ _ q => wpAny_pure q) fun _ _ x => x))
  | some v =>
    dsimp only at h₁ ⊢
    rw [ht v]
    refine n_bind (n_pure (n_then (wpAny_mono h₁ (fun _ s₂ h₂ => ?_) fun _ _ x => x)))
    refine n_bind (n_mono h₂ (fun f s₃ h₃ => ?_) fun _ _ x => x)
    cases f <;> first | exact n_pure ⟨rfl, rfl, h₃⟩ | exact n_pure h₃
end
end

/-! ### VBytesF -/
theorem fresh4 {M : Model} {A : Around} {env : Env} {Q : Flow → Shared → Prop} {E : Value → Shared → Prop} {s : Shared} (h : Q .next s) : wpAny M A (execs [] env) Q E s := by
  w_top off
  (try walk1)
  all_goals first | exact h | exact wpAny_execs_nil h
section
open Builtin
abbrev baObj (b : Array UInt8) : Obj := { cls := .type "bytearray", data := .bytearray b }

theorem ba_slot_init : Slot "bytearray" "__init__" "bytearray.__init__" :=
  .of (owner := "bytearray") (n := "__init__") (by rw [typeLookup_type, builtinLookup_eq_fast]; kernel_rfl) (by decide +kernel) (by decide +kernel) (by decide +kernel) (.inl (by decide +kernel)) (by rw [isSubtype_type]; kernel_rfl)
theorem ba_mro : mroOf (.type "bytearray") = pure [.type "bytearray", .type "object"] := by rw [mroOf_type]; kernel_rfl
theorem ba_lookup_new : typeLookup (.type "bytearray") "__new__" = pure (some (.builtin "bytearray.__new__")) := by rw [typeLookup_type, builtinLookup_eq_fast]; kernel_rfl
theorem ba_called : TypeCalled "bytearray" "bytearray.__new__" "bytearray.__init__" :=
  ⟨by decide +kernel, by decide +kernel, ⟨_, _, ba_mro⟩, madeBy_type ba_mro ba_lookup_new (by decide +kernel), by decide +kernel, by rw [isSubtype_type]; kernel_rfl, ba_slot_init⟩
theorem ba_typeCall0 : checkTypeCall "bytearray" ⟨[], []⟩ = pure () := by kernel_rfl
theorem ba_typeCall1 (a : Value) : checkTypeCall "bytearray" ⟨[a], []⟩ = pure () := by kernel_rfl
theorem ba_newCall0 : checkBuiltinCall "bytearray.__new__" ⟨[.type "bytearray"], []⟩ = pure () := by kernel_rfl
theorem ba_newCall1 (a : Value) : checkBuiltinCall "bytearray.__new__" ⟨[.type "bytearray", a], []⟩ = pure () := by kernel_rfl
theorem ba_entry_new : entryFor table "bytearray.__new__" = some Builtin.«list.__new__» := entryFor_alias (id' := "list.__new__") (by rw [fastTable_eq_tree]; kernel_rfl) (by first | rfl | decide +kernel) (by decide +kernel) (by rw [fastTable_eq_tree]; kernel_rfl)
theorem ba_entry_init : entryFor table "bytearray.__init__" = some Builtin.«bytearray.__init__» := by first | exact entryFor_of_tree (by kernel_rfl) | exact entryFor_of_fast (by kernel_rfl)
theorem ba_plain_new : plainId "bytearray.__new__" = true := by decide +kernel
theorem ba_args_init0 (self : Value) : argsOk "bytearray.__init__" ⟨[self], []⟩ := by unfold argsOk; kernel_rfl
theorem ba_args_init1 (self a : Value) : argsOk "bytearray.__init__" ⟨[self, a], []⟩ := by unfold argsOk; kernel_rfl
theorem ba_owner : ("bytearray.__new__".splitOn ".__new__").headD "" = "bytearray" := by simp +decide [String.splitOn, String.splitOnAux]
theorem ba_sub : isSubtype (.type "bytearray") (.type "bytearray") = pure true := by rw [isSubtype_type]; kernel_rfl
theorem ba_look_release : typeLookup (.type "bytearray") "__release_buffer__" = pure (some (.builtin "bytearray.__release_buffer__")) := by rw [typeLookup_type, builtinLookup_eq_fast]; kernel_rfl
theorem ba_look_buffer : typeLookup (.type "bytearray") "__buffer__" = pure (some (.builtin "bytearray.__buffer__")) := by rw [typeLookup_type, builtinLookup_eq_fast]; kernel_rfl

section
variable {prog : Program} {w : World} {A : Around} {E : Value → Shared → Prop} {s : Shared}

theorem ba_code_new (rest : List Value) (hc : checkBuiltinCall "bytearray.__new__" ⟨.type "bytearray" :: rest, []⟩ = pure ()) {Q₁ : Value → Shared → Prop}
    (h : Q₁ (.ref s.heap.objs.size) { s with heap := s.heap.push (baObj #[]) }) :
    codeAny (model prog w) A (.call (.builtin "bytearray.__new__") ⟨.type "bytearray" :: rest, []⟩) (wants Q₁ E) s := by
  refine codeAny_of_tree ?_
  show wpAny _ A.in1 (do checkBuiltinCall "bytearray.__new__" ⟨.type "bytearray" :: rest, []⟩; again (.builtin "bytearray.__new__" ⟨.type "bytearray" :: rest, []⟩)) _ _ s
  refine wpAny_bind (wpAny_of_eq hc (wpAny_pure ⟨plainId_quiet ba_plain_new _, codeAny_builtin_stack ba_entry_new rfl fun p st => ?_⟩))
  rw [Around.under_plainId ba_plain_new _]
  have hsub := ba_sub
  have hown := ba_owner
  obtain ⟨hp, g, d, tk, os⟩ := s
  simp only [hown]
  wp_walk
  exact h
end
end

/-! ### VBytesA -/
theorem fresh5 {M : Model} {A : Around} {env : Env} {Q : Flow → Shared → Prop} {E : Value → Shared → Prop} {s : Shared} (h : Q .next s) : wpAny M A (execs [] env) Q E s := by
  w_top off
  (try walk1)
  all_goals first | exact h | exact wpAny_execs_nil h
section
open Builtin
section
variable {prog : Program} {w : World} {A : Around} {E : Value → Shared → Prop} {s : Shared}

theorem n_checkResize {b : Addr} {o : Obj} {d : Array UInt8} {Q : Unit → Shared → Prop} (hg : A.guards = some []) (ho : s.heap.get? b = some o) (hd : o.data = .bytearray d 0) (h : Q () s) :
    wpN (model prog w) A (Bytes.checkResize (.ref b)) Q E s := by
  unfold Bytes.checkResize
  show wpN _ _ ((Bytes.exported (.ref b) >>= fun x => _) >>= _) _ _ _
  refine n_bind (n_bind (n_exported hg ?_))
  refine n_bind (n_bind ?_)
  show wpN _ _ (load b >>= _) _ _ _
  refine n_then (wpAny_load ho (n_pure ?_))
  show wpN _ _ (match o.data with | .bytearray _ n => pure n | _ => pure 0) _ _ _
  rw [hd]
  exact n_pure (n_pure (n_pure h))

theorem c_builtin {id : String} {args : Args} {b : Builtin} {R : Result → Shared → Prop} (hb : entryFor table id = some b)
    (h : wpN (model prog w) (A.under (.builtin id args)) (b args)
      (fun fin s' => match fin with | .done f => R (.ok f) s' | .again c' => c'.quiet = true ∧ decCode c' = false ∧ codeN (model prog w) A c' R s') (fun e s' => R (.error e) s') s) :
    codeN (model prog w) A (.builtin id args) R s := by
  refine c_tree ?_
  show wpN _ _ (match entryFor table id with | some b => b args | none => unsupported ((withoutEnding? id "#data").getD id)) _ _ s
  rw [hb]; exact h
theorem c_call_builtin {id : String} {args : Args} {b : Builtin} {R : Result → Shared → Prop} (hq : plainId id = true) (hdc : Bytes.decodersThatHold.contains id = false) (hb : entryFor table id = some b)
    (h : wpAny (model prog w) A.in1 (checkBuiltinCall id args) (fun _ s₁ => wpN (model prog w) A.in1 (b args)
      (fun fin s' => match fin with | .done f => R (.ok f) s' | .again c' => c'.quiet = true ∧ decCode c' = false ∧ codeN (model prog w) A c' R s') (fun e s' => R (.error e) s') s₁)
      (fun e s' => R (.error e) s') s) : codeN (model prog w) A (.call (.builtin id) args) R s := by
  refine c_tree ?_
  show wpN _ A.in1 (do checkBuiltinCall id args; again (.builtin id args)) _ _ s
  refine n_then (wpAny_mono h (fun _ s₁ h₁ => n_pure ⟨plainId_quiet hq args, hdc, c_builtin hb (by rw [Around.under_plainId hq args]; exact h₁)⟩) fun _ _ h' => h')

theorem n_typeCall {T newId initId : String} {args : List Value} {Q Q₁ : Value → Shared → Prop} (ft : TypeCalled T newId initId) (hct : checkTypeCall T ⟨args, []⟩ = pure ())
    (hnew : codeAny (model prog w) A.in1 (.call (.builtin newId) ⟨.type T :: args, []⟩) (wants Q₁ E) s)
    (hnext : ∀ obj s₁, Q₁ obj s₁ → s₁.TypeIs obj T ∧ codeN (model prog w) A.in1 (.call (.builtin initId) ⟨obj :: args, []⟩) (wants (fun r s₂ => r = .none ∧ Q obj s₂) E) s₁) :
    wpN (model prog w) A (call (.type T) args) Q E s := by
  have sub := ft.sub
  have init := ft.init
  obtain ⟨c, tl, hmro⟩ := ft.mro
  refine n_call (c_tree ?_)
  show wpN _ A.in1 (callAny (.type T) _) _ _ _
  refine n_pure ⟨Code.quiet_builtin _ (by decide +kernel), rfl, c_builtin F.entry_type_call ?_⟩
  rw [Around.under_plain (weight_type_call_type T args []) rfl]
  unfold Builtin.«type.__call__»
  dsimp only
  rw [if_neg (by rw [ft.notType]; exact Bool.false_ne_true)]
  rw [if_neg (by rw [ft.canCreate]; exact Bool.false_ne_true)]
  refine n_then (wpAny_of_eq hct ?_)
  refine n_then (wpAny_of_eq hmro ?_)
  rw [if_neg (by exact Bool.false_ne_true)]
  refine n_then (wpAny_of_eq ft.made ?_)
  dsimp only
  refine n_bind (n_pure ?_)
  refine n_bind (n_holding (n_any ?_))
  refine wpAny_call (codeAny_mono hnew fun r s₁ hr => ?_)
  cases r with
  | error e => exact hr
  | ok fl =>
    cases fl with
    | ret obj =>
      obtain ⟨hT, hi⟩ := hnext _ _ hr
      have hl := init.lookup
      have hb := init.bind obj
      refine n_then (wpAny_isInstance hT sub ?_)
      simp only [Bool.not_true, Bool.false_eq_true, if_false]
      refine n_bind (n_holding ?_)
      unfold callSpecial?
      refine n_then (wpAny_specialOf hT hl ?_)
      refine n_holding ?_
      rw [hb]
      refine n_bind (n_pure (n_bind (n_call (c_mono hi fun r₂ s₂ hr₂ => ?_))))
      cases r₂ with
      | error e => exact hr₂
      | ok fl₂ =>
        cases fl₂ with
        | ret r =>
          obtain ⟨rfl, hq⟩ := hr₂
          exact n_pure (n_pure hq)
        | _ => exact hr₂.elim
    | _ => exact hr.elim

theorem ba_own {b : Addr} {Q : Bool → Shared → Prop} (hT : s.TypeIs (.ref b) "bytearray") (h : Q false s) : wpAny (model prog w) A (Bytes.ownRelease (.ref b)) Q E s := by
  unfold Bytes.ownRelease Bytes.slotIsOwn
  refine wpAny_bind (wpAny_bind (wpAny_specialOf hT ba_look_release ?_))
  have e1 : ("bytearray.__release_buffer__".endsWith ("." ++ "__release_buffer__")) = true := by decide +kernel
  have e2 : ("bytearray.__release_buffer__".dropRight ("__release_buffer__".length + 1)) = "bytearray" := by decide +kernel
  dsimp only
  rw [e1, e2]
  simp only [Bool.not_true, Bool.false_eq_true, if_false]
  refine wpAny_isInstance hT ba_sub ?_
  exact wpAny_pure h
theorem ba_typeIs {b : Addr} {d : Array UInt8} (hb : s.heap.get? b = some (baObj d)) : s.TypeIs (.ref b) "bytearray" := ⟨_, hb, rfl⟩

end
end

/-! ### VBytesB -/
theorem fresh6 {M : Model} {A : Around} {env : Env} {Q : Flow → Shared → Prop} {E : Value → Shared → Prop} {s : Shared} (h : Q .next s) : wpAny M A (execs [] env) Q E s := by
  w_top off
  (try walk1)
  all_goals first | exact h | exact wpAny_execs_nil h
section
open Builtin
section
variable {prog : Program} {w : World} {A : Around} {E : Value → Shared → Prop} {s : Shared}

theorem ba_sliceParts {sl : Addr} {l u : Value} {lo hi : Option Int} (hS : s.heap.IsSliceOf sl l u .none) (hl : IsPart l lo) (hu : IsPart u hi) {Q : Value × Value × Value → Shared → Prop} (h : Q (rawPart lo, rawPart hi, .none) s) :
    wpAny (model prog w) A (Bytes.sliceParts (.ref sl)) Q E s := by
  obtain ⟨o, ho, hc, hd⟩ := hS
  unfold Bytes.sliceParts
  refine wpAny_bind (wpAny_field (x := .none) ho hd rfl ?_)
  kby_none
  refine wpAny_ite (KBy.ite_no (show ¬ ((Value.none == rawInt 0) = true) from Bool.false_ne_true) ?_)
  refine wpAny_bind (wpAny_field (x := l) ho hd rfl ?_)
  cases hl <;> cases hu <;> (first
    | (kby_none; (refine wpAny_bind (wpAny_field (x := .none) ho hd rfl ?_)); kby_none)
    | (kby_none; (refine wpAny_bind (wpAny_field (x := .int _ _) ho hd rfl ?_)); kby_int)
    | (kby_int; (refine wpAny_bind (wpAny_field (x := .none) ho hd rfl ?_)); kby_none)
    | (kby_int; (refine wpAny_bind (wpAny_field (x := .int _ _) ho hd rfl ?_)); kby_int)) <;> exact wpAny_pure h
theorem ba_subscript {sl : Addr} (hT : s.TypeIs (.ref sl) "slice") {Q : Option Int → Shared → Prop} (h : Q none s) : wpAny (model prog w) A (Bytes.subscript? (.ref sl)) Q E s := by
  unfold Bytes.subscript?
  exact wpAny_bind (wpAny_specialOf hT slice_no_index (wpAny_pure h))
theorem ba_payload {b : Addr} {d : Array UInt8} (hb : s.heap.get? b = some (baObj d)) {Q : Array UInt8 → Shared → Prop} (h : Q d s) : wpAny (model prog w) A (Bytes.payload (.ref b)) Q E s := by
  unfold Bytes.payload Bytes.payload?
  exact wpAny_bind (wpAny_bind (wpAny_load hb (wpAny_pure (wpAny_pure h))))
theorem ba_payloadB {d : Array UInt8} {t : Tok} {Q : Array UInt8 → Shared → Prop} (h : Q d s) : wpAny (model prog w) A (Bytes.payload (.bytes d t)) Q E s := wpAny_of_eq (a := d) rfl h
theorem ba_exports {b : Addr} {d : Array UInt8} (hb : s.heap.get? b = some (baObj d)) {Q : Nat → Shared → Prop} (h : Q 0 s) : wpAny (model prog w) A (Bytes.exportsOf (.ref b)) Q E s := by
  unfold Bytes.exportsOf
  exact wpAny_bind (wpAny_load hb (wpAny_pure h))
theorem ba_write {b : Addr} {d : Array UInt8} {f : Array UInt8 → Array UInt8} {Q : Unit → Shared → Prop} (hb : s.heap.get? b = some (baObj d)) (hz : (f d).size ≤ 16777216)
    (h : ∀ h', Heap.SameBut b s.heap h' → h'.get? b = some (baObj (f d)) → Q () { s with heap := h' }) : wpAny (model prog w) A (Bytes.write (.ref b) f) Q E s := by
  have hu := Heap.get?_update_self (Obj.mapBytearray f) hb rfl
  show wpAny _ _ (updateBytearray b f) _ _ _
  unfold updateBytearray
  refine wpAny_bind (wpAny_load hb ?_)
  refine wpAny_bind (wpAny_update hb ?_)
  refine wpAny_lookBehind (o := Obj.mapBytearray f (baObj d)) hu (if_neg (by rw [sizeLine_eq]; exact Nat.not_lt.mpr hz)) ?_
  exact h _ ⟨Heap.size_after_update .., fun c hc => Heap.get?_update_other _ _ (Ne.symm hc)⟩ hu

/-- bytearray's maker without a source -/
theorem n_init0 {b : Addr} {d : Array UInt8} {Q : Fin → Shared → Prop} (hg : A.guards = some []) (hb : s.heap.get? b = some (baObj d))
    (h : ∀ h', Heap.SameBut b s.heap h' → h'.get? b = some (baObj #[]) → Q (.done (.ret .none)) { s with heap := h' }) : wpN (model prog w) A (Builtin.«bytearray.__init__» ⟨[.ref b], []⟩) Q E s := by
  unfold Builtin.«bytearray.__init__»
  dsimp only
  refine n_then (ba_own (ba_typeIs hb) ?_)
  simp only [Bool.false_eq_true, if_false]
  refine n_then (wpAny_of_eq (a := [none, none, none]) (by kernel_rfl) ?_)
  dsimp only
  refine n_then (wpAny_of_eq (a := ()) (by kernel_rfl) ?_)
  refine n_then (wpAny_of_eq (a := ()) (by kernel_rfl) ?_)
  show wpN _ _ ((Bytes.exported (.ref b) >>= fun x => _) >>= _) _ _ _
  refine n_bind (n_bind (n_exported hg ?_))
  refine n_bind (n_any (ba_exports hb ?_))
  refine n_pure ?_
  show wpN _ _ (if (decide (0 > 0)) = true then _ else _) _ _ _
  rw [if_neg (by decide)]
  refine n_then (ba_write (d := d) hb (by simp) fun h' hs ho => ?_)
  exact n_then (wpAny_pure (n_any (wpAny_pure (h h' hs ho))))
/-- bytearray's maker of octets -/
theorem n_init1 {b : Addr} {d e : Array UInt8} {t : Tok} {Q : Fin → Shared → Prop} (hg : A.guards = some []) (hb : s.heap.get? b = some (baObj d)) (hz : e.size ≤ 16777216)
    (h : ∀ h1 h2, Heap.SameBut b s.heap h1 → h1.get? b = some (baObj #[]) → Heap.SameBut b h1 h2 → h2.get? b = some (baObj e) → Q (.done (.ret .none)) { s with heap := h2 }) : wpN (model prog w) A (Builtin.«bytearray.__init__» ⟨[.ref b, .bytes e t], []⟩) Q E s := by
  unfold Builtin.«bytearray.__init__»
  dsimp only
  refine n_then (ba_own (ba_typeIs hb) ?_)
  simp only [Bool.false_eq_true, if_false]
  refine n_then (wpAny_of_eq (a := [some (.bytes e t), none, none]) (by kernel_rfl) ?_)
  dsimp only
  refine n_then (wpAny_of_eq (a := ()) (by kernel_rfl) ?_)
  refine n_then (wpAny_of_eq (a := ()) (by kernel_rfl) ?_)
  show wpN _ _ ((Bytes.exported (.ref b) >>= fun x => _) >>= _) _ _ _
  refine n_bind (n_bind (n_exported hg ?_))
  refine n_bind (n_any (ba_exports hb ?_))
  refine n_pure ?_
  show wpN _ _ (if (decide (0 > 0)) = true then _ else _) _ _ _
  rw [if_neg (by decide)]
  refine n_then (ba_write (d := d) hb (by simp) fun h1 hs1 ho1 => ?_)
  refine n_then (wpAny_of_eq (a := none) rfl ?_)
  simp only [Option.isSome_none, Bool.false_eq_true, if_false]
  refine n_then (wpAny_pure ?_)
  refine n_then (wpAny_of_eq (a := none) (by kernel_rfl) ?_)
  simp only [Option.isSome_none, Bool.false_eq_true, if_false]
  refine n_then (wpAny_of_eq (a := some e) KBy.buffer_eq ?_)
  dsimp only
  refine n_then (wpAny_rule ?_)
  refine n_then (ba_write (d := #[]) ho1 hz fun h2 hs2 ho2 => ?_)
  exact n_then (wpAny_pure (n_any (wpAny_pure (h h1 h2 hs1 ho1 hs2 ho2))))
end

section
variable {prog : Program} {w : World} {A : Around} {E : Value → Shared → Prop} {s : Shared} {h₀ : Heap} {L : Addr} {m : Str → Option Value} {news news' : List (Addr × Obj)}

theorem n_ba0 {Q : Value → Shared → Prop} (F : Fr h₀ L s.heap m) (N : News h₀ L s.heap news) (hg : A.guards = some [])
    (h : ∀ b h', Fr h₀ L h' m → News h₀ L h' ((b, baObj #[]) :: news) → (∀ p ∈ news, p.1 < b) → Q (.ref b) { s with heap := h' }) : wpN (model prog w) A (call (.type "bytearray") []) Q E s := by
  refine n_typeCall ba_called ba_typeCall0 (Q₁ := fun obj s₁ => obj = .ref s.heap.objs.size ∧ s₁ = { s with heap := s.heap.push (baObj #[]) }) (ba_code_new [] ba_newCall0 ⟨rfl, rfl⟩) fun obj s₁ h₁ => ?_
  obtain ⟨rfl, rfl⟩ := h₁
  have hb : (s.heap.push (baObj #[])).get? s.heap.objs.size = some (baObj #[]) := Heap.get?_push_size _ rfl
  have F1 := F.push (baObj #[])
  have N1 := N.push F (baObj #[])
  refine ⟨⟨_, hb, rfl⟩, c_call_builtin ba_slot_init.plain (by decide +kernel) ba_entry_init (ba_slot_init.check _ _ _ _ _ _ _ _ ⟨_, hb, rfl⟩ (ba_args_init0 _) ?_)⟩
  refine n_init0 hg hb fun h' hs ho => ?_
  have z := N1 (s.heap.objs.size, baObj #[]) (.head _)
  have N2 := news_set (pre := []) N1 (fun _ q => nomatch q) (fun p hp => Nat.ne_of_lt (Heap.lt_size (N p hp).1)) hs ho
  exact ⟨rfl, h _ _ (F1.change hs z.2.1 z.2.2) N2 fun p hp => Heap.lt_size (N p hp).1⟩

theorem n_ba1 {d : Array UInt8} {t : Tok} {Q : Value → Shared → Prop} (F : Fr h₀ L s.heap m) (N : News h₀ L s.heap news) (hg : A.guards = some []) (hz : d.size ≤ 16777216)
    (h : ∀ b h', Fr h₀ L h' m → News h₀ L h' ((b, baObj d) :: news) → (∀ p ∈ news, p.1 < b) → Q (.ref b) { s with heap := h' }) : wpN (model prog w) A (call (.type "bytearray") [.bytes d t]) Q E s := by
  refine n_typeCall ba_called (ba_typeCall1 _) (Q₁ := fun obj s₁ => obj = .ref s.heap.objs.size ∧ s₁ = { s with heap := s.heap.push (baObj #[]) }) (ba_code_new [_] (ba_newCall1 _) ⟨rfl, rfl⟩) fun obj s₁ h₁ => ?_
  obtain ⟨rfl, rfl⟩ := h₁
  have hb : (s.heap.push (baObj #[])).get? s.heap.objs.size = some (baObj #[]) := Heap.get?_push_size _ rfl
  have F1 := F.push (baObj #[])
  have N1 := N.push F (baObj #[])
  refine ⟨⟨_, hb, rfl⟩, c_call_builtin ba_slot_init.plain (by decide +kernel) ba_entry_init (ba_slot_init.check _ _ _ _ _ _ _ _ ⟨_, hb, rfl⟩ (ba_args_init1 _ _) ?_)⟩
  refine n_init1 hg hb hz fun h1 h2 hs ho hs' ho' => ?_
  have z := N1 (s.heap.objs.size, baObj #[]) (.head _)
  have lt := fun p hp => Nat.ne_of_lt (Heap.lt_size (N p hp).1)
  have F2 := F1.change hs z.2.1 z.2.2
  have N2 := news_set (pre := []) N1 (fun _ q => nomatch q) lt hs ho
  exact ⟨rfl, h _ _ (F2.change hs' z.2.1 z.2.2) (news_set (pre := []) N2 (fun _ q => nomatch q) lt hs' ho') fun p hp => Heap.lt_size (N p hp).1⟩
end
end

/-! ### VBytesC -/
theorem fresh7 {M : Model} {A : Around} {env : Env} {Q : Flow → Shared → Prop} {E : Value → Shared → Prop} {s : Shared} (h : Q .next s) : wpAny M A (execs [] env) Q E s := by
  w_top off
  (try walk1)
  all_goals first | exact h | exact wpAny_execs_nil h
section
open Builtin
theorem ba_slot_getitem : Slot "bytearray" "__getitem__" "bytearray.__getitem__" :=
  .of (owner := "bytearray") (n := "__getitem__") (by rw [typeLookup_type, builtinLookup_eq_fast]; kernel_rfl) (by decide +kernel) (by decide +kernel) (by decide +kernel) (.inl (by decide +kernel)) ba_sub
theorem ba_slot_setitem : Slot "bytearray" "__setitem__" "bytearray.__setitem__" :=
  .of (owner := "bytearray") (n := "__setitem__") (by rw [typeLookup_type, builtinLookup_eq_fast]; kernel_rfl) (by decide +kernel) (by decide +kernel) (by decide +kernel) (.inl (by decide +kernel)) ba_sub
theorem ba_slot_len : Slot "bytearray" "__len__" "bytearray.__len__" :=
  .of (owner := "bytearray") (n := "__len__") (by rw [typeLookup_type, builtinLookup_eq_fast]; kernel_rfl) (by decide +kernel) (by decide +kernel) (by decide +kernel) (.inl (by decide +kernel)) ba_sub
theorem ba_slot_extend : Slot "bytearray" "extend" "bytearray.extend" :=
  .of (owner := "bytearray") (n := "extend") (by rw [typeLookup_type, builtinLookup_eq_fast]; kernel_rfl) (by decide +kernel) (by decide +kernel) (by decide +kernel) (.inr (by decide +kernel)) ba_sub
theorem ba_slot_clear : Slot "bytearray" "clear" "bytearray.clear" :=
  .of (owner := "bytearray") (n := "clear") (by rw [typeLookup_type, builtinLookup_eq_fast]; kernel_rfl) (by decide +kernel) (by decide +kernel) (by decide +kernel) (.inr (by decide +kernel)) ba_sub
theorem ba_entry_getitem : entryFor table "bytearray.__getitem__" = some Builtin.«bytearray.__getitem__» := entryFor_of_tree (by kernel_rfl)
theorem ba_entry_setitem : entryFor table "bytearray.__setitem__" = some Builtin.«bytearray.__setitem__» := entryFor_of_tree (by kernel_rfl)
theorem ba_entry_len : entryFor table "bytearray.__len__" = some Builtin.«bytearray.__len__» := entryFor_of_tree (by kernel_rfl)
theorem ba_entry_extend : entryFor table "bytearray.extend" = some Builtin.«bytearray.extend» := entryFor_of_tree (by kernel_rfl)
theorem ba_entry_clear : entryFor table "bytearray.clear" = some Builtin.«bytearray.clear» := entryFor_of_tree (by kernel_rfl)
theorem ba_args_getitem (a b : Value) : argsOk "bytearray.__getitem__" ⟨[a, b], []⟩ := by unfold argsOk; kernel_rfl
theorem ba_args_setitem (a b c : Value) : argsOk "bytearray.__setitem__" ⟨[a, b, c], []⟩ := by unfold argsOk; kernel_rfl
theorem ba_args_len (a : Value) : argsOk "bytearray.__len__" ⟨[a], []⟩ := by unfold argsOk; kernel_rfl
theorem ba_args_extend (a b : Value) : argsOk "bytearray.extend" ⟨[a, b], []⟩ := by unfold argsOk; kernel_rfl
theorem ba_args_clear (a : Value) : argsOk "bytearray.clear" ⟨[a], []⟩ := by unfold argsOk; kernel_rfl
theorem ba_type_extend : typeOf (.builtin "bytearray.extend") = pure (.type "method_descriptor") := by show builtinType _ = _; rw [builtinType_eq_fast]; kernel_rfl
theorem ba_type_clear : typeOf (.builtin "bytearray.clear") = pure (.type "method_descriptor") := by show builtinType _ = _; rw [builtinType_eq_fast]; kernel_rfl
theorem ba_ga : typeLookup (.type "bytearray") "__getattribute__" = pure (some (.builtin "bytearray.__getattribute__")) := by rw [typeLookup_type, builtinLookup_eq_fast]; kernel_rfl
theorem ba_canon : (Manifest.canonical "bytearray.__getattribute__" != "object.__getattribute__") = false := by decide +kernel
theorem ba_no_getattr : typeLookup (.type "bytearray") "__getattr__" = pure none := by rw [typeLookup_type, builtinLookup_eq_fast]; kernel_rfl
end

/-! ### VBytesD -/
theorem fresh8 {M : Model} {A : Around} {env : Env} {Q : Flow → Shared → Prop} {E : Value → Shared → Prop} {s : Shared} (h : Q .next s) : wpAny M A (execs [] env) Q E s := by
  w_top off
  (try walk1)
  all_goals first | exact h | exact wpAny_execs_nil h
section
open Builtin
theorem ba_no_bytes : typeLookup (.type "bytearray") "__bytes__" = pure none := by rw [typeLookup_type, builtinLookup_eq_fast]; kernel_rfl
theorem ba_no_index : typeLookup (.type "bytearray") "__index__" = pure none := by rw [typeLookup_type, builtinLookup_eq_fast]; kernel_rfl
theorem bm_typeCall0 : checkTypeCall "bytes" ⟨[], []⟩ = pure () := by kernel_rfl
theorem bm_newCall0 : checkBuiltinCall "bytes.__new__" ⟨[.type "bytes"], []⟩ = pure () := by kernel_rfl
theorem by_buffer {b : Array UInt8} {t : Tok} {id : String} {full : Bool} : Bytes.buffer? id (.bytes b t) full = pure (some b) := by
  unfold Bytes.buffer?
  rw [KBy.special_eq KBy.look_buffer, KBy.own_buffer, KBy.own_release]
  kernel_rfl
theorem by_take {b : Array UInt8} {t : Tok} {id : String} {fl : Int} : Bytes.takeBufferQuiet? id (.bytes b t) fl = pure (some (b, none)) := by
  unfold Bytes.takeBufferQuiet? Bytes.takeBuffer?
  rw [KBy.special_eq KBy.look_buffer, KBy.own_buffer, by_buffer]
  kernel_rfl
section
variable {prog : Program} {w : World} {A : Around} {E : Value → Shared → Prop} {s : Shared}

theorem ba_buffer {b : Addr} {d : Array UInt8} {id : String} {full : Bool} (hb : s.heap.get? b = some (baObj d)) {Q : Option (Array UInt8) → Shared → Prop} (h : Q (some d) s) : wpAny (model prog w) A (Bytes.buffer? id (.ref b) full) Q E s := by
  have hT := ba_typeIs hb
  unfold Bytes.buffer?
  refine wpAny_bind (wpAny_specialOf hT ba_look_buffer ?_)
  refine wpAny_bind ?_
  unfold Bytes.slotIsOwn
  refine wpAny_bind (wpAny_specialOf hT ba_look_buffer ?_)
  have e1 : ("bytearray.__buffer__".endsWith ("." ++ "__buffer__")) = true := by decide +kernel
  have key : ∀ x : String, x = "bytearray" → ∀ {Q : Bool → Shared → Prop}, Q true s → wpAny (model prog w) A (isInstance (.ref b) (.type x)) Q E s := fun x hx Q q => by rw [hx]; exact wpAny_isInstance hT ba_sub q
  dsimp only
  rw [e1]
  simp only [Bool.not_true, Bool.false_eq_true, if_false]
  refine key _ (by decide +kernel) ?_
  simp only [Bool.not_true, Bool.false_eq_true, if_false]
  refine wpAny_bind (wpAny_specialOf hT ba_look_buffer ?_)
  show wpAny _ _ (Bytes.ownRelease (.ref b) >>= _) _ _ _
  refine wpAny_bind (ba_own hT ?_)
  simp only [Bool.false_eq_true, if_false]
  exact wpAny_bind (ba_payload hb (wpAny_pure h))

theorem meets_ba_slice {b a : Addr} {d : Array UInt8} {l u : Value} {lo hi : Option Int} (hl : IsPart l lo) (hu : IsPart u hi) :
    Meets («bytearray.__getitem__» ⟨[.ref b, .ref a], []⟩) (fun _ R s => s.heap.IsSliceOf a l u .none ∧ s.heap.get? b = some (baObj d) ∧ (KBy.picked d lo hi).size ≤ sizeLine ∧
      R (.ok (.ret (.ref s.heap.objs.size))) { s with heap := s.heap.push (baObj (KBy.picked d lo hi)) }) := by
  refine .of_wp fun prog w A R s hS => ?_
  obtain ⟨hs, hb, hz, h⟩ := hS
  have hT : s.TypeIs (.ref a) "slice" := by obtain ⟨o, ho, hc, hd⟩ := hs; exact ⟨o, ho, hc⟩
  show wpAny _ _ (Bytes.subscript? (.ref a) >>= fun r => _) _ _ s
  refine wpAny_bind (ba_subscript hT ?_)
  refine wpAny_bind (wpAny_typeOf hT ?_)
  show wpAny _ _ (Bytes.sliceParts (.ref a) >>= fun r => _) _ _ s
  refine wpAny_bind (ba_sliceParts hs hl hu ?_)
  refine wpAny_bind (ba_payload hb ?_)
  have go : wpAny (model prog w) A.in1 (sliceIndices (rawPart lo) (rawPart hi) (rawPart none) d.size) (fun r s' => r = sliceBounds lo hi none d.size ∧ s' = s) (fun _ _ => False) s :=
    wpAny_of_eq (sliceIndices_raw lo hi none d.size (fun e => nomatch e)) ⟨rfl, rfl⟩
  refine wpAny_bind (wpAny_mono go (fun r s' hr => ?_) fun _ _ e => e.elim)
  obtain ⟨rfl, rfl⟩ := hr
  refine wpAny_bind ?_
  unfold Bytes.newBytearray
  exact wpAny_newObj_type (wpAny_pure ⟨_, rfl, h⟩) hz

theorem ba_extend_nil {b : Addr} {d : Array UInt8} {t : Tok} {Q : Value → Shared → Prop} (hb : s.heap.get? b = some (baObj d)) (hz : d.size ≤ 16777216)
    (h : ∀ h', Heap.SameBut b s.heap h' → h'.get? b = some (baObj d) → Q .none { s with heap := h' }) : wpAny (model prog w) A (call (.builtin "bytearray.extend") [.ref b, .bytes #[] t]) Q E s := by
  refine wpAny_call (codeAny_call_builtin ba_slot_extend.plain ba_entry_extend (ba_slot_extend.check _ _ _ _ _ _ _ _ (ba_typeIs hb) (ba_args_extend _ _) ?_))
  unfold Builtin.«bytearray.extend»
  refine wpAny_bind (wpAny_of_eq (a := (Value.ref b, Value.bytes #[] t)) rfl ?_)
  refine wpAny_bind (wpAny_of_eq (KBy.special_eq KBy.look_buffer) ?_)
  refine bm_if_true rfl ?_
  refine wpAny_bind (wpAny_rule ?_)
  refine wpAny_bind (ba_payload hb ?_)
  refine wpAny_bind (wpAny_of_eq by_take ?_)
  refine bm_if_true rfl ?_
  show wpAny _ _ (Bytes.write (.ref b) (· ++ #[]) >>= fun _ => ret .none) _ _ _
  refine wpAny_bind (ba_write hb (by simpa using hz) fun h' hs ho => ?_)
  exact wpAny_pure (h h' hs (by simpa using ho))

theorem ba_len {b : Addr} {d : Array UInt8} {Q : Value → Shared → Prop} (hb : s.heap.get? b = some (baObj d)) (hz : d.size ≤ 16777216)
    (h : Q (.int d.size (s.toks + 1)) { s with toks := s.toks + 1 + 1 }) : wpAny (model prog w) A (call (.builtin "len") [.ref b]) Q E s := by
  refine call_len_slot (ba_typeIs hb) ba_slot_len (fun Q' q => ?_) (by omega) (by omega) h
  refine wpAny_call (codeAny_call_builtin ba_slot_len.plain ba_entry_len (ba_slot_len.check _ _ _ _ _ _ _ _ (ba_typeIs hb) (ba_args_len _) ?_))
  unfold Builtin.«bytearray.__len__»
  refine wpAny_bind (wpAny_of_eq (a := (Value.ref b, ([] : List Value))) rfl ?_)
  refine wpAny_bind (ba_payload hb ?_)
  exact wpAny_bind (wpAny_mkInt (wpAny_pure q))

theorem ba_getMethod {b : Addr} {d : Array UInt8} {name : Str} {id : String} {pl : Sem Bool} {Q : Value × List Value → Shared → Prop} (hb : s.heap.get? b = some (baObj d))
    (hf : typeLookup (.type "bytearray") name = pure (some (.builtin id))) (htf : typeOf (.builtin id) = pure (.type "method_descriptor"))
    (h : Q (.builtin id, [.ref b]) s) : wpAny (model prog w) A (getMethod (.ref b) name pl) Q E s := by
  have hT := ba_typeIs hb
  unfold getMethod
  refine wpAny_bind (wpAny_specialOf hT ba_ga ?_)
  show wpAny _ A (if (Manifest.canonical "bytearray.__getattribute__" != "object.__getattribute__") = true then _ else _) Q E s
  rw [ba_canon, if_neg Bool.false_ne_true]
  refine wpAny_bind (wpAny_specialOf hT ba_no_getattr ?_)
  refine wpAny_bind (wpAny_specialOf hT hf ?_)
  refine wpAny_bind (wpAny_of_eq htf ?_)
  refine wpAny_bind (wpAny_bind (wpAny_loadPart hb (wpAny_pure ?_)))
  exact wpAny_bind (wpAny_rule (wpAny_pure h))

theorem bytes_new {a : Value} {d : Array UInt8} {Q : Value → Shared → Prop} (hb : ∃ b, a = .ref b ∧ s.heap.get? b = some (baObj d)) (hz : d.size ≤ 16777216)
    (h : ∀ t, Q (.bytes d t) { s with toks := s.toks + 1 }) : codeAny (model prog w) A (.call (.builtin "bytes.__new__") ⟨[.type "bytes", a], []⟩) (wants Q E) s := by
  obtain ⟨b, rfl, hb⟩ := hb
  refine codeAny_of_tree ?_
  show wpAny _ A.in1 (do checkBuiltinCall "bytes.__new__" ⟨[.type "bytes", .ref b], []⟩; again (.builtin "bytes.__new__" ⟨[.type "bytes", .ref b], []⟩)) _ _ s
  refine wpAny_bind (wpAny_of_eq (F.bm_newCall _) (wpAny_pure ⟨plainId_quiet F.bm_plain _, codeAny_builtin F.bm_entry ?_⟩))
  rw [Around.under_plainId F.bm_plain _]
  have hT := ba_typeIs hb
  unfold Builtin.«bytes.__new__»
  refine wpAny_bind (wpAny_of_eq (a := true) rfl ?_)
  refine bm_if_false rfl ?_
  refine wpAny_bind (wpAny_of_eq F.bm_sub ?_)
  refine bm_if_false rfl ?_
  refine wpAny_bind (wpAny_of_eq (F.bm_bind _) ?_)
  refine wpAny_bind (wpAny_of_eq (a := ()) rfl ?_)
  refine wpAny_bind (wpAny_of_eq (a := ()) rfl ?_)
  refine bm_if_false rfl ?_
  refine wpAny_bind (wpAny_specialOf hT ba_no_bytes ?_)
  refine wpAny_bind (wpAny_bind ?_)
  show wpAny _ _ (load b >>= _) _ _ _
  refine wpAny_bind (wpAny_load hb ?_)
  refine wpAny_pure (wpAny_pure ?_)
  refine bm_if_false rfl ?_
  refine wpAny_bind (wpAny_specialOf hT ba_no_index ?_)
  refine bm_if_true rfl ?_
  first
    | show wpAny _ _ (Builtin.Bytes.buffer? "bytes.__new__" (.ref b) true >>= _) _ _ _
    | (refine wpAny_bind ?_; show wpAny _ _ (Builtin.Bytes.buffer? "bytes.__new__" (.ref b) true >>= _) _ _ _)
  refine wpAny_bind (ba_buffer hb ?_)
  refine wpAny_bind (wpAny_rule ?_)
  refine wpAny_bind (wpAny_mkBytes ?_ (by rw [sizeLine_eq]; exact hz))
  first
    | exact wpAny_pure (h _)
    | exact wpAny_pure (wpAny_pure (h _))
    | exact wpAny_bind (wpAny_pure (wpAny_pure (h _)))
theorem ba_bytes {b : Addr} {d : Array UInt8} {Q : Value → Shared → Prop} (hb : s.heap.get? b = some (baObj d)) (hz : d.size ≤ 16777216)
    (h : ∀ t, Q (.bytes d t) { s with toks := s.toks + 1 }) : wpAny (model prog w) A (call (.type "bytes") [.ref b]) Q E s := by
  refine callType_codes (Q₁ := fun obj s₁ => s₁.TypeIs obj "bytes" ∧ Q obj s₁) F.bm_called (F.bm_typeCall _) F.entry_object_init
    (bytes_new ⟨b, rfl, hb⟩ hz fun t => ⟨PySem.W.typeIs_bytes _ _ _, h t⟩) fun obj s₁ h₁ => ?_
  exact ⟨h₁.1, F.args_object_init_2 obj _, object_init_meets F.bm_called.init.lookup F.bm_called.made (by decide) prog w A.in1 _ s₁ ⟨h₁.1, rfl, h₁.2⟩⟩
end
end

/-! ### VBytesE -/
theorem fresh9 {M : Model} {A : Around} {env : Env} {Q : Flow → Shared → Prop} {E : Value → Shared → Prop} {s : Shared} (h : Q .next s) : wpAny M A (execs [] env) Q E s := by
  w_top off
  (try walk1)
  all_goals first | exact h | exact wpAny_execs_nil h
section
open Builtin
section
variable {prog : Program} {w : World} {A : Around} {E : Value → Shared → Prop} {s : Shared} {h₀ : Heap} {L : Addr} {m : Str → Option Value} {news news' : List (Addr × Obj)}

theorem n_clear {b : Addr} {d : Array UInt8} {Q : Value → Shared → Prop} (hg : A.guards = some []) (hb : s.heap.get? b = some (baObj d))
    (h : ∀ h', Heap.SameBut b s.heap h' → h'.get? b = some (baObj #[]) → Q .none { s with heap := h' }) : wpN (model prog w) A (call (.builtin "bytearray.clear") [.ref b]) Q E s := by
  refine n_call (c_call_builtin ba_slot_clear.plain (by decide +kernel) ba_entry_clear (ba_slot_clear.check _ _ _ _ _ _ _ _ (ba_typeIs hb) (ba_args_clear _) ?_))
  unfold Builtin.«bytearray.clear»
  refine n_then (wpAny_of_eq (a := Value.ref b) rfl ?_)
  refine n_then (ba_payload hb ?_)
  have fin : wpN (model prog w) A.in1 (Bytes.write (.ref b) (fun _ => #[]) >>= fun _ => ret .none) (fun fin s' => match fin with | .done f => wants Q E (.ok f) s' | .again c' => c'.quiet = true ∧ decCode c' = false ∧ codeN (model prog w) A c' (wants Q E) s') (fun e s' => wants Q E (.error e) s') s :=
    n_then (ba_write hb (by simp) fun h' hs ho => n_pure (h h' hs ho))
  by_cases he : d.isEmpty = true
  · simp only [he, Bool.not_true, Bool.false_eq_true, if_false]
    exact fin
  · simp only [he, Bool.not_false, if_true]
    exact n_bind (n_checkResize hg hb rfl fin)

theorem ba_key {b i : Value} {name : Str} {Q : Value → Shared → Prop} (hT : s.TypeIs b "bytearray") (h : Q i s) : wpAny (model prog w) A (sequenceKey b i name) Q E s := by
  unfold sequenceKey
  refine wpAny_bind (wpAny_typeOf hT ?_)
  exact wpAny_pure h

theorem by_not_ba {e : Array UInt8} {t : Tok} : isInstance (.bytes e t) (.type "bytearray") = pure false := by kernel_rfl
abbrev slObj (l u : Value) : Obj := { cls := .type "slice", data := .fields #[l, u, .none] }
theorem n_set_code {b a : Addr} {d e : Array UInt8} {t : Tok} {l u : Value} {lo hi : Int} {Q : Value → Shared → Prop} (F : Fr h₀ L s.heap m) (N : News h₀ L s.heap ((a, slObj l u) :: news)) (hg : A.guards = some [])
    (hl : IsPart l (some lo)) (hu : IsPart u (some hi)) (hlo : lo = d.size) (hhi : hi = d.size + e.size) (hz : d.size + e.size ≤ 16777216) (he : 0 < e.size)
    (U : Upd b (baObj d) (baObj (d ++ e)) news news') (h : ∀ h', Fr h₀ L h' m → News h₀ L h' news' → Q .none { s with heap := h' }) :
    codeN (model prog w) A (.call (.builtin "bytearray.__setitem__") ⟨[.ref b, .ref a, .bytes e t], []⟩) (wants Q E) s := by
  obtain ⟨pre, post, rfl, rfl, h1, h2⟩ := U.split
  have hb : s.heap.get? b = some (baObj d) := (N (b, baObj d) (.tail _ (List.mem_append_right _ (.head _)))).1
  have hs : s.heap.IsSliceOf a l u .none := ⟨_, (N (a, slObj l u) (.head _)).1, rfl, rfl⟩
  have hT : s.TypeIs (.ref a) "slice" := by obtain ⟨o, ho, hc, hd⟩ := hs; exact ⟨o, ho, hc⟩
  refine c_call_builtin ba_slot_setitem.plain (by decide +kernel) ba_entry_setitem (ba_slot_setitem.check _ _ _ _ _ _ _ _ (ba_typeIs hb) (ba_args_setitem _ _ _) ?_)
  show wpN _ _ (Bytes.subscript? (.ref a) >>= fun r => _) _ _ s
  refine n_then (ba_subscript hT ?_)
  refine n_then (wpAny_typeOf hT ?_)
  show wpN _ _ (Bytes.sliceParts (.ref a) >>= fun r => _) _ _ s
  refine n_then (ba_sliceParts hs hl hu ?_)
  refine n_then (m := isInstance (.bytes e t) (.type "bytearray")) (wpAny_of_eq (a := false) by_not_ba ?_)
  refine n_then (wpAny_of_eq (a := false) (by kernel_rfl) ?_)
  refine n_then (m := asStr? (Value.bytes e t)) (wpAny_of_eq (a := none) rfl ?_)
  refine n_then (m := rule "bytearray.__setitem__.copied") (wpAny_rule ?_)
  refine n_bind (n_ba1 F N hg (by omega) fun c h' F' N' hc => ?_)
  have hs' : h'.IsSliceOf a l u .none := ⟨_, (N' (a, slObj l u) (.tail _ (.head _))).1, rfl, rfl⟩
  have hb' := N' (b, baObj d) (.tail _ (.tail _ (List.mem_append_right _ (.head _))))
  refine n_bind (n_holding (n_any (ba_sliceParts (s := { s with heap := h' }) hs' hl hu ?_)))
  dsimp only
  refine n_then (ba_payload (N' (c, baObj e) (.head _)).1 ?_)
  refine n_then (ba_payload hb'.1 ?_)
  have go : wpAny (model prog w) A.in1 (sliceIndices (rawPart (some lo)) (rawPart (some hi)) (rawPart none) d.size) (fun r s' => r = sliceBounds (some lo) (some hi) none d.size ∧ s' = { s with heap := h' }) (fun _ _ => False) { s with heap := h' } :=
    wpAny_of_eq (sliceIndices_raw (some lo) (some hi) none d.size (fun e => nomatch e)) ⟨rfl, rfl⟩
  refine n_then (wpAny_mono go (fun r s' hr => ?_) fun _ _ e => e.elim)
  obtain ⟨rfl, rfl⟩ := hr
  have eb : sliceBounds (some lo) (some hi) none d.size = ((d.size : Int), (d.size : Int), 1) := by
    rw [sliceBounds_plain]
    simp only [Option.elim, Prod.mk.injEq, clipAt]
    subst hlo hhi
    refine ⟨by omega, by omega, trivial⟩
  rw [eb]
  refine n_then (m := rule "bytearray.__setitem__.slice") (wpAny_rule ?_)
  have ne : ((e.size : Int) != max (d.size : Int) (d.size : Int) - (d.size : Int)) = true := by
    simp only [bne_iff_ne, ne_eq]; omega
  show wpN _ _ (if ((e.size : Int) != max (d.size : Int) (d.size : Int) - (d.size : Int)) = true then _ else _) _ _ _
  rw [if_pos ne]
  refine n_bind (n_checkResize hg hb'.1 rfl ?_)
  have ex : ∀ x : Array UInt8, x = d → x.extract 0 (d.size : Int).toNat ++ e ++ x.extract (max (d.size : Int) (d.size : Int)).toNat = d ++ e := by
    rintro x rfl
    simp
  refine n_then (ba_write (d := d) hb'.1 (by rw [ex d rfl]; simpa using hz) fun h'' hsb ho => ?_)
  rw [ex d rfl] at ho
  have N3 : News h₀ L h' (pre ++ (b, baObj d) :: post) := fun p hp => N' p (.tail _ (.tail _ hp))
  exact n_pure (h h'' (F'.change hsb hb'.2.1 hb'.2.2) (news_set N3 h1 h2 hsb ho))

theorem n_setItem_app {b a : Addr} {d e : Array UInt8} {t : Tok} {l u : Value} {lo hi : Int} {Q : Unit → Shared → Prop} (F : Fr h₀ L s.heap m) (N : News h₀ L s.heap ((a, slObj l u) :: news)) (hg : A.guards = some [])
    (hl : IsPart l (some lo)) (hu : IsPart u (some hi)) (hlo : lo = d.size) (hhi : hi = d.size + e.size) (hz : d.size + e.size ≤ 16777216) (he : 0 < e.size)
    (U : Upd b (baObj d) (baObj (d ++ e)) news news') (h : ∀ h', Fr h₀ L h' m → News h₀ L h' news' → Q () { s with heap := h' }) :
    wpN (model prog w) A (setItem (.ref b) (.ref a) (.bytes e t)) Q E s := by
  have hb : s.heap.get? b = some (baObj d) := by
    obtain ⟨pre, post, rfl, rfl, h1, h2⟩ := U.split
    exact (N (b, baObj d) (.tail _ (List.mem_append_right _ (.head _)))).1
  have hT := ba_typeIs hb
  unfold setItem
  refine n_holding (n_then (ba_key hT ?_))
  unfold callSpecial?
  refine n_bind (n_then (wpAny_specialOf hT ba_slot_setitem.lookup ?_))
  refine n_holding ?_
  rw [ba_slot_setitem.bind]
  refine n_bind (n_pure (n_bind (n_call ?_)))
  refine c_mono (n_set_code (Q := fun v s' => Q () s') (E := E) F N hg hl hu hlo hhi hz he U h) fun r s' hr => ?_
  cases r with
  | error e => exact hr
  | ok fl =>
    cases fl with
    | ret v => exact n_pure (n_pure hr)
    | _ => exact hr.elim
end
end

/-! ### VBytesG -/
theorem fresh10 {M : Model} {A : Around} {env : Env} {Q : Flow → Shared → Prop} {E : Value → Shared → Prop} {s : Shared} (h : Q .next s) : wpAny M A (execs [] env) Q E s := by
  w_top off
  (try walk1)
  all_goals first | exact h | exact wpAny_execs_nil h
section
open Builtin
theorem bi_no_bytes : typeLookup (.type "int") "__bytes__" = pure none := by rw [typeLookup_type, builtinLookup_eq_fast]; kernel_rfl
theorem bm_bind0 : Builtin.Bytes.bindOptional "bytes.__new__" "bytes" ["source", "encoding", "errors"] [] [] = pure [none, none, none] := by kernel_rfl
section
variable {prog : Program} {w : World} {A : Around} {E : Value → Shared → Prop} {s : Shared} {h₀ : Heap} {L : Addr} {m : Str → Option Value} {news news' : List (Addr × Obj)}

theorem bytes_new_int {u : Tok} {Q : Value → Shared → Prop} (h : ∀ t, Q (.bytes #[] t) { s with toks := s.toks + 1 }) : codeAny (model prog w) A (.call (.builtin "bytes.__new__") ⟨[.type "bytes", .int 0 u], []⟩) (wants Q E) s := by
  refine codeAny_of_tree ?_
  show wpAny _ A.in1 (do checkBuiltinCall "bytes.__new__" ⟨[.type "bytes", .int 0 u], []⟩; again (.builtin "bytes.__new__" ⟨[.type "bytes", .int 0 u], []⟩)) _ _ s
  refine wpAny_bind (wpAny_of_eq (F.bm_newCall _) (wpAny_pure ⟨plainId_quiet F.bm_plain _, codeAny_builtin F.bm_entry ?_⟩))
  rw [Around.under_plainId F.bm_plain _]
  unfold Builtin.«bytes.__new__»
  refine wpAny_bind (wpAny_of_eq (a := true) rfl ?_)
  refine bm_if_false rfl ?_
  refine wpAny_bind (wpAny_of_eq F.bm_sub ?_)
  refine bm_if_false rfl ?_
  refine wpAny_bind (wpAny_of_eq (F.bm_bind _) ?_)
  refine wpAny_bind (wpAny_of_eq (a := ()) rfl ?_)
  refine wpAny_bind (wpAny_of_eq (a := ()) rfl ?_)
  refine bm_if_false rfl ?_
  refine wpAny_bind (wpAny_specialOf (typeIs_int s 0 u) bi_no_bytes ?_)
  refine wpAny_bind (wpAny_of_eq (a := false) rfl ?_)
  refine bm_if_false rfl ?_
  refine wpAny_bind (wpAny_specialOf (typeIs_int s 0 u) F.slot_int_index.lookup ?_)
  refine bm_if_false rfl ?_
  refine wpAny_bind (wpAny_of_eq (a := Except.ok 0) rfl ?_)
  dsimp only
  refine bm_if_false (by decide) ?_
  refine wpAny_ite (ite_neg (by decide) ?_)
  refine wpAny_ite (ite_neg (by decide) ?_)
  refine bm_if_false (KBy.tooLong_not (by decide)) ?_
  refine wpAny_bind (wpAny_rule ?_)
  refine wpAny_bind (wpAny_mkBytes ?_ (by decide))
  exact wpAny_pure (h _)
theorem bytes_new0 {Q : Value → Shared → Prop} (h : ∀ t, Q (.bytes #[] t) { s with toks := s.toks + 1 }) : codeAny (model prog w) A (.call (.builtin "bytes.__new__") ⟨[.type "bytes"], []⟩) (wants Q E) s := by
  refine codeAny_of_tree ?_
  show wpAny _ A.in1 (do checkBuiltinCall "bytes.__new__" ⟨[.type "bytes"], []⟩; again (.builtin "bytes.__new__" ⟨[.type "bytes"], []⟩)) _ _ s
  refine wpAny_bind (wpAny_of_eq bm_newCall0 (wpAny_pure ⟨plainId_quiet F.bm_plain _, codeAny_builtin F.bm_entry ?_⟩))
  rw [Around.under_plainId F.bm_plain _]
  unfold Builtin.«bytes.__new__»
  refine wpAny_bind (wpAny_of_eq (a := true) rfl ?_)
  refine bm_if_false rfl ?_
  refine wpAny_bind (wpAny_of_eq F.bm_sub ?_)
  refine bm_if_false rfl ?_
  refine wpAny_bind (wpAny_of_eq bm_bind0 ?_)
  refine wpAny_bind (wpAny_of_eq (a := ()) rfl ?_)
  refine wpAny_bind (wpAny_of_eq (a := ()) rfl ?_)
  refine bm_if_false rfl ?_
  refine wpAny_bind (wpAny_mkBytes ?_ (by decide))
  exact wpAny_pure (h _)
theorem bytes_int {n : Int} {u : Tok} {Q : Value → Shared → Prop} (hn : n = 0) (h : ∀ t, Q (.bytes #[] t) { s with toks := s.toks + 1 }) : wpAny (model prog w) A (call (.type "bytes") [.int n u]) Q E s := by
  subst hn
  refine callType_codes (Q₁ := fun obj s₁ => s₁.TypeIs obj "bytes" ∧ Q obj s₁) F.bm_called (F.bm_typeCall _) F.entry_object_init
    (bytes_new_int fun t => ⟨PySem.W.typeIs_bytes _ _ _, h t⟩) fun obj s₁ h₁ => ?_
  exact ⟨h₁.1, F.args_object_init_2 obj _, object_init_meets F.bm_called.init.lookup F.bm_called.made (by decide) prog w A.in1 _ s₁ ⟨h₁.1, rfl, h₁.2⟩⟩
theorem args_oi1 (a : Value) : argsOk "object.__init__" ⟨[a], []⟩ := oi_args a
theorem bytes_none {Q : Value → Shared → Prop} (h : ∀ t, Q (.bytes #[] t) { s with toks := s.toks + 1 }) : wpAny (model prog w) A (call (.type "bytes") []) Q E s := by
  refine callType_codes (Q₁ := fun obj s₁ => s₁.TypeIs obj "bytes" ∧ Q obj s₁) F.bm_called bm_typeCall0 F.entry_object_init
    (bytes_new0 fun t => ⟨PySem.W.typeIs_bytes _ _ _, h t⟩) fun obj s₁ h₁ => ?_
  refine ⟨h₁.1, oi_args obj, ?_⟩
  rw [oi_run]
  exact wpAny_pure ⟨rfl, h₁.2⟩

/-- a cut of the octets -/
theorem ba_cut {b : Addr} {d : List UInt8} {value slice : Expr} {l u : Value} {lo hi : Int} {Q : Value → Shared → Prop} (hF : Fr h₀ L s.heap m) (hN : News h₀ L s.heap news) (hm : (b, baObj d.toArray) ∈ news) (hl : IsPart l (some lo)) (hu : IsPart u (some hi))
    (h0 : 0 ≤ lo) (h1 : 0 ≤ hi) (hz : d.length ≤ 16777216)
    (h : ∀ c h', Fr h₀ L h' m → News h₀ L h' ((c, baObj ((d.drop lo.toNat).take (hi.toNat - lo.toNat)).toArray) :: news) → (∀ p ∈ news, p.1 < c) → Q (.ref c) { s with heap := h' })
    (hs : ∀ x : Addr, subscripted slice false (.ref b) (.ref x) = operate [.ref x, .ref b] (getItem (.ref b) (.ref x)) := by intro _; with_unfolding_all rfl) :
    wpAny (model prog w) A (subscriptTail value slice (.ref b) (.ref s.heap.objs.size)) Q E { s with heap := s.heap.push (slObj l u) } := by
  have hb := (hN _ hm).1
  have hb' : (s.heap.push (slObj l u)).get? b = some (baObj d.toArray) := Heap.get?_push_of_some _ hb
  have e : KBy.picked d.toArray (some lo) (some hi) = ((d.drop lo.toNat).take (hi.toNat - lo.toNat)).toArray := by
    rw [KBc.picked_eq]
    simp only [Option.elim, List.size_toArray]
    have c1 : clipAt d.length lo = min lo.toNat d.length := by unfold clipAt; omega
    have c2 : clipAt d.length hi = min hi.toNat d.length := by unfold clipAt; omega
    rw [c1, c2]
    congr 1
    rcases Nat.le_total lo.toNat d.length with q | q
    · rw [Nat.min_eq_left q]
      rcases Nat.le_total hi.toNat d.length with r | r
      · rw [Nat.min_eq_left r]
      · rw [Nat.min_eq_right r, List.take_of_length_le (by rw [List.length_drop]; omega), List.take_of_length_le (by rw [List.length_drop]; omega)]
    · rw [Nat.min_eq_right q, List.drop_eq_nil_of_le (Nat.le_refl _), List.drop_eq_nil_of_le q, List.take_nil, List.take_nil]
  refine tail_any (ba_typeIs (s := { s with heap := s.heap.push (slObj l u) }) hb') ba_slot_getitem.lookup
    (getItem_meets (ba_typeIs (s := { s with heap := s.heap.push (slObj l u) }) hb') (by decide) ba_slot_getitem ba_entry_getitem (ba_args_getitem _ _) (meets_ba_slice hl hu)
      ⟨Heap.IsSliceOf.new _ _ _ _, hb', Nat.le_trans (KBc.size_picked_le _ _ _) (by rw [sizeLine_eq]; simpa using hz), ?_⟩) (hs _)
  have F1 := hF.push (slObj l u)
  have N1 := hN.pushKeep (slObj l u)
  have N2 := N1.push F1 (baObj (KBy.picked d.toArray (some lo) (some hi)))
  rw [e] at N2 ⊢
  exact h _ _ (F1.push _) N2 fun p hp => Nat.lt_of_lt_of_le (Heap.lt_size (hN p hp).1) (by rw [Heap.size_push]; exact Nat.le_succ _)
end
end

/-! ### VK -/
theorem fresh11 {M : Model} {A : Around} {env : Env} {Q : Flow → Shared → Prop} {E : Value → Shared → Prop} {s : Shared} (h : Q .next s) : wpAny M A (execs [] env) Q E s := by
  w_top off
  (try walk1)
  all_goals first | exact h | exact wpAny_execs_nil h
section
structure Df (a b : Nat) : Prop where
  ne : @Ne Nat a b
theorem Df.ne' {a b : Nat} (h : Df a b) : @Ne Nat b a := fun e => h.ne e.symm
def AllNeN (a : Nat) : List Nat → Prop
  | [] => True
  | b :: l => Df a b ∧ AllNeN a l
def Apart : List Nat → Prop
  | [] => True
  | a :: l => AllNeN a l ∧ Apart l
theorem keep_end {base s h g : Heap} {outer : List Env} {L : Addr} {m : Str → Option Value} {fp news : List (Addr × Obj)} {mod : List Addr} (P : Foot base outer s fp) (KG : Keep (fp.map (·.1)) s g) (F : Fr g L h m) (N : News g L h news)
    (sub : ∀ q ∈ fp, q.1 ∈ mod ∨ q ∈ news) : Keep mod s h := by
  intro a o e n
  by_cases c : a ∈ fp.map (·.1)
  · obtain ⟨q, hq, rfl⟩ := List.mem_map.mp c
    have := P.at_ q hq
    rw [e] at this
    cases this
    rcases sub q hq with z | z
    · exact absurd z n
    · exact (N q z).1
  · exact F.keep _ _ (KG a o e c)

section
variable {A A₀ : Around} {base h₀ h h' : Heap} {outer : List Env} {env : Env} {L : Addr} {m : Str → Option Value} {fp news : List (Addr × Obj)} {mod : List Addr}
theorem call_below (B : Below A₀ base outer h₀) (F : Fr h₀ L h m) (hA : A.frames = some (env :: outer)) (hf : env.frame = some L) (hke : env.scope.kind = .function) : Below A base (env :: outer) h :=
  let Z := pushX B F hf hke
  ⟨hA, Z.stays, Z.frames⟩
theorem call_foot (B : Below A₀ base outer h₀) (N : News h₀ L h news) (hf : env.frame = some L) (sub : ∀ q ∈ fp, q ∈ news) : Foot base (env :: outer) h fp := by
  refine ⟨fun q hq => (N q (sub q hq)).1, fun q hq => ?_, fun e he q hq hfe => ?_⟩
  · cases z : base.get? q.1 with
    | none => rfl
    | some o => have := (N q (sub q hq)).2.2; rw [B.stays _ _ z] at this; cases this
  · rcases List.mem_cons.mp he with rfl | he
    · exact (N q (sub q hq)).2.1 (Option.some.inj (hfe.symm.trans hf))
    · obtain ⟨L₁, o₁, hf₁, ho₁⟩ := funFrames_in B.frames e he
      rw [hf₁] at hfe
      have := (N q (sub q hq)).2.2
      rw [← Option.some.inj hfe, ho₁] at this; cases this
theorem back_fr (F : Fr h₀ L h m) (N : News h₀ L h news) (k : Keep mod h h') (sub : ∀ a ∈ mod, ∃ o, (a, o) ∈ news) : Fr h₀ L h' m := by
  obtain ⟨oL, a1, a2, hoL, a3⟩ := F.ns
  refine ⟨⟨oL, a1, a2, k _ _ hoL fun q => ?_, a3⟩, fun b x e => k _ _ (F.keep b x e) fun q => ?_, F.above⟩
  · obtain ⟨o, ho⟩ := sub L q
    exact (N _ ho).2.1 rfl
  · obtain ⟨o, ho⟩ := sub b q
    have := (N _ ho).2.2; rw [e] at this; cases this
theorem back_same (N : News h₀ L h news) (k : Keep [] h h') : News h₀ L h' news := fun q hq => ⟨k _ _ (N q hq).1 (fun z => nomatch z), (N q hq).2⟩
theorem back_upd {d : Addr} {o o' : Obj} {g : Obj → List (Addr × Obj)} (N : News h₀ L h news) (U : UpdF d o news g) (k : Keep [d] h h') (ho : h'.get? d = some o') : News h₀ L h' (g o') := by
  obtain ⟨pre, post, rfl, hg, a, b⟩ := U.split
  rw [hg]
  intro q hq
  rcases List.mem_append.mp hq with z | z
  · have y := N q (List.mem_append_left _ z)
    exact ⟨k _ _ y.1 fun w => a q z (by simpa using w), y.2⟩
  · rcases List.mem_cons.mp z with rfl | z
    · exact ⟨ho, (N (d, o) (List.mem_append_right _ (.head _))).2⟩
    · have y := N q (List.mem_append_right _ (.tail _ z))
      exact ⟨k _ _ y.1 fun w => b q z (by simpa using w), y.2⟩
theorem back_new {news' : List (Addr × Obj)} (N : News h₀ L h news) (F : Fr h₀ L h m) (k : Keep mod h h') (ho : ∀ q ∈ news', (q ∈ news ∧ q.1 ∉ mod) ∨ (h'.get? q.1 = some q.2 ∧ ((∃ o, (q.1, o) ∈ news) ∨ h.get? q.1 = none))) : News h₀ L h' news' := by
  intro q hq
  rcases ho q hq with ⟨z, n⟩ | ⟨z, y⟩
  · exact ⟨k _ _ (N q z).1 n, (N q z).2⟩
  · refine ⟨z, ?_⟩
    rcases y with ⟨o, y⟩ | y
    · exact (N _ y).2
    · refine ⟨fun e => ?_, ?_⟩
      · obtain ⟨oL, a1, a2, hoL, a3⟩ := F.ns
        rw [e, hoL] at y; cases y
      · cases c : h₀.get? q.1 with
        | none => rfl
        | some o => rw [F.keep _ _ c] at y; cases y
end
theorem foot_sub_nil {fp news : List (Addr × Obj)} : ∀ q ∈ ([] : List (Addr × Obj)), q ∈ news := fun _ h => nomatch h
end

/-! ### VOct -/
theorem fresh12 {M : Model} {A : Around} {env : Env} {Q : Flow → Shared → Prop} {E : Value → Shared → Prop} {s : Shared} (h : Q .next s) : wpAny M A (execs [] env) Q E s := by
  w_top off
  (try walk1)
  all_goals first | exact h | exact wpAny_execs_nil h
section
local macro_rules | `(tactic| k_room) => `(tactic| ((try simp only [depth_under_make, depth_under_kw, depth_in1, depth_deeper, depth_caller] at *); (try dsimp only at *); omega))

abbrev octD (P : Params) (b : Addr) (pl : Int) (t1 t2 t3 : Tok) : Obj :=
  dictOf [⟨PyData.keyHash P "data", .str "data" t1, .ref b⟩, ⟨PyData.keyHash P "place", .str "place" t2, .int pl t3⟩] 2

local macro_rules | `(tactic| walk_at "MINE enter") => `(tactic| (
  refine' enter_c ?B ?X ?T _ ?P ?k6 ?k7 ?k8 ?k9 ?kB ?c5 ?c6 ?c7 ?c8 ?_
  case B => assumption
  case X => assumption
  case T => assumption
  case P => assumption
  case k6 => k_is
  case k7 => k_is
  case k8 => k_room
  case k9 => first | exact BindsTo.of_eq rfl | exact binds_K (Frag.In.keeps (by assumption) (Below.stays (by assumption))) rfl (by k_is) rfl rfl rfl
  case kB => exact locs rfl
  case c5 => decide
  case c6 => exact rfl
  case c7 => exact rfl
  case c8 => exact rfl
  intro g' L' h' tk' KG F' N' B' X' T' l1
  try dsimp only
  k_fold
  (try k_lt l1)))
local macro_rules | `(tactic| walk_at "MINE steps") => `(tactic| repeat' (first | (k_unfold; (try dsimp only)) | (with_reducible refine wpAny_execs_nil ?_) | walk1 | (dsimp only; first | (k_unfold; (try dsimp only)) | walk1)))
local macro_rules | `(tactic| walk_at "MINE sub") => `(tactic| first | exact List.forall_mem_nil _ | (refine List.forall_mem_cons.mpr ⟨?_, ?_⟩; (first | (refine Or.inr ?_; k_mem) | (exact Or.inl (by simp))); walk_at "MINE sub"))
local macro_rules | `(tactic| walk_at "MINE keep") => `(tactic| (refine keep_end (by assumption) (by assumption) (by assumption) (by assumption) ?_; walk_at "MINE sub"))

section
variable {prog : Program} {w : World} {A : Around} {E : Value → Shared → Prop} {s : Shared}
theorem ba_lenL {b : Addr} {d : List UInt8} {Q : Value → Shared → Prop} (hb : s.heap.get? b = some (baObj d.toArray)) (hz : d.length ≤ 16777216)
    (h : Q (.int d.length (s.toks + 1)) { s with toks := s.toks + 1 + 1 }) : wpAny (model prog w) A (call (.builtin "len") [.ref b]) Q E s := ba_len hb hz h
theorem by_lenL {d : List UInt8} {t : Tok} {Q : Value → Shared → Prop} (hz : d.length ≤ 16777216)
    (h : Q (.int d.length (s.toks + 1)) { s with toks := s.toks + 1 + 1 }) : wpAny (model prog w) A (call (.builtin "len") [.bytes d.toArray t]) Q E s := len_bytes (by simp only [List.size_toArray]; omega) h
end
local macro_rules | `(tactic| walk_at "MINE got") => `(tactic| (refine Eq.trans (News.get (by assumption) (by k_mem)) ?_; first | exact rfl | (simp only [Int.add_zero, Int.zero_add]; done) | (simp only [Int.add_zero, Int.zero_add]; exact rfl)))

-- getMethod, calls of the octets' own type
local macro_rules | `(tactic| walk_at "getMethod ref") => `(tactic| (k_here; k_dflt (first
  | (refine' ba_getMethod ?hb ba_slot_extend.lookup ba_type_extend ?_; (case hb => exact (News.get (by k_asm) (by k_mem))); k_whole)
  | (refine' ba_getMethod ?hb ba_slot_clear.lookup ba_type_clear ?_; (case hb => exact (News.get (by k_asm) (by k_mem))); k_whole))))
local macro_rules | `(tactic| walk_at "call builtin:len") => `(tactic| (k_here; (with_reducible show wpAny _ _ (call (Value.builtin "len") [Value.ref _]) _ _ _); k_dflt (refine' ba_lenL ?hb ?hz ?_; (case hb => exact (News.get (by k_asm) (by k_mem))); (case hz => omega); k_whole)))
local macro_rules | `(tactic| walk_at "call builtin:len") => `(tactic| (k_here; (with_reducible show wpAny _ _ (call (Value.builtin "len") [Value.bytes (List.toArray _) _]) _ _ _); (refine by_lenL ?_ ?_; ((try simp only [List.length_take, List.length_drop, List.length_append]); omega))))
local macro_rules | `(tactic| walk_at "call type:bytes") => `(tactic| (k_here; k_dflt (first
  | ((with_reducible show wpAny _ _ (call (Value.type "bytes") [Value.ref _]) _ _ _); refine' ba_bytes ?hb ?hz ?_; (case hb => exact (News.get (by k_asm) (by k_mem))); (case hz => (simp only [List.size_toArray, List.length_take, List.length_drop]; omega)); k_whole; intro _)
  | ((with_reducible show wpAny _ _ (call (Value.type "bytes") []) _ _ _); refine bytes_none ?_; intro _))))
local macro_rules | `(tactic| walk_at "subscriptTail") => `(tactic| (k_here; (with_reducible show wpAny _ _ (subscriptTail _ (Expr.Slice _ _ none _) (Value.ref _) (Value.ref _)) _ _ _); (with_reducible rename Fr _ _ _ _ => F'); (with_reducible rename News _ _ _ _ => N'); k_dflt (refine' ba_cut (s := ⟨_, _, _, _, _⟩) F' N' ?hm ?hl ?hu ?h0 ?h1 ?hz ?_; (case hm => k_mem); (case hl => constructor); (case hu => constructor); (case h0 => omega); (case h1 => omega); (case hz => omega); k_whole); intro c' h' F' N' l1; (try k_lt l1); (try k_sweep)))

section
variable {w : World} {A : Around} {s : Shared} {base : Heap} {outer : List Env} {p : Program} {loose : List Str} {mean : ExcName → Option Value} {mg mb : Str → Option Value} {R : Result → Shared → Prop}
  {x dx b : Addr} {pl : Int} {t1 t2 t3 : Nat} {d : List UInt8}

theorem tell_c (B : Below A base outer s.heap) (X : (Mine.hd.heap_39 w.params).In base) (T : Top p loose mean mg mb base) (hh : A.handled = none) (hroom : A.depth + 10 < recursionLimit)
    (P : Foot base outer s.heap [(x, instObj 194 dx), (dx, octD w.params b pl t1 t2 t3)])
    (h : ∀ h' t' , Keep [] s.heap h' → R (.ok (.ret (.int pl t3))) { s with heap := h', toks := t' }) :
    codeAny (model PySem.Challenge.rw_vq0002_01.row.prog w) A (.call (.ref 177) ⟨[.ref x], []⟩) R s := by
  obtain ⟨hd, dp, fr, gs, u⟩ := A
  obtain rfl := B.stack
  obtain rfl := hh
  revert X
  k_fill
  intro X
  walk_at "MINE enter"
  walk_at "MINE steps"
  refine h _ _ ?_
  walk_at "MINE keep"

theorem seek0_c (B : Below A base outer s.heap) (X : (Mine.hd.heap_39 w.params).In base) (T : Top p loose mean mg mb base) (hh : A.handled = none) (hroom : A.depth + 10 < recursionLimit)
    (hne : @Ne Nat x dx) {q : Int} {tq : Tok} (P : Foot base outer s.heap [(x, instObj 194 dx), (dx, octD w.params b pl t1 t2 t3)])
    (h : ∀ h' t' t3', Keep [dx] s.heap h' → h'.get? dx = some (octD w.params b q t1 t2 t3') → R (.ok (.ret .none)) { s with heap := h', toks := t' }) :
    codeAny (model PySem.Challenge.rw_vq0002_01.row.prog w) A (.call (.ref 170) ⟨[.ref x, .int q tq], []⟩) R s := by
  obtain ⟨hd, dp, fr, gs, u⟩ := A
  obtain rfl := B.stack
  obtain rfl := hh
  revert X
  k_fill
  intro X
  walk_at "MINE enter"
  walk_at "MINE steps"
  refine' h _ _ _ ?k ?f
  case f => walk_at "MINE got"
  case k => walk_at "MINE keep"

/-- to the end of the octets -/
theorem seek2_c (B : Below A base outer s.heap) (X : (Mine.hd.heap_39 w.params).In base) (T : Top p loose mean mg mb base) (hh : A.handled = none) (hroom : A.depth + 10 < recursionLimit)
    (hne : @Ne Nat x dx) (hb1 : @Ne Nat b x) (hb2 : @Ne Nat b dx) (hz : d.length ≤ 1000000) {tq tw : Tok} (P : Foot base outer s.heap [(x, instObj 194 dx), (dx, octD w.params b pl t1 t2 t3), (b, baObj d.toArray)])
    (h : ∀ h' t' t3', Keep [dx] s.heap h' → h'.get? dx = some (octD w.params b d.length t1 t2 t3') → R (.ok (.ret .none)) { s with heap := h', toks := t' }) :
    codeAny (model PySem.Challenge.rw_vq0002_01.row.prog w) A (.call (.ref 170) ⟨[.ref x, .int 0 tq, .int 2 tw], []⟩) R s := by
  obtain ⟨hd, dp, fr, gs, u⟩ := A
  obtain rfl := B.stack
  obtain rfl := hh
  revert X
  k_fill
  intro X
  walk_at "MINE enter"
  walk_at "MINE steps"
  refine' h _ _ _ ?k ?f
  case f => walk_at "MINE got"
  case k => walk_at "MINE keep"

theorem read_c (B : Below A base outer s.heap) (X : (Mine.hd.heap_39 w.params).In base) (T : Top p loose mean mg mb base) (hh : A.handled = none) (hroom : A.depth + 10 < recursionLimit)
    (hne : @Ne Nat x dx) (hb1 : @Ne Nat b x) (hb2 : @Ne Nat b dx) (hz : d.length ≤ 1000000) (h0 : 0 ≤ pl) {k : Int} {tk : Tok} (hk : 0 ≤ k) (P : Foot base outer s.heap [(x, instObj 194 dx), (dx, octD w.params b pl t1 t2 t3), (b, baObj d.toArray)])
    (h : ∀ h' t' t3' tr, Keep [dx] s.heap h' → h'.get? dx = some (octD w.params b (pl + ((d.drop pl.toNat).take ((pl + k).toNat - pl.toNat)).length) t1 t2 t3') → R (.ok (.ret (.bytes ((d.drop pl.toNat).take ((pl + k).toNat - pl.toNat)).toArray tr))) { s with heap := h', toks := t' }) :
    codeAny (model PySem.Challenge.rw_vq0002_01.row.prog w) A (.call (.ref 184) ⟨[.ref x, .int k tk], []⟩) R s := by
  obtain ⟨hd, dp, fr, gs, u⟩ := A
  obtain rfl := B.stack
  obtain rfl := hh
  revert X
  k_fill
  intro X
  walk_at "MINE enter"
  walk_at "MINE steps"
  refine' h _ _ _ _ ?k ?f
  case f => walk_at "MINE got"
  case k => walk_at "MINE keep"
end
end

/-! ### VOctW -/
theorem fresh13 {M : Model} {A : Around} {env : Env} {Q : Flow → Shared → Prop} {E : Value → Shared → Prop} {s : Shared} (h : Q .next s) : wpAny M A (execs [] env) Q E s := by
  w_top off
  (try walk1)
  all_goals first | exact h | exact wpAny_execs_nil h
section
local macro_rules | `(tactic| k_room) => `(tactic| ((try simp only [depth_under_make, depth_under_kw, depth_in1, depth_deeper, depth_caller] at *); (try dsimp only at *); omega))
local macro_rules | `(tactic| walk_at "MINE enter") => `(tactic| (
  refine' enter_c ?B ?X ?T _ ?P ?k6 ?k7 ?k8 ?k9 ?kB ?c5 ?c6 ?c7 ?c8 ?_
  case B => assumption
  case X => assumption
  case T => assumption
  case P => assumption
  case k6 => k_is
  case k7 => k_is
  case k8 => k_room
  case k9 => first | exact BindsTo.of_eq rfl | exact binds_K (Frag.In.keeps (by assumption) (Below.stays (by assumption))) rfl (by k_is) rfl rfl rfl
  case kB => exact locs rfl
  case c5 => decide
  case c6 => exact rfl
  case c7 => exact rfl
  case c8 => exact rfl
  intro g' L' h' tk' KG F' N' B' X' T' l1
  try dsimp only
  k_fold
  (try k_lt l1)))
local macro_rules | `(tactic| walk_at "MINE steps") => `(tactic| repeat' (first | (k_unfold; (try dsimp only)) | (with_reducible refine wpAny_execs_nil ?_) | walk1 | (dsimp only; first | (k_unfold; (try dsimp only)) | walk1)))
local macro_rules | `(tactic| walk_at "MINE sub") => `(tactic| first | exact List.forall_mem_nil _ | (refine List.forall_mem_cons.mpr ⟨?_, ?_⟩; (first | (refine Or.inr ?_; k_mem) | (exact Or.inl (by simp))); walk_at "MINE sub"))
local macro_rules | `(tactic| walk_at "MINE keep") => `(tactic| (refine keep_end (by assumption) (by assumption) (by assumption) (by assumption) ?_; walk_at "MINE sub"))
local macro_rules | `(tactic| walk_at "MINE got") => `(tactic| (refine Eq.trans (News.get (by assumption) (by k_mem)) ?_; first | exact rfl | (simp only [Int.add_zero, Int.zero_add]; done) | (simp only [Int.add_zero, Int.zero_add]; exact rfl)))
local macro_rules | `(tactic| walk_at "getMethod ref") => `(tactic| (k_here; k_dflt (first
  | (refine' ba_getMethod ?hb ba_slot_extend.lookup ba_type_extend ?_; (case hb => exact (News.get (by k_asm) (by k_mem))); k_whole)
  | (refine' ba_getMethod ?hb ba_slot_clear.lookup ba_type_clear ?_; (case hb => exact (News.get (by k_asm) (by k_mem))); k_whole))))
local macro_rules | `(tactic| walk_at "call builtin:len") => `(tactic| (k_here; (with_reducible show wpAny _ _ (call (Value.builtin "len") [Value.ref _]) _ _ _); k_dflt (refine' ba_lenL ?hb ?hz ?_; (case hb => exact (News.get (by k_asm) (by k_mem))); (case hz => omega); k_whole)))
local macro_rules | `(tactic| walk_at "call builtin:len") => `(tactic| (k_here; (with_reducible show wpAny _ _ (call (Value.builtin "len") [Value.bytes (List.toArray _) _]) _ _ _); (refine by_lenL ?_ ?_; ((try simp only [List.length_take, List.length_drop, List.length_append]); omega))))
local macro_rules | `(tactic| walk_at "call type:bytes") => `(tactic| (k_here; k_dflt (first
  | ((with_reducible show wpAny _ _ (call (Value.type "bytes") [Value.ref _]) _ _ _); refine' ba_bytes ?hb ?hz ?_; (case hb => exact (News.get (by k_asm) (by k_mem))); (case hz => (simp only [List.size_toArray, List.length_take, List.length_drop]; omega)); k_whole; intro _)
  | ((with_reducible show wpAny _ _ (call (Value.type "bytes") []) _ _ _); refine bytes_none ?_; intro _))))
local macro_rules | `(tactic| walk_at "subscriptTail") => `(tactic| (k_here; (with_reducible show wpAny _ _ (subscriptTail _ (Expr.Slice _ _ none _) (Value.ref _) (Value.ref _)) _ _ _); (with_reducible rename Fr _ _ _ _ => F'); (with_reducible rename News _ _ _ _ => N'); k_dflt (refine' ba_cut (s := ⟨_, _, _, _, _⟩) F' N' ?hm ?hl ?hu ?h0 ?h1 ?hz ?_; (case hm => k_mem); (case hl => constructor); (case hu => constructor); (case h0 => omega); (case h1 => omega); (case hz => omega); k_whole); intro c' h' F' N' l1; (try k_lt l1); (try k_sweep)))
theorem n_Assign_Subscript {M : Model} {A : Around} {E : Value → Shared → Prop} {s : Shared} {env : Env} {o i value : Expr} {pos' pos : Pos} {Q : Flow → Shared → Prop}
    (h : wpAny M A (eval value env) (fun v s₁ => wpAny M A (eval o env) (fun ov s₂ => wpAny M A (eval i env) (fun iv s₃ =>
      wpN M A (setItem ov iv v) (fun _ => Q .next) E s₃) E s₂) E s₁) E s)
    (hs : swapsWith value (some (.Subscript o i pos')) pos.line env = pure false := by rfl) :
    wpN M A (exec (.Assign [.Subscript o i pos'] value pos) env) Q E s := fun Γ p hΓ z => by
  simp only [exec_Assign_Subscript o i pos' value pos hs, assign_Subscript, Sem.wp_bind', Sem.wp_holding, Sem.wp_cmd_standAt, Sem.wp_release, Sem.wp_pure']
  exact Sem.wp_mono M Γ _ (fun v p₁ s₁ h₁ => Sem.wp_mono M Γ _ (fun ov p₂ s₂ h₂ => Sem.wp_mono M Γ _ (fun iv _ s₃ h₃ => h₃ Γ _ hΓ z)
    (fun _ _ _ h' => h') _ _ (h₂ Γ p₂ hΓ)) (fun _ _ _ h' => h') _ _ (h₁ Γ p₁ hΓ)) (fun _ _ _ h' => h') _ _ (h Γ _ hΓ)

theorem n_Assign_Tuple {M : Model} {A : Around} {E : Value → Shared → Prop} {s : Shared} {env : Env} {elts : List Expr} {k : Nat} {tpos : Pos} {value : Expr} {pos : Pos} {Q : Flow → Shared → Prop}
    (h : wpN M A (eval value env) (fun v s₁ => wpAny M A (assign (.Tuple elts k tpos) env v) (fun _ => Q .next) E s₁) E s)
    (hs : swapsWithSole [.Tuple elts k tpos] value pos.line env = pure false := by rfl)
    (hw : swappedStores [.Tuple elts k tpos] value env = pure none := by rfl) :
    wpN M A (exec (.Assign [.Tuple elts k tpos] value pos) env) Q E s := by
  rw [PyProof.Rows.exec_Assign]
  refine n_bind (n_standAt ?_)
  rw [hs]
  refine n_bind (n_pure ?_)
  rw [if_neg (by decide)]
  refine n_bind (n_mono h (fun v s₁ h₁ => ?_) fun _ _ x => x)
  rw [hw]
  refine n_bind (n_pure ?_)
  show wpN M A (do assignAll v [assign (.Tuple elts k tpos) env]; pure .next) Q E s₁
  exact n_then (wpAny_mono h₁ (fun _ _ x => n_pure x) fun _ _ x => x)
theorem n_callWithT0 {M : Model} {A : Around} {E : Value → Shared → Prop} {s : Shared} {env : Env} {f : Value} {pos : Pos} {Q : Value → Shared → Prop} (h : wpN M A (call f []) Q E s) (hk : keeperOf f = pure Keeper.machine := by rfl) :
    wpN M A (callWith pos f [] (backTo pos (starEach [] env)) []) Q E s :=
  n_callWith_of (P := fun _ => True) rfl (fun _ _ => ⟨_, .inr (.inl rfl), Looks.of_pure hk⟩) (n_any (evalArgs_nil3 ⟨trivial, h⟩))
/-- two parts, the first of which is a call in N -/
theorem n_spliced2 {M : Model} {A : Around} {E : Value → Shared → Prop} {s : Shared} {env : Env} {a b : Expr} {pos : Pos} {Q : List Value → Shared → Prop}
    (h : wpN M A (eval a env) (fun v s₁ => wpAny M A (eval b env) (fun u s₂ => Q [v, u] s₂) E s₁) E s)
    (he : backTo pos (starEach [a, b] env) = [(false, eval a env), (false, eval b env)] := by rfl) : wpN M A (spliced (backTo pos (starEach [a, b] env))) Q E s := by
  rw [he]
  refine n_spliced_cons (n_mono h (fun v s₁ h₁ => ?_) fun _ _ x => x)
  exact n_spliced_cons (n_mono (n_any h₁) (fun u s₂ h₂ => n_spliced_nil h₂) fun _ _ x => x)

section
variable {prog : Program} {w : World} {A : Around} {E : Value → Shared → Prop} {s : Shared} {h₀ : Heap} {L : Addr} {m : Str → Option Value} {news news' : List (Addr × Obj)}
theorem n_setItem_appK {b : Addr} {d e : List UInt8} {t : Tok} {l u : Value} {lo hi : Int} {Q : Unit → Shared → Prop} (F : Fr h₀ L s.heap m) (N : News h₀ L s.heap news) (hg : A.guards = some [])
    (hl : IsPart l (some lo)) (hu : IsPart u (some hi)) (hlo : lo = d.length) (hhi : hi = d.length + e.length) (hz : d.length + e.length ≤ 1000000) (he : 0 < e.length)
    (U : Upd b (baObj d.toArray) (baObj (d ++ e).toArray) news news') (h : ∀ h', Fr h₀ L h' m → News h₀ L h' news' → Q () { s with heap := h' }) :
    wpN (model prog w) A (setItem (.ref b) (.ref s.heap.objs.size) (.bytes e.toArray t)) Q E { s with heap := s.heap.push (slObj l u) } :=
  n_setItem_app (s := { s with heap := s.heap.push (slObj l u) }) (F.push _) (N.push F (slObj l u)) hg hl hu (by rw [List.size_toArray]; exact hlo) (by rw [List.size_toArray, List.size_toArray]; exact hhi) (by rw [List.size_toArray, List.size_toArray]; omega) (by rw [List.size_toArray]; exact he) (by rw [List.append_toArray]; exact U) h
theorem n_setItem_appL {b a : Addr} {d e : List UInt8} {t : Tok} {l u : Value} {lo hi : Int} {Q : Unit → Shared → Prop} (F : Fr h₀ L s.heap m) (N : News h₀ L s.heap ((a, slObj l u) :: news)) (hg : A.guards = some [])
    (hl : IsPart l (some lo)) (hu : IsPart u (some hi)) (hlo : lo = d.length) (hhi : hi = d.length + e.length) (hz : d.length + e.length ≤ 16777216) (he : 0 < e.length)
    (U : Upd b (baObj d.toArray) (baObj (d ++ e).toArray) news news') (h : ∀ h', Fr h₀ L h' m → News h₀ L h' news' → Q () { s with heap := h' }) :
    wpN (model prog w) A (setItem (.ref b) (.ref a) (.bytes e.toArray t)) Q E s :=
  n_setItem_app F N hg hl hu (by rw [List.size_toArray]; exact hlo) (by rw [List.size_toArray, List.size_toArray]; exact hhi) (by rw [List.size_toArray, List.size_toArray]; exact hz) (by rw [List.size_toArray]; exact he) (by rw [List.append_toArray]; exact U) h
end
section
variable {prog : Program} {w : World} {A : Around} {E : Value → Shared → Prop} {s : Shared} {h₀ : Heap} {L : Addr} {m : Str → Option Value} {news : List (Addr × Obj)}
theorem same_news {b : Addr} {o : Obj} {h h' : Heap} (N : News h₀ L h news) (hm : (b, o) ∈ news) (hs : Heap.SameBut b h h') (ho : h'.get? b = some o) : News h₀ L h' news := by
  intro q hq
  refine ⟨?_, (N q hq).2⟩
  by_cases c : q.1 = b
  · have e := (N q hq).1
    rw [c, (N _ hm).1] at e
    rw [c, ho, e]
  · rw [hs.2 _ c]; exact (N q hq).1
theorem ba_extendK {b : Addr} {d : List UInt8} {t : Tok} {Q : Value → Shared → Prop} (F : Fr h₀ L s.heap m) (N : News h₀ L s.heap news) (hm : (b, baObj d.toArray) ∈ news) (hz : d.length ≤ 1000000)
    (h : ∀ h', Fr h₀ L h' m → News h₀ L h' news → Q .none { s with heap := h' }) : wpAny (model prog w) A (call (.builtin "bytearray.extend") [.ref b, .bytes #[] t]) Q E s :=
  ba_extend_nil (N _ hm).1 (by rw [List.size_toArray]; omega) fun h' hs ho => h h' (F.change hs (N _ hm).2.1 (N _ hm).2.2) (same_news N hm hs ho)
end
local macro_rules | `(tactic| walk_at "call builtin:bytearray.extend") => `(tactic| (k_here; (with_reducible rename Fr _ _ _ _ => F'); (with_reducible rename News _ _ _ _ => N'); k_dflt (refine' ba_extendK F' N' ?hm ?hz ?_; (case hm => k_mem); (case hz => omega); k_whole); intro h' F' N'; (try k_sweep)))
local macro_rules | `(tactic| walk_at "MINE enterN") => `(tactic| (
  refine' enter_n ?B ?X ?T _ ?P ?k6 ?k7 ?k8 ?k9 ?kB ?c5 ?c6 ?c7 ?c8 ?_
  case B => assumption
  case X => assumption
  case T => assumption
  case P => assumption
  case k6 => k_is
  case k7 => k_is
  case k8 => k_room
  case k9 => first | exact BindsTo.of_eq rfl | exact binds_K (Frag.In.keeps (by assumption) (Below.stays (by assumption))) rfl (by k_is) rfl rfl rfl
  case kB => exact locs rfl
  case c5 => decide
  case c6 => exact rfl
  case c7 => exact rfl
  case c8 => exact rfl
  intro g' L' h' tk' KG F' N' B' X' T' l1
  try dsimp only))

section
variable {w : World} {A : Around} {s : Shared} {base : Heap} {outer : List Env} {p : Program} {loose : List Str} {mean : ExcName → Option Value} {mg mb : Str → Option Value} {R : Result → Shared → Prop}
  {x dx b : Addr} {t1 t2 t3 : Nat} {d : List UInt8}
local macro_rules | `(tactic| walk_at "call type:bytes") => `(tactic| (k_here; (with_reducible show wpAny _ _ (call (Value.type "bytes") [Value.int _ _]) _ _ _); (refine bytes_int ?_ ?_; first | rfl | omega | (simp; done)); intro _))

theorem write_c (B : Below A base outer s.heap) (X : (Mine.hd.heap_39 w.params).In base) (T : Top p loose mean mg mb base) (hh : A.handled = none) (hg : A.guards = some []) (hroom : A.depth + 10 < recursionLimit)
    (hne : @Ne Nat x dx) (hb1 : @Ne Nat b x) (hb2 : @Ne Nat b dx) {e : List UInt8} {te : Tok} (he : 0 < e.length) (hz : d.length + e.length ≤ 1000000) (P : Foot base outer s.heap [(x, instObj 194 dx), (dx, octD w.params b d.length t1 t2 t3), (b, baObj d.toArray)])
    (h : ∀ h' t' t3' tr, Keep [dx, b] s.heap h' → h'.get? dx = some (octD w.params b (d.length + e.length : Int) t1 t2 t3') → h'.get? b = some (baObj (d ++ e).toArray) → R (.ok (.ret (.int e.length tr))) { s with heap := h', toks := t' }) :
    codeN (model PySem.Challenge.rw_vq0002_01.row.prog w) A (.call (.ref 191) ⟨[.ref x, .bytes e.toArray te], []⟩) R s := by
  obtain ⟨hd, dp, fr, gs, u⟩ := A
  obtain rfl := B.stack
  obtain rfl := hh
  obtain rfl := hg
  revert X
  k_fill
  intro X

  walk_at "MINE enterN"
  refine n_execs_cons (n_any ?_)
  k_fold
  (try k_lt l1)
  walk_at "MINE steps"
  (try k_unfold)
  (try dsimp only)
  refine n_execs_cons (n_Assign_Subscript ?_)
  k_fold
  walk_at "MINE steps"
  (try k_unfold)
  (try dsimp only)
  with_reducible rename Fr _ _ _ _ => F'
  with_reducible rename News _ _ _ _ => N'
  refine' n_setItem_appK (s := ⟨_, _, _, _, _⟩) F' N' rfl (by constructor) (by constructor) rfl rfl hz he ?U ?_
  case U => k_upd
  clear F' N'
  intro h2 F' N'
  (try dsimp only)
  refine n_any ?_
  k_fold
  walk_at "MINE steps"
  (try dsimp only)
  refine' h _ _ _ _ ?k ?f ?g
  case f => walk_at "MINE got"
  case g => walk_at "MINE got"
  case k => walk_at "MINE keep"

theorem oinit_c (B : Below A base outer s.heap) (X : (Mine.hd.heap_39 w.params).In base) (T : Top p loose mean mg mb base) (hh : A.handled = none) (hg : A.guards = some []) (hroom : A.depth + 10 < recursionLimit)
    (hne : @Ne Nat x dx) (P : Foot base outer s.heap [(x, instObj 194 dx), (dx, dictOf [] 0)])
    (h : ∀ h' t' b t1' t2' t3', Keep [dx] s.heap h' → h'.get? dx = some (octD w.params b 0 t1' t2' t3') → h'.get? b = some (baObj #[]) → s.heap.get? b = none → R (.ok (.ret .none)) { s with heap := h', toks := t' }) :
    codeN (model PySem.Challenge.rw_vq0002_01.row.prog w) A (.call (.ref 162) ⟨[.ref x], []⟩) R s := by
  obtain ⟨hd, dp, fr, gs, u⟩ := A
  obtain rfl := B.stack
  obtain rfl := hh
  obtain rfl := hg
  revert X
  k_fill
  intro X
  refine' enter_n ?B ?X ?T _ ?P ?k6 ?k7 ?k8 ?k9 ?kB ?c5 ?c6 ?c7 ?c8 ?_
  case B => assumption
  case X => assumption
  case T => assumption
  case P => assumption
  case k6 => k_is
  case k7 => k_is
  case k8 => k_room
  case k9 => first | exact BindsTo.of_eq rfl | exact binds_K (Frag.In.keeps (by assumption) (Below.stays (by assumption))) rfl (by k_is) rfl rfl rfl
  case kB => exact locs rfl
  case c5 => decide
  case c6 => exact rfl
  case c7 => exact rfl
  case c8 => exact rfl
  intro g' L' h' tk' KG F' N' B' X' T' l1
  try dsimp only
  refine n_execs_cons (n_Assign_Tuple ?_)
  refine n_Tuple (n_spliced2 ?_)
  refine n_Call_Name ?_
  k_fold
  walk_at "MINE steps"
  (try k_unfold)
  (try dsimp only)
  with_reducible rename Fr _ _ _ _ => F'
  with_reducible rename News _ _ _ _ => N'
  refine n_callWithT0 ?_
  refine' n_ba0 (s := ⟨_, _, _, _, _⟩) F' N' rfl ?_
  clear F' N'
  intro c h' F' N' l2
  k_fold
  (try k_lt l2)
  walk_at "MINE steps"
  (try k_unfold)
  (try dsimp only)
  refine n_execs_nil ?_
  with_reducible rename News _ _ _ _ => N'
  have nb : s.heap.get? c = none := by
    have z := (N' (c, baObj #[]) (by k_mem)).2.2
    cases q : s.heap.get? c with
    | none => rfl
    | some o => rw [KG _ _ q (fun hm => by simp only [List.map_cons, List.map_nil, List.mem_cons, List.not_mem_nil, or_false] at hm; rcases hm with e | e <;> (subst e; omega))] at z; cases z
  refine' h _ _ _ _ _ _ ?k ?f ?g nb
  case f => walk_at "MINE got"
  case g => walk_at "MINE got"
  case k => walk_at "MINE keep"
end
end
local macro_rules | `(tactic| walk_at "MINE ne") => `(tactic| first | with_reducible assumption | exact Df.ne (by with_reducible assumption) | exact Df.ne' (by with_reducible assumption) | exact Ne.symm (by with_reducible assumption) | omega)
local macro_rules | `(tactic| k_ne) => `(tactic| (refine neN ?_; (try dsimp only); first | with_reducible assumption | exact Df.ne (by with_reducible assumption) | exact Df.ne' (by with_reducible assumption) | exact Ne.symm (by with_reducible assumption) | omega))
local macro_rules | `(tactic| walk_at "MINE apart") => `(tactic| ((with_reducible rename Apart _ => hD); simp only [Apart, AllNeN, and_true, true_and] at hD; first
  | obtain ⟨⟨_, _, _, _, _, _⟩, ⟨_, _, _, _, _⟩, ⟨_, _, _, _⟩, ⟨_, _, _⟩, ⟨_, _⟩, _⟩ := hD
  | obtain ⟨⟨_, _, _, _, _⟩, ⟨_, _, _, _⟩, ⟨_, _, _⟩, ⟨_, _⟩, _⟩ := hD
  | obtain ⟨⟨_, _, _, _⟩, ⟨_, _, _⟩, ⟨_, _⟩, _⟩ := hD))
local macro_rules | `(tactic| k_room) => `(tactic| ((try simp only [depth_under_make, depth_under_kw, depth_in1, depth_deeper, depth_caller] at *); (try dsimp only at *); omega))
local macro_rules | `(tactic| walk_at "MINE enter") => `(tactic| (
  refine' enter_c ?B ?X ?T _ ?P ?k6 ?k7 ?k8 ?k9 ?kB ?c5 ?c6 ?c7 ?c8 ?_
  case B => assumption
  case X => assumption
  case T => assumption
  case P => assumption
  case k6 => k_is
  case k7 => k_is
  case k8 => k_room
  case k9 => first | exact BindsTo.of_eq rfl | exact binds_K (Frag.In.keeps (by assumption) (Below.stays (by assumption))) rfl (by k_is) rfl rfl rfl
  case kB => exact locs rfl
  case c5 => decide
  case c6 => exact rfl
  case c7 => exact rfl
  case c8 => exact rfl
  intro g' L' h' tk' KG F' N' B' X' T' l1
  try dsimp only
  k_fold
  (try k_lt l1)))
local macro_rules | `(tactic| walk_at "MINE steps") => `(tactic| repeat' (first | (k_unfold; (try dsimp only)) | (with_reducible refine wpAny_execs_nil ?_) | walk1 | (dsimp only; first | (k_unfold; (try dsimp only)) | walk1)))
local macro_rules | `(tactic| walk_at "MINE sub") => `(tactic| first | exact List.forall_mem_nil _ | (refine List.forall_mem_cons.mpr ⟨?_, ?_⟩; (first | (refine Or.inr ?_; k_mem) | (exact Or.inl (by simp))); walk_at "MINE sub"))
local macro_rules | `(tactic| walk_at "MINE keep") => `(tactic| (refine keep_end (by assumption) (by assumption) (by assumption) (by assumption) ?_; walk_at "MINE sub"))
local macro_rules | `(tactic| walk_at "MINE got") => `(tactic| (refine Eq.trans (News.get (by assumption) (by k_mem)) ?_; first | exact rfl | (simp only [Int.add_zero, Int.zero_add]; done) | (simp only [Int.add_zero, Int.zero_add]; exact rfl)))
local macro_rules | `(tactic| walk_at "getMethod ref") => `(tactic| (k_here; k_dflt (first
  | (refine' ba_getMethod ?hb ba_slot_extend.lookup ba_type_extend ?_; (case hb => exact (News.get (by k_asm) (by k_mem))); k_whole)
  | (refine' ba_getMethod ?hb ba_slot_clear.lookup ba_type_clear ?_; (case hb => exact (News.get (by k_asm) (by k_mem))); k_whole))))
local macro_rules | `(tactic| walk_at "getMethod ref") => `(tactic| (k_here; (with_reducible rename News _ _ _ _ => N'); k_dflt (first
  | ((with_reducible show wpAny _ _ (getMethod (Value.ref _) (Str.ofString "update") _) _ _ _); refine' kob_method PySem.F.slot_dict_update PySem.F.type_dict_update N' ?m (knd := intKind _ _) ?d ?_; (case m => k_mem); (case d => assumption); k_whole)
  | ((with_reducible show wpAny _ _ (getMethod (Value.ref _) (Str.ofString "get") _) _ _ _); refine' kob_method PySem.F.slot_dict_get PySem.F.type_dict_get N' ?m (knd := intKind _ _) ?d ?_; (case m => k_mem); (case d => assumption); k_whole))))
local macro_rules | `(tactic| walk_at "call builtin:len") => `(tactic| (k_here; (with_reducible show wpAny _ _ (call (Value.builtin "len") [Value.ref _]) _ _ _); k_dflt (refine' ba_lenL ?hb ?hz ?_; (case hb => exact (News.get (by k_asm) (by k_mem))); (case hz => omega); k_whole)))
local macro_rules | `(tactic| walk_at "call builtin:len") => `(tactic| (k_here; (with_reducible show wpAny _ _ (call (Value.builtin "len") [Value.bytes (List.toArray _) _]) _ _ _); (refine by_lenL ?_ ?_; ((try simp only [List.length_take, List.length_drop, List.length_append]); omega))))
local macro_rules | `(tactic| walk_at "call type:bytes") => `(tactic| (k_here; k_dflt (first
  | ((with_reducible show wpAny _ _ (call (Value.type "bytes") [Value.ref _]) _ _ _); refine' ba_bytes ?hb ?hz ?_; (case hb => exact (News.get (by k_asm) (by k_mem))); (case hz => (simp only [List.size_toArray, List.length_take, List.length_drop]; omega)); k_whole; intro _)
  | ((with_reducible show wpAny _ _ (call (Value.type "bytes") []) _ _ _); refine bytes_none ?_; intro _))))
local macro_rules | `(tactic| walk_at "subscriptTail") => `(tactic| (k_here; (with_reducible show wpAny _ _ (subscriptTail _ (Expr.Slice _ _ none _) (Value.ref _) (Value.ref _)) _ _ _); (with_reducible rename Fr _ _ _ _ => F'); (with_reducible rename News _ _ _ _ => N'); k_dflt (refine' ba_cut (s := ⟨_, _, _, _, _⟩) F' N' ?hm ?hl ?hu ?h0 ?h1 ?hz ?_; (case hm => k_mem); (case hl => constructor); (case hu => constructor); (case h0 => omega); (case h1 => omega); (case hz => omega); k_whole); intro c' h' F' N' l1; (try k_lt l1); (try k_sweep)))
local macro_rules | `(tactic| walk_at "subscriptTail") => `(tactic| (k_here; (with_reducible show wpAny _ _ (subscriptTail _ (Expr.Slice (some _) (some _) none _) (Value.bytes (List.toArray _) _) (Value.ref _)) _ _ _); (with_reducible rename Fr _ _ _ _ => F'); (with_reducible rename News _ _ _ _ => N'); k_dflt (refine' bs_cut (s := ⟨_, _, _, _, _⟩) F' N' ?hl ?hu ?h0 ?h1 ?hz ?_; (case hl => constructor); (case hu => constructor); (case h0 => omega); (case h1 => omega); (case hz => omega); k_whole); intro h' t' k' r' hr' hl' F' N'; (try k_sweep)))
local macro_rules | `(tactic| walk_at "subscriptTail") => `(tactic| (k_here; (with_reducible show wpAny _ _ (subscriptTail _ (Expr.Slice (some _) none none _) (Value.bytes (List.toArray _) _) (Value.ref _)) _ _ _); (with_reducible rename Fr _ _ _ _ => F'); (with_reducible rename News _ _ _ _ => N'); k_dflt (refine' bs_from (s := ⟨_, _, _, _, _⟩) F' N' ?hl ?hu ?h0 ?hz ?_; (case hl => constructor); (case hu => constructor); (case h0 => omega); (case hz => omega); k_whole); intro h' t' k' r' hr' hl' F' N'; (try k_sweep)))
local macro_rules | `(tactic| walk_at "subscriptTail") => `(tactic| (k_here; (with_reducible show wpAny _ _ (subscriptTail _ (Expr.Slice none (some _) none _) (Value.bytes (List.toArray _) _) (Value.ref _)) _ _ _); (with_reducible rename Fr _ _ _ _ => F'); (with_reducible rename News _ _ _ _ => N'); k_dflt (refine' bs_to (s := ⟨_, _, _, _, _⟩) F' N' ?hl ?hu ?h1 ?hz ?_; (case hl => constructor); (case hu => constructor); (case h1 => omega); (case hz => omega); k_whole); intro h' t' k' r' hr' hl' F' N'; (try k_sweep)))
local macro_rules | `(tactic| walk_at "call ref") => `(tactic| (k_here; (try dsimp only [List.cons_append, List.nil_append]); (with_reducible show wpAny _ _ (call (Value.ref 177) [Value.ref _]) _ _ _); (with_reducible rename Fr _ _ _ _ => F'); (with_reducible rename News _ _ _ _ => N'); k_dflt (refine' tell_K ?B ?X ?T F' N' rfl rfl rfl rfl ?room ?m1 ?m2 ?_; (case B => assumption); (case X => assumption); (case T => assumption); (case room => k_room); (case m1 => k_mem); (case m2 => k_mem); k_whole); intro h' t' F' N'; (try k_sweep)))
local macro_rules | `(tactic| walk_at "call ref") => `(tactic| (k_here; (with_reducible show wpAny _ _ (call (Value.ref 170) [Value.ref _, Value.int _ _]) _ _ _); (with_reducible rename Fr _ _ _ _ => F'); (with_reducible rename News _ _ _ _ => N'); k_dflt (refine' seek0_K ?B ?X ?T F' N' rfl rfl rfl rfl ?room ?m1 ?U ?ne ?_; (case B => assumption); (case X => assumption); (case T => assumption); (case room => k_room); (case m1 => k_mem); (case U => k_updF); (case ne => walk_at "MINE ne"); k_whole); intro h' t' t3' F' N'; (try k_sweep)))
local macro_rules | `(tactic| walk_at "call ref") => `(tactic| (k_here; (with_reducible show wpAny _ _ (call (Value.ref 170) [Value.ref _, Value.int _ _, Value.int _ _]) _ _ _); (with_reducible rename Fr _ _ _ _ => F'); (with_reducible rename News _ _ _ _ => N'); k_dflt (refine' seek2_K ?B ?X ?T F' N' rfl rfl rfl rfl ?room ?m1 ?U ?m3 ?ne ?b1 ?b2 ?hz ?_; (case B => assumption); (case X => assumption); (case T => assumption); (case room => k_room); (case m1 => k_mem); (case U => k_updF); (case m3 => k_mem); (case ne => walk_at "MINE ne"); (case b1 => walk_at "MINE ne"); (case b2 => walk_at "MINE ne"); (case hz => omega); k_whole); intro h' t' t3' F' N'; (try k_sweep)))
local macro_rules | `(tactic| walk_at "call ref") => `(tactic| (k_here; (with_reducible show wpAny _ _ (call (Value.ref 184) [Value.ref _, Value.int _ _]) _ _ _); (with_reducible rename Fr _ _ _ _ => F'); (with_reducible rename News _ _ _ _ => N'); k_dflt (refine' read_K2 ?B ?X ?T F' N' rfl rfl rfl rfl ?room ?m1 ?U ?m3 ?ne ?b1 ?b2 ?hz ?h0 ?hk ?_; (case B => assumption); (case X => assumption); (case T => assumption); (case room => k_room); (case m1 => k_mem); (case U => k_updF); (case m3 => k_mem); (case ne => walk_at "MINE ne"); (case b1 => walk_at "MINE ne"); (case b2 => walk_at "MINE ne"); (case hz => omega); (case h0 => omega); (case hk => omega); k_whole); intro h' t' t3' tr' r' hr' hl' F' N'; (try k_sweep)))
local macro_rules | `(tactic| walk_at "call ref") => `(tactic| (k_here; (try dsimp only [List.cons_append, List.nil_append]); (with_reducible show wpAny _ _ (call (Value.ref 42) [Value.ref _, Value.int _ _, Value.int _ _]) _ _ _); (with_reducible rename Fr _ _ _ _ => F'); (with_reducible rename News _ _ _ _ => N'); k_dflt (first
  | (refine' rff_K ?B ?X ?T F' N' rfl rfl rfl rfl ?room ?m1 ?U ?m3 ?ne ?b1 ?b2 ?hz ?h0 ?hij ?hj ?_; (case B => assumption); (case X => assumption); (case T => assumption); (case room => k_room); (case m1 => k_mem); (case U => k_updF); (case m3 => k_mem); (case ne => walk_at "MINE ne"); (case b1 => walk_at "MINE ne"); (case b2 => walk_at "MINE ne"); (case hz => omega); (case h0 => omega); (case hij => omega); (case hj => omega); k_whole; intro h' t' t3' tr' r' hr' hl' F' N'; (try k_sweep))
  | (refine' rffx_K ?B ?X ?T F' N' rfl rfl rfl rfl ?room ?m1 ?U ?m3 ?ne ?b1 ?b2 ?hz ?h0 ?hij ?hj ?_; (case B => assumption); (case X => assumption); (case T => assumption); (case room => k_room); (case m1 => k_mem); (case U => k_updF); (case m3 => k_mem); (case ne => walk_at "MINE ne"); (case b1 => walk_at "MINE ne"); (case b2 => walk_at "MINE ne"); (case hz => omega); (case h0 => omega); (case hij => omega); (case hj => omega); k_whole; intro h' t' pl' t3' G' e' t'' vs' p0' FG' UG' RG'))))
local macro_rules | `(tactic| walk_at "call ref") => `(tactic| (k_here; (with_reducible show wpAny _ _ (call (Value.ref _) [Value.bytes (List.toArray _) _, Value.str _ _]) _ _ _); kfb_any; k_dflt (refine' from_leK ?N ?hm ?hl ?_; (case N => k_asm); (case hm => k_mem); (case hl => omega); k_whole); intro _ _))
local macro_rules | `(tactic| walk_at "call ref") => `(tactic| (k_here; (with_reducible show wpAny _ _ (call (Value.ref 105) [Value.ref _, Value.int 1 _, Value.int _ _, Value.int _ _]) _ _ _); (with_reducible rename Fr _ _ _ _ => F'); (with_reducible rename News _ _ _ _ => N'); k_dflt (refine' idx1_K ?B ?X ?T F' N' rfl rfl rfl rfl ?room ?m1 ?m2 ?U ?h1 ?h2 ?h3 ?hN ?hz ?_; (case B => assumption); (case X => assumption); (case T => assumption); (case room => k_room); (case m1 => k_mem); (case m2 => k_mem); (case U => k_updF); (case h1 => walk_at "MINE ne"); (case h2 => walk_at "MINE ne"); (case h3 => walk_at "MINE ne"); (case hN => assumption); (case hz => omega); k_whole); intro h' t' o' F' N' hd'; (try k_sweep)))
local macro_rules | `(tactic| walk_at "call ref") => `(tactic| (k_here; (with_reducible show wpAny _ _ (call (Value.ref 105) [Value.ref _, Value.int 2 _, Value.int _ _, Value.int _ _]) _ _ _); (with_reducible rename Fr _ _ _ _ => F'); (with_reducible rename News _ _ _ _ => N'); k_dflt (refine' idx2_K ?B ?X ?T F' N' rfl rfl rfl rfl ?room ?m1 ?U ?U2 ?m4 ?h1 ?h2 ?h3 ?h4 ?h5 ?h6 ?lo ?hN ?hC ?hz ?hz2 ?_; (case B => assumption); (case X => assumption); (case T => assumption); (case room => k_room); (case m1 => k_mem); (case U => k_updF); (case U2 => intro n'; k_updF); (case m4 => k_mem); (case h1 => walk_at "MINE ne"); (case h2 => walk_at "MINE ne"); (case h3 => walk_at "MINE ne"); (case h4 => walk_at "MINE ne"); (case h5 => walk_at "MINE ne"); (case h6 => walk_at "MINE ne"); (case lo => assumption); (case hN => assumption); (case hC => assumption); (case hz => omega); (case hz2 => omega); k_whole); intro h' t' o' n' o2' F' N' hd' hd2' nn' lo'; (try k_sweep)))
local macro_rules | `(tactic| walk_at "call ref") => `(tactic| (k_here; (with_reducible show wpAny _ _ (call (Value.ref 105) [Value.ref _, Value.int 3 _, Value.int _ _, Value.int _ _]) _ _ _); (with_reducible rename Fr _ _ _ _ => F'); (with_reducible rename News _ _ _ _ => N'); k_dflt (refine' idx3_K ?B ?X ?T F' N' rfl rfl rfl rfl ?room ?m1 ?U ?h1 ?_; (case B => assumption); (case X => assumption); (case T => assumption); (case room => k_room); (case m1 => k_mem); (case U => k_updF); (case h1 => walk_at "MINE ne"); k_whole); intro h' t' n' o2' F' N' hd2' nn' lo'; (try k_sweep)))
local macro_rules | `(tactic| walk_at "call ref") => `(tactic| (k_here; (try dsimp only [List.cons_append, List.nil_append]); (with_reducible show wpAny _ _ (call (Value.ref 205) [Value.ref _, Value.int _ _]) _ _ _); (with_reducible rename Fr _ _ _ _ => F'); (with_reducible rename News _ _ _ _ => N'); k_dflt (refine' next_K ?B ?X ?T F' N' rfl rfl rfl rfl ?room ?U ?m2 ?ne ?i0 ?lim ?xs ?xz ?_; (case B => assumption); (case X => assumption); (case T => assumption); (case room => k_room); (case U => k_updF); (case m2 => k_mem); (case ne => walk_at "MINE ne"); (case i0 => assumption); (case lim => first | decide | omega); (case xs => assumption); (case xz => assumption); k_whole); intro h' t' i' ti' c1' r' tr' F' N' i0' r0' r1'; (try k_sweep)))
local macro_rules | `(tactic| walk_at "exec While") => `(tactic| (k_here; k_dflt (refine whl_start 4 ?_)))
local macro_rules | `(tactic| walk_at "exec While Compare") => `(tactic| (k_here; k_dflt (refine whl_start 4 ?_)))
local macro_rules | `(tactic| walk_at "WhlIf") => `(tactic| (first | (refine WhlIf.yes (decide_eq_true (by omega)) ?_) | (refine WhlIf.no (decide_eq_false (by omega)) ?_)))
local macro_rules | `(tactic| walk_at "inplaceOp Add bytes bytes") => `(tactic| (k_here; (refine bytes_iadd ?_ ?_; ((try simp only [List.length_append, List.length_nil]); omega)); intro _ _))
local macro_rules | `(tactic| walk_at "compareOp Eq bytes bytes") => `(tactic| (k_here; (with_reducible show wpAny _ _ (compareOp CmpOp.Eq (Value.bytes (List.toArray _) _) (Value.bytes (List.toArray []) _)) _ _ _); refine bytes_eq_nil ?_))
local macro_rules | `(tactic| walk_at "ite") => `(tactic| (first | (rw [if_pos (by (first | omega | (simp only [decide_eq_true_eq, beq_iff_eq, bne_iff_ne, ne_eq, List.length_append, List.length_nil, Int.natCast_add, Nat.zero_add, not_true_eq_false, not_false_eq_true]; done) | (simp only [decide_eq_true_eq, beq_iff_eq, bne_iff_ne, ne_eq, List.length_append, List.length_nil, Int.natCast_add, Nat.zero_add, not_true_eq_false, not_false_eq_true]; omega)))]) | (rw [if_neg (by (first | omega | (simp only [decide_eq_true_eq, beq_iff_eq, bne_iff_ne, ne_eq, List.length_append, List.length_nil, Int.natCast_add, Nat.zero_add, not_true_eq_false, not_false_eq_true]; done) | (simp only [decide_eq_true_eq, beq_iff_eq, bne_iff_ne, ne_eq, List.length_append, List.length_nil, Int.natCast_add, Nat.zero_add, not_true_eq_false, not_false_eq_true]; omega)))])))
local macro_rules | `(tactic| walk_at "leaving ref") => `(tactic| (k_here; first | (refine' leave_raiseS ?k1 ?k0 ?k2 ?k3 ?_; (case k0 => first | assumption | exact Heap.MadeExc.of (by assumption)); (case k2 => assumption); (case k1 => assumption); (case k3 => k_asm); k_whole; intro h' t' S' R' U'; (try dsimp only at S' R' U' ⊢)) | (refine' leave_onS ?k1 ?k2 ?k3 ?k4 ?_; (case k3 => assumption); (case k2 => assumption); (case k1 => assumption); (case k4 => assumption); k_whole; intro h' S' R' U'; (try dsimp only at S' R' U' ⊢)) | (refine' leave_newS ?k1 ?k0 ?k2 ?k3 ?_; (case k0 => assumption); (case k2 => assumption); (case k1 => assumption); (case k3 => k_asm); k_whole; intro h' S' R' U'; (try dsimp only at S' R' U' ⊢)) | (refine' leave_onSN ?k1 ?k2 ?k3 ?k4 ?_; (case k3 => assumption); (case k2 => assumption); (case k1 => assumption); (case k4 => assumption); k_whole; intro h' S' R' U'; (try dsimp only at S' R' U' ⊢))))
local macro_rules | `(tactic| walk_at "MINE enterN") => `(tactic| (
  refine' enter_n ?B ?X ?T _ ?P ?k6 ?k7 ?k8 ?k9 ?kB ?c5 ?c6 ?c7 ?c8 ?_
  case B => assumption
  case X => assumption
  case T => assumption
  case P => assumption
  case k6 => k_is
  case k7 => k_is
  case k8 => k_room
  case k9 => first | exact BindsTo.of_eq rfl | exact binds_K (Frag.In.keeps (by assumption) (Below.stays (by assumption))) rfl (by k_is) rfl rfl rfl
  case kB => exact locs rfl
  case c5 => decide
  case c6 => exact rfl
  case c7 => exact rfl
  case c8 => exact rfl
  intro g' L' h' tk' KG F' N' B' X' T' l1
  try dsimp only))
local macro_rules | `(tactic| walk_at "MINE nx") => `(tactic| ((try k_unfold); (try dsimp only)))
local macro_rules | `(tactic| walk_at "setItem ref int") => `(tactic| (k_here; (with_reducible rename Fr _ _ _ _ => F'); (with_reducible rename News _ _ _ _ => N'); k_dflt (refine' dict_setK F' N' ?U ?d ?z ?_; (case U => k_updF); (case d => assumption); (case z => omega); k_whole); intro h' o' F' N' hd'; (try k_sweep)))
local macro_rules | `(tactic| walk_at "call type:dict") => `(tactic| (k_here; (with_reducible show wpAny _ _ (call (Value.type "dict") []) _ _ _); (with_reducible rename Fr _ _ _ _ => F'); (with_reducible rename News _ _ _ _ => N'); k_dflt (refine' dict0 F' N' ?b ?_; (case b => exact Top.nolimit (by assumption)); k_whole); intro d' h' o' F' N' l1 lL lo' hd'; (try k_lt l1); (try k_sweep)))
local macro_rules | `(tactic| walk_at "call builtin:dict.update") => `(tactic| (k_here; (with_reducible rename Fr _ _ _ _ => F'); (with_reducible rename News _ _ _ _ => N'); k_dflt (refine' dict_upd F' N' ?U ?d ?m2 ?d2 ?ne ?lo ?z ?_; (case U => k_updF); (case d => assumption); (case m2 => k_mem); (case d2 => assumption); (case ne => walk_at "MINE ne"); (case lo => assumption); (case z => omega); k_whole); intro h' o' F' N' hd'; (try k_sweep)))
local macro_rules | `(tactic| walk_at "call builtin:dict.get") => `(tactic| (k_here; (with_reducible rename News _ _ _ _ => N'); k_dflt (refine' kdg_get1 N' ?m (knd := intKind _ _) ?d ?lo (intKind_is _ _ _ _) _ rfl ?_; (case m => k_mem); (case d => assumption); (case lo => assumption); k_whole)))
local macro_rules | `(tactic| walk_at "call builtin:dict.get") => `(tactic| (k_here; (with_reducible rename News _ _ _ _ => N'); k_dflt (refine' kdg_get1 N' ?m (knd := intKind _ _) ?d ?lo (intKind_is _ _ _ _) _ ?hl ?_; (case m => k_mem); (case d => assumption); (case lo => assumption); (case hl => assumption); k_whole); (try dsimp only [Option.getD_some, Option.getD_none, Option.getD])))
local macro_rules | `(tactic| walk_at "truthy ref") => `(tactic| (k_here; (with_reducible rename News _ _ _ _ => N'); k_dflt (refine' dict_truthy N' ?m ?d ?lo ?z ?_; (case m => k_mem); (case d => assumption); (case lo => assumption); (case z => omega); k_whole)))
local macro_rules | `(tactic| walk_at "MINE go") => `(tactic| (walk_at "MINE enter"; walk_at "MINE steps"))
local macro_rules | `(tactic| walk_at "MINE lts") => `(tactic| first | exact List.forall_mem_nil _ | (refine List.forall_mem_cons.mpr ⟨by ((try dsimp only); omega), ?_⟩; walk_at "MINE lts"))
local macro_rules | `(tactic| walk_at "MINE sub2") => `(tactic| first | exact List.forall_mem_nil _ | (refine List.forall_mem_cons.mpr ⟨⟨_, by k_mem⟩, ?_⟩; walk_at "MINE sub2"))
local macro_rules | `(tactic| walk_at "MINE new") => `(tactic| first
  | (refine new_none (by assumption) (by assumption) (by k_mem) ?_; walk_at "MINE lts")
  | (refine new_none' (by assumption) (by assumption) (by k_mem) (by assumption) ?_; walk_at "MINE sub2"))
local macro_rules | `(tactic| walk_at "call builtin:int.to_bytes") => `(tactic| (k_here; (with_reducible show wpAny _ _ (call (Value.builtin "int.to_bytes") [Value.int _ _, Value.int _ _, Value.str _ _]) _ _ _); (first
  | (with_unfolding_all refine to_leK (k := 4) (B := 4294967296) (by decide) (by decide) (by omega) (by omega) ?_) | (with_unfolding_all refine to_leK (k := 1) (B := 256) (by decide) (by decide) (by omega) (by omega) ?_)); intro _ _))
local macro_rules | `(tactic| walk_at "MINE subs") => `(tactic| first | exact sub_nil | (refine' subC ?sa ?sb; (case sa => k_mem); (case sb => walk_at "MINE subs")))
local macro_rules | `(tactic| walk_at "MINE keepT") => `(tactic| (refine keepT_end (by assumption) (by assumption) (by assumption) (by assumption) (by assumption) ?_; walk_at "MINE sub"))
local macro_rules | `(tactic| walk_at "MINE nm") => `(tactic| first | exact nm_nil | (refine nm_cons (by ((try dsimp only); walk_at "MINE ne")) ?_; walk_at "MINE nm"))
local macro_rules | `(tactic| walk_at "MINE bn") => `(tactic| first | exact (List.forall_mem_nil _) | (refine List.forall_mem_cons.mpr ⟨?_, ?_⟩; (first | exact Or.inl ⟨by k_mem, by walk_at "MINE nm"⟩ | exact Or.inr ⟨by assumption, Or.inl ⟨_, by k_mem⟩⟩ | exact Or.inr ⟨by assumption, Or.inr (by assumption)⟩); walk_at "MINE bn"))
local macro_rules | `(tactic| walk_at "MINE any1") => `(tactic| (refine n_execs_cons (n_any ?_); k_fold; walk_at "MINE steps"; walk_at "MINE nx"))
local macro_rules | `(tactic| walk_at "truthy bytes") => `(tactic| (k_here; (with_reducible show wpAny _ _ (truthy (Value.bytes (List.toArray _) _)) _ _ _); refine truthy_octs (by omega) ?_))
local macro_rules | `(tactic| walk_at "binaryOp Add bytes bytes") => `(tactic| (k_here; (with_reducible show wpAny _ _ (binaryOp Operator.Add (Value.bytes (List.toArray _) _) (Value.bytes (List.toArray _) _)) _ _ _); (refine add_octs ?_ ?_; first | omega | (simp only [leB_length, List.length_append]; omega)); intro _ _))
local macro_rules | `(tactic| walk_at "MINE enterC") => `(tactic| (
  refine' enter_cC ?B ?X ?T _ ?P ?k6 ?k7 ?k8 ?k9 ?kB ?kD ?c6 ?c7 ?c8 ?_
  case B => assumption
  case X => assumption
  case T => assumption
  case P => assumption
  case k6 => k_is
  case k7 => k_is
  case k8 => k_room
  case k9 => first | exact BindsTo.of_eq rfl | exact binds_K (Frag.In.keeps (by assumption) (Below.stays (by assumption))) rfl (by k_is) rfl rfl rfl
  case kB => exact rfl
  case kD => decide +kernel
  case c6 => exact rfl
  case c7 => exact rfl
  case c8 => exact rfl
  intro g' L' h' tk' cells' KG F' N' Y' B' X' T' l1
  (try k_lt l1)
  k_cells Y'
  (try simp only [List.cons_append, List.nil_append] at N')
  (try dsimp only)
  (try k_fold)))
local macro_rules | `(tactic| walk_at "MINE enterNC") => `(tactic| (
  refine' enter_nC ?B ?X ?T _ ?P ?k6 ?k7 ?k8 ?k9 ?kB ?kD ?c6 ?c7 ?c8 ?_
  case B => assumption
  case X => assumption
  case T => assumption
  case P => assumption
  case k6 => k_is
  case k7 => k_is
  case k8 => k_room
  case k9 => first | exact BindsTo.of_eq rfl | exact binds_K (Frag.In.keeps (by assumption) (Below.stays (by assumption))) rfl (by k_is) rfl rfl rfl
  case kB => exact rfl
  case kD => decide +kernel
  case c6 => exact rfl
  case c7 => exact rfl
  case c8 => exact rfl
  intro g' L' h' tk' cells' KG F' N' Y' B' X' T' l1
  (try k_lt l1)
  k_cells Y'
  (try simp only [List.cons_append, List.nil_append] at N')
  (try dsimp only)
  (try k_fold)))
local macro_rules | `(tactic| walk_at "MINE apart14") => `(tactic| ((with_reducible rename Apart _ => hA); simp only [Apart, AllNeN, and_true, true_and] at hA; obtain ⟨⟨_, _, _, _, _, _, _, _, _, _, _, _, _⟩, ⟨_, _, _, _, _, _, _, _, _, _, _, _⟩, ⟨_, _, _, _, _, _, _, _, _, _, _⟩, ⟨_, _, _, _, _, _, _, _, _, _⟩, ⟨_, _, _, _, _, _, _, _, _⟩, ⟨_, _, _, _, _, _, _, _⟩, ⟨_, _, _, _, _, _, _⟩, ⟨_, _, _, _, _, _⟩, ⟨_, _, _, _, _⟩, ⟨_, _, _, _⟩, ⟨_, _, _⟩, ⟨_, _⟩, _⟩ := hA))
local macro_rules | `(tactic| walk_at "MINE apart15") => `(tactic| ((with_reducible rename Apart _ => hA); simp only [Apart, AllNeN, and_true, true_and] at hA; obtain ⟨⟨_, _, _, _, _, _, _, _, _, _, _, _, _, _⟩, ⟨_, _, _, _, _, _, _, _, _, _, _, _, _⟩, ⟨_, _, _, _, _, _, _, _, _, _, _, _⟩, ⟨_, _, _, _, _, _, _, _, _, _, _⟩, ⟨_, _, _, _, _, _, _, _, _, _⟩, ⟨_, _, _, _, _, _, _, _, _⟩, ⟨_, _, _, _, _, _, _, _⟩, ⟨_, _, _, _, _, _, _⟩, ⟨_, _, _, _, _, _⟩, ⟨_, _, _, _, _⟩, ⟨_, _, _, _⟩, ⟨_, _, _⟩, ⟨_, _⟩, _⟩ := hA))
local macro_rules | `(tactic| walk_at "MINE apart16") => `(tactic| ((with_reducible rename Apart _ => hA); simp only [Apart, AllNeN, and_true, true_and] at hA; obtain ⟨⟨_, _, _, _, _, _, _, _, _, _, _, _, _, _, _⟩, ⟨_, _, _, _, _, _, _, _, _, _, _, _, _, _⟩, ⟨_, _, _, _, _, _, _, _, _, _, _, _, _⟩, ⟨_, _, _, _, _, _, _, _, _, _, _, _⟩, ⟨_, _, _, _, _, _, _, _, _, _, _⟩, ⟨_, _, _, _, _, _, _, _, _, _⟩, ⟨_, _, _, _, _, _, _, _, _⟩, ⟨_, _, _, _, _, _, _, _⟩, ⟨_, _, _, _, _, _, _⟩, ⟨_, _, _, _, _, _⟩, ⟨_, _, _, _, _⟩, ⟨_, _, _, _⟩, ⟨_, _, _⟩, ⟨_, _⟩, _⟩ := hA))
local macro_rules | `(tactic| walk_at "MINE apart17") => `(tactic| ((with_reducible rename Apart _ => hA); simp only [Apart, AllNeN, and_true, true_and] at hA; obtain ⟨⟨_, _, _, _, _, _, _, _, _, _, _, _, _, _, _, _⟩, ⟨_, _, _, _, _, _, _, _, _, _, _, _, _, _, _⟩, ⟨_, _, _, _, _, _, _, _, _, _, _, _, _, _⟩, ⟨_, _, _, _, _, _, _, _, _, _, _, _, _⟩, ⟨_, _, _, _, _, _, _, _, _, _, _, _⟩, ⟨_, _, _, _, _, _, _, _, _, _, _⟩, ⟨_, _, _, _, _, _, _, _, _, _⟩, ⟨_, _, _, _, _, _, _, _, _⟩, ⟨_, _, _, _, _, _, _, _⟩, ⟨_, _, _, _, _, _, _⟩, ⟨_, _, _, _, _, _⟩, ⟨_, _, _, _, _⟩, ⟨_, _, _, _⟩, ⟨_, _, _⟩, ⟨_, _⟩, _⟩ := hA))
local macro_rules | `(tactic| walk_at "MINE apart18") => `(tactic| ((with_reducible rename Apart _ => hA); simp only [Apart, AllNeN, and_true, true_and] at hA; obtain ⟨⟨_, _, _, _, _, _, _, _, _, _, _, _, _, _, _, _, _⟩, ⟨_, _, _, _, _, _, _, _, _, _, _, _, _, _, _, _⟩, ⟨_, _, _, _, _, _, _, _, _, _, _, _, _, _, _⟩, ⟨_, _, _, _, _, _, _, _, _, _, _, _, _, _⟩, ⟨_, _, _, _, _, _, _, _, _, _, _, _, _⟩, ⟨_, _, _, _, _, _, _, _, _, _, _, _⟩, ⟨_, _, _, _, _, _, _, _, _, _, _⟩, ⟨_, _, _, _, _, _, _, _, _, _⟩, ⟨_, _, _, _, _, _, _, _, _⟩, ⟨_, _, _, _, _, _, _, _⟩, ⟨_, _, _, _, _, _, _⟩, ⟨_, _, _, _, _, _⟩, ⟨_, _, _, _, _⟩, ⟨_, _, _, _⟩, ⟨_, _, _⟩, ⟨_, _⟩, _⟩ := hA))
local macro_rules | `(tactic| walk_at "MINE apart12") => `(tactic| ((with_reducible rename Apart _ => hA); simp only [Apart, AllNeN, and_true, true_and] at hA; obtain ⟨⟨_, _, _, _, _, _, _, _, _, _, _⟩, ⟨_, _, _, _, _, _, _, _, _, _⟩, ⟨_, _, _, _, _, _, _, _, _⟩, ⟨_, _, _, _, _, _, _, _⟩, ⟨_, _, _, _, _, _, _⟩, ⟨_, _, _, _, _, _⟩, ⟨_, _, _, _, _⟩, ⟨_, _, _, _⟩, ⟨_, _, _⟩, ⟨_, _⟩, _⟩ := hA))
local macro_rules | `(tactic| walk_at "MINE apart8") => `(tactic| ((with_reducible rename Apart _ => hA); simp only [Apart, AllNeN, and_true, true_and] at hA; obtain ⟨⟨_, _, _, _, _, _, _⟩, ⟨_, _, _, _, _, _⟩, ⟨_, _, _, _, _⟩, ⟨_, _, _, _⟩, ⟨_, _, _⟩, ⟨_, _⟩, _⟩ := hA))
local macro_rules | `(tactic| walk_at "MINE apart9") => `(tactic| ((with_reducible rename Apart _ => hA); simp only [Apart, AllNeN, and_true, true_and] at hA; obtain ⟨⟨_, _, _, _, _, _, _, _⟩, ⟨_, _, _, _, _, _, _⟩, ⟨_, _, _, _, _, _⟩, ⟨_, _, _, _, _⟩, ⟨_, _, _, _⟩, ⟨_, _, _⟩, ⟨_, _⟩, _⟩ := hA))
local macro_rules | `(tactic| walk_at "MINE apart10") => `(tactic| ((with_reducible rename Apart _ => hA); simp only [Apart, AllNeN, and_true, true_and] at hA; obtain ⟨⟨_, _, _, _, _, _, _, _, _⟩, ⟨_, _, _, _, _, _, _, _⟩, ⟨_, _, _, _, _, _, _⟩, ⟨_, _, _, _, _, _⟩, ⟨_, _, _, _, _⟩, ⟨_, _, _, _⟩, ⟨_, _, _⟩, ⟨_, _⟩, _⟩ := hA))

/-! ### VOctK -/
theorem fresh14 {M : Model} {A : Around} {env : Env} {Q : Flow → Shared → Prop} {E : Value → Shared → Prop} {s : Shared} (h : Q .next s) : wpAny M A (execs [] env) Q E s := by
  w_top off
  (try walk1)
  all_goals first | exact h | exact wpAny_execs_nil h
section
def Stop (P : Prop) : Prop := P
theorem Stop.go {P : Prop} (h : Stop P) : P := h
section
variable {α : Type} {news : List (Addr × Obj)} {d : Addr} {o : Obj} {g : Obj → List (Addr × Obj)}
theorem updF_mem (U : UpdF d o news g) : (d, o) ∈ news := by
  obtain ⟨pre, post, rfl, _⟩ := U.split
  exact List.mem_append_right _ (.head _)
theorem sub1 {l : List α} {a : α} (h : a ∈ l) : ∀ q ∈ [a], q ∈ l := fun q hq => by rw [List.mem_singleton.mp hq]; exact h
theorem subC {l r : List α} {a : α} (h : a ∈ l) (k : ∀ q ∈ r, q ∈ l) : ∀ q ∈ a :: r, q ∈ l := fun q hq => by
  rcases List.mem_cons.mp hq with rfl | hq
  · exact h
  · exact k q hq
theorem mods1 (h : (d, o) ∈ news) : ∀ a ∈ [d], ∃ o, (a, o) ∈ news := fun a hq => ⟨o, by cases hq with | head => exact h | tail _ x => nomatch x⟩
theorem modsC {r : List Addr} (h : (d, o) ∈ news) (k : ∀ a ∈ r, ∃ o, (a, o) ∈ news) : ∀ a ∈ d :: r, ∃ o, (a, o) ∈ news := fun a hq => by
  cases hq with
  | head => exact ⟨o, h⟩
  | tail _ x => exact k a x
end
section
variable {w : World} {A A₀ : Around} {s : Shared} {base h₀ : Heap} {outer : List Env} {env : Env} {L : Addr} {m : Str → Option Value} {p : Program} {loose : List Str} {mean : ExcName → Option Value} {mg mb : Str → Option Value}
  {x dx b : Addr} {pl : Int} {t1 t2 t3 : Nat} {d : List UInt8} {Q : Value → Shared → Prop} {E : Value → Shared → Prop} {news : List (Addr × Obj)} {g : Obj → List (Addr × Obj)}
theorem tell_K (B : Below A₀ base outer h₀) (X : (Mine.hd.heap_39 w.params).In base) (T : Top p loose mean mg mb base) (F : Fr h₀ L s.heap m) (N : News h₀ L s.heap news)
    (hA : A.frames = some (env :: outer)) (hf : env.frame = some L) (hke : env.scope.kind = .function) (hh : A.handled = none) (hroom : A.depth + 10 < recursionLimit)
    (m1 : (x, instObj 194 dx) ∈ news) (m2 : (dx, octD w.params b pl t1 t2 t3) ∈ news)
    (h : ∀ h' t', Fr h₀ L h' m → News h₀ L h' news → Q (.int pl t3) { s with heap := h', toks := t' }) :
    wpAny (model PySem.Challenge.rw_vq0002_01.row.prog w) A (call (.ref 177) [.ref x]) Q E s :=
  wpAny_call (tell_c (call_below B F hA hf hke) X T hh hroom (call_foot B N hf (subC m1 (sub1 m2))) fun h' t' k => h h' t' (back_fr F N k (fun _ q => nomatch q)) (back_same N k))
theorem seek0_K (B : Below A₀ base outer h₀) (X : (Mine.hd.heap_39 w.params).In base) (T : Top p loose mean mg mb base) (F : Fr h₀ L s.heap m) (N : News h₀ L s.heap news)
    (hA : A.frames = some (env :: outer)) (hf : env.frame = some L) (hke : env.scope.kind = .function) (hh : A.handled = none) (hroom : A.depth + 10 < recursionLimit)
    {q : Int} {tq : Tok} (m1 : (x, instObj 194 dx) ∈ news) (U : UpdF dx (octD w.params b pl t1 t2 t3) news g) (hne : @Ne Nat x dx)
    (h : ∀ h' t' t3', Fr h₀ L h' m → News h₀ L h' (g (octD w.params b q t1 t2 t3')) → Q .none { s with heap := h', toks := t' }) :
    wpAny (model PySem.Challenge.rw_vq0002_01.row.prog w) A (call (.ref 170) [.ref x, .int q tq]) Q E s :=
  wpAny_call (seek0_c (call_below B F hA hf hke) X T hh hroom hne (call_foot B N hf (subC m1 (sub1 (updF_mem U)))) fun h' t' t3' k ho => h h' t' t3' (back_fr F N k (mods1 (updF_mem U))) (back_upd N U k ho))
theorem seek2_K (B : Below A₀ base outer h₀) (X : (Mine.hd.heap_39 w.params).In base) (T : Top p loose mean mg mb base) (F : Fr h₀ L s.heap m) (N : News h₀ L s.heap news)
    (hA : A.frames = some (env :: outer)) (hf : env.frame = some L) (hke : env.scope.kind = .function) (hh : A.handled = none) (hroom : A.depth + 10 < recursionLimit)
    {tq tw : Tok} (m1 : (x, instObj 194 dx) ∈ news) (U : UpdF dx (octD w.params b pl t1 t2 t3) news g) (m3 : (b, baObj d.toArray) ∈ news) (hne : @Ne Nat x dx) (hb1 : @Ne Nat b x) (hb2 : @Ne Nat b dx) (hz : d.length ≤ 1000000)
    (h : ∀ h' t' t3', Fr h₀ L h' m → News h₀ L h' (g (octD w.params b d.length t1 t2 t3')) → Q .none { s with heap := h', toks := t' }) :
    wpAny (model PySem.Challenge.rw_vq0002_01.row.prog w) A (call (.ref 170) [.ref x, .int 0 tq, .int 2 tw]) Q E s :=
  wpAny_call (seek2_c (call_below B F hA hf hke) X T hh hroom hne hb1 hb2 hz (call_foot B N hf (subC m1 (subC (updF_mem U) (sub1 m3)))) fun h' t' t3' k ho => h h' t' t3' (back_fr F N k (mods1 (updF_mem U))) (back_upd N U k ho))
theorem read_K (B : Below A₀ base outer h₀) (X : (Mine.hd.heap_39 w.params).In base) (T : Top p loose mean mg mb base) (F : Fr h₀ L s.heap m) (N : News h₀ L s.heap news)
    (hA : A.frames = some (env :: outer)) (hf : env.frame = some L) (hke : env.scope.kind = .function) (hh : A.handled = none) (hroom : A.depth + 10 < recursionLimit)
    {k : Int} {tk : Tok} (m1 : (x, instObj 194 dx) ∈ news) (U : UpdF dx (octD w.params b pl t1 t2 t3) news g) (m3 : (b, baObj d.toArray) ∈ news) (hne : @Ne Nat x dx) (hb1 : @Ne Nat b x) (hb2 : @Ne Nat b dx) (hz : d.length ≤ 1000000) (h0 : 0 ≤ pl) (hk : 0 ≤ k)
    (h : ∀ h' t' t3' tr, Fr h₀ L h' m → News h₀ L h' (g (octD w.params b (pl + ((d.drop pl.toNat).take ((pl + k).toNat - pl.toNat)).length) t1 t2 t3')) → Q (.bytes ((d.drop pl.toNat).take ((pl + k).toNat - pl.toNat)).toArray tr) { s with heap := h', toks := t' }) :
    wpAny (model PySem.Challenge.rw_vq0002_01.row.prog w) A (call (.ref 184) [.ref x, .int k tk]) Q E s :=
  wpAny_call (read_c (call_below B F hA hf hke) X T hh hroom hne hb1 hb2 hz h0 hk (call_foot B N hf (subC m1 (subC (updF_mem U) (sub1 m3)))) fun h' t' t3' tr kk ho => h h' t' t3' tr (back_fr F N kk (mods1 (updF_mem U))) (back_upd N U kk ho))
theorem read_K2 (B : Below A₀ base outer h₀) (X : (Mine.hd.heap_39 w.params).In base) (T : Top p loose mean mg mb base) (F : Fr h₀ L s.heap m) (N : News h₀ L s.heap news)
    (hA : A.frames = some (env :: outer)) (hf : env.frame = some L) (hke : env.scope.kind = .function) (hh : A.handled = none) (hroom : A.depth + 10 < recursionLimit)
    {k : Int} {tk : Tok} (m1 : (x, instObj 194 dx) ∈ news) (U : UpdF dx (octD w.params b pl t1 t2 t3) news g) (m3 : (b, baObj d.toArray) ∈ news) (hne : @Ne Nat x dx) (hb1 : @Ne Nat b x) (hb2 : @Ne Nat b dx) (hz : d.length ≤ 1000000) (h0 : 0 ≤ pl) (hk : 0 ≤ k)
    (h : ∀ h' t' t3' tr r, r = (d.drop pl.toNat).take ((pl + k).toNat - pl.toNat) → r.length = min ((pl + k).toNat - pl.toNat) (d.length - pl.toNat) → Fr h₀ L h' m → News h₀ L h' (g (octD w.params b (pl + r.length) t1 t2 t3')) → Q (.bytes r.toArray tr) { s with heap := h', toks := t' }) :
    wpAny (model PySem.Challenge.rw_vq0002_01.row.prog w) A (call (.ref 184) [.ref x, .int k tk]) Q E s :=
  read_K B X T F N hA hf hke hh hroom m1 U m3 hne hb1 hb2 hz h0 hk fun h' t' t3' tr F' N' => h h' t' t3' tr _ rfl (by rw [List.length_take, List.length_drop]) F' N'
theorem bytes_noI_add : typeLookup (.type "bytes") (dunderI "add") = pure none := by rw [typeLookup_type, builtinLookup_eq_fast]; kernel_rfl
theorem bytes_iadd {pr : Program} {b c : List UInt8} {t u : Tok} (hsz : b.length + c.length ≤ 16777216) (h : ∀ t' k, Q (.bytes (b ++ c).toArray t') { s with toks := k }) :
    wpAny (model pr w) A (inplaceOp .Add (.bytes b.toArray t) (.bytes c.toArray u)) Q E s := by
  have hsz : b.toArray.size + c.toArray.size ≤ 16777216 := by rw [List.size_toArray, List.size_toArray]; exact hsz
  refine iconcat_gives (typeIs_bytes s _ t) (typeIs_bytes s _ u) bytes_noI_add KBy.noFill_bytes_add KBy.seq_bytes_add FB.slot_bytes_add FB.entry_bytes_add (FB.args_bytes_add_2 _ _) (KBy.gives_bytes_add (KBy.tooLong_not hsz)) ?_
  by_cases hb : b.toArray.isEmpty = true
  · rw [if_pos hb]
    have e : b = [] := by simpa using hb
    subst e
    exact h u s.toks
  · rw [if_neg hb]
    by_cases hc : c.toArray.isEmpty = true
    · rw [if_pos hc]
      have e : c = [] := by simpa using hc
      subst e
      rw [List.append_nil] at h
      exact h t s.toks
    · rw [if_neg hc]
      exact ⟨by rw [Array.size_append, sizeLine_eq]; exact hsz, by rw [List.append_toArray]; exact h s.toks (s.toks + 1)⟩
theorem bytes_eq_nil {pr : Program} {b : List UInt8} {t u : Tok} (h : Q (.bool (decide (b.length = 0))) s) : wpAny (model pr w) A (compareOp .Eq (.bytes b.toArray t) (.bytes [].toArray u)) Q E s := by
  refine eq_bytes ?_
  have e : (b.toArray.toList == ([] : List UInt8).toArray.toList) = decide (b.length = 0) := by cases b <;> rfl
  rw [e]; exact h
end

section
variable {prog : Program} {w : World} {A : Around} {E : Value → Shared → Prop} {s : Shared} {h₀ : Heap} {L : Addr} {m : Str → Option Value} {news : List (Addr × Obj)} {d : List UInt8} {t : Tok} {value slice : Expr} {l u : Value} {Q : Value → Shared → Prop}
theorem bs_any {lo hi : Option Int} (hF : Fr h₀ L s.heap m) (hN : News h₀ L s.heap news) (hl : IsPart l lo) (hu : IsPart u hi) (hz : d.length ≤ 16777216)
    (h : ∀ h' t' k, Fr h₀ L h' m → News h₀ L h' news → Q (.bytes ((d.drop (lo.elim 0 (clipAt d.length))).take (hi.elim d.length (clipAt d.length) - lo.elim 0 (clipAt d.length))).toArray t') { s with heap := h', toks := k })
    (hs : subscripted slice false (.bytes d.toArray t) (.ref s.heap.objs.size) = operate [.ref s.heap.objs.size, .bytes d.toArray t] (getItem (.bytes d.toArray t) (.ref s.heap.objs.size)) := by with_unfolding_all rfl)
    (ht : ∀ r, letTemporaryGo value (.bytes d.toArray t) r = pure () := by intro _; with_unfolding_all rfl) :
    wpAny (model prog w) A (subscriptTail value slice (.bytes d.toArray t) (.ref s.heap.objs.size)) Q E { s with heap := s.heap.push (slObj l u) } := by
  refine KBc.slice_K (ks := KBw.bInts d.toArray) hF hN rfl hl hu (by rw [KBw.ints_length, List.size_toArray]; exact hz) (fun h' t' k F' N' _ => ?_) hs ht
  have := h h' t' k F' N'
  rw [KBc.picked_eq, List.size_toArray]
  exact this
theorem clip_nat {n : Nat} {i : Int} (h : 0 ≤ i) : clipAt n i = min i.toNat n := by unfold clipAt; omega
theorem cut_eq {d : List UInt8} {a b : Nat} : (d.drop (min a d.length)).take (min b d.length - min a d.length) = (d.drop a).take (b - a) := by
  rcases Nat.le_total a d.length with q | q
  · rw [Nat.min_eq_left q]
    rcases Nat.le_total b d.length with r | r
    · rw [Nat.min_eq_left r]
    · rw [Nat.min_eq_right r, List.take_of_length_le (by rw [List.length_drop]; omega), List.take_of_length_le (by rw [List.length_drop]; omega)]
  · rw [Nat.min_eq_right q, List.drop_eq_nil_of_le (Nat.le_refl _), List.drop_eq_nil_of_le q, List.take_nil, List.take_nil]
theorem bs_cut {lo hi : Int} (hF : Fr h₀ L s.heap m) (hN : News h₀ L s.heap news) (hl : IsPart l (some lo)) (hu : IsPart u (some hi)) (h0 : 0 ≤ lo) (h1 : 0 ≤ hi) (hz : d.length ≤ 16777216)
    (h : ∀ h' t' k r, r = (d.drop lo.toNat).take (hi.toNat - lo.toNat) → r.length = min (hi.toNat - lo.toNat) (d.length - lo.toNat) → Fr h₀ L h' m → News h₀ L h' news → Q (.bytes r.toArray t') { s with heap := h', toks := k })
    (hs : subscripted slice false (.bytes d.toArray t) (.ref s.heap.objs.size) = operate [.ref s.heap.objs.size, .bytes d.toArray t] (getItem (.bytes d.toArray t) (.ref s.heap.objs.size)) := by with_unfolding_all rfl)
    (ht : ∀ r, letTemporaryGo value (.bytes d.toArray t) r = pure () := by intro _; with_unfolding_all rfl) :
    wpAny (model prog w) A (subscriptTail value slice (.bytes d.toArray t) (.ref s.heap.objs.size)) Q E { s with heap := s.heap.push (slObj l u) } :=
  bs_any hF hN hl hu hz (fun h' t' k F' N' => by
    simp only [Option.elim, clip_nat h0, clip_nat h1, cut_eq]
    exact h h' t' k _ rfl (by rw [List.length_take, List.length_drop]) F' N') hs ht
theorem bs_from {lo : Int} (hF : Fr h₀ L s.heap m) (hN : News h₀ L s.heap news) (hl : IsPart l (some lo)) (hu : IsPart u none) (h0 : 0 ≤ lo) (hz : d.length ≤ 16777216)
    (h : ∀ h' t' k r, r = d.drop lo.toNat → r.length = d.length - lo.toNat → Fr h₀ L h' m → News h₀ L h' news → Q (.bytes r.toArray t') { s with heap := h', toks := k })
    (hs : subscripted slice false (.bytes d.toArray t) (.ref s.heap.objs.size) = operate [.ref s.heap.objs.size, .bytes d.toArray t] (getItem (.bytes d.toArray t) (.ref s.heap.objs.size)) := by with_unfolding_all rfl)
    (ht : ∀ r, letTemporaryGo value (.bytes d.toArray t) r = pure () := by intro _; with_unfolding_all rfl) :
    wpAny (model prog w) A (subscriptTail value slice (.bytes d.toArray t) (.ref s.heap.objs.size)) Q E { s with heap := s.heap.push (slObj l u) } :=
  bs_any hF hN hl hu hz (fun h' t' k F' N' => by
    have e : (d.drop (min lo.toNat d.length)).take (d.length - min lo.toNat d.length) = d.drop lo.toNat := by
      have := @cut_eq d lo.toNat d.length
      rw [Nat.min_self] at this
      rw [this, List.take_of_length_le (by rw [List.length_drop]; omega)]
    simp only [Option.elim, clip_nat h0, e]
    exact h h' t' k _ rfl (by rw [List.length_drop]) F' N') hs ht
theorem bs_to {hi : Int} (hF : Fr h₀ L s.heap m) (hN : News h₀ L s.heap news) (hl : IsPart l none) (hu : IsPart u (some hi)) (h1 : 0 ≤ hi) (hz : d.length ≤ 16777216)
    (h : ∀ h' t' k r, r = d.take hi.toNat → r.length = min hi.toNat d.length → Fr h₀ L h' m → News h₀ L h' news → Q (.bytes r.toArray t') { s with heap := h', toks := k })
    (hs : subscripted slice false (.bytes d.toArray t) (.ref s.heap.objs.size) = operate [.ref s.heap.objs.size, .bytes d.toArray t] (getItem (.bytes d.toArray t) (.ref s.heap.objs.size)) := by with_unfolding_all rfl)
    (ht : ∀ r, letTemporaryGo value (.bytes d.toArray t) r = pure () := by intro _; with_unfolding_all rfl) :
    wpAny (model prog w) A (subscriptTail value slice (.bytes d.toArray t) (.ref s.heap.objs.size)) Q E { s with heap := s.heap.push (slObj l u) } :=
  bs_any hF hN hl hu hz (fun h' t' k F' N' => by
    have e : (d.drop 0).take (min hi.toNat d.length - 0) = d.take hi.toNat := by
      rw [List.drop_zero, Nat.sub_zero]
      rcases Nat.le_total hi.toNat d.length with r | r
      · rw [Nat.min_eq_left r]
      · rw [Nat.min_eq_right r, List.take_of_length_le (Nat.le_refl _), List.take_of_length_le r]
    simp only [Option.elim, clip_nat h1, e]
    exact h h' t' k _ rfl (by rw [List.length_take]) F' N') hs ht
end
end
local macro_rules | `(tactic| walk_at "call ref") => `(tactic| (k_here; (try dsimp only [List.cons_append, List.nil_append]); (with_reducible show wpAny _ _ (call (Value.ref 177) [Value.ref _]) _ _ _); (with_reducible rename Fr _ _ _ _ => F'); (with_reducible rename News _ _ _ _ => N'); k_dflt (refine' tell_K ?B ?X ?T F' N' rfl rfl rfl rfl ?room ?m1 ?m2 ?_; (case B => assumption); (case X => assumption); (case T => assumption); (case room => k_room); (case m1 => k_mem); (case m2 => k_mem); k_whole); intro h' t' F' N'; (try k_sweep)))
local macro_rules | `(tactic| walk_at "call ref") => `(tactic| (k_here; (with_reducible show wpAny _ _ (call (Value.ref 170) [Value.ref _, Value.int _ _]) _ _ _); (with_reducible rename Fr _ _ _ _ => F'); (with_reducible rename News _ _ _ _ => N'); k_dflt (refine' seek0_K ?B ?X ?T F' N' rfl rfl rfl rfl ?room ?m1 ?U ?ne ?_; (case B => assumption); (case X => assumption); (case T => assumption); (case room => k_room); (case m1 => k_mem); (case U => k_updF); (case ne => walk_at "MINE ne"); k_whole); intro h' t' t3' F' N'; (try k_sweep)))
local macro_rules | `(tactic| walk_at "call ref") => `(tactic| (k_here; (with_reducible show wpAny _ _ (call (Value.ref 170) [Value.ref _, Value.int _ _, Value.int _ _]) _ _ _); (with_reducible rename Fr _ _ _ _ => F'); (with_reducible rename News _ _ _ _ => N'); k_dflt (refine' seek2_K ?B ?X ?T F' N' rfl rfl rfl rfl ?room ?m1 ?U ?m3 ?ne ?b1 ?b2 ?hz ?_; (case B => assumption); (case X => assumption); (case T => assumption); (case room => k_room); (case m1 => k_mem); (case U => k_updF); (case m3 => k_mem); (case ne => walk_at "MINE ne"); (case b1 => walk_at "MINE ne"); (case b2 => walk_at "MINE ne"); (case hz => omega); k_whole); intro h' t' t3' F' N'; (try k_sweep)))
local macro_rules | `(tactic| walk_at "call ref") => `(tactic| (k_here; (with_reducible show wpAny _ _ (call (Value.ref 184) [Value.ref _, Value.int _ _]) _ _ _); (with_reducible rename Fr _ _ _ _ => F'); (with_reducible rename News _ _ _ _ => N'); k_dflt (refine' read_K2 ?B ?X ?T F' N' rfl rfl rfl rfl ?room ?m1 ?U ?m3 ?ne ?b1 ?b2 ?hz ?h0 ?hk ?_; (case B => assumption); (case X => assumption); (case T => assumption); (case room => k_room); (case m1 => k_mem); (case U => k_updF); (case m3 => k_mem); (case ne => walk_at "MINE ne"); (case b1 => walk_at "MINE ne"); (case b2 => walk_at "MINE ne"); (case hz => omega); (case h0 => omega); (case hk => omega); k_whole); intro h' t' t3' tr' r' hr' hl' F' N'; (try k_sweep)))
local macro_rules | `(tactic| walk_at "call ref") => `(tactic| (k_here; (try dsimp only [List.cons_append, List.nil_append]); (with_reducible show wpAny _ _ (call (Value.ref 42) [Value.ref _, Value.int _ _, Value.int _ _]) _ _ _); (with_reducible rename Fr _ _ _ _ => F'); (with_reducible rename News _ _ _ _ => N'); k_dflt (first
  | (refine' rff_K ?B ?X ?T F' N' rfl rfl rfl rfl ?room ?m1 ?U ?m3 ?ne ?b1 ?b2 ?hz ?h0 ?hij ?hj ?_; (case B => assumption); (case X => assumption); (case T => assumption); (case room => k_room); (case m1 => k_mem); (case U => k_updF); (case m3 => k_mem); (case ne => walk_at "MINE ne"); (case b1 => walk_at "MINE ne"); (case b2 => walk_at "MINE ne"); (case hz => omega); (case h0 => omega); (case hij => omega); (case hj => omega); k_whole; intro h' t' t3' tr' r' hr' hl' F' N'; (try k_sweep))
  | (refine' rffx_K ?B ?X ?T F' N' rfl rfl rfl rfl ?room ?m1 ?U ?m3 ?ne ?b1 ?b2 ?hz ?h0 ?hij ?hj ?_; (case B => assumption); (case X => assumption); (case T => assumption); (case room => k_room); (case m1 => k_mem); (case U => k_updF); (case m3 => k_mem); (case ne => walk_at "MINE ne"); (case b1 => walk_at "MINE ne"); (case b2 => walk_at "MINE ne"); (case hz => omega); (case h0 => omega); (case hij => omega); (case hj => omega); k_whole; intro h' t' pl' t3' G' e' t'' vs' p0' FG' UG' RG'))))
local macro_rules | `(tactic| walk_at "call ref") => `(tactic| (k_here; (with_reducible show wpAny _ _ (call (Value.ref _) [Value.bytes (List.toArray _) _, Value.str _ _]) _ _ _); kfb_any; k_dflt (refine' from_leK ?N ?hm ?hl ?_; (case N => k_asm); (case hm => k_mem); (case hl => omega); k_whole); intro _ _))
local macro_rules | `(tactic| walk_at "call ref") => `(tactic| (k_here; (with_reducible show wpAny _ _ (call (Value.ref 105) [Value.ref _, Value.int 1 _, Value.int _ _, Value.int _ _]) _ _ _); (with_reducible rename Fr _ _ _ _ => F'); (with_reducible rename News _ _ _ _ => N'); k_dflt (refine' idx1_K ?B ?X ?T F' N' rfl rfl rfl rfl ?room ?m1 ?m2 ?U ?h1 ?h2 ?h3 ?hN ?hz ?_; (case B => assumption); (case X => assumption); (case T => assumption); (case room => k_room); (case m1 => k_mem); (case m2 => k_mem); (case U => k_updF); (case h1 => walk_at "MINE ne"); (case h2 => walk_at "MINE ne"); (case h3 => walk_at "MINE ne"); (case hN => assumption); (case hz => omega); k_whole); intro h' t' o' F' N' hd'; (try k_sweep)))
local macro_rules | `(tactic| walk_at "call ref") => `(tactic| (k_here; (with_reducible show wpAny _ _ (call (Value.ref 105) [Value.ref _, Value.int 2 _, Value.int _ _, Value.int _ _]) _ _ _); (with_reducible rename Fr _ _ _ _ => F'); (with_reducible rename News _ _ _ _ => N'); k_dflt (refine' idx2_K ?B ?X ?T F' N' rfl rfl rfl rfl ?room ?m1 ?U ?U2 ?m4 ?h1 ?h2 ?h3 ?h4 ?h5 ?h6 ?lo ?hN ?hC ?hz ?hz2 ?_; (case B => assumption); (case X => assumption); (case T => assumption); (case room => k_room); (case m1 => k_mem); (case U => k_updF); (case U2 => intro n'; k_updF); (case m4 => k_mem); (case h1 => walk_at "MINE ne"); (case h2 => walk_at "MINE ne"); (case h3 => walk_at "MINE ne"); (case h4 => walk_at "MINE ne"); (case h5 => walk_at "MINE ne"); (case h6 => walk_at "MINE ne"); (case lo => assumption); (case hN => assumption); (case hC => assumption); (case hz => omega); (case hz2 => omega); k_whole); intro h' t' o' n' o2' F' N' hd' hd2' nn' lo'; (try k_sweep)))
local macro_rules | `(tactic| walk_at "call ref") => `(tactic| (k_here; (with_reducible show wpAny _ _ (call (Value.ref 105) [Value.ref _, Value.int 3 _, Value.int _ _, Value.int _ _]) _ _ _); (with_reducible rename Fr _ _ _ _ => F'); (with_reducible rename News _ _ _ _ => N'); k_dflt (refine' idx3_K ?B ?X ?T F' N' rfl rfl rfl rfl ?room ?m1 ?U ?h1 ?_; (case B => assumption); (case X => assumption); (case T => assumption); (case room => k_room); (case m1 => k_mem); (case U => k_updF); (case h1 => walk_at "MINE ne"); k_whole); intro h' t' n' o2' F' N' hd2' nn' lo'; (try k_sweep)))
local macro_rules | `(tactic| walk_at "call ref") => `(tactic| (k_here; (try dsimp only [List.cons_append, List.nil_append]); (with_reducible show wpAny _ _ (call (Value.ref 205) [Value.ref _, Value.int _ _]) _ _ _); (with_reducible rename Fr _ _ _ _ => F'); (with_reducible rename News _ _ _ _ => N'); k_dflt (refine' next_K ?B ?X ?T F' N' rfl rfl rfl rfl ?room ?U ?m2 ?ne ?i0 ?lim ?xs ?xz ?_; (case B => assumption); (case X => assumption); (case T => assumption); (case room => k_room); (case U => k_updF); (case m2 => k_mem); (case ne => walk_at "MINE ne"); (case i0 => assumption); (case lim => first | decide | omega); (case xs => assumption); (case xz => assumption); k_whole); intro h' t' i' ti' c1' r' tr' F' N' i0' r0' r1'; (try k_sweep)))
local macro_rules | `(tactic| walk_at "inplaceOp Add bytes bytes") => `(tactic| (k_here; (refine bytes_iadd ?_ ?_; ((try simp only [List.length_append, List.length_nil]); omega)); intro _ _))
local macro_rules | `(tactic| walk_at "compareOp Eq bytes bytes") => `(tactic| (k_here; (with_reducible show wpAny _ _ (compareOp CmpOp.Eq (Value.bytes (List.toArray _) _) (Value.bytes (List.toArray []) _)) _ _ _); refine bytes_eq_nil ?_))
local macro_rules | `(tactic| walk_at "subscriptTail") => `(tactic| (k_here; (with_reducible show wpAny _ _ (subscriptTail _ (Expr.Slice (some _) (some _) none _) (Value.bytes (List.toArray _) _) (Value.ref _)) _ _ _); (with_reducible rename Fr _ _ _ _ => F'); (with_reducible rename News _ _ _ _ => N'); k_dflt (refine' bs_cut (s := ⟨_, _, _, _, _⟩) F' N' ?hl ?hu ?h0 ?h1 ?hz ?_; (case hl => constructor); (case hu => constructor); (case h0 => omega); (case h1 => omega); (case hz => omega); k_whole); intro h' t' k' r' hr' hl' F' N'; (try k_sweep)))
local macro_rules | `(tactic| walk_at "subscriptTail") => `(tactic| (k_here; (with_reducible show wpAny _ _ (subscriptTail _ (Expr.Slice (some _) none none _) (Value.bytes (List.toArray _) _) (Value.ref _)) _ _ _); (with_reducible rename Fr _ _ _ _ => F'); (with_reducible rename News _ _ _ _ => N'); k_dflt (refine' bs_from (s := ⟨_, _, _, _, _⟩) F' N' ?hl ?hu ?h0 ?hz ?_; (case hl => constructor); (case hu => constructor); (case h0 => omega); (case hz => omega); k_whole); intro h' t' k' r' hr' hl' F' N'; (try k_sweep)))
local macro_rules | `(tactic| walk_at "subscriptTail") => `(tactic| (k_here; (with_reducible show wpAny _ _ (subscriptTail _ (Expr.Slice none (some _) none _) (Value.bytes (List.toArray _) _) (Value.ref _)) _ _ _); (with_reducible rename Fr _ _ _ _ => F'); (with_reducible rename News _ _ _ _ => N'); k_dflt (refine' bs_to (s := ⟨_, _, _, _, _⟩) F' N' ?hl ?hu ?h1 ?hz ?_; (case hl => constructor); (case hu => constructor); (case h1 => omega); (case hz => omega); k_whole); intro h' t' k' r' hr' hl' F' N'; (try k_sweep)))
local macro_rules | `(tactic| walk_at "MINE subs") => `(tactic| first | exact sub_nil | (refine' subC ?sa ?sb; (case sa => k_mem); (case sb => walk_at "MINE subs")))

/-! ### VRead -/
theorem fresh15 {M : Model} {A : Around} {env : Env} {Q : Flow → Shared → Prop} {E : Value → Shared → Prop} {s : Shared} (h : Q .next s) : wpAny M A (execs [] env) Q E s := by
  w_top off
  (try walk1)
  all_goals first | exact h | exact wpAny_execs_nil h
section
section
variable {w : World} {A : Around} {s : Shared} {base : Heap} {outer : List Env} {p : Program} {loose : List Str} {mean : ExcName → Option Value} {mg mb : Str → Option Value} {R : Result → Shared → Prop}
  {x dx b : Addr} {pl : Int} {t1 t2 t3 : Nat} {d : List UInt8}

theorem rff_c (B : Below A base outer s.heap) (X : (Mine.hd.heap_39 w.params).In base) (T : Top p loose mean mg mb base) (hh : A.handled = none) (hroom : A.depth + 20 < recursionLimit)
    (hne : @Ne Nat x dx) (hb1 : @Ne Nat b x) (hb2 : @Ne Nat b dx) (hz : d.length ≤ 1000000) {a k : Nat} {ta tk : Tok} (hk : 0 < k) (hin : a + k ≤ d.length) (P : Foot base outer s.heap [(x, instObj 194 dx), (dx, octD w.params b pl t1 t2 t3), (b, baObj d.toArray)])
    (h : ∀ h' t' t3' tr, Keep [dx] s.heap h' → h'.get? dx = some (octD w.params b (a + k : Int) t1 t2 t3') → R (.ok (.ret (.bytes ((d.drop a).take k).toArray tr))) { s with heap := h', toks := t' }) :
    codeAny (model PySem.Challenge.rw_vq0002_01.row.prog w) A (.call (.ref 42) ⟨[.ref x, .int a ta, .int (a + k : Int) tk], []⟩) R s := by
  obtain ⟨hd, dp, fr, gs, u⟩ := A
  obtain rfl := B.stack
  obtain rfl := hh
  revert X
  k_fill
  intro X
  walk_at "MINE enter"
  walk_at "MINE steps"
  with_reducible rename _ = List.take _ _ => hr
  rw [List.nil_append, hr, Int.toNat_natCast, show ((a : Int) + ((a : Int) + k - a)).toNat - a = k by omega]
  refine' h _ _ _ _ ?q2 ?q3
  case q3 =>
    refine Eq.trans (News.get (by assumption) (by k_mem)) ?_
    (with_reducible rename _ = min _ _ => hl)
    rw [show ((_ : List UInt8).length : Int) = (k : Int) by omega]
  case q2 => walk_at "MINE keep"

theorem rffx_c (B : Below A base outer s.heap) (X : (Mine.hd.heap_39 w.params).In base) (T : Top p loose mean mg mb base) (hh : A.handled = none) (hroom : A.depth + 20 < recursionLimit)
    (hne : @Ne Nat x dx) (hb1 : @Ne Nat b x) (hb2 : @Ne Nat b dx) (hz : d.length ≤ 1000000) {a k : Nat} {ta tk : Tok} (hk : 0 < k) (hin : d.length < a + k) (P : Foot base outer s.heap [(x, instObj 194 dx), (dx, octD w.params b pl t1 t2 t3), (b, baObj d.toArray)])
    (h : ∀ h' t' g pl' t3' e t vs, 0 ≤ pl' → Keep [x, dx, b] s.heap g → RaisedS base g outer e (.ref 24) t vs [(x, instObj 194 dx), (dx, octD w.params b pl' t1 t2 t3'), (b, baObj d.toArray)] h' → g.UpToSlots h' → R (.error (.ref e)) { s with heap := h', toks := t' }) :
    codeAny (model PySem.Challenge.rw_vq0002_01.row.prog w) A (.call (.ref 42) ⟨[.ref x, .int a ta, .int (a + k : Int) tk], []⟩) R s := by
  obtain ⟨hd, dp, fr, gs, u⟩ := A
  obtain rfl := B.stack
  obtain rfl := hh
  revert X
  k_fill
  intro X
  walk_at "MINE enter"
  rcases Nat.lt_or_ge a d.length with hl | hl
  all_goals (walk_at "MINE steps")
  all_goals (with_reducible rename RaisedS _ _ _ _ _ _ _ _ _ => S'; with_reducible rename Keep _ _ _ => KG; with_reducible rename Heap.UpToSlots _ _ => U'; exact h _ _ _ _ _ _ _ _ (by omega) (KG.mono (by simp)) S' U')
end
end

/-! ### VWrite -/
theorem fresh16 {M : Model} {A : Around} {env : Env} {Q : Flow → Shared → Prop} {E : Value → Shared → Prop} {s : Shared} (h : Q .next s) : wpAny M A (execs [] env) Q E s := by
  w_top off
  (try walk1)
  all_goals first | exact h | exact wpAny_execs_nil h
section
theorem n_mcall1 {K : Frag} {M : Model} {A : Around} {E : Value → Shared → Prop} {s : Shared} {env : Env} {o e : Expr} {name : Str} {apos pos : Pos} {Q : Value → Shared → Prop} {pl : Sem Bool}
    (h : wpAny M A (eval o env) (fun ov s₁ => wpAny M A (getMethod ov name pl) (fun fx s₂ => wpAny M A (eval e env) (fun v s₃ => K.In s₃.heap ∧ keepIn K fx.1 = true ∧ wpN M A (call fx.1 (fx.2 ++ [v])) Q E s₃) E s₂) E s₁) E s)
    (he : eval (.Call (.Attribute o name apos) [e] [] pos) env = (do
      let ov ← eval o env
      standAt apos.atName
      let (f, first) ← holding [ov] (getMethod ov name pl)
      callWith pos f first (backTo pos (starEach [e] env)) (backToKw pos (keywordEach [] env))) := by rfl)
    (hst : starEach [e] env = [(false, eval e env)] := by rfl) :
    wpN M A (eval (.Call (.Attribute o name apos) [e] [] pos) env) Q E s := by
  refine n_methodCall (wpAny_mono h (fun ov s₁ h₁ => wpAny_mono h₁ (fun fx s₂ h₂ => ?_) fun _ _ x => x) fun _ _ x => x) he
  refine n_callWith_of (P := fun h => K.In h ∧ keepIn K fx.1 = true) (by rw [hst]; rfl) (fun h z => keeps_K z.2 h z.1) ?_
  rw [hst]
  exact n_evalArgs (n_spliced_cons (n_any (wpAny_mono h₂ (fun v s₃ h₃ => n_spliced_nil ⟨⟨h₃.1, h₃.2.1⟩, h₃.2.2⟩) fun _ _ x => x)))

section
variable {h₀ h h' : Heap} {L : Addr} {m : Str → Option Value} {news : List (Addr × Obj)} {d b : Addr} {o o' ob ob' : Obj} {g g2 : Obj → List (Addr × Obj)} {mod : List Addr}
theorem updF_mem_of (U : UpdF d o news g) {q : Addr × Obj} (h : q ∈ g o') (hne : q.1 ≠ d) : q ∈ news := by
  obtain ⟨pre, post, rfl, hg, _⟩ := U.split
  rw [hg] at h
  rcases List.mem_append.mp h with z | z
  · exact List.mem_append_left _ z
  · rcases List.mem_cons.mp z with rfl | z
    · exact absurd rfl hne
    · exact List.mem_append_right _ (.tail _ z)
theorem updF_at (U : UpdF d o news g) {q : Addr × Obj} (h : q ∈ g o') (he : q.1 = d) : q = (d, o') := by
  obtain ⟨pre, post, rfl, hg, a, b⟩ := U.split
  rw [hg] at h
  rcases List.mem_append.mp h with z | z
  · exact absurd he (a _ z)
  · rcases List.mem_cons.mp z with rfl | z
    · rfl
    · exact absurd he (b _ z)
theorem back_upd2 (N : News h₀ L h news) (U : UpdF d o news g) (U2 : UpdF b ob (g o') g2) (k : Keep [d, b] h h') (hne : d ≠ b) (h1 : h'.get? d = some o') (h2 : h'.get? b = some ob') : News h₀ L h' (g2 ob') := by
  intro q hq
  by_cases cb : q.1 = b
  · have e := updF_at U2 hq cb
    subst e
    exact ⟨h2, (N _ (updF_mem_of U (updF_mem U2) (fun z => hne z.symm))).2⟩
  · have q1 := updF_mem_of U2 hq cb
    by_cases cd : q.1 = d
    · have e := updF_at U q1 cd
      subst e
      exact ⟨h1, (N _ (updF_mem U)).2⟩
    · have q2 := updF_mem_of U q1 cd
      refine ⟨k _ _ (N _ q2).1 fun z => ?_, (N _ q2).2⟩
      rcases List.mem_cons.mp z with z | z
      · exact cd z
      · exact cb (List.mem_singleton.mp z)
theorem updF_other (U : UpdF d o news g) (m : (b, ob) ∈ news) (hne : b ≠ d) : (b, ob) ∈ g o' := by
  obtain ⟨pre, post, rfl, hg, _⟩ := U.split
  rw [hg]
  rcases List.mem_append.mp m with z | z
  · exact List.mem_append_left _ z
  · rcases List.mem_cons.mp z with z | z
    · cases z; exact absurd rfl hne
    · exact List.mem_append_right _ (.tail _ z)
end
section
variable {w : World} {A A₀ : Around} {s : Shared} {base h₀ : Heap} {outer : List Env} {env : Env} {L : Addr} {m : Str → Option Value} {p : Program} {loose : List Str} {mean : ExcName → Option Value} {mg mb : Str → Option Value}
  {x dx b : Addr} {t1 t2 t3 : Nat} {d : List UInt8} {Q : Value → Shared → Prop} {E : Value → Shared → Prop} {news : List (Addr × Obj)} {g : Obj → List (Addr × Obj)} {g2 : Tok → Obj → List (Addr × Obj)}
theorem write_N (B : Below A₀ base outer h₀) (X : (Mine.hd.heap_39 w.params).In base) (T : Top p loose mean mg mb base) (F : Fr h₀ L s.heap m) (N : News h₀ L s.heap news)
    (hA : A.frames = some (env :: outer)) (hf : env.frame = some L) (hke : env.scope.kind = .function) (hh : A.handled = none) (hg : A.guards = some []) (hroom : A.depth + 10 < recursionLimit)
    {e : List UInt8} {te : Tok} (he : 0 < e.length) (hz : d.length + e.length ≤ 1000000) (m1 : (x, instObj 194 dx) ∈ news) (U : UpdF dx (octD w.params b d.length t1 t2 t3) news g)
    (U2 : ∀ t3', UpdF b (baObj d.toArray) (g (octD w.params b (d.length + e.length : Int) t1 t2 t3')) (g2 t3')) (hne : @Ne Nat x dx) (hb1 : @Ne Nat b x) (hb2 : @Ne Nat b dx)
    (h : ∀ h' t' t3' tr, Fr h₀ L h' m → News h₀ L h' (g2 t3' (baObj (d ++ e).toArray)) → Q (.int e.length tr) { s with heap := h', toks := t' }) :
    wpN (model PySem.Challenge.rw_vq0002_01.row.prog w) A (call (.ref 191) [.ref x, .bytes e.toArray te]) Q E s :=
  have mb : (b, baObj d.toArray) ∈ news := updF_mem_of U (updF_mem (U2 0)) hb2
  n_call (write_c (call_below B F hA hf hke) X T hh hg hroom hne hb1 hb2 he hz (call_foot B N hf (subC m1 (subC (updF_mem U) (sub1 mb))))
    fun h' t' t3' tr k h1 h2 => h h' t' t3' tr (back_fr F N k (modsC (updF_mem U) (mods1 mb))) (back_upd2 N U (U2 t3') k (Ne.symm hb2) h1 h2))
end
section
variable {w : World} {A : Around} {s : Shared} {base : Heap} {outer : List Env} {p : Program} {loose : List Str} {mean : ExcName → Option Value} {mg mb : Str → Option Value} {R : Result → Shared → Prop}
  {x dx b : Addr} {t1 t2 t3 : Nat} {d : List UInt8}
theorem wtf_c (B : Below A base outer s.heap) (X : (Mine.hd.heap_39 w.params).In base) (T : Top p loose mean mg mb base) (hh : A.handled = none) (hg : A.guards = some []) (hroom : A.depth + 20 < recursionLimit)
    (hne : @Ne Nat x dx) (hb1 : @Ne Nat b x) (hb2 : @Ne Nat b dx) {e : List UInt8} {te : Tok} {fb : Bool} (he : 0 < e.length) (hz : d.length + e.length ≤ 1000000) (P : Foot base outer s.heap [(x, instObj 194 dx), (dx, octD w.params b d.length t1 t2 t3), (b, baObj d.toArray)])
    (h : ∀ h' t' t3', Keep [dx, b] s.heap h' → h'.get? dx = some (octD w.params b (d.length + e.length : Int) t1 t2 t3') → h'.get? b = some (baObj (d ++ e).toArray) → R (.ok (.ret .none)) { s with heap := h', toks := t' }) :
    codeN (model PySem.Challenge.rw_vq0002_01.row.prog w) A (.call (.ref 35) ⟨[.ref x, .none, .bytes e.toArray te, .bool fb], []⟩) R s := by
  obtain ⟨hd, dp, fr, gs, u⟩ := A
  obtain rfl := B.stack
  obtain rfl := hh
  obtain rfl := hg
  revert X
  k_fill
  intro X
  refine' enter_n ?B ?X ?T _ ?P ?k6 ?k7 ?k8 ?k9 ?kB ?c5 ?c6 ?c7 ?c8 ?_
  case B => assumption
  case X => assumption
  case T => assumption
  case P => assumption
  case k6 => k_is
  case k7 => k_is
  case k8 => k_room
  case k9 => first | exact BindsTo.of_eq rfl | exact binds_K (Frag.In.keeps (by assumption) (Below.stays (by assumption))) rfl (by k_is) rfl rfl rfl
  case kB => exact locs rfl
  case c5 => decide
  case c6 => exact rfl
  case c7 => exact rfl
  case c8 => exact rfl
  intro g' L' h' tk' KG F' N' B' X' T' l1
  try dsimp only
  refine n_execs_cons (n_any ?_)
  k_fold
  (try k_lt l1)
  walk_at "MINE steps"
  (try k_unfold)
  (try dsimp only)
  refine n_execs_cons (n_any ?_)
  k_fold
  walk_at "MINE steps"
  (try k_unfold)
  (try dsimp only)
  refine n_execs_cons (n_While (c_whileTurn ?_))
  walk_at "MINE steps"
  refine n_execs_cons (n_Assign_Name (n_mcall1 (K := Mine.hd.heap_39 w.params) ?_))
  walk_at "MINE steps"
  (try dsimp only)
  with_reducible rename Fr _ _ _ _ => F'
  with_reducible rename News _ _ _ _ => N'
  with_reducible rename _ = List.drop _ _ => hr
  have hr := hr
  rw [show (0 : Int).toNat = 0 from rfl, List.drop_zero] at hr
  subst hr
  refine' write_N (s := ⟨_, _, _, _, _⟩) (B := ?B) (X := ?X) (T := ?T) F' N' rfl rfl rfl rfl rfl ?room he hz ?m1 ?U ?U2 ?ne ?b1 ?b2 ?_
  case B => assumption
  case X => assumption
  case T => assumption
  case room => k_room
  case m1 => k_mem
  case U => k_updF
  case U2 => intro t3'; k_updF
  case ne => assumption
  case b1 => assumption
  case b2 => assumption
  clear F' N'
  intro h' t' t3' tr' F' N'
  (try dsimp only)
  k_fold
  walk_at "MINE steps"
  walk_at "MINE nx"
  refine n_execs_nil ?_
  (try dsimp only)
  refine c_whileTurn ?_
  walk_at "MINE steps"
  refine n_execs_nil ?_
  (try dsimp only)
  refine n_execs_nil ?_
  (try dsimp only)
  refine' h _ _ _ ?q1 ?q2 ?q3
  case q3 => walk_at "MINE got"
  case q2 => walk_at "MINE got"
  case q1 => walk_at "MINE keep"
end
end

/-! ### VMake -/
theorem fresh17 {M : Model} {A : Around} {env : Env} {Q : Flow → Shared → Prop} {E : Value → Shared → Prop} {s : Shared} (h : Q .next s) : wpAny M A (execs [] env) Q E s := by
  w_top off
  (try walk1)
  all_goals first | exact h | exact wpAny_execs_nil h
section
section
variable {prog : Program} {w : World} {A : Around} {K : Frag} {C : Addr} {R : Result → Shared → Prop} {h : Heap} {g : Array GenState} {d : Drawn} {t : Nat} {os : OsState}
theorem n_of_any {α : Type} {M : Model} {A : Around} {t : Sem α} {Q : α → Shared → Prop} {E : Value → Shared → Prop} {s : Shared} {P : α → Shared → Prop} (h : wpAny M A t P E s) (k : ∀ a s', P a s' → Q a s') : wpN M A t Q E s := n_any (wpAny_mono h k fun _ _ x => x)

theorem c_make_core {rest : List Value} {init : Value} (Y : Makes (model prog w) h C) (hi : Looks (model prog w) h (typeLookup (.ref C) "__init__") (some init))
    (hb : ∀ self, Looks (model prog w) h (bindSpecial init self) (init, [self])) (hne : (some init != some (Value.builtin "object.__init__")) = true ∨ (rest = [] ∧ ([] : List (Str × Value)) = []))
    (hq : codeN (model prog w) (A.under (.builtin "type.__call__" ⟨.ref C :: rest, []⟩)) (.call init ⟨.ref (h.objs.size + 1) :: rest, []⟩) (InitBack (h.objs.size + 1) R) ⟨(h.push emptyDict).push (instObj C h.objs.size), g, d, t, os⟩) :
    codeN (model prog w) A (.call (.ref C) ⟨rest, []⟩) R ⟨h, g, d, t, os⟩ := by
  have Y' := Y
  obtain ⟨⟨oc, od, cd, sl, hC, e1, e2, e4⟩, made, base, self, top, call, typ⟩ := Y
  refine c_tree ?_
  have a1 : wpAny (model prog w) (A.under (.call (.ref C) ⟨rest, []⟩)) (callAny (.ref C) ⟨rest, []⟩) (fun fin s' => fin = Fin.again (.call (.builtin "type.__call__") ⟨.ref C :: rest, []⟩) ∧ s' = ⟨h, g, d, t, os⟩) (fun e s' => R (.error e) s') ⟨h, g, d, t, os⟩ := by
    refine nd_load hC ?_
    show wpAny _ _ (callAny.viaDunder (.ref C) _) _ _ _
    unfold callAny.viaDunder
    refine wpAny_bind (call.at ?_)
    dsimp only
    rw [tc_bind]
    refine wpAny_bind (wpAny_pure (wpAny_bind (wpAny_pure ?_)))
    exact wpAny_pure (a := Fin.again (.call (.builtin "type.__call__") ⟨.ref C :: rest, []⟩)) ⟨rfl, rfl⟩
  show wpN _ _ (callAny (.ref C) ⟨rest, []⟩) _ _ _
  refine n_of_any a1 fun fin s' z => ?_
  obtain ⟨rfl, rfl⟩ := z
  refine ⟨rfl, rfl, c_tree ?_⟩
  have a2 : wpAny (model prog w) A.in1 (checkBuiltinCall "type.__call__" ⟨.ref C :: rest, []⟩) (fun _ s' => s' = ⟨h, g, d, t, os⟩) (fun e s' => R (.error e) s') ⟨h, g, d, t, os⟩ := check_slot tc_kind tc_split typ (tc_args _ _ _) rfl
  show wpN _ A.in1 (do checkBuiltinCall "type.__call__" ⟨.ref C :: rest, []⟩; again (.builtin "type.__call__" ⟨.ref C :: rest, []⟩)) _ _ _
  refine n_bind (n_of_any a2 fun _ s' z => ?_)
  subst z
  refine n_pure ⟨Code.quiet_builtin _ (by decide +kernel), rfl, c_builtin entry_typeCall ?_⟩
  unfold Builtin.«type.__call__»
  have hm : Looks (model prog w) h (mroOf (.ref C)) cd.mro := ((Looks.ld (part := none) hC).andThen .now).andThen .now
  have k : ∀ b o, h.get? b = some o → ((h.push emptyDict).push (instObj C h.objs.size)).get? b = some o := fun b o e => Heap.get?_push_of_some _ (Heap.get?_push_of_some _ e)
  have hx : ((h.push emptyDict).push (instObj C h.objs.size)).get? (h.objs.size + 1) = some (instObj C h.objs.size) := by heap_get
  have t1 : Looks (model prog w) ((h.push emptyDict).push (instObj C h.objs.size)) (typeOf (.ref (h.objs.size + 1))) (.ref C) := (Looks.ld hx).andThen .now
  have s1 := self.keeps k
  have i1 := hi.keeps k
  have b1 := (hb (.ref (h.objs.size + 1))).keeps k
  have a3 : ∀ A' : Around, wpAny (model prog w) A' (PySem.call (.builtin "object.__new__") (.ref C :: rest) []) (fun v s' => v = .ref (h.objs.size + 1) ∧ s' = ⟨(h.push emptyDict).push (instObj C h.objs.size), g, d, t, os⟩) (fun _ _ => False) ⟨h, g, d, t, os⟩ :=
    fun A' => wpAny_call (new_K Y' hi hne ⟨rfl, rfl⟩)
  dsimp only
  rw [if_neg (fun e => by cases e)]
  refine n_then (hm.at ?_)
  rw [if_neg (by rw [e4]; exact Bool.false_ne_true)]
  refine n_then (made.at ?_)
  dsimp only
  refine n_bind (n_pure ?_)
  refine n_bind (n_holding (n_any (wpAny_mono (a3 _) (fun v s' z => ?_) fun _ _ x => x.elim)))
  obtain ⟨rfl, rfl⟩ := z
  have is1 : Looks (model prog w) ((h.push emptyDict).push (instObj C h.objs.size)) (isInstance (.ref (h.objs.size + 1)) (.ref C)) true := Looks.andThen (f := fun t => isSubtype t (.ref C)) t1 s1
  have lo1 : Looks (model prog w) ((h.push emptyDict).push (instObj C h.objs.size)) (typeOf (Value.ref (h.objs.size + 1)) >>= fun t => typeLookup t (Str.ofString "__init__")) (some init) := Looks.andThen (f := fun t => typeLookup t (Str.ofString "__init__")) t1 i1
  refine n_then (is1.at ?_)
  rw [if_neg (by simp)]
  refine n_bind (n_holding ?_)
  unfold callSpecial? specialOf
  refine n_then (lo1.at ?_)
  dsimp only
  refine n_holding ?_
  refine n_then (b1.at ?_)
  dsimp only
  refine n_bind (n_call (c_mono hq fun r s' z => ?_))
  rcases r with e | (v | _ | _ | _) <;> first | exact z | exact z.elim | skip
  obtain ⟨rfl, z⟩ := z
  refine n_pure ?_
  dsimp only
  rw [if_neg (by decide)]
  exact n_pure z
end
section
variable {prog : Program} {w : World} {A : Around} {K : Frag} {C x : Addr} {s : Shared} {h₀ : Heap} {L : Addr} {m : Str → Option Value} {news : List (Addr × Obj)} {R : Result → Shared → Prop}
theorem c_make_K {rest : List Value} {fI : Addr} (F : Fr h₀ L s.heap m) (N : News h₀ L s.heap news) (X : K.In s.heap) (hm : makesIn K C = true)
    (hi : findIn K (.ref C) "__init__" = some (some (.ref fI))) (hf : typeIn K (.ref fI) = some (.type "function"))
    (h : ∀ x dx h', Fr h₀ L h' m → News h₀ L h' ((x, instObj C dx) :: (dx, emptyDict) :: news) → (∀ p ∈ news, p.1 < dx) → dx < x →
      codeN (model prog w) (A.under (.builtin "type.__call__" ⟨.ref C :: rest, []⟩)) (.call (.ref fI) ⟨.ref x :: rest, []⟩) (InitBack x R) { s with heap := h' }) :
    codeN (model prog w) A (.call (.ref C) ⟨rest, []⟩) R s := by
  obtain ⟨hh, g, d, t, os⟩ := s
  refine c_make_core (makes_of X hm) (looks_findIn X hi) (fun self => bind_fn X self hf) (.inl rfl) (h _ hh.objs.size _ ((F.push _).push _) ?_ (fun p hp => Heap.lt_size (N p hp).1) (Nat.lt_succ_self _))
  have := (N.push F emptyDict).push (F.push _) (instObj C hh.objs.size)
  rwa [Heap.size_push] at this
end
end

/-! ### VGen -/
theorem fresh18 {M : Model} {A : Around} {env : Env} {Q : Flow → Shared → Prop} {E : Value → Shared → Prop} {s : Shared} (h : Q .next s) : wpAny M A (execs [] env) Q E s := by
  w_top off
  (try walk1)
  all_goals first | exact h | exact wpAny_execs_nil h
section
/-- a resumed generator's run, on a stack where no decoder stands -/
def SegN (M : Model) (A : Around) (c : Code) (t : Sem Fin) (fs : List Frame) (s : Shared) (P : End → Shared → Prop) : Prop :=
  ∀ Γ p, Γ.code = c → Γ.Woken A → NoDec Γ → ∃ e s', Runs M Γ p t fs s e s' ∧ e.quiet = true ∧ P e s'
def FsFree (fs : List Frame) : Prop := ∀ f ∈ fs, decCode f.where_.1 = false
theorem nd_over {Γ : Ctx} {fs : List Frame} (z : NoDec Γ) (hf : FsFree fs) : NoDec (Γ.over fs) := ⟨z.1, fun x hx => by
  rcases List.mem_append.mp hx with q | q
  · obtain ⟨f, hf', rfl⟩ := List.mem_map.mp q; exact hf f hf'
  · exact z.2 x q⟩
section
variable {M : Model} {A : Around} {c : Code} {fs : List Frame} {s : Shared} {P : End → Shared → Prop}
theorem segn_wrap {α : Type} {m : Sem α} {K : α → Sem Fin} {H : Value → Sem Fin} {gd lv} (hf : FsFree fs)
    (h : wpN M (A.over c fs) m (fun a s' => SegN M A c (K a) fs s' P) (fun x s' => SegN M A c (H x) fs s' P) s) : SegN M A c (m.wrap K H gd lv) fs s P := by
  rintro Γ p rfl hΓ z
  obtain ⟨e, s', hr, hq⟩ := runs_wrap_of_wp (Φ := fun e s' => e.quiet = true ∧ P e s') K H gd lv m (h (Γ.over fs) p (hΓ.over fs) (nd_over z hf)) (fun a p' s' h' => h' Γ p' rfl hΓ z) (fun x p' s' h' => h' Γ p' rfl hΓ z)
  exact ⟨e, s', hr, hq⟩
theorem segn_at (hf : FsFree fs) {p' : Pos} {k : Unit → Sem Fin} (h : SegN M A c (k ()) fs s P) : SegN M A c (.at p' k) fs s P :=
  segn_wrap hf (m := standAt p') (K := k) (H := .raise) (gd := id) (lv := id) (n_standAt h)
theorem segn_point (hf : FsFree fs) {l : List Value} {k : Unit → Sem Fin} (h : SegN M A c (k ()) fs s P) : SegN M A c (.point l k) fs s P :=
  segn_wrap hf (m := point) (K := k) (H := .raise) (gd := id) (lv := fun _ => l) (n_point h)
theorem segn_call {c' : Code} {h g l} {k : Result → Sem Fin} (hd : decCode c' = false) (hc : ∀ p, SegN M A c' (M.den c') (.ret k h g l c p [] :: fs) s P) : SegN M A c (.call c' h g l k) fs s P := by
  rintro Γ p rfl hΓ z
  obtain ⟨e, s', hr, he⟩ := hc p (Γ.goto c') p rfl (hΓ.goto c') (z.goto hd)
  exact ⟨e, s', runs_call_seg hr, he⟩
theorem segn_leaf {k h g l c₁ p₁ kp} (r : Result) (hd : decCode c₁ = false) (hk : SegN M A c₁ (k r) fs s P) : SegN M A c (leafOf r) (.ret k h g l c₁ p₁ kp :: fs) s P := by
  rintro Γ p rfl hΓ z
  obtain ⟨e, s', hr, he⟩ := hk (Γ.goto c₁) p₁ rfl (hΓ.goto c₁) (z.goto hd)
  exact ⟨e, s', Runs.pop r hr, he⟩
theorem segn_again {c' : Code} (hq : c'.quiet = true) (hd : decCode c' = false) (hc : SegN M A c' (M.den c') fs s P) : SegN M A c (.pure (.again c')) fs s P := by
  rintro Γ p rfl hΓ z
  obtain ⟨e, s', hr, he⟩ := hc (Γ.goto c') p rfl (hΓ.goto c') (z.goto hd)
  exact ⟨e, s', Runs.head (c₁ := c') (fun _ _ x => .again hq x) hr, he⟩
theorem segn_end (r : Result) (h : P (.ret r) s) : SegN M A c (leafOf r) [] s P := by
  rintro Γ p rfl _ _
  exact ⟨.ret r, s, Runs.leaf r, rfl, h⟩
theorem segn_yield {v l} {k : Resume → Sem Fin} (hfs : splitAtGen fs = none) (hfg : fs.any Frame.guarded = false)
    (h : ∀ p, P (.susp v false l k c p fs) s) : SegN M A c (.yield v false l k) fs s P := by
  rintro Γ p rfl _ _
  exact ⟨_, s, Runs.yield' fs hfs, by simp [End.quiet, hfg], h p⟩
end
section
variable {prog : Program} {w : World} {A : Around} {c : Code} {fs : List Frame} {s : Shared} {P : End → Shared → Prop} {env : Env}
  {K : Flow → Sem Fin} {H : Value → Sem Fin} {gd : Bool → Bool} {lv : List Value → List Value}
theorem segn_cons {st : Stmt} {rest : List Stmt}
    (h : SegN (model prog w) A c ((exec st env).wrap (fun f => match f with | .next => (execs rest env).wrap K H gd lv | f => K f) H gd lv) fs s P) :
    SegN (model prog w) A c ((execs (st :: rest) env).wrap K H gd lv) fs s P := by rw [execs_cons_wrap]; exact h
/-- a statement that yields nothing -/
theorem segn_stmt (hf : FsFree fs) {st : Stmt} {rest : List Stmt}
    (h : wpN (model prog w) (A.over c fs) (exec st env) (fun f s' => f = .next ∧ SegN (model prog w) A c ((execs rest env).wrap K H gd lv) fs s' P) (fun x s' => SegN (model prog w) A c (H x) fs s' P) s) :
    SegN (model prog w) A c ((execs (st :: rest) env).wrap K H gd lv) fs s P :=
  segn_cons (segn_wrap hf (n_mono h (fun f s' h' => by obtain ⟨rfl, q⟩ := h'; exact q) fun _ _ x => x))
theorem segn_Yield {e : Expr} {ypos pos : Pos} (hf : FsFree fs) (hfs : splitAtGen fs = none) (hgd : gd false = false) (hfg : fs.any Frame.guarded = false)
    (h : wpN (model prog w) (A.over c fs) (eval e env) (fun v s' => ∀ l k p, (k (.send .none) = K .next) → P (.susp v false l k c p fs) s')
      (fun x s' => SegN (model prog w) A c (H x) fs s' P) s) (hco : env.scope.isCoroutine = false := by rfl) (hi : interactive env = false := by rfl) :
    SegN (model prog w) A c ((exec (.Expr (.Yield (some e) ypos) pos) env).wrap K H gd lv) fs s P := by
  rw [exec_Expr env _ pos hi rfl]
  show SegN (model prog w) A c (.at pos fun _ => ((eval e env >>= fun v => (standAt ypos >>= fun _ => yieldOut env v)) >>= fun x =>
    dropValue (.Yield (some e) ypos) pos x).wrap K H gd lv) fs s P
  have hy : ∀ v, yieldOut env v = yieldValue v := fun v => by simp only [yieldOut, hco, Bool.false_eq_true, if_false]
  simp only [hy]
  refine segn_at hf ?_
  rw [Sem.bind_eq_wrap', Sem.bind_eq_wrap', Sem.wrap_wrap, Sem.wrap_wrap]
  refine segn_wrap hf (n_mono h (fun v s' h' => ?_) fun _ _ x => x)
  refine segn_at hf ?_
  have hg : ∀ k l, SegN (model prog w) A c (.yield v false l k) fs s' P → SegN (model prog w) A c (.yield v (gd false) l k) fs s' P := fun k l x => by rw [hgd]; exact x
  exact hg _ _ (segn_yield hfs hfg fun p => h' _ _ p rfl)
theorem segn_For {target iter : Expr} {body orelse : List Stmt} {pos : Pos} (hf : FsFree fs)
    (h : wpN (model prog w) (A.over c fs) (eval iter env >>= fun x => standAt iter.pos >>= fun _ => holding [x] (pyIter x)) (fun it s₂ => ∀ p, SegN (model prog w) A (.forLoop target it body orelse env) ((model prog w).den (.forLoop target it body orelse env))
      (.ret (fun r => ((match r with | .ok f => (.pure f : Sem Flow) | .error e => .raise e).onRaise fun (x : Value) => do
        if (← field x 1) == Value.none then unsupported "frame.own-activation:exception-without-traceback"
        setFlight x env.frame).wrap K H gd lv) none (gd false) (lv []) c p [] :: fs) s₂ P) (fun x s' => SegN (model prog w) A c (H x) fs s' P) s)
    (hs : ∀ x, foldedSetIterable iter env x = pure x := by intro _; rfl) :
    SegN (model prog w) A c ((exec (.For target iter body orelse pos) env).wrap K H gd lv) fs s P := by
  have e : exec (.For target iter body orelse pos) env = (standAt pos >>= fun _ => (eval iter env >>= fun x => standAt iter.pos >>= fun _ => holding [x] (pyIter x)) >>= fun it => runOwn (.forLoop target it body orelse env) env) := by
    rw [exec_For]
    simp only [hs]
    show Sem.at _ _ = Sem.at _ _
    refine congrArg _ (funext fun _ => ?_)
    show (eval iter env).bind _ = ((eval iter env).bind _).bind _
    rw [Sem.bind_assoc]
    rfl
  rw [e]
  refine segn_at hf ?_
  show SegN (model prog w) A c (Sem.wrap K H gd lv ((eval iter env >>= fun x => standAt iter.pos >>= fun _ => holding [x] (pyIter x)) >>= fun it => runOwn (.forLoop target it body orelse env) env)) fs s P
  rw [Sem.bind_eq_wrap', Sem.wrap_wrap]
  refine segn_wrap hf (n_mono h (fun it s₂ h₂ => ?_) fun _ _ x => x)
  exact segn_call rfl h₂
theorem segn_turn {target : Expr} {it : Value} {body : List Stmt} (hf : FsFree fs)
    (h : wpN (model prog w) (A.over (.forLoop target it body [] env) fs) (pyNext it) (fun r s₁ => match r with
      | none => SegN (model prog w) A (.block [] env) (leafOf (.ok .next)) fs s₁ P
      | some v => wpN (model prog w) (A.over (.forLoop target it body [] env) fs) (letOwnedTupleGo target it v >>= fun _ => assign target env v) (fun _ s₂ =>
          SegN (model prog w) A (.forLoop target it body [] env) ((execs body env).wrap (fun f => match f with
            | .next | .cont => .pure (.again (.forLoop target it body [] env))
            | .brk => .pure (.done .next)
            | .ret v => .pure (.done (.ret v))) (fun e => (do noteFrame e env; theTreesLotGoes e : Sem Unit).wrap (fun _ => .raise e) .raise id id) id id) fs s₂ P) (fun _ _ => False) s₁) (fun _ _ => False) s) :
    SegN (model prog w) A (.forLoop target it body [] env) ((model prog w).den (.forLoop target it body [] env)) fs s P := by
  show SegN _ A _ ((forTurn target it body [] env).onRaise (fun x => do noteFrame x env; theTreesLotGoes x)) fs s P
  unfold forTurn
  rw [Sem.onRaise_eq_wrap]
  refine segn_at hf ?_
  show SegN _ A _ (Sem.wrap _ _ _ _ (((pyNext it).onRaise _) >>= _)) fs s P
  rw [Sem.bind_eq_wrap', Sem.onRaise_eq_wrap, Sem.wrap_wrap, Sem.wrap_wrap]
  refine segn_wrap hf (n_mono h (fun r s₁ h₁ => ?_) fun x s' hx => hx.elim)
  cases r with
  | none =>
    dsimp only at h₁ ⊢
    exact segn_again rfl rfl h₁
  | some v =>
    dsimp only at h₁ ⊢
    have e : (letOwnedTupleGo target it v >>= fun _ => assign target env v >>= fun _ => execs body env >>= fun f => match f with
          | .next | .cont => again (.forLoop target it body [] env)
          | .brk => pure (.done .next)
          | .ret v => pure (.done (.ret v))) = ((letOwnedTupleGo target it v >>= fun _ => assign target env v) >>= fun _ => execs body env >>= fun f => (match f with
          | .next | .cont => again (.forLoop target it body [] env)
          | .brk => pure (.done .next)
          | .ret v => pure (.done (.ret v)) : Sem Fin)) := by
      show (letOwnedTupleGo target it v).bind _ = ((letOwnedTupleGo target it v).bind _).bind _
      rw [Sem.bind_assoc]
      rfl
    show SegN _ A _ (Sem.wrap _ _ _ _ (letOwnedTupleGo target it v >>= fun _ => assign target env v >>= fun _ => execs body env >>= fun f => match f with
          | .next | .cont => again (.forLoop target it body [] env)
          | .brk => pure (.done .next)
          | .ret v => pure (.done (.ret v)))) fs s₁ P
    rw [e, Sem.bind_eq_wrap', Sem.wrap_wrap]
    refine segn_wrap hf (n_mono h₁ (fun _ s₂ h₂ => ?_) fun x s' hx => hx.elim)
    show SegN _ A _ (Sem.wrap _ _ _ _ (execs body env >>= _)) fs s₂ P
    rw [Sem.bind_eq_wrap', Sem.wrap_wrap]
    rw [Sem.wrap_congr (execs body env) _ _ (K' := fun f => match f with
            | .next | .cont => .pure (.again (.forLoop target it body [] env))
            | .brk => .pure (.done .next)
            | .ret v => .pure (.done (.ret v))) (H' := (fun e => (do noteFrame e env; theTreesLotGoes e : Sem Unit).wrap (fun _ => .raise e) .raise id id))
        (fun f => by cases f <;> rfl)
        (fun e => by first | exact Sem.bind_eq_wrap _ _ | (show (do noteFrame e env; theTreesLotGoes e : Sem Unit).bind (fun _ => .raise e) = _; rw [Sem.bind_eq_wrap]))]
    exact h₂
theorem segn_func {body : List Stmt} (hf : FsFree fs)
    (h : SegN (model prog w) A (.func body env) ((execs body env).wrap (fun f => .pure (.done (.ret (match f with | .ret v => v | _ => .none))))
      (fun e => (leaving env e).wrap (fun _ => .raise e) .raise id id) id id) fs s P) :
    SegN (model prog w) A (.func body env) ((model prog w).den (.func body env)) fs s P := by
  show SegN _ A _ (.point [] fun _ => ((execs body env).onRaise (leaving env)) >>= _) fs s P
  refine segn_point hf ?_
  rw [Sem.onRaise_eq_wrap, Sem.bind_eq_wrap', Sem.wrap_wrap]
  rw [Sem.wrap_congr (execs body env) _ _ (K' := fun f => .pure (.done (.ret (match f with | .ret v => v | _ => .none))))
    (H' := fun e => (leaving env e).wrap (fun _ => .raise e) .raise id id) (fun f => by cases f <;> rfl)
    (fun e => by rw [Sem.bind_eq_wrap, Sem.wrap_wrap]; rfl)]
  exact h
end
/-- a generator at rest that may be woken -/
def Wakes1 (prog : Program) (w : World) (A : Around) (gs : GenState) (s : Shared) (P : End → Shared → Prop) : Prop := match gs with
  | .fresh c => decCode c = false ∧ SegN (model prog w) A c ((model prog w).den c) [] s P
  | .suspended k _ c _ fs _ => decCode c = false ∧ SegN (model prog w) A c (k (.send .none)) fs s P
  | _ => False
section
variable {prog : Program} {w : World} {A : Around} {E : Value → Shared → Prop} {s : Shared}
theorem n_resume {g : Nat} {gs : GenState} {l : List Value} {α : Type} {k : GenResult → Sem α} {Q : α → Shared → Prop} {P : End → Shared → Prop} (hg : s.gens[g]? = some gs)
    (hgo : Wakes1 prog w A gs (s.setGen g .running) P)
    (h : ∀ e s₁, P e s₁ → wpN (model prog w) A (k e.result) Q E (s₁.setGen g e.genState)) : wpN (model prog w) A (.resume g (.send .none) l k) Q E s := by
  intro Γ p hΓ z
  rw [Sem.wp_resume]
  have nw : ∀ c p', decCode c = false → NoDec (Γ.wake c p') := fun c p' hd => ⟨hd, fun x hx => by rcases List.mem_cons.mp hx with rfl | hx; exact z.1; exact z.2 x hx⟩
  cases gs with
  | fresh c =>
    obtain ⟨e₁, s₁, hr, hq, he⟩ := hgo.2 (Γ.wake c p) p rfl (hΓ.wake c p) (nw c p hgo.1)
    exact ⟨_, _, by unfold Wakes; rw [hg]; exact ⟨e₁, s₁, hr, hq, rfl, rfl⟩, h e₁ s₁ he Γ p hΓ z⟩
  | suspended k₀ l₀ c₀ p₀ fs₀ cl =>
    obtain ⟨e₁, s₁, hr, hq, he⟩ := hgo.2 (Γ.wake c₀ p) p₀ rfl (hΓ.wake c₀ p) (nw c₀ p hgo.1)
    exact ⟨_, _, by unfold Wakes; rw [hg]; exact ⟨e₁, s₁, hr, hq, rfl, rfl⟩, h e₁ s₁ he Γ p hΓ z⟩
  | running => exact hgo.elim
  | finished => exact hgo.elim
theorem n_callSpecial?_slot {self : Value} {T : String} {name : Str} {id : String} {args : List Value} {kw : List (Str × Value)} {M : Model}
    {Q : Option Value → Shared → Prop} (hT : s.TypeIs self T) (h : Slot T name id)
    (hc : wpN M A (call (.builtin id) (self :: args) kw) (fun v => Q (some v)) E s) : wpN M A (callSpecial? self name args kw) Q E s := by
  simp only [callSpecial?]
  refine n_then (wpAny_specialOf hT h.lookup ?_)
  simp only [h.bind]
  exact n_holding (n_bind (n_pure (n_bind (n_mono hc (fun v s' h' => n_pure h') fun _ _ h' => h'))))
theorem n_pyNext_gen {a : Addr} {g : Nat} {gs : GenState} {Q : Option Value → Shared → Prop} {P : End → Shared → Prop} (hh : A.handled = none)
    (hl : s.heap.NoLimit) (hroom : A.depth < recursionLimit) (hg : s.heap.IsGen a g) (hgs : s.gens[g]? = some gs)
    (hgo : Wakes1 prog w A.in1 gs (s.setGen g .running) P)
    (hP : ∀ e s₁, P e s₁ → match e with
      | .susp v _ _ _ _ _ _ => Q (some v) (s₁.setGen g e.genState)
      | .ret r => r = .ok (.ret .none) ∧ ∀ h', (∀ b o, s₁.heap.get? b = some o → h'.get? b = some o) → Q none { s₁.setGen g .finished with heap := h' }) :
    wpN (model prog w) A (pyNext (.ref a)) Q E s := by
  unfold pyNext
  have hc : argsOk "generator.__next__" ⟨[.ref a], []⟩ := args_gen_next _
  refine n_bind (n_attempt (n_callSpecial?_slot (name := Str.ofString "__next__") hg.typeIs slot_gen_next (n_call (c_tree ?_))))
  show wpN _ A.in1 (do checkBuiltinCall "generator.__next__" ⟨[.ref a], []⟩; again (.builtin "generator.__next__" ⟨[.ref a], []⟩)) _ _ s
  refine n_then (slot_gen_next.check _ _ _ _ _ _ _ _ hg.typeIs hc ?_)
  refine n_pure ⟨plainId_quiet slot_gen_next.plain _, rfl, c_builtin entry_gen_next ?_⟩
  rw [Around.under_plainId slot_gen_next.plain _]
  show wpN _ A.in1 (Builtin.Generator.genWake (.ref a) (.send .none)) _ _ s
  unfold Builtin.Generator.genWake
  refine n_bind (n_holding (n_any (wpAny_genNumber hg ?_)))
  refine n_then (wpAny_genState hgs ?_)
  cases gs with
  | running => exact hgo.elim
  | finished => exact hgo.elim
  | _ =>
    refine n_then (wpAny_roomToWake hl hroom ?_)
    show wpN _ A.in1 (.resume g (.send .none) [] _) _ _ s
    refine n_resume hgs hgo (fun e s₁ he => ?_)
    have hp := hP e s₁ he
    cases e with
    | ret r =>
      obtain ⟨rfl, hp⟩ := hp
      refine n_any ?_
      show wpAny _ A.in1 (newExc (.type "StopIteration") [] >>= _) _ _ _
      refine wpAny_bind ?_
      simp only [newExc, newTuple]
      refine wpAny_bind (wpAny_newObj_type ?_ (by size_fits))
      refine wpAny_bind (m := firstArgMember _ _) (wpAny_of_eq (a := Value.none) (by first | rfl | (simp only [firstArgMember]; rfl)) ?_)
      refine wpAny_newObj_type ?_ (by size_fits)
      simp only [raiseNew]
      refine wpAny_bind (wpAny_bind (wpAny_handled ?_))
      first | rw [show A.in1.handled = none from hh] | rw [hh]
      refine wpAny_throw ?_
      refine n_then (wpAny_isInstance (T := "StopIteration") (b := true) ⟨_, Heap.get?_push_size _ rfl, rfl⟩ isSubtype_stop ?_)
      exact n_pure (hp _ fun b o hb => Heap.get?_push_of_some _ (Heap.get?_push_of_some _ hb))
    | susp v gd l k c p fs =>
      exact n_pure (n_pure hp)
end
section
variable {prog : Program} {w : World} {A : Around} {s : Shared} {R : Result → Shared → Prop} {I S : Addr} {g n : Nat} {res : Value} {St : Nat → Array Value → GenState → Shared → Prop}
abbrev lstObj (acc : Array Value) (c : Nat) : Obj := { cls := .type "list", dict := none, data := .seq acc c, slots := #[] }
/-- what a walk of a generator into a list leans on -/
structure GenList (prog : Program) (w : World) (A : Around) (I S : Addr) (g n : Nat) (St : Nat → Array Value → GenState → Shared → Prop) (R : Shared → Prop) : Prop where
  base : ∀ i acc gs s, St i acc gs s → s.gens[g]? = some gs ∧ s.heap.IsGen I g ∧ s.heap.NoLimit
  step : ∀ i acc gs s, i < n → St i acc gs s → Wakes1 prog w A gs (s.setGen g .running) (fun e s₁ => match e with
    | .susp v _ _ _ _ _ _ => acc.size < sizeLine ∧ ∃ c, s₁.heap.get? S = some (lstObj acc c) ∧ St (i + 1) (acc.push v) e.genState { s₁.setGen g e.genState with heap := s₁.heap.update S (Obj.mapSeq (·.push v)) }
    | .ret _ => False)
  last : ∀ acc gs s, St n acc gs s → Wakes1 prog w A gs (s.setGen g .running) (fun e s₁ => match e with
    | .susp .. => False
    | .ret r => r = .ok (.ret .none) ∧ ∀ h', (∀ b o, s₁.heap.get? b = some o → h'.get? b = some o) → R { s₁.setGen g .finished with heap := h' })
theorem c_extend_loop {Rs : Shared → Prop} (W : GenList prog w A.in1.in1 I S g n St Rs) (hh : A.handled = none) (hroom : A.depth < recursionLimit) (hR : ∀ s', Rs s' → R (.ok (.ret res)) s') :
    ∀ (k i : Nat) (s : Shared) (acc : Array Value) (gs : GenState), n - i = k → i ≤ n → St i acc gs s → codeN (model prog w) A (.builtin "list.extend.loop" ⟨[.ref S, .ref I, res], []⟩) R s := by
  intro k
  induction k with
  | zero =>
    intro i s acc gs hk hi hst
    obtain rfl : i = n := by omega
    obtain ⟨b1, b2, b3⟩ := W.base _ _ _ _ hst
    refine c_builtin F.entry_extend_loop ?_
    rw [Around.under_plainId F.plain_extend_loop _]
    show wpN _ A.in1 (pyNext (.ref I) >>= _) _ _ s
    refine n_bind (n_pyNext_gen hh b3 hroom b2 b1 (W.last _ _ _ hst) fun e s₁ he => ?_)
    cases e with
    | susp => exact he.elim
    | ret r => exact ⟨he.1, fun h' hk => n_pure (hR _ (he.2 h' hk))⟩
  | succ k ih =>
    intro i s acc gs hk hi hst
    obtain ⟨b1, b2, b3⟩ := W.base _ _ _ _ hst
    refine c_builtin F.entry_extend_loop ?_
    rw [Around.under_plainId F.plain_extend_loop _]
    show wpN _ A.in1 (pyNext (.ref I) >>= _) _ _ s
    refine n_bind (n_pyNext_gen hh b3 hroom b2 b1 (W.step i _ _ _ (by omega) hst) fun e s₁ he => ?_)
    cases e with
    | ret r => exact he.elim
    | susp v gd l k' c p fs =>
      obtain ⟨hz, c, hS, hst'⟩ := he
      show wpN _ A.in1 (updateSeq S (·.push v) >>= _) _ _ _
      refine n_bind (n_any (wpAny_updateSeq hS rfl (n_pure ⟨plainId_quiet F.plain_extend_loop _, rfl, ih (i + 1) _ (acc.push v) _ (by omega) (by omega) hst'⟩) (by omega) (by show (acc.push v).size ≤ sizeLine + 1; rw [Array.size_push]; omega)))
theorem n_extend_gen {Rs : Shared → Prop} (W : GenList prog w A.in1.in1 I S g n St Rs) (hh : A.handled = none) (hroom : A.depth < recursionLimit) (hR : ∀ s', Rs s' → R (.ok (.ret res)) s') (hSI : S ≠ I) (hg : s.heap.IsGen I g) {c₀ : Nat}
    (hS : s.heap.get? S = some (lstObj #[] c₀)) {gs : GenState} (hst : ∀ h', Heap.SameBut S s.heap h' → (∃ c, h'.get? S = some (lstObj #[] c)) → St 0 #[] gs { s with heap := h' }) :
    wpN (model prog w) A.in1 (Builtin.List.listExtendWith (.ref S) (.ref I) res)
      (fun fin s' => match fin with | .done f => R (.ok f) s' | .again c' => c'.quiet = true ∧ decCode c' = false ∧ codeN (model prog w) A c' R s') (fun e s' => R (.error e) s') s := by
  unfold Builtin.List.listExtendWith
  refine n_then (wpAny_typeOf hg.typeIs ?_)
  have h1 : Builtin.List.listSameRef (.ref S) (.ref I) = false := by simp [Builtin.List.listSameRef, hSI]
  have h2 : (Value.type "generator" == Value.type "list") = false := by decide
  have h3 : (Value.type "generator" == Value.type "tuple") = false := by decide
  simp only [h1, h2, h3, Bool.or_false, Bool.false_eq_true, if_false]
  refine n_then (wpAny_pyIter_gen hg ?_)
  refine n_bind (n_holding ?_)
  unfold Builtin.List.listLengthHint
  refine n_then (wpAny_specialOf hg.typeIs F.gen_no_len ?_)
  show wpN _ A.in1 (specialOf (Value.ref I) (Str.ofString "__length_hint__") >>= _) _ _ _
  refine n_then (wpAny_specialOf hg.typeIs F.gen_no_hint ?_)
  refine n_pure ?_
  show wpN _ A.in1 (rule "list.extend.makes-room" >>= fun _ => Builtin.List.listTouch (.ref S) >>= fun _ =>
    again (.builtin "list.extend.loop" ⟨[.ref S, .ref I, res], []⟩)) _ _ _
  refine n_then (wpAny_rule ?_)
  refine n_bind (n_any ?_)
  show wpAny _ A.in1 (updateSeq S (·.push .none) >>= fun _ => updateSeq S (·.pop)) _ _ _
  refine wpAny_bind (wpAny_updateSeq hS rfl ?_)
  have hS₂ := Heap.get?_update_self (Obj.mapSeq (·.push Value.none)) hS rfl
  refine wpAny_updateSeq (hz := by seq_fits) hS₂ rfl ?_
  have hS₃ := Heap.get?_update_self (Obj.mapSeq (·.pop)) hS₂ rfl
  have sb := (Heap.SameBut.update s.heap S (Obj.mapSeq (·.push Value.none))).trans (Heap.SameBut.update (s.heap.update S (Obj.mapSeq (·.push Value.none))) S (Obj.mapSeq (·.pop)))
  exact n_pure ⟨plainId_quiet F.plain_extend_loop _, rfl, c_extend_loop W hh hroom hR n 0 _ #[] gs rfl (Nat.zero_le _) (hst _ sb ⟨_, hS₃⟩)⟩
end
end

/-! ### VDict -/
theorem fresh19 {M : Model} {A : Around} {env : Env} {Q : Flow → Shared → Prop} {E : Value → Shared → Prop} {s : Shared} (h : Q .next s) : wpAny M A (execs [] env) Q E s := by
  w_top off
  (try walk1)
  all_goals first | exact h | exact wpAny_execs_nil h
section
theorem new_none {g h s : Heap} {L : Addr} {fp : List Addr} {news : List (Addr × Obj)} {d : Addr} {o : Obj} (KG : Keep fp s g) (N : News g L h news) (m : (d, o) ∈ news) (hl : ∀ a ∈ fp, @LT.lt Nat _ a d) : s.get? d = none := by
  cases q : s.get? d with
  | none => rfl
  | some o' =>
    have := (N _ m).2.2
    rw [KG _ _ q fun z => absurd (hl _ z) (Nat.lt_irrefl _)] at this
    cases this
theorem new_none' {g h s : Heap} {L : Addr} {fp : List Addr} {news news' : List (Addr × Obj)} {d : Addr} {o : Obj} (KG : Keep fp s g) (N : News g L h news) (m : (d, o) ∈ news) (nn : ∀ q ∈ news', @Ne Nat q.1 d) (sub : ∀ a ∈ fp, ∃ o, (a, o) ∈ news') : s.get? d = none := by
  cases q : s.get? d with
  | none => rfl
  | some o' =>
    have := (N _ m).2.2
    rw [KG _ _ q fun z => by obtain ⟨o2, h2⟩ := sub d z; exact nn _ h2 rfl] at this
    cases this
section
variable {prog : Program} {w : World} {A : Around} {E : Value → Shared → Prop} {s : Shared} {h₀ : Heap} {L d : Addr} {m : Str → Option Value} {news : List (Addr × Obj)} {g : Obj → List (Addr × Obj)} {o : Obj} {kvs more : List (Int × Value)} {k : Int} {t : Tok} {v : Value}
theorem d0_typeCall : checkTypeCall "dict" ⟨[], []⟩ = pure () := by kernel_rfl
theorem d0_newCall : checkBuiltinCall "dict.__new__" ⟨[.type "dict"], []⟩ = pure () := by kernel_rfl
theorem d0_code_new {Q₁ : Value → Shared → Prop} (h : Q₁ (.ref s.heap.objs.size) { s with heap := s.heap.push { cls := .type "dict", data := .dict #[] } }) :
    codeAny (model prog w) A (.call (.builtin "dict.__new__") ⟨[.type "dict"], []⟩) (wants Q₁ E) s := by
  refine codeAny_call_builtin F.kt_plain_dict_new F.kt_entry_dict_new (wpAny_of_eq d0_newCall ?_)
  have hsub := F.kt_sub_dict
  have hmro := F.kt_mro_dict
  obtain ⟨hp, g, d, tk, os⟩ := s
  unfold Builtin.«dict.__new__»
  wp_walk
  exact h
theorem dict0 {Q : Value → Shared → Prop} (F : Fr h₀ L s.heap m) (N : News h₀ L s.heap news) (hbig : h₀.NoLimit)
    (h : ∀ d h' o, Fr h₀ L h' m → News h₀ L h' ((d, o) :: news) → (∀ p ∈ news, p.1 < d) → @LT.lt Nat _ L d → (d == sysModules) = false → o.IsDictOf (intKind prog w) [] → Q (.ref d) { s with heap := h' }) :
    wpAny (model prog w) A (call (.type "dict") []) Q E s := by
  refine callType_codes (Q₁ := fun obj s₁ => obj = .ref s.heap.objs.size ∧ s₁ = { s with heap := s.heap.push { cls := .type "dict", data := .dict #[] } }) PySem.F.kt_called_dict d0_typeCall PySem.F.entry_dict_init (d0_code_new ⟨rfl, rfl⟩) ?_
  rintro obj s₁ ⟨rfl, rfl⟩
  have hnew : (s.heap.push { cls := .type "dict", data := .dict #[] }).DictOf (intKind prog w) s.heap.objs.size [] := Heap.DictOf.new s.heap
  refine ⟨hnew.typeIs, PySem.F.args_dict_init_1 _, ?_⟩
  unfold Builtin.«dict.__init__»
  refine wpAny_bind ?_
  unfold Builtin.Dict.selfAndRest
  refine wpAny_bind (wpAny_notOrdered_dict hnew.typeIs ?_)
  show wpAny _ _ (pure (s.heap.objs.size, [])) _ _ _
  refine wpAny_pure ?_
  show wpAny _ _ (Builtin.Dict.updateCommon "dict.__init__" "dict" s.heap.objs.size [] []) _ _ _
  unfold Builtin.Dict.updateCommon
  obtain ⟨o, ho, hd⟩ := Heap.dictOf_iff.mp hnew
  have e : (s.heap.push { cls := .type "dict", data := .dict #[] }).get? s.heap.objs.size = some { cls := .type "dict", data := .dict #[] } := Heap.get?_push_size _ rfl
  rw [e] at ho
  cases ho
  have lo : (s.heap.objs.size == sysModules) = false := F.notModules (modules_low hbig)
  have fin := h _ _ _ (F.push _) (N.push F _) (fun p hp => Heap.lt_size (N p hp).1) F.ns.lt lo hd
  show wpAny _ _ (Builtin.Dict.addKeywords s.heap.objs.size [] >>= _) _ _ _
  exact wpAny_bind (wpAny_pure (wpAny_pure ⟨rfl, fin⟩))
theorem dict_upd {o₂ : Obj} {d₂ : Addr} {Q : Value → Shared → Prop} (F : Fr h₀ L s.heap m) (N : News h₀ L s.heap news) (U : UpdF d o news g) (hd : o.IsDictOf (intKind prog w) kvs) (m2 : (d₂, o₂) ∈ news) (hd₂ : o₂.IsDictOf (intKind prog w) more)
    (hne : @Ne Nat d d₂) (lo : (d₂ == sysModules) = false) (hsz : kvs.length + more.length ≤ 1000000)
    (h : ∀ h' o', Fr h₀ L h' m → News h₀ L h' (g o') → o'.IsDictOf (intKind prog w) (merged kvs more) → Q .none { s with heap := h' }) :
    wpAny (model prog w) A (call (.builtin "dict.update") [.ref d, .ref d₂]) Q E s := by
  obtain ⟨pre, post, rfl, hg, a, b⟩ := U.split
  have hm := N (d, o) (List.mem_append_right _ (.head _))
  have hD : s.heap.DictOf (intKind prog w) d kvs := Heap.dictOf_iff.mpr ⟨o, hm.1, hd⟩
  refine call_meetsIn PySem.F.slot_dict_update hD.typeIs PySem.F.entry_dict_update (PySem.F.args_dict_update_2 _ _) (meets_dict_update (intKind prog w) d d₂ hne lo) ⟨kvs, more, hD, Heap.dictOf_iff.mpr ⟨o₂, (N _ m2).1, hd₂⟩, by rw [sizeLine_eq]; omega, fun h' hmm _ hs => ?_⟩
  obtain ⟨o', ho', hd'⟩ := Heap.dictOf_iff.mp hmm
  exact h h' o' (F.change hs hm.2.1 hm.2.2) (hg o' ▸ N.setIn a b hs ho') hd'
theorem dict_truthy {Q : Bool → Shared → Prop} (N : News h₀ L s.heap news) (hp : (d, o) ∈ news) (hd : o.IsDictOf (intKind prog w) kvs) (lo : (d == sysModules) = false) (hfit : kvs.length ≤ 1000000)
    (h : Q (!kvs.isEmpty) { s with toks := s.toks + 1 + 1 }) : wpAny (model prog w) A (truthy (.ref d)) Q E s := wpAny_truthy_dict lo (kda_dict N hp hd) (by omega) h
theorem dict_setK {Q : Unit → Shared → Prop} (F : Fr h₀ L s.heap m) (N : News h₀ L s.heap news) (U : UpdF d o news g) (hd : o.IsDictOf (intKind prog w) kvs) (hsz : kvs.length ≤ 1000000)
    (h : ∀ h' o', Fr h₀ L h' m → News h₀ L h' (g o') → o'.IsDictOf (intKind prog w) (stored kvs k v) → Q () { s with heap := h', toks := s.toks + 1 }) : wpAny (model prog w) A (setItem (.ref d) (.int k t) v) Q E s :=
  kda_set F N U hd (intKind_is _ _ _ _) (by rw [sizeLine_eq]; omega) h
end
end
local macro_rules | `(tactic| walk_at "setItem ref int") => `(tactic| (k_here; (with_reducible rename Fr _ _ _ _ => F'); (with_reducible rename News _ _ _ _ => N'); k_dflt (refine' dict_setK F' N' ?U ?d ?z ?_; (case U => k_updF); (case d => assumption); (case z => omega); k_whole); intro h' o' F' N' hd'; (try k_sweep)))
local macro_rules | `(tactic| walk_at "call type:dict") => `(tactic| (k_here; (with_reducible show wpAny _ _ (call (Value.type "dict") []) _ _ _); (with_reducible rename Fr _ _ _ _ => F'); (with_reducible rename News _ _ _ _ => N'); k_dflt (refine' dict0 F' N' ?b ?_; (case b => exact Top.nolimit (by assumption)); k_whole); intro d' h' o' F' N' l1 lL lo' hd'; (try k_lt l1); (try k_sweep)))
local macro_rules | `(tactic| walk_at "call builtin:dict.update") => `(tactic| (k_here; (with_reducible rename Fr _ _ _ _ => F'); (with_reducible rename News _ _ _ _ => N'); k_dflt (refine' dict_upd F' N' ?U ?d ?m2 ?d2 ?ne ?lo ?z ?_; (case U => k_updF); (case d => assumption); (case m2 => k_mem); (case d2 => assumption); (case ne => walk_at "MINE ne"); (case lo => assumption); (case z => omega); k_whole); intro h' o' F' N' hd'; (try k_sweep)))
local macro_rules | `(tactic| walk_at "truthy ref") => `(tactic| (k_here; (with_reducible rename News _ _ _ _ => N'); k_dflt (refine' dict_truthy N' ?m ?d ?lo ?z ?_; (case m => k_mem); (case d => assumption); (case lo => assumption); (case z => omega); k_whole)))
local macro_rules | `(tactic| walk_at "MINE new") => `(tactic| first
  | (refine new_none (by assumption) (by assumption) (by k_mem) ?_; walk_at "MINE lts")
  | (refine new_none' (by assumption) (by assumption) (by k_mem) (by assumption) ?_; walk_at "MINE sub2"))

/-! ### VIdx -/
theorem fresh20 {M : Model} {A : Around} {env : Env} {Q : Flow → Shared → Prop} {E : Value → Shared → Prop} {s : Shared} (h : Q .next s) : wpAny M A (execs [] env) Q E s := by
  w_top off
  (try walk1)
  all_goals first | exact h | exact wpAny_execs_nil h
section
abbrev kn (w : World) := PySem.intKind PySem.Challenge.rw_vq0002_01.row.prog w
abbrev walD (P : Params) (fx : Addr) (sz : Int) (c n : Addr) (nr : Bool) (k1 k2 k3 k4 k5 k6 ts : Tok) : Obj :=
  dictOf [⟨PyData.keyHash P "_fd", .str "_fd" k1, .ref fx⟩, ⟨PyData.keyHash P "_dir_fd", .str "_dir_fd" k2, .none⟩, ⟨PyData.keyHash P "_page_size", .str "_page_size" k3, .int sz ts⟩,
    ⟨PyData.keyHash P "_committed_pages", .str "_committed_pages" k4, .ref c⟩, ⟨PyData.keyHash P "_not_committed_pages", .str "_not_committed_pages" k5, .ref n⟩, ⟨PyData.keyHash P "needs_recovery", .str "needs_recovery" k6, .bool nr⟩] 6
section
variable {w : World} {A : Around} {s : Shared} {base : Heap} {outer : List Env} {p : Program} {loose : List Str} {mean : ExcName → Option Value} {mg mb : Str → Option Value} {R : Result → Shared → Prop}
  {x dx fx c n : Addr} {sz : Int} {nr : Bool} {k1 k2 k3 k4 k5 k6 ts : Tok} {oC oN : Obj} {kc kv : List (Int × Value)}

theorem idx1_c (B : Below A base outer s.heap) (X : (Mine.hd.heap_39 w.params).In base) (T : Top p loose mean mg mb base) (hh : A.handled = none) (hroom : A.depth + 20 < recursionLimit)
    (h1 : @Ne Nat x dx) (h2 : @Ne Nat x n) (h3 : @Ne Nat dx n) {q st : Int} {ta tq tst : Tok} (hz : kv.length ≤ 1000) (hN : oN.IsDictOf (kn w) kv) (P : Foot base outer s.heap [(x, instObj 144 dx), (dx, walD w.params fx sz c n nr k1 k2 k3 k4 k5 k6 ts), (n, oN)])
    (h : ∀ h' t' o', Keep [n] s.heap h' → h'.get? n = some o' → o'.IsDictOf (kn w) (stored kv q (.int st tst)) → R (.ok (.ret .none)) { s with heap := h', toks := t' }) :
    codeAny (model PySem.Challenge.rw_vq0002_01.row.prog w) A (.call (.ref 105) ⟨[.ref x, .int 1 ta, .int q tq, .int st tst], []⟩) R s := by
  obtain ⟨hd, dp, fr, gs, u⟩ := A
  obtain rfl := B.stack
  obtain rfl := hh
  revert X
  k_fill
  intro X
  walk_at "MINE enter"
  walk_at "MINE steps"
  refine' h _ _ _ ?q1 ?q2 (by assumption)
  case q2 => walk_at "MINE got"
  case q1 => walk_at "MINE keep"

theorem idx2_c (B : Below A base outer s.heap) (X : (Mine.hd.heap_39 w.params).In base) (T : Top p loose mean mg mb base) (hh : A.handled = none) (hroom : A.depth + 20 < recursionLimit)
    (h1 : @Ne Nat x dx) (h2 : @Ne Nat x n) (h3 : @Ne Nat dx n) (h4 : @Ne Nat x c) (h5 : @Ne Nat dx c) (h6 : @Ne Nat c n) (lo : (n == sysModules) = false) {q st : Int} {ta tq tst : Tok} (hz : kv.length ≤ 1000) (hz2 : kc.length ≤ 1000)
    (hN : oN.IsDictOf (kn w) kv) (hC : oC.IsDictOf (kn w) kc) (P : Foot base outer s.heap [(x, instObj 144 dx), (dx, walD w.params fx sz c n nr k1 k2 k3 k4 k5 k6 ts), (c, oC), (n, oN)])
    (h : ∀ h' t' o' n' o2, Keep [dx, c] s.heap h' → h'.get? c = some o' → o'.IsDictOf (kn w) (merged kc kv) → h'.get? dx = some (walD w.params fx sz c n' nr k1 k2 k3 k4 k5 k6 ts) → h'.get? n' = some o2 → o2.IsDictOf (kn w) [] → s.heap.get? n' = none → (n' == sysModules) = false →
      R (.ok (.ret .none)) { s with heap := h', toks := t' }) :
    codeAny (model PySem.Challenge.rw_vq0002_01.row.prog w) A (.call (.ref 105) ⟨[.ref x, .int 2 ta, .int q tq, .int st tst], []⟩) R s := by
  obtain ⟨hd, dp, fr, gs, u⟩ := A
  obtain rfl := B.stack
  obtain rfl := hh
  revert X
  k_fill
  intro X
  walk_at "MINE enter"
  walk_at "MINE steps"
  refine' h _ _ _ _ _ ?q1 ?q2 (by assumption) ?q3 ?q4 (by assumption) ?q5 (by assumption)
  case q2 => walk_at "MINE got"
  case q3 => walk_at "MINE got"
  case q4 => walk_at "MINE got"
  case q5 => walk_at "MINE new"
  case q1 => walk_at "MINE keep"

theorem idx3_c (B : Below A base outer s.heap) (X : (Mine.hd.heap_39 w.params).In base) (T : Top p loose mean mg mb base) (hh : A.handled = none) (hroom : A.depth + 20 < recursionLimit)
    (h1 : @Ne Nat x dx) {q st : Int} {ta tq tst : Tok} (P : Foot base outer s.heap [(x, instObj 144 dx), (dx, walD w.params fx sz c n nr k1 k2 k3 k4 k5 k6 ts)])
    (h : ∀ h' t' n' o2, Keep [dx] s.heap h' → h'.get? dx = some (walD w.params fx sz c n' nr k1 k2 k3 k4 k5 k6 ts) → h'.get? n' = some o2 → o2.IsDictOf (kn w) [] → s.heap.get? n' = none → (n' == sysModules) = false →
      R (.ok (.ret .none)) { s with heap := h', toks := t' }) :
    codeAny (model PySem.Challenge.rw_vq0002_01.row.prog w) A (.call (.ref 105) ⟨[.ref x, .int 3 ta, .int q tq, .int st tst], []⟩) R s := by
  obtain ⟨hd, dp, fr, gs, u⟩ := A
  obtain rfl := B.stack
  obtain rfl := hh
  revert X
  k_fill
  intro X
  walk_at "MINE enter"
  walk_at "MINE steps"
  refine' h _ _ _ _ ?q1 ?q3 ?q4 (by assumption) ?q5 (by assumption)
  case q3 => walk_at "MINE got"
  case q4 => walk_at "MINE got"
  case q5 => walk_at "MINE new"
  case q1 => walk_at "MINE keep"
end
end

/-! ### VRffK -/
theorem fresh21 {M : Model} {A : Around} {env : Env} {Q : Flow → Shared → Prop} {E : Value → Shared → Prop} {s : Shared} (h : Q .next s) : wpAny M A (execs [] env) Q E s := by
  w_top off
  (try walk1)
  all_goals first | exact h | exact wpAny_execs_nil h
section
section
variable {A₀ : Around} {base h₀ h h' gc : Heap} {outer : List Env} {env : Env} {L e t : Addr} {m : Str → Option Value} {fp : List Addr} {fp' news news' : List (Addr × Obj)} {cls : Value} {vs : List Value}
theorem raised_back (B : Below A₀ base outer h₀) (F : Fr h₀ L h m) (N : News h₀ L h news) (hf : env.frame = some L) (KG : Keep fp h gc) (hfp : ∀ a ∈ fp, ∃ o, (a, o) ∈ news)
    (R : RaisedS base gc (env :: outer) e cls t vs fp' h') (U : gc.UpToSlots h') (hn : ∀ q ∈ news', q ∈ fp' ∨ (q ∈ news ∧ q.1 ∉ fp)) (ha : ∀ q ∈ news', ∃ o, (q.1, o) ∈ news) :
    ∃ G, Fr h₀ L G m ∧ G.UpToSlots h' ∧ RaisedS base G (env :: outer) e cls t vs news' h' := by
  have nf : ∀ q ∈ news, q.1 ∉ (env :: outer).filterMap (·.frame) := fun q hq hm => by
    obtain ⟨en, he, hfe⟩ := List.mem_filterMap.mp hm
    rcases List.mem_cons.mp he with rfl | he
    · exact (N q hq).2.1 (Option.some.inj (hfe.symm.trans hf))
    · obtain ⟨L₁, o₁, hf₁, ho₁⟩ := funFrames_in B.frames en he
      rw [hf₁] at hfe
      have := (N q hq).2.2
      rw [← Option.some.inj hfe, ho₁] at this; cases this
  have ng : ∀ b o, (hideAll h (news.map (·.1))).get? b = some o → h.get? b = some o ∧ b ∉ news.map (·.1) := fun b o q => ⟨of_hideAll _ q, fun z => by rw [hideAll_none _ z] at q; cases q⟩
  have gg : ∀ b o, (hideAll h (news.map (·.1))).get? b = some o → gc.get? b = some o := fun b o q => KG b o (ng b o q).1 fun z => by
    obtain ⟨o', ho'⟩ := hfp b z
    exact (ng b o q).2 (List.mem_map.mpr ⟨_, ho', rfl⟩)
  refine ⟨hideAll h (news.map (·.1)), ⟨?_, fun b o q => hideAll_get _ (F.keep b o q) fun z => ?_, F.above⟩, fun b o q hd => U b o (gg b o q) hd, ?_⟩
  · obtain ⟨oL, a1, a2, hoL, a3⟩ := F.ns
    refine ⟨oL, a1, a2, hideAll_get _ hoL fun z => ?_, a3⟩
    obtain ⟨q, hq, e⟩ := List.mem_map.mp z
    exact (N q hq).2.1 e
  · obtain ⟨q', hq, e⟩ := List.mem_map.mp z
    have := (N q' hq).2.2
    rw [e, q] at this; cases this
  · obtain ⟨⟨B₁, r1, r2, r3, r4, r5⟩, r6⟩ := R
    refine ⟨⟨B₁, r1, fun b o q nm => r2 b o (gg b o q) nm, fun q hq => ?_, r4, r5⟩, r6⟩
    obtain ⟨o, ho⟩ := ha q hq
    have hh : (hideAll h (news.map (·.1))).get? q.1 = none := hideAll_none _ (List.mem_map.mpr ⟨_, ho, rfl⟩)
    rcases hn q hq with z | ⟨z, nz⟩
    · exact ⟨(r3 q z).1, hh, (r3 q z).2.2⟩
    · exact ⟨r2 _ _ (KG _ _ (N q z).1 nz) (nf q z), hh, fresh_of_stays B.stays (N q z).2.2⟩
end
section
variable {w : World} {A A₀ : Around} {s : Shared} {base h₀ : Heap} {outer : List Env} {env : Env} {L : Addr} {m : Str → Option Value} {p : Program} {loose : List Str} {mean : ExcName → Option Value} {mg mb : Str → Option Value}
  {x dx b : Addr} {pl : Int} {t1 t2 t3 : Nat} {d : List UInt8} {Q : Value → Shared → Prop} {E : Value → Shared → Prop} {news : List (Addr × Obj)} {g : Obj → List (Addr × Obj)}
theorem rff_K (B : Below A₀ base outer h₀) (X : (Mine.hd.heap_39 w.params).In base) (T : Top p loose mean mg mb base) (F : Fr h₀ L s.heap m) (N : News h₀ L s.heap news)
    (hA : A.frames = some (env :: outer)) (hf : env.frame = some L) (hke : env.scope.kind = .function) (hh : A.handled = none) (hroom : A.depth + 20 < recursionLimit)
    {i j : Int} {ti tj : Tok} (m1 : (x, instObj 194 dx) ∈ news) (U : UpdF dx (octD w.params b pl t1 t2 t3) news g) (m3 : (b, baObj d.toArray) ∈ news) (hne : @Ne Nat x dx) (hb1 : @Ne Nat b x) (hb2 : @Ne Nat b dx) (hz : d.length ≤ 1000000)
    (h0 : 0 ≤ i) (hij : i < j) (hj : j ≤ d.length)
    (h : ∀ h' t' t3' tr r, r = (d.drop i.toNat).take (j - i).toNat → (r.length : Int) = j - i → Fr h₀ L h' m → News h₀ L h' (g (octD w.params b j t1 t2 t3')) → Q (.bytes r.toArray tr) { s with heap := h', toks := t' }) :
    wpAny (model PySem.Challenge.rw_vq0002_01.row.prog w) A (call (.ref 42) [.ref x, .int i ti, .int j tj]) Q E s := by
  obtain ⟨a, rfl⟩ := Int.eq_ofNat_of_zero_le h0
  obtain ⟨k, rfl⟩ : ∃ k : Nat, j = (a : Int) + k := ⟨(j - a).toNat, by omega⟩
  refine wpAny_call (rff_c (call_below B F hA hf hke) X T hh hroom hne hb1 hb2 hz (by omega) (by omega) (call_foot B N hf (subC m1 (subC (updF_mem U) (sub1 m3)))) fun h' t' t3' tr k' ho => ?_)
  refine h h' t' t3' tr _ ?_ ?_ (back_fr F N k' (mods1 (updF_mem U))) (back_upd N U k' ho)
  · rw [Int.toNat_natCast, show ((a : Int) + k - a).toNat = k by omega]
  · rw [List.length_take, List.length_drop]; omega
theorem rffx_K (B : Below A₀ base outer h₀) (X : (Mine.hd.heap_39 w.params).In base) (T : Top p loose mean mg mb base) (F : Fr h₀ L s.heap m) (N : News h₀ L s.heap news)
    (hA : A.frames = some (env :: outer)) (hf : env.frame = some L) (hke : env.scope.kind = .function) (hh : A.handled = none) (hroom : A.depth + 20 < recursionLimit)
    {i j : Int} {ti tj : Tok} (m1 : (x, instObj 194 dx) ∈ news) (U : UpdF dx (octD w.params b pl t1 t2 t3) news g) (m3 : (b, baObj d.toArray) ∈ news) (hne : @Ne Nat x dx) (hb1 : @Ne Nat b x) (hb2 : @Ne Nat b dx) (hz : d.length ≤ 1000000)
    (h0 : 0 ≤ i) (hij : i < j) (hj : d.length < j)
    (h : ∀ h' t' pl' t3' G e t vs, 0 ≤ pl' → Fr h₀ L G m → G.UpToSlots h' → RaisedS base G (env :: outer) e (.ref 24) t vs (g (octD w.params b pl' t1 t2 t3')) h' → E (.ref e) { s with heap := h', toks := t' }) :
    wpAny (model PySem.Challenge.rw_vq0002_01.row.prog w) A (call (.ref 42) [.ref x, .int i ti, .int j tj]) Q E s := by
  obtain ⟨a, rfl⟩ := Int.eq_ofNat_of_zero_le h0
  obtain ⟨k, rfl⟩ : ∃ k : Nat, j = (a : Int) + k := ⟨(j - a).toNat, by omega⟩
  refine wpAny_call (rffx_c (call_below B F hA hf hke) X T hh hroom hne hb1 hb2 hz (by omega) (by omega) (call_foot B N hf (subC m1 (subC (updF_mem U) (sub1 m3)))) fun h' t' gc pl' t3' e t vs p0 KG R UU => ?_)
  have hn : ∀ q ∈ g (octD w.params b pl' t1 t2 t3'), q ∈ [(x, instObj 194 dx), (dx, octD w.params b pl' t1 t2 t3'), (b, baObj d.toArray)] ∨ (q ∈ news ∧ q.1 ∉ [x, dx, b]) := fun q hq => by
    by_cases c : q.1 = dx
    · rw [updF_at U hq c]; exact .inl (.tail _ (.head _))
    · have z := updF_mem_of U hq c
      by_cases c1 : q.1 = x
      · refine .inl ?_
        have e1 := (N q z).1
        rw [c1, (N _ m1).1] at e1
        have : q = (x, instObj 194 dx) := by obtain ⟨q1, q2⟩ := q; cases c1; cases e1; rfl
        rw [this]; exact .head _
      · by_cases c2 : q.1 = b
        · refine .inl ?_
          have e1 := (N q z).1
          rw [c2, (N _ m3).1] at e1
          have : q = (b, baObj d.toArray) := by obtain ⟨q1, q2⟩ := q; cases c2; cases e1; rfl
          rw [this]; exact .tail _ (.tail _ (.head _))
        · exact .inr ⟨z, by simp [c, c1, c2]⟩
  have ha : ∀ q ∈ g (octD w.params b pl' t1 t2 t3'), ∃ o, (q.1, o) ∈ news := fun q hq => by
    by_cases c : q.1 = dx
    · exact ⟨_, c ▸ updF_mem U⟩
    · exact ⟨_, updF_mem_of U hq c⟩
  obtain ⟨G, FG, UG, RG⟩ := raised_back B F N hf KG (modsC m1 (modsC (updF_mem U) (mods1 m3))) R UU hn ha
  exact h h' t' pl' t3' G e t vs p0 FG UG RG
end
end
local macro_rules | `(tactic| walk_at "call ref") => `(tactic| (k_here; (try dsimp only [List.cons_append, List.nil_append]); (with_reducible show wpAny _ _ (call (Value.ref 42) [Value.ref _, Value.int _ _, Value.int _ _]) _ _ _); (with_reducible rename Fr _ _ _ _ => F'); (with_reducible rename News _ _ _ _ => N'); k_dflt (first
  | (refine' rff_K ?B ?X ?T F' N' rfl rfl rfl rfl ?room ?m1 ?U ?m3 ?ne ?b1 ?b2 ?hz ?h0 ?hij ?hj ?_; (case B => assumption); (case X => assumption); (case T => assumption); (case room => k_room); (case m1 => k_mem); (case U => k_updF); (case m3 => k_mem); (case ne => walk_at "MINE ne"); (case b1 => walk_at "MINE ne"); (case b2 => walk_at "MINE ne"); (case hz => omega); (case h0 => omega); (case hij => omega); (case hj => omega); k_whole; intro h' t' t3' tr' r' hr' hl' F' N'; (try k_sweep))
  | (refine' rffx_K ?B ?X ?T F' N' rfl rfl rfl rfl ?room ?m1 ?U ?m3 ?ne ?b1 ?b2 ?hz ?h0 ?hij ?hj ?_; (case B => assumption); (case X => assumption); (case T => assumption); (case room => k_room); (case m1 => k_mem); (case U => k_updF); (case m3 => k_mem); (case ne => walk_at "MINE ne"); (case b1 => walk_at "MINE ne"); (case b2 => walk_at "MINE ne"); (case hz => omega); (case h0 => omega); (case hij => omega); (case hj => omega); k_whole; intro h' t' pl' t3' G' e' t'' vs' p0' FG' UG' RG'))))
local macro_rules | `(tactic| walk_at "call ref") => `(tactic| (k_here; (with_reducible show wpAny _ _ (call (Value.ref _) [Value.bytes (List.toArray _) _, Value.str _ _]) _ _ _); kfb_any; k_dflt (refine' from_leK ?N ?hm ?hl ?_; (case N => k_asm); (case hm => k_mem); (case hl => omega); k_whole); intro _ _))
local macro_rules | `(tactic| walk_at "call ref") => `(tactic| (k_here; (with_reducible show wpAny _ _ (call (Value.ref 105) [Value.ref _, Value.int 1 _, Value.int _ _, Value.int _ _]) _ _ _); (with_reducible rename Fr _ _ _ _ => F'); (with_reducible rename News _ _ _ _ => N'); k_dflt (refine' idx1_K ?B ?X ?T F' N' rfl rfl rfl rfl ?room ?m1 ?m2 ?U ?h1 ?h2 ?h3 ?hN ?hz ?_; (case B => assumption); (case X => assumption); (case T => assumption); (case room => k_room); (case m1 => k_mem); (case m2 => k_mem); (case U => k_updF); (case h1 => walk_at "MINE ne"); (case h2 => walk_at "MINE ne"); (case h3 => walk_at "MINE ne"); (case hN => assumption); (case hz => omega); k_whole); intro h' t' o' F' N' hd'; (try k_sweep)))
local macro_rules | `(tactic| walk_at "call ref") => `(tactic| (k_here; (with_reducible show wpAny _ _ (call (Value.ref 105) [Value.ref _, Value.int 2 _, Value.int _ _, Value.int _ _]) _ _ _); (with_reducible rename Fr _ _ _ _ => F'); (with_reducible rename News _ _ _ _ => N'); k_dflt (refine' idx2_K ?B ?X ?T F' N' rfl rfl rfl rfl ?room ?m1 ?U ?U2 ?m4 ?h1 ?h2 ?h3 ?h4 ?h5 ?h6 ?lo ?hN ?hC ?hz ?hz2 ?_; (case B => assumption); (case X => assumption); (case T => assumption); (case room => k_room); (case m1 => k_mem); (case U => k_updF); (case U2 => intro n'; k_updF); (case m4 => k_mem); (case h1 => walk_at "MINE ne"); (case h2 => walk_at "MINE ne"); (case h3 => walk_at "MINE ne"); (case h4 => walk_at "MINE ne"); (case h5 => walk_at "MINE ne"); (case h6 => walk_at "MINE ne"); (case lo => assumption); (case hN => assumption); (case hC => assumption); (case hz => omega); (case hz2 => omega); k_whole); intro h' t' o' n' o2' F' N' hd' hd2' nn' lo'; (try k_sweep)))
local macro_rules | `(tactic| walk_at "call ref") => `(tactic| (k_here; (with_reducible show wpAny _ _ (call (Value.ref 105) [Value.ref _, Value.int 3 _, Value.int _ _, Value.int _ _]) _ _ _); (with_reducible rename Fr _ _ _ _ => F'); (with_reducible rename News _ _ _ _ => N'); k_dflt (refine' idx3_K ?B ?X ?T F' N' rfl rfl rfl rfl ?room ?m1 ?U ?h1 ?_; (case B => assumption); (case X => assumption); (case T => assumption); (case room => k_room); (case m1 => k_mem); (case U => k_updF); (case h1 => walk_at "MINE ne"); k_whole); intro h' t' n' o2' F' N' hd2' nn' lo'; (try k_sweep)))
local macro_rules | `(tactic| walk_at "call ref") => `(tactic| (k_here; (try dsimp only [List.cons_append, List.nil_append]); (with_reducible show wpAny _ _ (call (Value.ref 205) [Value.ref _, Value.int _ _]) _ _ _); (with_reducible rename Fr _ _ _ _ => F'); (with_reducible rename News _ _ _ _ => N'); k_dflt (refine' next_K ?B ?X ?T F' N' rfl rfl rfl rfl ?room ?U ?m2 ?ne ?i0 ?lim ?xs ?xz ?_; (case B => assumption); (case X => assumption); (case T => assumption); (case room => k_room); (case U => k_updF); (case m2 => k_mem); (case ne => walk_at "MINE ne"); (case i0 => assumption); (case lim => first | decide | omega); (case xs => assumption); (case xz => assumption); k_whole); intro h' t' i' ti' c1' r' tr' F' N' i0' r0' r1'; (try k_sweep)))

/-! ### VGet -/
theorem fresh22 {M : Model} {A : Around} {env : Env} {Q : Flow → Shared → Prop} {E : Value → Shared → Prop} {s : Shared} (h : Q .next s) : wpAny M A (execs [] env) Q E s := by
  w_top off
  (try walk1)
  all_goals first | exact h | exact wpAny_execs_nil h
section
section
variable {w : World} {A : Around} {s : Shared} {base : Heap} {outer : List Env} {p : Program} {loose : List Str} {mean : ExcName → Option Value} {mg mb : Str → Option Value} {R : Result → Shared → Prop}
  {x dx fx fdx b c n : Addr} {sz : Nat} {pl : Int} {nr : Bool} {k1 k2 k3 k4 k5 k6 ts t1 t2 t3 : Nat} {oC oN : Obj} {kc kv : List (Int × Value)} {d : List UInt8}

theorem gpN_c (B : Below A base outer s.heap) (X : (Mine.hd.heap_39 w.params).In base) (T : Top p loose mean mg mb base) (hh : A.handled = none) (hroom : A.depth + 40 < recursionLimit)
    (hD : Apart [x, dx, fx, fdx, b, c, n]) (loN : (n == sysModules) = false) (loC : (c == sysModules) = false) {q : Int} {tq : Tok} {a : Nat} {ta : Tok} (hs : 0 < sz) (hz : d.length ≤ 1000000) (ha : 0 < a) (hin : a + sz ≤ d.length)
    (hN : oN.IsDictOf (kn w) kv) (hC : oC.IsDictOf (kn w) kc) (hv : valueAt kv q = some (.int a ta))
    (P : Foot base outer s.heap [(x, instObj 144 dx), (dx, walD w.params fx sz c n nr k1 k2 k3 k4 k5 k6 ts), (fx, instObj 194 fdx), (fdx, octD w.params b pl t1 t2 t3), (b, baObj d.toArray), (c, oC), (n, oN)])
    (h : ∀ h' t' pl' t3' tr, 0 ≤ pl' → Keep [fdx] s.heap h' → h'.get? fdx = some (octD w.params b pl' t1 t2 t3') → R (.ok (.ret (.bytes ((d.drop a).take sz).toArray tr))) { s with heap := h', toks := t' }) :
    codeAny (model PySem.Challenge.rw_vq0002_01.row.prog w) A (.call (.ref 120) ⟨[.ref x, .int q tq], []⟩) R s := by
  obtain ⟨hd, dp, fr, gs, u⟩ := A
  obtain rfl := B.stack
  obtain rfl := hh
  walk_at "MINE apart"
  revert X
  k_fill
  intro X
  walk_at "MINE enter"
  walk_at "MINE steps"
  with_reducible rename _ = List.take _ _ => hr
  rw [hr, Int.toNat_natCast, show ((a : Int) + sz - a).toNat = sz by omega]
  refine' h _ _ _ _ _ ?q0 ?q1 ?q2
  case q2 => walk_at "MINE got"
  case q1 => walk_at "MINE keep"
  case q0 => omega

theorem gpC_c (B : Below A base outer s.heap) (X : (Mine.hd.heap_39 w.params).In base) (T : Top p loose mean mg mb base) (hh : A.handled = none) (hroom : A.depth + 40 < recursionLimit)
    (hD : Apart [x, dx, fx, fdx, b, c, n]) (loN : (n == sysModules) = false) (loC : (c == sysModules) = false) {q : Int} {tq : Tok} {a : Nat} {ta : Tok} (hs : 0 < sz) (hz : d.length ≤ 1000000) (ha : 0 < a) (hin : a + sz ≤ d.length)
    (hN : oN.IsDictOf (kn w) kv) (hC : oC.IsDictOf (kn w) kc) (hv0 : valueAt kv q = none) (hv : valueAt kc q = some (.int a ta))
    (P : Foot base outer s.heap [(x, instObj 144 dx), (dx, walD w.params fx sz c n nr k1 k2 k3 k4 k5 k6 ts), (fx, instObj 194 fdx), (fdx, octD w.params b pl t1 t2 t3), (b, baObj d.toArray), (c, oC), (n, oN)])
    (h : ∀ h' t' pl' t3' tr, 0 ≤ pl' → Keep [fdx] s.heap h' → h'.get? fdx = some (octD w.params b pl' t1 t2 t3') → R (.ok (.ret (.bytes ((d.drop a).take sz).toArray tr))) { s with heap := h', toks := t' }) :
    codeAny (model PySem.Challenge.rw_vq0002_01.row.prog w) A (.call (.ref 120) ⟨[.ref x, .int q tq], []⟩) R s := by
  obtain ⟨hd, dp, fr, gs, u⟩ := A
  obtain rfl := B.stack
  obtain rfl := hh
  walk_at "MINE apart"
  revert X
  k_fill
  intro X
  walk_at "MINE enter"
  walk_at "MINE steps"
  with_reducible rename _ = List.take _ _ => hr
  rw [hr, Int.toNat_natCast, show ((a : Int) + sz - a).toNat = sz by omega]
  refine' h _ _ _ _ _ ?q0 ?q1 ?q2
  case q2 => walk_at "MINE got"
  case q1 => walk_at "MINE keep"
  case q0 => omega

theorem gp0_c (B : Below A base outer s.heap) (X : (Mine.hd.heap_39 w.params).In base) (T : Top p loose mean mg mb base) (hh : A.handled = none) (hroom : A.depth + 40 < recursionLimit)
    (hD : Apart [x, dx, fx, fdx, b, c, n]) (loN : (n == sysModules) = false) (loC : (c == sysModules) = false) {q : Int} {tq : Tok}
    (hN : oN.IsDictOf (kn w) kv) (hC : oC.IsDictOf (kn w) kc) (hv0 : valueAt kv q = none) (hv : valueAt kc q = none)
    (P : Foot base outer s.heap [(x, instObj 144 dx), (dx, walD w.params fx sz c n nr k1 k2 k3 k4 k5 k6 ts), (fx, instObj 194 fdx), (fdx, octD w.params b pl t1 t2 t3), (b, baObj d.toArray), (c, oC), (n, oN)])
    (h : ∀ h' t', Keep [] s.heap h' → R (.ok (.ret .none)) { s with heap := h', toks := t' }) :
    codeAny (model PySem.Challenge.rw_vq0002_01.row.prog w) A (.call (.ref 120) ⟨[.ref x, .int q tq], []⟩) R s := by
  obtain ⟨hd, dp, fr, gs, u⟩ := A
  obtain rfl := B.stack
  obtain rfl := hh
  walk_at "MINE apart"
  revert X
  k_fill
  intro X
  walk_at "MINE enter"
  walk_at "MINE steps"
  refine' h _ _ ?q1
  case q1 => walk_at "MINE keep"


def pageAt (d : List UInt8) (sz : Nat) (kv kc : List (Int × Value)) (q : Int) : Option (List UInt8) :=
  match valueAt kv q with
  | some (.int a _) => some ((d.drop a.toNat).take sz)
  | _ => match valueAt kc q with
    | some (.int a _) => some ((d.drop a.toNat).take sz)
    | _ => none
def bytesOr (o : Option (List UInt8)) (t : Tok) : Value := match o with
  | some l => .bytes l.toArray t
  | none => .none
/-- the places of pages, within the octets -/
def Places (d : List UInt8) (sz : Nat) (kv : List (Int × Value)) : Prop := ∀ q v, valueAt kv q = some v → ∃ (a : Nat) (t : Tok), v = .int a t ∧ 0 < a ∧ a + sz ≤ d.length
theorem gp_c (B : Below A base outer s.heap) (X : (Mine.hd.heap_39 w.params).In base) (T : Top p loose mean mg mb base) (hh : A.handled = none) (hroom : A.depth + 40 < recursionLimit)
    (hD : Apart [x, dx, fx, fdx, b, c, n]) (loN : (n == sysModules) = false) (loC : (c == sysModules) = false) {q : Int} {tq : Tok} (hs : 0 < sz) (hz : d.length ≤ 1000000) (pN : Places d sz kv) (pC : Places d sz kc) (p0 : 0 ≤ pl)
    (hN : oN.IsDictOf (kn w) kv) (hC : oC.IsDictOf (kn w) kc)
    (P : Foot base outer s.heap [(x, instObj 144 dx), (dx, walD w.params fx sz c n nr k1 k2 k3 k4 k5 k6 ts), (fx, instObj 194 fdx), (fdx, octD w.params b pl t1 t2 t3), (b, baObj d.toArray), (c, oC), (n, oN)])
    (h : ∀ h' t' pl' t3' tr, 0 ≤ pl' → Keep [fdx] s.heap h' → h'.get? fdx = some (octD w.params b pl' t1 t2 t3') → R (.ok (.ret (bytesOr (pageAt d sz kv kc q) tr))) { s with heap := h', toks := t' }) :
    codeAny (model PySem.Challenge.rw_vq0002_01.row.prog w) A (.call (.ref 120) ⟨[.ref x, .int q tq], []⟩) R s := by
  cases e : valueAt kv q with
  | some v =>
    obtain ⟨a, ta, rfl, h1, h2⟩ := pN q v e
    refine gpN_c B X T hh hroom hD loN loC hs hz h1 h2 hN hC e P fun h' t' pl' t3' tr z k ho => ?_
    have := h h' t' pl' t3' tr z k ho
    unfold pageAt at this
    rw [e] at this
    exact this
  | none =>
    cases e2 : valueAt kc q with
    | some v =>
      obtain ⟨a, ta, rfl, h1, h2⟩ := pC q v e2
      refine gpC_c B X T hh hroom hD loN loC hs hz h1 h2 hN hC e e2 P fun h' t' pl' t3' tr z k ho => ?_
      have := h h' t' pl' t3' tr z k ho
      unfold pageAt at this
      rw [e, e2] at this
      exact this
    | none =>
      refine gp0_c B X T hh hroom hD loN loC hN hC e e2 P fun h' t' k => ?_
      have := h h' t' pl t3 0 p0 (k.mono (fun _ z => nomatch z)) (k _ _ (P.at_ (fdx, octD w.params b pl t1 t2 t3) (by simp)) (fun z => nomatch z))
      unfold pageAt at this
      rw [e, e2] at this
      exact this
end
end

/-! ### VIdxK -/
theorem fresh23 {M : Model} {A : Around} {env : Env} {Q : Flow → Shared → Prop} {E : Value → Shared → Prop} {s : Shared} (h : Q .next s) : wpAny M A (execs [] env) Q E s := by
  w_top off
  (try walk1)
  all_goals first | exact h | exact wpAny_execs_nil h
section
def leInt (l : List UInt8) : Int := KFB.value (KBw.bInts l.toArray).reverse
def leB (k : Nat) (x : Int) : List UInt8 := KTBy.low x k
theorem leB_length (k : Nat) (x : Int) : (leB k x).length = k := KTBy.low_length x k
theorem toNat_inj {a b : UInt8} (h : ((a.toNat : Nat) : Int) = (b.toNat : Nat)) : a = b := UInt8.toNat_inj.mp (by omega)
theorem ints_inj : ∀ {l r : List UInt8}, (l.map fun c => ((c.toNat : Nat) : Int)) = (r.map fun c => ((c.toNat : Nat) : Int)) → l = r
  | [], [], _ => rfl
  | [], _ :: _, h => by cases h
  | _ :: _, [], h => by cases h
  | a :: l, b :: r, h => by
    rw [List.map_cons, List.map_cons] at h
    obtain ⟨h1, h2⟩ := List.cons.inj h
    rw [toNat_inj h1, ints_inj h2]
section
variable {prog : Program} {w : World} {A : Around} {E : Value → Shared → Prop} {s : Shared} {h₀ : Heap} {L : Addr} {m : Str → Option Value} {news : List (Addr × Obj)}
theorem to_leK {x : Int} {k : Nat} {t u v : Tok} {B : Int} {Q : Value → Shared → Prop} (hk : k ≤ 8) (hB : (256 : Int) ^ k = B) (h0 : 0 ≤ x) (h1 : x < B) (h : ∀ t' k', Q (.bytes (leB k x).toArray t') { s with toks := k' }) :
    wpAny (model prog w) A (call (.builtin "int.to_bytes") [.int x t, .int (k : Int) u, .str (PySem.Str.ofString "little") v]) Q E s := by
  refine KTBy.to_little hk hB h0 h1 fun b t' k' hb _ => ?_
  have e : b.toList = leB k x := by
    refine ints_inj ?_
    have e2 := KTBy.low_ints (n := k) h0 (by rw [hB]; exact h1)
    rw [← KTBy.little_eq] at e2
    exact hb.trans e2.symm
  have e3 : b = (leB k x).toArray := by rw [← e]
  rw [e3]
  exact h t' k'
theorem from_leK {x : Addr} {l : List UInt8} {t u : Tok} {Q : Value → Shared → Prop} (N : News h₀ L s.heap news) (hm : (x, KFB.bound) ∈ news) (hl : l.length ≤ 8)
    (h : ∀ t' k, Q (.int (leInt l) t') { s with toks := k }) : wpAny (model prog w) A (call (.ref x) [.bytes l.toArray t, .str (PySem.Str.ofString "little") u]) Q E s :=
  KFB.call_little N hm rfl (by rw [KBw.ints_length, List.size_toArray]; exact hl) h
theorem from_leK2 {x : Addr} {l : List UInt8} {v : Int} {t u : Tok} {Q : Value → Shared → Prop} (N : News h₀ L s.heap news) (hm : (x, KFB.bound) ∈ news) (hl : l.length ≤ 8) (e : leInt l = v)
    (h : ∀ t' k, Q (.int v t') { s with toks := k }) : wpAny (model prog w) A (call (.ref x) [.bytes l.toArray t, .str (PySem.Str.ofString "little") u]) Q E s := by
  subst e; exact from_leK N hm hl h
end
section
variable {w : World} {A A₀ : Around} {s : Shared} {base h₀ : Heap} {outer : List Env} {env : Env} {L : Addr} {m : Str → Option Value} {p : Program} {loose : List Str} {mean : ExcName → Option Value} {mg mb : Str → Option Value}
  {x dx fx c n : Addr} {sz : Int} {nr : Bool} {k1 k2 k3 k4 k5 k6 ts : Tok} {oC oN : Obj} {kc kv : List (Int × Value)} {Q : Value → Shared → Prop} {E : Value → Shared → Prop} {news : List (Addr × Obj)} {g : Obj → List (Addr × Obj)} {g2 : Addr → Obj → List (Addr × Obj)}
theorem idx1_K (B : Below A₀ base outer h₀) (X : (Mine.hd.heap_39 w.params).In base) (T : Top p loose mean mg mb base) (F : Fr h₀ L s.heap m) (N : News h₀ L s.heap news)
    (hA : A.frames = some (env :: outer)) (hf : env.frame = some L) (hke : env.scope.kind = .function) (hh : A.handled = none) (hroom : A.depth + 20 < recursionLimit)
    {q st : Int} {ta tq tst : Tok} (m1 : (x, instObj 144 dx) ∈ news) (m2 : (dx, walD w.params fx sz c n nr k1 k2 k3 k4 k5 k6 ts) ∈ news) (U : UpdF n oN news g) (h1 : @Ne Nat x dx) (h2 : @Ne Nat x n) (h3 : @Ne Nat dx n) (hN : oN.IsDictOf (kn w) kv) (hz : kv.length ≤ 1000)
    (h : ∀ h' t' o', Fr h₀ L h' m → News h₀ L h' (g o') → o'.IsDictOf (kn w) (stored kv q (.int st tst)) → Q .none { s with heap := h', toks := t' }) :
    wpAny (model PySem.Challenge.rw_vq0002_01.row.prog w) A (call (.ref 105) [.ref x, .int 1 ta, .int q tq, .int st tst]) Q E s :=
  wpAny_call (idx1_c (call_below B F hA hf hke) X T hh hroom h1 h2 h3 hz hN (call_foot B N hf (subC m1 (subC m2 (sub1 (updF_mem U))))) fun h' t' o' k ho hd => h h' t' o' (back_fr F N k (mods1 (updF_mem U))) (back_upd N U k ho) hd)
theorem new_in {n' : Addr} {o2 : Obj} {h' : Heap} (F : Fr h₀ L s.heap m) (nn : s.heap.get? n' = none) (ho : h'.get? n' = some o2) : h'.get? n' = some o2 ∧ n' ≠ L ∧ h₀.get? n' = none := by
  refine ⟨ho, fun e => ?_, ?_⟩
  · obtain ⟨oL, a1, a2, hoL, a3⟩ := F.ns
    rw [e, hoL] at nn; cases nn
  · cases q : h₀.get? n' with
    | none => rfl
    | some o => rw [F.keep _ _ q] at nn; cases nn
theorem add_to {h' : Heap} {q : Addr × Obj} (N : News h₀ L h' news) (z : h'.get? q.1 = some q.2 ∧ q.1 ≠ L ∧ h₀.get? q.1 = none) : News h₀ L h' (q :: news) := fun r hr => by
  rcases List.mem_cons.mp hr with rfl | hr
  · exact z
  · exact N r hr
theorem idx2_K (B : Below A₀ base outer h₀) (X : (Mine.hd.heap_39 w.params).In base) (T : Top p loose mean mg mb base) (F : Fr h₀ L s.heap m) (N : News h₀ L s.heap news)
    (hA : A.frames = some (env :: outer)) (hf : env.frame = some L) (hke : env.scope.kind = .function) (hh : A.handled = none) (hroom : A.depth + 20 < recursionLimit)
    {q st : Int} {ta tq tst : Tok} (m1 : (x, instObj 144 dx) ∈ news) (U : UpdF dx (walD w.params fx sz c n nr k1 k2 k3 k4 k5 k6 ts) news g) (U2 : ∀ n', UpdF c oC (g (walD w.params fx sz c n' nr k1 k2 k3 k4 k5 k6 ts)) (g2 n')) (m4 : (n, oN) ∈ news)
    (h1 : @Ne Nat x dx) (h2 : @Ne Nat x n) (h3 : @Ne Nat dx n) (h4 : @Ne Nat x c) (h5 : @Ne Nat dx c) (h6 : @Ne Nat c n) (lo : (n == sysModules) = false)
    (hN : oN.IsDictOf (kn w) kv) (hC : oC.IsDictOf (kn w) kc) (hz : kv.length ≤ 1000) (hz2 : kc.length ≤ 1000)
    (h : ∀ h' t' o' n' o2, Fr h₀ L h' m → News h₀ L h' ((n', o2) :: g2 n' o') → o'.IsDictOf (kn w) (merged kc kv) → o2.IsDictOf (kn w) [] → (∀ q ∈ news, @Ne Nat q.1 n') → (n' == sysModules) = false → Q .none { s with heap := h', toks := t' }) :
    wpAny (model PySem.Challenge.rw_vq0002_01.row.prog w) A (call (.ref 105) [.ref x, .int 2 ta, .int q tq, .int st tst]) Q E s :=
  have mc : (c, oC) ∈ news := updF_mem_of U (updF_mem (U2 0)) (Ne.symm h5)
  wpAny_call (idx2_c (call_below B F hA hf hke) X T hh hroom h1 h2 h3 h4 h5 h6 lo hz hz2 hN hC (call_foot B N hf (subC m1 (subC (updF_mem U) (subC mc (sub1 m4))))) fun h' t' o' n' o2 k e1 d1 e2 e3 d2 nn lo' =>
    h h' t' o' n' o2 (back_fr F N k (modsC (updF_mem U) (mods1 mc))) (add_to (back_upd2 N U (U2 n') k h5 e2 e1) (new_in F nn e3)) d1 d2 (fun q hq e => by have := (N q hq).1; rw [show q.1 = n' from e, nn] at this; cases this) lo')
theorem idx3_K (B : Below A₀ base outer h₀) (X : (Mine.hd.heap_39 w.params).In base) (T : Top p loose mean mg mb base) (F : Fr h₀ L s.heap m) (N : News h₀ L s.heap news)
    (hA : A.frames = some (env :: outer)) (hf : env.frame = some L) (hke : env.scope.kind = .function) (hh : A.handled = none) (hroom : A.depth + 20 < recursionLimit)
    {q st : Int} {ta tq tst : Tok} (m1 : (x, instObj 144 dx) ∈ news) (U : UpdF dx (walD w.params fx sz c n nr k1 k2 k3 k4 k5 k6 ts) news g) (h1 : @Ne Nat x dx)
    (h : ∀ h' t' n' o2, Fr h₀ L h' m → News h₀ L h' ((n', o2) :: g (walD w.params fx sz c n' nr k1 k2 k3 k4 k5 k6 ts)) → o2.IsDictOf (kn w) [] → (∀ q ∈ news, @Ne Nat q.1 n') → (n' == sysModules) = false → Q .none { s with heap := h', toks := t' }) :
    wpAny (model PySem.Challenge.rw_vq0002_01.row.prog w) A (call (.ref 105) [.ref x, .int 3 ta, .int q tq, .int st tst]) Q E s :=
  wpAny_call (idx3_c (call_below B F hA hf hke) X T hh hroom h1 (call_foot B N hf (subC m1 (sub1 (updF_mem U)))) fun h' t' n' o2 k e2 e3 d2 nn lo' =>
    h h' t' n' o2 (back_fr F N k (mods1 (updF_mem U))) (add_to (back_upd N U k e2) (new_in F nn e3)) d2 (fun q hq e => by have := (N q hq).1; rw [show q.1 = n' from e, nn] at this; cases this) lo')
end
end
local macro_rules | `(tactic| walk_at "call builtin:int.to_bytes") => `(tactic| (k_here; (with_reducible show wpAny _ _ (call (Value.builtin "int.to_bytes") [Value.int _ _, Value.int _ _, Value.str _ _]) _ _ _); (first
  | (with_unfolding_all refine to_leK (k := 4) (B := 4294967296) (by decide) (by decide) (by omega) (by omega) ?_) | (with_unfolding_all refine to_leK (k := 1) (B := 256) (by decide) (by decide) (by omega) (by omega) ?_)); intro _ _))
local macro_rules | `(tactic| walk_at "call ref") => `(tactic| (k_here; (with_reducible show wpAny _ _ (call (Value.ref _) [Value.bytes (List.toArray _) _, Value.str _ _]) _ _ _); kfb_any; k_dflt (refine' from_leK ?N ?hm ?hl ?_; (case N => k_asm); (case hm => k_mem); (case hl => omega); k_whole); intro _ _))
local macro_rules | `(tactic| walk_at "call ref") => `(tactic| (k_here; (with_reducible show wpAny _ _ (call (Value.ref 105) [Value.ref _, Value.int 1 _, Value.int _ _, Value.int _ _]) _ _ _); (with_reducible rename Fr _ _ _ _ => F'); (with_reducible rename News _ _ _ _ => N'); k_dflt (refine' idx1_K ?B ?X ?T F' N' rfl rfl rfl rfl ?room ?m1 ?m2 ?U ?h1 ?h2 ?h3 ?hN ?hz ?_; (case B => assumption); (case X => assumption); (case T => assumption); (case room => k_room); (case m1 => k_mem); (case m2 => k_mem); (case U => k_updF); (case h1 => walk_at "MINE ne"); (case h2 => walk_at "MINE ne"); (case h3 => walk_at "MINE ne"); (case hN => assumption); (case hz => omega); k_whole); intro h' t' o' F' N' hd'; (try k_sweep)))
local macro_rules | `(tactic| walk_at "call ref") => `(tactic| (k_here; (with_reducible show wpAny _ _ (call (Value.ref 105) [Value.ref _, Value.int 2 _, Value.int _ _, Value.int _ _]) _ _ _); (with_reducible rename Fr _ _ _ _ => F'); (with_reducible rename News _ _ _ _ => N'); k_dflt (refine' idx2_K ?B ?X ?T F' N' rfl rfl rfl rfl ?room ?m1 ?U ?U2 ?m4 ?h1 ?h2 ?h3 ?h4 ?h5 ?h6 ?lo ?hN ?hC ?hz ?hz2 ?_; (case B => assumption); (case X => assumption); (case T => assumption); (case room => k_room); (case m1 => k_mem); (case U => k_updF); (case U2 => intro n'; k_updF); (case m4 => k_mem); (case h1 => walk_at "MINE ne"); (case h2 => walk_at "MINE ne"); (case h3 => walk_at "MINE ne"); (case h4 => walk_at "MINE ne"); (case h5 => walk_at "MINE ne"); (case h6 => walk_at "MINE ne"); (case lo => assumption); (case hN => assumption); (case hC => assumption); (case hz => omega); (case hz2 => omega); k_whole); intro h' t' o' n' o2' F' N' hd' hd2' nn' lo'; (try k_sweep)))
local macro_rules | `(tactic| walk_at "call ref") => `(tactic| (k_here; (with_reducible show wpAny _ _ (call (Value.ref 105) [Value.ref _, Value.int 3 _, Value.int _ _, Value.int _ _]) _ _ _); (with_reducible rename Fr _ _ _ _ => F'); (with_reducible rename News _ _ _ _ => N'); k_dflt (refine' idx3_K ?B ?X ?T F' N' rfl rfl rfl rfl ?room ?m1 ?U ?h1 ?_; (case B => assumption); (case X => assumption); (case T => assumption); (case room => k_room); (case m1 => k_mem); (case U => k_updF); (case h1 => walk_at "MINE ne"); k_whole); intro h' t' n' o2' F' N' hd2' nn' lo'; (try k_sweep)))
local macro_rules | `(tactic| walk_at "call ref") => `(tactic| (k_here; (try dsimp only [List.cons_append, List.nil_append]); (with_reducible show wpAny _ _ (call (Value.ref 205) [Value.ref _, Value.int _ _]) _ _ _); (with_reducible rename Fr _ _ _ _ => F'); (with_reducible rename News _ _ _ _ => N'); k_dflt (refine' next_K ?B ?X ?T F' N' rfl rfl rfl rfl ?room ?U ?m2 ?ne ?i0 ?lim ?xs ?xz ?_; (case B => assumption); (case X => assumption); (case T => assumption); (case room => k_room); (case U => k_updF); (case m2 => k_mem); (case ne => walk_at "MINE ne"); (case i0 => assumption); (case lim => first | decide | omega); (case xs => assumption); (case xz => assumption); k_whole); intro h' t' i' ti' c1' r' tr' F' N' i0' r0' r1'; (try k_sweep)))
local macro_rules | `(tactic| walk_at "binaryOp Add bytes bytes") => `(tactic| (k_here; (with_reducible show wpAny _ _ (binaryOp Operator.Add (Value.bytes (List.toArray _) _) (Value.bytes (List.toArray _) _)) _ _ _); (refine add_octs ?_ ?_; first | omega | (simp only [leB_length, List.length_append]; omega)); intro _ _))

/-! ### VLnf -/
theorem fresh24 {M : Model} {A : Around} {env : Env} {Q : Flow → Shared → Prop} {E : Value → Shared → Prop} {s : Shared} (h : Q .next s) : wpAny M A (execs [] env) Q E s := by
  w_top off
  (try walk1)
  all_goals first | exact h | exact wpAny_execs_nil h
section
section
local macro_rules | `(tactic| walk_at "call ref") => `(tactic| (k_here; (with_reducible show wpAny _ _ (call (Value.ref _) [Value.bytes (List.toArray _) _, Value.str _ _]) _ _ _); kfb_any; refine Stop.go ?_))
variable {w : World} {A : Around} {s : Shared} {base : Heap} {outer : List Env} {p : Program} {loose : List Str} {mean : ExcName → Option Value} {mg mb : Str → Option Value} {R : Result → Shared → Prop}
  {x dx fx fdx b c n : Addr} {sz : Nat} {pl : Nat} {nr : Bool} {k1 k2 k3 k4 k5 k6 ts t1 t2 t3 : Nat} {oC oN : Obj} {kc kv : List (Int × Value)} {d : List UInt8}

theorem lnf_c (B : Below A base outer s.heap) (X : (Mine.hd.heap_39 w.params).In base) (T : Top p loose mean mg mb base) (hh : A.handled = none) (hroom : A.depth + 40 < recursionLimit)
    (hD : Apart [x, dx, fx, fdx, b, c, n]) (lo : (n == sysModules) = false) {kd pg : Int} (hs : 0 < sz) (hsz : sz ≤ 1000) (hz : d.length ≤ 1000000) (hin : pl + 5 ≤ d.length) (hzk : kv.length ≤ 1000) (hzc : kc.length ≤ 1000)
    (hk : kd = 1 ∨ kd = 2 ∨ kd = 3) (hkd : leInt (((d.drop pl).take 5).take 1) = kd) (hpg : leInt ((((d.drop pl).take 5).drop 1).take 4) = pg)
    (hN : oN.IsDictOf (kn w) kv) (hC : oC.IsDictOf (kn w) kc)
    (P : Foot base outer s.heap [(x, instObj 144 dx), (dx, walD w.params fx sz c n nr k1 k2 k3 k4 k5 k6 ts), (fx, instObj 194 fdx), (fdx, octD w.params b (pl : Int) t1 t2 t3), (b, baObj d.toArray), (c, oC), (n, oN)])
    (h1 : kd = 1 → ∀ h' t' t3' o' tt, Keep [fdx, n] s.heap h' → h'.get? fdx = some (octD w.params b ((pl : Int) + 5 + sz) t1 t2 t3') → h'.get? n = some o' → o'.IsDictOf (kn w) (stored kv pg (.int ((pl : Int) + 5) tt)) → R (.ok (.ret .none)) { s with heap := h', toks := t' })
    (h2 : kd = 2 → ∀ h' t' t3' o' n' o2, Keep [fdx, dx, c] s.heap h' → h'.get? fdx = some (octD w.params b ((pl : Int) + 5) t1 t2 t3') → h'.get? c = some o' → o'.IsDictOf (kn w) (merged kc kv) → h'.get? dx = some (walD w.params fx sz c n' nr k1 k2 k3 k4 k5 k6 ts) → h'.get? n' = some o2 → o2.IsDictOf (kn w) [] →
      s.heap.get? n' = none → (n' == sysModules) = false → R (.ok (.ret .none)) { s with heap := h', toks := t' })
    (h3 : kd = 3 → ∀ h' t' t3' n' o2, Keep [fdx, dx] s.heap h' → h'.get? fdx = some (octD w.params b ((pl : Int) + 5) t1 t2 t3') → h'.get? dx = some (walD w.params fx sz c n' nr k1 k2 k3 k4 k5 k6 ts) → h'.get? n' = some o2 → o2.IsDictOf (kn w) [] →
      s.heap.get? n' = none → (n' == sysModules) = false → R (.ok (.ret .none)) { s with heap := h', toks := t' }) :
    codeAny (model PySem.Challenge.rw_vq0002_01.row.prog w) A (.call (.ref 98) ⟨[.ref x], []⟩) R s := by
  obtain ⟨hd, dp, fr, gs, u⟩ := A
  obtain rfl := B.stack
  obtain rfl := hh
  walk_at "MINE apart"
  revert X
  k_fill
  intro X
  walk_at "MINE enter"
  walk_at "MINE steps"
  (with_reducible rename _ = List.take _ (List.drop _ d) => q5)
  rw [show ((pl : Int) + 5 - pl).toNat = 5 by omega, Int.toNat_natCast] at q5
  subst q5
  show wpAny _ _ (call _ _) _ _ _
  refine' from_leK2 (v := kd) ?N ?hm ?hl ?e ?_
  case N => k_asm
  case hm => k_mem
  case hl => omega
  case e => (with_reducible rename _ = List.take _ _ => q1); rw [q1]; exact hkd
  k_whole
  intro _ _
  walk_at "MINE steps"
  show wpAny _ _ (call _ _) _ _ _
  refine' from_leK2 (v := pg) ?N ?hm ?hl ?e ?_
  case N => k_asm
  case hm => k_mem
  case hl => omega
  case e => (with_reducible rename _ = List.take _ _ => q1); rw [q1]; exact hpg
  k_whole
  intro _ _
  clear hkd hpg
  rcases hk with rfl | rfl | rfl
  · clear h2 h3
    walk_at "MINE steps"
    refine' h1 rfl _ _ _ _ _ ?q1 ?q2 ?q3 (by assumption)
    case q2 => walk_at "MINE got"
    case q3 => walk_at "MINE got"
    case q1 => walk_at "MINE keep"
  · clear h1 h3
    walk_at "MINE steps"
    refine' h2 rfl _ _ _ _ _ _ ?q1 ?q2 ?q3 (by assumption) ?q4 ?q5 (by assumption) ?q6 (by assumption)
    case q2 => walk_at "MINE got"
    case q3 => walk_at "MINE got"
    case q4 => walk_at "MINE got"
    case q5 => walk_at "MINE got"
    case q6 => walk_at "MINE new"
    case q1 => walk_at "MINE keep"
  · clear h1 h2
    walk_at "MINE steps"
    refine' h3 rfl _ _ _ _ _ ?q1 ?q2 ?q4 ?q5 (by assumption) ?q6 (by assumption)
    case q2 => walk_at "MINE got"
    case q4 => walk_at "MINE got"
    case q5 => walk_at "MINE got"
    case q6 => walk_at "MINE new"
    case q1 => walk_at "MINE keep"

theorem lnfx_c (B : Below A base outer s.heap) (X : (Mine.hd.heap_39 w.params).In base) (T : Top p loose mean mg mb base) (hh : A.handled = none) (hroom : A.depth + 40 < recursionLimit)
    (hD : Apart [x, dx, fx, fdx, b]) (hz : d.length ≤ 1000000) (hin : d.length < pl + 5) 
    (P : Foot base outer s.heap [(x, instObj 144 dx), (dx, walD w.params fx sz c n nr k1 k2 k3 k4 k5 k6 ts), (fx, instObj 194 fdx), (fdx, octD w.params b (pl : Int) t1 t2 t3), (b, baObj d.toArray)])
    (h : ∀ h' t' g pl' t3' e t vs, 0 ≤ pl' → Keep [x, dx, fx, fdx, b] s.heap g → RaisedS base g outer e (.ref 24) t vs [(x, instObj 144 dx), (dx, walD w.params fx sz c n nr k1 k2 k3 k4 k5 k6 ts), (fx, instObj 194 fdx), (fdx, octD w.params b pl' t1 t2 t3'), (b, baObj d.toArray)] h' → g.UpToSlots h' → R (.error (.ref e)) { s with heap := h', toks := t' }) :
    codeAny (model PySem.Challenge.rw_vq0002_01.row.prog w) A (.call (.ref 98) ⟨[.ref x], []⟩) R s := by
  obtain ⟨hd, dp, fr, gs, u⟩ := A
  obtain rfl := B.stack
  obtain rfl := hh
  walk_at "MINE apart"
  revert X
  k_fill
  intro X
  walk_at "MINE enter"
  walk_at "MINE steps"
  (with_reducible rename RaisedS _ _ _ _ _ _ _ _ _ => S'; with_reducible rename Keep _ _ _ => KG; with_reducible rename Heap.UpToSlots _ _ => U'; exact h _ _ _ _ _ _ _ _ (by assumption) (KG.mono (by simp)) S' U')
end
end

/-! ### VPure -/
theorem fresh25 {M : Model} {A : Around} {env : Env} {Q : Flow → Shared → Prop} {E : Value → Shared → Prop} {s : Shared} (h : Q .next s) : wpAny M A (execs [] env) Q E s := by
  w_top off
  (try walk1)
  all_goals first | exact h | exact wpAny_execs_nil h
section
theorem nm_nil {a : Addr} : a ∉ ([] : List Addr) := fun h => nomatch h
theorem nm_cons {a b : Addr} {l : List Addr} (h : @Ne Nat a b) (t : a ∉ l) : a ∉ b :: l := fun z => (List.mem_cons.mp z).elim h t
theorem alive_keep {h h' : Heap} {mod : List Addr} {a : Addr} (k : Keep mod h h') (z : ∃ o, h.get? a = some o) (m : ∀ b ∈ mod, ∃ o, h'.get? b = some o) : ∃ o, h'.get? a = some o := by
  obtain ⟨o, ho⟩ := z
  by_cases c : a ∈ mod
  · exact m a c
  · exact ⟨o, k a o ho c⟩
theorem sub_nil {α : Type} {l : List α} : ∀ q ∈ ([] : List α), q ∈ l := fun _ h => nomatch h
/-! ## dicts with whole numbers as keys, in plain Lean -/
section
variable {β : Type}
def putP (l : List (Int × β)) (k : Int) (v : β) : List (Int × β) := if l.any (fun p => p.1 = k) then l.map (fun p => if p.1 = k then (p.1, v) else p) else l ++ [(k, v)]
def mergeP (l r : List (Int × β)) : List (Int × β) := r.foldl (fun acc p => putP acc p.1 p.2) l
def lookP (l : List (Int × β)) (k : Int) : Option β := (l.find? fun p => p.1 = k).map (·.2)
inductive All2 (r : Value → β → Prop) : List (Int × Value) → List (Int × β) → Prop
  | nil : All2 r [] []
  | cons {k : Int} {v : Value} {b : β} {l : List (Int × Value)} {l' : List (Int × β)} (h : r v b) (t : All2 r l l') : All2 r ((k, v) :: l) ((k, b) :: l')
variable {r : Value → β → Prop} {kv kv' : List (Int × Value)} {l l' : List (Int × β)} {v : Value} {b : β}
theorem All2.length (h : All2 r kv l) : kv.length = l.length := by
  induction h with
  | nil => rfl
  | cons _ _ ih => rw [List.length_cons, List.length_cons, ih]
theorem All2.any (h : All2 r kv l) (k : Int) : kv.any (fun p => decide (p.1 = k)) = l.any (fun p => decide (p.1 = k)) := by
  induction h with
  | nil => rfl
  | cons _ _ ih => rw [List.any_cons, List.any_cons, ih]
theorem All2.map (h : All2 r kv l) (k : Int) (e : r v b) : All2 r (kv.map fun p => if p.1 = k then (p.1, v) else p) (l.map fun p => if p.1 = k then (p.1, b) else p) := by
  induction h with
  | nil => exact .nil
  | @cons k' v' b' _ _ e' _ ih =>
    rw [List.map_cons, List.map_cons]
    by_cases c : k' = k
    · rw [if_pos c, if_pos c]; exact .cons e ih
    · rw [if_neg c, if_neg c]; exact .cons e' ih
theorem All2.append (h : All2 r kv l) (h' : All2 r kv' l') : All2 r (kv ++ kv') (l ++ l') := by
  induction h with
  | nil => exact h'
  | cons e _ ih => exact .cons e ih
theorem All2.put (h : All2 r kv l) (k : Int) (e : r v b) : All2 r (stored kv k v) (putP l k b) := by
  unfold stored putP
  rw [h.any k]
  split
  · exact h.map k e
  · exact h.append (.cons e .nil)
theorem All2.merge (h' : All2 r kv' l') : ∀ {kv : List (Int × Value)} {l : List (Int × β)}, All2 r kv l → All2 r (merged kv kv') (mergeP l l') := by
  induction h' with
  | nil => intro kv l h; exact h
  | cons e _ ih => intro kv l h; exact ih (h.put _ e)
theorem All2.look (h : All2 r kv l) (k : Int) : (valueAt kv k = none ∧ lookP l k = none) ∨ ∃ v b, valueAt kv k = some v ∧ lookP l k = some b ∧ r v b := by
  induction h with
  | nil => exact .inl ⟨rfl, rfl⟩
  | @cons k' v' b' l₁ l₂ e _ ih =>
    unfold valueAt lookP at ih ⊢
    by_cases c : k' = k
    · rw [List.find?_cons_of_pos (by simpa using c), List.find?_cons_of_pos (by simpa using c)]
      exact .inr ⟨v', b', rfl, rfl, e⟩
    · rw [List.find?_cons_of_neg (by simpa using c), List.find?_cons_of_neg (by simpa using c)]
      exact ih
theorem putP_length (l : List (Int × β)) (k : Int) (v : β) : (putP l k v).length ≤ l.length + 1 := by
  unfold putP; split
  · rw [List.length_map]; omega
  · rw [List.length_append, List.length_cons, List.length_nil]; omega
theorem mergeP_length : ∀ (r l : List (Int × β)), (mergeP l r).length ≤ l.length + r.length
  | [], l => Nat.le_refl _
  | p :: r, l => by
    have h1 := mergeP_length r (putP l p.1 p.2)
    have h2 := putP_length l p.1 p.2
    show (mergeP (putP l p.1 p.2) r).length ≤ _
    rw [List.length_cons]; omega
end
/-- a place, whatever its token -/
def IsPlace (v : Value) (a : Int) : Prop := ∃ t, v = .int a t
/-- octets, whatever their token -/
def IsOcts (v : Value) (l : List UInt8) : Prop := ∃ t, v = .bytes l.toArray t
abbrev Ints (kv : List (Int × Value)) (l : List (Int × Int)) : Prop := All2 IsPlace kv l

def kindAt (d : List UInt8) (pl : Nat) : Int := leInt (((d.drop pl).take 5).take 1)
def pageNo (d : List UInt8) (pl : Nat) : Int := leInt ((((d.drop pl).take 5).drop 1).take 4)
/-- from a place on there stand frames -/
def Ok (d : List UInt8) (sz : Nat) : Nat → Nat → Prop
  | 0, pl => d.length < pl + 5
  | f + 1, pl => d.length < pl + 5 ∨ (kindAt d pl = 1 ∧ Ok d sz f (pl + 5 + sz)) ∨ (kindAt d pl = 2 ∧ Ok d sz f (pl + 5)) ∨ (kindAt d pl = 3 ∧ Ok d sz f (pl + 5))
/-- what the log reads from a place on: the committed pages' places -/
def scan (d : List UInt8) (sz : Nat) : Nat → Nat → List (Int × Int) → List (Int × Int) → List (Int × Int)
  | 0, _, _, C => C
  | f + 1, pl, K, C =>
    if d.length < pl + 5 then C
    else if kindAt d pl = 1 then scan d sz f (pl + 5 + sz) (putP K (pageNo d pl) ((pl : Int) + 5)) C
    else if kindAt d pl = 2 then scan d sz f (pl + 5) [] (mergeP C K)
    else scan d sz f (pl + 5) [] C
end
local macro_rules | `(tactic| walk_at "MINE subs") => `(tactic| first | exact sub_nil | (refine' subC ?sa ?sb; (case sa => k_mem); (case sb => walk_at "MINE subs")))
local macro_rules | `(tactic| walk_at "MINE nm") => `(tactic| first | exact nm_nil | (refine nm_cons (by ((try dsimp only); walk_at "MINE ne")) ?_; walk_at "MINE nm"))

/-! ### VLoad -/
theorem fresh26 {M : Model} {A : Around} {env : Env} {Q : Flow → Shared → Prop} {E : Value → Shared → Prop} {s : Shared} (h : Q .next s) : wpAny M A (execs [] env) Q E s := by
  w_top off
  (try walk1)
  all_goals first | exact h | exact wpAny_execs_nil h
section
/-- all stays but a footprint, and the slots of the frames -/
def KeepT (fs fp : List Addr) (h h' : Heap) : Prop := ∀ a o, h.get? a = some o → a ∉ fp → ∃ sl, h'.get? a = some { o with slots := sl } ∧ (a ∉ fs → sl = o.slots)
theorem Keep.toT {fs fp : List Addr} {h h' : Heap} (k : Keep fp h h') : KeepT fs fp h h' := fun a o e n => ⟨o.slots, k a o e n, fun _ => rfl⟩
theorem KeepT.mono {fs fp fp' : List Addr} {h h' : Heap} (k : KeepT fs fp h h') (s : ∀ a ∈ fp, a ∈ fp') : KeepT fs fp' h h' := fun a o e n => k a o e fun z => n (s a z)
theorem keepT_end {base s h g g2 : Heap} {outer : List Env} {fs : List Addr} {L : Addr} {m : Str → Option Value} {fp news : List (Addr × Obj)} {mod : List Addr} (P : Foot base outer s fp) (KG : Keep (fp.map (·.1)) s g) (Tn : KtsTurn fs g g2) (F : Fr g2 L h m) (N : News g2 L h news)
    (sub : ∀ q ∈ fp, q.1 ∈ mod ∨ q ∈ news) : KeepT fs mod s h := by
  intro a o e n
  by_cases c : a ∈ fp.map (·.1)
  · obtain ⟨q, hq, rfl⟩ := List.mem_map.mp c
    have := P.at_ q hq
    rw [e] at this
    cases this
    rcases sub q hq with z | z
    · exact absurd z n
    · exact ⟨q.2.slots, (N q z).1, fun _ => rfl⟩
  · have e1 := KG a o e c
    by_cases f : a ∈ fs
    · obtain ⟨sl, h2⟩ := Tn.frame a o e1 f
      exact ⟨sl, F.keep _ _ h2, fun z => absurd f z⟩
    · exact ⟨o.slots, F.keep _ _ (Tn.other a o e1 f), fun _ => rfl⟩
theorem new_noneT {g g2 h s : Heap} {L : Addr} {fs fp : List Addr} {news : List (Addr × Obj)} {d : Addr} {o : Obj} (KG : Keep fp s g) (Tn : KtsTurn fs g g2) (N : News g2 L h news) (m : (d, o) ∈ news) (hl : ∀ a ∈ fp, @LT.lt Nat _ a d) : s.get? d = none := by
  cases q : s.get? d with
  | none => rfl
  | some o' =>
    have e1 := KG _ _ q fun z => absurd (hl _ z) (Nat.lt_irrefl _)
    obtain ⟨sl, e2⟩ := Tn.up e1
    have := (N _ m).2.2
    rw [e2] at this
    cases this
theorem got_all {g h : Heap} {L : Addr} {fp news : List (Addr × Obj)} (N : News g L h news) (sub : ∀ q ∈ fp, q ∈ news) : ∀ q ∈ fp, h.get? q.1 = some q.2 := fun q hq => (N q (sub q hq)).1
theorem scan_succ {d : List UInt8} {sz f pl : Nat} {K C : List (Int × Int)} : scan d sz (f + 1) pl K C = if d.length < pl + 5 then C
    else if kindAt d pl = 1 then scan d sz f (pl + 5 + sz) (putP K (pageNo d pl) ((pl : Int) + 5)) C
    else if kindAt d pl = 2 then scan d sz f (pl + 5) [] (mergeP C K)
    else scan d sz f (pl + 5) [] C := rfl
theorem scan_end {d : List UInt8} {sz : Nat} : ∀ {f pl : Nat} {K C : List (Int × Int)}, d.length < pl + 5 → scan d sz f pl K C = C
  | 0, _, _, _, _ => rfl
  | _ + 1, _, _, _, h => by unfold scan; rw [if_pos h]
theorem dicts_keep {base s g : Heap} {outer : List Env} {fp : List (Addr × Obj)} (P : Foot base outer s fp) (KG : Keep (fp.map (·.1)) s g) (D : KtsDicts (outer.filterMap (·.frame)) s) : KtsDicts (outer.filterMap (·.frame)) g := fun b hb => by
  obtain ⟨o, es, n, ho, hd⟩ := D b hb
  refine ⟨o, es, n, KG b o ho fun z => ?_, hd⟩
  obtain ⟨q, hq, e⟩ := List.mem_map.mp z
  obtain ⟨env, he, hf⟩ := List.mem_filterMap.mp hb
  exact P.off env he q hq (by rw [e]; exact hf)
theorem apart_new {x dx fx fdx b c n n' : Nat} (h : Apart [x, dx, fx, fdx, b, c, n]) (k : ∀ a ∈ [x, dx, fx, fdx, b, c], @Ne Nat a n') : Apart [x, dx, fx, fdx, b, c, n'] := by
  simp only [Apart, AllNeN, and_true, true_and] at h ⊢
  simp only [List.mem_cons, List.not_mem_nil, or_false, forall_eq_or_imp, forall_eq] at k
  obtain ⟨⟨h1, h2, h3, h4, h5, _⟩, ⟨h6, h7, h8, h9, _⟩, ⟨h10, h11, h12, _⟩, ⟨h13, h14, _⟩, ⟨h15, _⟩, _⟩ := h
  obtain ⟨q1, q2, q3, q4, q5, q6⟩ := k
  exact ⟨⟨h1, h2, h3, h4, h5, ⟨q1⟩⟩, ⟨h6, h7, h8, h9, ⟨q2⟩⟩, ⟨h10, h11, h12, ⟨q3⟩⟩, ⟨h13, h14, ⟨q4⟩⟩, ⟨h15, ⟨q5⟩⟩, ⟨q6⟩⟩
abbrev walL (w : World) (x dx fx fdx b c n : Addr) (sz pl : Int) (nr : Bool) (k1 k2 k3 k4 k5 k6 ts t1 t2 t3 : Tok) (d : List UInt8) (oC oN : Obj) : List (Addr × Obj) :=
  [(x, instObj 144 dx), (dx, walD w.params fx sz c n nr k1 k2 k3 k4 k5 k6 ts), (fx, instObj 194 fdx), (fdx, octD w.params b pl t1 t2 t3), (b, baObj d.toArray), (c, oC), (n, oN)]
theorem apart5 {x dx fx fdx b c n : Nat} (h : Apart [x, dx, fx, fdx, b, c, n]) : Apart [x, dx, fx, fdx, b] := by
  simp only [Apart, AllNeN, and_true, true_and] at h ⊢
  obtain ⟨⟨h1, h2, h3, h4, _⟩, ⟨h6, h7, h8, _⟩, ⟨h10, h11, _⟩, ⟨h13, _⟩, _⟩ := h
  exact ⟨⟨h1, h2, h3, h4⟩, ⟨h6, h7, h8⟩, ⟨h10, h11⟩, h13⟩
section
variable {w : World} {x dx fx fdx b c n : Addr} {sz pl pl' : Int} {nr : Bool} {k1 k2 k3 k4 k5 k6 ts t1 t2 t3 t3' : Tok} {d : List UInt8} {oC oN : Obj}
theorem walL_hn (hD : Apart [x, dx, fx, fdx, b, c, n]) : ∀ q ∈ walL w x dx fx fdx b c n sz pl' nr k1 k2 k3 k4 k5 k6 ts t1 t2 t3' d oC oN,
    q ∈ [(x, instObj 144 dx), (dx, walD w.params fx sz c n nr k1 k2 k3 k4 k5 k6 ts), (fx, instObj 194 fdx), (fdx, octD w.params b pl' t1 t2 t3'), (b, baObj d.toArray)] ∨
      (q ∈ walL w x dx fx fdx b c n sz pl nr k1 k2 k3 k4 k5 k6 ts t1 t2 t3 d oC oN ∧ q.1 ∉ [x, dx, fx, fdx, b]) := by
  simp only [Apart, AllNeN, and_true, true_and] at hD
  obtain ⟨⟨h1, h2, h3, h4, h5, h6⟩, ⟨h7, h8, h9, h10, h11⟩, ⟨h12, h13, h14, h15⟩, ⟨h16, h17, h18⟩, ⟨h19, h20⟩, h21⟩ := hD
  intro q hq
  rcases List.mem_append.mp (show q ∈ [(x, instObj 144 dx), (dx, walD w.params fx sz c n nr k1 k2 k3 k4 k5 k6 ts), (fx, instObj 194 fdx), (fdx, octD w.params b pl' t1 t2 t3'), (b, baObj d.toArray)] ++ [(c, oC), (n, oN)] from hq) with z | z
  · exact .inl z
  · rcases List.mem_cons.mp z with rfl | z
    · exact .inr ⟨.tail _ (.tail _ (.tail _ (.tail _ (.tail _ (.head _))))), nm_cons h5.ne' (nm_cons h10.ne' (nm_cons h14.ne' (nm_cons h17.ne' (nm_cons h19.ne' nm_nil))))⟩
    · rw [List.mem_singleton.mp z]
      exact .inr ⟨.tail _ (.tail _ (.tail _ (.tail _ (.tail _ (.tail _ (.head _)))))), nm_cons h6.ne' (nm_cons h11.ne' (nm_cons h15.ne' (nm_cons h18.ne' (nm_cons h20.ne' nm_nil))))⟩
theorem walL_five : ∀ q ∈ [(x, instObj 144 dx), (dx, walD w.params fx sz c n nr k1 k2 k3 k4 k5 k6 ts), (fx, instObj 194 fdx), (fdx, octD w.params b pl t1 t2 t3), (b, baObj d.toArray)], q ∈ walL w x dx fx fdx b c n sz pl nr k1 k2 k3 k4 k5 k6 ts t1 t2 t3 d oC oN :=
  subC (.head _) (subC (.tail _ (.head _)) (subC (.tail _ (.tail _ (.head _))) (subC (.tail _ (.tail _ (.tail _ (.head _)))) (sub1 (.tail _ (.tail _ (.tail _ (.tail _ (.head _)))))))))
theorem ne_new {g hp : Heap} {L n' : Addr} (N : News g L hp (walL w x dx fx fdx b c n sz pl nr k1 k2 k3 k4 k5 k6 ts t1 t2 t3 d oC oN)) (nn : hp.get? n' = none) : ∀ a ∈ [x, dx, fx, fdx, b, c], @Ne Nat a n' := by
  have k : ∀ q ∈ walL w x dx fx fdx b c n sz pl nr k1 k2 k3 k4 k5 k6 ts t1 t2 t3 d oC oN, @Ne Nat q.1 n' := fun q hq e => by
    have := (N q hq).1
    rw [show q.1 = n' from e, nn] at this; cases this
  exact List.forall_mem_cons.mpr ⟨k _ (.head _), List.forall_mem_cons.mpr ⟨k _ (.tail _ (.head _)), List.forall_mem_cons.mpr ⟨k _ (.tail _ (.tail _ (.head _))), List.forall_mem_cons.mpr ⟨k _ (.tail _ (.tail _ (.tail _ (.head _)))),
    List.forall_mem_cons.mpr ⟨k _ (.tail _ (.tail _ (.tail _ (.tail _ (.head _))))), List.forall_mem_cons.mpr ⟨k _ (.tail _ (.tail _ (.tail _ (.tail _ (.tail _ (.head _)))))), List.forall_mem_nil _⟩⟩⟩⟩⟩⟩
theorem fresh_back {base s0 g hp : Heap} {outer : List Env} {L n0 n' : Addr} {m : Str → Option Value} {pl0 : Int} {t30 : Tok} {oC0 oN0 : Obj} (P : Foot base outer s0 (walL w x dx fx fdx b c n0 sz pl0 nr k1 k2 k3 k4 k5 k6 ts t1 t2 t30 d oC0 oN0))
    (KG : Keep ((walL w x dx fx fdx b c n0 sz pl0 nr k1 k2 k3 k4 k5 k6 ts t1 t2 t30 d oC0 oN0).map (·.1)) s0 g) (F : Fr g L hp m) (N : News g L hp (walL w x dx fx fdx b c n sz pl nr k1 k2 k3 k4 k5 k6 ts t1 t2 t3 d oC oN))
    (al : ∃ o, hp.get? n0 = some o) (nn : hp.get? n' = none) : s0.get? n' = none := by
  cases q : s0.get? n' with
  | none => rfl
  | some o =>
    have hm : n' ∉ (walL w x dx fx fdx b c n0 sz pl0 nr k1 k2 k3 k4 k5 k6 ts t1 t2 t30 d oC0 oN0).map (·.1) := by
      have k := ne_new N nn
      intro z
      rcases List.mem_append.mp (show n' ∈ [x, dx, fx, fdx, b, c] ++ [n0] from z) with z | z
      · exact k n' z rfl
      · rw [List.mem_singleton.mp z] at nn
        obtain ⟨o, ho⟩ := al
        rw [ho] at nn; cases nn
    have := F.keep _ _ (KG n' o q hm)
    rw [nn] at this; cases this
theorem walL_ha : ∀ q ∈ walL w x dx fx fdx b c n sz pl' nr k1 k2 k3 k4 k5 k6 ts t1 t2 t3' d oC oN, ∃ o, (q.1, o) ∈ walL w x dx fx fdx b c n sz pl nr k1 k2 k3 k4 k5 k6 ts t1 t2 t3 d oC oN :=
  List.forall_mem_cons.mpr ⟨⟨_, .head _⟩, List.forall_mem_cons.mpr ⟨⟨_, .tail _ (.head _)⟩, List.forall_mem_cons.mpr ⟨⟨_, .tail _ (.tail _ (.head _))⟩, List.forall_mem_cons.mpr ⟨⟨_, .tail _ (.tail _ (.tail _ (.head _)))⟩,
    List.forall_mem_cons.mpr ⟨⟨_, .tail _ (.tail _ (.tail _ (.tail _ (.head _))))⟩, List.forall_mem_cons.mpr ⟨⟨_, .tail _ (.tail _ (.tail _ (.tail _ (.tail _ (.head _)))))⟩, List.forall_mem_cons.mpr ⟨⟨_, .tail _ (.tail _ (.tail _ (.tail _ (.tail _ (.tail _ (.head _))))))⟩, List.forall_mem_nil _⟩⟩⟩⟩⟩⟩⟩
end
def LInv (w : World) (g : Heap) (L : Addr) (m : Str → Option Value) (x dx fx fdx b c n0 : Addr) (sz : Nat) (nr : Bool) (k1 k2 k3 k4 k5 k6 ts t1 t2 : Tok) (d : List UInt8) (s0 : Shared) (Cf : List (Int × Int)) (f : Nat) (s' : Shared) : Prop :=
  ∃ (hp : Heap) (tk pl : Nat) (n : Addr) (t3 : Tok) (oC oN : Obj) (kv kc : List (Int × Value)) (K C : List (Int × Int)), s' = { s0 with heap := hp, toks := tk } ∧ Fr g L hp m ∧ News g L hp (walL w x dx fx fdx b c n sz pl nr k1 k2 k3 k4 k5 k6 ts t1 t2 t3 d oC oN) ∧
    oN.IsDictOf (kn w) kv ∧ oC.IsDictOf (kn w) kc ∧ Ints kv K ∧ Ints kc C ∧ Apart [x, dx, fx, fdx, b, c, n] ∧ (n == sysModules) = false ∧ Ok d sz f pl ∧ scan d sz f pl K C = Cf ∧ K.length + C.length + f ≤ 1000 ∧ (n = n0 ∨ s0.heap.get? n = none) ∧ ∃ o, hp.get? n0 = some o
section
local macro_rules | `(tactic| walk_at "call ref") => `(tactic| (k_here; (with_reducible show wpAny _ _ (call (Value.ref _) [Value.bytes (List.toArray _) _, Value.str _ _]) _ _ _); kfb_any; refine Stop.go ?_))
local macro_rules | `(tactic| walk_at "call ref") => `(tactic| (k_here; (try dsimp only [List.cons_append, List.nil_append]); (with_reducible show wpAny _ _ (call (Value.ref 98) [Value.ref _]) _ _ _); refine Stop.go ?_))
local macro_rules | `(tactic| walk_at "exec While") => `(tactic| (k_here; refine Stop.go ?_))
variable {w : World} {A : Around} {s : Shared} {base : Heap} {outer : List Env} {p : Program} {loose : List Str} {mean : ExcName → Option Value} {mg mb : Str → Option Value} {R : Result → Shared → Prop}
  {x dx fx fdx b c n : Addr} {sz : Nat} {pl : Int} {nr : Bool} {k1 k2 k3 k4 k5 k6 ts t1 t2 t3 : Nat} {oC oN : Obj} {d : List UInt8}

theorem load_c (B : Below A base outer s.heap) (X : (Mine.hd.heap_39 w.params).In base) (T : Top p loose mean mg mb base) (hh : A.handled = none) (hroom : A.depth + 60 < recursionLimit) (hKD : KtsDicts (outer.filterMap (·.frame)) s.heap)
    (hD : Apart [x, dx, fx, fdx, b, c, n]) (loN : (n == sysModules) = false) (loC : (c == sysModules) = false) (hs : 0 < sz) (hsz : sz ≤ 1000) (hz : d.length ≤ 1000000) (hin : 4 ≤ d.length)
    (hsd : leInt (d.take 4) = sz) {f : Nat} (hf : f ≤ 900) (hok : Ok d sz f 4)
    (hN : oN.IsDictOf (kn w) []) (hC : oC.IsDictOf (kn w) [])
    (P : Foot base outer s.heap (walL w x dx fx fdx b c n sz pl nr k1 k2 k3 k4 k5 k6 ts t1 t2 t3 d oC oN))
    (h : ∀ h' t' pl' t3' n' oC' oN' kc', 0 ≤ pl' → KeepT (outer.filterMap (·.frame)) [dx, fdx, c, n] s.heap h' → (∀ q ∈ walL w x dx fx fdx b c n' sz pl' nr k1 k2 k3 k4 k5 k6 ts t1 t2 t3' d oC' oN', h'.get? q.1 = some q.2) → oC'.IsDictOf (kn w) kc' → Ints kc' (scan d sz f 4 [] []) → oN'.IsDictOf (kn w) [] →
      (n' = n ∨ s.heap.get? n' = none) → (n' == sysModules) = false → R (.ok (.ret .none)) { s with heap := h', toks := t' }) :
    codeAny (model PySem.Challenge.rw_vq0002_01.row.prog w) A (.call (.ref 91) ⟨[.ref x], []⟩) R s := by
  obtain ⟨hd, dp, fr, gs, u⟩ := A
  obtain rfl := B.stack
  obtain rfl := hh
  have hD0 : Apart [x, dx, fx, fdx, b, c, n] ∧ True := ⟨hD, trivial⟩
  walk_at "MINE apart"
  revert X
  k_fill
  intro X
  walk_at "MINE enter"
  walk_at "MINE steps"
  (with_reducible rename _ = List.take _ (List.drop _ d) => q5)
  rw [show ((4 : Int) - 0).toNat = 4 from rfl, show (0 : Int).toNat = 0 from rfl, List.drop_zero] at q5
  subst q5
  show wpAny _ _ (call _ _) _ _ _
  refine' from_leK2 (v := sz) ?N ?hm ?hl ?e ?_
  case N => k_asm
  case hm => k_mem
  case hl => omega
  case e => exact hsd
  k_whole
  intro _ _
  walk_at "MINE steps"
  show wpAny _ _ (exec _ _) _ _ _
  with_reducible rename Fr _ _ _ _ => F'
  with_reducible rename News _ _ _ _ => N'
  with_reducible rename Keep _ _ _ => KG
  have D' := dicts_keep P KG hKD
  have init (tk : Nat) : LInv w _ _ _ x dx fx fdx b c n sz nr k1 k2 k3 k4 k5 k6 ts t1 t2 d s (scan d sz f 4 [] []) f { s with heap := _, toks := tk } :=
    ⟨_, tk, 4, n, _, oC, oN, [], [], [], [], rfl, F', fun q hq => N' q (.tail _ hq), hN, hC, .nil, .nil, hD0.1, loN, hok, rfl, by simp; omega, .inl rfl, ⟨oN, (N' (n, oN) (by k_mem)).1⟩⟩
  refine wpAny_While (codeAny_whileLoop (LInv w _ _ _ x dx fx fdx b c n sz nr k1 k2 k3 k4 k5 k6 ts t1 t2 d s (scan d sz f 4 [] [])) ?turn f (init _))
  clear init F' N'
  intro f' s' hI
  obtain ⟨hp, tk, plc, n', t3', oC', oN', kv, kc, K, C, rfl, F', N', hN', hC', iN, iC, hD', lo', ok', sc', len', fresh', alive'⟩ := hI
  have hD1 : Apart [x, dx, fx, fdx, b, c, n'] ∧ True := ⟨hD', trivial⟩
  walk_at "MINE apart"
  have hlN := iN.length
  have hlC := iC.length
  (try dsimp only)
  (try k_fold)
  walk_at "MINE steps"
  show wpAny _ _ (call _ _) _ _ _
  with_reducible rename Below _ _ _ _ => B'
  by_cases hr : d.length < plc + 5
  · refine wpAny_call (lnfx_c (sz := sz) (c := c) (n := n') (nr := nr) (k1 := k1) (k2 := k2) (k3 := k3) (k4 := k4) (k5 := k5) (k6 := k6) (ts := ts) (t1 := t1) (t2 := t2) (t3 := t3') (call_below B' F' rfl rfl rfl) X T rfl (by k_room) (apart5 hD1.1) hz hr (call_foot B' N' rfl walL_five) fun h' t' gc pl' t3'' e t vs p0 KG2 R2 U2 => ?_)
    obtain ⟨G, FG, UG, RG⟩ := raised_back (news' := walL w x dx fx fdx b c n' sz pl' nr k1 k2 k3 k4 k5 k6 ts t1 t2 t3'' d oC' oN') B' F' N' rfl KG2 (by walk_at "MINE sub2") R2 U2 (walL_hn hD1.1) walL_ha
    dsimp only
    refine kts_lookS RG FG B' UG D' (fun h₁ R₁ U₁ => ?_)
    refine hit_S0 R₁ FG B' U₁ X T D' KtsTurn.refl ?test (fun h2 g2 n2 T2 F2 N2 G2 N3 B2 X2 P2 D2 => ?_)
    case test => kts_test
    clear N2 G2 R₁ RG R2 U2 KG2 FG UG U₁ F' N'
    walk_at "MINE steps"
    all_goals (
      with_reducible rename News _ _ _ _ => N4
      have iC2 : Ints kc (scan d sz f 4 [] []) := by rw [← sc', scan_end hr]; exact iC
      refine' h _ _ _ _ _ _ _ _ p0 ?kT (got_all N4 ?got) hC' iC2 ?oN ?fr ?lo
      case got => (unfold walL; walk_at "MINE subs")
      case kT => (refine keepT_end P (by assumption) (by assumption) (by assumption) N4 ?_; unfold walL; walk_at "MINE sub")
      case oN => first
        | assumption
        | (have z : kv = [] := by (cases kv with | nil => rfl | cons _ _ => simp_all)
           subst z; assumption)
      case lo => assumption
      case fr => first
        | assumption
        | (refine Or.inr (new_noneT (by assumption) (by assumption) N4 (.head _) ?_); walk_at "MINE lts"))
  · cases f' with
    | zero => exact absurd ok' hr
    | succ f2 =>
      have hk : kindAt d plc = 1 ∨ kindAt d plc = 2 ∨ kindAt d plc = 3 := by
        rcases ok' with z | ⟨z, _⟩ | ⟨z, _⟩ | ⟨z, _⟩
        · exact absurd z hr
        · exact .inl z
        · exact .inr (.inl z)
        · exact .inr (.inr z)
      rw [scan_succ, if_neg hr] at sc'
      refine wpAny_call (lnf_c (kd := kindAt d plc) (pg := pageNo d plc) (sz := sz) (nr := nr) (k1 := k1) (k2 := k2) (k3 := k3) (k4 := k4) (k5 := k5) (k6 := k6) (ts := ts) (t1 := t1) (t2 := t2) (t3 := t3') (call_below B' F' rfl rfl rfl) X T rfl (by k_room) hD1.1 lo' hs hsz hz (by omega) (by omega) (by omega) hk rfl rfl hN' hC' (call_foot B' N' rfl fun q hq => hq) ?h1 ?h2 ?h3)
      case h1 =>
        intro hk1 h' t' t3'' o' tt kp e1 e2 hd
        dsimp only
        have ok3 : Ok d sz f2 (plc + 5 + sz) := by
          rcases ok' with z | ⟨z, y⟩ | ⟨z, _⟩ | ⟨z, _⟩
          · exact absurd z hr
          · exact y
          · rw [hk1] at z; exact absurd z (by decide)
          · rw [hk1] at z; exact absurd z (by decide)
        rw [if_pos hk1] at sc'
        rw [show ((plc : Int) + 5 + sz) = ((plc + 5 + sz : Nat) : Int) by omega] at e1
        repeat (refine wpAny_execs_nil ?_; (try dsimp only))
        refine' ⟨f2, Nat.lt_succ_self _, h', _, plc + 5 + sz, n', t3'', oC', o', _, kc, putP K (pageNo d plc) ((plc : Int) + 5), C, rfl, back_fr F' N' kp ?mods, back_new N' F' kp ?news, hd, hC', iN.put _ ⟨tt, rfl⟩, iC, hD1.1, lo', ok3, sc', ?len, fresh', alive_keep kp alive' ?al⟩
        case mods => unfold walL; walk_at "MINE sub2"
        case news => unfold walL; walk_at "MINE bn"
        case len => have := putP_length K (pageNo d plc) ((plc : Int) + 5); omega
        case al => exact List.forall_mem_cons.mpr ⟨⟨_, e1⟩, List.forall_mem_cons.mpr ⟨⟨_, e2⟩, List.forall_mem_nil _⟩⟩
      case h2 =>
        intro hk1 h' t' t3'' o' n2 o2 kp e1 e2 hd e3 e4 hd2 nn lo2
        dsimp only
        have ok3 : Ok d sz f2 (plc + 5) := by
          rcases ok' with z | ⟨z, _⟩ | ⟨z, y⟩ | ⟨z, _⟩
          · exact absurd z hr
          · rw [hk1] at z; exact absurd z (by decide)
          · exact y
          · rw [hk1] at z; exact absurd z (by decide)
        rw [if_neg (by rw [hk1]; decide), if_pos hk1] at sc'
        rw [show ((plc : Int) + 5) = ((plc + 5 : Nat) : Int) by omega] at e1
        repeat (refine wpAny_execs_nil ?_; (try dsimp only))
        refine' ⟨f2, Nat.lt_succ_self _, h', _, plc + 5, n2, t3'', o', o2, _, _, [], mergeP C K, rfl, back_fr F' N' kp ?mods, back_new N' F' kp ?news, hd2, hd, .nil, iN.merge iC, apart_new hD1.1 ?ap, lo2, ok3, sc', ?len, ?fr, alive_keep kp alive' ?al⟩
        case mods => unfold walL; walk_at "MINE sub2"
        case news => unfold walL; walk_at "MINE bn"
        case ap => exact ne_new N' nn
        case len => have := mergeP_length K C; simp only [List.length_nil]; omega
        case fr => exact .inr (fresh_back P KG F' N' alive' nn)
        case al => exact List.forall_mem_cons.mpr ⟨⟨_, e1⟩, List.forall_mem_cons.mpr ⟨⟨_, e3⟩, List.forall_mem_cons.mpr ⟨⟨_, e2⟩, List.forall_mem_nil _⟩⟩⟩
      case h3 =>
        intro hk1 h' t' t3'' n2 o2 kp e1 e3 e4 hd2 nn lo2
        dsimp only
        have ok3 : Ok d sz f2 (plc + 5) := by
          rcases ok' with z | ⟨z, _⟩ | ⟨z, _⟩ | ⟨z, y⟩
          · exact absurd z hr
          · rw [hk1] at z; exact absurd z (by decide)
          · rw [hk1] at z; exact absurd z (by decide)
          · exact y
        rw [if_neg (by rw [hk1]; decide), if_neg (by rw [hk1]; decide)] at sc'
        rw [show ((plc : Int) + 5) = ((plc + 5 : Nat) : Int) by omega] at e1
        repeat (refine wpAny_execs_nil ?_; (try dsimp only))
        refine' ⟨f2, Nat.lt_succ_self _, h', _, plc + 5, n2, t3'', oC', o2, _, kc, [], C, rfl, back_fr F' N' kp ?mods, back_new N' F' kp ?news, hd2, hC', .nil, iC, apart_new hD1.1 ?ap, lo2, ok3, sc', ?len, ?fr, alive_keep kp alive' ?al⟩
        case mods => unfold walL; walk_at "MINE sub2"
        case news => unfold walL; walk_at "MINE bn"
        case ap => exact ne_new N' nn
        case len => simp only [List.length_nil]; omega
        case fr => exact .inr (fresh_back P KG F' N' alive' nn)
        case al => exact List.forall_mem_cons.mpr ⟨⟨_, e1⟩, List.forall_mem_cons.mpr ⟨⟨_, e3⟩, List.forall_mem_nil _⟩⟩
end
end
local macro_rules | `(tactic| walk_at "MINE keepT") => `(tactic| (refine keepT_end (by assumption) (by assumption) (by assumption) (by assumption) (by assumption) ?_; walk_at "MINE sub"))

/-! ### VHdr -/
theorem fresh27 {M : Model} {A : Around} {env : Env} {Q : Flow → Shared → Prop} {E : Value → Shared → Prop} {s : Shared} (h : Q .next s) : wpAny M A (execs [] env) Q E s := by
  w_top off
  (try walk1)
  all_goals first | exact h | exact wpAny_execs_nil h
section
theorem add_octs {prog : Program} {w : World} {A : Around} {E : Value → Shared → Prop} {s : Shared} {b c : List UInt8} {t u : Tok} {Q : Value → Shared → Prop} (hz : b.length + c.length ≤ 1000000) (h : ∀ t' k, Q (.bytes (b ++ c).toArray t') { s with toks := k }) : wpAny (model prog w) A (binaryOp .Add (.bytes b.toArray t) (.bytes c.toArray u)) Q E s :=
  bytes_add_K (by rw [List.size_toArray, List.size_toArray]; omega) rfl h
theorem truthy_octs {prog : Program} {w : World} {A : Around} {E : Value → Shared → Prop} {s : Shared} {l : List UInt8} {t : Tok} {Q : Bool → Shared → Prop} (hz : l.length ≤ 1000000) (h : Q (decide (0 < l.length)) { s with toks := s.toks + 1 + 1 }) : wpAny (model prog w) A (truthy (.bytes l.toArray t)) Q E s := by
  refine KBw.truthy_K rfl (by rw [KBw.ints_length, List.size_toArray]; omega) ?_
  rw [KBw.ints_length, List.size_toArray]
  exact h
section
variable {w : World} {A A₀ : Around} {s : Shared} {base h₀ : Heap} {outer : List Env} {env : Env} {L : Addr} {m : Str → Option Value} {p : Program} {loose : List Str} {mean : ExcName → Option Value} {mg mb : Str → Option Value}
  {x dx b : Addr} {t1 t2 t3 : Nat} {d : List UInt8} {Q : Value → Shared → Prop} {E : Value → Shared → Prop} {news : List (Addr × Obj)} {g : Obj → List (Addr × Obj)} {g2 : Tok → Obj → List (Addr × Obj)}
theorem wtf_N (B : Below A₀ base outer h₀) (X : (Mine.hd.heap_39 w.params).In base) (T : Top p loose mean mg mb base) (F : Fr h₀ L s.heap m) (N : News h₀ L s.heap news)
    (hA : A.frames = some (env :: outer)) (hf : env.frame = some L) (hke : env.scope.kind = .function) (hh : A.handled = none) (hg : A.guards = some []) (hroom : A.depth + 20 < recursionLimit)
    {e : List UInt8} {te : Tok} {fb : Bool} (he : 0 < e.length) (hz : d.length + e.length ≤ 1000000) (m1 : (x, instObj 194 dx) ∈ news) (U : UpdF dx (octD w.params b d.length t1 t2 t3) news g)
    (U2 : ∀ t3', UpdF b (baObj d.toArray) (g (octD w.params b (d.length + e.length : Int) t1 t2 t3')) (g2 t3')) (hne : @Ne Nat x dx) (hb1 : @Ne Nat b x) (hb2 : @Ne Nat b dx)
    (h : ∀ h' t' t3', Fr h₀ L h' m → News h₀ L h' (g2 t3' (baObj (d ++ e).toArray)) → Q .none { s with heap := h', toks := t' }) :
    wpN (model PySem.Challenge.rw_vq0002_01.row.prog w) A (call (.ref 35) [.ref x, .none, .bytes e.toArray te, .bool fb]) Q E s :=
  have mb : (b, baObj d.toArray) ∈ news := updF_mem_of U (updF_mem (U2 0)) hb2
  n_call (wtf_c (call_below B F hA hf hke) X T hh hg hroom hne hb1 hb2 he hz (call_foot B N hf (subC m1 (subC (updF_mem U) (sub1 mb))))
    fun h' t' t3' k h1 h2 => h h' t' t3' (back_fr F N k (modsC (updF_mem U) (mods1 mb))) (back_upd2 N U (U2 t3') k (Ne.symm hb2) h1 h2))
end
abbrev walD5 (P : Params) (fx : Addr) (sz : Int) (c n : Addr) (k1 k2 k3 k4 k5 ts : Tok) : Obj :=
  dictOf [⟨PyData.keyHash P "_fd", .str "_fd" k1, .ref fx⟩, ⟨PyData.keyHash P "_dir_fd", .str "_dir_fd" k2, .none⟩, ⟨PyData.keyHash P "_page_size", .str "_page_size" k3, .int sz ts⟩,
    ⟨PyData.keyHash P "_committed_pages", .str "_committed_pages" k4, .ref c⟩, ⟨PyData.keyHash P "_not_committed_pages", .str "_not_committed_pages" k5, .ref n⟩] 5
section
variable {w : World} {A : Around} {s : Shared} {base : Heap} {outer : List Env} {p : Program} {loose : List Str} {mean : ExcName → Option Value} {mg mb : Str → Option Value} {R : Result → Shared → Prop}
  {x dx fx fdx b c n : Addr} {sz : Nat} {pl : Int} {k1 k2 k3 k4 k5 ts t1 t2 t3 : Nat}
theorem head_c (B : Below A base outer s.heap) (X : (Mine.hd.heap_39 w.params).In base) (T : Top p loose mean mg mb base) (hh : A.handled = none) (hg : A.guards = some []) (hroom : A.depth + 40 < recursionLimit)
    (hD : Apart [x, dx, fx, fdx, b]) (hsz : sz ≤ 1000)
    (P : Foot base outer s.heap [(x, instObj 144 dx), (dx, walD5 w.params fx sz c n k1 k2 k3 k4 k5 ts), (fx, instObj 194 fdx), (fdx, octD w.params b pl t1 t2 t3), (b, baObj [].toArray)])
    (h : ∀ h' t' t3', Keep [fdx, b] s.heap h' → h'.get? fdx = some (octD w.params b 4 t1 t2 t3') → h'.get? b = some (baObj (leB 4 sz).toArray) → R (.ok (.ret .none)) { s with heap := h', toks := t' }) :
    codeN (model PySem.Challenge.rw_vq0002_01.row.prog w) A (.call (.ref 84) ⟨[.ref x], []⟩) R s := by
  obtain ⟨hd, dp, fr, gs, u⟩ := A
  obtain rfl := B.stack
  obtain rfl := hh
  obtain rfl := hg
  walk_at "MINE apart"
  revert X
  k_fill
  intro X
  walk_at "MINE enterN"
  (try k_lt l1)
  walk_at "MINE any1"
  walk_at "MINE any1"
  refine n_execs_cons (n_Expr (n_Call_Name ?_))
  walk_at "MINE steps"
  refine n_callWithA (K := Mine.hd.heap_39 w.params) (by k_is) ?_
  walk_at "MINE steps"
  (try dsimp only [List.nil_append])
  with_reducible rename Fr _ _ _ _ => F'
  with_reducible rename News _ _ _ _ => N'
  refine' wtf_N (s := ⟨_, _, _, _, _⟩) (d := []) ?B ?X ?T F' N' rfl rfl rfl rfl rfl ?room ?he ?hz ?m1 ?U ?U2 ?ne ?b1 ?b2 ?_
  case B => assumption
  case X => assumption
  case T => assumption
  case room => k_room
  case m1 => k_mem
  case U => k_updF
  case U2 => intro t3'; k_updF
  case ne => walk_at "MINE ne"
  case b1 => walk_at "MINE ne"
  case b2 => walk_at "MINE ne"
  case he => rw [leB_length]; decide
  case hz => rw [leB_length]; decide
  clear F' N'
  intro h' t' t3' F' N'
  (try dsimp only)
  refine n_execs_nil ?_
  (try dsimp only)
  rw [leB_length] at N'
  refine' h _ _ _ ?q1 ?q2 ?q3
  case q3 => walk_at "MINE got"
  case q2 => walk_at "MINE got"
  case q1 => walk_at "MINE keep"
end
end
local macro_rules | `(tactic| walk_at "truthy bytes") => `(tactic| (k_here; (with_reducible show wpAny _ _ (truthy (Value.bytes (List.toArray _) _)) _ _ _); refine truthy_octs (by omega) ?_))
local macro_rules | `(tactic| walk_at "binaryOp Add bytes bytes") => `(tactic| (k_here; (with_reducible show wpAny _ _ (binaryOp Operator.Add (Value.bytes (List.toArray _) _) (Value.bytes (List.toArray _) _)) _ _ _); (refine add_octs ?_ ?_; first | omega | (simp only [leB_length, List.length_append]; omega)); intro _ _))

/-! ### VInit -/
theorem fresh28 {M : Model} {A : Around} {env : Env} {Q : Flow → Shared → Prop} {E : Value → Shared → Prop} {s : Shared} (h : Q .next s) : wpAny M A (execs [] env) Q E s := by
  w_top off
  (try walk1)
  all_goals first | exact h | exact wpAny_execs_nil h
section
theorem n_mcall0 {K : Frag} {M : Model} {A : Around} {E : Value → Shared → Prop} {s : Shared} {env : Env} {o : Expr} {name : Str} {apos pos : Pos} {Q : Value → Shared → Prop} {pl : Sem Bool}
    (h : wpAny M A (eval o env) (fun ov s₁ => wpAny M A (getMethod ov name pl) (fun fx s₂ => K.In s₂.heap ∧ keepIn K fx.1 = true ∧ wpN M A (call fx.1 (fx.2 ++ [])) Q E s₂) E s₁) E s)
    (he : eval (.Call (.Attribute o name apos) [] [] pos) env = (do
      let ov ← eval o env
      standAt apos.atName
      let (f, first) ← holding [ov] (getMethod ov name pl)
      callWith pos f first (backTo pos (starEach [] env)) (backToKw pos (keywordEach [] env))) := by rfl) :
    wpN M A (eval (.Call (.Attribute o name apos) [] [] pos) env) Q E s :=
  n_methodCall (wpAny_mono h (fun _ _ h₁ => wpAny_mono h₁ (fun _ _ h₂ => n_callWith0 h₂.1 h₂.2.1 h₂.2.2) fun _ _ x => x) fun _ _ x => x) he
section
variable {w : World} {A A₀ : Around} {s : Shared} {base h₀ : Heap} {outer : List Env} {env : Env} {L : Addr} {m : Str → Option Value} {p : Program} {loose : List Str} {mean : ExcName → Option Value} {mg mb : Str → Option Value}
  {x dx fx fdx b c n : Addr} {sz : Nat} {pl : Int} {k1 k2 k3 k4 k5 ts t1 t2 t3 : Nat} {Q : Value → Shared → Prop} {E : Value → Shared → Prop} {news : List (Addr × Obj)} {g : Obj → List (Addr × Obj)} {g2 : Tok → Obj → List (Addr × Obj)}
theorem head_N (B : Below A₀ base outer h₀) (X : (Mine.hd.heap_39 w.params).In base) (T : Top p loose mean mg mb base) (F : Fr h₀ L s.heap m) (N : News h₀ L s.heap news)
    (hA : A.frames = some (env :: outer)) (hf : env.frame = some L) (hke : env.scope.kind = .function) (hh : A.handled = none) (hg : A.guards = some []) (hroom : A.depth + 40 < recursionLimit)
    (hD : Apart [x, dx, fx, fdx, b]) (hsz : sz ≤ 1000) (m1 : (x, instObj 144 dx) ∈ news) (m2 : (dx, walD5 w.params fx sz c n k1 k2 k3 k4 k5 ts) ∈ news) (m3 : (fx, instObj 194 fdx) ∈ news) (U : UpdF fdx (octD w.params b pl t1 t2 t3) news g)
    (U2 : ∀ t3', UpdF b (baObj [].toArray) (g (octD w.params b 4 t1 t2 t3')) (g2 t3')) (hb2 : @Ne Nat b fdx)
    (h : ∀ h' t' t3', Fr h₀ L h' m → News h₀ L h' (g2 t3' (baObj (leB 4 sz).toArray)) → Q .none { s with heap := h', toks := t' }) :
    wpN (model PySem.Challenge.rw_vq0002_01.row.prog w) A (call (.ref 84) [.ref x]) Q E s :=
  have mb : (b, baObj [].toArray) ∈ news := updF_mem_of U (updF_mem (U2 0)) hb2
  n_call (head_c (call_below B F hA hf hke) X T hh hg hroom hD hsz (call_foot B N hf (subC m1 (subC m2 (subC m3 (subC (updF_mem U) (sub1 mb))))))
    fun h' t' t3' k h1 h2 => h h' t' t3' (back_fr F N k (modsC (updF_mem U) (mods1 mb))) (back_upd2 N U (U2 t3') k (Ne.symm hb2) h1 h2))
end
abbrev tupObj (l : List Value) : Obj := { cls := .type "tuple", data := .seq l.toArray }
section
variable {w : World} {A : Around} {s : Shared} {base : Heap} {outer : List Env} {p : Program} {loose : List Str} {mean : ExcName → Option Value} {mg mb : Str → Option Value} {R : Result → Shared → Prop}
  {x dx tp o1 fx fdx b : Addr} {sz : Nat} {pl : Int} {ts t1 t2 t3 : Nat}
theorem winit0_c (B : Below A base outer s.heap) (X : (Mine.hd.heap_39 w.params).In base) (T : Top p loose mean mg mb base) (hh : A.handled = none) (hg : A.guards = some []) (hroom : A.depth + 60 < recursionLimit)
    (hD : Apart [x, dx, tp, fx, fdx, b]) (hsz : sz ≤ 1000) {d : List UInt8} (hd0 : d.length = 0)
    (P : Foot base outer s.heap [(x, instObj 144 dx), (dx, dictOf [] 0), (tp, tupObj [.ref o1, .ref fx]), (fx, instObj 194 fdx), (fdx, octD w.params b pl t1 t2 t3), (b, baObj d.toArray)])
    (h : ∀ h' t' c n k1 k2 k3 k4 k5 k6 t3' oC oN, Keep [dx, fdx, b] s.heap h' → (∀ q ∈ walL w x dx fx fdx b c n sz 4 false k1 k2 k3 k4 k5 k6 ts t1 t2 t3' (leB 4 sz) oC oN, h'.get? q.1 = some q.2) → oC.IsDictOf (kn w) [] → oN.IsDictOf (kn w) [] →
      s.heap.get? c = none → s.heap.get? n = none → @LT.lt Nat _ c n → (c == sysModules) = false → (n == sysModules) = false → R (.ok (.ret .none)) { s with heap := h', toks := t' }) :
    codeN (model PySem.Challenge.rw_vq0002_01.row.prog w) A (.call (.ref 70) ⟨[.ref x, .ref tp, .int sz ts], []⟩) R s := by
  obtain ⟨hd, dp, fr, gs, u⟩ := A
  obtain rfl := B.stack
  obtain rfl := hh
  obtain rfl := hg
  have hD0 : Apart [x, dx, tp, fx, fdx, b] ∧ True := ⟨hD, trivial⟩
  walk_at "MINE apart"
  revert X
  k_fill
  intro X
  walk_at "MINE enterN"
  (try k_lt l1)
  walk_at "MINE any1"
  walk_at "MINE any1"
  walk_at "MINE any1"
  walk_at "MINE any1"
  walk_at "MINE any1"
  refine n_execs_cons (n_IfAny ?_)
  k_fold
  walk_at "MINE steps"
  obtain rfl := List.length_eq_zero_iff.mp hd0
  refine n_execs_cons (n_Expr (n_mcall0 (K := Mine.hd.heap_39 w.params) ?_))
  walk_at "MINE steps"
  (try dsimp only [List.cons_append, List.nil_append])
  with_reducible rename Fr _ _ _ _ => F'
  with_reducible rename News _ _ _ _ => N'
  refine' head_N (s := ⟨_, _, _, _, _⟩) ?B ?X ?T F' N' rfl rfl rfl rfl rfl ?room ?hD hsz ?m1 ?m2 ?m3 ?U ?U2 ?b2 ?_
  case B => assumption
  case X => assumption
  case T => assumption
  case room => k_room
  case m1 => k_mem
  case m2 => k_mem
  case m3 => k_mem
  case U => k_updF
  case U2 => intro t3'; k_updF
  case b2 => walk_at "MINE ne"
  case hD => simp only [Apart, AllNeN, and_true]; refine ⟨⟨?_, ?_, ?_, ?_⟩, ⟨?_, ?_, ?_⟩, ⟨?_, ?_⟩, ?_⟩ <;> assumption
  clear F' N'
  intro h' t' t3' F' N'
  (try dsimp only)
  walk_at "MINE any1"
  refine n_execs_nil ?_
  (try dsimp only)
  refine n_execs_nil ?_
  (try dsimp only)
  with_reducible rename News _ _ _ _ => N'
  refine' h _ _ _ _ _ _ _ _ _ _ _ _ _ ?kp (got_all N' ?got) ?hC ?hN ?fc ?fn ?lt ?lc ?ln
  case got => unfold walL; walk_at "MINE subs"
  case kp => walk_at "MINE keep"
  case hC => assumption
  case hN => assumption
  case fc => walk_at "MINE new"
  case fn => walk_at "MINE new"
  case lt => omega
  case lc => assumption
  case ln => assumption
end
end

/-! ### VInitL -/
theorem fresh29 {M : Model} {A : Around} {env : Env} {Q : Flow → Shared → Prop} {E : Value → Shared → Prop} {s : Shared} (h : Q .next s) : wpAny M A (execs [] env) Q E s := by
  w_top off
  (try walk1)
  all_goals first | exact h | exact wpAny_execs_nil h
section
theorem none_back {s g h : Heap} {L a : Addr} {m : Str → Option Value} {fp news : List (Addr × Obj)} (KG : Keep (fp.map (·.1)) s g) (F : Fr g L h m) (N : News g L h news) (sub : ∀ a ∈ fp.map (·.1), ∃ o, (a, o) ∈ news) (nn : h.get? a = none) : s.get? a = none := by
  cases q : s.get? a with
  | none => rfl
  | some o =>
    by_cases c : a ∈ fp.map (·.1)
    · obtain ⟨o2, h2⟩ := sub a c
      have := (N _ h2).1
      rw [nn] at this; cases this
    · have := F.keep _ _ (KG a o q c)
      rw [nn] at this; cases this
theorem keepT_comp {base s g h h' : Heap} {outer : List Env} {env : Env} {L : Addr} {m : Str → Option Value} {fp news : List (Addr × Obj)} {mod mod' : List Addr} (P : Foot base outer s fp) (KG : Keep (fp.map (·.1)) s g) (F : Fr g L h m) (N : News g L h news) (hf : env.frame = some L)
    (kT : KeepT ((env :: outer).filterMap (·.frame)) mod' h h') (sub : ∀ q ∈ fp, q.1 ∈ mod ∨ q ∈ news) (nc : ∀ b ∈ mod', b ∈ mod ∨ s.get? b = none) : KeepT (outer.filterMap (·.frame)) mod s h' := by
  intro a o e n
  have nm : a ∉ mod' := fun z => (nc a z).elim n fun y => by rw [e] at y; cases y
  have hh : h.get? a = some o ∧ a ≠ L := by
    by_cases c : a ∈ fp.map (·.1)
    · obtain ⟨q, hq, rfl⟩ := List.mem_map.mp c
      have := P.at_ q hq
      rw [e] at this
      cases this
      rcases sub q hq with z | z
      · exact absurd z n
      · exact ⟨(N q z).1, (N q z).2.1⟩
    · have e1 := KG a o e c
      exact ⟨F.keep _ _ e1, fun z => by rw [z, kts_self F] at e1; cases e1⟩
  obtain ⟨sl, h1, h2⟩ := kT a o hh.1 nm
  refine ⟨sl, h1, fun z => h2 fun y => ?_⟩
  obtain ⟨en, he, hfe⟩ := List.mem_filterMap.mp y
  rcases List.mem_cons.mp he with rfl | he
  · exact hh.2 (Option.some.inj (hfe.symm.trans hf))
  · exact z (List.mem_filterMap.mpr ⟨en, he, hfe⟩)
theorem dicts_push {base s g h : Heap} {outer : List Env} {env : Env} {L : Addr} {m : Str → Option Value} {fp : List (Addr × Obj)} (P : Foot base outer s fp) (KG : Keep (fp.map (·.1)) s g) (F : Fr g L h m) (hf : env.frame = some L) (D : KtsDicts (outer.filterMap (·.frame)) s) : KtsDicts ((env :: outer).filterMap (·.frame)) h := fun b hb => by
  obtain ⟨en, he, hfe⟩ := List.mem_filterMap.mp hb
  rcases List.mem_cons.mp he with rfl | he
  · obtain ⟨o, es, ep, ho, hd, _⟩ := F.ns
    rw [← Option.some.inj (hfe.symm.trans hf)] at ho
    exact ⟨o, es, ep, ho, hd⟩
  · obtain ⟨o, es, n, ho, hd⟩ := dicts_keep P KG D b (List.mem_filterMap.mpr ⟨en, he, hfe⟩)
    exact ⟨o, es, n, F.keep _ _ ho, hd⟩
section
local macro_rules | `(tactic| walk_at "call ref") => `(tactic| (k_here; (try dsimp only [List.cons_append, List.nil_append]); (with_reducible show wpAny _ _ (call (Value.ref 91) [Value.ref _]) _ _ _); refine Stop.go ?_))
variable {w : World} {A : Around} {s : Shared} {base : Heap} {outer : List Env} {p : Program} {loose : List Str} {mean : ExcName → Option Value} {mg mb : Str → Option Value} {R : Result → Shared → Prop}
  {x dx tp o1 fx fdx b : Addr} {sz : Nat} {pl : Int} {ts t1 t2 t3 : Nat}
theorem winitL_c (B : Below A base outer s.heap) (X : (Mine.hd.heap_39 w.params).In base) (T : Top p loose mean mg mb base) (hh : A.handled = none) (hg : A.guards = some []) (hroom : A.depth + 80 < recursionLimit)
    (hD : Apart [x, dx, tp, fx, fdx, b]) (hsz : sz ≤ 1000) {d : List UInt8} (hs : 0 < sz) (hz : d.length ≤ 1000000) (hin : 4 ≤ d.length) (hsd : leInt (d.take 4) = sz) {f : Nat} (hf : f ≤ 900) (hok : Ok d sz f 4) (hKD : KtsDicts (outer.filterMap (·.frame)) s.heap)
    (P : Foot base outer s.heap [(x, instObj 144 dx), (dx, dictOf [] 0), (tp, tupObj [.ref o1, .ref fx]), (fx, instObj 194 fdx), (fdx, octD w.params b pl t1 t2 t3), (b, baObj d.toArray)])
    (h : ∀ h' t' pl' c n k1 k2 k3 k4 k5 k6 t3' oC oN kc, 0 ≤ pl' → KeepT (outer.filterMap (·.frame)) [dx, fdx] s.heap h' → (∀ q ∈ walL w x dx fx fdx b c n sz pl' true k1 k2 k3 k4 k5 k6 ts t1 t2 t3' d oC oN, h'.get? q.1 = some q.2) → oC.IsDictOf (kn w) kc → Ints kc (scan d sz f 4 [] []) → oN.IsDictOf (kn w) [] →
      s.heap.get? c = none → s.heap.get? n = none → @Ne Nat c n → (c == sysModules) = false → (n == sysModules) = false → R (.ok (.ret .none)) { s with heap := h', toks := t' }) :
    codeN (model PySem.Challenge.rw_vq0002_01.row.prog w) A (.call (.ref 70) ⟨[.ref x, .ref tp, .int sz ts], []⟩) R s := by
  obtain ⟨hd, dp, fr, gs, u⟩ := A
  obtain rfl := B.stack
  obtain rfl := hh
  obtain rfl := hg
  have hD0 : Apart [x, dx, tp, fx, fdx, b] ∧ True := ⟨hD, trivial⟩
  walk_at "MINE apart"
  revert X
  k_fill
  intro X
  walk_at "MINE enterN"
  (try k_lt l1)
  walk_at "MINE any1"
  walk_at "MINE any1"
  walk_at "MINE any1"
  walk_at "MINE any1"
  walk_at "MINE any1"
  refine n_execs_cons (n_IfAny ?_)
  k_fold
  walk_at "MINE steps"
  walk_at "MINE any1"
  refine n_execs_cons (n_any ?_)
  k_fold
  walk_at "MINE steps"
  show wpAny _ _ (call _ _) _ _ _
  with_reducible rename Fr _ _ _ _ => F'
  with_reducible rename News _ _ _ _ => N'
  with_reducible rename Below _ _ _ _ => B'
  with_reducible rename Keep _ _ _ => KG
  refine' wpAny_call (load_c (call_below B' F' rfl rfl rfl) X T rfl ?room ?kd ?hDw ?loN ?loC hs hsz hz hin hsd hf hok ?hNn ?hCc (call_foot B' N' rfl ?sub) ?kk)
  case sub => unfold walL; walk_at "MINE subs"
  case room => k_room
  case kd => exact dicts_push P KG F' rfl hKD
  case loN => assumption
  case loC => assumption
  case hNn => assumption
  case hCc => assumption
  case hDw => simp only [Apart, AllNeN, and_true]; refine ⟨⟨?_, ?_, ?_, ?_, ?_, ?_⟩, ⟨?_, ?_, ?_, ?_, ?_⟩, ⟨?_, ?_, ?_, ?_⟩, ⟨?_, ?_, ?_⟩, ⟨?_, ?_⟩, ?_⟩ <;> first | assumption | exact ⟨by omega⟩
  case kk =>
    intro h' t' pl' t3' n' oC' oN' kc' p0 kT got hdC iC hdN fr lo'
    dsimp only
    refine n_execs_nil ?_
    (try dsimp only)
    refine n_execs_nil ?_
    (try dsimp only)
    refine' h _ _ _ _ _ _ _ _ _ _ _ _ _ _ _ p0 (keepT_comp P KG F' N' rfl kT ?sb ?nc) got hdC iC hdN ?fc ?fn ?ne ?lc lo'
    case sb => walk_at "MINE sub"
    case fc => walk_at "MINE new"
    case lc => assumption
    case fn =>
      rcases fr with rfl | fr
      · walk_at "MINE new"
      · exact none_back KG F' N' (by simp only [List.map_cons, List.map_nil]; walk_at "MINE sub2") fr
    case ne =>
      rcases fr with rfl | fr
      · omega
      · intro e
        have := (N' _ (.tail _ (.head _))).1
        rw [show _ = n' from e, fr] at this
        cases this
    case nc =>
      refine List.forall_mem_cons.mpr ⟨.inl (.head _), List.forall_mem_cons.mpr ⟨.inl (.tail _ (.head _)), List.forall_mem_cons.mpr ⟨.inr ?_, List.forall_mem_cons.mpr ⟨.inr ?_, List.forall_mem_nil _⟩⟩⟩⟩
      · walk_at "MINE new"
      · walk_at "MINE new"
end
end

/-! ### VWkw -/
theorem fresh30 {M : Model} {A : Around} {env : Env} {Q : Flow → Shared → Prop} {E : Value → Shared → Prop} {s : Shared} (h : Q .next s) : wpAny M A (execs [] env) Q E s := by
  w_top off
  (try walk1)
  all_goals first | exact h | exact wpAny_execs_nil h
section
section
variable {w : World} {A : Around} {s : Shared} {base : Heap} {outer : List Env} {p : Program} {loose : List Str} {mean : ExcName → Option Value} {mg mb : Str → Option Value} {R : Result → Shared → Prop}
  {x dx b : Addr} {t1 t2 t3 : Nat} {d : List UInt8}
theorem wtfk_c (B : Below A base outer s.heap) (X : (Mine.hd.heap_39 w.params).In base) (T : Top p loose mean mg mb base) (hh : A.handled = none) (hg : A.guards = some []) (hroom : A.depth + 20 < recursionLimit)
    (hne : @Ne Nat x dx) (hb1 : @Ne Nat b x) (hb2 : @Ne Nat b dx) {e : List UInt8} {te : Tok} {fb : Bool} (he : 0 < e.length) (hz : d.length + e.length ≤ 1000000) (P : Foot base outer s.heap [(x, instObj 194 dx), (dx, octD w.params b d.length t1 t2 t3), (b, baObj d.toArray)])
    (h : ∀ h' t' t3', Keep [dx, b] s.heap h' → h'.get? dx = some (octD w.params b (d.length + e.length : Int) t1 t2 t3') → h'.get? b = some (baObj (d ++ e).toArray) → R (.ok (.ret .none)) { s with heap := h', toks := t' }) :
    codeN (model PySem.Challenge.rw_vq0002_01.row.prog w) A (.call (.ref 35) ⟨[.ref x, .none, .bytes e.toArray te], [("fsync", .bool fb)]⟩) R s := by
  obtain ⟨hd, dp, fr, gs, u⟩ := A
  obtain rfl := B.stack
  obtain rfl := hh
  obtain rfl := hg
  revert X
  k_fill
  intro X
  refine' enter_n ?B ?X ?T _ ?P ?k6 ?k7 ?k8 ?k9 ?kB ?c5 ?c6 ?c7 ?c8 ?_
  case B => assumption
  case X => assumption
  case T => assumption
  case P => assumption
  case k6 => k_is
  case k7 => k_is
  case k8 => k_room
  case k9 => first | exact BindsTo.of_eq rfl | exact binds_K (Frag.In.keeps (by assumption) (Below.stays (by assumption))) rfl (by k_is) rfl rfl rfl
  case kB => exact locs rfl
  case c5 => decide
  case c6 => exact rfl
  case c7 => exact rfl
  case c8 => exact rfl
  intro g' L' h' tk' KG F' N' B' X' T' l1
  try dsimp only
  refine n_execs_cons (n_any ?_)
  k_fold
  (try k_lt l1)
  walk_at "MINE steps"
  (try k_unfold)
  (try dsimp only)
  refine n_execs_cons (n_any ?_)
  k_fold
  walk_at "MINE steps"
  (try k_unfold)
  (try dsimp only)
  refine n_execs_cons (n_While (c_whileTurn ?_))
  walk_at "MINE steps"
  refine n_execs_cons (n_Assign_Name (n_mcall1 (K := Mine.hd.heap_39 w.params) ?_))
  walk_at "MINE steps"
  (try dsimp only)
  with_reducible rename Fr _ _ _ _ => F'
  with_reducible rename News _ _ _ _ => N'
  with_reducible rename _ = List.drop _ _ => hr
  have hr := hr
  rw [show (0 : Int).toNat = 0 from rfl, List.drop_zero] at hr
  subst hr
  refine' write_N (s := ⟨_, _, _, _, _⟩) (B := ?B) (X := ?X) (T := ?T) F' N' rfl rfl rfl rfl rfl ?room he hz ?m1 ?U ?U2 ?ne ?b1 ?b2 ?_
  case B => assumption
  case X => assumption
  case T => assumption
  case room => k_room
  case m1 => k_mem
  case U => k_updF
  case U2 => intro t3'; k_updF
  case ne => assumption
  case b1 => assumption
  case b2 => assumption
  clear F' N'
  intro h' t' t3' tr' F' N'
  (try dsimp only)
  k_fold
  walk_at "MINE steps"
  walk_at "MINE nx"
  refine n_execs_nil ?_
  (try dsimp only)
  refine c_whileTurn ?_
  walk_at "MINE steps"
  refine n_execs_nil ?_
  (try dsimp only)
  refine n_execs_nil ?_
  (try dsimp only)
  refine' h _ _ _ ?q1 ?q2 ?q3
  case q3 => walk_at "MINE got"
  case q2 => walk_at "MINE got"
  case q1 => walk_at "MINE keep"
end
section
variable {w : World} {A A₀ : Around} {s : Shared} {base h₀ : Heap} {outer : List Env} {env : Env} {L : Addr} {m : Str → Option Value} {p : Program} {loose : List Str} {mean : ExcName → Option Value} {mg mb : Str → Option Value}
  {x dx b : Addr} {t1 t2 t3 : Nat} {d : List UInt8} {Q : Value → Shared → Prop} {E : Value → Shared → Prop} {news : List (Addr × Obj)} {g : Obj → List (Addr × Obj)} {g2 : Tok → Obj → List (Addr × Obj)}
theorem wtfk_N (B : Below A₀ base outer h₀) (X : (Mine.hd.heap_39 w.params).In base) (T : Top p loose mean mg mb base) (F : Fr h₀ L s.heap m) (N : News h₀ L s.heap news)
    (hA : A.frames = some (env :: outer)) (hf : env.frame = some L) (hke : env.scope.kind = .function) (hh : A.handled = none) (hg : A.guards = some []) (hroom : A.depth + 20 < recursionLimit)
    {e : List UInt8} {te : Tok} {fb : Bool} (he : 0 < e.length) (hz : d.length + e.length ≤ 1000000) (m1 : (x, instObj 194 dx) ∈ news) (U : UpdF dx (octD w.params b d.length t1 t2 t3) news g)
    (U2 : ∀ t3', UpdF b (baObj d.toArray) (g (octD w.params b (d.length + e.length : Int) t1 t2 t3')) (g2 t3')) (hne : @Ne Nat x dx) (hb1 : @Ne Nat b x) (hb2 : @Ne Nat b dx)
    (h : ∀ h' t' t3', Fr h₀ L h' m → News h₀ L h' (g2 t3' (baObj (d ++ e).toArray)) → Q .none { s with heap := h', toks := t' }) :
    wpN (model PySem.Challenge.rw_vq0002_01.row.prog w) A (call (.ref 35) [.ref x, .none, .bytes e.toArray te] [("fsync", .bool fb)]) Q E s :=
  have mb : (b, baObj d.toArray) ∈ news := updF_mem_of U (updF_mem (U2 0)) hb2
  n_call (wtfk_c (call_below B F hA hf hke) X T hh hg hroom hne hb1 hb2 he hz (call_foot B N hf (subC m1 (subC (updF_mem U) (sub1 mb))))
    fun h' t' t3' k h1 h2 => h h' t' t3' (back_fr F N k (modsC (updF_mem U) (mods1 mb))) (back_upd2 N U (U2 t3') k (Ne.symm hb2) h1 h2))
end
end

/-! ### VAdd -/
theorem fresh31 {M : Model} {A : Around} {env : Env} {Q : Flow → Shared → Prop} {E : Value → Shared → Prop} {s : Shared} (h : Q .next s) : wpAny M A (execs [] env) Q E s := by
  w_top off
  (try walk1)
  all_goals first | exact h | exact wpAny_execs_nil h
section
section
variable {w : World} {A : Around} {s : Shared} {base : Heap} {outer : List Env} {p : Program} {loose : List Str} {mean : ExcName → Option Value} {mg mb : Str → Option Value} {R : Result → Shared → Prop}
  {x dx fx fdx b c n : Addr} {sz : Nat} {pl : Int} {nr : Bool} {k1 k2 k3 k4 k5 k6 ts t1 t2 t3 : Nat} {oC oN : Obj} {kc kv : List (Int × Value)} {d : List UInt8}
theorem addP_c (B : Below A base outer s.heap) (X : (Mine.hd.heap_39 w.params).In base) (T : Top p loose mean mg mb base) (hh : A.handled = none) (hg : A.guards = some []) (hroom : A.depth + 60 < recursionLimit)
    (hD : Apart [x, dx, fx, fdx, b, c, n]) (hs : 0 < sz) (hsz : sz ≤ 1000) (hz : d.length ≤ 900000) (hN : oN.IsDictOf (kn w) kv) (hzk : kv.length ≤ 1000) {pg : Int} (hp0 : 0 < pg) (hp1 : pg < 1000) {e : List UInt8} (he : e.length = sz) {ta tq te : Tok}
    (P : Foot base outer s.heap (walL w x dx fx fdx b c n sz pl nr k1 k2 k3 k4 k5 k6 ts t1 t2 t3 d oC oN))
    (h : ∀ h' t' t3' oN' tt, Keep [fdx, b, n] s.heap h' → (∀ q ∈ walL w x dx fx fdx b c n sz (d.length + 5 + sz) nr k1 k2 k3 k4 k5 k6 ts t1 t2 t3' (d ++ (leB 1 1 ++ leB 4 pg ++ e)) oC oN', h'.get? q.1 = some q.2) → oN'.IsDictOf (kn w) (stored kv pg (.int ((d.length : Int) + 5) tt)) → R (.ok (.ret .none)) { s with heap := h', toks := t' }) :
    codeN (model PySem.Challenge.rw_vq0002_01.row.prog w) A (.call (.ref 113) ⟨[.ref x, .int 1 ta, .int pg tq, .bytes e.toArray te], []⟩) R s := by
  obtain ⟨hd, dp, fr, gs, u⟩ := A
  obtain rfl := B.stack
  obtain rfl := hh
  obtain rfl := hg
  have hD0 : Apart [x, dx, fx, fdx, b, c, n] ∧ True := ⟨hD, trivial⟩
  walk_at "MINE apart"
  unfold walL at P
  revert X
  k_fill
  intro X
  walk_at "MINE enterN"
  (try k_lt l1)
  refine n_execs_cons (n_any ?_)
  k_fold
  walk_at "MINE steps"
  walk_at "MINE nx"
  walk_at "MINE any1"
  walk_at "MINE any1"
  walk_at "MINE any1"
  walk_at "MINE any1"
  walk_at "MINE any1"
  refine n_execs_cons (n_Expr (n_Call_Name ?_))
  walk_at "MINE steps"
  refine n_callWithKW (K := Mine.hd.heap_39 w.params) (by k_is) rfl ?_
  walk_at "MINE steps"
  (try dsimp only [List.nil_append])
  with_reducible rename Fr _ _ _ _ => F'
  with_reducible rename News _ _ _ _ => N'
  refine' wtfk_N (s := ⟨_, _, _, _, _⟩) (d := d) ?B ?X ?T F' N' rfl rfl rfl rfl rfl ?room ?he ?hz ?m1 ?U ?U2 ?ne ?b1 ?b2 ?_
  case B => assumption
  case X => assumption
  case T => assumption
  case room => k_room
  case m1 => k_mem
  case U => k_updF
  case U2 => intro t3'; k_updF
  case ne => walk_at "MINE ne"
  case b1 => walk_at "MINE ne"
  case b2 => walk_at "MINE ne"
  case he => simp only [List.length_append, leB_length]; omega
  case hz => simp only [List.length_append, leB_length]; omega
  clear F' N'
  intro h' t' t3' F' N'
  (try dsimp only)
  refine n_any ?_
  k_fold
  walk_at "MINE steps"
  (with_reducible rename News _ _ _ _ => N2)
  (with_reducible rename Obj.IsDictOf _ _ _ => hd2)
  have hl : (leB 1 1 ++ leB 4 pg ++ e).length = 5 + sz := by simp only [List.length_append, leB_length]; omega
  rw [hl, show ((d.length : Int) + ((5 + sz : Nat) : Int)) = (d.length : Int) + 5 + sz by omega] at N2 hd2
  rw [show ((d.length : Int) + 5 + sz - sz) = (d.length : Int) + 5 by omega] at hd2
  refine' h _ _ _ _ _ ?keep (got_all N2 ?got) hd2
  case got => (unfold walL; walk_at "MINE subs")
  case keep => walk_at "MINE keep"
end
end

/-! ### VAddX -/
theorem fresh32 {M : Model} {A : Around} {env : Env} {Q : Flow → Shared → Prop} {E : Value → Shared → Prop} {s : Shared} (h : Q .next s) : wpAny M A (execs [] env) Q E s := by
  w_top off
  (try walk1)
  all_goals first | exact h | exact wpAny_execs_nil h
section
section
variable {w : World} {A : Around} {s : Shared} {base : Heap} {outer : List Env} {p : Program} {loose : List Str} {mean : ExcName → Option Value} {mg mb : Str → Option Value} {R : Result → Shared → Prop}
  {x dx fx c n : Addr} {sz : Nat} {nr : Bool} {k1 k2 k3 k4 k5 k6 ts : Nat}
theorem addX0_c (B : Below A base outer s.heap) (X : (Mine.hd.heap_39 w.params).In base) (T : Top p loose mean mg mb base) (hh : A.handled = none) (hroom : A.depth + 20 < recursionLimit)
    {e : List UInt8} {ta tq te : Tok} (P : Foot base outer s.heap [])
    (h : ∀ h' t' g e, Keep [] s.heap g → RaisedSN base g outer e (.type "ValueError") [] h' → g.UpToSlots h' → R (.error (.ref e)) { s with heap := h', toks := t' }) :
    codeAny (model PySem.Challenge.rw_vq0002_01.row.prog w) A (.call (.ref 113) ⟨[.ref x, .int 1 ta, .int 0 tq, .bytes e.toArray te], []⟩) R s := by
  obtain ⟨hd, dp, fr, gs, u⟩ := A
  obtain rfl := B.stack
  obtain rfl := hh
  revert X
  k_fill
  intro X
  walk_at "MINE enter"
  walk_at "MINE steps"
  (with_reducible rename RaisedSN _ _ _ _ _ _ _ => S'; with_reducible rename Keep _ _ _ => KG; with_reducible rename Heap.UpToSlots _ _ => U'; exact h _ _ _ _ (KG.mono (by simp)) S' U')
theorem addXL_c (B : Below A base outer s.heap) (X : (Mine.hd.heap_39 w.params).In base) (T : Top p loose mean mg mb base) (hh : A.handled = none) (hroom : A.depth + 20 < recursionLimit)
    (hne : @Ne Nat x dx) {pg : Int} (hp0 : 0 < pg) {e : List UInt8} (he0 : 0 < e.length) (he1 : e.length ≤ 1000) (he : e.length ≠ sz) {ta tq te : Tok} (P : Foot base outer s.heap [(x, instObj 144 dx), (dx, walD w.params fx sz c n nr k1 k2 k3 k4 k5 k6 ts)])
    (h : ∀ h' t' g e, Keep [x, dx] s.heap g → RaisedSN base g outer e (.type "ValueError") [(x, instObj 144 dx), (dx, walD w.params fx sz c n nr k1 k2 k3 k4 k5 k6 ts)] h' → g.UpToSlots h' → R (.error (.ref e)) { s with heap := h', toks := t' }) :
    codeAny (model PySem.Challenge.rw_vq0002_01.row.prog w) A (.call (.ref 113) ⟨[.ref x, .int 1 ta, .int pg tq, .bytes e.toArray te], []⟩) R s := by
  obtain ⟨hd, dp, fr, gs, u⟩ := A
  obtain rfl := B.stack
  obtain rfl := hh
  revert X
  k_fill
  intro X
  walk_at "MINE enter"
  walk_at "MINE steps"
  (with_reducible rename RaisedSN _ _ _ _ _ _ _ => S'; with_reducible rename Keep _ _ _ => KG; with_reducible rename Heap.UpToSlots _ _ => U'; exact h _ _ _ _ (KG.mono (by simp)) S' U')
end
end

/-! ### VAddC -/
theorem fresh33 {M : Model} {A : Around} {env : Env} {Q : Flow → Shared → Prop} {E : Value → Shared → Prop} {s : Shared} (h : Q .next s) : wpAny M A (execs [] env) Q E s := by
  w_top off
  (try walk1)
  all_goals first | exact h | exact wpAny_execs_nil h
section
section
variable {w : World} {A : Around} {s : Shared} {base : Heap} {outer : List Env} {p : Program} {loose : List Str} {mean : ExcName → Option Value} {mg mb : Str → Option Value} {R : Result → Shared → Prop}
  {x dx fx fdx b c n : Addr} {sz : Nat} {pl : Int} {nr : Bool} {k1 k2 k3 k4 k5 k6 ts t1 t2 t3 : Nat} {oC oN : Obj} {kc kv : List (Int × Value)} {d : List UInt8}
theorem addC_c (B : Below A base outer s.heap) (X : (Mine.hd.heap_39 w.params).In base) (T : Top p loose mean mg mb base) (hh : A.handled = none) (hg : A.guards = some []) (hroom : A.depth + 60 < recursionLimit)
    (hD : Apart [x, dx, fx, fdx, b, c, n]) (hz : d.length ≤ 900000) (hN : oN.IsDictOf (kn w) kv) (hC : oC.IsDictOf (kn w) kc) (lo : (n == sysModules) = false) (hzk : kv.length ≤ 1000) (hzc : kc.length ≤ 1000) {ta : Tok}
    (P : Foot base outer s.heap (walL w x dx fx fdx b c n sz pl nr k1 k2 k3 k4 k5 k6 ts t1 t2 t3 d oC oN))
    (h : ∀ h' t' t3' oC' n' oN', Keep [fdx, b, c, dx] s.heap h' → (∀ q ∈ walL w x dx fx fdx b c n' sz (d.length + 5) nr k1 k2 k3 k4 k5 k6 ts t1 t2 t3' (d ++ (leB 1 2 ++ leB 4 0)) oC' oN', h'.get? q.1 = some q.2) → oC'.IsDictOf (kn w) (merged kc kv) → oN'.IsDictOf (kn w) [] →
      s.heap.get? n' = none → (n' == sysModules) = false → R (.ok (.ret .none)) { s with heap := h', toks := t' }) :
    codeN (model PySem.Challenge.rw_vq0002_01.row.prog w) A (.call (.ref 113) ⟨[.ref x, .int 2 ta], []⟩) R s := by
  obtain ⟨hd, dp, fr, gs, u⟩ := A
  obtain rfl := B.stack
  obtain rfl := hh
  obtain rfl := hg
  have hD0 : Apart [x, dx, fx, fdx, b, c, n] ∧ True := ⟨hD, trivial⟩
  walk_at "MINE apart"
  unfold walL at P
  revert X
  k_fill
  intro X
  walk_at "MINE enterN"
  (try k_lt l1)
  refine n_execs_cons (n_any ?_)
  k_fold
  walk_at "MINE steps"
  walk_at "MINE nx"
  walk_at "MINE any1"
  walk_at "MINE any1"
  walk_at "MINE any1"
  walk_at "MINE any1"
  walk_at "MINE any1"
  refine n_execs_cons (n_Expr (n_Call_Name ?_))
  walk_at "MINE steps"
  refine n_callWithKW (K := Mine.hd.heap_39 w.params) (by k_is) rfl ?_
  walk_at "MINE steps"
  (try dsimp only [List.nil_append])
  with_reducible rename Fr _ _ _ _ => F'
  with_reducible rename News _ _ _ _ => N'
  refine' wtfk_N (s := ⟨_, _, _, _, _⟩) (d := d) ?B ?X ?T F' N' rfl rfl rfl rfl rfl ?room ?he ?hz ?m1 ?U ?U2 ?ne ?b1 ?b2 ?_
  case B => assumption
  case X => assumption
  case T => assumption
  case room => k_room
  case m1 => k_mem
  case U => k_updF
  case U2 => intro t3'; k_updF
  case ne => walk_at "MINE ne"
  case b1 => walk_at "MINE ne"
  case b2 => walk_at "MINE ne"
  case he => simp only [List.length_append, leB_length, List.length_nil]; omega
  case hz => simp only [List.length_append, leB_length, List.length_nil]; omega
  clear F' N'
  intro h' t' t3' F' N'
  (try dsimp only)
  refine n_any ?_
  k_fold
  walk_at "MINE steps"
  (with_reducible rename News _ _ _ _ => N2)
  rw [List.append_nil, show ((leB 1 2 ++ leB 4 0).length : Int) = 5 by simp [leB_length]] at N2
  refine' h _ _ _ _ _ _ ?keep (got_all N2 ?got) ?d1 ?d2 ?new ?lo
  case got => (unfold walL; walk_at "MINE subs")
  case d1 => assumption
  case d2 => assumption
  case lo => assumption
  case new => walk_at "MINE new"
  case keep => walk_at "MINE keep"
theorem addR_c (B : Below A base outer s.heap) (X : (Mine.hd.heap_39 w.params).In base) (T : Top p loose mean mg mb base) (hh : A.handled = none) (hg : A.guards = some []) (hroom : A.depth + 60 < recursionLimit)
    (hD : Apart [x, dx, fx, fdx, b, c, n]) (hz : d.length ≤ 900000) (hN : oN.IsDictOf (kn w) kv) (lo : (n == sysModules) = false) (hzk : kv.length ≤ 1000) {ta : Tok}
    (P : Foot base outer s.heap (walL w x dx fx fdx b c n sz pl nr k1 k2 k3 k4 k5 k6 ts t1 t2 t3 d oC oN))
    (h : ∀ h' t' t3' n' oN', Keep [fdx, b, dx] s.heap h' → (∀ q ∈ walL w x dx fx fdx b c n' sz (d.length + 5) nr k1 k2 k3 k4 k5 k6 ts t1 t2 t3' (d ++ (leB 1 3 ++ leB 4 0)) oC oN', h'.get? q.1 = some q.2) → oN'.IsDictOf (kn w) [] →
      s.heap.get? n' = none → (n' == sysModules) = false → R (.ok (.ret .none)) { s with heap := h', toks := t' }) :
    codeN (model PySem.Challenge.rw_vq0002_01.row.prog w) A (.call (.ref 113) ⟨[.ref x, .int 3 ta], []⟩) R s := by
  obtain ⟨hd, dp, fr, gs, u⟩ := A
  obtain rfl := B.stack
  obtain rfl := hh
  obtain rfl := hg
  have hD0 : Apart [x, dx, fx, fdx, b, c, n] ∧ True := ⟨hD, trivial⟩
  walk_at "MINE apart"
  unfold walL at P
  revert X
  k_fill
  intro X
  walk_at "MINE enterN"
  (try k_lt l1)
  refine n_execs_cons (n_any ?_)
  k_fold
  walk_at "MINE steps"
  walk_at "MINE nx"
  walk_at "MINE any1"
  walk_at "MINE any1"
  walk_at "MINE any1"
  walk_at "MINE any1"
  walk_at "MINE any1"
  refine n_execs_cons (n_Expr (n_Call_Name ?_))
  walk_at "MINE steps"
  refine n_callWithKW (K := Mine.hd.heap_39 w.params) (by k_is) rfl ?_
  walk_at "MINE steps"
  (try dsimp only [List.nil_append])
  with_reducible rename Fr _ _ _ _ => F'
  with_reducible rename News _ _ _ _ => N'
  refine' wtfk_N (s := ⟨_, _, _, _, _⟩) (d := d) ?B ?X ?T F' N' rfl rfl rfl rfl rfl ?room ?he ?hz ?m1 ?U ?U2 ?ne ?b1 ?b2 ?_
  case B => assumption
  case X => assumption
  case T => assumption
  case room => k_room
  case m1 => k_mem
  case U => k_updF
  case U2 => intro t3'; k_updF
  case ne => walk_at "MINE ne"
  case b1 => walk_at "MINE ne"
  case b2 => walk_at "MINE ne"
  case he => simp only [List.length_append, leB_length, List.length_nil]; omega
  case hz => simp only [List.length_append, leB_length, List.length_nil]; omega
  clear F' N'
  intro h' t' t3' F' N'
  (try dsimp only)
  refine n_any ?_
  k_fold
  walk_at "MINE steps"
  (with_reducible rename News _ _ _ _ => N2)
  rw [List.append_nil, show ((leB 1 3 ++ leB 4 0).length : Int) = 5 by simp [leB_length]] at N2
  refine' h _ _ _ _ _ ?keep (got_all N2 ?got) ?d2 ?new ?lo
  case got => (unfold walL; walk_at "MINE subs")
  case d2 => assumption
  case lo => assumption
  case new => walk_at "MINE new"
  case keep => walk_at "MINE keep"
end
end

/-! ### VSet -/
theorem fresh34 {M : Model} {A : Around} {env : Env} {Q : Flow → Shared → Prop} {E : Value → Shared → Prop} {s : Shared} (h : Q .next s) : wpAny M A (execs [] env) Q E s := by
  w_top off
  (try walk1)
  all_goals first | exact h | exact wpAny_execs_nil h
section
/-- how a log may come back from a method of its own -/
def WalPost (w : World) (s : Shared) (x dx fx fdx b c n : Addr) (sz pl' : Int) (nr : Bool) (k1 k2 k3 k4 k5 k6 ts t1 t2 : Tok) (d' : List UInt8) (kc' : List (Int × Value)) (kn' : Tok → List (Int × Value)) (R : Shared → Prop) : Prop :=
  ∀ h' t' t3' n' oC' oN' tt, Keep [dx, fdx, b, c, n] s.heap h' → (∀ q ∈ walL w x dx fx fdx b c n' sz pl' nr k1 k2 k3 k4 k5 k6 ts t1 t2 t3' d' oC' oN', h'.get? q.1 = some q.2) → oC'.IsDictOf (kn w) kc' → oN'.IsDictOf (kn w) (kn' tt) →
    (n' = n ∨ s.heap.get? n' = none) → (n' == sysModules) = false → R { s with heap := h', toks := t' }
section
variable {w : World} {x dx fx fdx b c n n' : Addr} {sz pl pl' : Int} {nr : Bool} {k1 k2 k3 k4 k5 k6 ts t1 t2 t3 t3' : Tok} {d d' : List UInt8} {oC oN oC' oN' : Obj}
theorem walL_ha2 : ∀ q ∈ walL w x dx fx fdx b c n' sz pl' nr k1 k2 k3 k4 k5 k6 ts t1 t2 t3' d' oC' oN', (∃ o, (q.1, o) ∈ walL w x dx fx fdx b c n sz pl nr k1 k2 k3 k4 k5 k6 ts t1 t2 t3 d oC oN) ∨ q.1 = n' :=
  List.forall_mem_cons.mpr ⟨.inl ⟨_, .head _⟩, List.forall_mem_cons.mpr ⟨.inl ⟨_, .tail _ (.head _)⟩, List.forall_mem_cons.mpr ⟨.inl ⟨_, .tail _ (.tail _ (.head _))⟩, List.forall_mem_cons.mpr ⟨.inl ⟨_, .tail _ (.tail _ (.tail _ (.head _)))⟩,
    List.forall_mem_cons.mpr ⟨.inl ⟨_, .tail _ (.tail _ (.tail _ (.tail _ (.head _))))⟩, List.forall_mem_cons.mpr ⟨.inl ⟨_, .tail _ (.tail _ (.tail _ (.tail _ (.tail _ (.head _)))))⟩, List.forall_mem_cons.mpr ⟨.inr rfl, List.forall_mem_nil _⟩⟩⟩⟩⟩⟩⟩
theorem wal_mods : ∀ a ∈ [dx, fdx, b, c, n], ∃ o, (a, o) ∈ walL w x dx fx fdx b c n sz pl nr k1 k2 k3 k4 k5 k6 ts t1 t2 t3 d oC oN :=
  List.forall_mem_cons.mpr ⟨⟨_, .tail _ (.head _)⟩, List.forall_mem_cons.mpr ⟨⟨_, .tail _ (.tail _ (.tail _ (.head _)))⟩, List.forall_mem_cons.mpr ⟨⟨_, .tail _ (.tail _ (.tail _ (.tail _ (.head _))))⟩,
    List.forall_mem_cons.mpr ⟨⟨_, .tail _ (.tail _ (.tail _ (.tail _ (.tail _ (.head _)))))⟩, List.forall_mem_cons.mpr ⟨⟨_, .tail _ (.tail _ (.tail _ (.tail _ (.tail _ (.tail _ (.head _))))))⟩, List.forall_mem_nil _⟩⟩⟩⟩⟩
/-- the ledger of a caller behind such a method: what else it holds stays -/
theorem wal_back {h₀ h h' : Heap} {L : Addr} {m : Str → Option Value} {rest : List (Addr × Obj)} (F : Fr h₀ L h m) (N : News h₀ L h (walL w x dx fx fdx b c n sz pl nr k1 k2 k3 k4 k5 k6 ts t1 t2 t3 d oC oN ++ rest))
    (k : Keep [dx, fdx, b, c, n] h h') (hr : ∀ q ∈ rest, q.1 ∉ [dx, fdx, b, c, n]) (ga : ∀ q ∈ walL w x dx fx fdx b c n' sz pl' nr k1 k2 k3 k4 k5 k6 ts t1 t2 t3' d' oC' oN', h'.get? q.1 = some q.2) (fr : n' = n ∨ h.get? n' = none) :
    Fr h₀ L h' m ∧ News h₀ L h' (walL w x dx fx fdx b c n' sz pl' nr k1 k2 k3 k4 k5 k6 ts t1 t2 t3' d' oC' oN' ++ rest) := by
  refine ⟨back_fr F N k (fun a ha => ?_), back_new N F k fun q hq => ?_⟩
  · obtain ⟨o, ho⟩ := wal_mods a ha
    exact ⟨o, List.mem_append_left _ ho⟩
  · rcases List.mem_append.mp hq with z | z
    · refine .inr ⟨ga q z, ?_⟩
      rcases walL_ha2 (n := n) (pl := pl) (t3 := t3) (d := d) (oC := oC) (oN := oN) q z with ⟨o, ho⟩ | e
      · exact .inl ⟨o, List.mem_append_left _ ho⟩
      · rcases fr with rfl | fr
        · exact .inl ⟨oN, e ▸ List.mem_append_left _ (.tail _ (.tail _ (.tail _ (.tail _ (.tail _ (.tail _ (.head _)))))))⟩
        · exact .inr (e ▸ fr)
    · exact .inl ⟨List.mem_append_right _ z, hr q z⟩
end
section
variable {w : World} {A A₀ : Around} {s : Shared} {base h₀ : Heap} {outer : List Env} {env : Env} {L : Addr} {m : Str → Option Value} {p : Program} {loose : List Str} {mean : ExcName → Option Value} {mg mb : Str → Option Value}
  {x dx fx fdx b c n : Addr} {sz : Nat} {pl : Int} {nr : Bool} {k1 k2 k3 k4 k5 k6 ts t1 t2 t3 : Nat} {oC oN : Obj} {kc kv : List (Int × Value)} {d : List UInt8} {Q : Value → Shared → Prop} {E : Value → Shared → Prop}
theorem addP_N (B : Below A₀ base outer h₀) (X : (Mine.hd.heap_39 w.params).In base) (T : Top p loose mean mg mb base) (F : Fr h₀ L s.heap m) (N : News h₀ L s.heap (walL w x dx fx fdx b c n sz pl nr k1 k2 k3 k4 k5 k6 ts t1 t2 t3 d oC oN))
    (hA : A.frames = some (env :: outer)) (hf : env.frame = some L) (hke : env.scope.kind = .function) (hh : A.handled = none) (hg : A.guards = some []) (hroom : A.depth + 60 < recursionLimit)
    (hD : Apart [x, dx, fx, fdx, b, c, n]) (lo : (n == sysModules) = false) (hs : 0 < sz) (hsz : sz ≤ 1000) (hz : d.length ≤ 900000) (hC : oC.IsDictOf (kn w) kc) (hN : oN.IsDictOf (kn w) kv) (hzk : kv.length ≤ 1000) {pg : Int} (hp0 : 0 < pg) (hp1 : pg < 1000) {e : List UInt8} (he : e.length = sz) {ta tq te : Tok}
    (h : WalPost w s x dx fx fdx b c n sz (d.length + 5 + sz) nr k1 k2 k3 k4 k5 k6 ts t1 t2 (d ++ (leB 1 1 ++ leB 4 pg ++ e)) kc (fun tt => stored kv pg (.int ((d.length : Int) + 5) tt)) (Q .none)) :
    wpN (model PySem.Challenge.rw_vq0002_01.row.prog w) A (call (.ref 113) [.ref x, .int 1 ta, .int pg tq, .bytes e.toArray te]) Q E s :=
  n_call (addP_c (call_below B F hA hf hke) X T hh hg hroom hD hs hsz hz hN hzk hp0 hp1 he (call_foot B N hf fun _ q => q) fun h' t' t3' oN' tt k ga hd =>
    h h' t' t3' n oC oN' tt (k.mono (by simp)) ga hC hd (.inl rfl) lo)
theorem addC_N (B : Below A₀ base outer h₀) (X : (Mine.hd.heap_39 w.params).In base) (T : Top p loose mean mg mb base) (F : Fr h₀ L s.heap m) (N : News h₀ L s.heap (walL w x dx fx fdx b c n sz pl nr k1 k2 k3 k4 k5 k6 ts t1 t2 t3 d oC oN))
    (hA : A.frames = some (env :: outer)) (hf : env.frame = some L) (hke : env.scope.kind = .function) (hh : A.handled = none) (hg : A.guards = some []) (hroom : A.depth + 60 < recursionLimit)
    (hD : Apart [x, dx, fx, fdx, b, c, n]) (lo : (n == sysModules) = false) (hz : d.length ≤ 900000) (hC : oC.IsDictOf (kn w) kc) (hN : oN.IsDictOf (kn w) kv) (hzk : kv.length ≤ 1000) (hzc : kc.length ≤ 1000) {ta : Tok}
    (h : WalPost w s x dx fx fdx b c n sz (d.length + 5) nr k1 k2 k3 k4 k5 k6 ts t1 t2 (d ++ (leB 1 2 ++ leB 4 0)) (merged kc kv) (fun _ => []) (Q .none)) :
    wpN (model PySem.Challenge.rw_vq0002_01.row.prog w) A (call (.ref 113) [.ref x, .int 2 ta]) Q E s :=
  n_call (addC_c (call_below B F hA hf hke) X T hh hg hroom hD hz hN hC lo hzk hzc (call_foot B N hf fun _ q => q) fun h' t' t3' oC' n' oN' k ga hd1 hd2 fr lo' =>
    h h' t' t3' n' oC' oN' 0 (k.mono (by simp)) ga hd1 hd2 (.inr fr) lo')
theorem addR_N (B : Below A₀ base outer h₀) (X : (Mine.hd.heap_39 w.params).In base) (T : Top p loose mean mg mb base) (F : Fr h₀ L s.heap m) (N : News h₀ L s.heap (walL w x dx fx fdx b c n sz pl nr k1 k2 k3 k4 k5 k6 ts t1 t2 t3 d oC oN))
    (hA : A.frames = some (env :: outer)) (hf : env.frame = some L) (hke : env.scope.kind = .function) (hh : A.handled = none) (hg : A.guards = some []) (hroom : A.depth + 60 < recursionLimit)
    (hD : Apart [x, dx, fx, fdx, b, c, n]) (lo : (n == sysModules) = false) (hz : d.length ≤ 900000) (hC : oC.IsDictOf (kn w) kc) (hN : oN.IsDictOf (kn w) kv) (hzk : kv.length ≤ 1000) {ta : Tok}
    (h : WalPost w s x dx fx fdx b c n sz (d.length + 5) nr k1 k2 k3 k4 k5 k6 ts t1 t2 (d ++ (leB 1 3 ++ leB 4 0)) kc (fun _ => []) (Q .none)) :
    wpN (model PySem.Challenge.rw_vq0002_01.row.prog w) A (call (.ref 113) [.ref x, .int 3 ta]) Q E s :=
  n_call (addR_c (call_below B F hA hf hke) X T hh hg hroom hD hz hN lo hzk (call_foot B N hf fun _ q => q) fun h' t' t3' n' oN' k ga hd2 fr lo' =>
    h h' t' t3' n' oC oN' 0 (k.mono (by simp)) ga hC hd2 (.inr fr) lo')
end
theorem none_back0 {h h' : Heap} {a : Addr} (k : Keep [] h h') (e : h'.get? a = none) : h.get? a = none := by
  cases q : h.get? a with
  | none => rfl
  | some o => rw [k a o q (fun z => nomatch z)] at e; cases e
/-- a method's call in N whose arguments the library walks -/
theorem n_mcallA {K : Frag} {M : Model} {A : Around} {E : Value → Shared → Prop} {s : Shared} {env : Env} {o e : Expr} {es : List Expr} {name : Str} {apos pos : Pos} {Q : Value → Shared → Prop} {pl : Sem Bool}
    (h : wpAny M A (eval o env) (fun ov s₁ => wpAny M A (getMethod ov name pl) (fun fx s₂ => keepIn K fx.1 = true ∧ wpAny M A (spliced (backTo pos (starEach (e :: es) env))) (fun vs s₃ => K.In s₃.heap ∧ wpN M A (call fx.1 (fx.2 ++ vs)) Q E s₃) E s₂) E s₁) E s)
    (he : eval (.Call (.Attribute o name apos) (e :: es) [] pos) env = (do
      let ov ← eval o env
      standAt apos.atName
      let (f, first) ← holding [ov] (getMethod ov name pl)
      callWith pos f first (backTo pos (starEach (e :: es) env)) (backToKw pos (keywordEach [] env))) := by rfl)
    (hst : starEach (e :: es) env = (false, eval e env) :: starEach es env := by rfl) (hplain : (backTo pos (starEach es env)).any (·.1) = false := by rfl) :
    wpN M A (eval (.Call (.Attribute o name apos) (e :: es) [] pos) env) Q E s :=
  n_methodCall (wpAny_mono h (fun _ _ h₁ => wpAny_mono h₁ (fun _ _ h₂ => n_callWithA h₂.1 h₂.2 hst hplain) fun _ _ x => x) fun _ _ x => x) he
section
variable {w : World} {A : Around} {s : Shared} {base : Heap} {outer : List Env} {p : Program} {loose : List Str} {mean : ExcName → Option Value} {mg mb : Str → Option Value} {R : Result → Shared → Prop}
  {x dx fx fdx b c n : Addr} {sz : Nat} {pl : Int} {nr : Bool} {k1 k2 k3 k4 k5 k6 ts t1 t2 t3 : Nat} {oC oN : Obj} {kc kv : List (Int × Value)} {d : List UInt8}
theorem setp_c (B : Below A base outer s.heap) (X : (Mine.hd.heap_39 w.params).In base) (T : Top p loose mean mg mb base) (hh : A.handled = none) (hg : A.guards = some []) (hroom : A.depth + 70 < recursionLimit)
    (hD : Apart [x, dx, fx, fdx, b, c, n]) (lo : (n == sysModules) = false) (hs : 0 < sz) (hsz : sz ≤ 1000) (hz : d.length ≤ 900000) (hC : oC.IsDictOf (kn w) kc) (hN : oN.IsDictOf (kn w) kv) (hzk : kv.length ≤ 1000) {pg : Int} (hp0 : 0 < pg) (hp1 : pg < 1000) {e : List UInt8} (he : e.length = sz) {tq te : Tok}
    (P : Foot base outer s.heap (walL w x dx fx fdx b c n sz pl nr k1 k2 k3 k4 k5 k6 ts t1 t2 t3 d oC oN))
    (h : WalPost w s x dx fx fdx b c n sz (d.length + 5 + sz) nr k1 k2 k3 k4 k5 k6 ts t1 t2 (d ++ (leB 1 1 ++ leB 4 pg ++ e)) kc (fun tt => stored kv pg (.int ((d.length : Int) + 5) tt)) (R (.ok (.ret .none)))) :
    codeN (model PySem.Challenge.rw_vq0002_01.row.prog w) A (.call (.ref 127) ⟨[.ref x, .int pg tq, .bytes e.toArray te], []⟩) R s := by
  obtain ⟨hd, dp, fr, gs, u⟩ := A
  obtain rfl := B.stack
  obtain rfl := hh
  obtain rfl := hg
  revert X
  k_fill
  intro X
  walk_at "MINE enterN"
  (try k_lt l1)
  refine n_execs_cons (n_Expr (n_mcallA (K := Mine.hd.heap_39 w.params) ?_))
  walk_at "MINE steps"
  (try dsimp only [List.cons_append, List.nil_append])
  with_reducible rename Fr _ _ _ _ => F'
  with_reducible rename News _ _ _ _ => N'
  with_reducible rename Keep _ _ _ => KG
  refine' addP_N (s := ⟨_, _, _, _, _⟩) ?B ?X ?T F' N' rfl rfl rfl rfl rfl ?room hD lo hs hsz hz hC hN hzk hp0 hp1 he ?_
  case B => assumption
  case X => assumption
  case T => assumption
  case room => k_room
  intro h' t' t3' n' oC' oN' tt k ga hdC hdN frs lo'
  have k0 := keep_end P KG F' N' (mod := []) (fun q hq => .inr hq)
  (try dsimp only)
  repeat (refine n_execs_nil ?_; (try dsimp only))
  exact h _ _ _ _ _ _ tt ((k0.mono (by simp)).trans k) ga hdC hdN (frs.imp id (none_back0 k0)) lo'
theorem comm_c (B : Below A base outer s.heap) (X : (Mine.hd.heap_39 w.params).In base) (T : Top p loose mean mg mb base) (hh : A.handled = none) (hg : A.guards = some []) (hroom : A.depth + 70 < recursionLimit)
    (hD : Apart [x, dx, fx, fdx, b, c, n]) (lo : (n == sysModules) = false) (hz : d.length ≤ 900000) (hC : oC.IsDictOf (kn w) kc) (hN : oN.IsDictOf (kn w) kv) (hzk : kv.length ≤ 1000) (hzc : kc.length ≤ 1000) (h0 : 0 < kv.length)
    (P : Foot base outer s.heap (walL w x dx fx fdx b c n sz pl nr k1 k2 k3 k4 k5 k6 ts t1 t2 t3 d oC oN))
    (h : WalPost w s x dx fx fdx b c n sz (d.length + 5) nr k1 k2 k3 k4 k5 k6 ts t1 t2 (d ++ (leB 1 2 ++ leB 4 0)) (merged kc kv) (fun _ => []) (R (.ok (.ret .none)))) :
    codeN (model PySem.Challenge.rw_vq0002_01.row.prog w) A (.call (.ref 134) ⟨[.ref x], []⟩) R s := by
  obtain ⟨hd, dp, fr, gs, u⟩ := A
  obtain rfl := B.stack
  obtain rfl := hh
  obtain rfl := hg
  obtain ⟨q, kv, rfl⟩ := List.exists_cons_of_length_pos h0
  revert X
  k_fill
  intro X
  walk_at "MINE enterN"
  (try k_lt l1)
  refine n_execs_cons (n_IfAny ?_)
  k_fold
  walk_at "MINE steps"
  all_goals (try (((with_reducible rename List.isEmpty _ = true => z); exact absurd z (by simp))))
  refine n_execs_cons (n_Expr (n_mcallA (K := Mine.hd.heap_39 w.params) ?_))
  walk_at "MINE steps"
  (try dsimp only [List.cons_append, List.nil_append])
  with_reducible rename Fr _ _ _ _ => F'
  with_reducible rename News _ _ _ _ => N'
  with_reducible rename Keep _ _ _ => KG
  refine' addC_N (s := ⟨_, _, _, _, _⟩) ?B ?X ?T F' N' rfl rfl rfl rfl rfl ?room hD lo hz hC hN hzk hzc ?_
  case B => assumption
  case X => assumption
  case T => assumption
  case room => k_room
  intro h' t' t3' n' oC' oN' tt k ga hdC hdN frs lo'
  have k0 := keep_end P KG F' N' (mod := []) (fun q hq => .inr hq)
  (try dsimp only)
  repeat (refine n_execs_nil ?_; (try dsimp only))
  exact h _ _ _ _ _ _ tt ((k0.mono (by simp)).trans k) ga hdC hdN (frs.imp id (none_back0 k0)) lo'
theorem comm0_c (B : Below A base outer s.heap) (X : (Mine.hd.heap_39 w.params).In base) (T : Top p loose mean mg mb base) (hh : A.handled = none) (hg : A.guards = some []) (hroom : A.depth + 70 < recursionLimit)
    (hD : Apart [x, dx, fx, fdx, b, c, n]) (lo : (n == sysModules) = false) (hz : d.length ≤ 900000) (hC : oC.IsDictOf (kn w) kc) (hN : oN.IsDictOf (kn w) kv) (h0 : kv.length = 0) 
    (P : Foot base outer s.heap (walL w x dx fx fdx b c n sz pl nr k1 k2 k3 k4 k5 k6 ts t1 t2 t3 d oC oN))
    (h : WalPost w s x dx fx fdx b c n sz pl nr k1 k2 k3 k4 k5 k6 ts t1 t2 d kc (fun _ => []) (R (.ok (.ret .none)))) :
    codeN (model PySem.Challenge.rw_vq0002_01.row.prog w) A (.call (.ref 134) ⟨[.ref x], []⟩) R s := by
  obtain ⟨hd, dp, fr, gs, u⟩ := A
  obtain rfl := B.stack
  obtain rfl := hh
  obtain rfl := hg
  revert X
  k_fill
  intro X
  walk_at "MINE enterN"
  (try k_lt l1)
  refine n_execs_cons (n_IfAny ?_)
  k_fold
  walk_at "MINE steps"
  all_goals (try (((with_reducible rename List.isEmpty _ = false => z); exact absurd z (by rw [List.length_eq_zero_iff.mp h0]; simp))))
  obtain rfl := List.length_eq_zero_iff.mp h0
  repeat (refine n_execs_nil ?_; (try dsimp only))
  with_reducible rename Fr _ _ _ _ => F'
  with_reducible rename News _ _ _ _ => N'
  with_reducible rename Keep _ _ _ => KG
  have k0 := keep_end P KG F' N' (mod := []) (fun q hq => .inr hq)
  exact h _ _ _ _ _ _ 0 (k0.mono (by simp)) (got_all N' fun _ q => q) hC hN (.inl rfl) lo
theorem roll_c (B : Below A base outer s.heap) (X : (Mine.hd.heap_39 w.params).In base) (T : Top p loose mean mg mb base) (hh : A.handled = none) (hg : A.guards = some []) (hroom : A.depth + 70 < recursionLimit)
    (hD : Apart [x, dx, fx, fdx, b, c, n]) (lo : (n == sysModules) = false) (hz : d.length ≤ 900000) (hC : oC.IsDictOf (kn w) kc) (hN : oN.IsDictOf (kn w) kv) (hzk : kv.length ≤ 1000) (h0 : 0 < kv.length)
    (P : Foot base outer s.heap (walL w x dx fx fdx b c n sz pl nr k1 k2 k3 k4 k5 k6 ts t1 t2 t3 d oC oN))
    (h : WalPost w s x dx fx fdx b c n sz (d.length + 5) nr k1 k2 k3 k4 k5 k6 ts t1 t2 (d ++ (leB 1 3 ++ leB 4 0)) kc (fun _ => []) (R (.ok (.ret .none)))) :
    codeN (model PySem.Challenge.rw_vq0002_01.row.prog w) A (.call (.ref 141) ⟨[.ref x], []⟩) R s := by
  obtain ⟨hd, dp, fr, gs, u⟩ := A
  obtain rfl := B.stack
  obtain rfl := hh
  obtain rfl := hg
  obtain ⟨q, kv, rfl⟩ := List.exists_cons_of_length_pos h0
  revert X
  k_fill
  intro X
  walk_at "MINE enterN"
  (try k_lt l1)
  refine n_execs_cons (n_IfAny ?_)
  k_fold
  walk_at "MINE steps"
  all_goals (try (((with_reducible rename List.isEmpty _ = true => z); exact absurd z (by simp))))
  refine n_execs_cons (n_Expr (n_mcallA (K := Mine.hd.heap_39 w.params) ?_))
  walk_at "MINE steps"
  (try dsimp only [List.cons_append, List.nil_append])
  with_reducible rename Fr _ _ _ _ => F'
  with_reducible rename News _ _ _ _ => N'
  with_reducible rename Keep _ _ _ => KG
  refine' addR_N (s := ⟨_, _, _, _, _⟩) ?B ?X ?T F' N' rfl rfl rfl rfl rfl ?room hD lo hz hC hN hzk ?_
  case B => assumption
  case X => assumption
  case T => assumption
  case room => k_room
  intro h' t' t3' n' oC' oN' tt k ga hdC hdN frs lo'
  have k0 := keep_end P KG F' N' (mod := []) (fun q hq => .inr hq)
  (try dsimp only)
  repeat (refine n_execs_nil ?_; (try dsimp only))
  exact h _ _ _ _ _ _ tt ((k0.mono (by simp)).trans k) ga hdC hdN (frs.imp id (none_back0 k0)) lo'
theorem roll0_c (B : Below A base outer s.heap) (X : (Mine.hd.heap_39 w.params).In base) (T : Top p loose mean mg mb base) (hh : A.handled = none) (hg : A.guards = some []) (hroom : A.depth + 70 < recursionLimit)
    (hD : Apart [x, dx, fx, fdx, b, c, n]) (lo : (n == sysModules) = false) (hz : d.length ≤ 900000) (hC : oC.IsDictOf (kn w) kc) (hN : oN.IsDictOf (kn w) kv) (h0 : kv.length = 0) 
    (P : Foot base outer s.heap (walL w x dx fx fdx b c n sz pl nr k1 k2 k3 k4 k5 k6 ts t1 t2 t3 d oC oN))
    (h : WalPost w s x dx fx fdx b c n sz pl nr k1 k2 k3 k4 k5 k6 ts t1 t2 d kc (fun _ => []) (R (.ok (.ret .none)))) :
    codeN (model PySem.Challenge.rw_vq0002_01.row.prog w) A (.call (.ref 141) ⟨[.ref x], []⟩) R s := by
  obtain ⟨hd, dp, fr, gs, u⟩ := A
  obtain rfl := B.stack
  obtain rfl := hh
  obtain rfl := hg
  revert X
  k_fill
  intro X
  walk_at "MINE enterN"
  (try k_lt l1)
  refine n_execs_cons (n_IfAny ?_)
  k_fold
  walk_at "MINE steps"
  all_goals (try (((with_reducible rename List.isEmpty _ = false => z); exact absurd z (by rw [List.length_eq_zero_iff.mp h0]; simp))))
  obtain rfl := List.length_eq_zero_iff.mp h0
  repeat (refine n_execs_nil ?_; (try dsimp only))
  with_reducible rename Fr _ _ _ _ => F'
  with_reducible rename News _ _ _ _ => N'
  with_reducible rename Keep _ _ _ => KG
  have k0 := keep_end P KG F' N' (mod := []) (fun q hq => .inr hq)
  exact h _ _ _ _ _ _ 0 (k0.mono (by simp)) (got_all N' fun _ q => q) hC hN (.inl rfl) lo
end
end

/-! ### VSetX -/
theorem fresh35 {M : Model} {A : Around} {env : Env} {Q : Flow → Shared → Prop} {E : Value → Shared → Prop} {s : Shared} (h : Q .next s) : wpAny M A (execs [] env) Q E s := by
  w_top off
  (try walk1)
  all_goals first | exact h | exact wpAny_execs_nil h
section
section
variable {A₀ : Around} {base h₀ h h' gc : Heap} {outer : List Env} {env : Env} {L e : Addr} {m : Str → Option Value} {fp : List Addr} {fp' news news' : List (Addr × Obj)} {cls : Value}
theorem raised_backN (B : Below A₀ base outer h₀) (F : Fr h₀ L h m) (N : News h₀ L h news) (hf : env.frame = some L) (KG : Keep fp h gc) (hfp : ∀ a ∈ fp, ∃ o, (a, o) ∈ news)
    (R : RaisedSN base gc (env :: outer) e cls fp' h') (U : gc.UpToSlots h') (hn : ∀ q ∈ news', q ∈ fp' ∨ (q ∈ news ∧ q.1 ∉ fp)) (ha : ∀ q ∈ news', ∃ o, (q.1, o) ∈ news) :
    ∃ G, Fr h₀ L G m ∧ G.UpToSlots h' ∧ RaisedSN base G (env :: outer) e cls news' h' := by
  have nf : ∀ q ∈ news, q.1 ∉ (env :: outer).filterMap (·.frame) := fun q hq hm => by
    obtain ⟨en, he, hfe⟩ := List.mem_filterMap.mp hm
    rcases List.mem_cons.mp he with rfl | he
    · exact (N q hq).2.1 (Option.some.inj (hfe.symm.trans hf))
    · obtain ⟨L₁, o₁, hf₁, ho₁⟩ := funFrames_in B.frames en he
      rw [hf₁] at hfe
      have := (N q hq).2.2
      rw [← Option.some.inj hfe, ho₁] at this; cases this
  have ng : ∀ b o, (hideAll h (news.map (·.1))).get? b = some o → h.get? b = some o ∧ b ∉ news.map (·.1) := fun b o q => ⟨of_hideAll _ q, fun z => by rw [hideAll_none _ z] at q; cases q⟩
  have gg : ∀ b o, (hideAll h (news.map (·.1))).get? b = some o → gc.get? b = some o := fun b o q => KG b o (ng b o q).1 fun z => by
    obtain ⟨o', ho'⟩ := hfp b z
    exact (ng b o q).2 (List.mem_map.mpr ⟨_, ho', rfl⟩)
  refine ⟨hideAll h (news.map (·.1)), ⟨?_, fun b o q => hideAll_get _ (F.keep b o q) fun z => ?_, F.above⟩, fun b o q hd => U b o (gg b o q) hd, ?_⟩
  · obtain ⟨oL, a1, a2, hoL, a3⟩ := F.ns
    refine ⟨oL, a1, a2, hideAll_get _ hoL fun z => ?_, a3⟩
    obtain ⟨q, hq, e⟩ := List.mem_map.mp z
    exact (N q hq).2.1 e
  · obtain ⟨q', hq, e⟩ := List.mem_map.mp z
    have := (N q' hq).2.2
    rw [e, q] at this; cases this
  · obtain ⟨B₁, a0, r1, r2, r3, r4⟩ := R
    refine ⟨B₁, a0, r1, fun b o q nm => r2 b o (gg b o q) nm, fun q hq => ?_, r4⟩
    obtain ⟨o, ho⟩ := ha q hq
    have hh : (hideAll h (news.map (·.1))).get? q.1 = none := hideAll_none _ (List.mem_map.mpr ⟨_, ho, rfl⟩)
    rcases hn q hq with z | ⟨z, nz⟩
    · exact ⟨(r3 q z).1, hh, (r3 q z).2.2⟩
    · exact ⟨r2 _ _ (KG _ _ (N q z).1 nz) (nf q z), hh, fresh_of_stays B.stays (N q z).2.2⟩
end
section
local macro_rules | `(tactic| walk_at "call ref") => `(tactic| (k_here; (try dsimp only [List.cons_append, List.nil_append]); (with_reducible show wpAny _ _ (call (Value.ref 113) [Value.ref _, _, _, _]) _ _ _); refine Stop.go ?_))
local macro_rules | `(tactic| walk_at "call ref") => `(tactic| (k_here; (try dsimp only [List.cons_append, List.nil_append]); (with_reducible show wpAny _ _ (call (Value.ref 127) [Value.ref _, _, _]) _ _ _); refine Stop.go ?_))
variable {w : World} {A : Around} {s : Shared} {base : Heap} {outer : List Env} {p : Program} {loose : List Str} {mean : ExcName → Option Value} {mg mb : Str → Option Value} {R : Result → Shared → Prop}
  {x dx fx c n : Addr} {sz : Nat} {nr : Bool} {k1 k2 k3 k4 k5 k6 ts : Nat}
theorem setx_c (B : Below A base outer s.heap) (X : (Mine.hd.heap_39 w.params).In base) (T : Top p loose mean mg mb base) (hh : A.handled = none) (hroom : A.depth + 30 < recursionLimit)
    (hne : @Ne Nat x dx) {pg : Int} {e : List UInt8} (hp0 : pg = 0 ∨ 0 < pg ∧ 0 < e.length ∧ e.length ≠ sz) (he1 : e.length ≤ 1000) {tq te : Tok} (P : Foot base outer s.heap [(x, instObj 144 dx), (dx, walD w.params fx sz c n nr k1 k2 k3 k4 k5 k6 ts)])
    (h : ∀ h' t' g e, Keep [x, dx] s.heap g → RaisedSN base g outer e (.type "ValueError") [(x, instObj 144 dx), (dx, walD w.params fx sz c n nr k1 k2 k3 k4 k5 k6 ts)] h' → g.UpToSlots h' → R (.error (.ref e)) { s with heap := h', toks := t' }) :
    codeAny (model PySem.Challenge.rw_vq0002_01.row.prog w) A (.call (.ref 127) ⟨[.ref x, .int pg tq, .bytes e.toArray te], []⟩) R s := by
  obtain ⟨hd, dp, fr, gs, u⟩ := A
  obtain rfl := B.stack
  obtain rfl := hh
  revert X
  k_fill
  intro X
  walk_at "MINE enter"
  walk_at "MINE steps"
  show wpAny _ _ (call _ _) _ _ _
  with_reducible rename Fr _ _ _ _ => F'
  with_reducible rename News _ _ _ _ => N'
  with_reducible rename Below _ _ _ _ => B'
  rcases hp0 with rfl | ⟨hp0, he0, he⟩
  · refine wpAny_call (addX0_c (call_below B' F' rfl rfl rfl) X T rfl (by k_room) (call_foot B' N' rfl fun _ q => nomatch q) fun h' t' gc e KG2 R2 U2 => ?_)
    obtain ⟨G, FG, UG, RG⟩ := raised_backN (news' := [(x, instObj 144 dx), (dx, walD w.params fx sz c n nr k1 k2 k3 k4 k5 k6 ts)]) B' F' N' rfl KG2 (fun _ q => nomatch q) R2 U2 (fun q hq => .inr ⟨hq, fun z => nomatch z⟩) (fun q hq => ⟨_, hq⟩)
    dsimp only
    clear F' N' U2 R2 KG2
    walk_at "MINE steps"
    (with_reducible rename RaisedSN _ _ _ _ _ _ _ => S'; with_reducible rename Keep _ _ _ => KG; with_reducible rename Heap.UpToSlots _ _ => U'; exact h _ _ _ _ (KG.mono (by simp)) S' U')
  · refine wpAny_call (addXL_c (call_below B' F' rfl rfl rfl) X T rfl (by k_room) hne hp0 he0 he1 he (call_foot B' N' rfl fun _ q => q) fun h' t' gc e KG2 R2 U2 => ?_)
    obtain ⟨G, FG, UG, RG⟩ := raised_backN (news' := [(x, instObj 144 dx), (dx, walD w.params fx sz c n nr k1 k2 k3 k4 k5 k6 ts)]) B' F' N' rfl KG2 (by walk_at "MINE sub2") R2 U2 (fun q hq => .inl hq) (fun q hq => ⟨_, hq⟩)
    dsimp only
    clear F' N' U2 R2 KG2
    walk_at "MINE steps"
    (with_reducible rename RaisedSN _ _ _ _ _ _ _ => S'; with_reducible rename Keep _ _ _ => KG; with_reducible rename Heap.UpToSlots _ _ => U'; exact h _ _ _ _ (KG.mono (by simp)) S' U')
theorem refT_c (B : Below A base outer s.heap) (X : (Mine.hd.heap_39 w.params).In base) (T : Top p loose mean mg mb base) (hh : A.handled = none) (hroom : A.depth + 40 < recursionLimit) (hKD : KtsDicts (outer.filterMap (·.frame)) s.heap)
    (hne : @Ne Nat x dx) {pg : Int} {e : List UInt8} (hp0 : pg = 0 ∨ 0 < pg ∧ 0 < e.length ∧ e.length ≠ sz) (he1 : e.length ≤ 1000) {tq te : Tok} (P : Foot base outer s.heap [(x, instObj 144 dx), (dx, walD w.params fx sz c n nr k1 k2 k3 k4 k5 k6 ts)])
    (h : ∀ h' t', KeepT (outer.filterMap (·.frame)) [] s.heap h' → R (.ok (.ret (.bool true))) { s with heap := h', toks := t' }) :
    codeAny (model PySem.Challenge.rw_vq0002_01.row.prog w) A (.call (.ref 219) ⟨[.ref x, .int pg tq, .bytes e.toArray te], []⟩) R s := by
  obtain ⟨hd, dp, fr, gs, u⟩ := A
  obtain rfl := B.stack
  obtain rfl := hh
  revert X
  k_fill
  intro X
  walk_at "MINE enter"
  walk_at "MINE steps"
  show wpAny _ _ (call _ _) _ _ _
  with_reducible rename Fr _ _ _ _ => F'
  with_reducible rename News _ _ _ _ => N'
  with_reducible rename Below _ _ _ _ => B'
  with_reducible rename Keep _ _ _ => KG
  have D' := dicts_keep P KG hKD
  refine wpAny_call (setx_c (call_below B' F' rfl rfl rfl) X T rfl (by k_room) hne hp0 he1 (call_foot B' N' rfl fun _ q => q) fun h' t' gc e KG2 R2 U2 => ?_)
  obtain ⟨G, FG, UG, RG⟩ := raised_backN (news' := [(x, instObj 144 dx), (dx, walD w.params fx sz c n nr k1 k2 k3 k4 k5 k6 ts)]) B' F' N' rfl KG2 (by walk_at "MINE sub2") R2 U2 (fun q hq => .inl hq) (fun q hq => ⟨_, hq⟩)
  dsimp only
  refine' caught_SN0 (T' := "ValueError") (KF := Mine.hd.heap_39 w.params) RG FG B' UG X T D' KtsTurn.refl ?ex PyProof.Rows.Boot.«ValueError» ?hn PySem.F.isExc_ValueError PySem.F.notTuple_ValueError ?hs (fun h2 g2 T2 F2 N2 B2 X2 P2 D2 => ?_)
  case ex => k_is
  case hn => decide
  case hs => kts_sub
  clear F' N' RG R2 U2 KG2 FG UG
  (try dsimp only)
  walk_at "MINE steps"
  with_reducible rename News _ _ _ _ => N4
  refine h _ _ ?_
  refine keepT_end P KG T2 (by assumption) N4 ?_
  walk_at "MINE sub"
end
section
variable {w : World} {A : Around} {s : Shared} {base : Heap} {outer : List Env} {p : Program} {loose : List Str} {mean : ExcName → Option Value} {mg mb : Str → Option Value} {R : Result → Shared → Prop}
  {x dx fx fdx b c n : Addr} {sz : Nat} {pl : Int} {nr : Bool} {k1 k2 k3 k4 k5 k6 ts t1 t2 t3 : Nat} {oC oN : Obj} {kc kv : List (Int × Value)} {d : List UInt8}
theorem refF_c (B : Below A base outer s.heap) (X : (Mine.hd.heap_39 w.params).In base) (T : Top p loose mean mg mb base) (hh : A.handled = none) (hg : A.guards = some []) (hroom : A.depth + 80 < recursionLimit)
    (hD : Apart [x, dx, fx, fdx, b, c, n]) (lo : (n == sysModules) = false) (hs : 0 < sz) (hsz : sz ≤ 1000) (hz : d.length ≤ 900000) (hC : oC.IsDictOf (kn w) kc) (hN : oN.IsDictOf (kn w) kv) (hzk : kv.length ≤ 1000) {pg : Int} (hp0 : 0 < pg) (hp1 : pg < 1000) {e : List UInt8} (he : e.length = sz) {tq te : Tok}
    (P : Foot base outer s.heap (walL w x dx fx fdx b c n sz pl nr k1 k2 k3 k4 k5 k6 ts t1 t2 t3 d oC oN))
    (h : WalPost w s x dx fx fdx b c n sz (d.length + 5 + sz) nr k1 k2 k3 k4 k5 k6 ts t1 t2 (d ++ (leB 1 1 ++ leB 4 pg ++ e)) kc (fun tt => stored kv pg (.int ((d.length : Int) + 5) tt)) (R (.ok (.ret (.bool false))))) :
    codeN (model PySem.Challenge.rw_vq0002_01.row.prog w) A (.call (.ref 219) ⟨[.ref x, .int pg tq, .bytes e.toArray te], []⟩) R s := by
  obtain ⟨hd, dp, fr, gs, u⟩ := A
  obtain rfl := B.stack
  obtain rfl := hh
  obtain rfl := hg
  revert X
  k_fill
  intro X
  walk_at "MINE enterN"
  (try k_lt l1)
  refine n_execs_cons (n_Try_except ?_)
  refine n_execs_cons (n_Expr (n_mcallA (K := Mine.hd.heap_39 w.params) ?_))
  k_fold
  walk_at "MINE steps"
  (try dsimp only [List.cons_append, List.nil_append])
  with_reducible rename Fr _ _ _ _ => F'
  with_reducible rename News _ _ _ _ => N'
  with_reducible rename Keep _ _ _ => KG
  with_reducible rename Below _ _ _ _ => B'
  refine n_call (setp_c (call_below B' F' rfl rfl rfl) (by assumption) (by assumption) rfl rfl (by k_room) hD lo hs hsz hz hC hN hzk hp0 hp1 he (call_foot B' N' rfl fun _ q => q) ?_)
  intro h' t' t3' n' oC' oN' tt k ga hdC hdN frs lo'
  have k0 := keep_end P KG F' N' (mod := []) (fun q hq => .inr hq)
  obtain ⟨F2, N2⟩ := wal_back (rest := []) F' N' k (fun _ q => nomatch q) ga frs
  clear F' N'
  (try dsimp only)
  repeat (refine n_execs_nil ?_; (try dsimp only))
  walk_at "MINE any1"
  exact h _ _ _ _ _ _ tt ((k0.mono (by simp)).trans k) ga hdC hdN (frs.imp id (none_back0 k0)) lo'
end
end

/-! ### VNext -/
theorem fresh36 {M : Model} {A : Around} {env : Env} {Q : Flow → Shared → Prop} {E : Value → Shared → Prop} {s : Shared} (h : Q .next s) : wpAny M A (execs [] env) Q E s := by
  w_top off
  (try walk1)
  all_goals first | exact h | exact wpAny_execs_nil h
section
theorem leB1 {kd : Int} (h0 : 0 ≤ kd) (h1 : kd < 256) : (#[kd.toNat.toUInt8] : Array UInt8) = (leB 1 kd).toArray := by
  have e : [kd.toNat.toUInt8] = leB 1 kd := by
    refine ints_inj ?_
    rw [show leB 1 kd = KTBy.low kd 1 from rfl, KTBy.low_ints h0 (by simpa using h1)]
    have e2 : ((kd.toNat.toUInt8.toNat : Nat) : Int) = kd := by simp only [UInt8.toNat_ofNat', Nat.toUInt8_eq]; omega
    simp only [List.map_cons, List.map_nil, List.range_one, e2, Int.pow_zero, Int.ediv_one]
    rw [Int.emod_eq_of_lt h0 h1]
  rw [← e]
theorem foot_nil {base h : Heap} {outer : List Env} : Foot base outer h [] := ⟨(fun _ q => nomatch q), (fun _ q => nomatch q), (fun _ _ _ q => nomatch q)⟩
section
local macro_rules | `(tactic| walk_at "call builtin:len") => `(tactic| (k_here; (with_reducible show wpAny _ _ (call (Value.builtin "len") [Value.ref _]) _ _ _); k_dflt (refine' KM.len_K ?k1 ?k2 ?k3 ?k4 ?_; (case k1 => k_asm); (case k2 => k_mem); (case k3 => exact PySem.IntsAre.length (by assumption)); (case k4 => omega); k_whole)))
variable {w : World} {A : Around} {s : Shared} {base : Heap} {outer : List Env} {p : Program} {loose : List Str} {mean : ExcName → Option Value} {mg mb : Str → Option Value} {R : Result → Shared → Prop}
theorem next_c (B : Below A base outer s.heap) (X : (Mine.hd.heap_39 w.params).In base) (T : Top p loose mean mg mb base) (hh : A.handled = none) (hroom : A.depth + 20 < recursionLimit)
    {S Sc : Addr} (hne : @Ne Nat S Sc) {i lim : Int} {ti tl : Tok} {xs : List Int} {vs : List Value} {c1 c2 : Nat} (hi : 0 ≤ i) (hlim : 0 < lim) (hxs : IntsAre vs xs) (hxz : xs.length ≤ 1000) (P : Foot base outer s.heap [(S, W.listOf #[.ref Sc, .int i ti] c1), (Sc, W.listOf vs.toArray c2)])
    (h : ∀ h' t' i' ti' c1' r tr, Keep [S] s.heap h' → h'.get? S = some (W.listOf #[.ref Sc, .int i' ti'] c1') → 0 ≤ i' → 0 ≤ r → r < lim → R (.ok (.ret (.int r tr))) { s with heap := h', toks := t' }) :
    codeAny (model PySem.Challenge.rw_vq0002_01.row.prog w) A (.call (.ref 205) ⟨[.ref S, .int lim tl], []⟩) R s := by
  obtain ⟨hd, dp, fr, gs, u⟩ := A
  obtain rfl := B.stack
  obtain rfl := hh
  revert X
  k_fill
  intro X
  walk_at "MINE enter"
  walk_at "MINE steps"
  all_goals (with_reducible rename News _ _ _ _ => N4)
  · refine' h _ _ (i + 1) _ _ 0 _ ?k ?g (by omega) (by omega) hlim
    case g => walk_at "MINE got"
    case k => walk_at "MINE keep"
  · refine' h _ _ (i + 1) _ _ _ _ ?k ?g (by omega) (Int.fmod_nonneg_of_pos _ hlim) (Int.fmod_lt_of_pos _ hlim)
    case g => walk_at "MINE got"
    case k => walk_at "MINE keep"
theorem frame_c (B : Below A base outer s.heap) (X : (Mine.hd.heap_39 w.params).In base) (T : Top p loose mean mg mb base) (hh : A.handled = none) (hroom : A.depth + 20 < recursionLimit)
    {kd pg : Int} {tk tp te : Tok} {e : List UInt8} (hk0 : 0 ≤ kd) (hk1 : kd < 256) (hp0 : 0 ≤ pg) (hp1 : pg < 1000) (he : e.length ≤ 1000)
    (h : ∀ h' t' tr, Keep [] s.heap h' → R (.ok (.ret (.bytes (leB 1 kd ++ leB 4 pg ++ e).toArray tr))) { s with heap := h', toks := t' }) :
    codeAny (model PySem.Challenge.rw_vq0002_01.row.prog w) A (.call (.ref 226) ⟨[.int kd tk, .int pg tp, .bytes e.toArray te], []⟩) R s := by
  obtain ⟨hd, dp, fr, gs, u⟩ := A
  obtain rfl := B.stack
  obtain rfl := hh
  have P : Foot base outer s.heap [] := foot_nil
  revert X
  k_fill
  intro X
  walk_at "MINE enter"
  walk_at "MINE steps"
  rw [leB1 hk0 hk1]
  walk_at "MINE steps"
  refine' h _ _ _ ?k
  walk_at "MINE keep"
end
end

/-! ### VMk -/
theorem fresh37 {M : Model} {A : Around} {env : Env} {Q : Flow → Shared → Prop} {E : Value → Shared → Prop} {s : Shared} (h : Q .next s) : wpAny M A (execs [] env) Q E s := by
  w_top off
  (try walk1)
  all_goals first | exact h | exact wpAny_execs_nil h
section
theorem allNe_of : ∀ {a : Nat} {l : List Nat}, a ∉ l → AllNeN a l
  | _, [], _ => trivial
  | _, _ :: _, h => ⟨⟨fun e => h (e ▸ .head _)⟩, allNe_of fun z => h (.tail _ z)⟩
theorem apart_of : ∀ {l : List Nat}, l.Nodup → Apart l
  | [], _ => trivial
  | _ :: _, h => by
    obtain ⟨h1, h2⟩ := List.nodup_cons.mp h
    exact ⟨allNe_of h1, apart_of h2⟩
/-- the addresses of a ledger, no two alike -/
abbrev Nd (l : List (Addr × Obj)) : Prop := (l.map (·.1) : List Nat).Nodup
theorem nd_new {news : List (Addr × Obj)} {h : Heap} {a : Addr} {o : Obj} (Z : Nd news) (al : ∀ q ∈ news, ∃ o, h.get? q.1 = some o) (hn : h.get? a = none) : Nd ((a, o) :: news) := by
  refine List.nodup_cons.mpr ⟨fun z => ?_, Z⟩
  obtain ⟨q, hq, e⟩ := List.mem_map.mp z
  obtain ⟨o', ho⟩ := al q hq
  rw [show q.1 = a from e, hn] at ho; cases ho
theorem nd_obj {l l' : List (Addr × Obj)} (Z : Nd l) (e : l.map (·.1) = l'.map (·.1)) : Nd l' := by unfold Nd; rw [← e]; exact Z
abbrev logL (w : World) (fx fdx b : Addr) (pl : Int) (t1 t2 t3 : Tok) (d : List UInt8) : List (Addr × Obj) := [(fx, instObj 194 fdx), (fdx, octD w.params b pl t1 t2 t3), (b, baObj d.toArray)]
section
variable {w : World} {A A₀ : Around} {s : Shared} {base h₀ : Heap} {outer : List Env} {env : Env} {L : Addr} {m : Str → Option Value} {p : Program} {loose : List Str} {mean : ExcName → Option Value} {mg mb : Str → Option Value}
  {Q : Value → Shared → Prop} {E : Value → Shared → Prop} {news : List (Addr × Obj)}
theorem octets_N (B : Below A₀ base outer h₀) (X : (Mine.hd.heap_39 w.params).In base) (T : Top p loose mean mg mb base) (F : Fr h₀ L s.heap m) (N : News h₀ L s.heap news)
    (hA : A.frames = some (env :: outer)) (hf : env.frame = some L) (hke : env.scope.kind = .function) (hh : A.handled = none) (hg : A.guards = some []) (hroom : A.depth + 20 < recursionLimit) (Z : Nd news)
    (h : ∀ h' t' x dx b t1 t2 t3, Fr h₀ L h' m → News h₀ L h' (logL w x dx b 0 t1 t2 t3 [] ++ news) → Nd (logL w x dx b 0 t1 t2 t3 [] ++ news) → Q (.ref x) { s with heap := h', toks := t' }) :
    wpN (model PySem.Challenge.rw_vq0002_01.row.prog w) A (call (.ref 194) []) Q E s := by
  obtain ⟨hd, dp, fr, gs, u⟩ := A
  obtain rfl := hA
  obtain rfl := hh
  obtain rfl := hg
  have XX := (X.keeps B.stays).keeps F.keep
  revert X
  k_fill
  intro X
  refine n_call (c_make_K (K := Mine.hd.heap_39 w.params) (fI := 162) F N XX ?m ?i ?t fun x dx h' F' N' lt1 lt2 => ?_)
  case m => k_is
  case i => k_is
  case t => k_is
  have ne : @Ne Nat x dx := Nat.ne_of_gt lt2
  refine oinit_c (call_below B F' rfl hf hke) X T rfl rfl (by k_room) ne (call_foot B N' hf (subC (.head _) (sub1 (.tail _ (.head _))))) fun h2 t' b t1' t2' t3' k e1 e2 e3 => ⟨rfl, ?_⟩
  dsimp only at e3
  have al : ∀ q ∈ ((x, instObj 194 dx) :: (dx, emptyDict) :: news), ∃ o, h'.get? q.1 = some o := fun q hq => ⟨_, (N' q hq).1⟩
  have F2 := back_fr F' N' k (mods1 (.tail _ (.head _)))
  have ndx : ∀ q ∈ news, q.1 ∉ [dx] := fun q hq z => by have := lt1 q hq; rw [List.mem_singleton.mp z] at this; exact absurd this (Nat.lt_irrefl _)
  have N2 : News h₀ L h2 (logL w x dx b 0 t1' t2' t3' [] ++ news) := back_new N' F' k fun q hq => by
    rcases List.mem_cons.mp hq with rfl | hq
    · exact .inl ⟨.head _, fun z => ne (List.mem_singleton.mp z)⟩
    · rcases List.mem_cons.mp hq with rfl | hq
      · exact .inr ⟨e1, .inl ⟨_, .tail _ (.head _)⟩⟩
      · rcases List.mem_cons.mp hq with rfl | hq
        · exact .inr ⟨e2, .inr e3⟩
        · exact .inl ⟨.tail _ (.tail _ hq), ndx q hq⟩
  refine h _ _ _ _ _ _ _ _ F2 N2 ?_
  have bn : ∀ q ∈ ((x, instObj 194 dx) :: (dx, emptyDict) :: news), @Ne Nat q.1 b := fun q hq e => by
    obtain ⟨o, ho⟩ := al q hq
    rw [show q.1 = b from e, e3] at ho; cases ho
  have nx : ∀ q ∈ news, @Ne Nat q.1 x ∧ @Ne Nat q.1 dx := fun q hq => by have := lt1 q hq; exact ⟨Nat.ne_of_lt (Nat.lt_trans this lt2), Nat.ne_of_lt this⟩
  refine List.nodup_cons.mpr ⟨fun z => ?_, List.nodup_cons.mpr ⟨fun z => ?_, List.nodup_cons.mpr ⟨fun z => ?_, Z⟩⟩⟩
  · rcases List.mem_cons.mp z with e | z
    · exact ne e
    · rcases List.mem_cons.mp z with e | z
      · exact bn _ (.head _) e
      · obtain ⟨q, hq, e⟩ := List.mem_map.mp z
        exact (nx q hq).1 e
  · rcases List.mem_cons.mp z with e | z
    · exact bn _ (.tail _ (.head _)) e
    · obtain ⟨q, hq, e⟩ := List.mem_map.mp z
      exact (nx q hq).2 e
  · obtain ⟨q, hq, e⟩ := List.mem_map.mp z
    exact bn _ (.tail _ (.tail _ hq)) e
end
end

/-! ### VMkW -/
theorem fresh38 {M : Model} {A : Around} {env : Env} {Q : Flow → Shared → Prop} {E : Value → Shared → Prop} {s : Shared} (h : Q .next s) : wpAny M A (execs [] env) Q E s := by
  w_top off
  (try walk1)
  all_goals first | exact h | exact wpAny_execs_nil h
section
section
variable {h₀ h h' : Heap} {L : Addr} {m : Str → Option Value} {mod : List Addr} {news news' : List (Addr × Obj)}
theorem keepT_at {a : Addr} {o : Obj} {fs : List Addr} (k : KeepT fs mod h h') (e : h.get? a = some o) (n : a ∉ mod) (f : a ∉ fs) : h'.get? a = some o := by
  obtain ⟨sl, e1, e2⟩ := k a o e n
  rw [e1, e2 f]
theorem back_frT (F : Fr h₀ L h m) (N : News h₀ L h news) (k : KeepT [L] mod h h') (sub : ∀ a ∈ mod, ∃ o, (a, o) ∈ news) : Fr h₀ L h' m := by
  obtain ⟨oL, a1, a2, hoL, a3, a4⟩ := F.ns
  have nL : L ∉ mod := fun z => by
    obtain ⟨o, ho⟩ := sub L z
    exact (N _ ho).2.1 rfl
  obtain ⟨sl, e1, -⟩ := k L oL hoL nL
  refine ⟨⟨_, a1, a2, e1, a3, a4⟩, fun b o e => keepT_at k (F.keep b o e) (fun z => ?_) (fun z => ?_), F.above⟩
  · obtain ⟨o', ho⟩ := sub b z
    have := (N _ ho).2.2
    rw [e] at this; cases this
  · rw [List.mem_singleton.mp z, kts_self F] at e; cases e
theorem back_newT (F : Fr h₀ L h m) (N : News h₀ L h news) (k : KeepT [L] mod h h')
    (ho : ∀ q ∈ news', (q ∈ news ∧ q.1 ∉ mod) ∨ (h'.get? q.1 = some q.2 ∧ ((∃ o, (q.1, o) ∈ news) ∨ h.get? q.1 = none))) : News h₀ L h' news' := fun q hq => by
  rcases ho q hq with ⟨z, n⟩ | ⟨z, y⟩
  · exact ⟨keepT_at k (N q z).1 n (fun e => (N q z).2.1 (List.mem_singleton.mp e)), (N q z).2⟩
  · refine ⟨z, ?_⟩
    rcases y with ⟨o, y⟩ | y
    · exact (N _ y).2
    · refine ⟨fun e => ?_, ?_⟩
      · obtain ⟨oL, a1, a2, hoL, a3⟩ := F.ns
        rw [e, hoL] at y; cases y
      · cases q2 : h₀.get? q.1 with
        | none => rfl
        | some o => rw [F.keep _ _ q2] at y; cases y
theorem fr_dicts {env : Env} (F : Fr h₀ L h m) (hf : env.frame = some L) : KtsDicts ([env].filterMap (·.frame)) h := fun b hb => by
  obtain ⟨e, he, hfe⟩ := List.mem_filterMap.mp hb
  rw [List.mem_singleton.mp he, hf] at hfe
  cases hfe
  obtain ⟨oL, a1, a2, hoL, a3, a4⟩ := F.ns
  exact ⟨oL, a1, a2, hoL, a3⟩
theorem fr_only {env : Env} (hf : env.frame = some L) : [env].filterMap (·.frame) = [L] := by rw [List.filterMap_cons, hf]; rfl
theorem alive_no {a : Addr} (N : News h₀ L h news) (e : h.get? a = none) : (a : Nat) ∉ (news.map (·.1) : List Nat) := fun z => by
  obtain ⟨q, hq, e2⟩ := List.mem_map.mp z
  have := (N q hq).1
  rw [show q.1 = a from e2, e] at this; cases this
theorem low_no {a : Addr} (lt : ∀ q ∈ news, q.1 < a) : (a : Nat) ∉ (news.map (·.1) : List Nat) := fun z => by
  obtain ⟨q, hq, e2⟩ := List.mem_map.mp z
  have := lt q hq
  rw [show q.1 = a from e2] at this; exact absurd this (Nat.lt_irrefl _)
end
theorem walL_ads {w : World} {x dx fx fdx b c n : Addr} {sz pl : Int} {nr : Bool} {k1 k2 k3 k4 k5 k6 ts t1 t2 t3 : Tok} {d : List UInt8} {oC oN : Obj} : ∀ q ∈ walL w x dx fx fdx b c n sz pl nr k1 k2 k3 k4 k5 k6 ts t1 t2 t3 d oC oN,
    q.1 = x ∨ q.1 = dx ∨ q.1 = fx ∨ q.1 = fdx ∨ q.1 = b ∨ q.1 = c ∨ q.1 = n := fun q hq => by
  simp only [List.mem_cons, List.not_mem_nil, or_false] at hq
  rcases hq with rfl | rfl | rfl | rfl | rfl | rfl | rfl <;> simp
section
variable {w : World} {A A₀ : Around} {s : Shared} {base h₀ : Heap} {outer : List Env} {env : Env} {L : Addr} {m : Str → Option Value} {p : Program} {loose : List Str} {mean : ExcName → Option Value} {mg mb : Str → Option Value}
  {Q : Value → Shared → Prop} {E : Value → Shared → Prop} {rest : List (Addr × Obj)} {fx fdx b tp o1 : Addr} {pl : Int} {t1 t2 t3 ts : Tok} {d : List UInt8} {sz : Nat}
theorem walE_N (B : Below A₀ base outer h₀) (X : (Mine.hd.heap_39 w.params).In base) (T : Top p loose mean mg mb base) (F : Fr h₀ L s.heap m) (N : News h₀ L s.heap (logL w fx fdx b pl t1 t2 t3 d ++ (tp, tupObj [.ref o1, .ref fx]) :: rest))
    (hA : A.frames = some (env :: outer)) (hf : env.frame = some L) (hke : env.scope.kind = .function) (hh : A.handled = none) (hg : A.guards = some []) (hroom : A.depth + 80 < recursionLimit)
    (Z : Nd (logL w fx fdx b pl t1 t2 t3 d ++ (tp, tupObj [.ref o1, .ref fx]) :: rest)) (hsz : sz ≤ 1000) (hd0 : d.length = 0)
    (h : ∀ h' t' x dx c n k1 k2 k3 k4 k5 k6 t3' oC oN, Fr h₀ L h' m → News h₀ L h' (walL w x dx fx fdx b c n sz 4 false k1 k2 k3 k4 k5 k6 ts t1 t2 t3' (leB 4 sz) oC oN ++ rest) →
      Nd (walL w x dx fx fdx b c n sz 4 false k1 k2 k3 k4 k5 k6 ts t1 t2 t3' (leB 4 sz) oC oN ++ rest) → oC.IsDictOf (kn w) [] → oN.IsDictOf (kn w) [] → (c == sysModules) = false → (n == sysModules) = false → Q (.ref x) { s with heap := h', toks := t' }) :
    wpN (model PySem.Challenge.rw_vq0002_01.row.prog w) A (call (.ref 144) [.ref tp, .int sz ts]) Q E s := by
  obtain ⟨hd, dp, fr, gs, u⟩ := A
  obtain rfl := hA
  obtain rfl := hh
  obtain rfl := hg
  have XX := (X.keeps B.stays).keeps F.keep
  revert X
  k_fill
  intro X
  refine n_call (c_make_K (K := Mine.hd.heap_39 w.params) (fI := 70) F N XX ?m ?i ?t fun x dx h' F' N' lt1 lt2 => ?_)
  case m => k_is
  case i => k_is
  case t => k_is
  have n1 := low_no lt1
  have n2 : (x : Nat) ∉ ((logL w fx fdx b pl t1 t2 t3 d ++ (tp, tupObj [.ref o1, .ref fx]) :: rest).map (·.1) : List Nat) := low_no fun q hq => Nat.lt_trans (lt1 q hq) lt2
  have ne : @Ne Nat x dx := Nat.ne_of_gt lt2
  unfold Nd at Z
  simp only [List.map_append, List.map_cons, List.map_nil, List.cons_append, List.nil_append] at n1 n2 Z
  refine winit0_c (call_below B F' rfl hf hke) X T rfl rfl (by k_room) (apart_of (by grind)) hsz hd0 (call_foot B N' hf (subC (.head _) (subC (.tail _ (.head _)) (subC (.tail _ (.tail _ (.tail _ (.tail _ (.tail _ (.head _)))))) (subC (.tail _ (.tail _ (.head _))) (subC (.tail _ (.tail _ (.tail _ (.head _)))) (sub1 (.tail _ (.tail _ (.tail _ (.tail _ (.head _))))))))))))
    fun h2 t' c n k1 k2 k3 k4 k5 k6 t3' oC oN k ga hC hN fc fn lt lc ln => ⟨rfl, ?_⟩
  dsimp only at fc fn
  have c1 := alive_no N' fc
  have c2 := alive_no N' fn
  have c3 : @Ne Nat c n := Nat.ne_of_lt lt
  simp only [List.map_append, List.map_cons, List.map_nil, List.cons_append, List.nil_append] at c1 c2
  have F2 := back_fr F' N' k (modsC (.tail _ (.head _)) (modsC (.tail _ (.tail _ (.tail _ (.head _)))) (mods1 (.tail _ (.tail _ (.tail _ (.tail _ (.head _))))))))
  refine h h2 t' x dx c n k1 k2 k3 k4 k5 k6 t3' oC oN F2 (back_new N' F' k fun q hq => ?_) ?_ hC hN lc ln
  · rcases List.mem_append.mp hq with z | z
    · refine .inr ⟨ga q z, ?_⟩
      rcases walL_ads q z with e | e | e | e | e | e | e
      · exact .inl (by rw [e]; exact ⟨_, .head _⟩)
      · exact .inl (by rw [e]; exact ⟨_, .tail _ (.head _)⟩)
      · exact .inl (by rw [e]; exact ⟨_, .tail _ (.tail _ (.head _))⟩)
      · exact .inl (by rw [e]; exact ⟨_, .tail _ (.tail _ (.tail _ (.head _)))⟩)
      · exact .inl (by rw [e]; exact ⟨_, .tail _ (.tail _ (.tail _ (.tail _ (.head _))))⟩)
      · exact .inr (by rw [e]; exact fc)
      · exact .inr (by rw [e]; exact fn)
    · exact .inl ⟨.tail _ (.tail _ (.tail _ (.tail _ (.tail _ (.tail _ z))))), fun y => by
        have hm : (q.1 : Nat) ∈ (rest.map (·.1) : List Nat) := List.mem_map_of_mem z
        have y' : (q.1 : Nat) ∈ ([dx, fdx, b] : List Nat) := y
        grind⟩
  · unfold Nd
    simp only [List.map_append, List.map_cons, List.map_nil, List.cons_append, List.nil_append]
    grind
theorem walL_N (B : Below A₀ base [] h₀) (X : (Mine.hd.heap_39 w.params).In base) (T : Top p loose mean mg mb base) (F : Fr h₀ L s.heap m) (N : News h₀ L s.heap (logL w fx fdx b pl t1 t2 t3 d ++ (tp, tupObj [.ref o1, .ref fx]) :: rest))
    (hA : A.frames = some [env]) (hf : env.frame = some L) (hke : env.scope.kind = .function) (hh : A.handled = none) (hg : A.guards = some []) (hroom : A.depth + 90 < recursionLimit)
    (Z : Nd (logL w fx fdx b pl t1 t2 t3 d ++ (tp, tupObj [.ref o1, .ref fx]) :: rest)) (hs : 0 < sz) (hsz : sz ≤ 1000) (hz : d.length ≤ 1000000) (hin : 4 ≤ d.length) (hsd : leInt (d.take 4) = sz) {f : Nat} (hf' : f ≤ 900) (hok : Ok d sz f 4)
    (h : ∀ h' t' x dx c n k1 k2 k3 k4 k5 k6 t3' oC oN pl' kc, 0 ≤ pl' → Fr h₀ L h' m → News h₀ L h' (walL w x dx fx fdx b c n sz pl' true k1 k2 k3 k4 k5 k6 ts t1 t2 t3' d oC oN ++ rest) →
      Nd (walL w x dx fx fdx b c n sz pl' true k1 k2 k3 k4 k5 k6 ts t1 t2 t3' d oC oN ++ rest) → oC.IsDictOf (kn w) kc → Ints kc (scan d sz f 4 [] []) → oN.IsDictOf (kn w) [] → (c == sysModules) = false → (n == sysModules) = false → Q (.ref x) { s with heap := h', toks := t' }) :
    wpN (model PySem.Challenge.rw_vq0002_01.row.prog w) A (call (.ref 144) [.ref tp, .int sz ts]) Q E s := by
  obtain ⟨hd, dp, fr, gs, u⟩ := A
  obtain rfl := hA
  obtain rfl := hh
  obtain rfl := hg
  have XX := (X.keeps B.stays).keeps F.keep
  revert X
  k_fill
  intro X
  refine n_call (c_make_K (K := Mine.hd.heap_39 w.params) (fI := 70) F N XX ?m ?i ?t fun x dx h' F' N' lt1 lt2 => ?_)
  case m => k_is
  case i => k_is
  case t => k_is
  have n1 := low_no lt1
  have n2 : (x : Nat) ∉ ((logL w fx fdx b pl t1 t2 t3 d ++ (tp, tupObj [.ref o1, .ref fx]) :: rest).map (·.1) : List Nat) := low_no fun q hq => Nat.lt_trans (lt1 q hq) lt2
  have ne : @Ne Nat x dx := Nat.ne_of_gt lt2
  unfold Nd at Z
  simp only [List.map_append, List.map_cons, List.map_nil, List.cons_append, List.nil_append] at n1 n2 Z
  refine winitL_c (call_below B F' rfl hf hke) X T rfl rfl (by k_room) (apart_of (by grind)) hsz hs hz hin hsd hf' hok (fr_dicts F' hf) (call_foot B N' hf (subC (.head _) (subC (.tail _ (.head _)) (subC (.tail _ (.tail _ (.tail _ (.tail _ (.tail _ (.head _)))))) (subC (.tail _ (.tail _ (.head _))) (subC (.tail _ (.tail _ (.tail _ (.head _)))) (sub1 (.tail _ (.tail _ (.tail _ (.tail _ (.head _))))))))))))
    fun h2 t' pl' c n k1 k2 k3 k4 k5 k6 t3' oC oN kc p0 k ga hC hI hN fc fn c3 lc ln => ⟨rfl, ?_⟩
  dsimp only at fc fn
  have c1 := alive_no N' fc
  have c2 := alive_no N' fn
  rw [fr_only hf] at k
  simp only [List.map_append, List.map_cons, List.map_nil, List.cons_append, List.nil_append] at c1 c2
  have F2 := back_frT F' N' k (modsC (.tail _ (.head _)) (mods1 (.tail _ (.tail _ (.tail _ (.head _))))))
  refine h h2 t' x dx c n k1 k2 k3 k4 k5 k6 t3' oC oN pl' kc p0 F2 (back_newT F' N' k fun q hq => ?_) ?_ hC hI hN lc ln
  · rcases List.mem_append.mp hq with z | z
    · refine .inr ⟨ga q z, ?_⟩
      rcases walL_ads q z with e | e | e | e | e | e | e
      · exact .inl (by rw [e]; exact ⟨_, .head _⟩)
      · exact .inl (by rw [e]; exact ⟨_, .tail _ (.head _)⟩)
      · exact .inl (by rw [e]; exact ⟨_, .tail _ (.tail _ (.head _))⟩)
      · exact .inl (by rw [e]; exact ⟨_, .tail _ (.tail _ (.tail _ (.head _)))⟩)
      · exact .inl (by rw [e]; exact ⟨_, .tail _ (.tail _ (.tail _ (.tail _ (.head _))))⟩)
      · exact .inr (by rw [e]; exact fc)
      · exact .inr (by rw [e]; exact fn)
    · exact .inl ⟨.tail _ (.tail _ (.tail _ (.tail _ (.tail _ (.tail _ z))))), fun y => by
        have hm : (q.1 : Nat) ∈ (rest.map (·.1) : List Nat) := List.mem_map_of_mem z
        have y' : (q.1 : Nat) ∈ ([dx, fdx] : List Nat) := y
        grind⟩
  · unfold Nd
    simp only [List.map_append, List.map_cons, List.map_nil, List.cons_append, List.nil_append]
    grind
end
end

/-! ### VLog -/
theorem fresh39 {M : Model} {A : Around} {env : Env} {Q : Flow → Shared → Prop} {E : Value → Shared → Prop} {s : Shared} (h : Q .next s) : wpAny M A (execs [] env) Q E s := by
  w_top off
  (try walk1)
  all_goals first | exact h | exact wpAny_execs_nil h
section
section
variable {w : World} {A : Around} {s : Shared} {base : Heap} {outer : List Env} {p : Program} {loose : List Str} {mean : ExcName → Option Value} {mg mb : Str → Option Value} {R : Result → Shared → Prop}
theorem log_c (B : Below A base outer s.heap) (X : (Mine.hd.heap_39 w.params).In base) (T : Top p loose mean mg mb base) (hh : A.handled = none) (hg : A.guards = some []) (hroom : A.depth + 40 < recursionLimit)
    {e : List UInt8} {te : Tok} (he : 0 < e.length) (hz : e.length ≤ 1000000)
    (h : ∀ h' t' fx fdx b t1 t2 t3, Keep [] s.heap h' → (∀ q ∈ logL w fx fdx b e.length t1 t2 t3 e, h'.get? q.1 = some q.2) → (∀ q ∈ logL w fx fdx b e.length t1 t2 t3 e, s.heap.get? q.1 = none) → ([fx, fdx, b] : List Nat).Nodup → R (.ok (.ret (.ref fx))) { s with heap := h', toks := t' }) :
    codeN (model PySem.Challenge.rw_vq0002_01.row.prog w) A (.call (.ref 212) ⟨[.bytes e.toArray te], []⟩) R s := by
  obtain ⟨hd, dp, fr, gs, u⟩ := A
  obtain rfl := B.stack
  obtain rfl := hh
  obtain rfl := hg
  have P : Foot base outer s.heap [] := foot_nil
  revert X
  k_fill
  intro X
  walk_at "MINE enterN"
  (try k_lt l1)
  with_reducible rename Below _ _ _ _ => B'
  refine n_execs_cons (n_Assign_Name (n_Call_Name ?_))
  k_fold
  walk_at "MINE steps"
  with_reducible rename Fr _ _ _ _ => F'
  with_reducible rename News _ _ _ _ => N'
  refine n_callWith0 (K := Mine.hd.heap_39 w.params) ?hX (by k_is) ?_
  case hX => exact Frag.In.keeps (by assumption) F'.keep
  refine' octets_N (s := ⟨_, _, _, _, _⟩) B' ?X ?T F' N' rfl rfl rfl rfl rfl ?room List.nodup_nil ?_
  case X => assumption
  case T => assumption
  case room => k_room
  clear F' N'
  intro h1 tk1 fx fdx b t1 t2 t3 F' N' Z'
  rw [List.append_nil] at N' Z'
  have hA' := apart_of Z'
  simp only [List.map_cons, List.map_nil, Apart, AllNeN, and_true] at hA'
  obtain ⟨⟨_, _⟩, _⟩ := hA'
  (try dsimp only)
  walk_at "MINE steps"
  refine n_execs_cons (n_Expr (n_mcall1 (K := Mine.hd.heap_39 w.params) ?_))
  k_fold
  walk_at "MINE steps"
  (try dsimp only)
  with_reducible rename Fr _ _ _ _ => F'
  with_reducible rename News _ _ _ _ => N'
  refine' write_N (s := ⟨_, _, _, _, _⟩) (d := []) B' ?X ?T F' N' rfl rfl rfl rfl rfl ?room he ?hz ?m1 ?U ?U2 ?ne ?b1 ?b2 ?_
  case X => assumption
  case T => assumption
  case room => k_room
  case m1 => k_mem
  case hz => simp only [List.length_nil]; omega
  case U => k_updF
  case U2 => intro t3'; k_updF
  case ne => walk_at "MINE ne"
  case b1 => walk_at "MINE ne"
  case b2 => walk_at "MINE ne"
  clear F' N'
  intro h' t' t3' tr F' N'
  (try dsimp only)
  walk_at "MINE any1"
  with_reducible rename Fr _ _ _ _ => F2
  with_reducible rename News _ _ _ _ => N2
  with_reducible rename Keep _ _ _ => KG
  simp only [List.length_nil, List.nil_append] at N2
  rw [show (((0 : Nat) : Int) + e.length) = e.length by omega] at N2
  refine h _ _ fx fdx b t1 t2 t3' ?k (got_all (fp := logL w fx fdx b e.length t1 t2 t3' e) N2 fun _ q => q) ?n Z'
  case k => walk_at "MINE keep"
  case n => exact fun q hq => new_none KG (by assumption) (show (q.1, q.2) ∈ _ from by exact hq) fun _ z => nomatch z
end
end

/-! ### VCell -/
theorem fresh40 {M : Model} {A : Around} {env : Env} {Q : Flow → Shared → Prop} {E : Value → Shared → Prop} {s : Shared} (h : Q .next s) : wpAny M A (execs [] env) Q E s := by
  w_top off
  (try walk1)
  all_goals first | exact h | exact wpAny_execs_nil h
section
section
variable {prog : Program} {w : World} {A : Around} {s : Shared} {base : Heap} {outer : List Env} {K : Frag} {p : Program} {loose : List Str} {mean : ExcName → Option Value} {mg mb : Str → Option Value}
  {R : Result → Shared → Prop} {name qual : Str} {params : Arguments} {body : List Stmt} {scope : Scope} {dV kV doc pm cdv ct oc : Value} {an od : Option Addr} {osl : Array (Option Value)} {f : Addr} {args : Args} {binds : List (Str × Value)}
theorem enter_cells {fp : List (Addr × Obj)} {Q : Env → Shared → Prop} (B : Below A base outer s.heap) (X : K.In base) (T : Top p loose mean mg mb base) (P : Foot base outer s.heap fp)
    (hkind : (binds.all fun y => scope.names.lookup y.1 == some .local || scope.names.lookup y.1 == some .cell) = true)
    (hnd : ((cellsFrom 0 scope.names []).map (·.1)).Nodup) (hk : scope.kind = .function) {E : Value → Shared → Prop}
    (h : ∀ g L' h₁ tk cells, Keep (fp.map (·.1)) s.heap g → Fr g L' h₁ (bindL (envOfC qual scope L' f cdv).kindOf binds fun _ => none) → News g L' h₁ (cells ++ fp) →
      CellsAre (bindC (envOfC qual scope L' f cdv).kindOf binds fun _ => none) (cellsFrom (L' + 1) scope.names []) cells → Below A base outer g → K.In g → Top p loose mean mg mb g → (∀ q ∈ fp, q.1 < L') →
      Q (envOfC qual scope L' f cdv) { s with heap := h₁, toks := tk }) :
    wpAny (model prog w) A.in1 (newFunctionEnv scope mainGlobals [] binds (qual ++ ".<locals>.") (some f) cdv none builtinsNs) (fun env s₂ => s₂.heap.NoLimit ∧ Q env s₂) E s := by
  have st : base.StaysIn (hideAll s.heap (fp.map (·.1))) := fun b o e => hideAll_get _ (B.stays b o e) fun q => by
    obtain ⟨x, hx, rfl⟩ := List.mem_map.mp q
    rw [P.new x hx] at e; cases e
  refine wpAny_newFunctionEnv_cells hk (kindsX hkind _) fun env' he s' x => ?_
  subst he
  refine ⟨(T.nolimit.keeps B.stays).keeps x.toInCall.keep, ?_⟩
  obtain ⟨h₁, tk, rfl, _⟩ := x.done
  have hk₁ := x.toInCall.keep
  obtain ⟨cells, NC, Y⟩ := Cl.news (h₀ := s.heap) (Nat.le_refl _) fun n c hm => ⟨x.cell n c (lookup_of_mem_nodup (cellsFrom_names scope.names 0 (s.heap.objs.size + 1) [] [] rfl ▸ hnd) hm), x.above n c hm⟩
  refine h _ s.heap.objs.size h₁ tk cells (fun a o e n => hideAll_get _ e n) ⟨x.toInCall.ns, fun b o e => hk₁ b o (of_hideAll _ e), Nat.le_of_eq (hideAll_size _ _)⟩ (fun q hq => ?_) Y
    ⟨B.stack, st, funFrames_hideAll B.frames fun env he a ha hf => by
      obtain ⟨x, hx, rfl⟩ := List.mem_map.mp ha
      exact P.off env he x hx hf⟩ (X.keeps st) (T.keeps st) (fun q hq => Heap.lt_size (P.at_ q hq))
  rcases List.mem_append.mp hq with hp | hp
  · refine ⟨(NC q hp).1, (NC q hp).2.1, ?_⟩
    cases e : (hideAll s.heap (fp.map (·.1))).get? q.1 with
    | none => rfl
    | some o => have := of_hideAll _ e; rw [(NC q hp).2.2] at this; cases this
  · exact ⟨hk₁ _ _ (P.at_ q hp), Nat.ne_of_lt (Heap.lt_size (P.at_ q hp)), hideAll_none _ (List.mem_map_of_mem hp)⟩
theorem enter_cC (B : Below A base outer s.heap) (X : K.In base) (T : Top p loose mean mg mb base) (fp : List (Addr × Obj)) (P : Foot base outer s.heap fp)
    (ho : K.lookup f = some ⟨oc, od, .func (fnOf name qual params body scope dV kV doc pm an cdv ct), osl⟩) (hcd : codeIn K cdv qual = true) (hroom : A.depth < recursionLimit)
    (hbind : BindsTo s (fnOf name qual params body scope dV kV doc pm an cdv ct) args binds) (hkind : (binds.all fun y => scope.names.lookup y.1 == some .local || scope.names.lookup y.1 == some .cell) = true)
    (hnd : ((cellsFrom 0 scope.names []).map (·.1)).Nodup) (hco : scope.isCoroutine = false) (hgen : scope.isGenerator = false) (hk : scope.kind = .function)
    (h : ∀ g L' h₁ tk cells, Keep (fp.map (·.1)) s.heap g → Fr g L' h₁ (bindL (envOfC qual scope L' f cdv).kindOf binds fun _ => none) → News g L' h₁ (cells ++ fp) →
      CellsAre (bindC (envOfC qual scope L' f cdv).kindOf binds fun _ => none) (cellsFrom (L' + 1) scope.names []) cells → Below A base outer g → K.In g → Top p loose mean mg mb g → (∀ q ∈ fp, q.1 < L') →
      wpAny (model prog w) (A.deeper (envOfC qual scope L' f cdv)) (execs body (envOfC qual scope L' f cdv))
        (fun fl s' => R (.ok (.ret (match fl with | .ret v => v | _ => .none))) s')
        (fun e s' => wpAny (model prog w) (A.deeper (envOfC qual scope L' f cdv)) (leaving (envOfC qual scope L' f cdv) e) (fun _ s'' => R (.error e) s'') (fun e' s'' => R (.error e') s'') s')
        { s with heap := h₁, toks := tk }) :
    codeAny (model prog w) A (.call (.ref f) args) R s := by
  refine codeAny_call_function (fd := fnOf name qual params body scope dV kV doc pm an cdv ct) hroom (B.stays _ _ (X _ _ ho)) rfl hco hgen rfl (codeRec_of (X.keeps B.stays) hcd) (hbind _ _ _ _ ?_)
  exact enter_cells (Q := fun env s₂ => codeAny (model prog w) A (.func body env) R s₂) (s := s) B X T P hkind hnd hk fun g L' h₁ tk cells KG F N Y B' X' T' l => codeAny_func (h g L' h₁ tk cells KG F N Y B' X' T' l)
theorem enter_nC (B : Below A base outer s.heap) (X : K.In base) (T : Top p loose mean mg mb base) (fp : List (Addr × Obj)) (P : Foot base outer s.heap fp)
    (ho : K.lookup f = some ⟨oc, od, .func (fnOf name qual params body scope dV kV doc pm an cdv ct), osl⟩) (hcd : codeIn K cdv qual = true) (hroom : A.depth < recursionLimit)
    (hbind : BindsTo s (fnOf name qual params body scope dV kV doc pm an cdv ct) args binds) (hkind : (binds.all fun y => scope.names.lookup y.1 == some .local || scope.names.lookup y.1 == some .cell) = true)
    (hnd : ((cellsFrom 0 scope.names []).map (·.1)).Nodup) (hco : scope.isCoroutine = false) (hgen : scope.isGenerator = false) (hk : scope.kind = .function)
    (h : ∀ g L' h₁ tk cells, Keep (fp.map (·.1)) s.heap g → Fr g L' h₁ (bindL (envOfC qual scope L' f cdv).kindOf binds fun _ => none) → News g L' h₁ (cells ++ fp) →
      CellsAre (bindC (envOfC qual scope L' f cdv).kindOf binds fun _ => none) (cellsFrom (L' + 1) scope.names []) cells → Below A base outer g → K.In g → Top p loose mean mg mb g → (∀ q ∈ fp, q.1 < L') →
      wpN (model prog w) (A.deeper (envOfC qual scope L' f cdv)) (execs body (envOfC qual scope L' f cdv))
        (fun fl s' => R (.ok (.ret (match fl with | .ret v => v | _ => .none))) s')
        (fun e s' => wpAny (model prog w) (A.deeper (envOfC qual scope L' f cdv)) (leaving (envOfC qual scope L' f cdv) e) (fun _ s'' => R (.error e) s'') (fun e' s'' => R (.error e') s'') s')
        { s with heap := h₁, toks := tk }) :
    codeN (model prog w) A (.call (.ref f) args) R s := by
  refine c_call_function (fd := fnOf name qual params body scope dV kV doc pm an cdv ct) hroom (B.stays _ _ (X _ _ ho)) rfl hco hgen rfl (codeRec_of (X.keeps B.stays) hcd) (hbind _ _ _ _ ?_)
  exact enter_cells (Q := fun env s₂ => codeN (model prog w) A (.func body env) R s₂) (s := s) B X T P hkind hnd hk fun g L' h₁ tk cells KG F N Y B' X' T' l => c_func (h g L' h₁ tk cells KG F N Y B' X' T' l)
end
end
local macro_rules | `(tactic| walk_at "MINE enterC") => `(tactic| (
  refine' enter_cC ?B ?X ?T _ ?P ?k6 ?k7 ?k8 ?k9 ?kB ?kD ?c6 ?c7 ?c8 ?_
  case B => assumption
  case X => assumption
  case T => assumption
  case P => assumption
  case k6 => k_is
  case k7 => k_is
  case k8 => k_room
  case k9 => first | exact BindsTo.of_eq rfl | exact binds_K (Frag.In.keeps (by assumption) (Below.stays (by assumption))) rfl (by k_is) rfl rfl rfl
  case kB => exact rfl
  case kD => decide +kernel
  case c6 => exact rfl
  case c7 => exact rfl
  case c8 => exact rfl
  intro g' L' h' tk' cells' KG F' N' Y' B' X' T' l1
  (try k_lt l1)
  k_cells Y'
  (try simp only [List.cons_append, List.nil_append] at N')
  (try dsimp only)
  (try k_fold)))
local macro_rules | `(tactic| walk_at "MINE enterNC") => `(tactic| (
  refine' enter_nC ?B ?X ?T _ ?P ?k6 ?k7 ?k8 ?k9 ?kB ?kD ?c6 ?c7 ?c8 ?_
  case B => assumption
  case X => assumption
  case T => assumption
  case P => assumption
  case k6 => k_is
  case k7 => k_is
  case k8 => k_room
  case k9 => first | exact BindsTo.of_eq rfl | exact binds_K (Frag.In.keeps (by assumption) (Below.stays (by assumption))) rfl (by k_is) rfl rfl rfl
  case kB => exact rfl
  case kD => decide +kernel
  case c6 => exact rfl
  case c7 => exact rfl
  case c8 => exact rfl
  intro g' L' h' tk' cells' KG F' N' Y' B' X' T' l1
  (try k_lt l1)
  k_cells Y'
  (try simp only [List.cons_append, List.nil_append] at N')
  (try dsimp only)
  (try k_fold)))

/-! ### VTold -/
theorem fresh41 {M : Model} {A : Around} {env : Env} {Q : Flow → Shared → Prop} {E : Value → Shared → Prop} {s : Shared} (h : Q .next s) : wpAny M A (execs [] env) Q E s := by
  w_top off
  (try walk1)
  all_goals first | exact h | exact wpAny_execs_nil h
section
inductive Rel2 {α β : Type} (r : α → β → Prop) : List α → List β → Prop
  | nil : Rel2 r [] []
  | cons {a : α} {b : β} {l : List α} {k : List β} (h : r a b) (t : Rel2 r l k) : Rel2 r (a :: l) (b :: k)
section
variable {w : World} {A A₀ : Around} {s : Shared} {base h₀ : Heap} {outer : List Env} {env : Env} {L : Addr} {m : Str → Option Value} {p : Program} {loose : List Str} {mean : ExcName → Option Value} {mg mb : Str → Option Value} {R : Result → Shared → Prop}
  {x dx fx fdx b c n pp : Addr} {sz : Nat} {pl : Int} {nr : Bool} {k1 k2 k3 k4 k5 k6 ts t1 t2 t3 : Nat} {oC oN oP : Obj} {kc kv kp : List (Int × Value)} {d : List UInt8} {Q : Value → Shared → Prop} {E : Value → Shared → Prop} {news : List (Addr × Obj)} {g : Obj → List (Addr × Obj)}
theorem gp_K (B : Below A₀ base outer h₀) (X : (Mine.hd.heap_39 w.params).In base) (T : Top p loose mean mg mb base) (F : Fr h₀ L s.heap m) (N : News h₀ L s.heap news)
    (hA : A.frames = some (env :: outer)) (hf : env.frame = some L) (hke : env.scope.kind = .function) (hh : A.handled = none) (hroom : A.depth + 40 < recursionLimit)
    (hsub : ∀ q ∈ walL w x dx fx fdx b c n sz pl nr k1 k2 k3 k4 k5 k6 ts t1 t2 t3 d oC oN, q ∈ news) (U : UpdF fdx (octD w.params b pl t1 t2 t3) news g)
    (hD : Apart [x, dx, fx, fdx, b, c, n]) (loN : (n == sysModules) = false) (loC : (c == sysModules) = false) {q : Int} {tq : Tok} (hs : 0 < sz) (hz : d.length ≤ 1000000) (pN : Places d sz kv) (pC : Places d sz kc) (p0 : 0 ≤ pl)
    (hN : oN.IsDictOf (kn w) kv) (hC : oC.IsDictOf (kn w) kc)
    (h : ∀ h' t' pl' t3' tr, 0 ≤ pl' → Fr h₀ L h' m → News h₀ L h' (g (octD w.params b pl' t1 t2 t3')) → Q (bytesOr (pageAt d sz kv kc q) tr) { s with heap := h', toks := t' }) :
    wpAny (model PySem.Challenge.rw_vq0002_01.row.prog w) A (call (.ref 120) [.ref x, .int q tq]) Q E s :=
  wpAny_call (gp_c (call_below B F hA hf hke) X T hh hroom hD loN loC hs hz pN pC p0 hN hC (call_foot B N hf hsub) fun h' t' pl' t3' tr z k ho =>
    h h' t' pl' t3' tr z (back_fr F N k (mods1 (updF_mem U))) (back_upd N U k ho))
end
section
variable {prog : Program} {w : World} {A : Around} {E : Value → Shared → Prop} {s : Shared} {h₀ : Heap} {L : Addr} {m : Str → Option Value} {news : List (Addr × Obj)}
theorem eqAt_bytes (a b : List UInt8) (t u : Tok) : SeqAt.EqAt A s (.bytes a.toArray t) (.bytes b.toArray u) (a == b) := fun prog w E Q h => by
  unfold eqBool
  refine wpAny_holding ?_
  refine wpAny_ite_split (fun hab => ?_) (fun _ => ?_)
  · have e : a = b := by
      have := eq_of_beq hab
      injection this with e1 e2
      simpa using e1
    subst e
    rw [beq_self_eq_true] at h
    exact wpAny_bind (wpAny_rule (wpAny_pure h))
  · refine wpAny_bind (eq_bytes (wpAny_truthy_bool ?_))
    exact h
def SameB (u v : Value) : Prop := ∃ o t, u = bytesOr o t ∧ ∃ t', v = bytesOr o t'
theorem SameB.at {u v : Value} (h : SameB u v) : SeqAt.EqAt A s u v true := by
  obtain ⟨o, t, rfl, t', rfl⟩ := h
  cases o with
  | none => exact SeqAt.EqAt.same _
  | some l =>
    have := eqAt_bytes (A := A) (s := s) l l t t'
    rw [beq_self_eq_true] at this
    exact this
theorem rel2_at {α β : Type} {r : α → β → Prop} : ∀ {l : List α} {k : List β}, Rel2 r l k → ∀ j (h1 : j < l.length) (h2 : j < k.length), r l[j] k[j]
  | _, _, .cons h _, 0, _, _ => h
  | _, _, .cons _ t, j + 1, h1, h2 => rel2_at t j (Nat.lt_of_succ_lt_succ h1) (Nat.lt_of_succ_lt_succ h2)
theorem rel2_len {α β : Type} {r : α → β → Prop} : ∀ {l : List α} {k : List β}, Rel2 r l k → l.length = k.length
  | _, _, .nil => rfl
  | _, _, .cons _ t => congrArg (· + 1) (rel2_len t)
theorem lists_eq {a b : Addr} {us vs : List Value} {Q : Value → Shared → Prop} (N : News h₀ L s.heap news) (m1 : (a, LCg.lst us) ∈ news) (m2 : (b, LCg.lst vs) ∈ news) (hu : A.units < cLine) (hE : Rel2 SameB us vs)
    (h : Q (.bool true) s) : wpAny (model prog w) A (compareOp .Eq (.ref a) (.ref b)) Q E s := by
  refine SeqAt.eq_listAt (items := us.toArray) (items2 := vs.toArray) (e := fun _ => true) ⟨_, (N _ m1).1, rfl, _, rfl⟩ ⟨_, (N _ m2).1, rfl, _, rfl⟩ (by simp [rel2_len hE]) hu (fun j h1 h2 => ?_) ?_
  · simp only [List.getElem_toArray]
    exact (rel2_at hE j (by simpa using h1) (by simpa using h2)).at
  · rw [show (List.range us.toArray.size).all (fun _ => true) = true by simp]
    exact h
end
theorem offI {I C D a : Addr} {news : List (Addr × Obj)} (h : LCg.Off3 I C D news) (m : ∃ o, (a, o) ∈ news) : @Ne Nat a I := let ⟨_, m⟩ := m; (LCg.Off3.mem h _ m).1
theorem offC {I C D a : Addr} {news : List (Addr × Obj)} (h : LCg.Off3 I C D news) (m : ∃ o, (a, o) ∈ news) : @Ne Nat a C := let ⟨_, m⟩ := m; (LCg.Off3.mem h _ m).2.1
theorem offD {I C D a : Addr} {news : List (Addr × Obj)} (h : LCg.Off3 I C D news) (m : ∃ o, (a, o) ∈ news) : @Ne Nat a D := let ⟨_, m⟩ := m; (LCg.Off3.mem h _ m).2.2
theorem off1D' : ∀ {D a : Addr} {o : Obj} {news : List (Addr × Obj)}, LCg.Off1 D news → (a, o) ∈ news → @Ne Nat a D
  | _, _, _, _ :: _, h, m => by
    rcases List.mem_cons.mp m with e | m
    · rw [← e] at h; exact h.1
    · exact off1D' h.2 m
theorem off1D {D a : Addr} {news : List (Addr × Obj)} (h : LCg.Off1 D news) (m : ∃ o, (a, o) ∈ news) : @Ne Nat a D := let ⟨_, m⟩ := m; off1D' h m
theorem df_of {a b : Nat} (h : @Ne Nat a b) : Df a b := ⟨h⟩
section
local macro_rules | `(tactic| walk_at "MINE off") => `(tactic| first | exact offI (by with_reducible assumption) ⟨_, by k_mem⟩ | exact offC (by with_reducible assumption) ⟨_, by k_mem⟩ | exact offD (by with_reducible assumption) ⟨_, by k_mem⟩ | exact off1D (by with_reducible assumption) ⟨_, by k_mem⟩ | exact Ne.symm (offI (by with_reducible assumption) ⟨_, by k_mem⟩) | exact Ne.symm (offC (by with_reducible assumption) ⟨_, by k_mem⟩) | exact Ne.symm (offD (by with_reducible assumption) ⟨_, by k_mem⟩) | exact Ne.symm (off1D (by with_reducible assumption) ⟨_, by k_mem⟩))
local macro_rules | `(tactic| k_ne) => `(tactic| (refine neN ?_; (try dsimp only); first | with_reducible assumption | exact Df.ne (by with_reducible assumption) | exact Df.ne' (by with_reducible assumption) | exact Ne.symm (by with_reducible assumption) | walk_at "MINE off" | omega))
local macro_rules | `(tactic| walk_at "compareOp Eq ref ref") => `(tactic| (k_here; refine Stop.go ?_))
local macro_rules | `(tactic| walk_at "CompSrc") => `(tactic| (k_here; k_dflt (refine LCg.CompSrc.range (by rfl) (by k_asm) (by k_asm) (by assumption) (by decide) (by rfl) (by size_fits) ?_); intro g'; lcg_lit))
local macro_rules | `(tactic| walk_at "CompRest") => `(tactic| (with_unfolding_all first
  | (refine LCg.CompRest.succ ?_; intro v' I' oI' C' oC' D' m' h' tk' E' hv' hC' hx' F' N' off' ne'; (obtain ⟨t9', hv9'⟩ := hv'; subst hv9'); (obtain ⟨n1', n2', n3'⟩ := ne'); (replace n1' := df_of n1'); (replace n2' := df_of n2'); (replace n3' := df_of n3'))
  | refine LCg.CompRest.zero ?_))
local macro_rules | `(tactic| walk_at "FinE") => `(tactic| ((unfold LCg.FinE); intro D' h' tk' F' N' o1'; (try simp only [List.nil_append, List.cons_append] at N'); (try dsimp only)))
local macro_rules | `(tactic| walk_at "call ref") => `(tactic| (k_here; (try dsimp only [List.cons_append, List.nil_append]); (with_reducible show wpAny _ _ (call (Value.ref 120) [Value.ref _, Value.int _ _]) _ _ _); (with_reducible rename Fr _ _ _ _ => F'); (with_reducible rename News _ _ _ _ => N'); k_dflt (refine' gp_K ?B ?X ?T F' N' rfl rfl rfl rfl ?room ?sub ?U ?D ?loN ?loC ?hs ?hz ?pN ?pC ?p0 ?hN ?hC ?_; (case B => assumption); (case X => assumption); (case T => assumption); (case room => k_room); (case D => exact And.left (b := True) (by assumption)); (case sub => (unfold walL; walk_at "MINE subs")); (case U => k_updF); (case loN => assumption); (case loC => assumption); (case hs => assumption); (case hz => assumption); (case hN => assumption); (case hC => assumption); (case pN => assumption); (case pC => assumption); (case p0 => assumption); k_whole); intro h' t' pl' t3' tr p0' F' N'; (try k_sweep)))
variable {w : World} {A : Around} {s : Shared} {base : Heap} {outer : List Env} {p : Program} {loose : List Str} {mean : ExcName → Option Value} {mg mb : Str → Option Value} {R : Result → Shared → Prop}
  {x dx fx fdx b c n pp : Addr} {sz : Nat} {pl : Int} {nr : Bool} {k1 k2 k3 k4 k5 k6 ts t1 t2 t3 : Nat} {oC oN oP : Obj} {kc kv kp : List (Int × Value)} {d : List UInt8}
theorem told_c (B : Below A base outer s.heap) (X : (Mine.hd.heap_39 w.params).In base) (T : Top p loose mean mg mb base) (hh : A.handled = none) (hroom : A.depth + 60 < recursionLimit)
    (hD : Apart [x, dx, fx, fdx, b, c, n]) (loN : (n == sysModules) = false) (loC : (c == sysModules) = false) (hs : 0 < sz) (hz : d.length ≤ 1000000) (pN : Places d sz kv) (pC : Places d sz kc) (p0 : 0 ≤ pl)
    (hN : oN.IsDictOf (kn w) kv) (hC : oC.IsDictOf (kn w) kc) (hP : oP.IsDictOf (kn w) kp) (loP : (pp == sysModules) = false) (hpf : @Ne Nat pp fdx) (hu : A.units + 64 < cLine) (hEq : ∀ q : Int, 1 ≤ q → q ≤ 4 → ∃ t, (valueAt kp q).getD .none = bytesOr (pageAt d sz kv kc q) t)
    (P : Foot base outer s.heap (walL w x dx fx fdx b c n sz pl nr k1 k2 k3 k4 k5 k6 ts t1 t2 t3 d oC oN ++ [(pp, oP)]))
    (h : ∀ h' t' pl' t3', 0 ≤ pl' → Keep [fdx] s.heap h' → h'.get? fdx = some (octD w.params b pl' t1 t2 t3') → R (.ok (.ret (.bool true))) { s with heap := h', toks := t' }) :
    codeAny (model PySem.Challenge.rw_vq0002_01.row.prog w) A (.call (.ref 238) ⟨[.ref x, .ref pp], []⟩) R s := by
  obtain ⟨hd, dp, fr, gs, u⟩ := A
  obtain rfl := B.stack
  obtain rfl := hh
  have hD0 : Apart [x, dx, fx, fdx, b, c, n] ∧ True := ⟨hD, trivial⟩
  walk_at "MINE apart"
  unfold walL at P
  simp only [List.cons_append, List.nil_append] at P
  revert X
  k_fill
  intro X
  walk_at "MINE enterC"
  walk_at "MINE steps"
  show wpAny _ _ (compareOp _ _ _) _ _ _
  with_reducible rename News _ _ _ _ => N'
  refine' lists_eq N' ?m1 ?m2 ?hu ?rel ?_
  case m1 => k_mem
  case m2 => k_mem
  case hu => simp only [units_in1, units_deeper] at *; omega
  case rel => exact .cons ⟨_, _, rfl, hEq _ (by decide) (by decide)⟩ (.cons ⟨_, _, rfl, hEq _ (by decide) (by decide)⟩ (.cons ⟨_, _, rfl, hEq _ (by decide) (by decide)⟩ (.cons ⟨_, _, rfl, hEq _ (by decide) (by decide)⟩ .nil)))
  refine' h _ _ _ _ ?pz ?kz ?gz
  case pz => assumption
  case gz => walk_at "MINE got"
  case kz => walk_at "MINE keep"
end
end

/-! ### VGenL -/
theorem fresh42 {M : Model} {A : Around} {env : Env} {Q : Flow → Shared → Prop} {E : Value → Shared → Prop} {s : Shared} (h : Q .next s) : wpAny M A (execs [] env) Q E s := by
  w_top off
  (try walk1)
  all_goals first | exact h | exact wpAny_execs_nil h
section
section
variable {prog : Program} {w : World} {A : Around} {E : Value → Shared → Prop} {s : Shared} {Q : Value → Shared → Prop} {I : Addr} {g n : Nat} {St : Nat → Array Value → GenState → Shared → Prop}
theorem n_list_gen {Rs : Shared → Prop} {gs : GenState} (W : GenList prog w A.in1.in1.in1 I s.heap.objs.size g n St Rs) (hh : A.handled = none) (hroom : A.depth < recursionLimit) (hg : s.heap.IsGen I g)
    (hst : ∀ h', (∀ b o, s.heap.get? b = some o → h'.get? b = some o) → h'.objs.size = s.heap.objs.size + 1 → (∃ c, h'.get? s.heap.objs.size = some (lstObj #[] c)) → St 0 #[] gs { s with heap := h' })
    (hR : ∀ s', Rs s' → Q (.ref s.heap.objs.size) s') :
    wpN (model prog w) A (call (.type "list") [.ref I]) Q E s := by
  have hk : ∀ b o, s.heap.get? b = some o → (s.heap.push (lstObj #[] 0)).get? b = some o := fun b o e => Heap.get?_push_of_some _ e
  refine n_call (c_tree ?_)
  show wpN _ _ (callAny (.type "list") _) _ _ _
  refine n_pure ⟨Code.quiet_builtin _ (by decide +kernel), rfl, c_builtin F.entry_type_call ?_⟩
  rw [Around.under_plain (weight_type_call_type "list" [.ref I] []) rfl]
  unfold Builtin.«type.__call__»
  dsimp only
  rw [if_neg (by decide)]
  have hcan := F.called_list.canCreate
  simp only [hcan]
  rw [if_neg (by decide)]
  refine n_then (wpAny_of_eq (F.typeCall_list_1 _) ?_)
  refine n_then (wpAny_of_eq F.mro_list ?_)
  rw [if_neg (by decide)]
  refine n_then (wpAny_of_eq F.called_list.made ?_)
  dsimp only
  refine n_bind (n_pure ?_)
  refine n_bind (n_holding (n_any (wpAny_call (codeAny_mono (code_list_new (Q₁ := fun v s' => v = .ref s.heap.objs.size ∧ s' = { s with heap := s.heap.push (lstObj #[] 0) }) (E := fun _ _ => False) (.ref I) ⟨rfl, rfl⟩) fun r s₁ hr => ?_))))
  rcases r with e | (v | _ | _ | _) <;> first | exact hr.elim | skip
  obtain ⟨rfl, rfl⟩ := hr
  have hS : (s.heap.push (lstObj #[] 0)).get? s.heap.objs.size = some (lstObj #[] 0) := Heap.get?_push_size _ rfl
  have hT : Shared.TypeIs { s with heap := s.heap.push (lstObj #[] 0) } (.ref s.heap.objs.size) "list" := ⟨_, hS, rfl⟩
  dsimp only
  refine n_then (wpAny_isInstance (T := "list") (b := true) hT F.called_list.sub ?_)
  rw [if_neg (by decide)]
  refine n_bind (n_holding (n_callSpecial?_slot hT F.called_list.init (n_call (c_tree ?_))))
  show wpN _ A.in1.in1 (do checkBuiltinCall "list.__init__" ⟨[.ref s.heap.objs.size, .ref I], []⟩; again (.builtin "list.__init__" ⟨[.ref s.heap.objs.size, .ref I], []⟩)) _ _ _
  refine n_then (F.called_list.init.check _ _ _ _ _ _ _ _ hT (F.args_list_init_2 _ _) ?_)
  refine n_pure ⟨plainId_quiet F.called_list.init.plain _, rfl, c_builtin F.entry_list_init ?_⟩
  rw [Around.under_plainId F.called_list.init.plain _]
  show wpN _ A.in1.in1 (do let old ← Builtin.List.listItems (.ref s.heap.objs.size); Builtin.List.listUpdate (.ref s.heap.objs.size) (fun _ => #[]); letGo old.toList.reverse; Builtin.List.listExtendWith (.ref s.heap.objs.size) (.ref I) .none) _ _ _
  refine n_bind (n_any ?_)
  unfold Builtin.List.listItems
  refine wpAny_bind (wpAny_seqItems hS rfl (wpAny_pure ?_))
  show wpN _ A.in1.in1 (updateSeq s.heap.objs.size (fun _ => #[]) >>= fun _ => letGo (#[] : Array Value).toList.reverse >>= fun _ => Builtin.List.listExtendWith (.ref s.heap.objs.size) (.ref I) .none) _ _ _
  refine n_bind (n_any (wpAny_updateSeq hS rfl ?_))
  have hS₂ := Heap.get?_update_self (Obj.mapSeq (fun _ => (#[] : Array Value))) hS rfl
  refine n_bind (n_any (wpAny_letGo ?_))
  have gk : ∀ h', Heap.SameBut s.heap.objs.size ((s.heap.push (lstObj #[] 0)).update s.heap.objs.size (Obj.mapSeq (fun _ => (#[] : Array Value)))) h' → (∀ b o, s.heap.get? b = some o → h'.get? b = some o) ∧ h'.objs.size = s.heap.objs.size + 1 := fun h' sb =>
    have sb2 := (Heap.SameBut.update (s.heap.push (lstObj #[] 0)) s.heap.objs.size (Obj.mapSeq (fun _ => (#[] : Array Value)))).trans sb
    ⟨fun b o e => sb2.extBut b o (Nat.ne_of_lt (Heap.lt_size e)) (hk b o e), by rw [sb2.1, Heap.size_push]⟩
  refine n_mono (n_extend_gen (A := A.in1) (R := fun r s' => match r with | .ok (.ret v) => v = .none ∧ Rs s' | _ => False) (s := { s with heap := (s.heap.push (lstObj #[] 0)).update s.heap.objs.size (Obj.mapSeq (fun _ => (#[] : Array Value))) }) (res := .none) (gs := gs) W hh hroom (fun s' z => ⟨rfl, z⟩) ?_ ?_ hS₂ fun h' sb hc => ?_) (fun fin s' q => ?_) (fun e s' q => q.elim)
  · obtain ⟨o, _, _, ho, _⟩ := hg
    exact Nat.ne_of_gt (Heap.lt_size ho)
  · exact hg.keeps (fun b o e => (gk _ (Heap.SameBut.refl _ _)).1 b o e)
  · obtain ⟨k1, k2⟩ := gk h' sb
    exact hst h' k1 k2 hc
  · have fin1 : ∀ (r : Result) (s' : Shared), (match r with | .ok (.ret v) => v = .none ∧ Rs s' | _ => False) → r = .ok (.ret .none) ∧ Rs s' := fun r s' z => by
      rcases r with e | (v | _ | _ | _) <;> first | exact z.elim | exact ⟨by rw [z.1], z.2⟩
    have last : ∀ s', Rs s' → wpN (model prog w) A.in1 (pure (Fin.done (.ret (.ref s.heap.objs.size)))) (fun fin s' => match fin with | .done f => (match (Except.ok f : Result) with | .ok (.ret v) => Q v s' | .ok _ => False | .error e => E e s') | .again c' => c'.quiet = true ∧ decCode c' = false ∧ codeN (model prog w) A c' (fun r s' => match r with | .ok (.ret v) => Q v s' | .ok _ => False | .error e => E e s') s') (fun e s' => match (Except.error e : Result) with | .ok (.ret v) => Q v s' | .ok _ => False | .error e => E e s') s' := fun s' z => n_pure (hR s' z)
    cases fin with
    | done f =>
      obtain ⟨e, z⟩ := fin1 _ _ q
      cases e
      dsimp only
      rw [if_neg (by decide)]
      exact last s' z
    | again c' =>
      refine ⟨q.1, q.2.1, c_mono q.2.2 fun r s2 z => ?_⟩
      obtain ⟨rfl, z2⟩ := fin1 _ _ z
      dsimp only
      rw [if_neg (by decide)]
      exact last s2 z2
end
end

/-! ### VGenC -/
theorem fresh43 {M : Model} {A : Around} {env : Env} {Q : Flow → Shared → Prop} {E : Value → Shared → Prop} {s : Shared} (h : Q .next s) : wpAny M A (execs [] env) Q E s := by
  w_top off
  (try walk1)
  all_goals first | exact h | exact wpAny_execs_nil h
section
theorem over_func {A : Around} {body : List Stmt} {env : Env} : A.over (.func body env) [] = A.deeper env := by
  obtain ⟨hd, dp, fr, gs, u⟩ := A
  rfl
theorem over_loop {A : Around} {t : Expr} {it : Value} {b o body : List Stmt} {env : Env} {k : Result → Sem Fin} {l : List Value} {p : Pos} : A.over (.forLoop t it b o env) [.ret k none false l (.func body env) p []] = A.deeper env := by
  obtain ⟨hd, dp, fr, gs, u⟩ := A
  rfl
theorem SegN.mono {M : Model} {A : Around} {c : Code} {t : Sem Fin} {fs : List Frame} {s : Shared} {P P' : End → Shared → Prop} (x : SegN M A c t fs s P) (h : ∀ e s', P e s' → P' e s') : SegN M A c t fs s P' := fun Γ p hc hΓ z => by
  obtain ⟨e, s', hr, hq, hp⟩ := x Γ p hc hΓ z
  exact ⟨e, s', hr, hq, h e s' hp⟩
theorem Wakes1.mono {prog : Program} {w : World} {A : Around} {gs : GenState} {s : Shared} {P P' : End → Shared → Prop} (x : Wakes1 prog w A gs s P) (h : ∀ e s', P e s' → P' e s') : Wakes1 prog w A gs s P' := by
  cases gs with
  | fresh c => exact ⟨x.1, x.2.mono h⟩
  | suspended k l c p fs cl => exact ⟨x.1, x.2.mono h⟩
  | running => exact x
  | finished => exact x
section
variable {prog : Program} {w : World} {A : Around} {env : Env} {target iter e : Expr} {st : Stmt} {yp ep fp : Pos} {rest : List Stmt} {I S : Addr} {g n : Nat} {Led : Nat → Addr → Array Value → Shared → Prop} {Led0 : Shared → Prop} {Rs : Shared → Prop}
abbrev gLoop (env : Env) (target e : Expr) (st : Stmt) (yp ep : Pos) (IT : Addr) : Code := .forLoop target (.ref IT) [st, .Expr (.Yield (some e) yp) ep] [] env
abbrev gBody (target iter e : Expr) (st : Stmt) (yp ep fp : Pos) (rest : List Stmt) : List Stmt := .For target iter [st, .Expr (.Yield (some e) yp) ep] [] fp :: rest
def gEnds (KK : Result → Sem Fin) (rest : List Stmt) (env : Env) : Prop := ∃ H, KK (.ok .next) = (execs rest env).wrap (fun f => .pure (.done (.ret (match f with | .ret v => v | _ => .none)))) H id id
def gSt (env : Env) (target iter e : Expr) (st : Stmt) (yp ep fp : Pos) (rest : List Stmt) (g : Nat) (Led : Nat → Addr → Array Value → Shared → Prop) (Led0 : Shared → Prop) (i : Nat) (acc : Array Value) (gs : GenState) (s : Shared) : Prop :=
  s.gens[g]? = some gs ∧ ((i = 0 ∧ acc = #[] ∧ gs = .fresh (.func (gBody target iter e st yp ep fp rest) env) ∧ Led0 s) ∨
    (∃ IT k l p p' cl KK l', gs = .suspended k l (gLoop env target e st yp ep IT) p' [.ret KK none false l' (.func (gBody target iter e st yp ep fp rest) env) p []] cl ∧ gEnds KK rest env ∧ k (.send .none) = .pure (.again (gLoop env target e st yp ep IT)) ∧ Led i IT acc s))
theorem gen_core (hco : env.scope.isCoroutine = false) (hi : interactive env = false) (hs : ∀ x, foldedSetIterable iter env x = pure x)
    (hbase0 : ∀ s, Led0 s → s.heap.IsGen I g ∧ s.heap.NoLimit ∧ ∃ x, s.gens[g]? = some x) (hbase : ∀ i IT acc s, Led i IT acc s → s.heap.IsGen I g ∧ s.heap.NoLimit ∧ ∃ x, s.gens[g]? = some x)
    (hG0 : ∀ s x, Led0 s → Led0 (s.setGen g x)) (hG : ∀ i IT acc s x, Led i IT acc s → Led i IT acc (s.setGen g x))
    (hIter : ∀ s, Led0 s → wpN (model prog w) (A.deeper env) (eval iter env >>= fun x => standAt iter.pos >>= fun _ => holding [x] (pyIter x)) (fun it s' => ∃ IT, it = .ref IT ∧ Led 0 IT #[] s') (fun _ _ => False) s)
    (hNext : ∀ i IT acc s, i ≤ n → Led i IT acc s → wpN (model prog w) (A.deeper env) (pyNext (.ref IT)) (fun r s₁ => match r with
      | none => i = n ∧ wpN (model prog w) (A.deeper env) (execs rest env) (fun f s₂ => f = .next ∧ ∀ h', (∀ b o, s₂.heap.get? b = some o → h'.get? b = some o) → Rs { s₂.setGen g .finished with heap := h' }) (fun _ _ => False) s₁
      | some v => i < n ∧ wpN (model prog w) (A.deeper env) (letOwnedTupleGo target (.ref IT) v >>= fun _ => assign target env v) (fun _ s₂ => wpN (model prog w) (A.deeper env) (exec st env) (fun f s₃ => f = .next ∧
          wpN (model prog w) (A.deeper env) (eval e env) (fun y s₄ => acc.size < sizeLine ∧ (∃ c, s₄.heap.get? S = some (lstObj acc c)) ∧ Led (i + 1) IT (acc.push y) { s₄ with heap := s₄.heap.update S (Obj.mapSeq (·.push y)) }) (fun _ _ => False) s₃) (fun _ _ => False) s₂) (fun _ _ => False) s₁) (fun _ _ => False) s) :
    GenList prog w A I S g n (gSt env target iter e st yp ep fp rest g Led Led0) Rs := by
  have turn : ∀ i IT acc s KK l' p, gEnds KK rest env → i ≤ n → Led i IT acc s → SegN (model prog w) A (gLoop env target e st yp ep IT) ((model prog w).den (gLoop env target e st yp ep IT)) [.ret KK none false l' (.func (gBody target iter e st yp ep fp rest) env) p []] s
      (fun e' s₁ => match e' with
        | .susp v _ _ _ _ _ _ => i < n ∧ acc.size < sizeLine ∧ ∃ c, s₁.heap.get? S = some (lstObj acc c) ∧ gSt env target iter e st yp ep fp rest g Led Led0 (i + 1) (acc.push v) e'.genState { s₁.setGen g e'.genState with heap := s₁.heap.update S (Obj.mapSeq (·.push v)) }
        | .ret r => i = n ∧ r = .ok (.ret .none) ∧ ∀ h', (∀ b o, s₁.heap.get? b = some o → h'.get? b = some o) → Rs { s₁.setGen g .finished with heap := h' }) := by
    intro i IT acc s KK l' p hK hin hL
    have hf : FsFree [.ret KK none false l' (.func (gBody target iter e st yp ep fp rest) env) p []] := fun f hf => by rw [List.mem_singleton.mp hf]; rfl
    refine segn_turn hf ?_
    rw [over_loop]
    refine n_mono (hNext i IT acc s hin hL) (fun r s₁ h₁ => ?_) (fun _ _ x => x)
    cases r with
    | none =>
      obtain ⟨he, hr⟩ := h₁
      obtain ⟨H, hK⟩ := hK
      refine segn_leaf (.ok .next) rfl ?_
      rw [hK]
      refine segn_wrap (fun _ z => nomatch z) ?_
      rw [over_func]
      refine n_mono hr (fun f s₂ h₂ => ?_) (fun _ _ x => x.elim)
      obtain ⟨rfl, h₂⟩ := h₂
      exact segn_end (.ok (.ret .none)) ⟨he, rfl, h₂⟩
    | some v =>
      obtain ⟨hlt, ha⟩ := h₁
      dsimp only
      refine n_mono ha (fun _ s₂ h₂ => ?_) (fun _ _ x => x)
      refine segn_stmt hf ?_
      rw [over_loop]
      refine n_mono h₂ (fun f s₃ h₃ => ?_) (fun _ _ x => x.elim)
      obtain ⟨rfl, h₃⟩ := h₃
      refine ⟨rfl, segn_cons (segn_Yield hf rfl rfl rfl ?_ hco hi)⟩
      rw [over_loop]
      refine n_mono h₃ (fun y s₄ h₄ => ?_) (fun _ _ x => x.elim)
      obtain ⟨h1, ⟨c, h2⟩, h3⟩ := h₄
      intro l k p' hk
      obtain ⟨_, _, x, hx⟩ := hbase _ _ _ _ h3
      exact ⟨hlt, h1, c, h2, setGen_self (s := s₄) hx, .inr ⟨IT, k, l, p, p', _, KK, l', rfl, hK, hk.trans rfl, hG _ _ _ _ _ h3⟩⟩
  have wake : ∀ i acc gs s, i ≤ n → gSt env target iter e st yp ep fp rest g Led Led0 i acc gs s → Wakes1 prog w A gs (s.setGen g .running) (fun e' s₁ => match e' with
        | .susp v _ _ _ _ _ _ => i < n ∧ acc.size < sizeLine ∧ ∃ c, s₁.heap.get? S = some (lstObj acc c) ∧ gSt env target iter e st yp ep fp rest g Led Led0 (i + 1) (acc.push v) e'.genState { s₁.setGen g e'.genState with heap := s₁.heap.update S (Obj.mapSeq (·.push v)) }
        | .ret r => i = n ∧ r = .ok (.ret .none) ∧ ∀ h', (∀ b o, s₁.heap.get? b = some o → h'.get? b = some o) → Rs { s₁.setGen g .finished with heap := h' }) := by
    intro i acc gs s hin hst
    obtain ⟨hg, ⟨rfl, rfl, rfl, hL⟩ | ⟨IT, k, l, p, p', cl, KK, l', rfl, hK, hk, hL⟩⟩ := hst
    · refine ⟨rfl, segn_func (fun _ z => nomatch z) (segn_cons (segn_For (fun _ z => nomatch z) ?_ hs))⟩
      rw [over_func]
      refine n_mono (hIter _ (hG0 _ _ hL)) (fun it s₂ h₂ => ?_) (fun _ _ x => x.elim)
      obtain ⟨IT, rfl, h₂⟩ := h₂
      exact fun p => turn 0 IT #[] s₂ _ _ p ⟨_, rfl⟩ hin h₂
    · refine ⟨rfl, ?_⟩
      rw [hk]
      exact segn_again rfl rfl (turn i IT acc _ KK l' p hK hin (hG _ _ _ _ _ hL))
  refine ⟨fun i acc gs s hst => ?_, fun i acc gs s hlt hst => ?_, fun acc gs s hst => ?_⟩
  · obtain ⟨hg, ⟨rfl, rfl, rfl, hL⟩ | ⟨IT, k, l, p, p', cl, KK, l', rfl, hK, hk, hL⟩⟩ := hst
    · exact ⟨hg, (hbase0 _ hL).1, (hbase0 _ hL).2.1⟩
    · exact ⟨hg, (hbase _ _ _ _ hL).1, (hbase _ _ _ _ hL).2.1⟩
  · refine (wake i acc gs s (Nat.le_of_lt hlt) hst).mono fun e' s' z => ?_
    cases e' with
    | ret r => exact absurd z.1 (Nat.ne_of_lt hlt)
    | susp => exact z.2
  · refine (wake n acc gs s (Nat.le_refl _) hst).mono fun e' s' z => ?_
    cases e' with
    | ret r => exact z.2
    | susp => exact absurd z.1 (Nat.lt_irrefl _)
end
section
variable {prog : Program} {w : World} {A : Around} {env : Env} {target iter e : Expr} {st : Stmt} {yp ep fp : Pos} {rest : List Stmt} {I : Addr} {n : Nat} {h' : Heap} {gens0 : Array GenState} {dr : Drawn} {tk : Nat} {os : OsState} {Q : Value → Shared → Prop} {E : Value → Shared → Prop}
theorem list_of_gen (n : Nat) (Led : Nat → Addr → Array Value → Shared → Prop) (Led0 : Shared → Prop) (Rs : Shared → Prop) (hh : A.handled = none) (hroom : A.depth < recursionLimit) (hg : h'.IsGen I gens0.size)
    (hst : ∀ h2, (∀ b o, h'.get? b = some o → h2.get? b = some o) → h2.objs.size = h'.objs.size + 1 → (∃ c, h2.get? h'.objs.size = some (lstObj #[] c)) → Led0 ⟨h2, gens0.push (.fresh (.func (gBody target iter e st yp ep fp rest) env)), dr, tk, os⟩)
    (hR : ∀ s', Rs s' → Q (.ref h'.objs.size) s')
    (hco : env.scope.isCoroutine = false) (hi : interactive env = false) (hs : ∀ x, foldedSetIterable iter env x = pure x)
    (hbase0 : ∀ s, Led0 s → s.heap.IsGen I gens0.size ∧ s.heap.NoLimit ∧ ∃ x, s.gens[gens0.size]? = some x) (hbase : ∀ i IT acc s, Led i IT acc s → s.heap.IsGen I gens0.size ∧ s.heap.NoLimit ∧ ∃ x, s.gens[gens0.size]? = some x)
    (hG0 : ∀ s x, Led0 s → Led0 (s.setGen gens0.size x)) (hG : ∀ i IT acc s x, Led i IT acc s → Led i IT acc (s.setGen gens0.size x))
    (hIter : ∀ s, Led0 s → wpN (model prog w) (A.in1.in1.in1.deeper env) (eval iter env >>= fun x => standAt iter.pos >>= fun _ => holding [x] (pyIter x)) (fun it s' => ∃ IT, it = .ref IT ∧ Led 0 IT #[] s') (fun _ _ => False) s)
    (hNext : ∀ i IT acc s, i ≤ n → Led i IT acc s → wpN (model prog w) (A.in1.in1.in1.deeper env) (pyNext (.ref IT)) (fun r s₁ => match r with
      | none => i = n ∧ wpN (model prog w) (A.in1.in1.in1.deeper env) (execs rest env) (fun f s₂ => f = .next ∧ ∀ h2, (∀ b o, s₂.heap.get? b = some o → h2.get? b = some o) → Rs { s₂.setGen gens0.size .finished with heap := h2 }) (fun _ _ => False) s₁
      | some v => i < n ∧ wpN (model prog w) (A.in1.in1.in1.deeper env) (letOwnedTupleGo target (.ref IT) v >>= fun _ => assign target env v) (fun _ s₂ => wpN (model prog w) (A.in1.in1.in1.deeper env) (exec st env) (fun f s₃ => f = .next ∧
          wpN (model prog w) (A.in1.in1.in1.deeper env) (eval e env) (fun y s₄ => acc.size < sizeLine ∧ (∃ c, s₄.heap.get? h'.objs.size = some (lstObj acc c)) ∧ Led (i + 1) IT (acc.push y) { s₄ with heap := s₄.heap.update h'.objs.size (Obj.mapSeq (·.push y)) }) (fun _ _ => False) s₃) (fun _ _ => False) s₂) (fun _ _ => False) s₁) (fun _ _ => False) s) :
    wpN (model prog w) A (call (.type "list") [.ref I]) Q E ⟨h', gens0.push (.fresh (.func (gBody target iter e st yp ep fp rest) env)), dr, tk, os⟩ :=
  n_list_gen (s := ⟨h', gens0.push (.fresh (.func (gBody target iter e st yp ep fp rest) env)), dr, tk, os⟩) (gs := .fresh (.func (gBody target iter e st yp ep fp rest) env)) (gen_core (S := h'.objs.size) (Rs := Rs) (n := n) (Led := Led) (Led0 := Led0) hco hi hs hbase0 hbase hG0 hG hIter hNext) hh hroom hg
    (fun h2 k z c => ⟨Array.getElem?_push_size .., .inl ⟨rfl, rfl, rfl, hst h2 k z c⟩⟩) hR
end
end

/-! ### VCkp -/
theorem fresh44 {M : Model} {A : Around} {env : Env} {Q : Flow → Shared → Prop} {E : Value → Shared → Prop} {s : Shared} (h : Q .next s) : wpAny M A (execs [] env) Q E s := by
  w_top off
  (try walk1)
  all_goals first | exact h | exact wpAny_execs_nil h
section
section
variable {prog : Program} {w : World} {A : Around} {s : Shared} {base : Heap} {outer : List Env} {K : Frag} {p : Program} {loose : List Str} {mean : ExcName → Option Value} {mg mb : Str → Option Value}
  {R : Result → Shared → Prop} {name qual : Str} {params : Arguments} {body : List Stmt} {scope : Scope} {dV kV doc pm cdv ct oc : Value} {an od : Option Addr} {osl : Array (Option Value)} {f : Addr} {args : Args} {binds : List (Str × Value)}
theorem enter_gen (B : Below A base outer s.heap) (X : K.In base) (T : Top p loose mean mg mb base) (fp : List (Addr × Obj)) (P : Foot base outer s.heap fp)
    (ho : K.lookup f = some ⟨oc, od, .func (fnOf name qual params body scope dV kV doc pm an cdv ct), osl⟩) (hcd : codeIn K cdv qual = true) (hroom : A.depth < recursionLimit)
    (hbind : BindsTo s (fnOf name qual params body scope dV kV doc pm an cdv ct) args binds) (hloc : ∀ y ∈ binds, scope.names.lookup y.1 = some .local)
    (hcell : ∀ x ∈ scope.names, x.2 ≠ .cell) (hco : scope.isCoroutine = false) (hgen : scope.isGenerator = true) (hk : scope.kind = .function)
    (h : ∀ g L' I h₁ (tk : Nat) oI nm qn, oI.cls = .type "generator" → oI.data = .fields #[.int s.gens.size 0, nm, qn] → oI.slots = #[] → Keep (fp.map (·.1)) s.heap g → Fr g L' h₁ (fun y => binds.reverse.lookup y) → News g L' h₁ ((I, oI) :: fp) → Below A base outer g → K.In g → Top p loose mean mg mb g → (∀ q ∈ fp, q.1 < I) → (∀ b o, s.heap.get? b = some o → h₁.get? b = some o) → s.heap.get? I = none →
      R (.ok (.ret (.ref I))) { s with gens := s.gens.push (.fresh (.func body (envOf qual scope L' f cdv))), heap := h₁, toks := tk }) :
    codeAny (model prog w) A (.call (.ref f) args) R s := by
  have st : base.StaysIn (hideAll s.heap (fp.map (·.1))) := fun b o e => hideAll_get _ (B.stays b o e) fun q => by
    obtain ⟨x, hx, rfl⟩ := List.mem_map.mp q
    rw [P.new x hx] at e; cases e
  refine codeAny_call_generator (fd := fnOf name qual params body scope dV kV doc pm an cdv ct) (body := body) hroom (B.stays _ _ (X _ _ ho)) rfl hco hgen rfl (codeRec_of (X.keeps B.stays) hcd) (hbind _ _ _ _ ?_)
  refine wpAny_newFunctionEnv hcell hloc (fun h₀ hns₀ hsb₀ => ⟨(T.nolimit.keeps B.stays).fresh _ hsb₀, ?_⟩) hk
  have hk₁ : ∀ b o, s.heap.get? b = some o → h₀.get? b = some o := fun b o e => hsb₀.extBut b o (Nat.ne_of_lt (Heap.lt_size e)) (Heap.get?_push_of_some _ e)
  have hsz : h₀.objs.size = s.heap.objs.size + 1 := by rw [hsb₀.1, Heap.size_push]
  have F₀ : Fr (hideAll s.heap (fp.map (·.1))) s.heap.objs.size h₀ (fun y => binds.reverse.lookup y) := ⟨hns₀, fun b o e => hk₁ b o (of_hideAll _ e), Nat.le_of_eq (hideAll_size _ _)⟩
  have N₀ : News (hideAll s.heap (fp.map (·.1))) s.heap.objs.size h₀ fp := fun q hq => ⟨hk₁ _ _ (P.at_ q hq), Nat.ne_of_lt (Heap.lt_size (P.at_ q hq)), hideAll_none _ (List.mem_map_of_mem hq)⟩
  refine h _ s.heap.objs.size _ _ _ _ _ _ rfl rfl rfl (fun a o e n => hideAll_get _ e n) (F₀.push _) (News.push F₀ N₀ _) ⟨B.stack, st, funFrames_hideAll B.frames fun env he a ha hf => by
      obtain ⟨x, hx, rfl⟩ := List.mem_map.mp ha
      exact P.off env he x hx hf⟩ (X.keeps st) (T.keeps st) (fun q hq => Heap.lt_size (N₀ q hq).1) (fun b o e => Heap.get?_push_of_some _ (hk₁ b o e)) ?_
  cases q : s.heap.get? h₀.objs.size with
  | none => rfl
  | some o => exact absurd (Heap.lt_size q) (by rw [hsz]; exact Nat.not_lt.mpr (Nat.le_succ _))
end
theorem mself {m : Str → Option Value} {a : Str} {v : Value} (h : m a = some v) : m = fun y => if y = a then some v else m y := by
  funext y
  by_cases e : y = a
  · rw [if_pos e, e, h]
  · rw [if_neg e]
theorem fr_self {g h : Heap} {L : Addr} {m : Str → Option Value} {a : Str} {v : Value} (F : Fr g L h m) (e : m a = some v) : Fr g L h (fun y => if y = a then some v else m y) := by
  rw [← mself e]; exact F
theorem bare_push {gens : Array GenState} {x : GenState} (h : ∀ y ∈ gens, y.bare = true) : ∀ j y, j ≠ gens.size → (gens.push x)[j]? = some y → y.bare = true := fun j y n e => by
  rw [Array.getElem?_push, if_neg n] at e
  exact h y (Array.mem_of_getElem? e)
theorem bare_all {gens : Array GenState} {g : Nat} (h : ∀ j y, j ≠ g → gens[j]? = some y → y.bare = true) : ∀ y ∈ gens.setIfInBounds g GenState.finished, y.bare = true := fun y hy => by
  obtain ⟨j, hj⟩ := Array.mem_iff_getElem?.mp hy
  by_cases e : j = g
  · subst e
    rw [Array.getElem?_setIfInBounds_self] at hj
    split at hj <;> cases hj
    rfl
  · rw [Array.getElem?_setIfInBounds_ne (Ne.symm e)] at hj
    exact h j y e hj
theorem nd_tl {I S IT x dx fx fdx b c n : Nat} {l : List Nat} (nd : (I :: S :: IT :: x :: dx :: fx :: fdx :: b :: c :: n :: l).Nodup) : (S :: l).Nodup ∧ ∀ a ∈ l, a ∉ [x, dx, fx, fdx, b, c, n] := by
  obtain ⟨n1, n2, n3⟩ := List.nodup_append.mp (show ([I, S, IT, x, dx, fx, fdx, b, c, n] ++ l).Nodup from nd)
  refine ⟨List.nodup_cons.mpr ⟨fun z => n3 S (.tail _ (.head _)) S z rfl, n2⟩, fun a ha hz => n3 a ?_ a ha rfl⟩
  exact .tail _ (.tail _ (.tail _ hz))
theorem bare_set {gens : Array GenState} {g : Nat} {x : GenState} (h : ∀ j y, j ≠ g → gens[j]? = some y → y.bare = true) : ∀ j y, j ≠ g → (gens.setIfInBounds g x)[j]? = some y → y.bare = true := fun j y n e => by
  rw [Array.getElem?_setIfInBounds_ne (Ne.symm n)] at e
  exact h j y n e
abbrev itObj (c : Addr) (i n ep : Nat) (ok ov : Value) : Obj := { cls := .type "dict_itemiterator", dict := none, data := .fields #[.none, .bool false, .ref c, .int i 0, .int n 0, .int ep 0, ok, ov], slots := #[] }
def TupOf (d : List UInt8) (sz : Nat) (q : Addr × Obj) (z : Int × Value) : Prop := ∃ (a : Nat) (t1 t2 t3 : Tok), z.2 = .int a t1 ∧ q.2 = tupObj [.int z.1 t2, .bytes ((d.drop a).take sz).toArray t3]
theorem stop_post {α : Type} {M : Model} {A : Around} {t : Sem α} {Q : α → Shared → Prop} {E : Value → Shared → Prop} {s : Shared} (h : wpAny M A t (fun a s' => Stop (Q a s')) E s) : wpAny M A t Q E s := wpAny_mono h (fun _ _ z => z) fun _ _ z => z
section
local macro_rules | `(tactic| k_all) => `(tactic| with_reducible assumption)
local macro_rules | `(tactic| walk_at "getMethod ref") => `(tactic| (k_here; (with_reducible rename News _ _ _ _ => N'); (with_reducible show wpAny _ _ (getMethod (Value.ref _) (Str.ofString "items") _) _ _ _); k_dflt (refine' kob_method PySem.F.slot_dict_items PySem.F.type_dict_items N' ?m (knd := intKind _ _) ?d ?_; (case m => k_mem); (case d => assumption); k_whole)))
local macro_rules | `(tactic| walk_at "call builtin:dict.items") => `(tactic| (k_here; (with_reducible rename Fr _ _ _ _ => F'); (with_reducible rename News _ _ _ _ => N'); k_dflt (refine' kdx_view F' N' ?m (knd := intKind _ _) ?d ?lo ?_; (case m => k_mem); (case d => assumption); (case lo => assumption); k_whole); intro D' h' F' N' l1'))
variable {w : World} {A : Around} {s : Shared} {base : Heap} {outer : List Env} {p : Program} {loose : List Str} {mean : ExcName → Option Value} {mg mb : Str → Option Value} {R : Result → Shared → Prop}
  {x dx fx fdx b c n : Addr} {sz : Nat} {pl : Int} {nr : Bool} {k1 k2 k3 k4 k5 k6 ts t1 t2 t3 : Nat} {oC oN : Obj} {kc : List (Int × Value)} {d : List UInt8}
def CkLed (w : World) (s : Shared) (gH : Heap) (L' I S g : Addr) (oI : Obj) (x dx fx fdx b c n : Addr) (sz : Nat) (nr : Bool) (k1 k2 k3 k4 k5 k6 ts t1 t2 : Tok) (d : List UInt8) (oC oN : Obj) (kc : List (Int × Value)) (i : Nat) (acc : Array Value) (mid : List (Addr × Obj)) (s' : Shared) : Prop :=
  ∃ (h : Heap) (tk : Nat) (gens : Array GenState) (pl : Int) (t3 cap : Nat) (m2 : Str → Option Value) (tl : List (Addr × Obj)), s' = { s with heap := h, toks := tk, gens := gens } ∧ Fr gH L' h (fun y => if y = Str.ofString "self" then some (.ref x) else m2 y) ∧
    News gH L' h ((I, oI) :: (S, lstObj acc cap) :: (mid ++ (walL w x dx fx fdx b c n sz pl nr k1 k2 k3 k4 k5 k6 ts t1 t2 t3 d oC oN ++ tl))) ∧ 0 ≤ pl ∧ acc = (tl.map fun q => Value.ref q.1).toArray ∧ Rel2 (TupOf d sz) tl (kc.take i) ∧
    Nd ((I, oI) :: (S, lstObj acc cap) :: (mid ++ (walL w x dx fx fdx b c n sz pl nr k1 k2 k3 k4 k5 k6 ts t1 t2 t3 d oC oN ++ tl))) ∧ (∃ y, gens[g]? = some y) ∧ (∀ j y, j ≠ g → gens[j]? = some y → y.bare = true)
theorem allLt_mem {d : Addr} {l : List (Addr × Obj)} (h : AllLt d l) : ∀ p ∈ l, p.1 < d := by
  induction l with
  | nil => intro p hp; cases hp
  | cons q r ih =>
    intro p hp
    rcases List.mem_cons.mp hp with rfl | hp
    · exact h.1
    · exact ih h.2 p hp
theorem Rel2.snoc {α β : Type} {r : α → β → Prop} {a : α} {b : β} {l : List α} {k : List β} (x : Rel2 r l k) (y : r a b) : Rel2 r (l ++ [a]) (k ++ [b]) := by
  induction x with
  | nil => exact .cons y .nil
  | cons h t ih => exact .cons h ih
theorem ck_step {gH h5 : Heap} {L' I S IT T Y gn : Addr} {oI oT : Obj} {m5 : Str → Option Value} {ep i a tk cap : Nat} {ky : Int} {tky ta tr : Tok} {ok ov : Value} {acc : Array Value} {tl : List (Addr × Obj)} {gens : Array GenState} (F5 : Fr gH L' h5 m5) (hm5 : m5 (Str.ofString "self") = some (.ref x))
    (N5 : News gH L' h5 ((Y, tupObj [.int ky tky, .bytes ((d.drop a).take sz).toArray tr]) :: (T, oT) :: (I, oI) :: (S, lstObj acc cap) :: (IT, itObj c (i + 1) kc.length ep ok ov) :: (x, instObj 144 dx) :: (dx, walD w.params fx sz c n nr k1 k2 k3 k4 k5 k6 ts) :: (fx, instObj 194 fdx) :: (fdx, octD w.params b pl t1 t2 t3) :: (b, baObj d.toArray) :: (c, oC) :: (n, oN) :: tl))
    (lt : AllLt Y ((T, oT) :: (I, oI) :: (S, lstObj acc cap) :: (IT, itObj c (i + 1) kc.length ep ok ov) :: (x, instObj 144 dx) :: (dx, walD w.params fx sz c n nr k1 k2 k3 k4 k5 k6 ts) :: (fx, instObj 194 fdx) :: (fdx, octD w.params b pl t1 t2 t3) :: (b, baObj d.toArray) :: (c, oC) :: (n, oN) :: tl))
    (nd : (I :: S :: IT :: x :: dx :: fx :: fdx :: b :: c :: n :: (tl.map (·.1) : List Nat)).Nodup) (rl : Rel2 (TupOf d sz) tl (kc.take i)) (hx : kc[i]? = some (ky, .int a ta)) (ea : acc = (tl.map fun q => Value.ref q.1).toArray) (p0 : 0 ≤ pl)
    (al : ∃ y, gens[gn]? = some y) (bo : ∀ j y, j ≠ gn → gens[j]? = some y → y.bare = true) (hzc : kc.length ≤ 1000) :
    acc.size < sizeLine ∧ (∃ c', h5.get? S = some (lstObj acc c')) ∧ (∃ ok ov, CkLed w s gH L' I S gn oI x dx fx fdx b c n sz nr k1 k2 k3 k4 k5 k6 ts t1 t2 d oC oN kc (i + 1) (acc.push (.ref Y)) [(IT, itObj c (i + 1) kc.length ep ok ov)]
      { s with heap := h5.update S (Obj.mapSeq (·.push (.ref Y))), toks := tk, gens := gens }) := by
  have len : ∀ {tl : List (Addr × Obj)} {l : List (Int × Value)}, Rel2 (TupOf d sz) tl l → tl.length = l.length := fun h => rel2_len h
  have hl := len rl
  have hz : acc.size ≤ 1000 := by rw [ea, List.size_toArray, List.length_map, hl, List.length_take]; omega
  have zS := N5 (S, lstObj acc cap) (by k_mem)
  have lt' := low_no (allLt_mem lt)
  simp only [List.map_cons] at lt'
  obtain ⟨cap', hc⟩ : ∃ cap', Obj.mapSeq (·.push (.ref Y)) (lstObj acc cap) = lstObj (acc.push (.ref Y)) cap' := ⟨_, rfl⟩
  have hS := Heap.get?_update_self (Obj.mapSeq (·.push (Value.ref Y))) zS.1 rfl
  rw [hc] at hS
  have kp : Keep [S] h5 (h5.update S (Obj.mapSeq (·.push (.ref Y)))) := fun q o e nq => (Heap.SameBut.update h5 S (Obj.mapSeq (·.push (.ref Y)))).extBut q o (fun z => nq (by rw [z]; exact .head _)) e
  refine ⟨by rw [sizeLine_eq]; omega, ⟨cap, zS.1⟩, ok, ov, _, tk, gens, pl, t3, cap', m5, tl ++ [(Y, tupObj [.int ky tky, .bytes ((d.drop a).take sz).toArray tr])], rfl, fr_self (F5.change (Heap.SameBut.update ..) zS.2.1 zS.2.2) hm5, back_new N5 F5 kp (fun q hq => ?_), p0, by rw [ea]; simp, ?_, ?_, al, bo⟩
  · simp only [List.cons_append, List.nil_append] at hq
    rcases List.mem_cons.mp hq with rfl | hq
    · exact .inl ⟨.tail _ (.tail _ (.head _)), fun z => by have z' := List.mem_singleton.mp z; dsimp only at z'; grind⟩
    · rcases List.mem_cons.mp hq with rfl | hq
      · exact .inr ⟨hS, .inl ⟨_, by k_mem⟩⟩
      · rcases List.mem_cons.mp hq with rfl | hq
        · exact .inl ⟨by k_mem, fun z => by have z' := List.mem_singleton.mp z; dsimp only at z'; grind⟩
        · have hq2 : q ∈ ((x, instObj 144 dx) :: (dx, walD w.params fx sz c n nr k1 k2 k3 k4 k5 k6 ts) :: (fx, instObj 194 fdx) :: (fdx, octD w.params b pl t1 t2 t3) :: (b, baObj d.toArray) :: (c, oC) :: (n, oN) :: tl) ∨ q = (Y, tupObj [.int ky tky, .bytes ((d.drop a).take sz).toArray tr]) := by
            rcases List.mem_append.mp (show q ∈ ((x, instObj 144 dx) :: (dx, walD w.params fx sz c n nr k1 k2 k3 k4 k5 k6 ts) :: (fx, instObj 194 fdx) :: (fdx, octD w.params b pl t1 t2 t3) :: (b, baObj d.toArray) :: (c, oC) :: (n, oN) :: tl) ++ [(Y, tupObj [.int ky tky, .bytes ((d.drop a).take sz).toArray tr])] from hq) with z | z
            · exact .inl z
            · exact .inr (List.mem_singleton.mp z)
          rcases hq2 with hq | rfl
          · have hm' : (q.1 : Nat) ∈ (((x, instObj 144 dx) :: (dx, walD w.params fx sz c n nr k1 k2 k3 k4 k5 k6 ts) :: (fx, instObj 194 fdx) :: (fdx, octD w.params b pl t1 t2 t3) :: (b, baObj d.toArray) :: (c, oC) :: (n, oN) :: tl).map (·.1) : List Nat) := List.mem_map_of_mem hq
            refine .inl ⟨.tail _ (.tail _ (.tail _ (.tail _ (.tail _ hq)))), fun z => ?_⟩
            have z' := List.mem_singleton.mp z
            simp only [List.map_cons] at hm'
            rw [show (q.1 : Nat) = S from z'] at hm'
            grind
          · exact .inl ⟨.head _, fun z => by have z' := List.mem_singleton.mp z; dsimp only at z'; grind⟩
  · rw [List.take_add_one, hx]
    exact rl.snoc ⟨a, ta, tky, tr, rfl, rfl⟩
  · unfold Nd
    simp only [List.map_cons, List.map_nil, List.nil_append, List.map_append, List.cons_append]
    grind
theorem ckpt_c (B : Below A base outer s.heap) (X : (Mine.hd.heap_39 w.params).In base) (T : Top p loose mean mg mb base) (hh : A.handled = none) (hg : A.guards = some []) (hroom : A.depth + 60 < recursionLimit)
    (hD : ([x, dx, fx, fdx, b, c, n] : List Nat).Nodup) (loC : (c == sysModules) = false) (hs : 0 < sz) (hz : d.length ≤ 1000000) (p0 : 0 ≤ pl) (hC : oC.IsDictOf (kn w) kc) (hzc : kc.length ≤ 1000)
    (Pl : ∀ q ∈ kc, ∃ (a : Nat) (t : Tok), q.2 = .int a t ∧ 0 < a ∧ a + sz ≤ d.length) (gb : ∀ y ∈ s.gens, y.bare = true)
    (P : Foot base outer s.heap (walL w x dx fx fdx b c n sz pl nr k1 k2 k3 k4 k5 k6 ts t1 t2 t3 d oC oN))
    (h : ∀ I t' h' gs0, (∀ b o, s.heap.get? b = some o → h'.get? b = some o) → (∀ (Q : Value → Shared → Prop) (E : Value → Shared → Prop), (∀ D cap h2 t2' g2 pl' t3' tl, 0 ≤ pl' → Keep [fdx, b] s.heap h2 →
        (∀ q ∈ walL w x dx fx fdx b c n sz pl' nr k1 k2 k3 k4 k5 k6 ts t1 t2 t3' [] oC oN, h2.get? q.1 = some q.2) → h2.get? D = some (lstObj (tl.map fun q => Value.ref q.1).toArray cap) → s.heap.get? D = none → (∀ q ∈ tl, h2.get? q.1 = some q.2 ∧ s.heap.get? q.1 = none) → Rel2 (TupOf d sz) tl kc → ((D :: tl.map (·.1)) : List Nat).Nodup → (∀ y ∈ g2, y.bare = true) →
        Q (.ref D) { s with heap := h2, toks := t2', gens := g2 }) → wpN (model PySem.Challenge.rw_vq0002_01.row.prog w) A (call (.type "list") [.ref I]) Q E { s with heap := h', toks := t', gens := s.gens.push gs0 }) →
      R (.ok (.ret (.ref I))) { s with heap := h', toks := t', gens := s.gens.push gs0 }) :
    codeAny (model PySem.Challenge.rw_vq0002_01.row.prog w) A (.call (.ref 77) ⟨[.ref x], []⟩) R s := by
  obtain ⟨hd, dp, fr, gs, u⟩ := A
  obtain rfl := B.stack
  obtain rfl := hh
  obtain rfl := hg
  revert X
  k_fill
  intro X
  refine' enter_gen ?B ?X ?T _ ?P ?k6 ?k7 ?k8 ?k9 ?kB ?c5 ?c6 ?c7 ?c8 ?_
  case B => assumption
  case X => assumption
  case T => assumption
  case P => assumption
  case k6 => k_is
  case k7 => k_is
  case k8 => k_room
  case k9 => first | exact BindsTo.of_eq rfl | exact binds_K (Frag.In.keeps (by assumption) (Below.stays (by assumption))) rfl (by k_is) rfl rfl rfl
  case kB => exact locs rfl
  case c5 => decide
  case c6 => exact rfl
  case c7 => exact rfl
  case c8 => exact rfl
  intro g' L' I h' tk' oI nm qn i1 i2 i3 KG F' N' B' X' T' l1 st sI
  refine h I tk' h' _ st fun Q E hq => ?_
  obtain ⟨ep, hat⟩ := KdkAt.of hC
  refine' list_of_gen kc.length (fun i IT acc s' => ∃ ok ov, CkLed w s g' L' I h'.objs.size s.gens.size oI x dx fx fdx b c n sz nr k1 k2 k3 k4 k5 k6 ts t1 t2 d oC oN kc i acc [(IT, itObj c i kc.length ep ok ov)] s')
    (fun s' => CkLed w s g' L' I h'.objs.size s.gens.size oI x dx fx fdx b c n sz nr k1 k2 k3 k4 k5 k6 ts t1 t2 d oC oN kc 0 #[] [] s')
    (fun s' => ∃ cap h2 t2' g2 pl' t3' tl, s' = { s with heap := h2, toks := t2', gens := g2 } ∧ 0 ≤ pl' ∧ Keep [fdx, b] s.heap h2 ∧ (∀ q ∈ walL w x dx fx fdx b c n sz pl' nr k1 k2 k3 k4 k5 k6 ts t1 t2 t3' [] oC oN, h2.get? q.1 = some q.2) ∧ h2.get? h'.objs.size = some (lstObj (tl.map fun q => Value.ref q.1).toArray cap) ∧
      s.heap.get? h'.objs.size = none ∧ (∀ q ∈ tl, h2.get? q.1 = some q.2 ∧ s.heap.get? q.1 = none) ∧ Rel2 (TupOf d sz) tl kc ∧ ((h'.objs.size :: tl.map (·.1)) : List Nat).Nodup ∧ (∀ y ∈ g2, y.bare = true))
    rfl ?room ?hgen ?hst ?hR ?hco ?hi ?hsw ?hb0 ?hb ?hG0 ?hG ?hIter ?hNext
  case room => k_room
  case hco => rfl
  case hi => rfl
  case hsw => intro _; rfl
  case hR =>
    rintro s' ⟨cap, h2, t2', g2, pl', t3', tl, rfl, a1, a2, a3, a4, a5, a6, a7, a8, a9⟩
    exact hq _ cap h2 t2' g2 pl' t3' tl a1 a2 a3 a4 a5 a6 a7 a8 a9
  case hgen => exact ⟨oI, nm, qn, (N' _ (.head _)).1, i1, i2, i3⟩
  case hG0 =>
    rintro s' y ⟨h2, tk2, gens, pl2, t32, cap, m2, tl, rfl, a1, a2, a3, a4, a5, a6, ⟨z, a7⟩, a8⟩
    exact ⟨h2, tk2, _, pl2, t32, cap, m2, tl, rfl, a1, a2, a3, a4, a5, a6, ⟨y, setGen_self (s := ⟨h2, gens, s.drawn, tk2, s.os⟩) a7⟩, bare_set a8⟩
  case hG =>
    rintro i IT acc s' y ⟨ok, ov, h2, tk2, gens, pl2, t32, cap, m2, tl, rfl, a1, a2, a3, a4, a5, a6, ⟨z, a7⟩, a8⟩
    exact ⟨ok, ov, h2, tk2, _, pl2, t32, cap, m2, tl, rfl, a1, a2, a3, a4, a5, a6, ⟨y, setGen_self (s := ⟨h2, gens, s.drawn, tk2, s.os⟩) a7⟩, bare_set a8⟩
  case hb0 =>
    rintro s' ⟨h2, tk2, gens, pl2, t32, cap, m2, tl, rfl, a1, a2, a3, a4, a5, a6, a7, a8⟩
    exact ⟨⟨oI, nm, qn, (a2 _ (.head _)).1, i1, i2, i3⟩, (T'.nolimit.keeps a1.keep), a7⟩
  case hb =>
    rintro i IT acc s' ⟨ok, ov, h2, tk2, gens, pl2, t32, cap, m2, tl, rfl, a1, a2, a3, a4, a5, a6, a7, a8⟩
    exact ⟨⟨oI, nm, qn, (a2 _ (.head _)).1, i1, i2, i3⟩, (T'.nolimit.keeps a1.keep), a7⟩
  case hst =>
    rintro h2 kk z2 ⟨cap, hS⟩
    have F2 := fr_self (a := Str.ofString "self") (v := .ref x) (F'.keeps kk) rfl
    obtain ⟨f1, f2⟩ := kdx_fresh F' (Nat.le_refl h'.objs.size)
    refine ⟨h2, tk', _, pl, t3, cap, _, [], rfl, F2, fun q hq => ?_, p0, rfl, .nil, ?_, ⟨_, Array.getElem?_push_size ..⟩, bare_push gb⟩
    · rcases List.mem_cons.mp hq with rfl | hq
      · exact ⟨kk _ _ (N' _ (.head _)).1, (N' _ (.head _)).2⟩
      · rcases List.mem_cons.mp hq with rfl | hq
        · exact ⟨hS, f1, f2⟩
        · have hq' := N' q (.tail _ (by rw [List.nil_append, List.append_nil] at hq; exact hq))
          exact ⟨kk _ _ hq'.1, hq'.2⟩
    · have c1 := low_no l1
      have c2 : (h'.objs.size : Nat) ∉ (((I, oI) :: walL w x dx fx fdx b c n sz pl nr k1 k2 k3 k4 k5 k6 ts t1 t2 t3 d oC oN).map (·.1) : List Nat) := low_no fun q hq => Heap.lt_size (N' q hq).1
      unfold Nd
      simp only [List.map_cons, List.map_nil, List.nil_append, List.append_nil] at c1 c2 ⊢
      grind
  case hIter =>
    rintro s' ⟨h2, tk2, gens, pl2, t32, cap, m2, tl, rfl, F2, N2, a3, a4, a5, a6, a7, a8⟩
    have htl : tl = [] := by cases tl with
      | nil => rfl
      | cons _ _ => simp at a4
    subst htl
    simp only [List.nil_append, List.append_nil] at N2 a6
    clear F' N'
    refine n_any (wpAny_bind ?_)
    k_fold
    walk_at "MINE steps"
    with_reducible rename Fr _ _ _ _ => F3
    with_reducible rename News _ _ _ _ => N3
    have mc : (c, oC) ∈ walL w x dx fx fdx b c n sz pl2 nr k1 k2 k3 k4 k5 k6 ts t1 t2 t32 d oC oN := .tail _ (.tail _ (.tail _ (.tail _ (.tail _ (.head _)))))
    refine wpAny_bind (wpAny_standAt (wpAny_holding (wpAny_pyIter_items (knd := kn w) (kvs := kc) (ep := ep) ⟨_, (N3 _ (.head _)).1, rfl, rfl⟩ (hat.dictAt (N3 (c, oC) (.tail _ (.tail _ (.tail _ mc)))).1) ?_)))
    have N4 := News.push F3 N3 (itObj c 0 kc.length ep .none .none)
    have c1 := low_no (news := _) (fun q hq => Heap.lt_size (N3 q hq).1)
    refine ⟨_, rfl, .none, .none, _, _, gens, pl2, t32, cap, m2, [], rfl, F3.push _, fun q hq => N4 q ?_, a3, a4, .nil, ?_, a7, a8⟩
    · rcases List.mem_cons.mp hq with rfl | hq
      · exact .tail _ (.tail _ (.head _))
      · rcases List.mem_cons.mp hq with rfl | hq
        · exact .tail _ (.tail _ (.tail _ (.head _)))
        · rcases List.mem_append.mp hq with hq | hq
          · rw [List.mem_singleton.mp hq]; exact .head _
          · rw [List.append_nil] at hq
            exact .tail _ (.tail _ (.tail _ (.tail _ hq)))
    · unfold Nd at a6 ⊢
      simp only [List.map_cons, List.map_nil, List.nil_append, List.append_nil, List.map_append, List.cons_append] at c1 a6 ⊢
      grind
  case hNext =>
    rintro i IT acc s' hi ⟨ok, ov, h2, tk2, gens, pl2, t32, cap, m2, tl, rfl, F2, N2, p2, ea, rl, nd, al, bo⟩
    have mc : (c, oC) ∈ walL w x dx fx fdx b c n sz pl2 nr k1 k2 k3 k4 k5 k6 ts t1 t2 t32 d oC oN := .tail _ (.tail _ (.tail _ (.tail _ (.tail _ (.head _)))))
    have hit := (N2 (IT, itObj c i kc.length ep ok ov) (.tail _ (.tail _ (.head _)))).1
    unfold walL at N2
    simp only [List.cons_append, List.nil_append] at N2
    have hm := hat.dictAt (N2 (c, oC) (by k_mem)).1
    clear F' N'
    unfold Nd at nd
    simp only [List.map_cons, List.map_nil, List.nil_append, List.append_nil, List.map_append, List.cons_append] at nd
    by_cases hlt : i < kc.length
    · obtain ⟨a, ta, e1, e2, e3⟩ := Pl kc[i] (List.getElem_mem hlt)
      have hx : kc[i]? = some (kc[i].1, kc[i].2) := List.getElem?_eq_getElem hlt
      generalize kc[i].1 = ky at hx
      rw [e1] at hx
      refine n_any (wpAny_pyNext_items_item (knd := kn w) hit hm hx fun key h3 hkey hit3 ht3 hs3 hk3 => ⟨hlt, ?_⟩)
      refine n_any (wpAny_bind (wpAny_letOwnedTupleGo_items hit3 fun h4 hit4 hsb4 => ?_))
      obtain ⟨tky, rfl⟩ := Value.isInt_shape hkey
      dsimp only at hs3 hk3 ht3 hit3 hsb4
      have kp : Keep [IT] h2 h4 := fun q o e n => hsb4.extBut q o (fun z => n (by rw [z]; exact .head _)) (hk3 q o (fun z => n (by rw [z]; exact .head _)) e)
      have F4 := back_fr F2 N2 kp (mods1 (by k_mem))
      have nT : h2.get? h2.objs.size = none := by cases q : h2.get? h2.objs.size with
        | none => rfl
        | some o => exact absurd (Heap.lt_size q) (Nat.lt_irrefl _)
      have nIT : h2.objs.size ≠ IT := Nat.ne_of_gt (Heap.lt_size hit)
      have N4 : News g' L' h4 ((h2.objs.size, tupObj [.int ky tky, .int a ta]) :: (I, oI) :: (h'.objs.size, lstObj acc cap) :: (IT, itObj c (i + 1) kc.length ep (.int ky tky) (.int a ta)) :: (x, instObj 144 dx) :: (dx, walD w.params fx sz c n nr k1 k2 k3 k4 k5 k6 ts) :: (fx, instObj 194 fdx) :: (fdx, octD w.params b pl2 t1 t2 t32) :: (b, baObj d.toArray) :: (c, oC) :: (n, oN) :: tl) := by
        refine back_new N2 F2 kp fun q hq => ?_
        rcases List.mem_cons.mp hq with rfl | hq
        · exact .inr ⟨hsb4.extBut _ _ nIT ht3, .inr nT⟩
        · rcases List.mem_cons.mp hq with rfl | hq
          · exact .inl ⟨.head _, fun z => by have z' := List.mem_singleton.mp z; dsimp only at z'; grind⟩
          · rcases List.mem_cons.mp hq with rfl | hq
            · exact .inl ⟨.tail _ (.head _), fun z => by have z' := List.mem_singleton.mp z; dsimp only at z'; grind⟩
            · rcases List.mem_cons.mp hq with rfl | hq
              · exact .inr ⟨hit4, .inl ⟨_, .tail _ (.tail _ (.head _))⟩⟩
              · have hm' : (q.1 : Nat) ∈ (((x, instObj 144 dx) :: (dx, walD w.params fx sz c n nr k1 k2 k3 k4 k5 k6 ts) :: (fx, instObj 194 fdx) :: (fdx, octD w.params b pl2 t1 t2 t32) :: (b, baObj d.toArray) :: (c, oC) :: (n, oN) :: tl).map (·.1) : List Nat) := List.mem_map_of_mem hq
                refine .inl ⟨.tail _ (.tail _ (.tail _ hq)), fun z => ?_⟩
                have z' := List.mem_singleton.mp z
                simp only [List.map_cons] at hm'
                rw [show (q.1 : Nat) = IT from z'] at hm'
                grind
      clear hsb4 hit4 hit3 ht3 hk3 hs3 kp
      have tN := low_no (news := _) (fun q hq => Heap.lt_size (N2 q hq).1)
      simp only [List.map_cons] at tN
      have htl : ∀ p ∈ tl, p.1 ≠ fdx := fun p hp => by
        have hm' : (p.1 : Nat) ∈ (tl.map (·.1) : List Nat) := List.mem_map_of_mem hp
        intro z
        rw [show (p.1 : Nat) = fdx from z] at hm'
        grind
      have D1 : Df h2.objs.size fdx := ⟨by grind⟩
      have D2 : Df I fdx := ⟨by grind⟩
      have D3 : Df h'.objs.size fdx := ⟨by grind⟩
      have D4 : Df IT fdx := ⟨by grind⟩
      have D5 : Df x fdx := ⟨by grind⟩
      have D6 : Df dx fdx := ⟨by grind⟩
      have D7 : Df fx fdx := ⟨by grind⟩
      have D8 : Df b fdx := ⟨by grind⟩
      have D9 : Df c fdx := ⟨by grind⟩
      have D10 : Df n fdx := ⟨by grind⟩
      have D11 : Df b fx := ⟨by grind⟩
      (try dsimp only)
      (try k_fold)
      walk_at "MINE steps"
      refine n_any ?_
      k_fold
      walk_at "MINE steps"
      refine n_any (stop_post ?_)
      k_fold
      walk_at "MINE steps"
      (with_reducible rename _ ∧ _ => LL)
      (with_reducible rename _ = List.take _ (List.drop _ d) => hr)
      (with_reducible rename Fr _ _ _ _ => F5)
      (with_reducible rename News _ _ _ _ => N5)
      rw [Int.toNat_natCast, show ((a : Int) + sz - a).toNat = sz by omega] at hr
      rw [hr] at N5
      exact ck_step F5 rfl N5 (show AllLt _ _ from LL) nd rl hx ea (by omega) al bo hzc
    · obtain rfl : i = kc.length := Nat.le_antisymm hi (Nat.not_lt.mp hlt)
      refine n_any (wpAny_pyNext_items_end rfl hit hm (List.getElem?_eq_none (Nat.le_refl _)) fun h3 hs3 => ⟨rfl, ?_⟩)
      have kp : Keep [IT] h2 h3 := fun q o e nq => hs3 q o (fun z => nq (by rw [z]; exact .head _)) e
      have F4 := back_fr F2 N2 kp (mods1 (by k_mem))
      have N4 : News g' L' h3 ((I, oI) :: (h'.objs.size, lstObj acc cap) :: (x, instObj 144 dx) :: (dx, walD w.params fx sz c n nr k1 k2 k3 k4 k5 k6 ts) :: (fx, instObj 194 fdx) :: (fdx, octD w.params b pl2 t1 t2 t32) :: (b, baObj d.toArray) :: (c, oC) :: (n, oN) :: tl) := by
        refine back_new N2 F2 kp fun q hq => ?_
        rcases List.mem_cons.mp hq with rfl | hq
        · exact .inl ⟨.head _, fun z => by have z' := List.mem_singleton.mp z; dsimp only at z'; grind⟩
        · rcases List.mem_cons.mp hq with rfl | hq
          · exact .inl ⟨.tail _ (.head _), fun z => by have z' := List.mem_singleton.mp z; dsimp only at z'; grind⟩
          · have hm' : (q.1 : Nat) ∈ (((x, instObj 144 dx) :: (dx, walD w.params fx sz c n nr k1 k2 k3 k4 k5 k6 ts) :: (fx, instObj 194 fdx) :: (fdx, octD w.params b pl2 t1 t2 t32) :: (b, baObj d.toArray) :: (c, oC) :: (n, oN) :: tl).map (·.1) : List Nat) := List.mem_map_of_mem hq
            refine .inl ⟨.tail _ (.tail _ (.tail _ hq)), fun z => ?_⟩
            have z' := List.mem_singleton.mp z
            simp only [List.map_cons] at hm'
            rw [show (q.1 : Nat) = IT from z'] at hm'
            grind
      refine n_execs_cons (n_Expr (n_methodCall ?_))
      (try dsimp only)
      (try k_fold)
      walk_at "MINE steps"
      refine n_callWith_of (P := fun _ => True) rfl (fun _ _ => ⟨_, .inr (.inl rfl), Looks.of_pure (by rfl)⟩) (n_any (evalArgs_nil3 ⟨trivial, ?_⟩))
      show wpN _ _ (call (.builtin "bytearray.clear") [.ref b]) _ _ _
      have zb := N4 (b, baObj d.toArray) (by k_mem)
      refine n_clear rfl zb.1 fun h5 hs5 hb5 => ?_
      (try dsimp only)
      refine n_execs_nil ⟨rfl, fun h6 kk => ?_⟩
      dsimp only at hs5 hb5 kk
      have kb : Keep [b] h3 h5 := fun q o e nq => hs5.extBut q o (fun z => nq (by rw [z]; exact .head _)) e
      have F6 := (F4.change hs5 zb.2.1 zb.2.2).keeps kk
      have N6 : News g' L' h6 ((I, oI) :: (h'.objs.size, lstObj acc cap) :: (x, instObj 144 dx) :: (dx, walD w.params fx sz c n nr k1 k2 k3 k4 k5 k6 ts) :: (fx, instObj 194 fdx) :: (fdx, octD w.params b pl2 t1 t2 t32) :: (b, baObj #[]) :: (c, oC) :: (n, oN) :: tl) := by
        have N5 : News g' L' h5 ((I, oI) :: (h'.objs.size, lstObj acc cap) :: (x, instObj 144 dx) :: (dx, walD w.params fx sz c n nr k1 k2 k3 k4 k5 k6 ts) :: (fx, instObj 194 fdx) :: (fdx, octD w.params b pl2 t1 t2 t32) :: (b, baObj #[]) :: (c, oC) :: (n, oN) :: tl) :=
          back_upd (g := fun o => ((I, oI) :: (h'.objs.size, lstObj acc cap) :: (x, instObj 144 dx) :: (dx, walD w.params fx sz c n nr k1 k2 k3 k4 k5 k6 ts) :: (fx, instObj 194 fdx) :: (fdx, octD w.params b pl2 t1 t2 t32) :: (b, o) :: (c, oC) :: (n, oN) :: tl)) N4
            (.tail (show @Ne Nat _ _ by grind) (.tail (show @Ne Nat _ _ by grind) (.tail (show @Ne Nat _ _ by grind) (.tail (show @Ne Nat _ _ by grind) (.tail (show @Ne Nat _ _ by grind) (.tail (show @Ne Nat _ _ by grind) (.head fun p hp z => by
              have hm' : (p.1 : Nat) ∈ (((c, oC) :: (n, oN) :: tl).map (·.1) : List Nat) := List.mem_map_of_mem hp
              simp only [List.map_cons] at hm'
              rw [show (p.1 : Nat) = b from z] at hm'
              grind))))))) kb hb5
        exact fun q hq => ⟨kk _ _ (N5 q hq).1, (N5 q hq).2⟩
      refine ⟨cap, h6, _, _, pl2, t32, tl, rfl, p2, keep_end P KG F6 N6 ?_, fun q hq => ?_, ?_, ?_, fun q hq => ?_, ?_, ?_, bare_all bo⟩
      · unfold walL
        walk_at "MINE sub"
      · refine (N6 q ?_).1
        exact .tail _ (.tail _ (List.mem_append_left tl (show q ∈ [(x, instObj 144 dx), (dx, walD w.params fx sz c n nr k1 k2 k3 k4 k5 k6 ts), (fx, instObj 194 fdx), (fdx, octD w.params b pl2 t1 t2 t32), (b, baObj #[]), (c, oC), (n, oN)] from hq)))
      · rw [← ea]; exact (N6 (h'.objs.size, lstObj acc cap) (by k_mem)).1
      · cases e : s.heap.get? h'.objs.size with
        | none => rfl
        | some o => exact absurd (Heap.lt_size (st _ _ e)) (Nat.lt_irrefl _)
      · have hq' := N6 q (.tail _ (.tail _ (.tail _ (.tail _ (.tail _ (.tail _ (.tail _ (.tail _ (.tail _ hq)))))))))
        refine ⟨hq'.1, ?_⟩
        cases e : s.heap.get? q.1 with
        | none => rfl
        | some o =>
          have hm' : (q.1 : Nat) ∈ (tl.map (·.1) : List Nat) := List.mem_map_of_mem hq
          have := KG _ _ e (fun z => by
            have z' : (q.1 : Nat) ∈ ([x, dx, fx, fdx, b, c, n] : List Nat) := z
            exact (nd_tl nd).2 _ hm' z')
          rw [hq'.2.2] at this; cases this
      · rw [List.take_length] at rl; exact rl
      · exact (nd_tl nd).1
end
end

/-! ### VRecv -/
theorem fresh45 {M : Model} {A : Around} {env : Env} {Q : Flow → Shared → Prop} {E : Value → Shared → Prop} {s : Shared} (h : Q .next s) : wpAny M A (execs [] env) Q E s := by
  w_top off
  (try walk1)
  all_goals first | exact h | exact wpAny_execs_nil h
section
/-- what the law reads from a place on: the sure pages' octets -/
def recv (d : List UInt8) (sz : Nat) : Nat → Nat → List (Int × List UInt8) → List (Int × List UInt8) → List (Int × List UInt8)
  | 0, _, _, C => C
  | f + 1, pl, K, C =>
    if d.length < pl + 5 then C
    else if kindAt d pl = 1 then recv d sz f (pl + 5 + sz) (putP K (pageNo d pl) ((d.drop (pl + 5)).take sz)) C
    else if kindAt d pl = 2 then recv d sz f (pl + 5) [] (mergeP C K)
    else recv d sz f (pl + 5) [] C
theorem recv_succ {d : List UInt8} {sz f pl : Nat} {K C : List (Int × List UInt8)} : recv d sz (f + 1) pl K C = if d.length < pl + 5 then C
    else if kindAt d pl = 1 then recv d sz f (pl + 5 + sz) (putP K (pageNo d pl) ((d.drop (pl + 5)).take sz)) C
    else if kindAt d pl = 2 then recv d sz f (pl + 5) [] (mergeP C K)
    else recv d sz f (pl + 5) [] C := rfl
theorem recv_end {d : List UInt8} {sz : Nat} : ∀ {f pl : Nat} {K C : List (Int × List UInt8)}, d.length < pl + 5 → recv d sz f pl K C = C
  | 0, _, _, _, _ => rfl
  | _ + 1, _, _, _, h => by unfold recv; rw [if_pos h]
theorem leInt_one (a : UInt8) : leInt [a] = a.toNat := by
  unfold leInt
  simp [KBw.bInts, KFB.value]
theorem kindAt_eq {d : List UInt8} {pl : Nat} (h : pl < d.length) : kindAt d pl = (d[pl].toNat : Int) := by
  unfold kindAt
  rw [List.drop_eq_getElem_cons h, List.take_succ_cons, List.take_succ_cons, List.take_zero, leInt_one]
theorem pageNo_eq {d : List UInt8} {pl : Nat} : pageNo d pl = leInt ((d.drop (pl + 1)).take 4) := by
  unfold pageNo
  rw [List.drop_take, List.drop_drop, List.take_take]
  rfl
theorem fr5 {g h : Heap} {L : Addr} {m : Str → Option Value} {a1 a2 a3 a4 a5 : Str} {v1 v2 v3 v4 v5 : Value} (F : Fr g L h m) (e1 : m a1 = some v1) (e2 : m a2 = some v2) (e3 : m a3 = some v3) (e4 : m a4 = some v4) (e5 : m a5 = some v5) :
    Fr g L h (fun y => if y = a1 then some v1 else if y = a2 then some v2 else if y = a3 then some v3 else if y = a4 then some v4 else if y = a5 then some v5 else m y) := by
  have : m = (fun y => if y = a1 then some v1 else if y = a2 then some v2 else if y = a3 then some v3 else if y = a4 then some v4 else if y = a5 then some v5 else m y) := by
    funext y
    repeat (split; (rename_i q; rw [q]; assumption))
    rfl
  rw [← this]; exact F
def RInv (w : World) (g : Heap) (L : Addr) (d : List UInt8) (sz : Nat) (td ts : Tok) (s0 : Shared) (Cf : List (Int × List UInt8)) (f : Nat) (s' : Shared) : Prop :=
  ∃ (hp : Heap) (tk pl : Nat) (tp : Tok) (Su Lo : Addr) (oS oL : Obj) (kS kL : List (Int × Value)) (K C : List (Int × List UInt8)) (m : Str → Option Value), s' = { s0 with heap := hp, toks := tk } ∧ Fr g L hp m ∧ News g L hp [(Lo, oL), (Su, oS)] ∧
    m (Str.ofString "place") = some (.int pl tp) ∧ m (Str.ofString "loose") = some (.ref Lo) ∧ m (Str.ofString "sure") = some (.ref Su) ∧ m (Str.ofString "size") = some (.int sz ts) ∧ m (Str.ofString "octets") = some (.bytes d.toArray td) ∧
    oS.IsDictOf (kn w) kS ∧ oL.IsDictOf (kn w) kL ∧ All2 IsOcts kS C ∧ All2 IsOcts kL K ∧ @Ne Nat Lo Su ∧ (Su == sysModules) = false ∧ (Lo == sysModules) = false ∧ Ok d sz f pl ∧ recv d sz f pl K C = Cf ∧ K.length + C.length + f ≤ 1000
section
local macro_rules | `(tactic| walk_at "call ref") => `(tactic| (k_here; (with_reducible show wpAny _ _ (call (Value.ref _) [Value.bytes (List.toArray _) _, Value.str _ _]) _ _ _); kfb_any; refine Stop.go ?_))
local macro_rules | `(tactic| walk_at "Exists") => `(tactic| refine Stop.go ?_)
local macro_rules | `(tactic| walk_at "exec While") => `(tactic| (k_here; refine Stop.go ?_))
local macro_rules | `(tactic| walk_at "exec While Compare") => `(tactic| (k_here; refine Stop.go ?_))
variable {w : World} {A : Around} {s : Shared} {base : Heap} {outer : List Env} {p : Program} {loose : List Str} {mean : ExcName → Option Value} {mg mb : Str → Option Value} {R : Result → Shared → Prop}
theorem recover_c (B : Below A base outer s.heap) (X : (Mine.hd.heap_39 w.params).In base) (T : Top p loose mean mg mb base) (hh : A.handled = none) (hroom : A.depth + 40 < recursionLimit)
    {d : List UInt8} {sz : Nat} {td ts : Tok} (hs : 0 < sz) (hsz : sz ≤ 1000) (hz : d.length ≤ 1000000) {f : Nat} (hf : f ≤ 900) (hok : Ok d sz f 4)
    (h : ∀ h' t' D oD kD, Keep [] s.heap h' → h'.get? D = some oD → s.heap.get? D = none → oD.IsDictOf (kn w) kD → All2 IsOcts kD (recv d sz f 4 [] []) → (D == sysModules) = false → R (.ok (.ret (.ref D))) { s with heap := h', toks := t' }) :
    codeAny (model PySem.Challenge.rw_vq0002_01.row.prog w) A (.call (.ref 233) ⟨[.bytes d.toArray td, .int sz ts], []⟩) R s := by
  obtain ⟨hd, dp, fr, gs, u⟩ := A
  obtain rfl := B.stack
  obtain rfl := hh
  have P : Foot base outer s.heap [] := foot_nil
  revert X
  k_fill
  intro X
  walk_at "MINE enter"
  walk_at "MINE steps"
  show wpAny _ _ (exec _ _) _ _ _
  with_reducible rename Fr _ _ _ _ => F'
  with_reducible rename News _ _ _ _ => N'
  with_reducible rename Keep _ _ _ => KG
  with_reducible rename Below _ _ _ _ => B'
  refine' wpAny_While (codeAny_whileLoop (RInv w _ _ d sz td ts s (recv d sz f 4 [] [])) ?turn f ?init)
  case init =>
    refine' ⟨_, _, 4, _, _, _, _, _, [], [], [], [], _, rfl, F', N', rfl, rfl, rfl, rfl, rfl, ?a1, ?a2, .nil, .nil, ?a3, ?a4, ?a5, hok, rfl, ?a6⟩
    case a1 => assumption
    case a2 => assumption
    case a3 => omega
    case a4 => assumption
    case a5 => assumption
    case a6 => simp only [List.length_nil]; omega
  clear F' N'
  intro f' s' hI
  obtain ⟨hp, tk, pl, tp, Su, Lo, oS, oL, kS, kL, K, C, m, rfl, F0, N', e1, e2, e3, e4, e5, hS, hL, aS, aL, hne, loS, loL, ok', rc', len'⟩ := hI
  have F' := fr5 F0 e1 e2 e3 e4 e5
  have ls := aS.length
  have ll := aL.length
  clear F0 e1 e2 e3 e4 e5
  (try dsimp only)
  (try k_fold)
  by_cases hr : d.length < pl + 5
  · rw [recv_end hr] at rc'
    walk_at "MINE steps"
    with_reducible rename Fr _ _ _ _ => F4
    with_reducible rename News _ _ _ _ => N4
    refine' h _ _ Su oS kS ?b1 (N4 _ (.tail _ (.head _))).1 ?b2 hS ?b3 loS
    case b3 => rw [← rc']; exact aS
    case b2 => exact new_none KG (by assumption) (List.Mem.tail _ (List.Mem.head _)) fun _ z => nomatch z
    case b1 => walk_at "MINE keep"
  · cases f' with
    | zero => exact absurd ok' hr
    | succ f2 =>
      have hpl : pl < d.length := by omega
      have e0 : d.getD ((pl : Int).toNat) 0 = d[pl] := by rw [Int.toNat_natCast]; simp [hpl]
      rw [recv_succ, if_neg hr] at rc'
      rcases ok' with z | ⟨z, ok'⟩ | ⟨z, ok'⟩ | ⟨z, ok'⟩
      · exact absurd z hr
      · rw [if_pos z] at rc'
        rw [kindAt_eq hpl, ← e0] at z
        walk_at "MINE steps"
        show wpAny _ _ (call _ _) _ _ _
        (with_reducible rename _ = List.take _ (List.drop _ d) => q1)
        revert q1
        (with_reducible rename _ = List.take _ (List.drop _ d) => q2)
        intro q1
        rw [show ((pl : Int) + 1).toNat = pl + 1 by omega, show ((pl : Int) + 5).toNat - (pl + 1) = 4 by omega] at q1
        rw [show ((pl : Int) + 5).toNat = pl + 5 by omega, show ((pl : Int) + 5 + sz).toNat - (pl + 5) = sz by omega] at q2
        refine' from_leK2 (v := pageNo d pl) ?N ?hm ?hl ?e ?_
        case N => k_asm
        case hm => k_mem
        case hl => rw [q1, List.length_take]; omega
        case e => rw [q1, pageNo_eq]
        k_whole
        intro _ _
        walk_at "MINE steps"
        with_reducible rename Fr _ _ _ _ => F4
        with_reducible rename News _ _ _ _ => N4
        have hp1 := putP_length K (pageNo d pl) ((d.drop (pl + 5)).take sz)
        rw [show ((pl : Int) + sz + 5) = ((pl + 5 + sz : Nat) : Int) by omega] at F4
        refine' ⟨f2, Nat.lt_succ_self _, _, _, pl + 5 + sz, _, Su, Lo, oS, _, kS, _, putP K (pageNo d pl) ((d.drop (pl + 5)).take sz), C, _, rfl, F4, ?c1, rfl, rfl, rfl, rfl, rfl, hS, ?c2, aS, ?c3, hne, loS, loL, ok', rc', by omega⟩
        case c1 => exact fun q hq => N4 q (by revert q; walk_at "MINE subs")
        case c2 => assumption
        case c3 => exact aL.put _ ⟨_, by rw [q2]⟩
      · rw [if_neg (by rw [z]; decide), if_pos z] at rc'
        rw [kindAt_eq hpl, ← e0] at z
        walk_at "MINE steps"
        with_reducible rename Fr _ _ _ _ => F4
        with_reducible rename News _ _ _ _ => N4
        have hp1 := mergeP_length K C
        rw [show ((pl : Int) + 5) = ((pl + 5 : Nat) : Int) by omega] at F4
        refine' ⟨f2, Nat.lt_succ_self _, _, _, pl + 5, _, Su, _, _, _, _, [], [], mergeP C K, _, rfl, F4, ?c1, rfl, rfl, rfl, rfl, rfl, ?c2, ?c4, aL.merge aS, .nil, ?c5, loS, ?c6, ok', rc', ?c7⟩
        case c1 => exact fun q hq => N4 q (by revert q; walk_at "MINE subs")
        case c2 => assumption
        case c4 => assumption
        case c5 => omega
        case c6 => assumption
        case c7 => simp only [List.length_nil]; omega
      · rw [if_neg (by rw [z]; decide), if_neg (by rw [z]; decide)] at rc'
        rw [kindAt_eq hpl, ← e0] at z
        walk_at "MINE steps"
        with_reducible rename Fr _ _ _ _ => F4
        with_reducible rename News _ _ _ _ => N4
        rw [show ((pl : Int) + 5) = ((pl + 5 : Nat) : Int) by omega] at F4
        refine' ⟨f2, Nat.lt_succ_self _, _, _, pl + 5, _, Su, _, oS, _, kS, [], [], C, _, rfl, F4, ?c1, rfl, rfl, rfl, rfl, rfl, hS, ?c4, aS, .nil, ?c5, loS, ?c6, ok', rc', ?c7⟩
        case c1 => exact fun q hq => N4 q (by revert q; walk_at "MINE subs")
        case c4 => assumption
        case c5 => omega
        case c6 => assumption
        case c7 => simp only [List.length_nil]; omega
end
end

/-! ### VPlain -/
theorem fresh46 {M : Model} {A : Around} {env : Env} {Q : Flow → Shared → Prop} {E : Value → Shared → Prop} {s : Shared} (h : Q .next s) : wpAny M A (execs [] env) Q E s := by
  w_top off
  (try walk1)
  all_goals first | exact h | exact wpAny_execs_nil h
section
theorem bInts_eq (l : List UInt8) : KBw.bInts l.toArray = l.map fun c => ((c.toNat : Nat) : Int) := by
  unfold KBw.bInts
  simp
theorem leInt_leB1 {x : Int} (h0 : 0 ≤ x) (h1 : x < 256) : leInt (leB 1 x) = x := by
  unfold leInt leB
  rw [bInts_eq, KTBy.low_ints h0 (by simpa using h1)]
  simp [KFB.value, List.range_succ]
  omega
theorem leInt_leB4 {x : Int} (h0 : 0 ≤ x) (h1 : x < 4294967296) : leInt (leB 4 x) = x := by
  unfold leInt leB
  rw [bInts_eq, KTBy.low_ints h0 (by simpa using h1)]
  simp [KFB.value, List.range_succ]
  omega
/-- places within the octets, and the octets that stand there -/
inductive AP (d : List UInt8) (sz : Nat) : List (Int × Int) → List (Int × List UInt8) → Prop
  | nil : AP d sz [] []
  | cons {k : Int} {a : Nat} {C : List (Int × Int)} {S : List (Int × List UInt8)} (k0 : 0 < k) (k4 : k < 4) (h0 : 0 < a) (h1 : a + sz ≤ d.length) (t : AP d sz C S) : AP d sz ((k, (a : Int)) :: C) ((k, (d.drop a).take sz) :: S)
section
variable {d : List UInt8} {sz : Nat} {C K C' : List (Int × Int)} {S L S' : List (Int × List UInt8)}
theorem AP.length (h : AP d sz C S) : C.length = S.length := by
  induction h with
  | nil => rfl
  | cons _ _ _ _ _ ih => rw [List.length_cons, List.length_cons, ih]
theorem AP.any (h : AP d sz C S) (k : Int) : C.any (fun p => decide (p.1 = k)) = S.any (fun p => decide (p.1 = k)) := by
  induction h with
  | nil => rfl
  | cons _ _ _ _ _ ih => rw [List.any_cons, List.any_cons, ih]
theorem AP.map (h : AP d sz C S) (k : Int) {a : Nat} (h0 : 0 < a) (h1 : a + sz ≤ d.length) : AP d sz (C.map fun p => if p.1 = k then (p.1, (a : Int)) else p) (S.map fun p => if p.1 = k then (p.1, (d.drop a).take sz) else p) := by
  induction h with
  | nil => exact .nil
  | @cons k' a' _ _ x0 x4 y0 y1 _ ih =>
    rw [List.map_cons, List.map_cons]
    by_cases e : k' = k
    · simp only [e, if_true]; exact .cons (e ▸ x0) (e ▸ x4) h0 h1 ih
    · simp only [e, if_false]; exact .cons x0 x4 y0 y1 ih
theorem AP.append (h : AP d sz C S) (h' : AP d sz C' S') : AP d sz (C ++ C') (S ++ S') := by
  induction h with
  | nil => exact h'
  | cons x0 x4 y0 y1 _ ih => exact .cons x0 x4 y0 y1 ih
theorem AP.put (h : AP d sz C S) {k : Int} (k0 : 0 < k) (k4 : k < 4) {a : Nat} (h0 : 0 < a) (h1 : a + sz ≤ d.length) : AP d sz (putP C k (a : Int)) (putP S k ((d.drop a).take sz)) := by
  unfold putP
  rw [h.any k]
  split
  · exact h.map k h0 h1
  · exact h.append (.cons k0 k4 h0 h1 .nil)
theorem AP.merge (h' : AP d sz C' S') : ∀ {C : List (Int × Int)} {S : List (Int × List UInt8)}, AP d sz C S → AP d sz (mergeP C C') (mergeP S S') := by
  induction h' with
  | nil => intro C S h; exact h
  | cons k0 k4 h0 h1 _ ih => intro C S h; exact ih (h.put k0 k4 h0 h1)
theorem AP.mono (h : AP d sz C S) (x : List UInt8) : AP (d ++ x) sz C S := by
  induction h with
  | nil => exact .nil
  | @cons k a C S k0 k4 h0 h1 _ ih =>
    have e : (d.drop a).take sz = ((d ++ x).drop a).take sz := by
      rw [List.drop_append_of_le_length (by omega), List.take_append_of_le_length (by rw [List.length_drop]; omega)]
    rw [e]
    exact .cons k0 k4 h0 (by rw [List.length_append]; omega) ih
theorem AP.look (h : AP d sz C S) (k : Int) : (lookP C k = none ∧ lookP S k = none) ∨ ∃ a : Nat, lookP C k = some (a : Int) ∧ lookP S k = some ((d.drop a).take sz) ∧ 0 < a ∧ a + sz ≤ d.length := by
  induction h with
  | nil => exact .inl ⟨rfl, rfl⟩
  | @cons k' a C S _ _ h0 h1 _ ih =>
    unfold lookP at ih ⊢
    rw [List.find?_cons, List.find?_cons]
    by_cases e : k' = k
    · simp only [e, decide_true]; exact .inr ⟨a, rfl, rfl, h0, h1⟩
    · simp only [e, decide_false]; exact ih
theorem AP.all (h : AP d sz C S) : ∀ q ∈ S, 0 < q.1 ∧ q.1 < 4 ∧ q.2.length = sz := by
  induction h with
  | nil => intro q hq; cases hq
  | @cons k' a C S k0 k4 h0 h1 _ ih =>
    intro q hq
    rcases List.mem_cons.mp hq with rfl | hq
    · exact ⟨k0, k4, by rw [List.length_take, List.length_drop]; omega⟩
    · exact ih q hq
end
section
variable {β : Type}
theorem lookP_put {l : List (Int × β)} {k q : Int} {v : β} : lookP (putP l k v) q = if q = k then some v else lookP l q := by
  unfold lookP putP
  by_cases ha : l.any (fun p => decide (p.1 = k)) = true
  · rw [if_pos ha]
    induction l with
    | nil => cases ha
    | cons p r ih =>
      rw [List.map_cons, List.find?_cons, List.find?_cons]
      by_cases e : p.1 = k
      · by_cases e2 : q = k
        · simp [e, e2]
        · have : ¬ k = q := fun z => e2 z.symm
          simp only [e, if_true, this, decide_false, e2, if_false]
          by_cases hr : r.any (fun p => decide (p.1 = k)) = true
          · have := ih hr
            rw [if_neg e2] at this
            exact this
          · have : ∀ p ∈ r, ¬ p.1 = k := fun p hp z => hr (List.any_eq_true.mpr ⟨p, hp, by simpa using z⟩)
            rw [List.map_congr_left (g := id) (fun p hp => by rw [if_neg (this p hp)]; rfl), List.map_id]
      · have hr : r.any (fun p => decide (p.1 = k)) = true := by
          rw [List.any_cons] at ha; simpa [e] using ha
        simp only [e, if_false]
        by_cases e3 : p.1 = q
        · have : ¬ q = k := fun z => e (e3.trans z)
          simp [e3, this]
        · simp only [e3, decide_false]
          exact ih hr
  · rw [if_neg ha]
    have hn : ∀ p ∈ l, ¬ p.1 = k := fun p hp z => ha (List.any_eq_true.mpr ⟨p, hp, by simpa using z⟩)
    rw [List.find?_append]
    by_cases e2 : q = k
    · have : l.find? (fun p => decide (p.1 = q)) = none := List.find?_eq_none.mpr fun p hp => by simpa using fun z => hn p hp (z.trans e2)
      rw [this, if_pos e2]
      simp [e2]
    · rw [if_neg e2]
      have : ¬ k = q := fun z => e2 z.symm
      simp [this]
theorem lookP_merge : ∀ {r l : List (Int × β)} {q : Int}, (r.map (·.1)).Nodup → lookP (mergeP l r) q = (lookP r q).or (lookP l q)
  | [], l, q, _ => rfl
  | p :: r, l, q, h => by
    obtain ⟨h1, h2⟩ := List.nodup_cons.mp h
    show lookP (mergeP (putP l p.1 p.2) r) q = _
    rw [lookP_merge h2, lookP_put]
    unfold lookP
    rw [List.find?_cons]
    by_cases e : q = p.1
    · have : r.find? (fun x => decide (x.1 = q)) = none := List.find?_eq_none.mpr fun x hx => by
        simpa using fun z => h1 (List.mem_map.mpr ⟨x, hx, z.trans e⟩)
      rw [if_pos e, this]
      simp [e]
    · have e' : ¬ p.1 = q := fun z => e z.symm
      rw [if_neg e]
      simp [e']
end
end

/-! ### VPlain2 -/
theorem fresh47 {M : Model} {A : Around} {env : Env} {Q : Flow → Shared → Prop} {E : Value → Shared → Prop} {s : Shared} (h : Q .next s) : wpAny M A (execs [] env) Q E s := by
  w_top off
  (try walk1)
  all_goals first | exact h | exact wpAny_execs_nil h
section
section
variable {d : List UInt8} {sz : Nat} {C K : List (Int × Int)} {S L : List (Int × List UInt8)} {kv kc kS kL : List (Int × Value)}
theorem places_of (iC : Ints kc C) (ap : AP d sz C S) : Places d sz kc := fun q v e => by
  rcases iC.look q with ⟨h1, _⟩ | ⟨v', b, h1, h2, t, rfl⟩
  · rw [h1] at e; cases e
  · rw [h1] at e
    cases e
    rcases ap.look q with ⟨g1, _⟩ | ⟨a, g1, _, g3, g4⟩
    · rw [h2] at g1; cases g1
    · rw [h2] at g1
      cases g1
      exact ⟨a, t, rfl, g3, g4⟩
theorem all2_keys {β : Type} {r : Value → β → Prop} {kv : List (Int × Value)} {l : List (Int × β)} (h : All2 r kv l) : kv.map (·.1) = l.map (·.1) := by
  induction h with
  | nil => rfl
  | cons _ _ ih => rw [List.map_cons, List.map_cons, ih]
theorem told_eq (iN : Ints kv K) (iC : Ints kc C) (aS : All2 IsOcts kS S) (aL : All2 IsOcts kL L) (ap1 : AP d sz C S) (ap2 : AP d sz K L) (nd : (kL.map (·.1)).Nodup) (q : Int) :
    ∃ t, (valueAt (merged kS kL) q).getD .none = bytesOr (pageAt d sz kv kc q) t := by
  rw [all2_keys aL] at nd
  have hm := lookP_merge (r := L) (l := S) (q := q) nd
  have key : ∀ o, lookP (mergeP S L) q = o → ∃ t, (valueAt (merged kS kL) q).getD .none = bytesOr o t := fun o ho => by
    rcases (aL.merge aS).look q with ⟨g1, g2⟩ | ⟨v, b, g1, g2, t, rfl⟩
    · rw [g2] at ho; subst ho
      exact ⟨0, by rw [g1]; rfl⟩
    · rw [g2] at ho; subst ho
      exact ⟨t, by rw [g1]; rfl⟩
  refine key _ ?_
  rw [hm]
  unfold pageAt
  rcases iN.look q with ⟨h1, h1'⟩ | ⟨v, b, h1, h2, t, rfl⟩
  · rw [h1]
    dsimp only
    rcases ap2.look q with ⟨_, g2⟩ | ⟨a, g1, _⟩
    · rw [g2]
      rcases iC.look q with ⟨x1, x2⟩ | ⟨v', b', x1, x2, t', rfl⟩
      · rw [x1]
        rcases ap1.look q with ⟨_, y2⟩ | ⟨a, y1, _⟩
        · rw [y2]; rfl
        · rw [x2] at y1; cases y1
      · rw [x1]
        rcases ap1.look q with ⟨y1, _⟩ | ⟨a, y1, y2, _⟩
        · rw [x2] at y1; cases y1
        · rw [x2] at y1
          cases y1
          rw [y2]; rfl
    · rw [h1'] at g1; cases g1
  · rw [h1]
    rcases ap2.look q with ⟨g1, _⟩ | ⟨a, g1, g2, _⟩
    · rw [h2] at g1; cases g1
    · rw [h2] at g1
      cases g1
      rw [g2]; rfl
/-- frames from a place on, their pages' numbers between nought and four -/
def OkP (d : List UInt8) (sz : Nat) : Nat → Nat → Prop
  | 0, pl => d.length < pl + 5
  | f + 1, pl => d.length < pl + 5 ∨ (kindAt d pl = 1 ∧ 0 < pageNo d pl ∧ pageNo d pl < 4 ∧ OkP d sz f (pl + 5 + sz)) ∨ (kindAt d pl = 2 ∧ OkP d sz f (pl + 5)) ∨ (kindAt d pl = 3 ∧ OkP d sz f (pl + 5))
theorem OkP.ok : ∀ {f pl : Nat}, OkP d sz f pl → Ok d sz f pl
  | 0, _, h => h
  | _ + 1, _, h => by
    rcases h with z | ⟨z, _, _, y⟩ | ⟨z, y⟩ | ⟨z, y⟩
    · exact .inl z
    · exact .inr (.inl ⟨z, y.ok⟩)
    · exact .inr (.inr (.inl ⟨z, y.ok⟩))
    · exact .inr (.inr (.inr ⟨z, y.ok⟩))
theorem lock : ∀ {f pl : Nat} {K C : List (Int × Int)} {K' C' : List (Int × List UInt8)}, OkP d sz f pl → (AP d sz K K' ∨ d.length < pl + 5) → AP d sz C C' → AP d sz (scan d sz f pl K C) (recv d sz f pl K' C')
  | 0, _, _, _, _, _, _, _, h => h
  | f + 1, pl, K, C, K', C', ok, hK, hC => by
    rw [scan_succ, recv_succ]
    by_cases hr : d.length < pl + 5
    · rw [if_pos hr, if_pos hr]; exact hC
    · rw [if_neg hr, if_neg hr]
      have hK := hK.resolve_right hr
      rcases ok with z | ⟨z, p0, p4, y⟩ | ⟨z, y⟩ | ⟨z, y⟩
      · exact absurd z hr
      · rw [if_pos z, if_pos z]
        refine lock y ?_ hC
        by_cases ht : d.length < pl + 5 + sz
        · exact .inr (by omega)
        · rw [show ((pl : Int) + 5) = ((pl + 5 : Nat) : Int) by omega]
          exact .inl (hK.put p0 p4 (by omega) (by omega))
      · rw [if_neg (by rw [z]; decide), if_pos z, if_neg (by rw [z]; decide), if_pos z]
        exact lock y (.inl .nil) (hK.merge hC)
      · rw [if_neg (by rw [z]; decide), if_neg (by rw [z]; decide), if_neg (by rw [z]; decide), if_neg (by rw [z]; decide)]
        exact lock y (.inl .nil) hC
end
/-- one frame -/
def Frame1 (sz : Nat) (x : List UInt8) : Prop := (∃ pg e, 0 < pg ∧ pg < 4 ∧ e.length = sz ∧ x = leB 1 1 ++ leB 4 pg ++ e) ∨ x = leB 1 2 ++ leB 4 0 ∨ x = leB 1 3 ++ leB 4 0
theorem head5 {l x r : List UInt8} {cut p : Nat} {k pg : Int} (hp : (l.take p).length = p) (hl : l.drop p = leB 1 k ++ leB 4 pg ++ x ++ r) (hc : ¬ (l.take cut).length < p + 5) (k0 : 0 ≤ k) (k1 : k < 256) (p0 : 0 ≤ pg) (p1 : pg < 4294967296) :
    kindAt (l.take cut) p = k ∧ pageNo (l.take cut) p = pg := by
  have hcut : p + 5 ≤ cut := by rw [List.length_take] at hc; omega
  have e : ((l.take cut).drop p).take 5 = leB 1 k ++ leB 4 pg := by
    rw [List.drop_take, List.take_take, show min 5 (cut - p) = 5 by omega, hl, List.append_assoc, List.take_append_of_le_length (by simp [leB_length]), List.take_of_length_le (by simp [leB_length])]
  unfold kindAt pageNo
  rw [e]
  refine ⟨?_, ?_⟩
  · rw [List.take_append_of_le_length (by simp [leB_length]), List.take_of_length_le (by simp [leB_length])]
    exact leInt_leB1 k0 k1
  · rw [List.drop_append_of_le_length (by simp [leB_length]), List.drop_of_length_le (by simp [leB_length]), List.nil_append, List.take_of_length_le (by simp [leB_length])]
    exact leInt_leB4 p0 p1
theorem okP_take {sz cut : Nat} : ∀ {fs : List (List UInt8)} {pre : List UInt8}, (∀ x ∈ fs, Frame1 sz x) → OkP ((pre ++ fs.flatten).take cut) sz fs.length pre.length
  | [], pre, _ => by
    show ((pre ++ []).take cut).length < pre.length + 5
    rw [List.append_nil, List.length_take]; omega
  | x :: fs, pre, h => by
    show _ ∨ _
    by_cases hr : ((pre ++ (x :: fs).flatten).take cut).length < pre.length + 5
    · exact .inl hr
    · have hd : (pre ++ (x :: fs).flatten).drop pre.length = x ++ fs.flatten := by rw [List.drop_left, List.flatten_cons]
      have hp : ((pre ++ (x :: fs).flatten).take pre.length).length = pre.length := by rw [List.take_left]
      have ih := okP_take (sz := sz) (cut := cut) (fs := fs) (pre := pre ++ x) fun y hy => h y (.tail _ hy)
      rw [List.append_assoc, ← List.flatten_cons] at ih
      rcases h x (.head _) with ⟨pg, e, h0, h4, he, rfl⟩ | rfl | rfl
      · obtain ⟨e1, e2⟩ := head5 (k := 1) (pg := pg) (x := e) (r := fs.flatten) hp hd hr (by decide) (by decide) (by omega) (by omega)
        refine .inr (.inl ⟨e1, by rw [e2]; exact h0, by rw [e2]; exact h4, ?_⟩)
        rw [show (pre ++ (leB 1 1 ++ leB 4 pg ++ e)).length = pre.length + 5 + sz by simp [leB_length, he]; omega] at ih
        exact ih
      · obtain ⟨e1, e2⟩ := head5 (k := 2) (pg := 0) (x := []) (r := fs.flatten) hp (by rw [hd, List.append_nil]) hr (by decide) (by decide) (by omega) (by omega)
        refine .inr (.inr (.inl ⟨e1, ?_⟩))
        rw [show (pre ++ (leB 1 2 ++ leB 4 0)).length = pre.length + 5 by simp [leB_length]] at ih
        exact ih
      · obtain ⟨e1, e2⟩ := head5 (k := 3) (pg := 0) (x := []) (r := fs.flatten) hp (by rw [hd, List.append_nil]) hr (by decide) (by decide) (by omega) (by omega)
        refine .inr (.inr (.inr ⟨e1, ?_⟩))
        rw [show (pre ++ (leB 1 3 ++ leB 4 0)).length = pre.length + 5 by simp [leB_length]] at ih
        exact ih
end

/-! ### VNextK -/
theorem fresh48 {M : Model} {A : Around} {env : Env} {Q : Flow → Shared → Prop} {E : Value → Shared → Prop} {s : Shared} (h : Q .next s) : wpAny M A (execs [] env) Q E s := by
  w_top off
  (try walk1)
  all_goals first | exact h | exact wpAny_execs_nil h
section
section
variable {w : World} {A A₀ : Around} {s : Shared} {base h₀ : Heap} {outer : List Env} {env : Env} {L : Addr} {m : Str → Option Value} {p : Program} {loose : List Str} {mean : ExcName → Option Value} {mg mb : Str → Option Value}
  {Q : Value → Shared → Prop} {E : Value → Shared → Prop} {news : List (Addr × Obj)} {g : Obj → List (Addr × Obj)}
theorem next_K (B : Below A₀ base outer h₀) (X : (Mine.hd.heap_39 w.params).In base) (T : Top p loose mean mg mb base) (F : Fr h₀ L s.heap m) (N : News h₀ L s.heap news)
    (hA : A.frames = some (env :: outer)) (hf : env.frame = some L) (hke : env.scope.kind = .function) (hh : A.handled = none) (hroom : A.depth + 20 < recursionLimit)
    {S Sc : Addr} {i lim : Int} {ti tl : Tok} {xs : List Int} {vs : List Value} {c1 c2 : Nat} (U : UpdF S (W.listOf #[.ref Sc, .int i ti] c1) news g) (m2 : (Sc, W.listOf vs.toArray c2) ∈ news) (hne : @Ne Nat S Sc) (hi : 0 ≤ i) (hlim : 0 < lim) (hxs : IntsAre vs xs) (hxz : xs.length ≤ 1000)
    (h : ∀ h' t' i' ti' c1' r tr, Fr h₀ L h' m → News h₀ L h' (g (W.listOf #[.ref Sc, .int i' ti'] c1')) → 0 ≤ i' → 0 ≤ r → r < lim → Q (.int r tr) { s with heap := h', toks := t' }) :
    wpAny (model PySem.Challenge.rw_vq0002_01.row.prog w) A (call (.ref 205) [.ref S, .int lim tl]) Q E s :=
  wpAny_call (next_c (call_below B F hA hf hke) X T hh hroom hne hi hlim hxs hxz (call_foot B N hf (subC (updF_mem U) (sub1 m2))) fun h' t' i' ti' c1' r tr k ho i0 r0 r1 =>
    h h' t' i' ti' c1' r tr (back_fr F N k (mods1 (updF_mem U))) (back_upd N U k ho) i0 r0 r1)
theorem log_N (B : Below A₀ base outer h₀) (X : (Mine.hd.heap_39 w.params).In base) (T : Top p loose mean mg mb base) (F : Fr h₀ L s.heap m) (N : News h₀ L s.heap news)
    (hA : A.frames = some (env :: outer)) (hf : env.frame = some L) (hke : env.scope.kind = .function) (hh : A.handled = none) (hg : A.guards = some []) (hroom : A.depth + 40 < recursionLimit) (Z : Nd news)
    {e : List UInt8} {te : Tok} (he : 0 < e.length) (hz : e.length ≤ 1000000)
    (h : ∀ h' t' x dx b t1 t2 t3, Fr h₀ L h' m → News h₀ L h' (logL w x dx b e.length t1 t2 t3 e ++ news) → Nd (logL w x dx b e.length t1 t2 t3 e ++ news) → Q (.ref x) { s with heap := h', toks := t' }) :
    wpN (model PySem.Challenge.rw_vq0002_01.row.prog w) A (call (.ref 212) [.bytes e.toArray te]) Q E s := by
  refine n_call (log_c (call_below B F hA hf hke) X T hh hg hroom he hz fun h' t' fx fdx b t1 t2 t3 k ga gn nd => ?_)
  refine h h' t' fx fdx b t1 t2 t3 (back_fr F N k fun _ z => nomatch z) (back_new N F k fun q hq => ?_) ?_
  · rcases List.mem_append.mp hq with z | z
    · exact .inr ⟨ga q z, .inr (gn q z)⟩
    · exact .inl ⟨z, fun z => nomatch z⟩
  · have n1 := alive_no N (gn (fx, instObj 194 fdx) (.head _))
    have n2 := alive_no N (gn (fdx, octD w.params b e.length t1 t2 t3) (.tail _ (.head _)))
    have n3 := alive_no N (gn (b, baObj e.toArray) (.tail _ (.tail _ (.head _))))
    unfold Nd
    simp only [List.map_append, List.map_cons, List.map_nil, List.cons_append, List.nil_append]
    dsimp only at n1 n2 n3
    grind
end
theorem isList_keep {h g : Heap} {a : Addr} {vs : Array Value} (K : Keep [] h g) (x : h.IsList a vs) : g.IsList a vs := by
  obtain ⟨o, ho, r⟩ := x
  exact ⟨o, K _ _ ho (fun z => nomatch z), r⟩
theorem nd_dec4 {a b c d : Nat} (h1 : b < a) (h2 : c < b) (h3 : d < c) : [a, b, c, d].Nodup := by
  simp only [List.nodup_cons, List.mem_cons, List.not_mem_nil, or_false, not_or, List.nodup_nil, and_true, not_false_eq_true]
  omega
theorem nd_tp {w : World} {fx fdx b tp : Addr} {pl : Int} {t1 t2 t3 : Tok} {d : List UInt8} {o : Obj} {rest : List (Addr × Obj)} (Z : Nd (logL w fx fdx b pl t1 t2 t3 d ++ rest)) (h : (tp : Nat) ∉ ((logL w fx fdx b pl t1 t2 t3 d ++ rest).map (·.1) : List Nat)) :
    Nd (logL w fx fdx b pl t1 t2 t3 d ++ (tp, o) :: rest) := by
  unfold Nd at *
  simp only [List.map_append, List.map_cons, List.map_nil, List.cons_append, List.nil_append] at *
  grind
theorem nd_sub {l l' : List (Addr × Obj)} (Z : Nd l) (h : List.Sublist (l'.map (·.1)) (l.map (·.1))) : Nd l' := List.Nodup.sublist h Z
end
local macro_rules | `(tactic| walk_at "call ref") => `(tactic| (k_here; (try dsimp only [List.cons_append, List.nil_append]); (with_reducible show wpAny _ _ (call (Value.ref 205) [Value.ref _, Value.int _ _]) _ _ _); (with_reducible rename Fr _ _ _ _ => F'); (with_reducible rename News _ _ _ _ => N'); k_dflt (refine' next_K ?B ?X ?T F' N' rfl rfl rfl rfl ?room ?U ?m2 ?ne ?i0 ?lim ?xs ?xz ?_; (case B => assumption); (case X => assumption); (case T => assumption); (case room => k_room); (case U => k_updF); (case m2 => k_mem); (case ne => walk_at "MINE ne"); (case i0 => assumption); (case lim => first | decide | omega); (case xs => assumption); (case xz => assumption); k_whole); intro h' t' i' ti' c1' r' tr' F' N' i0' r0' r1'; (try k_sweep)))

/-! ### VRng -/
theorem fresh49 {M : Model} {A : Around} {env : Env} {Q : Flow → Shared → Prop} {E : Value → Shared → Prop} {s : Shared} (h : Q .next s) : wpAny M A (execs [] env) Q E s := by
  w_top off
  (try walk1)
  all_goals first | exact h | exact wpAny_execs_nil h
section
section
variable {prog : Program} {w : World} {A : Around} {s : Shared} {R : Result → Shared → Prop} {env : Env} {x : Str} {px : Pos} {body : List Stmt} {I : Addr} {a : Int} {n : Nat}
/-- a for over a range, its body in N -/
theorem c_range (hh : A.handled = none) (Inv : Nat → Shared → Prop) (hI : ∀ (i : Nat) s, Inv i s → s.heap.get? I = some (itR (a + (i : Int)) ((n : Int) - (i : Int))))
    (hstep : ∀ (i : Nat) s h' tk t, i < n → Inv i s → h'.get? I = some (itR (a + ((i + 1 : Nat) : Int)) ((n : Int) - ((i + 1 : Nat) : Int))) → (∀ b o, b ≠ I → s.heap.get? b = some o → h'.get? b = some o) →
      wpAny (model prog w) A (storeName env x (.int (a + (i : Int)) t)) (fun _ s₂ => wpN (model prog w) A (execs body env) (fun f s₃ => match f with
        | .next => Inv (i + 1) s₃ | .cont => Inv (i + 1) s₃ | .brk => False | .ret v => R (.ok (.ret v)) s₃) (notedBy (model prog w) A env fun e s' => R (.error e) s') s₂) (notedBy (model prog w) A env fun e s' => R (.error e) s') { s with heap := h', toks := tk })
    (hend : ∀ s h' tk, Inv n s → (∀ b o, b ≠ I → s.heap.get? b = some o → h'.get? b = some o) → R (.ok .next) { s with heap := h', toks := tk }) :
    ∀ k i s, n - i = k → i ≤ n → Inv i s → codeN (model prog w) A (.forLoop (.Name x px) (.ref I) body [] env) R s := by
  have W := LCg.range_walks (prog := prog) (w := w) (A := A) (I := I) hh a n
  have st : ∀ (i : Nat) (h : Heap), h.get? I = some (itR (a + (i : Int)) ((n : Int) - (i : Int))) → IsRangeIter h I (a + (i : Nat) * 1) ((n : Int) - (i : Nat)) 1 := fun i h e => by
    rw [Int.mul_one]; exact e
  have ts : ∀ (i : Nat) (h : Heap), IsRangeIter h I (a + (i : Nat) * 1) ((n : Int) - (i : Nat)) 1 → h.get? I = some (itR (a + (i : Int)) ((n : Int) - (i : Int))) := fun i h e => by
    rw [Int.mul_one] at e; exact e
  intro k
  induction k with
  | zero =>
    intro i s hk hi hInv
    obtain rfl : i = n := by omega
    refine c_forTurn ?_
    refine W.done s _ _ (st _ _ (hI _ _ hInv)) fun h' tk kp => ?_
    exact wpAny_execs_nil (hend s h' tk hInv fun b o nb e => kp b o (fun z => nb (List.mem_singleton.mp z)) e)
  | succ k ih =>
    intro i s hk hi hInv
    refine c_forTurn ?_
    refine W.item i s _ _ (by omega) (st _ _ (hI _ _ hInv)) fun v h' tk hv hst kp => ?_
    obtain ⟨t, rfl⟩ := hv
    refine wpAny_assign_Name (wpAny_mono (hstep i s h' tk t (by omega) hInv (ts _ _ hst) fun b o nb e => kp b o (fun z => nb (List.mem_singleton.mp z)) e) (fun _ s₂ h₂ => n_mono h₂ (fun f s₃ h₃ => ?_) fun _ _ x => x) fun _ _ x => x)
    cases f with
    | next => exact ih (i + 1) s₃ (by omega) (by omega) h₃
    | cont => exact ih (i + 1) s₃ (by omega) (by omega) h₃
    | brk => exact h₃.elim
    | ret v => exact h₃
end
end

/-! ### VMkW2 -/
theorem fresh50 {M : Model} {A : Around} {env : Env} {Q : Flow → Shared → Prop} {E : Value → Shared → Prop} {s : Shared} (h : Q .next s) : wpAny M A (execs [] env) Q E s := by
  w_top off
  (try walk1)
  all_goals first | exact h | exact wpAny_execs_nil h
section
section
variable {w : World} {A A₀ : Around} {s : Shared} {base h₀ : Heap} {outer : List Env} {env : Env} {L : Addr} {m : Str → Option Value} {p : Program} {loose : List Str} {mean : ExcName → Option Value} {mg mb : Str → Option Value}
  {Q : Value → Shared → Prop} {E : Value → Shared → Prop} {rest : List (Addr × Obj)} {fx fdx b tp o1 : Addr} {pl : Int} {t1 t2 t3 ts : Tok} {d : List UInt8} {sz : Nat}
theorem walE_N2 (B : Below A₀ base outer h₀) (X : (Mine.hd.heap_39 w.params).In base) (T : Top p loose mean mg mb base) (F : Fr h₀ L s.heap m) {q1 q2 q3 : Addr × Obj} (N : News h₀ L s.heap ((tp, tupObj [.ref o1, .ref fx]) :: q1 :: q2 :: q3 :: (fx, instObj 194 fdx) :: (fdx, octD w.params b pl t1 t2 t3) :: (b, baObj d.toArray) :: rest))
    (hA : A.frames = some (env :: outer)) (hf : env.frame = some L) (hke : env.scope.kind = .function) (hh : A.handled = none) (hg : A.guards = some []) (hroom : A.depth + 80 < recursionLimit)
    (Z : Nd ((fx, instObj 194 fdx) :: (fdx, octD w.params b pl t1 t2 t3) :: (b, baObj d.toArray) :: rest)) (LL : AllLt tp (q1 :: q2 :: q3 :: (fx, instObj 194 fdx) :: (fdx, octD w.params b pl t1 t2 t3) :: (b, baObj d.toArray) :: rest)) (hsz : sz ≤ 1000) (hd0 : d.length = 0)
    (h : ∀ h' t' x dx c n k1 k2 k3 k4 k5 k6 t3' oC oN, Fr h₀ L h' m → News h₀ L h' (walL w x dx fx fdx b c n sz 4 false k1 k2 k3 k4 k5 k6 ts t1 t2 t3' (leB 4 sz) oC oN ++ rest) →
      Nd (walL w x dx fx fdx b c n sz 4 false k1 k2 k3 k4 k5 k6 ts t1 t2 t3' (leB 4 sz) oC oN ++ rest) → oC.IsDictOf (kn w) [] → oN.IsDictOf (kn w) [] → (c == sysModules) = false → (n == sysModules) = false → Q (.ref x) { s with heap := h', toks := t' }) :
    wpN (model PySem.Challenge.rw_vq0002_01.row.prog w) A (call (.ref 144) [.ref tp, .int sz ts]) Q E s :=
  walE_N B X T F (rest := rest) (fun q hq => by
    rcases List.mem_cons.mp hq with rfl | hq
    · exact N _ (.tail _ (.tail _ (.tail _ (.tail _ (.head _)))))
    · rcases List.mem_cons.mp hq with rfl | hq
      · exact N _ (.tail _ (.tail _ (.tail _ (.tail _ (.tail _ (.head _))))))
      · rcases List.mem_cons.mp hq with rfl | hq
        · exact N _ (.tail _ (.tail _ (.tail _ (.tail _ (.tail _ (.tail _ (.head _)))))))
        · rcases List.mem_cons.mp hq with rfl | hq
          · exact N _ (.head _)
          · exact N _ (.tail _ (.tail _ (.tail _ (.tail _ (.tail _ (.tail _ (.tail _ hq)))))))) hA hf hke hh hg hroom
    (nd_tp Z (low_no fun q hq => allLt_mem LL q (.tail _ (.tail _ (.tail _ hq))))) hsz hd0 h
theorem walL_N2 (B : Below A₀ base [] h₀) (X : (Mine.hd.heap_39 w.params).In base) (T : Top p loose mean mg mb base) (F : Fr h₀ L s.heap m) {q1 q2 q3 : Addr × Obj} (N : News h₀ L s.heap ((tp, tupObj [.ref o1, .ref fx]) :: q1 :: q2 :: q3 :: (fx, instObj 194 fdx) :: (fdx, octD w.params b pl t1 t2 t3) :: (b, baObj d.toArray) :: rest))
    (hA : A.frames = some [env]) (hf : env.frame = some L) (hke : env.scope.kind = .function) (hh : A.handled = none) (hg : A.guards = some []) (hroom : A.depth + 90 < recursionLimit)
    (Z : Nd ((fx, instObj 194 fdx) :: (fdx, octD w.params b pl t1 t2 t3) :: (b, baObj d.toArray) :: rest)) (LL : AllLt tp (q1 :: q2 :: q3 :: (fx, instObj 194 fdx) :: (fdx, octD w.params b pl t1 t2 t3) :: (b, baObj d.toArray) :: rest)) (hs : 0 < sz) (hsz : sz ≤ 1000) (hz : d.length ≤ 1000000) (hin : 4 ≤ d.length) (hsd : leInt (d.take 4) = sz) {f : Nat} (hf' : f ≤ 900) (hok : Ok d sz f 4)
    (h : ∀ h' t' x dx c n k1 k2 k3 k4 k5 k6 t3' oC oN pl' kc, 0 ≤ pl' → Fr h₀ L h' m → News h₀ L h' (walL w x dx fx fdx b c n sz pl' true k1 k2 k3 k4 k5 k6 ts t1 t2 t3' d oC oN ++ rest) →
      Nd (walL w x dx fx fdx b c n sz pl' true k1 k2 k3 k4 k5 k6 ts t1 t2 t3' d oC oN ++ rest) → oC.IsDictOf (kn w) kc → Ints kc (scan d sz f 4 [] []) → oN.IsDictOf (kn w) [] → (c == sysModules) = false → (n == sysModules) = false → Q (.ref x) { s with heap := h', toks := t' }) :
    wpN (model PySem.Challenge.rw_vq0002_01.row.prog w) A (call (.ref 144) [.ref tp, .int sz ts]) Q E s :=
  walL_N B X T F (rest := rest) (fun q hq => by
    rcases List.mem_cons.mp hq with rfl | hq
    · exact N _ (.tail _ (.tail _ (.tail _ (.tail _ (.head _)))))
    · rcases List.mem_cons.mp hq with rfl | hq
      · exact N _ (.tail _ (.tail _ (.tail _ (.tail _ (.tail _ (.head _))))))
      · rcases List.mem_cons.mp hq with rfl | hq
        · exact N _ (.tail _ (.tail _ (.tail _ (.tail _ (.tail _ (.tail _ (.head _)))))))
        · rcases List.mem_cons.mp hq with rfl | hq
          · exact N _ (.head _)
          · exact N _ (.tail _ (.tail _ (.tail _ (.tail _ (.tail _ (.tail _ (.tail _ hq)))))))) hA hf hke hh hg hroom
    (nd_tp Z (low_no fun q hq => allLt_mem LL q (.tail _ (.tail _ (.tail _ hq))))) hs hsz hz hin hsd hf' hok h
end
theorem size_nat {r : Int} (h1 : r < 4) (h0 : 0 ≤ r) : ∃ sz : Nat, 3 + r = (sz : Int) ∧ 3 ≤ sz ∧ sz ≤ 6 := ⟨(3 + r).toNat, by omega, by omega, by omega⟩
end

/-! ### VLawS -/
theorem fresh51 {M : Model} {A : Around} {env : Env} {Q : Flow → Shared → Prop} {E : Value → Shared → Prop} {s : Shared} (h : Q .next s) : wpAny M A (execs [] env) Q E s := by
  w_top off
  (try walk1)
  all_goals first | exact h | exact wpAny_execs_nil h
section
/-- what the law holds between two deeds -/
def LawStP (Pm : (Str → Option Value) → Prop) (w : World) (s0 : Shared) (gH : Heap) (L S Sc cs cz St : Addr) (oc oz : Obj) (ws : List Value) (c2 sz kk : Nat) (mid : List (Addr × Obj)) (s' : Shared) : Prop :=
  ∃ (hp : Heap) (tk : Nat) (gens : Array GenState) (m : Str → Option Value) (x dx fx fdx b c n Su Lo : Addr) (pl : Int) (nr : Bool) (k1 k2 k3 k4 k5 k6 ts t1 t2 t3 td th ti : Tok) (i : Int) (c1 : Nat) (fs : List (List UInt8)) (oC oN oS oL oT : Obj) (kc kv kS kL kT : List (Int × Value))
    (C K : List (Int × Int)) (SS LL TT : List (Int × List UInt8)), s' = { s0 with heap := hp, toks := tk, gens := gens } ∧ (∀ y ∈ gens, y.bare = true) ∧ Fr gH L hp m ∧
    News gH L hp (walL w x dx fx fdx b c n sz pl nr k1 k2 k3 k4 k5 k6 ts t1 t2 t3 (leB 4 sz ++ fs.flatten) oC oN ++ ((S, W.listOf #[.ref Sc, .int i ti] c1) :: (Sc, W.listOf ws.toArray c2) :: (cs, oc) :: (cz, oz) :: (St, oT) :: (Su, oS) :: (Lo, oL) :: mid)) ∧
    Nd (walL w x dx fx fdx b c n sz pl nr k1 k2 k3 k4 k5 k6 ts t1 t2 t3 (leB 4 sz ++ fs.flatten) oC oN ++ ((S, W.listOf #[.ref Sc, .int i ti] c1) :: (Sc, W.listOf ws.toArray c2) :: (cs, oc) :: (cz, oz) :: (St, oT) :: (Su, oS) :: (Lo, oL) :: mid)) ∧
    (m (Str.ofString "state") = some (.ref S) ∧ m (Str.ofString "wal") = some (.ref x) ∧ m (Str.ofString "log") = some (.ref fx) ∧ m (Str.ofString "head") = some (.bytes (leB 4 sz).toArray th) ∧ m (Str.ofString "octets") = some (.bytes (leB 4 sz ++ fs.flatten).toArray td) ∧ m (Str.ofString "sure") = some (.ref Su) ∧ m (Str.ofString "loose") = some (.ref Lo)) ∧
    0 ≤ pl ∧ 0 ≤ i ∧ (∀ q ∈ fs, Frame1 sz q) ∧ fs.length ≤ kk ∧ (oC.IsDictOf (kn w) kc ∧ oN.IsDictOf (kn w) kv ∧ oS.IsDictOf (kn w) kS ∧ oL.IsDictOf (kn w) kL ∧ oT.IsDictOf (kn w) kT) ∧
    (Ints kc C ∧ Ints kv K ∧ All2 IsOcts kS SS ∧ All2 IsOcts kL LL ∧ All2 IsOcts kT TT) ∧ AP (leB 4 sz ++ fs.flatten) sz C SS ∧ AP (leB 4 sz ++ fs.flatten) sz K LL ∧ (∀ q ∈ TT, 0 < q.1 ∧ q.1 < 4 ∧ q.2.length = sz) ∧
    ((c == sysModules) = false ∧ (n == sysModules) = false ∧ (Su == sysModules) = false ∧ (Lo == sysModules) = false ∧ (St == sysModules) = false) ∧ Pm m
abbrev LawSt (w : World) (s0 : Shared) (gH : Heap) (L S Sc cs cz St : Addr) (oc oz : Obj) (ws : List Value) (c2 sz kk : Nat) (mid : List (Addr × Obj)) (s' : Shared) : Prop := LawStP (fun _ => True) w s0 gH L S Sc cs cz St oc oz ws c2 sz kk mid s'
theorem lawSt_elim {Pm : (Str → Option Value) → Prop} {w : World} {s0 : Shared} {gH : Heap} {L S Sc cs cz St : Addr} {oc oz : Obj} {ws : List Value} {c2 sz kk : Nat} {mid : List (Addr × Obj)} {s' : Shared} {Cc : Prop} (hI : LawStP Pm w s0 gH L S Sc cs cz St oc oz ws c2 sz kk mid s')
    (kont : ∀ (hp : Heap) (tk : Nat) (gens : Array GenState) (m : Str → Option Value) (x dx fx fdx b c n Su Lo : Addr) (pl : Int) (nr : Bool) (k1 k2 k3 k4 k5 k6 ts t1 t2 t3 td th ti : Tok) (i : Int) (c1 : Nat) (fs : List (List UInt8)) (oC oN oS oL oT : Obj) (kc kv kS kL kT : List (Int × Value))
    (C K : List (Int × Int)) (SS LL TT : List (Int × List UInt8)), (s' = { s0 with heap := hp, toks := tk, gens := gens }) → ((∀ y ∈ gens, y.bare = true)) → (Fr gH L hp m) → (News gH L hp (walL w x dx fx fdx b c n sz pl nr k1 k2 k3 k4 k5 k6 ts t1 t2 t3 (leB 4 sz ++ fs.flatten) oC oN ++ ((S, W.listOf #[.ref Sc, .int i ti] c1) :: (Sc, W.listOf ws.toArray c2) :: (cs, oc) :: (cz, oz) :: (St, oT) :: (Su, oS) :: (Lo, oL) :: mid))) → (Nd (walL w x dx fx fdx b c n sz pl nr k1 k2 k3 k4 k5 k6 ts t1 t2 t3 (leB 4 sz ++ fs.flatten) oC oN ++ ((S, W.listOf #[.ref Sc, .int i ti] c1) :: (Sc, W.listOf ws.toArray c2) :: (cs, oc) :: (cz, oz) :: (St, oT) :: (Su, oS) :: (Lo, oL) :: mid))) → ((m (Str.ofString "state") = some (.ref S) ∧ m (Str.ofString "wal") = some (.ref x) ∧ m (Str.ofString "log") = some (.ref fx) ∧ m (Str.ofString "head") = some (.bytes (leB 4 sz).toArray th) ∧ m (Str.ofString "octets") = some (.bytes (leB 4 sz ++ fs.flatten).toArray td) ∧ m (Str.ofString "sure") = some (.ref Su) ∧ m (Str.ofString "loose") = some (.ref Lo))) → (0 ≤ pl) → (0 ≤ i) → ((∀ q ∈ fs, Frame1 sz q)) → (fs.length ≤ kk) → ((oC.IsDictOf (kn w) kc ∧ oN.IsDictOf (kn w) kv ∧ oS.IsDictOf (kn w) kS ∧ oL.IsDictOf (kn w) kL ∧ oT.IsDictOf (kn w) kT)) → ((Ints kc C ∧ Ints kv K ∧ All2 IsOcts kS SS ∧ All2 IsOcts kL LL ∧ All2 IsOcts kT TT)) → (AP (leB 4 sz ++ fs.flatten) sz C SS) → (AP (leB 4 sz ++ fs.flatten) sz K LL) → ((∀ q ∈ TT, 0 < q.1 ∧ q.1 < 4 ∧ q.2.length = sz)) → (((c == sysModules) = false ∧ (n == sysModules) = false ∧ (Su == sysModules) = false ∧ (Lo == sysModules) = false ∧ (St == sysModules) = false)) → Pm m → Cc) : Cc :=
  Exists.elim hI fun hp hI =>
  Exists.elim hI fun tk hI =>
  Exists.elim hI fun gens hI =>
  Exists.elim hI fun m hI =>
  Exists.elim hI fun x hI =>
  Exists.elim hI fun dx hI =>
  Exists.elim hI fun fx hI =>
  Exists.elim hI fun fdx hI =>
  Exists.elim hI fun b hI =>
  Exists.elim hI fun c hI =>
  Exists.elim hI fun n hI =>
  Exists.elim hI fun Su hI =>
  Exists.elim hI fun Lo hI =>
  Exists.elim hI fun pl hI =>
  Exists.elim hI fun nr hI =>
  Exists.elim hI fun k1 hI =>
  Exists.elim hI fun k2 hI =>
  Exists.elim hI fun k3 hI =>
  Exists.elim hI fun k4 hI =>
  Exists.elim hI fun k5 hI =>
  Exists.elim hI fun k6 hI =>
  Exists.elim hI fun ts hI =>
  Exists.elim hI fun t1 hI =>
  Exists.elim hI fun t2 hI =>
  Exists.elim hI fun t3 hI =>
  Exists.elim hI fun td hI =>
  Exists.elim hI fun th hI =>
  Exists.elim hI fun ti hI =>
  Exists.elim hI fun i hI =>
  Exists.elim hI fun c1 hI =>
  Exists.elim hI fun fs hI =>
  Exists.elim hI fun oC hI =>
  Exists.elim hI fun oN hI =>
  Exists.elim hI fun oS hI =>
  Exists.elim hI fun oL hI =>
  Exists.elim hI fun oT hI =>
  Exists.elim hI fun kc hI =>
  Exists.elim hI fun kv hI =>
  Exists.elim hI fun kS hI =>
  Exists.elim hI fun kL hI =>
  Exists.elim hI fun kT hI =>
  Exists.elim hI fun C hI =>
  Exists.elim hI fun K hI =>
  Exists.elim hI fun SS hI =>
  Exists.elim hI fun LL hI =>
  Exists.elim hI fun TT hI =>
  kont hp tk gens m x dx fx fdx b c n Su Lo pl nr k1 k2 k3 k4 k5 k6 ts t1 t2 t3 td th ti i c1 fs oC oN oS oL oT kc kv kS kL kT C K SS LL TT hI.1 hI.2.1 hI.2.2.1 hI.2.2.2.1 hI.2.2.2.2.1 hI.2.2.2.2.2.1 hI.2.2.2.2.2.2.1 hI.2.2.2.2.2.2.2.1 hI.2.2.2.2.2.2.2.2.1 hI.2.2.2.2.2.2.2.2.2.1 hI.2.2.2.2.2.2.2.2.2.2.1 hI.2.2.2.2.2.2.2.2.2.2.2.1 hI.2.2.2.2.2.2.2.2.2.2.2.2.1 hI.2.2.2.2.2.2.2.2.2.2.2.2.2.1 hI.2.2.2.2.2.2.2.2.2.2.2.2.2.2.1 hI.2.2.2.2.2.2.2.2.2.2.2.2.2.2.2.1 hI.2.2.2.2.2.2.2.2.2.2.2.2.2.2.2.2
theorem fr7 {g h : Heap} {L : Addr} {m : Str → Option Value} {a1 a2 a3 a4 a5 a6 a7 : Str} {v1 v2 v3 v4 v5 v6 v7 : Value} (F : Fr g L h m) (e : m a1 = some v1 ∧ m a2 = some v2 ∧ m a3 = some v3 ∧ m a4 = some v4 ∧ m a5 = some v5 ∧ m a6 = some v6 ∧ m a7 = some v7) :
    Fr g L h (fun y => if y = a1 then some v1 else if y = a2 then some v2 else if y = a3 then some v3 else if y = a4 then some v4 else if y = a5 then some v5 else if y = a6 then some v6 else if y = a7 then some v7 else m y) := by
  obtain ⟨e1, e2, e3, e4, e5, e6, e7⟩ := e
  have : m = (fun y => if y = a1 then some v1 else if y = a2 then some v2 else if y = a3 then some v3 else if y = a4 then some v4 else if y = a5 then some v5 else if y = a6 then some v6 else if y = a7 then some v7 else m y) := by
    funext y
    repeat (split; (rename_i q; rw [q]; assumption))
    rfl
  rw [← this]; exact F
theorem perm_nd {l l' : List (Addr × Obj)} (Z : Nd l) (h : (l'.map (·.1) : List Nat).Perm (l.map (·.1))) : Nd l' := (List.Perm.nodup_iff h).mpr Z
/-- the keys one, two, three: no dict of pages holds more -/
theorem short_keys {l : List Int} (h : l.Nodup) (k : ∀ a ∈ l, 0 < a ∧ a < 4) : l.length ≤ 3 := by
  have key : ∀ (l m : List Int), l.Nodup → (∀ a ∈ l, a ∈ m) → l.length ≤ m.length := by
    intro l
    induction l with
    | nil => intro m _ _; exact Nat.zero_le _
    | cons a t ih =>
      intro m h1 h2
      obtain ⟨n1, n2⟩ := List.nodup_cons.mp h1
      have ha := h2 a (.head _)
      have := ih (m.erase a) n2 fun b hb => (List.mem_erase_of_ne (fun e => n1 (by rw [← e]; exact hb))).mpr (h2 b (.tail _ hb))
      rw [List.length_erase_of_mem ha] at this
      have := List.length_pos_of_mem ha
      rw [List.length_cons]; omega
  refine key l [1, 2, 3] h fun a ha => ?_
  obtain ⟨h1, h2⟩ := k a ha
  simp only [List.mem_cons, List.not_mem_nil, or_false]; omega
theorem dict_nodup {w : World} {o : Obj} {kv : List (Int × Value)} (h : o.IsDictOf (kn w) kv) : (kv.map (·.1)).Nodup := by
  obtain ⟨_, _, _, _, _, _, n⟩ := h
  exact n
theorem AP.keys {d : List UInt8} {sz : Nat} {C : List (Int × Int)} {S : List (Int × List UInt8)} (h : AP d sz C S) : C.map (·.1) = S.map (·.1) := by
  induction h with
  | nil => rfl
  | cons _ _ _ _ _ ih => rw [List.map_cons, List.map_cons, ih]
theorem short_dict {w : World} {o : Obj} {kv : List (Int × Value)} {β : Type} {l : List (Int × β)} {r : Value → β → Prop} (h : o.IsDictOf (kn w) kv) (a : All2 r kv l) (k : ∀ q ∈ l, 0 < q.1 ∧ q.1 < 4) : kv.length ≤ 3 := by
  have := short_keys (dict_nodup h) fun x hx => by
    rw [all2_keys a] at hx
    obtain ⟨q, hq, rfl⟩ := List.mem_map.mp hx
    exact k q hq
  rwa [List.length_map] at this
end

/-! ### VLawR -/
theorem fresh52 {M : Model} {A : Around} {env : Env} {Q : Flow → Shared → Prop} {E : Value → Shared → Prop} {s : Shared} (h : Q .next s) : wpAny M A (execs [] env) Q E s := by
  w_top off
  (try walk1)
  all_goals first | exact h | exact wpAny_execs_nil h
section
section
variable {w : World} {A : Around} {s : Shared} {R : Result → Shared → Prop} {env : Env} {kx : Str} {px : Pos} {body : List Stmt} {gH hp : Heap} {L S Sc cs cz St Su Lo x dx fx fdx b c n : Addr} {m : Str → Option Value} {sz c1 c2 tk nn : Nat} {nr : Bool} {k1 k2 k3 k4 k5 k6 ts t1 t2 t3 td th ti : Tok} {i0 : Int}
  {oc oz oC oN oS oL oT : Obj} {ws : List Value}
theorem law_range (hh : A.handled = none) (F : Fr gH L hp m)
    (N : News gH L hp ((Lo, oL) :: (Su, oS) :: (St, oT) :: (x, instObj 144 dx) :: (dx, walD w.params fx sz c n nr k1 k2 k3 k4 k5 k6 ts) :: (fx, instObj 194 fdx) :: (fdx, octD w.params b 4 t1 t2 t3) :: (b, baObj (leB 4 sz).toArray) :: (c, oC) :: (n, oN) :: (S, W.listOf #[.ref Sc, .int i0 ti] c1) :: (Sc, W.listOf ws.toArray c2) :: (cs, oc) :: [(cz, oz)]))
    (Z : ([x, dx, fx, fdx, b, c, n, S, Sc, cs, cz] : List Nat).Nodup)
    (q1 : ∀ a ∈ ([x, dx, fx, fdx, b, c, n, S, Sc, cs, cz] : List Nat), @LT.lt Nat _ a St) (q2 : ∀ a ∈ ([St, x, dx, fx, fdx, b, c, n, S, Sc, cs, cz] : List Nat), @LT.lt Nat _ a Su) (q3 : ∀ a ∈ ([Su, St, x, dx, fx, fdx, b, c, n, S, Sc, cs, cz] : List Nat), @LT.lt Nat _ a Lo)
    (hm : m (Str.ofString "state") = some (.ref S) ∧ m (Str.ofString "wal") = some (.ref x) ∧ m (Str.ofString "log") = some (.ref fx) ∧ m (Str.ofString "head") = some (.bytes (leB 4 sz).toArray th) ∧ m (Str.ofString "octets") = some (.bytes (leB 4 sz).toArray td) ∧ m (Str.ofString "sure") = some (.ref Su) ∧ m (Str.ofString "loose") = some (.ref Lo))
    (hi : 0 ≤ i0) (hC : oC.IsDictOf (kn w) []) (hN : oN.IsDictOf (kn w) []) (hS : oS.IsDictOf (kn w) []) (hL : oL.IsDictOf (kn w) []) (hT : oT.IsDictOf (kn w) []) (gb : ∀ y ∈ s.gens, y.bare = true)
    (lo1 : (c == sysModules) = false) (lo2 : (n == sysModules) = false) (lo3 : (Su == sysModules) = false) (lo4 : (Lo == sysModules) = false) (lo5 : (St == sysModules) = false)
    (hstep : ∀ (i : Nat) s' h' tk t, i < nn → LawSt w s gH L S Sc cs cz St oc oz ws c2 sz i [(hp.objs.size, itR (0 + (i : Int)) ((nn : Int) - (i : Int)))] s' → h'.get? hp.objs.size = some (itR (0 + ((i + 1 : Nat) : Int)) ((nn : Int) - ((i + 1 : Nat) : Int))) → (∀ b o, b ≠ hp.objs.size → s'.heap.get? b = some o → h'.get? b = some o) →
      wpAny (model PySem.Challenge.rw_vq0002_01.row.prog w) A (storeName env kx (.int (0 + (i : Int)) t)) (fun _ s₂ => wpN (model PySem.Challenge.rw_vq0002_01.row.prog w) A (execs body env) (fun f s₃ => match f with
        | .next => LawSt w s gH L S Sc cs cz St oc oz ws c2 sz (i + 1) [(hp.objs.size, itR (0 + ((i + 1 : Nat) : Int)) ((nn : Int) - ((i + 1 : Nat) : Int)))] s₃
        | .cont => LawSt w s gH L S Sc cs cz St oc oz ws c2 sz (i + 1) [(hp.objs.size, itR (0 + ((i + 1 : Nat) : Int)) ((nn : Int) - ((i + 1 : Nat) : Int)))] s₃ | .brk => False | .ret v => R (.ok (.ret v)) s₃) (notedBy (model PySem.Challenge.rw_vq0002_01.row.prog w) A env fun e s' => R (.error e) s') s₂) (notedBy (model PySem.Challenge.rw_vq0002_01.row.prog w) A env fun e s' => R (.error e) s') { s' with heap := h', toks := tk })
    (hend : ∀ s' h' tk, LawSt w s gH L S Sc cs cz St oc oz ws c2 sz nn [(hp.objs.size, itR (0 + (nn : Int)) ((nn : Int) - (nn : Int)))] s' → (∀ b o, b ≠ hp.objs.size → s'.heap.get? b = some o → h'.get? b = some o) → R (.ok .next) { s' with heap := h', toks := tk }) :
    codeN (model PySem.Challenge.rw_vq0002_01.row.prog w) A (.forLoop (.Name kx px) (.ref hp.objs.size) body [] env) R { s with heap := hp.push (itR 0 nn), toks := tk } := by
  refine c_range (a := 0) (n := nn) hh (fun i s' => LawSt w s gH L S Sc cs cz St oc oz ws c2 sz i [(hp.objs.size, itR (0 + (i : Int)) ((nn : Int) - (i : Int)))] s') (fun i s' hI => ?_) hstep hend nn 0 _ rfl (Nat.zero_le _) ?_
  · refine lawSt_elim hI fun hp' tk' gens' m' x' dx' fx' fdx' b' c' n' Su' Lo' pl' nr' k1' k2' k3' k4' k5' k6' ts' t1' t2' t3' td' th' ti' i' c1' fs' oC' oN' oS' oL' oT' kc' kv' kS' kL' kT' C' K' SS' LL' TT' e _ _ N' _ _ _ _ _ _ _ _ _ _ _ _ _ => ?_
    subst e
    exact (N' (hp.objs.size, _) (List.mem_append_right _ (by k_mem))).1
  · have N4 := News.push F N (itR 0 nn)
    have c1' := low_no (fun q hq => Heap.lt_size (N q hq).1)
    simp only [List.map_cons, List.map_nil] at c1'
    have nSt : (St : Nat) ∉ ([x, dx, fx, fdx, b, c, n, S, Sc, cs, cz] : List Nat) := fun z => Nat.lt_irrefl _ (q1 _ z)
    have nSu : (Su : Nat) ∉ ([St, x, dx, fx, fdx, b, c, n, S, Sc, cs, cz] : List Nat) := fun z => Nat.lt_irrefl _ (q2 _ z)
    have nLo : (Lo : Nat) ∉ ([Su, St, x, dx, fx, fdx, b, c, n, S, Sc, cs, cz] : List Nat) := fun z => Nat.lt_irrefl _ (q3 _ z)
    have Zf : ([hp.objs.size, Lo, Su, St, x, dx, fx, fdx, b, c, n, S, Sc, cs, cz] : List Nat).Nodup := List.nodup_cons.mpr ⟨c1', List.nodup_cons.mpr ⟨nLo, List.nodup_cons.mpr ⟨nSu, List.nodup_cons.mpr ⟨nSt, Z⟩⟩⟩⟩
    refine ⟨_, tk, s.gens, m, x, dx, fx, fdx, b, c, n, Su, Lo, 4, nr, k1, k2, k3, k4, k5, k6, ts, t1, t2, t3, td, th, ti, i0, c1, [], oC, oN, oS, oL, oT, [], [], [], [], [], [], [], [], [], [], rfl, gb, F.push _, fun q hq => N4 q ?_, ?_, ?_, by decide, hi, fun q hq => by (cases hq), Nat.le_refl _, ⟨hC, hN, hS, hL, hT⟩, ⟨.nil, .nil, .nil, .nil, .nil⟩, .nil, .nil, fun q hq => by (cases hq), ⟨lo1, lo2, lo3, lo4, lo5⟩, trivial⟩
    · revert q
      rw [List.flatten_nil, List.append_nil]
      unfold walL
      simp only [List.cons_append, List.nil_append]
      walk_at "MINE subs"
    · unfold Nd
      rw [List.flatten_nil, List.append_nil]
      simp only [List.map_append, List.map_cons, List.map_nil, List.cons_append, List.nil_append]
      refine (List.Perm.nodup_iff (l₂ := [hp.objs.size, Lo, Su, St] ++ [x, dx, fx, fdx, b, c, n, S, Sc, cs, cz]) ?_).mpr Zf
      refine List.Perm.trans (l₂ := [x, dx, fx, fdx, b, c, n, S, Sc, cs, cz] ++ [St, Su, Lo, hp.objs.size]) (List.Perm.refl _) ?_
      refine List.perm_append_comm.trans (List.Perm.append_right _ ?_)
      exact (List.reverse_perm [hp.objs.size, Lo, Su, St]).trans (List.Perm.refl _)
    · rw [List.flatten_nil, List.append_nil]; exact hm
end
end

/-! ### VOps -/
theorem fresh53 {M : Model} {A : Around} {env : Env} {Q : Flow → Shared → Prop} {E : Value → Shared → Prop} {s : Shared} (h : Q .next s) : wpAny M A (execs [] env) Q E s := by
  w_top off
  (try walk1)
  all_goals first | exact h | exact wpAny_execs_nil h
section
section
variable {prog : Program} {w : World} {A : Around} {E : Value → Shared → Prop} {s : Shared} {h₀ : Heap} {L d d₂ : Addr} {m : Str → Option Value} {news : List (Addr × Obj)} {o o₂ : Obj} {kvs more : List (Int × Value)}
/-- a copy of a dict with whole numbers as keys -/
theorem copy_of {id : String} {Q : Value → Shared → Prop} (hm : s.heap.DictOf (intKind prog w) d kvs) (hd : (d == sysModules) = false) (hsz : kvs.length ≤ sizeLine)
    (h : ∀ h', h'.DictOf (intKind prog w) s.heap.objs.size kvs → (∀ b o, s.heap.get? b = some o → h'.get? b = some o) → h'.objs.size = s.heap.objs.size + 1 → Q (.ref s.heap.objs.size) { s with heap := h' }) :
    wpAny (model prog w) A (Builtin.Dict.copyOf id (.ref d)) Q E s := by
  have hm0 := hm
  obtain ⟨o, es, ep, ho, hc, hdat, hk, hp, hn⟩ := hm0
  have hes : es.size ≤ sizeLine + 1 := by have e1 := hp.length; have e2 : es.toList.length = es.size := by simp
                                          omega
  unfold Builtin.Dict.copyOf
  refine wpAny_bind (wpAny_pure ?_)
  unfold Builtin.Dict.showsAll
  rw [if_neg (by rw [hd]; exact Bool.false_ne_true)]
  refine wpAny_bind (wpAny_pure ?_)
  refine wpAny_bind (wpAny_dictEntries ho hdat ?_)
  have fin : ∀ es' : Array DictEntry, es' = es → Q (.ref s.heap.objs.size) { s with heap := s.heap.push { cls := .type "dict", data := .dict es' } } := by
    rintro es' rfl
    exact h _ ⟨_, es', 0, Heap.get?_push_size _ rfl, ⟨rfl, rfl, rfl⟩, rfl, hk, hp, hn⟩ (fun b o' e => Heap.get?_push_of_some _ e) (Heap.size_push ..)
  by_cases hemp : es.isEmpty = true
  · rw [if_pos hemp]
    refine wpAny_bind (wpAny_rule (wpAny_newObj_type ?_))
    exact fin #[] (Array.isEmpty_iff.mp hemp).symm
  · rw [if_neg hemp]
    refine wpAny_bind ?_
    unfold Builtin.Dict.readDirectly
    refine wpAny_bind (wpAny_isInstance hm.typeIs isSubtype_dict_dict ?_)
    simp only [Bool.not_true, Bool.false_eq_true, if_false]
    refine wpAny_bind (wpAny_specialOf hm.typeIs F.slot_dict_iter.lookup (wpAny_pure ?_))
    simp only [beq_self_eq_true, if_true]
    refine wpAny_bind (wpAny_entriesForEmpty (knd := intKind prog w) ho hdat hk (wpAny_newObj_type ?_ hes))
    exact fin es rfl
theorem dict_orK {Q : Value → Shared → Prop} (F₀ : Fr h₀ L s.heap m) (N : News h₀ L s.heap news) (m1 : (d, o) ∈ news) (hd : o.IsDictOf (intKind prog w) kvs) (m2 : (d₂, o₂) ∈ news) (hd₂ : o₂.IsDictOf (intKind prog w) more)
    (lo : (d == sysModules) = false) (lo2 : (d₂ == sysModules) = false) (hz : kvs.length + more.length ≤ 1000000) (hbig : h₀.NoLimit)
    (h : ∀ D h' o', Fr h₀ L h' m → News h₀ L h' ((D, o') :: news) → (∀ q ∈ news, q.1 < D) → (D == sysModules) = false → o'.IsDictOf (intKind prog w) (merged kvs more) → Q (.ref D) { s with heap := h' }) :
    wpAny (model prog w) A (binaryOp .BitOr (.ref d) (.ref d₂)) Q E s := by
  have hD : s.heap.DictOf (intKind prog w) d kvs := kda_dict N m1 hd
  have hD2 : s.heap.DictOf (intKind prog w) d₂ more := kda_dict N m2 hd₂
  refine wpAny_binaryOp_same (T := "dict") hD.typeIs hD2.typeIs PySem.F.fills_dict_or PySem.F.slot_dict_or (wpAny_call_entry PySem.F.slot_dict_or hD.typeIs PySem.F.entry_dict_or ?_ (PySem.F.args_dict_or_2 _ _))
  show wpAny _ _ (Builtin.Dict.dictSlotArgs "__or__" ⟨[.ref d, .ref d₂], []⟩ >>= _) _ _ s
  refine wpAny_bind ?_
  unfold Builtin.Dict.dictSlotArgs
  refine wpAny_bind (wpAny_notOrdered_dict hD.typeIs ?_)
  show wpAny _ _ (pure (Value.ref d, Value.ref d₂)) _ _ s
  refine wpAny_pure ?_
  dsimp only
  refine wpAny_bind ?_
  refine wpAny_bind (wpAny_isInstance hD.typeIs isSubtype_dict_dict ?_)
  refine wpAny_isInstance hD2.typeIs isSubtype_dict_dict ?_
  refine wpAny_bind (m := Builtin.Dict.copyOf "dict.__or__" (.ref d)) (copy_of hD lo (by rw [sizeLine_eq]; omega) fun h1 hD1 k1 z1 => ?_)
  refine wpAny_bind (m := Builtin.Dict.addrOf (.ref s.heap.objs.size)) (wpAny_pure ?_)
  refine wpAny_holding ?_
  show wpAny _ _ (Builtin.Dict.updateFrom "dict.__or__" s.heap.objs.size (.ref d₂) [] (.ref s.heap.objs.size)) _ _ _
  have hD2' : h1.DictOf (intKind prog w) d₂ more := by
    obtain ⟨o', e1, e2⟩ := Heap.dictOf_iff.mp hD2
    exact Heap.dictOf_iff.mpr ⟨o', k1 _ _ e1, e2⟩
  have hne : s.heap.objs.size ≠ d₂ := Nat.ne_of_gt (Heap.lt_size (N _ m2).1)
  unfold Builtin.Dict.updateFrom
  refine wpAny_bind (wpAny_typeOf hD2'.typeIs ?_)
  rw [if_neg (by decide)]
  refine wpAny_bind ?_
  unfold Builtin.Dict.merge
  refine wpAny_bind ?_
  unfold Builtin.Dict.readDirectly
  refine wpAny_bind (wpAny_isInstance hD2'.typeIs isSubtype_dict_dict ?_)
  simp only [Bool.not_true, Bool.false_eq_true, if_false]
  refine wpAny_bind (wpAny_specialOf hD2'.typeIs PySem.F.slot_dict_iter.lookup (wpAny_pure ?_))
  simp only [beq_self_eq_true, if_true]
  refine wpAny_bind (wpAny_pure ?_)
  refine wpAny_mergeDict (hsz := by rw [sizeLine_eq]; omega) hne lo2 hD1 hD2' fun h' hd' ho' hs' => ?_
  show wpAny _ _ (Builtin.Dict.addKeywords s.heap.objs.size [] >>= _) _ _ _
  refine wpAny_bind (wpAny_pure (wpAny_pure ⟨.ref s.heap.objs.size, rfl, fun e => (by cases e), ?_⟩))
  obtain ⟨oD, x1, x2⟩ := Heap.dictOf_iff.mp hd'
  have kk : ∀ b o, s.heap.get? b = some o → h'.get? b = some o := fun b o e => hs'.extBut b o (Nat.ne_of_lt (Heap.lt_size e)) (k1 b o e)
  refine h _ h' oD (F₀.keeps kk) (fun q hq => ?_) (fun q hq => Heap.lt_size (N q hq).1) (F₀.notModules (modules_low hbig)) x2
  rcases List.mem_cons.mp hq with rfl | hq
  · exact ⟨x1, kdx_fresh F₀ (Nat.le_refl _)⟩
  · exact ⟨kk _ _ (N q hq).1, (N q hq).2⟩
end
section
variable {prog : Program} {w : World} {A : Around} {E : Value → Shared → Prop} {s : Shared} {h₀ : Heap} {L : Addr} {m : Str → Option Value} {news : List (Addr × Obj)}
/-- a pair of a page's number and its octets -/
def PairAt (h : Heap) (v : Value) (k : Int) (l : List UInt8) : Prop := ∃ a t u, v = .ref a ∧ h.get? a = some (tupObj [.int k t, .bytes l.toArray u])
theorem pair_eq {u v : Value} {k : Int} {l : List UInt8} (hu : A.units < cLine) (x : PairAt s.heap u k l) (y : PairAt s.heap v k l) : SeqAt.EqAt A s u v true := by
  obtain ⟨a, t1, t2, rfl, ha⟩ := x
  obtain ⟨b, t3, t4, rfl, hb⟩ := y
  by_cases e : a = b
  · subst e; exact SeqAt.EqAt.same _
  · refine SeqAt.EqAt.of_refs e ?_
    have := SeqAt.RcAt.tuples (A := A) (s := s) (l := a) (b := b) (items := #[.int k t1, .bytes l.toArray t2]) (items2 := #[.int k t3, .bytes l.toArray t4]) (e := fun _ => true) ⟨_, ha, rfl, _, rfl⟩ ⟨_, hb, rfl, _, rfl⟩ hu (fun j h1 h2 => by
      match j, h1 with
      | 0, _ =>
        have := SeqAt.EqAt.int_int (A := A.in1) (s := s) k t1 k t3
        rw [beq_self_eq_true] at this
        exact this
      | 1, _ =>
        have := eqAt_bytes (A := A.in1) (s := s) l l t2 t4
        rw [beq_self_eq_true] at this
        exact this)
    exact this
theorem lists_ne {a b : Addr} {us vs : List Value} {c1 c2 : Nat} {ps : List (Int × List UInt8)} {Q : Value → Shared → Prop} (ha : s.heap.get? a = some (W.listOf us.toArray c1)) (hb : s.heap.get? b = some (W.listOf vs.toArray c2)) (hu : A.units + 4 < cLine)
    (x : Rel2 (fun v p => PairAt s.heap v p.1 p.2) us ps) (y : Rel2 (fun v p => PairAt s.heap v p.1 p.2) vs ps) (h : Q (.bool false) s) : wpAny (model prog w) A (compareOp .NotEq (.ref a) (.ref b)) Q E s := by
  have l1 := rel2_len x
  have l2 := rel2_len y
  have := SeqAt.RcNeAt.lists (A := A) (s := s) (l := a) (b := b) (items := us.toArray) (items2 := vs.toArray) (e := fun _ => true) ⟨_, ha, rfl, _, rfl⟩ ⟨_, hb, rfl, _, rfl⟩ (by simp [l1, l2]) (by omega) (fun j h1 h2 => by
    simp only [List.getElem_toArray]
    have g1 : j < us.length := by simpa using h1
    have g2 : j < vs.length := by simpa using h2
    exact pair_eq (by simp only [units_in1]; omega) (rel2_at x j g1 (by omega)) (rel2_at y j g2 (by omega)))
  refine this prog w E Q ?_
  rw [show (List.range us.toArray.size).all (fun _ => true) = true by simp]
  exact h
end
end

/-! ### VUpd -/
theorem fresh54 {M : Model} {A : Around} {env : Env} {Q : Flow → Shared → Prop} {E : Value → Shared → Prop} {s : Shared} (h : Q .next s) : wpAny M A (execs [] env) Q E s := by
  w_top off
  (try walk1)
  all_goals first | exact h | exact wpAny_execs_nil h
section
section
variable {prog : Program} {w : World} {A : Around} {E : Value → Shared → Prop} {s : Shared}
/-- a list has no attribute of that name -/
theorem ga_miss_list {a : Addr} {o : Obj} {xs : Array Value} {k : Nat} {name : Str} {Q : Option Value → Shared → Prop}
    (hx : s.heap.get? a = some o) (hc : o.cls = .type "list") (hdat : o.data = .seq xs k) (hd : o.dict = none) (hmiss : typeLookup (.type "list") name = pure none) (hname : (["__module__", "__name__", "__qualname__", "__doc__", "__annotations__"] : List Str).contains name = false) (hA : A.handled = none)
    (h : ∀ h' tk, (∀ b o, s.heap.get? b = some o → h'.get? b = some o) → Q none { s with heap := h', toks := tk }) (hsz : name.length + 100 ≤ sizeLine := by size_fits) :
    wpAny (model prog w) A (getAttr? (.ref a) name) Q E s := by
  obtain ⟨c, dct, dat, sl⟩ := o
  simp only at hc hdat hd
  subst hc hdat hd
  obtain ⟨hp, g, d, tk, os⟩ := s
  have hT : ∀ tk', (⟨hp, g, d, tk', os⟩ : Shared).TypeIs (.ref a) "list" := fun _ => ⟨_, hx, rfl⟩
  have f1 := sub_AttributeError
  have f3 := PySem.F.slot_list_getattribute.lookup
  have f4 := PySem.F.slot_list_getattribute.bind (.ref a)
  have f5 := am_list_getattr_none
  unfold getAttr? getAttrBy? getAttrBy
  repeat (any_goals (first | assumption | exact hT _ | ((with_reducible show wpAny _ _ (call (Value.builtin "list.__getattribute__") _ _) _ _ _); refine call_meets PySem.F.slot_list_getattribute (hT _) am_entry_list_getattribute (PySem.F.args_list_getattribute_2 _ _) (meets_getattribute_miss_list a xs k sl name _ hmiss hname hsz) ⟨hx, hA, fun h' tk' e hx' => ?_⟩) | wp_step))
  obtain ⟨t', u', he⟩ := hx'.there
  show wpAny _ _ (getattributeRaised _ _ _ _ _ _ _) _ _ _
  unfold getattributeRaised
  repeat (any_goals (first | assumption | wp_step))
  exact h _ _ hx'.keeps
theorem entry_upd_loop : entryFor table "dict.update.loop" = some Builtin.«dict.update.loop» := entryFor_of_fast (by kernel_rfl)
theorem plain_upd_loop : plainId "dict.update.loop" = true := by decide +kernel
theorem list_no_keys : typeLookup (.type "list") "keys" = pure none := by rw [typeLookup_type, builtinLookup_eq_fast]; kernel_rfl
end
section
variable {prog : Program} {w : World} {A : Around} {E : Value → Shared → Prop} {s : Shared} {d it ml : Addr} {vs : List Value} {ps kvs : List (Int × Value)}
/-- pairs, one for each item -/
def Pairs (h : Heap) (vs : List Value) (ps : List (Int × Value)) : Prop := vs.length = ps.length ∧ ∀ (j : Nat) (p : Int × Value), ps[j]? = some p → ∃ a t, vs[j]? = some (.ref a) ∧ h.get? a = some (({ cls := .type "tuple", data := .seq #[.int p.1 t, p.2] } : Obj))
theorem stored_length (l : List (Int × Value)) (k : Int) (v : Value) : (stored l k v).length ≤ l.length + 1 := by
  unfold stored
  split
  · rw [List.length_map]; omega
  · rw [List.length_append]; simp
theorem upd_loop {R : Result → Shared → Prop} (hh : A.handled = none) {h₁ : Heap} (hP : Pairs h₁ vs ps) (hz : kvs.length + ps.length ≤ 1000000) (h1 : d ≠ it) (h2 : d ≠ ml) (h3 : it ≠ ml) (hL : h₁.IsList ml vs.toArray)
    (hpd : ∀ a o, h₁.get? a = some o → o.cls = .type "tuple" → a ≠ d ∧ a ≠ it) (res : Value)
    (hR : ∀ h' tk, (∀ b o, b ≠ d → b ≠ it → h₁.get? b = some o → h'.get? b = some o) → h'.DictOf (intKind prog w) d (merged kvs ps) → R (.ok (.ret res)) { s with heap := h', toks := tk }) :
    ∀ (k i : Nat) (h : Heap) (tk : Nat), ps.length - i = k → i ≤ ps.length → h.IsListIter it ml i → (∀ b o, b ≠ d → b ≠ it → h₁.get? b = some o → h.get? b = some o) → h.DictOf (intKind prog w) d (merged kvs (ps.take i)) →
      (merged kvs (ps.take i)).length ≤ kvs.length + i →
      codeAny (model prog w) A (.builtin "dict.update.loop" ⟨[.ref d, .ref it, .int i 0, res], []⟩) R { s with heap := h, toks := tk } := by
  intro k
  induction k with
  | zero =>
    intro i h tk hk hi hI hK hD hn
    have hin : i = ps.length := by omega
    subst hin
    refine codeAny_builtin entry_upd_loop ?_
    rw [Around.under_plainId plain_upd_loop _]
    show wpAny _ A.in1 (pyNext (.ref it) >>= _) _ _ _
    have hL' : h.IsList ml vs.toArray := let ⟨o, ho, r⟩ := hL; ⟨o, hK _ _ (Ne.symm h2) (Ne.symm h3) ho, r⟩
    refine wpAny_bind (wpAny_pyNext_list_end (s := { s with heap := h, toks := tk }) (A := A.in1) hh hI hL' (by simp [hP.1]) fun h' he => ?_)
    show wpAny _ _ (Builtin.Dict.addKeywords d [] >>= _) _ _ _
    rw [List.take_length] at hD
    exact wpAny_bind (wpAny_pure (wpAny_pure (hR h' tk (fun b o n1 n2 e => he b o n2 (hK b o n1 n2 e)) (hD.extBut he h1))))
  | succ k ih =>
    intro i h tk hk hi hI hK hD hn
    have hlt : i < ps.length := by omega
    obtain ⟨p, hx⟩ : ∃ p, ps[i]? = some p := ⟨ps[i], List.getElem?_eq_getElem hlt⟩
    obtain ⟨a, t, hv, ha⟩ := hP.2 i p hx
    obtain ⟨na, na2⟩ := hpd a _ ha rfl
    refine codeAny_builtin entry_upd_loop ?_
    rw [Around.under_plainId plain_upd_loop _]
    show wpAny _ A.in1 (pyNext (.ref it) >>= _) _ _ _
    have hL' : h.IsList ml vs.toArray := let ⟨o, ho, r⟩ := hL; ⟨o, hK _ _ (Ne.symm h2) (Ne.symm h3) ho, r⟩
    refine wpAny_bind (wpAny_pyNext_list_item (s := { s with heap := h, toks := tk }) (A := A.in1) hI hL' (by simpa using hv) fun h' hI' hs => ?_)
    dsimp only at hs
    have ha' : h'.get? a = some (({ cls := .type "tuple", data := .seq #[.int p.1 t, p.2] } : Obj)) := (hs.extBut) a _ na2 (hK a _ na na2 ha)
    have hT : (⟨h', s.gens, s.drawn, tk, s.os⟩ : Shared).TypeIs (.ref a) "tuple" := ⟨_, ha', rfl⟩
    refine wpAny_bind (wpAny_holding ?_)
    refine wpAny_bind ?_
    refine wpAny_tryCatch ?_
    unfold Builtin.Dict.pairItems
    refine wpAny_bind (wpAny_typeOf hT ?_)
    rw [if_pos (by decide)]
    refine wpAny_bind (wpAny_seqItems ha' rfl ?_)
    refine wpAny_pure ?_
    dsimp only [Option.getD_some]
    refine wpAny_holding ?_
    have hD' : h'.DictOf (intKind prog w) d (merged kvs (ps.take i)) := hD.extBut hs.extBut h1
    refine wpAny_dictSet_pairs (s := ⟨h', s.gens, s.drawn, tk, s.os⟩) (hsz := by rw [sizeLine_eq]; omega) (intKind_is prog w p.1 t) hD' fun h2' hD2 hs2 => ?_
    rw [← merged_take_succ kvs ps i p hx] at hD2
    refine wpAny_pure ⟨plainId_quiet plain_upd_loop _, ?_⟩
    have e : ((i : Int) + 1) = ((i + 1 : Nat) : Int) := by omega
    rw [show rawInt ((i : Int) + 1) = .int ((i + 1 : Nat) : Int) 0 from by rw [← e]; rfl]
    refine ih (i + 1) h2' (tk + 1) (by omega) hlt ?_ (fun b o n1 n2 e => hs2.extBut b o n1 (hs.extBut b o n2 (hK b o n1 n2 e))) hD2 ?_
    · obtain ⟨o, ho, r⟩ := hI'
      exact ⟨o, hs2.extBut it o (Ne.symm h1) ho, r⟩
    · rw [merged_take_succ kvs ps i p hx]
      have := stored_length (merged kvs (ps.take i)) p.1 p.2
      omega
end
section
variable {prog : Program} {w : World} {A : Around} {E : Value → Shared → Prop} {s : Shared} {h₀ : Heap} {L d ml : Addr} {m : Str → Option Value} {news : List (Addr × Obj)} {g : Obj → List (Addr × Obj)} {o : Obj} {kvs ps : List (Int × Value)} {vs : List Value} {cap : Nat}
/-- dict.update of a list of pairs -/
theorem dict_updL {Q : Value → Shared → Prop} (hh : A.handled = none) (F : Fr h₀ L s.heap m) (N : News h₀ L s.heap news) (U : UpdF d o news g) (hd : o.IsDictOf (intKind prog w) kvs) (m2 : (ml, W.listOf vs.toArray cap) ∈ news) (hP : Pairs s.heap vs ps)
    (hne : @Ne Nat d ml) (hz : kvs.length + ps.length ≤ 1000000)
    (h : ∀ h' tk' o', Fr h₀ L h' m → News h₀ L h' (g o') → o'.IsDictOf (intKind prog w) (merged kvs ps) → (∀ b o, b ≠ d → s.heap.get? b = some o → h'.get? b = some o) → Q .none { s with heap := h', toks := tk' }) :
    wpAny (model prog w) A (call (.builtin "dict.update") [.ref d, .ref ml]) Q E s := by
  obtain ⟨pre, post, rfl, hg, a, b⟩ := U.split
  have hm := N (d, o) (List.mem_append_right _ (.head _))
  have hD : s.heap.DictOf (intKind prog w) d kvs := Heap.dictOf_iff.mpr ⟨o, hm.1, hd⟩
  have hl : s.heap.IsList ml vs.toArray := ⟨_, (N _ m2).1, rfl, _, rfl⟩
  have hdc : ∀ (a₁ : Addr) (o' : Obj), s.heap.get? a₁ = some o' → o'.cls = .type "tuple" → a₁ ≠ d := fun a₁ o' e c q => by
    subst q
    rw [show s.heap.get? a₁ = _ from hm.1] at e
    cases e
    obtain ⟨es, ep, hc, _⟩ := hd
    rw [hc.1] at c
    simp at c
  refine wpAny_call (codeAny_call_builtin PySem.F.slot_dict_update.plain PySem.F.entry_dict_update (PySem.F.slot_dict_update.check _ _ _ _ _ _ _ _ hD.typeIs (PySem.F.args_dict_update_2 _ _) ?_))
  unfold Builtin.«dict.update»
  refine wpAny_bind ?_
  unfold Builtin.Dict.selfAndRest
  refine wpAny_bind (wpAny_notOrdered_dict hD.typeIs ?_)
  show wpAny _ _ (pure (d, [Value.ref ml])) _ _ s
  refine wpAny_pure ?_
  show wpAny _ _ (Builtin.Dict.updateFrom "dict.update" d (.ref ml) [] .none) _ _ s
  unfold Builtin.Dict.updateFrom
  refine wpAny_bind (wpAny_typeOf hl.typeIs ?_)
  rw [if_pos (by decide)]
  refine wpAny_bind (ga_miss_list (A := A.in1) (N _ m2).1 rfl rfl rfl list_no_keys (by decide) hh fun h1 tk1 k1 => ?_)
  simp only [Option.isNone_none, if_true]
  refine wpAny_bind (wpAny_rule ?_)
  have hl1 : h1.IsList ml vs.toArray := let ⟨o, ho, r⟩ := hl; ⟨o, k1 _ _ ho, r⟩
  refine wpAny_bind (wpAny_pyIter_list (s := { s with heap := h1, toks := tk1 }) hl1 ?_)
  have k2 : ∀ b o, s.heap.get? b = some o → (h1.push { cls := .type "list_iterator", data := .fields #[.ref ml, .int 0 0] }).get? b = some o := fun b o e => Heap.get?_push_of_some _ (k1 b o e)
  have hlt : ∀ b o, s.heap.get? b = some o → b ≠ h1.objs.size := fun b o e => Nat.ne_of_lt (Heap.lt_size (k1 b o e))
  have fin : ∀ h' tk, (∀ b o, b ≠ d → b ≠ h1.objs.size → (s.heap).get? b = some o → h'.get? b = some o) → h'.DictOf (intKind prog w) d (merged kvs ps) → Q .none { s with heap := h', toks := tk } := fun h' tk hk hD' => by
    obtain ⟨o', ho', hd'⟩ := Heap.dictOf_iff.mp hD'
    have kb : ∀ b o, b ≠ d → s.heap.get? b = some o → h'.get? b = some o := fun b o n e => hk b o n (hlt b o e) e
    refine h h' tk o' ⟨?_, fun b o e => kb b o (fun q => ?_) (F.keep b o e), F.above⟩ ?_ hd' kb
    · obtain ⟨oL, a1, a2, hoL, a3⟩ := F.ns
      exact ⟨oL, a1, a2, kb L oL (Ne.symm hm.2.1) hoL, a3⟩
    · subst q; rw [hm.2.2] at e; cases e
    · rw [hg o']
      intro q hq
      rcases List.mem_append.mp hq with hq | hq
      · exact ⟨kb _ _ (fun e => a _ hq e) (N q (List.mem_append_left _ hq)).1, (N q (List.mem_append_left _ hq)).2⟩
      · rcases List.mem_cons.mp hq with rfl | hq
        · exact ⟨ho', hm.2⟩
        · exact ⟨kb _ _ (fun e => b _ hq e) (N q (List.mem_append_right _ (.tail _ hq))).1, (N q (List.mem_append_right _ (.tail _ hq))).2⟩
  refine wpAny_pure ⟨plainId_quiet plain_upd_loop _, ?_⟩
  refine upd_loop (h₁ := s.heap) (s := s) (A := A) (kvs := kvs) (ps := ps) (vs := vs) hh hP hz (Nat.ne_of_lt (Heap.lt_size (k1 _ _ hm.1))) hne (Nat.ne_of_gt (Heap.lt_size (k1 _ _ (N _ m2).1))) hl (fun a o' e c => ⟨hdc a o' e c, hlt a o' e⟩) .none (fun h' tk hk hD' => ?_) ps.length 0 _ tk1 rfl (Nat.zero_le _) ?_ (fun b o _ _ e => k2 b o e) ?_ (by simp [merged])
  · exact fin h' tk hk hD'
  · exact ⟨_, Heap.get?_push_size _ rfl, rfl, rfl⟩
  · exact (Heap.dictOf_iff.mpr ⟨o, k2 _ _ hm.1, hd⟩ : Heap.DictOf (intKind prog w) _ d kvs)
end
end

/-! ### VPl -/
theorem fresh55 {M : Model} {A : Around} {env : Env} {Q : Flow → Shared → Prop} {E : Value → Shared → Prop} {s : Shared} (h : Q .next s) : wpAny M A (execs [] env) Q E s := by
  w_top off
  (try walk1)
  all_goals first | exact h | exact wpAny_execs_nil h
section
section
variable {d : List UInt8} {sz : Nat} {C K : List (Int × Int)} {S LL : List (Int × List UInt8)} {β : Type}
/-- a page's frame behind the octets -/
theorem frame_ap (h : AP d sz K LL) {pg : Int} (p0 : 0 < pg) (p4 : pg < 4) {e : List UInt8} (he : e.length = sz) : AP (d ++ (leB 1 1 ++ leB 4 pg ++ e)) sz (putP K pg ((d.length : Int) + 5)) (putP LL pg e) := by
  have x := (h.mono (leB 1 1 ++ leB 4 pg ++ e)).put p0 p4 (a := d.length + 5) (by omega) (by simp [leB_length, he]; omega)
  have e1 : ((d ++ (leB 1 1 ++ leB 4 pg ++ e)).drop (d.length + 5)).take sz = e := by
    rw [← List.append_assoc, show d.length + 5 = (d ++ (leB 1 1 ++ leB 4 pg)).length by simp [leB_length], List.drop_left, ← he, List.take_length]
  rw [e1, show (((d.length + 5 : Nat)) : Int) = (d.length : Int) + 5 by omega] at x
  exact x
theorem mono_as {x : List UInt8} (h : AP d sz C S) (_ : AP (d ++ x) sz K LL) : AP (d ++ x) sz C S := h.mono x
theorem snoc_oct {h : List UInt8} {fs : List (List UInt8)} (e : h ++ fs.flatten = d) (x : List UInt8) : h ++ (fs ++ [x]).flatten = d ++ x := by rw [List.flatten_append, List.flatten_cons, List.flatten_nil, List.append_nil, ← List.append_assoc, e]
theorem putP_all {P : Int × β → Prop} {l : List (Int × β)} {k : Int} {v : β} (h : ∀ q ∈ l, P q) (hk : P (k, v)) : ∀ q ∈ putP l k v, P q := by
  intro q hq
  unfold putP at hq
  split at hq
  · obtain ⟨p, hp, rfl⟩ := List.mem_map.mp hq
    split
    · rename_i e; rw [e]; exact hk
    · exact h p hp
  · rcases List.mem_append.mp hq with z | z
    · exact h q z
    · rw [List.mem_singleton.mp z]; exact hk
theorem mergeP_all {P : Int × β → Prop} : ∀ {r l : List (Int × β)}, (∀ q ∈ l, P q) → (∀ q ∈ r, P q) → ∀ q ∈ mergeP l r, P q
  | [], _, h, _ => h
  | p :: r, l, h, hr => by
    show ∀ q ∈ mergeP (putP l p.1 p.2) r, P q
    exact mergeP_all (putP_all h (hr p (.head _))) fun q hq => hr q (.tail _ hq)
theorem flat_snoc (fs : List (List UInt8)) (x : List UInt8) : (fs ++ [x]).flatten = fs.flatten ++ x := by
  rw [List.flatten_append, List.flatten_cons, List.flatten_nil, List.append_nil]
theorem frames_snoc {fs : List (List UInt8)} {x : List UInt8} (h : ∀ q ∈ fs, Frame1 sz q) (hx : Frame1 sz x) : ∀ q ∈ fs ++ [x], Frame1 sz q := fun q hq => by
  rcases List.mem_append.mp hq with z | z
  · exact h q z
  · rw [List.mem_singleton.mp z]; exact hx
theorem frame_len {x : List UInt8} (h : Frame1 sz x) : x.length ≤ 5 + sz := by
  rcases h with ⟨pg, e, _, _, he, rfl⟩ | rfl | rfl
  · simp [leB_length, he]; omega
  · simp [leB_length]
  · simp [leB_length]
theorem frames_len : ∀ {fs : List (List UInt8)}, (∀ q ∈ fs, Frame1 sz q) → fs.flatten.length ≤ fs.length * (5 + sz)
  | [], _ => by simp
  | x :: fs, h => by
    have h1 := frame_len (h x (.head _))
    have h2 := frames_len (fs := fs) fun q hq => h q (.tail _ hq)
    rw [List.flatten_cons, List.length_append, List.length_cons, Nat.add_mul]; omega
theorem octs_len {fs : List (List UInt8)} (h : ∀ q ∈ fs, Frame1 sz q) (hs : sz ≤ 6) (hk : fs.length ≤ 13) : (leB 4 sz ++ fs.flatten).length ≤ 147 := by
  have h1 := frames_len h
  have h2 : fs.length * (5 + sz) ≤ 13 * 11 := Nat.mul_le_mul hk (by omega)
  rw [List.length_append, leB_length]; omega
/-- what is read anew of the octets' beginning -/
theorem cut_len (d : List UInt8) (cut : Nat) (h4 : 4 ≤ cut) (hd : 4 ≤ d.length) : 4 ≤ (d.take cut).length := by rw [List.length_take]; omega
theorem cut_head {fs : List (List UInt8)} {cut : Nat} (h4 : 4 ≤ cut) (hs : sz ≤ 1000) : leInt (((leB 4 sz ++ fs.flatten).take cut).take 4) = sz := by
  rw [List.take_take, Nat.min_eq_left h4, List.take_append_of_le_length (by simp [leB_length]), List.take_of_length_le (by simp [leB_length])]
  exact leInt_leB4 (by omega) (by omega)
theorem cut_ok {fs : List (List UInt8)} (h : ∀ q ∈ fs, Frame1 sz q) (cut : Nat) : OkP ((leB 4 sz ++ fs.flatten).take cut) sz fs.length 4 := by
  have := okP_take (sz := sz) (cut := cut) (fs := fs) (pre := leB 4 sz) h
  rwa [leB_length] at this
theorem cut_ap {fs : List (List UInt8)} (h : ∀ q ∈ fs, Frame1 sz q) (cut : Nat) : AP ((leB 4 sz ++ fs.flatten).take cut) sz (scan ((leB 4 sz ++ fs.flatten).take cut) sz fs.length 4 [] []) (recv ((leB 4 sz ++ fs.flatten).take cut) sz fs.length 4 [] []) :=
  lock (cut_ok h cut) (.inl .nil) .nil
theorem ap_keys3 (h : AP d sz C S) : ∀ q ∈ S, 0 < q.1 ∧ q.1 < 4 := fun q hq => ⟨(h.all q hq).1, (h.all q hq).2.1⟩
theorem ap_keysC (h : AP d sz C S) : ∀ q ∈ C, 0 < q.1 ∧ q.1 < 4 := by
  induction h with
  | nil => intro q hq; cases hq
  | cons k0 k4 _ _ _ ih => exact List.forall_mem_cons.mpr ⟨⟨k0, k4⟩, ih⟩
theorem ap_places {kc : List (Int × Value)} (i : Ints kc C) (h : AP d sz C S) : ∀ q ∈ kc, ∃ (a : Nat) (t : Tok), q.2 = .int a t ∧ 0 < a ∧ a + sz ≤ d.length := by
  induction h generalizing kc with
  | nil => cases i; intro q hq; cases hq
  | cons k0 k4 h0 h1 _ ih =>
    cases i with
    | cons e t =>
      obtain ⟨t', rfl⟩ := e
      exact List.forall_mem_cons.mpr ⟨⟨_, t', rfl, h0, h1⟩, ih t⟩
end
section
variable {d : List UInt8} {sz : Nat} {C : List (Int × Int)} {S : List (Int × List UInt8)} {kc kS : List (Int × Value)} {h : Heap}
/-- the pairs that the log has told are the pages' octets -/
theorem told_pairs {tl : List (Addr × Obj)} (r : Rel2 (TupOf d sz) tl kc) (i : Ints kc C) (a : AP d sz C S) (ha : ∀ q ∈ tl, h.get? q.1 = some q.2) : Rel2 (fun v p => PairAt h v p.1 p.2) (tl.map fun q => Value.ref q.1) S := by
  induction a generalizing kc tl with
  | nil => cases i; cases r; exact .nil
  | cons k0 k4 h0 h1 _ ih =>
    cases i with
    | cons e t =>
      obtain ⟨t', rfl⟩ := e
      cases r with
      | @cons q _ _ _ x y =>
        obtain ⟨a, t1, t2, t3, e1, e2⟩ := x
        dsimp only at e1 e2
        injection e1 with e1 _
        have e1 := Int.ofNat.inj e1
        subst e1
        refine .cons ⟨q.1, t2, t3, rfl, ?_⟩ (ih y t fun q hq => ha q (.tail _ hq))
        rw [← e2]
        exact ha q (.head _)
theorem pairs_of {vs : List Value} (r : Rel2 (fun v p => PairAt h v p.1 p.2) vs S) : ∃ ps, Pairs h vs ps ∧ All2 IsOcts ps S := by
  induction r with
  | nil => exact ⟨[], ⟨rfl, fun j p hj => by simp at hj⟩, .nil⟩
  | @cons v p vs S x _ ih =>
    obtain ⟨ps, ⟨h1, h2⟩, h3⟩ := ih
    obtain ⟨a, t, u, rfl, ha⟩ := x
    refine ⟨(p.1, .bytes p.2.toArray u) :: ps, ⟨by rw [List.length_cons, List.length_cons, h1], fun j p' hj => ?_⟩, .cons ⟨u, rfl⟩ h3⟩
    cases j with
    | zero =>
      simp at hj
      subst hj
      exact ⟨a, t, rfl, ha⟩
    | succ j => exact h2 j p' (by simpa using hj)
/-- the pairs of a dict's items are the pages' octets -/
theorem item_pairs {w : World} : ∀ {as : List Addr} {kS : List (Int × Value)} {S : List (Int × List UInt8)}, as.length = kS.length → All2 IsOcts kS S →
    (∀ (j : Nat) (a : Addr), as[j]? = some a → ∃ key k x, kS[j]? = some (k, x) ∧ (intKind PySem.Challenge.rw_vq0002_01.row.prog w).is k key = true ∧ h.get? a = some { cls := .type "tuple", data := .seq #[key, x] }) → Rel2 (fun v p => PairAt h v p.1 p.2) (as.map Value.ref) S
  | [], [], _, _, i, _ => by cases i; exact .nil
  | [], _ :: _, _, hl, _, _ => by simp at hl
  | _ :: _, [], _, hl, _, _ => by simp at hl
  | a :: as, (k, v) :: kS, S, hl, i, hg => by
    cases i with
    | cons e t =>
      obtain ⟨u, rfl⟩ := e
      obtain ⟨key, k', x, e1, e2, e3⟩ := hg 0 a rfl
      simp at e1
      obtain ⟨rfl, rfl⟩ := e1
      obtain ⟨t1, rfl⟩ := Value.isInt_shape e2
      exact .cons ⟨a, t1, u, rfl, e3⟩ (item_pairs (by simpa using hl) t fun j b hj => by
        obtain ⟨key, k, x, f1, f2⟩ := hg (j + 1) b (by simpa using hj)
        exact ⟨key, k, x, by simpa using f1, f2⟩)
end
section
variable {w : World} {A : Around} {E : Value → Shared → Prop} {s : Shared} {h₀ : Heap} {L v d : Addr} {m : Str → Option Value} {news : List (Addr × Obj)} {oS : Obj} {kS : List (Int × Value)} {S : List (Int × List UInt8)}
/-- list of a dict's items -/
theorem items_listK {Q : Value → Shared → Prop} (hh : A.handled = none) (F : Fr h₀ L s.heap m) (N : News h₀ L s.heap news) (hvw : (v, { cls := .type "dict_items", data := .fields #[.ref d] }) ∈ news) (hmd : (d, oS) ∈ news) (hd : oS.IsDictOf (kn w) kS) (aS : All2 IsOcts kS S) (hz : kS.length ≤ 1000)
    (h : ∀ B cap vs h' tk, Fr h₀ L h' m → News h₀ L h' ((B, W.listOf vs.toArray cap) :: news) → (∀ q ∈ news, q.1 < B) → Rel2 (fun v p => PairAt h' v p.1 p.2) vs S → Q (.ref B) { s with heap := h', toks := tk }) :
    wpAny (model PySem.Challenge.rw_vq0002_01.row.prog w) A (call (.type "list") [.ref v]) Q E s := by
  obtain ⟨ep, hat⟩ := KdkAt.of hd
  refine kdx_call (knd := kn w) (kvs := kS) (ep := ep) hh ⟨_, (N _ hvw).1, rfl, rfl⟩ (hat.dictAt (N _ hmd).1) (by rw [sizeLine_eq]; omega) fun h' tk acc c as hk hS hl hG hacc => ?_
  have ea : acc = (as.map Value.ref).toArray := by rw [← hacc, Array.toArray_toList]
  refine h s.heap.objs.size c (as.map Value.ref) h' tk (F.keeps hk) (fun q hq => ?_) (fun q hq => Heap.lt_size (N q hq).1) (item_pairs (w := w) hl aS hG.pairs)
  rcases List.mem_cons.mp hq with rfl | hq
  · exact ⟨by rw [← ea]; exact hS, kdx_fresh F (Nat.le_refl _)⟩
  · exact ⟨hk _ _ (N q hq).1, (N q hq).2⟩
end
end

/-! ### VK2 -/
theorem fresh56 {M : Model} {A : Around} {env : Env} {Q : Flow → Shared → Prop} {E : Value → Shared → Prop} {s : Shared} (h : Q .next s) : wpAny M A (execs [] env) Q E s := by
  w_top off
  (try walk1)
  all_goals first | exact h | exact wpAny_execs_nil h
section
section
variable {w : World} {A A₀ : Around} {s : Shared} {base h₀ : Heap} {outer : List Env} {env : Env} {L : Addr} {m : Str → Option Value} {p : Program} {loose : List Str} {mean : ExcName → Option Value} {mg mb : Str → Option Value}
  {Q : Value → Shared → Prop} {E : Value → Shared → Prop} {news : List (Addr × Obj)} {g : Obj → List (Addr × Obj)}
theorem frame_K (B : Below A₀ base outer h₀) (X : (Mine.hd.heap_39 w.params).In base) (T : Top p loose mean mg mb base) (F : Fr h₀ L s.heap m) (N : News h₀ L s.heap news)
    (hA : A.frames = some (env :: outer)) (hf : env.frame = some L) (hke : env.scope.kind = .function) (hh : A.handled = none) (hroom : A.depth + 20 < recursionLimit)
    {kd pg : Int} {tk tp te : Tok} {e : List UInt8} (hk0 : 0 ≤ kd) (hk1 : kd < 256) (hp0 : 0 ≤ pg) (hp1 : pg < 1000) (he : e.length ≤ 1000)
    (h : ∀ h' t' tr, Fr h₀ L h' m → News h₀ L h' news → Q (.bytes (leB 1 kd ++ leB 4 pg ++ e).toArray tr) { s with heap := h', toks := t' }) :
    wpAny (model PySem.Challenge.rw_vq0002_01.row.prog w) A (call (.ref 226) [.int kd tk, .int pg tp, .bytes e.toArray te]) Q E s :=
  wpAny_call (frame_c (call_below B F hA hf hke) X T hh hroom hk0 hk1 hp0 hp1 he fun h' t' tr k =>
    h h' t' tr (back_fr F N k fun _ z => nomatch z) (back_same N k))
theorem recover_K (B : Below A₀ base outer h₀) (X : (Mine.hd.heap_39 w.params).In base) (T : Top p loose mean mg mb base) (F : Fr h₀ L s.heap m) (N : News h₀ L s.heap news)
    (hA : A.frames = some (env :: outer)) (hf : env.frame = some L) (hke : env.scope.kind = .function) (hh : A.handled = none) (hroom : A.depth + 40 < recursionLimit)
    {d : List UInt8} {sz : Nat} {td ts : Tok} (hs : 0 < sz) (hsz : sz ≤ 1000) (hz : d.length ≤ 1000000) {f : Nat} (hf' : f ≤ 900) (hok : Ok d sz f 4)
    (h : ∀ h' t' D oD kD, Fr h₀ L h' m → News h₀ L h' ((D, oD) :: news) → (D : Nat) ∉ (news.map (·.1) : List Nat) → oD.IsDictOf (kn w) kD → All2 IsOcts kD (recv d sz f 4 [] []) → (D == sysModules) = false → Q (.ref D) { s with heap := h', toks := t' }) :
    wpAny (model PySem.Challenge.rw_vq0002_01.row.prog w) A (call (.ref 233) [.bytes d.toArray td, .int sz ts]) Q E s :=
  wpAny_call (recover_c (call_below B F hA hf hke) X T hh hroom hs hsz hz hf' hok fun h' t' D oD kD k g1 g2 hD aD lo =>
    h h' t' D oD kD (back_fr F N k fun _ z => nomatch z) (back_new N F k fun q hq => by
      rcases List.mem_cons.mp hq with rfl | hq
      · exact .inr ⟨g1, .inr g2⟩
      · exact .inl ⟨hq, fun z => nomatch z⟩) (alive_no N g2) hD aD lo)
theorem told_K {x dx fx fdx b c n pp : Addr} {sz : Nat} {pl : Int} {nr : Bool} {k1 k2 k3 k4 k5 k6 ts t1 t2 t3 : Nat} {oC oN oP : Obj} {kc kv kp : List (Int × Value)} {d : List UInt8}
    (B : Below A₀ base outer h₀) (X : (Mine.hd.heap_39 w.params).In base) (T : Top p loose mean mg mb base) (F : Fr h₀ L s.heap m) (N : News h₀ L s.heap news)
    (hA : A.frames = some (env :: outer)) (hf : env.frame = some L) (hke : env.scope.kind = .function) (hh : A.handled = none) (hroom : A.depth + 60 < recursionLimit) (hu : A.units + 64 < cLine)
    (hsub : ∀ q ∈ walL w x dx fx fdx b c n sz pl nr k1 k2 k3 k4 k5 k6 ts t1 t2 t3 d oC oN ++ [(pp, oP)], q ∈ news) (U : UpdF fdx (octD w.params b pl t1 t2 t3) news g)
    (hD : Apart [x, dx, fx, fdx, b, c, n]) (loN : (n == sysModules) = false) (loC : (c == sysModules) = false) (hs : 0 < sz) (hz : d.length ≤ 1000000) (pN : Places d sz kv) (pC : Places d sz kc) (p0 : 0 ≤ pl)
    (hN : oN.IsDictOf (kn w) kv) (hC : oC.IsDictOf (kn w) kc) (hP : oP.IsDictOf (kn w) kp) (loP : (pp == sysModules) = false) (hpf : @Ne Nat pp fdx) (hEq : ∀ q : Int, 1 ≤ q → q ≤ 4 → ∃ t, (valueAt kp q).getD .none = bytesOr (pageAt d sz kv kc q) t)
    (h : ∀ h' t' pl' t3', 0 ≤ pl' → Fr h₀ L h' m → News h₀ L h' (g (octD w.params b pl' t1 t2 t3')) → Q (.bool true) { s with heap := h', toks := t' }) :
    wpAny (model PySem.Challenge.rw_vq0002_01.row.prog w) A (call (.ref 238) [.ref x, .ref pp]) Q E s :=
  wpAny_call (told_c (call_below B F hA hf hke) X T hh hroom hD loN loC hs hz pN pC p0 hN hC hP loP hpf hu hEq (call_foot B N hf hsub) fun h' t' pl' t3' z k ho =>
    h h' t' pl' t3' z (back_fr F N k (mods1 (updF_mem U))) (back_upd N U k ho))
/-- a page that is refused -/
theorem refT_K {x dx fx c n : Addr} {sz : Nat} {nr : Bool} {k1 k2 k3 k4 k5 k6 ts : Nat}
    (B : Below A₀ base [] h₀) (X : (Mine.hd.heap_39 w.params).In base) (T : Top p loose mean mg mb base) (F : Fr h₀ L s.heap m) (N : News h₀ L s.heap news)
    (hA : A.frames = some [env]) (hf : env.frame = some L) (hke : env.scope.kind = .function) (hh : A.handled = none) (hroom : A.depth + 40 < recursionLimit)
    (hne : @Ne Nat x dx) {pg : Int} {e : List UInt8} (hp0 : pg = 0 ∨ 0 < pg ∧ 0 < e.length ∧ e.length ≠ sz) (he1 : e.length ≤ 1000) {tq te : Tok} (m1 : (x, instObj 144 dx) ∈ news) (m2 : (dx, walD w.params fx sz c n nr k1 k2 k3 k4 k5 k6 ts) ∈ news)
    (h : ∀ h' t', Fr h₀ L h' m → News h₀ L h' news → Q (.bool true) { s with heap := h', toks := t' }) :
    wpAny (model PySem.Challenge.rw_vq0002_01.row.prog w) A (call (.ref 219) [.ref x, .int pg tq, .bytes e.toArray te]) Q E s :=
  wpAny_call (refT_c (call_below B F hA hf hke) X T hh hroom (fr_dicts F hf) hne hp0 he1 (call_foot B N hf (subC m1 (sub1 m2))) fun h' t' k => by
    rw [fr_only hf] at k
    exact h h' t' (back_frT F N k fun _ z => nomatch z) (back_newT F N k fun q hq => .inl ⟨hq, fun z => nomatch z⟩))
end
section
variable {w : World} {x dx fx fdx b c n n' : Addr} {sz pl pl' : Int} {nr : Bool} {k1 k2 k3 k4 k5 k6 ts t1 t2 t3 t3' : Tok} {d d' : List UInt8} {oC oN oC' oN' : Obj} {rest : List (Addr × Obj)}
theorem nd_rest (Z : Nd (walL w x dx fx fdx b c n sz pl nr k1 k2 k3 k4 k5 k6 ts t1 t2 t3 d oC oN ++ rest)) : ∀ q ∈ rest, (q.1 : Nat) ∉ ([dx, fdx, b, c, n] : List Nat) := fun q hq z => by
  unfold Nd at Z
  rw [List.map_append] at Z
  refine (List.nodup_append.mp Z).2.2 q.1 ?_ q.1 (List.mem_map_of_mem hq) rfl
  show (q.1 : Nat) ∈ ([x, dx, fx, fdx, b, c, n] : List Nat)
  have : ∀ a ∈ ([dx, fdx, b, c, n] : List Nat), a ∈ ([x, dx, fx, fdx, b, c, n] : List Nat) := by simp
  exact this _ z
theorem nd7 (Z : Nd (walL w x dx fx fdx b c n sz pl nr k1 k2 k3 k4 k5 k6 ts t1 t2 t3 d oC oN ++ rest)) : ([x, dx, fx, fdx, b, c, n] : List Nat).Nodup := by
  unfold Nd at Z
  rw [List.map_append] at Z
  exact (List.nodup_append.mp Z).1
theorem nd_wal (Z : Nd (walL w x dx fx fdx b c n sz pl nr k1 k2 k3 k4 k5 k6 ts t1 t2 t3 d oC oN ++ rest)) (h : n' = n ∨ (n' : Nat) ∉ ((walL w x dx fx fdx b c n sz pl nr k1 k2 k3 k4 k5 k6 ts t1 t2 t3 d oC oN ++ rest).map (·.1) : List Nat)) :
    Nd (walL w x dx fx fdx b c n' sz pl' nr k1 k2 k3 k4 k5 k6 ts t1 t2 t3' d' oC' oN' ++ rest) := by
  rcases h with rfl | h
  · exact nd_obj Z (by rw [List.map_append, List.map_append]; rfl)
  · unfold Nd at *
    simp only [List.map_append, List.map_cons, List.map_nil, List.cons_append, List.nil_append] at *
    generalize (rest.map (·.1) : List Nat) = l at *
    grind
variable {h₀ : Heap} {L : Addr} {m : Str → Option Value} {s : Shared} {kc' : List (Int × Value)} {kn' : Tok → List (Int × Value)} {Rr : Shared → Prop}
theorem post_K (F : Fr h₀ L s.heap m) (N : News h₀ L s.heap (walL w x dx fx fdx b c n sz pl nr k1 k2 k3 k4 k5 k6 ts t1 t2 t3 d oC oN ++ rest)) (Z : Nd (walL w x dx fx fdx b c n sz pl nr k1 k2 k3 k4 k5 k6 ts t1 t2 t3 d oC oN ++ rest))
    (h : ∀ h' t' t3' n' oC' oN' tt, Fr h₀ L h' m → News h₀ L h' (walL w x dx fx fdx b c n' sz pl' nr k1 k2 k3 k4 k5 k6 ts t1 t2 t3' d' oC' oN' ++ rest) → Nd (walL w x dx fx fdx b c n' sz pl' nr k1 k2 k3 k4 k5 k6 ts t1 t2 t3' d' oC' oN' ++ rest) →
      oC'.IsDictOf (kn w) kc' → oN'.IsDictOf (kn w) (kn' tt) → (n' == sysModules) = false → Rr { s with heap := h', toks := t' }) :
    WalPost w s x dx fx fdx b c n sz pl' nr k1 k2 k3 k4 k5 k6 ts t1 t2 d' kc' kn' Rr := fun h' t' t3' n' oC' oN' tt k ga hC hN frs lo => by
  obtain ⟨F', N'⟩ := wal_back (rest := rest) F N k (nd_rest Z) ga frs
  exact h h' t' t3' n' oC' oN' tt F' N' (nd_wal Z (frs.imp id fun e => alive_no N e)) hC hN lo
end
section
variable {w : World} {A A₀ : Around} {s : Shared} {base h₀ : Heap} {outer : List Env} {env : Env} {L : Addr} {m : Str → Option Value} {p : Program} {loose : List Str} {mean : ExcName → Option Value} {mg mb : Str → Option Value}
  {Q : Value → Shared → Prop} {E : Value → Shared → Prop} {rest : List (Addr × Obj)} {x dx fx fdx b c n : Addr} {sz : Nat} {pl : Int} {nr : Bool} {k1 k2 k3 k4 k5 k6 ts t1 t2 t3 : Nat} {oC oN : Obj} {kc : List (Int × Value)} {d : List UInt8}
theorem nd_ck {D cap : Nat} {tl : List (Addr × Obj)} {pl' : Int} {t3' : Tok} {a : Array Value} {h : Heap} (N : News h₀ L h (walL w x dx fx fdx b c n sz pl nr k1 k2 k3 k4 k5 k6 ts t1 t2 t3 d oC oN ++ rest)) (Z : Nd (walL w x dx fx fdx b c n sz pl nr k1 k2 k3 k4 k5 k6 ts t1 t2 t3 d oC oN ++ rest))
    (nd : ((D :: (tl.map (·.1) : List Nat)) : List Nat).Nodup) (eD : h.get? D = none) (et : ∀ q ∈ tl, h.get? q.1 = none) : Nd (walL w x dx fx fdx b c n sz pl' nr k1 k2 k3 k4 k5 k6 ts t1 t2 t3' [] oC oN ++ (rest ++ (D, lstObj a cap) :: tl)) := by
  rw [← List.append_assoc]
  unfold Nd
  rw [List.map_append, List.map_cons]
  refine List.nodup_append.mpr ⟨nd_obj Z (by rw [List.map_append, List.map_append]; rfl), nd, fun u hu v hv e => ?_⟩
  subst e
  have al : ∃ o, h.get? u = some o := by
    obtain ⟨q, hq, rfl⟩ := List.mem_map.mp hu
    rcases List.mem_append.mp hq with z | z
    · rcases walL_ads q z with e | e | e | e | e | e | e
      · exact ⟨_, by rw [e]; exact (N _ (.head _)).1⟩
      · exact ⟨_, by rw [e]; exact (N _ (.tail _ (.head _))).1⟩
      · exact ⟨_, by rw [e]; exact (N _ (.tail _ (.tail _ (.head _)))).1⟩
      · exact ⟨_, by rw [e]; exact (N _ (.tail _ (.tail _ (.tail _ (.head _))))).1⟩
      · exact ⟨_, by rw [e]; exact (N _ (.tail _ (.tail _ (.tail _ (.tail _ (.head _)))))).1⟩
      · exact ⟨_, by rw [e]; exact (N _ (.tail _ (.tail _ (.tail _ (.tail _ (.tail _ (.head _))))))).1⟩
      · exact ⟨_, by rw [e]; exact (N _ (.tail _ (.tail _ (.tail _ (.tail _ (.tail _ (.tail _ (.head _)))))))).1⟩
    · exact ⟨_, (N _ (List.mem_append_right _ z)).1⟩
  obtain ⟨o, ho⟩ := al
  rcases List.mem_cons.mp hv with e | hv
  · rw [e, eD] at ho; cases ho
  · obtain ⟨q, hq, rfl⟩ := List.mem_map.mp hv
    rw [et q hq] at ho; cases ho
theorem ckpt_K (B : Below A₀ base outer h₀) (X : (Mine.hd.heap_39 w.params).In base) (T : Top p loose mean mg mb base) (F : Fr h₀ L s.heap m) (N : News h₀ L s.heap (walL w x dx fx fdx b c n sz pl nr k1 k2 k3 k4 k5 k6 ts t1 t2 t3 d oC oN ++ rest))
    (Z : Nd (walL w x dx fx fdx b c n sz pl nr k1 k2 k3 k4 k5 k6 ts t1 t2 t3 d oC oN ++ rest)) (hA : A.frames = some (env :: outer)) (hf : env.frame = some L) (hke : env.scope.kind = .function) (hh : A.handled = none) (hg : A.guards = some []) (hroom : A.depth + 60 < recursionLimit)
    (loC : (c == sysModules) = false) (hs : 0 < sz) (hz : d.length ≤ 1000000) (p0 : 0 ≤ pl) (hC : oC.IsDictOf (kn w) kc) (hzc : kc.length ≤ 1000)
    (Pl : ∀ q ∈ kc, ∃ (a : Nat) (t : Tok), q.2 = .int a t ∧ 0 < a ∧ a + sz ≤ d.length) (gb : ∀ y ∈ s.gens, y.bare = true)
    (h : ∀ I t' h' gs0, (Mine.hd.heap_39 w.params).In h' → (∀ (Q : Value → Shared → Prop) (E : Value → Shared → Prop), (∀ D cap h2 t2' g2 pl' t3' tl, 0 ≤ pl' → Fr h₀ L h2 m →
        News h₀ L h2 (walL w x dx fx fdx b c n sz pl' nr k1 k2 k3 k4 k5 k6 ts t1 t2 t3' [] oC oN ++ (rest ++ (D, lstObj (tl.map fun q => Value.ref q.1).toArray cap) :: tl)) →
        Nd (walL w x dx fx fdx b c n sz pl' nr k1 k2 k3 k4 k5 k6 ts t1 t2 t3' [] oC oN ++ (rest ++ (D, lstObj (tl.map fun q => Value.ref q.1).toArray cap) :: tl)) → Rel2 (TupOf d sz) tl kc → (∀ y ∈ g2, y.bare = true) →
        Q (.ref D) { s with heap := h2, toks := t2', gens := g2 }) → wpN (model PySem.Challenge.rw_vq0002_01.row.prog w) A (call (.type "list") [.ref I]) Q E { s with heap := h', toks := t', gens := s.gens.push gs0 }) →
      Q (.ref I) { s with heap := h', toks := t', gens := s.gens.push gs0 }) :
    wpAny (model PySem.Challenge.rw_vq0002_01.row.prog w) A (call (.ref 77) [.ref x]) Q E s := by
  have hD : ([x, dx, fx, fdx, b, c, n] : List Nat).Nodup := by
    unfold Nd at Z
    rw [List.map_append] at Z
    exact (List.nodup_append.mp Z).1
  refine wpAny_call (ckpt_c (call_below B F hA hf hke) X T hh hg hroom hD loC hs hz p0 hC hzc Pl gb (call_foot B N hf fun q hq => List.mem_append_left _ hq) fun I t' h' gs0 kp lst => ?_)
  refine h I t' h' gs0 (((X.keeps B.stays).keeps F.keep).keeps kp) fun Q' E' hQ' => lst Q' E' fun D cap h2 t2' g2 pl' t3' tl z k ga gD eD gt rl nd gb' => ?_
  refine hQ' D cap h2 t2' g2 pl' t3' tl z (back_fr F N k fun a ha => ?_) (back_new N F k fun q hq => ?_) (nd_ck N Z nd eD fun q hq => (gt q hq).2) rl gb'
  · rcases List.mem_cons.mp ha with rfl | ha
    · exact ⟨_, List.mem_append_left _ (.tail _ (.tail _ (.tail _ (.head _))))⟩
    · rw [List.mem_singleton.mp ha]
      exact ⟨_, List.mem_append_left _ (.tail _ (.tail _ (.tail _ (.tail _ (.head _)))))⟩
  · rcases List.mem_append.mp hq with z | z
    · refine .inr ⟨ga q z, .inl ?_⟩
      rcases walL_ads q z with e | e | e | e | e | e | e
      · exact ⟨_, by rw [e]; exact .head _⟩
      · exact ⟨_, by rw [e]; exact .tail _ (.head _)⟩
      · exact ⟨_, by rw [e]; exact .tail _ (.tail _ (.head _))⟩
      · exact ⟨_, by rw [e]; exact .tail _ (.tail _ (.tail _ (.head _)))⟩
      · exact ⟨_, by rw [e]; exact .tail _ (.tail _ (.tail _ (.tail _ (.head _))))⟩
      · exact ⟨_, by rw [e]; exact .tail _ (.tail _ (.tail _ (.tail _ (.tail _ (.head _)))))⟩
      · exact ⟨_, by rw [e]; exact .tail _ (.tail _ (.tail _ (.tail _ (.tail _ (.tail _ (.head _))))))⟩
    · rcases List.mem_append.mp z with z | z
      · refine .inl ⟨List.mem_append_right _ z, fun y => nd_rest Z q z ?_⟩
        have : ∀ a ∈ ([fdx, b] : List Nat), a ∈ ([dx, fdx, b, c, n] : List Nat) := by simp
        exact this _ y
      · rcases List.mem_cons.mp z with rfl | z
        · exact .inr ⟨gD, .inr eD⟩
        · exact .inr ⟨(gt q z).1, .inr (gt q z).2⟩
/-- a call of a type in N whose one argument the library walks -/
theorem n_callWithT1 {M : Model} {f : Value} {pos : Pos} {e : Expr} (h : wpAny M A (spliced (backTo pos (starEach [e] env))) (fun vs s₁ => wpN M A (call f ([] ++ vs)) Q E s₁) E s) (hk : keeperOf f = pure Keeper.machine := by rfl)
    (he : starEach [e] env = (false, eval e env) :: starEach [] env := by rfl) (hplain : (backTo pos (starEach [] env)).any (·.1) = false := by rfl) :
    wpN M A (callWith pos f [] (backTo pos (starEach [e] env)) []) Q E s := by
  rw [he] at h ⊢
  exact n_callWith_of (P := fun _ => True) (by show ((false || (backTo pos (starEach [] env)).any (·.1)) || false) = false; rw [hplain]; rfl) (fun _ _ => ⟨_, .inr (.inl rfl), Looks.of_pure hk⟩) (n_evalArgs (n_any (wpAny_mono h (fun vs s' q => ⟨trivial, q⟩) fun _ _ x => x)))
/-- two parts, both of them calls in N -/
theorem n_spliced2N {M : Model} {a b : Expr} {pos : Pos} {Q : List Value → Shared → Prop}
    (h : wpN M A (eval a env) (fun v s₁ => wpN M A (eval b env) (fun u s₂ => Q [v, u] s₂) E s₁) E s)
    (he : backTo pos (starEach [a, b] env) = [(false, eval a env), (false, eval b env)] := by rfl) : wpN M A (spliced (backTo pos (starEach [a, b] env))) Q E s := by
  rw [he]
  refine n_spliced_cons (n_mono h (fun v s₁ h₁ => ?_) fun _ _ x => x)
  exact n_spliced_cons (n_mono h₁ (fun u s₂ h₂ => n_spliced_nil h₂) fun _ _ x => x)
end
theorem nodup_swap {l r : List Nat} {a a' : Nat} (Z : (l ++ a :: r).Nodup) (h : a' ∉ l ++ r) : (l ++ a' :: r).Nodup :=
  (List.perm_middle.nodup_iff).mpr (List.nodup_cons.mpr ⟨h, (List.nodup_cons.mp (List.perm_middle.nodup_iff.mp Z)).2⟩)
theorem nd_lo {x dx fx fdx b c n S Sc cs cz St Su Lo Lo' I : Nat} (Z : ([x, dx, fx, fdx, b, c, n, S, Sc, cs, cz, St, Su, Lo, I] : List Nat).Nodup) (h : ∀ a ∈ ([x, dx, fx, fdx, b, c, n, S, Sc, cs, cz, St, Su, I] : List Nat), a < Lo') :
    ([x, dx, fx, fdx, b, c, n, S, Sc, cs, cz, St, Su, Lo', I] : List Nat).Nodup :=
  nodup_swap (l := [x, dx, fx, fdx, b, c, n, S, Sc, cs, cz, St, Su]) (r := [I]) Z fun z => Nat.lt_irrefl _ (h _ z)
theorem nd_su {x dx fx fdx b c n S Sc cs cz St Su Su' Lo I : Nat} (Z : ([x, dx, fx, fdx, b, c, n, S, Sc, cs, cz, St, Su, Lo, I] : List Nat).Nodup) (h : (Su' : Nat) ∉ ([x, dx, fx, fdx, b, c, n, S, Sc, cs, cz, St, Lo, I] : List Nat)) :
    ([x, dx, fx, fdx, b, c, n, S, Sc, cs, cz, St, Su', Lo, I] : List Nat).Nodup :=
  nodup_swap (l := [x, dx, fx, fdx, b, c, n, S, Sc, cs, cz, St]) (r := [Lo, I]) Z h
theorem nD_sub {D : Addr} {news l' : List (Addr × Obj)} (h : (D : Nat) ∉ (news.map (·.1) : List Nat)) (sub : ∀ q ∈ l', q ∈ news) : (D : Nat) ∉ (l'.map (·.1) : List Nat) := fun z => by
  obtain ⟨q, hq, e⟩ := List.mem_map.mp z
  exact h (List.mem_map.mpr ⟨q, sub q hq, e⟩)
theorem updF_wal {w : World} {x dx fx fdx b c n : Addr} {sz pl : Int} {nr : Bool} {k1 k2 k3 k4 k5 k6 ts t1 t2 t3 : Tok} {d : List UInt8} {oC oN : Obj} {rest : List (Addr × Obj)} (Z : Nd (walL w x dx fx fdx b c n sz pl nr k1 k2 k3 k4 k5 k6 ts t1 t2 t3 d oC oN ++ rest)) :
    UpdF fdx (octD w.params b pl t1 t2 t3) (walL w x dx fx fdx b c n sz pl nr k1 k2 k3 k4 k5 k6 ts t1 t2 t3 d oC oN ++ rest) (fun o' => (x, instObj 144 dx) :: (dx, walD w.params fx sz c n nr k1 k2 k3 k4 k5 k6 ts) :: (fx, instObj 194 fdx) :: (fdx, o') :: (b, baObj d.toArray) :: (c, oC) :: (n, oN) :: rest) := by
  unfold Nd at Z
  simp only [List.map_append, List.map_cons, List.map_nil, List.cons_append, List.nil_append] at Z
  obtain ⟨z1, Z⟩ := List.nodup_cons.mp Z
  obtain ⟨z2, Z⟩ := List.nodup_cons.mp Z
  obtain ⟨z3, Z⟩ := List.nodup_cons.mp Z
  obtain ⟨z4, Z⟩ := List.nodup_cons.mp Z
  refine .tail (fun e => z1 ?_) (.tail (fun e => z2 ?_) (.tail (fun e => z3 ?_) (.head fun p hp e => z4 ?_)))
  · rw [show x = fdx from e]; exact .tail _ (.tail _ (.head _))
  · rw [show dx = fdx from e]; exact .tail _ (.head _)
  · rw [show fx = fdx from e]; exact .head _
  · rw [← e]
    exact List.mem_map_of_mem (f := Prod.fst) hp
end

/-! ### VDef -/
theorem fresh57 {M : Model} {A : Around} {env : Env} {Q : Flow → Shared → Prop} {E : Value → Shared → Prop} {s : Shared} (h : Q .next s) : wpAny M A (execs [] env) Q E s := by
  w_top off
  (try walk1)
  all_goals first | exact h | exact wpAny_execs_nil h
section
/-! ## the law's text, by name -/
def lawFn : { x : Arguments × List Stmt × Scope // PySem.Challenge.rw_vq0002_01.row.prog.theDef (Str.ofString "law") = some x } := ⟨_, rfl⟩
def forBody : Stmt → Option (List Stmt)
  | .For _ _ b _ _ => some b
  | _ => none
def ifParts : Stmt → Option (List Stmt × List Stmt)
  | .If _ b e _ => some (b, e)
  | _ => none
def deedB : { b : List Stmt // (lawFn.1.2.1[10]?).bind forBody = some b } := ⟨_, rfl⟩
def deedIf : { b : List Stmt × List Stmt // (deedB.1[1]?).bind ifParts = some b } := ⟨_, rfl⟩
def deedTail : { b : List Stmt // deedB.1.drop 2 = b } := ⟨_, rfl⟩
def deedIf2 : { b : List Stmt × List Stmt // (deedIf.1.2[0]?).bind ifParts = some b } := ⟨_, rfl⟩
/-- the deed that moves: the cut, and what comes behind it -/
def moveIf : { b : List Stmt × List Stmt // (deedIf2.1.2[0]?).bind ifParts = some b } := ⟨_, rfl⟩
def moveB : { b : List Stmt // deedIf2.1.2.drop 1 = b } := ⟨_, rfl⟩
def cutsB : { b : List Stmt // (lawFn.1.2.1[11]?).bind forBody = some b } := ⟨_, rfl⟩
def lawEnd : { b : List Stmt // lawFn.1.2.1.drop 12 = b } := ⟨_, rfl⟩
abbrev lawEnv (L : Addr) : Env := envOfC (Str.ofString "law") lawFn.1.2.2 L 243 (.ref 242)
end

/-! ### VStart -/
theorem fresh58 {M : Model} {A : Around} {env : Env} {Q : Flow → Shared → Prop} {E : Value → Shared → Prop} {s : Shared} (h : Q .next s) : wpAny M A (execs [] env) Q E s := by
  w_top off
  (try walk1)
  all_goals first | exact h | exact wpAny_execs_nil h
section
section
/-- the names that a deed has set -/
abbrev KK (kk : Nat) (kd : Int) : (Str → Option Value) → Prop := fun m => (∃ t, m (Str.ofString "k") = some (.int kk t)) ∧ ∃ u, m (Str.ofString "kind") = some (.int kd u)
theorem fr9 {g h : Heap} {L : Addr} {m : Str → Option Value} {a1 a2 : Str} {v1 v2 : Value} (F : Fr g L h m) (e1 : m a1 = some v1) (e2 : m a2 = some v2) :
    Fr g L h (fun y => if y = a1 then some v1 else if y = a2 then some v2 else m y) := by
  have : m = (fun y => if y = a1 then some v1 else if y = a2 then some v2 else m y) := by
    funext y
    repeat (split; (rename_i q; rw [q]; assumption))
    rfl
  rw [← this]; exact F
variable {w : World} {s0 s' : Shared} {base gH : Heap} {p : Program} {loose : List Str} {mean : ExcName → Option Value} {mg mb : Str → Option Value} {L S Sc St I : Addr} {oc oz oI : Obj} {ws : List Value} {ns : List Int} {c2 sz kk tz : Nat} {Q : Flow → Shared → Prop} {E E' : Value → Shared → Prop}
theorem start_N (B : Below callerA base [] gH) (X : (Mine.hd.heap_39 w.params).In base) (T : Top p loose mean mg mb base) (hw : IntsAre ws ns) (hwz : ns.length ≤ 1000) {t : Tok}
    (hI : LawSt w s0 gH L S Sc (L + 1 + 1) (L + 1) St oc oz ws c2 sz kk [(I, oI)] s')
    (h : ∀ s'' kd, 0 ≤ kd → kd < 8 → LawStP (KK kk kd) w s0 gH L S Sc (L + 1 + 1) (L + 1) St oc oz ws c2 sz kk [(I, oI)] s'' → wpN (model PySem.Challenge.rw_vq0002_01.row.prog w) (callerA.deeper (lawEnv L)) (execs (deedB.1.drop 1) (lawEnv L)) Q E s'') :
    wpAny (model PySem.Challenge.rw_vq0002_01.row.prog w) (callerA.deeper (lawEnv L)) (storeName (lawEnv L) (Str.ofString "k") (.int (0 + (kk : Int)) t)) (fun _ s₂ => wpN (model PySem.Challenge.rw_vq0002_01.row.prog w) (callerA.deeper (lawEnv L)) (execs deedB.1 (lawEnv L)) Q E s₂) E' s' := by
  refine lawSt_elim hI fun hp tk gens m x dx fx fdx b c n Su Lo pl nr k1 k2 k3 k4 k5 k6 ts t1 t2 t3 td th ti i c1 fs oC oN oS oL oT kc kv kS kL kT C K SS LL TT e gb F0 N' Z hm p0 i0 hfr hfl hd hi apC apK hTT lo _ => ?_
  subst e
  clear hI
  have F' := fr7 F0 hm
  have hA := apart_of Z
  simp only [List.map_cons, List.map_nil, List.cons_append, List.nil_append] at hA N'
  walk_at "MINE apart15"
  revert X h
  dsimp only [lawEnv, lawFn, deedB, List.drop]
  k_fill
  intro X h
  have X' := X.keeps B.stays
  have T' := T.keeps B.stays
  generalize hd' : leB 4 sz ++ fs.flatten = d at *
  rw [Int.zero_add]
  show wpAny _ _ _ _ _ _
  k_fold
  walk_at "MINE steps"
  refine n_execs_cons (n_any ?_)
  k_fold
  walk_at "MINE steps"
  walk_at "MINE nx"
  with_reducible rename Fr _ _ _ _ => F'
  with_reducible rename News _ _ _ _ => N'
  subst hd'
  refine h _ _ ?r0 ?r1 ⟨_, _, gens, _, x, dx, fx, fdx, b, c, n, Su, Lo, pl, nr, k1, k2, k3, k4, k5, k6, ts, t1, t2, t3, td, th, ?ti, ?i, ?c1, fs, oC, oN, oS, oL, oT, kc, kv, kS, kL, kT, C, K, SS, LL, TT, rfl, gb, F', fun q hq => N' q ?_, ?nd, ⟨rfl, rfl, rfl, rfl, rfl, rfl, rfl⟩, p0, ?i0, hfr, hfl, hd, hi, apC, apK, hTT, lo, ⟨_, rfl⟩, _, rfl⟩
  rotate_left 5
  · revert q
    unfold walL
    simp only [List.cons_append, List.nil_append]
    walk_at "MINE subs"
  case nd => exact nd_obj Z rfl
  case r0 => assumption
  case r1 => assumption
  case i0 => assumption
end
end

/-! ### VComp -/
theorem fresh59 {M : Model} {A : Around} {env : Env} {Q : Flow → Shared → Prop} {E : Value → Shared → Prop} {s : Shared} (h : Q .next s) : wpAny M A (execs [] env) Q E s := by
  w_top off
  (try walk1)
  all_goals first | exact h | exact wpAny_execs_nil h
section
section
open PyProof.Rows.LCg
variable {prog : Program} {w : World} {A : Around} {E : Value → Shared → Prop} {s : Shared} {h₀ : Heap} {L : Addr} {m : Str → Option Value} {env : Env}
/-- a comprehension over a dict's keys -/
def SrcD (prog : Program) (w : World) (A : Around) (h₀ : Heap) (L : Addr) (m : Str → Option Value) (env : Env) (elt : Expr) (x : Str) (scope : Scope) (cl : List (Str × Addr)) (Q : Value → Shared → Prop) (xv : Value) (s₁ : Shared) : Prop :=
  ∃ (d : Addr) (o : Obj) (kvs : List (Int × Value)) (news : List (Addr × Obj)), xv = .ref d ∧ A.handled = none ∧ Fr h₀ L s₁.heap m ∧ News h₀ L s₁.heap news ∧ (d, o) ∈ news ∧ o.IsDictOf (intKind prog w) kvs ∧ (d == sysModules) = false ∧ kvs.length ≤ 1000 ∧
    ∀ s₂ : Shared, (∃ h, s₂ = { s₁ with heap := h }) → CompRest prog w A h₀ L m env elt x scope cl s₂ (fun nw => (d, o) ∈ nw) (fun i v => ∃ k x, kvs[i]? = some (k, x) ∧ (intKind prog w).is k v = true) (FinE h₀ L m s₂ Q) kvs.length 0 [] news
theorem ListComp_D {elt iter : Expr} {x : Str} {px : Pos} {scope : Scope} {cl : List (Str × Addr)} {pos : Pos} {Q : Value → Shared → Prop} (_F₀ : Fr h₀ L s.heap m)
    (hclos : closureFor scope env = pure cl) (hcell : ∀ y ∈ scope.names, y.2 ≠ .cell) (hkind : scope.kind = .function)
    (hnames : ∀ y ∈ scope.names, y.2 = .local → scope.names.lookup y.1 = some .local) (hx : scope.names.lookup x = some .local)
    (h : wpAny (model prog w) A (eval iter env) (SrcD prog w A h₀ L m env elt x scope cl Q) E s)
    (hs : ∀ x, foldedSetIterable iter env x = pure x := by intro _; rfl) :
    wpAny (model prog w) A (eval (.ListComp elt [⟨.Name x px, iter, [], 0⟩] scope pos) env) Q E s := by
  rw [eval_ListComp]
  refine wpAny_comprehension_free (use := none) rfl hs hclos hkind hnames (wpAny_mono h (fun xv s₁ h₁ => ?_) fun _ _ e => e)
  obtain ⟨d, o, kvs, news, rfl, hh, F, N, hm, hd, lo, hsz, R⟩ := h₁
  obtain ⟨ep, hat⟩ := KdkAt.of hd
  have hl := hat.dictAt (N _ hm).1
  have hlt : d < s₁.heap.objs.size := hl.lt_size
  refine wpAny_pyIter_dict lo hl ?_
  have up : ∀ b o, s₁.heap.get? b = some o → (s₁.heap.push { cls := .type "dict_keyiterator", data := .fields #[.ref d, .int 0 0, .int kvs.length 0, .int ep 0] }).get? b = some o := fun b o e => Heap.get?_push_of_some _ e
  refine block_U (S := fun nw => (d, o) ∈ nw) (Walks.dictKeys hh s₁.heap.objs.size d (Nat.ne_of_lt hlt) kvs ep) (by rw [sizeLine_eq]; omega) (fun i h st => by obtain ⟨o, e, _⟩ := st.1; exact ⟨o, e⟩)
    (fun i h h' o' nw st e e' k N' S => ⟨st.1.at fun o2 e2 => by rw [e] at e2; cases e2; exact e', hat.dictAt (N' _ S).1⟩) hcell hkind hx ⟨⟨_, Heap.get?_push_size _ rfl, rfl, rfl⟩, hl.at' fun o e => up d o e⟩ (fun b hb => ?_)
    (F.keeps up) (N.grown up) (Nat.ne_of_lt F.ns.lt) (next_is_new F) (fun p hp => Nat.ne_of_lt (Heap.lt_size (N p hp).1)) hm (R _ ⟨_, rfl⟩) ?_
  · show b < (s₁.heap.push _).objs.size
    rw [Heap.size_push]
    rcases List.mem_cons.mp hb with rfl | hb
    · exact Nat.lt_succ_self _
    · rw [List.mem_singleton.mp hb]; exact Nat.lt_succ_of_lt hlt
  · intro D C h tk m' ys news' F' N' o1 hn hC₀ hD₀ hCL hDL hCD offC fin
    refine ⟨m', hn, fun h'' hs'' => fin D h'' tk (F'.change hs'' hCL hC₀) (fun p hp => ?_) o1⟩
    refine ⟨hs''.extBut _ _ ?_ (N' p hp).1, (N' p hp).2⟩
    rcases List.mem_cons.mp hp with rfl | hp
    · exact Ne.symm hCD
    · exact offC p hp
/-- all of a list of truths -/
theorem all_true {D : Addr} {news : List (Addr × Obj)} {n : Nat} {Q : Value → Shared → Prop} (hh : A.handled = none) (N : News h₀ L s.heap news) (m1 : (D, lst (List.replicate n (.bool true))) ∈ news)
    (h : ∀ h' tk, (∀ b o, s.heap.get? b = some o → h'.get? b = some o) → Q (.bool true) { s with heap := h', toks := tk }) : wpAny (model prog w) A (call (.builtin "all") [.ref D]) Q E s := by
  have hl : s.heap.IsList D (List.replicate n (Value.bool true)).toArray := ⟨_, (N _ m1).1, rfl, _, rfl⟩
  have hlt : D < s.heap.objs.size := Heap.lt_size (N _ m1).1
  refine call_all_walk (wpAny_pyIter_list hl ?_)
  refine ⟨s.heap.objs.size, _, _, _, _, _, fun _ => true, rfl, Walks.list (A := A.in1) hh s.heap.objs.size D (Nat.ne_of_lt hlt) (List.replicate n (Value.bool true)).toArray, ⟨⟨_, Heap.get?_push_size _ rfl, rfl, rfl⟩, hl.push _⟩, fun i v s Q E hP hQ => ?_, fun h' tk hk => ?_⟩
  · have e : v = .bool true := by
      simp only [List.getElem?_toArray] at hP
      obtain ⟨_, e⟩ := List.getElem?_eq_some_iff.mp hP
      rw [← e]; simp
    rw [e]
    exact wpAny_truthy_bool hQ
  · rw [show (List.range (List.replicate n (Value.bool true)).toArray.size).all (fun _ => true) = true by simp]
    exact h h' tk fun b o e => hk b o (fun z => by rw [List.mem_singleton.mp z] at e; exact absurd (Heap.lt_size e) (Nat.lt_irrefl _)) (Heap.get?_push_of_some _ e)
end
end

/-! ### VTail -/
theorem fresh60 {M : Model} {A : Around} {env : Env} {Q : Flow → Shared → Prop} {E : Value → Shared → Prop} {s : Shared} (h : Q .next s) : wpAny M A (execs [] env) Q E s := by
  w_top off
  (try walk1)
  all_goals first | exact h | exact wpAny_execs_nil h
section
section
local macro_rules | `(tactic| walk_at "call ref") => `(tactic| (k_here; (try dsimp only [List.cons_append, List.nil_append]); (with_reducible show wpAny _ _ (call (Value.ref 238) [Value.ref _, Value.ref _]) _ _ _); refine Stop.go ?_))
local macro_rules | `(tactic| walk_at "binaryOp BitOr ref ref") => `(tactic| (k_here; (with_reducible rename Fr _ _ _ _ => F'); (with_reducible rename News _ _ _ _ => N'); k_dflt (refine' dict_orK F' N' ?m1 ?d1 ?m2 ?d2 ?l1 ?l2 ?z ?b ?_; (case m1 => k_mem); (case d1 => assumption); (case m2 => k_mem); (case d2 => assumption); (case l1 => assumption); (case l2 => assumption); (case z => omega); (case b => exact Top.nolimit (by assumption)); k_whole); intro D' h' o' F' N' l1 lo' hd'; (try k_lt l1); (try k_sweep)))
variable {w : World} {s0 s' : Shared} {base gH : Heap} {p : Program} {loose : List Str} {mean : ExcName → Option Value} {mg mb : Str → Option Value} {L S Sc St I : Addr} {oc oz oI : Obj} {ws : List Value} {c2 sz kk tz : Nat} {Q : Flow → Shared → Prop} {E : Value → Shared → Prop}
theorem tail_N (B : Below callerA base [] gH) (X : (Mine.hd.heap_39 w.params).In base) (T : Top p loose mean mg mb base) (hs : 3 ≤ sz) (hs6 : sz ≤ 6) (hk : kk ≤ 13) (dc : oc.data = .cell (some (.ref St))) (dz : oz.data = .cell (some (.int sz tz)))
    (hI : LawSt w s0 gH L S Sc (L + 1 + 1) (L + 1) St oc oz ws c2 sz kk [(I, oI)] s') (h : ∀ s'', LawSt w s0 gH L S Sc (L + 1 + 1) (L + 1) St oc oz ws c2 sz kk [(I, oI)] s'' → Q .next s'') :
    wpN (model PySem.Challenge.rw_vq0002_01.row.prog w) (callerA.deeper (lawEnv L)) (execs deedTail.1 (lawEnv L)) Q E s' := by
  refine lawSt_elim hI fun hp tk gens m x dx fx fdx b c n Su Lo pl nr k1 k2 k3 k4 k5 k6 ts t1 t2 t3 td th ti i c1 fs oC oN oS oL oT kc kv kS kL kT C K SS LL TT e gb F0 N' Z hm p0 i0 hfr hfl hd hi apC apK hTT lo _ => ?_
  subst e
  obtain ⟨hC, hN, hS, hL, hT⟩ := hd
  obtain ⟨iC, iK, aS, aL, aT⟩ := hi
  obtain ⟨lo1, lo2, lo3, lo4, lo5⟩ := lo
  clear hI
  have F' := fr7 F0 hm
  have hol := octs_len hfr hs6 (by omega)
  have zS := short_dict hS aS (ap_keys3 apC)
  have zL := short_dict hL aL (ap_keys3 apK)
  have hA := apart_of Z
  simp only [List.map_append, List.map_cons, List.map_nil, List.cons_append, List.nil_append] at hA N'
  walk_at "MINE apart15"
  have hD7 := apart_of (nd7 Z)
  revert X
  dsimp only [lawEnv, lawFn, deedTail]
  k_fill
  intro X
  have X' := X.keeps B.stays
  have T' := T.keeps B.stays
  have pN := places_of iK apK
  have pC := places_of iC apC
  have nk := dict_nodup hL
  have hEq : ∀ q : Int, 1 ≤ q → q ≤ 4 → ∃ t, (valueAt (merged kS kL) q).getD .none = bytesOr (pageAt (leB 4 sz ++ fs.flatten) sz kv kc q) t := fun q _ _ => told_eq iK iC aS aL apC apK nk q
  generalize hd : leB 4 sz ++ fs.flatten = d at *
  refine n_execs_cons (n_any ?_)
  k_fold
  walk_at "MINE steps"
  show wpAny _ _ (call _ _) _ _ _
  with_reducible rename Fr _ _ _ _ => F'
  with_reducible rename News _ _ _ _ => N'
  refine' told_K B X T F' N' rfl rfl rfl rfl ?room ?hu ?sub ?U ?D lo2 lo1 (by omega) (by omega) pN pC p0 hN hC ?hP ?loP ?ne hEq ?_
  case room => k_room
  case hu => simp only [units_deeper, units_caller, cLine_is]; omega
  case sub => unfold walL; simp only [List.cons_append, List.nil_append]; walk_at "MINE subs"
  case U => k_updF
  case D => exact hD7
  case hP => assumption
  case loP => assumption
  case ne => walk_at "MINE ne"
  clear F' N'
  intro h' t' pl' t3' p0' F' N'
  (try dsimp only)
  walk_at "MINE steps"
  refine n_execs_nil ?_
  (try dsimp only)
  with_reducible rename Fr _ _ _ _ => F'
  with_reducible rename News _ _ _ _ => N'
  subst hd
  refine h _ ⟨_, _, gens, _, x, dx, fx, fdx, b, c, n, Su, Lo, pl', nr, k1, k2, k3, k4, k5, k6, ts, t1, t2, t3', td, th, ti, i, c1, fs, oC, oN, oS, oL, oT, kc, kv, kS, kL, kT, C, K, SS, LL, TT, rfl, gb, F', fun q hq => N' q ?_, nd_obj Z rfl, ⟨rfl, rfl, rfl, rfl, rfl, rfl, rfl⟩, p0', i0, hfr, hfl, ⟨hC, hN, hS, hL, hT⟩, ⟨iC, iK, aS, aL, aT⟩, apC, apK, hTT, ⟨lo1, lo2, lo3, lo4, lo5⟩, trivial⟩
  revert q
  unfold walL
  simp only [List.cons_append, List.nil_append]
  walk_at "MINE subs"
end
end

/-! ### VPage -/
theorem fresh61 {M : Model} {A : Around} {env : Env} {Q : Flow → Shared → Prop} {E : Value → Shared → Prop} {s : Shared} (h : Q .next s) : wpAny M A (execs [] env) Q E s := by
  w_top off
  (try walk1)
  all_goals first | exact h | exact wpAny_execs_nil h
section
section
variable {prog : Program} {w : World} {A : Around} {E : Value → Shared → Prop} {s : Shared}
theorem rep_menu {b0 : UInt8} {i sz : Nat} {t u : Tok} {Q : Value → Shared → Prop} (hs : 3 ≤ sz) (hs6 : sz ≤ 6) (h : ∀ (e : List UInt8) t' k, 2 ≤ e.length → e.length ≤ 7 → Q (.bytes e.toArray t') { s with toks := k }) :
    wpAny (model prog w) A (binaryOp .Mult (.bytes #[b0] t) (.int ((sz : Int) + [0, 0, 0, 1, -1].getD i 0) u)) Q E s := by
  have q := kmn_any (l := [0, 0, 0, 1, -1]) (i := i) (d := 0) (lo := -1) (hi := 1) (by decide)
  generalize ([0, 0, 0, 1, -1] : List Int).getD i 0 = v at q
  refine bytes_mul_any (b := [b0]) (List.cons_ne_nil _ _) (by omega) (by omega) (by simp) fun t' k => h _ t' k ?_ ?_ <;> simp <;> omega
theorem page_cases {r : Int} {e : List UInt8} (sz : Nat) (h1 : r < 4) (h0 : 0 ≤ r) : (r = 0 ∨ 0 < r ∧ e.length ≠ sz) ∨ (0 < r ∧ e.length = sz) := by omega
end
section
local macro_rules | `(tactic| walk_at "binaryOp Mult bytes int") => `(tactic| (k_here; refine Stop.go ?_))
local macro_rules | `(tactic| walk_at "call ref") => `(tactic| (k_here; (try dsimp only [List.cons_append, List.nil_append]); (with_reducible show wpAny _ _ (call (Value.ref 219) [Value.ref _, Value.int _ _, Value.bytes _ _]) _ _ _); refine Stop.go ?_))
local macro_rules | `(tactic| walk_at "call ref") => `(tactic| (k_here; (try dsimp only [List.cons_append, List.nil_append]); (with_reducible show wpAny _ _ (call (Value.ref 226) [Value.int _ _, Value.int _ _, Value.bytes (List.toArray _) _]) _ _ _); (with_reducible rename Fr _ _ _ _ => F'); (with_reducible rename News _ _ _ _ => N'); k_dflt (refine' frame_K ?B ?X ?T F' N' rfl rfl rfl rfl ?room ?k0 ?k1 ?p0 ?p1 ?e ?_; (case B => assumption); (case X => assumption); (case T => assumption); (case room => k_room); (case k0 => decide); (case k1 => decide); (case p0 => omega); (case p1 => omega); (case e => first | omega | (simp only [List.length_nil]; omega)); k_whole); intro h' t' tr' F' N'; (try k_sweep)))
variable {w : World} {s0 s' : Shared} {base gH : Heap} {p : Program} {loose : List Str} {mean : ExcName → Option Value} {mg mb : Str → Option Value} {L S Sc St I : Addr} {oc oz oI : Obj} {ws : List Value} {ns : List Int} {c2 sz kk tz : Nat} {kd : Int} {Q : Flow → Shared → Prop} {E : Value → Shared → Prop}
theorem page_N (B : Below callerA base [] gH) (X : (Mine.hd.heap_39 w.params).In base) (T : Top p loose mean mg mb base) (hw : IntsAre ws ns) (hwz : ns.length ≤ 1000) (hs : 3 ≤ sz) (hs6 : sz ≤ 6) (hk : kk < 13) (dc : oc.data = .cell (some (.ref St))) (dz : oz.data = .cell (some (.int sz tz)))
    (hI : LawStP (KK kk kd) w s0 gH L S Sc (L + 1 + 1) (L + 1) St oc oz ws c2 sz kk [(I, oI)] s') (h : ∀ s'', LawSt w s0 gH L S Sc (L + 1 + 1) (L + 1) St oc oz ws c2 sz (kk + 1) [(I, oI)] s'' → Q .next s'') :
    wpN (model PySem.Challenge.rw_vq0002_01.row.prog w) (callerA.deeper (lawEnv L)) (execs deedIf.1.1 (lawEnv L)) Q E s' := by
  refine lawSt_elim hI fun hp tk gens m x dx fx fdx b c n Su Lo pl nr k1 k2 k3 k4 k5 k6 ts t1 t2 t3 td th ti i c1 fs oC oN oS oL oT kc kv kS kL kT C K SS LL TT e gb F0 N' Z hm p0 i0 hfr hfl hd hi apC apK hTT lo hkk => ?_
  subst e
  clear hI
  obtain ⟨⟨tkk, hkk⟩, tkd, hkd⟩ := hkk
  obtain ⟨hC, hN, hS, hL, hT⟩ := hd
  obtain ⟨iC, iK, aS, aL, aT⟩ := hi
  obtain ⟨lo1, lo2, lo3, lo4, lo5⟩ := lo
  have F1 := fr7 F0 hm
  have F' := fr9 (a1 := Str.ofString "k") (a2 := Str.ofString "kind") (v1 := .int kk tkk) (v2 := .int kd tkd) F1 hkk hkd
  clear F0 F1
  have hol := octs_len hfr hs6 (by omega)
  have hA := apart_of Z
  simp only [List.map_cons, List.map_nil, List.cons_append, List.nil_append] at hA N'
  walk_at "MINE apart15"
  have hD7 := apart_of (nd7 Z)
  have zN := short_dict hN iK (ap_keysC apK)
  have zL := short_dict hL aL (ap_keys3 apK)
  revert X h
  dsimp only [lawEnv, lawFn, deedIf, List.drop]
  k_fill
  intro X h
  have X' := X.keeps B.stays
  have T' := T.keeps B.stays
  generalize hd' : leB 4 sz ++ fs.flatten = d at *
  walk_at "MINE any1"
  walk_at "MINE any1"
  show wpAny _ _ (binaryOp _ _ _) _ _ _
  refine rep_menu hs hs6 fun e te tk2 he2 he7 => ?_
  (try dsimp only)
  walk_at "MINE steps"
  walk_at "MINE nx"
  (with_reducible rename _ < (4 : Int) => r4)
  rcases page_cases (e := e) sz r4 (by assumption) with hp0 | ⟨hp0, he⟩
  · have hp1 := hp0
    rcases hp1 with rfl | ⟨hp1, he⟩
    · walk_at "MINE any1"
      walk_at "MINE any1"
      show wpAny _ _ (call _ _) _ _ _
      with_reducible rename Fr _ _ _ _ => F'
      with_reducible rename News _ _ _ _ => N'
      refine' refT_K B X T F' N' rfl rfl rfl rfl ?room ?ne (hp0.imp id fun q => ⟨q.1, by omega, q.2⟩) (by omega) ?m1 ?m2 ?_
      case room => k_room
      case m1 => k_mem
      case m2 => k_mem
      case ne => walk_at "MINE ne"
      clear F' N'
      intro h' t' F' N'
      (try dsimp only)
      walk_at "MINE steps"
      walk_at "MINE nx"
      walk_at "MINE any1"
      refine n_execs_nil ?_
      (try dsimp only)
      with_reducible rename Fr _ _ _ _ => F'
      with_reducible rename News _ _ _ _ => N'
      subst hd'
      refine h _ ⟨_, _, gens, _, x, dx, fx, fdx, b, c, n, Su, Lo, pl, nr, k1, k2, k3, k4, k5, k6, ts, t1, t2, t3, td, th, ?ti, ?i, ?c1, fs, oC, oN, oS, oL, oT, kc, kv, kS, kL, kT, C, K, SS, LL, TT, rfl, gb, F', fun q hq => N' q ?_, ?nd, ⟨rfl, rfl, rfl, rfl, rfl, rfl, rfl⟩, p0, ?i0, hfr, by omega, ⟨hC, hN, hS, hL, hT⟩, ⟨iC, iK, aS, aL, aT⟩, apC, apK, hTT, ⟨lo1, lo2, lo3, lo4, lo5⟩, trivial⟩
      rotate_left 3
      · revert q
        unfold walL
        simp only [List.cons_append, List.nil_append]
        walk_at "MINE subs"
      case nd => exact nd_obj Z rfl
      case i0 => assumption
    · walk_at "MINE any1"
      have er : ((e.length : Int) != (sz : Int)) = true := by rw [bne_iff_ne]; omega
      with_reducible rename Fr _ _ _ _ => F'
      simp only [er] at F'
      walk_at "MINE any1"
      show wpAny _ _ (call _ _) _ _ _
      with_reducible rename Fr _ _ _ _ => F'
      with_reducible rename News _ _ _ _ => N'
      refine' refT_K B X T F' N' rfl rfl rfl rfl ?roomy ?ney (hp0.imp id fun q => ⟨q.1, by omega, q.2⟩) (by omega) ?m1y ?m2y ?_
      case roomy => k_room
      case m1y => k_mem
      case m2y => k_mem
      case ney => walk_at "MINE ne"
      clear F' N'
      intro h' t' F' N'
      (try dsimp only)
      walk_at "MINE steps"
      walk_at "MINE nx"
      walk_at "MINE any1"
      refine n_execs_nil ?_
      (try dsimp only)
      with_reducible rename Fr _ _ _ _ => F'
      with_reducible rename News _ _ _ _ => N'
      subst hd'
      refine h _ ⟨_, _, gens, _, x, dx, fx, fdx, b, c, n, Su, Lo, pl, nr, k1, k2, k3, k4, k5, k6, ts, t1, t2, t3, td, th, ?tiy, ?iy, ?c1y, fs, oC, oN, oS, oL, oT, kc, kv, kS, kL, kT, C, K, SS, LL, TT, rfl, gb, F', fun q hq => N' q ?_, ?ndy, ⟨rfl, rfl, rfl, rfl, rfl, rfl, rfl⟩, p0, ?i0y, hfr, by omega, ⟨hC, hN, hS, hL, hT⟩, ⟨iC, iK, aS, aL, aT⟩, apC, apK, hTT, ⟨lo1, lo2, lo3, lo4, lo5⟩, trivial⟩
      rotate_left 3
      · revert q
        unfold walL
        simp only [List.cons_append, List.nil_append]
        walk_at "MINE subs"
      case ndy => exact nd_obj Z rfl
      case i0y => assumption
  · walk_at "MINE any1"
    have er : ((e.length : Int) != (sz : Int)) = false := by rw [bne_eq_false_iff_eq]; omega
    with_reducible rename Fr _ _ _ _ => F'
    simp only [er] at F'
    with_reducible rename News _ _ _ _ => N'
    obtain ⟨i2, ti2, cc2, i02, N2⟩ : ∃ (i2 : Int) (ti2 cc2 : Nat), 0 ≤ i2 ∧ News gH L _ (walL w x dx fx fdx b c n sz pl nr k1 k2 k3 k4 k5 k6 ts t1 t2 t3 d oC oN ++ [(S, W.listOf #[.ref Sc, .int i2 ti2] cc2), (Sc, W.listOf ws.toArray c2), (L + 1 + 1, oc), (L + 1, oz), (St, oT), (Su, oS), (Lo, oL), (I, oI)]) := by
      refine' ⟨?iz, ?tiz, ?c1z, ?i0z, fun q hq => N' q ?_⟩
      rotate_left 4
      · revert q
        unfold walL
        simp only [List.cons_append, List.nil_append]
        walk_at "MINE subs"
      case i0z => assumption
    clear N'
    have Z2 : Nd (walL w x dx fx fdx b c n sz pl nr k1 k2 k3 k4 k5 k6 ts t1 t2 t3 d oC oN ++ [(S, W.listOf #[.ref Sc, .int i2 ti2] cc2), (Sc, W.listOf ws.toArray c2), (L + 1 + 1, oc), (L + 1, oz), (St, oT), (Su, oS), (Lo, oL), (I, oI)]) := nd_obj Z rfl
    have N' := N2
    simp only [List.cons_append, List.nil_append] at N'
    refine n_execs_cons (n_If (n_isTrue_Compare1 (n_Call_Name ?_)))
    k_fold
    walk_at "MINE steps"
    refine n_callWithA (K := Mine.hd.heap_39 w.params) (by k_is) ?_
    k_fold
    walk_at "MINE steps"
    with_reducible rename Fr _ _ _ _ => F'
    refine n_call (refF_c (call_below B F' rfl rfl rfl) X T rfl rfl (by k_room) hD7 lo2 (by omega) (by omega) (by omega) hC hN (by omega) hp0 (by omega) he (call_foot B N2 rfl fun q hq => List.mem_append_left _ hq) (post_K F' N2 Z2 fun h' t' t3' n' oC' oN' tt F' N' Z' hC' hN' lo' => ?_))
    (try dsimp only)
    clear N2
    have hA := apart_of Z'
    simp only [List.map_cons, List.map_nil, List.cons_append, List.nil_append] at hA N'
    walk_at "MINE apart15"
    walk_at "MINE steps"
    (try dsimp only)
    refine n_execs_nil ?_
    (try dsimp only)
    walk_at "MINE any1"
    refine n_execs_nil ?_
    (try dsimp only)
    with_reducible rename Fr _ _ _ _ => F'
    with_reducible rename News _ _ _ _ => N'
    have apK' := frame_ap apK hp0 r4 he
    have apC' := mono_as apC apK'
    rw [← snoc_oct hd'] at F' N' apK' apC'
    refine h _ ⟨_, _, gens, _, x, dx, fx, fdx, b, c, n', Su, Lo, ?plz, nr, k1, k2, k3, k4, k5, k6, ts, t1, t2, t3', _, th, ti2, i2, cc2, fs ++ [_], oC', oN', oS, ?oLz, oT, kc, _, kS, _, kT, C, _, SS, _, TT, rfl, gb, F', fun q hq => N' q ?sb, nd_obj Z' rfl, ⟨rfl, rfl, rfl, rfl, rfl, rfl, rfl⟩, ?p0, i02, frames_snoc hfr (.inl ⟨_, e, hp0, r4, he, rfl⟩), ?len, ⟨hC', hN', hS, ?hL, hT⟩, ⟨iC, iK.put _ ⟨tt, rfl⟩, aS, aL.put _ ⟨te, rfl⟩, aT⟩, apC', apK', hTT, ⟨lo1, lo', lo3, lo4, lo5⟩, trivial⟩
    case sb =>
      revert q
      unfold walL
      simp only [List.cons_append, List.nil_append]
      walk_at "MINE subs"
    case hL => assumption
    case p0 => omega
    case len => rw [List.length_append, List.length_singleton]; omega
end
end

/-! ### VComm -/
theorem fresh62 {M : Model} {A : Around} {env : Env} {Q : Flow → Shared → Prop} {E : Value → Shared → Prop} {s : Shared} (h : Q .next s) : wpAny M A (execs [] env) Q E s := by
  w_top off
  (try walk1)
  all_goals first | exact h | exact wpAny_execs_nil h
section
section
local macro_rules | `(tactic| walk_at "binaryOp Add bytes bytes") => `(tactic| (k_here; (with_reducible show wpAny _ _ (binaryOp Operator.Add (Value.bytes (List.toArray _) _) (Value.bytes (List.toArray _) _)) _ _ _); (refine add_octs ?_ ?_; first | omega | (simp only [leB_length, List.length_append, List.length_nil]; omega)); intro _ _))
local macro_rules | `(tactic| walk_at "call builtin:len") => `(tactic| (k_here; (with_reducible show wpAny _ _ (call (Value.builtin "len") [Value.ref _]) _ _ _); (with_reducible rename News _ _ _ _ => N'); k_dflt (refine' kda_len (knd := intKind _ _) N' ?m ?d ?lo ?z ?_; (case m => k_mem); (case d => assumption); (case lo => assumption); (case z => omega); k_whole)))
local macro_rules | `(tactic| walk_at "call ref") => `(tactic| (k_here; (try dsimp only [List.cons_append, List.nil_append]); (with_reducible show wpAny _ _ (call (Value.ref 226) [Value.int _ _, Value.int _ _, Value.bytes (List.toArray _) _]) _ _ _); (with_reducible rename Fr _ _ _ _ => F'); (with_reducible rename News _ _ _ _ => N'); k_dflt (refine' frame_K ?B ?X ?T F' N' rfl rfl rfl rfl ?room ?k0 ?k1 ?p0 ?p1 ?e ?_; (case B => assumption); (case X => assumption); (case T => assumption); (case room => k_room); (case k0 => decide); (case k1 => decide); (case p0 => omega); (case p1 => omega); (case e => first | omega | (simp only [List.length_nil]; omega)); k_whole); intro h' t' tr' F' N'; (try k_sweep)))
variable {w : World} {s0 s' : Shared} {base gH : Heap} {p : Program} {loose : List Str} {mean : ExcName → Option Value} {mg mb : Str → Option Value} {L S Sc St I : Addr} {oc oz oI : Obj} {ws : List Value} {ns : List Int} {c2 sz kk tz : Nat} {kd : Int} {Q : Flow → Shared → Prop} {E : Value → Shared → Prop}
theorem comm_N (B : Below callerA base [] gH) (X : (Mine.hd.heap_39 w.params).In base) (T : Top p loose mean mg mb base) (hs : 3 ≤ sz) (hs6 : sz ≤ 6) (hk : kk < 13) (hkd : kd < 6)
    (hI : LawStP (KK kk kd) w s0 gH L S Sc (L + 1 + 1) (L + 1) St oc oz ws c2 sz kk [(I, oI)] s') (h : ∀ s'', LawSt w s0 gH L S Sc (L + 1 + 1) (L + 1) St oc oz ws c2 sz (kk + 1) [(I, oI)] s'' → Q .next s'') :
    wpN (model PySem.Challenge.rw_vq0002_01.row.prog w) (callerA.deeper (lawEnv L)) (execs deedIf2.1.1 (lawEnv L)) Q E s' := by
  refine lawSt_elim hI fun hp tk gens m x dx fx fdx b c n Su Lo pl nr k1 k2 k3 k4 k5 k6 ts t1 t2 t3 td th ti i c1 fs oC oN oS oL oT kc kv kS kL kT C K SS LL TT e gb F0 N' Z hm p0 i0 hfr hfl hd hi apC apK hTT lo hkk => ?_
  subst e
  clear hI
  obtain ⟨⟨tkk, hkk⟩, tkd, hkd⟩ := hkk
  obtain ⟨hC, hN, hS, hL, hT⟩ := hd
  obtain ⟨iC, iK, aS, aL, aT⟩ := hi
  obtain ⟨lo1, lo2, lo3, lo4, lo5⟩ := lo
  have F1 := fr7 F0 hm
  have F' := fr9 (a1 := Str.ofString "k") (a2 := Str.ofString "kind") (v1 := .int kk tkk) (v2 := .int kd tkd) F1 hkk hkd
  clear F0 F1
  have hol := octs_len hfr hs6 (by omega)
  have N2 := N'
  simp only [List.cons_append, List.nil_append] at N'
  have hD7 := apart_of (nd7 Z)
  have zN := short_dict hN iK (ap_keysC apK)
  have zC := short_dict hC iC (ap_keysC apC)
  have zL := short_dict hL aL (ap_keys3 apK)
  have zS := short_dict hS aS (ap_keys3 apC)
  have el1 := iK.length
  have el2 := apK.length
  have el3 := aL.length
  revert X h
  dsimp only [lawEnv, lawFn, deedIf2, List.drop]
  k_fill
  intro X h
  have X' := X.keeps B.stays
  have T' := T.keeps B.stays
  generalize hd' : leB 4 sz ++ fs.flatten = d at *
  by_cases h0 : 0 < kv.length
  · refine n_execs_cons (n_IfAny ?_)
    k_fold
    walk_at "MINE steps"
    refine n_execs_cons (n_Expr (n_mcall0 (K := Mine.hd.heap_39 w.params) ?_))
    k_fold
    walk_at "MINE steps"
    with_reducible rename Fr _ _ _ _ => F'
    refine n_call (comm_c (call_below B F' rfl rfl rfl) X T rfl rfl (by k_room) hD7 lo2 (by omega) hC hN (by omega) (by omega) h0 (call_foot B N2 rfl fun q hq => List.mem_append_left _ hq) (post_K F' N2 Z fun h' t' t3' n' oC' oN' tt F' N' Z' hC' hN' lo' => ?_))
    (try dsimp only)
    clear N2
    have hA := apart_of Z'
    simp only [List.map_cons, List.map_nil, List.cons_append, List.nil_append] at hA N'
    walk_at "MINE apart15"
    walk_at "MINE any1"
    refine n_execs_nil ?_
    (try dsimp only)
    walk_at "MINE any1"
    walk_at "MINE any1"
    refine n_execs_nil ?_
    (try dsimp only)
    with_reducible rename Fr _ _ _ _ => F'
    with_reducible rename News _ _ _ _ => N'
    simp only [List.append_nil] at F'
    have apC' := (apK.merge apC).mono (leB 1 2 ++ leB 4 0)
    rw [← snoc_oct hd'] at F' N' apC'
    refine h _ ⟨_, _, gens, _, x, dx, fx, fdx, b, c, n', Su, _, ?plz, nr, k1, k2, k3, k4, k5, k6, ts, t1, t2, t3', _, th, ti, i, c1, fs ++ [_], oC', oN', ?oSz, ?oLz, oT, _, _, _, [], kT, _, [], _, [], TT, rfl, gb, F', fun q hq => N' q ?sb, ?nd, ⟨rfl, rfl, rfl, rfl, rfl, rfl, rfl⟩, ?p0, i0, frames_snoc hfr (.inr (.inl rfl)), ?len, ⟨hC', hN', ?hS, ?hL, hT⟩, ⟨iK.merge iC, .nil, aL.merge aS, .nil, aT⟩, apC', .nil, hTT, ⟨lo1, lo', lo3, ?lo, lo5⟩, trivial⟩
    case sb =>
      revert q
      unfold walL
      simp only [List.cons_append, List.nil_append]
      walk_at "MINE subs"
    case nd => exact nd_lo Z' (by simp only [List.forall_mem_cons, List.not_mem_nil, false_implies, implies_true, and_true]; omega)
    case hS => assumption
    case hL => assumption
    case lo => assumption
    case p0 => omega
    case len => rw [List.length_append, List.length_singleton]; omega
  · obtain rfl : kv = [] := List.length_eq_zero_iff.mp (by omega)
    obtain rfl : K = [] := List.length_eq_zero_iff.mp (by rw [← el1]; rfl)
    obtain rfl : LL = [] := List.length_eq_zero_iff.mp (by rw [← el2]; rfl)
    obtain rfl : kL = [] := List.length_eq_zero_iff.mp (by rw [el3]; rfl)
    refine n_execs_cons (n_IfAny ?_)
    k_fold
    walk_at "MINE steps"
    refine n_execs_cons (n_Expr (n_mcall0 (K := Mine.hd.heap_39 w.params) ?_))
    k_fold
    walk_at "MINE steps"
    with_reducible rename Fr _ _ _ _ => F'
    refine n_call (comm0_c (call_below B F' rfl rfl rfl) X T rfl rfl (by k_room) hD7 lo2 (by omega) hC hN rfl (call_foot B N2 rfl fun q hq => List.mem_append_left _ hq) (post_K F' N2 Z fun h' t' t3' n' oC' oN' tt F' N' Z' hC' hN' lo' => ?_))
    (try dsimp only)
    clear N2
    have hA := apart_of Z'
    simp only [List.map_cons, List.map_nil, List.cons_append, List.nil_append] at hA N'
    walk_at "MINE apart15"
    walk_at "MINE any1"
    refine n_execs_nil ?_
    (try dsimp only)
    walk_at "MINE any1"
    walk_at "MINE any1"
    refine n_execs_nil ?_
    (try dsimp only)
    with_reducible rename Fr _ _ _ _ => F'
    with_reducible rename News _ _ _ _ => N'
    rw [← hd'] at F' N' apC
    refine h _ ⟨_, _, gens, _, x, dx, fx, fdx, b, c, n', Su, _, ?plw, nr, k1, k2, k3, k4, k5, k6, ts, t1, t2, t3', td, th, ti, i, c1, fs, oC', oN', ?oSw, ?oLw, oT, kc, [], kS, [], kT, C, [], SS, [], TT, rfl, gb, F', fun q hq => N' q ?sbw, ?ndw, ⟨rfl, rfl, rfl, rfl, rfl, rfl, rfl⟩, ?p0w, i0, hfr, ?lenw, ⟨hC', hN', ?hSw, ?hLw, hT⟩, ⟨iC, .nil, aS, .nil, aT⟩, apC, .nil, hTT, ⟨lo1, lo', lo3, ?low, lo5⟩, trivial⟩
    case sbw =>
      revert q
      unfold walL
      simp only [List.cons_append, List.nil_append]
      walk_at "MINE subs"
    case ndw => exact nd_lo Z' (by simp only [List.forall_mem_cons, List.not_mem_nil, false_implies, implies_true, and_true]; omega)
    case hSw => assumption
    case hLw => assumption
    case low => assumption
    case p0w => omega
    case lenw => omega
theorem roll_N (B : Below callerA base [] gH) (X : (Mine.hd.heap_39 w.params).In base) (T : Top p loose mean mg mb base) (hs : 3 ≤ sz) (hs6 : sz ≤ 6) (hk : kk < 13) (hkd : 6 ≤ kd)
    (hI : LawStP (KK kk kd) w s0 gH L S Sc (L + 1 + 1) (L + 1) St oc oz ws c2 sz kk [(I, oI)] s') (h : ∀ s'', LawSt w s0 gH L S Sc (L + 1 + 1) (L + 1) St oc oz ws c2 sz (kk + 1) [(I, oI)] s'' → Q .next s'') :
    wpN (model PySem.Challenge.rw_vq0002_01.row.prog w) (callerA.deeper (lawEnv L)) (execs deedIf2.1.1 (lawEnv L)) Q E s' := by
  refine lawSt_elim hI fun hp tk gens m x dx fx fdx b c n Su Lo pl nr k1 k2 k3 k4 k5 k6 ts t1 t2 t3 td th ti i c1 fs oC oN oS oL oT kc kv kS kL kT C K SS LL TT e gb F0 N' Z hm p0 i0 hfr hfl hd hi apC apK hTT lo hkk => ?_
  subst e
  clear hI
  obtain ⟨⟨tkk, hkk⟩, tkd, hkd⟩ := hkk
  obtain ⟨hC, hN, hS, hL, hT⟩ := hd
  obtain ⟨iC, iK, aS, aL, aT⟩ := hi
  obtain ⟨lo1, lo2, lo3, lo4, lo5⟩ := lo
  have F1 := fr7 F0 hm
  have F' := fr9 (a1 := Str.ofString "k") (a2 := Str.ofString "kind") (v1 := .int kk tkk) (v2 := .int kd tkd) F1 hkk hkd
  clear F0 F1
  have hol := octs_len hfr hs6 (by omega)
  have N2 := N'
  simp only [List.cons_append, List.nil_append] at N'
  have hD7 := apart_of (nd7 Z)
  have zN := short_dict hN iK (ap_keysC apK)
  have zC := short_dict hC iC (ap_keysC apC)
  have zL := short_dict hL aL (ap_keys3 apK)
  have zS := short_dict hS aS (ap_keys3 apC)
  have el1 := iK.length
  have el2 := apK.length
  have el3 := aL.length
  revert X h
  dsimp only [lawEnv, lawFn, deedIf2, List.drop]
  k_fill
  intro X h
  have X' := X.keeps B.stays
  have T' := T.keeps B.stays
  generalize hd' : leB 4 sz ++ fs.flatten = d at *
  by_cases h0 : 0 < kv.length
  · refine n_execs_cons (n_IfAny ?_)
    k_fold
    walk_at "MINE steps"
    refine n_execs_cons (n_Expr (n_mcall0 (K := Mine.hd.heap_39 w.params) ?_))
    k_fold
    walk_at "MINE steps"
    with_reducible rename Fr _ _ _ _ => F'
    refine n_call (roll_c (call_below B F' rfl rfl rfl) X T rfl rfl (by k_room) hD7 lo2 (by omega) hC hN (by omega)  h0 (call_foot B N2 rfl fun q hq => List.mem_append_left _ hq) (post_K F' N2 Z fun h' t' t3' n' oC' oN' tt F' N' Z' hC' hN' lo' => ?_))
    (try dsimp only)
    clear N2
    have hA := apart_of Z'
    simp only [List.map_cons, List.map_nil, List.cons_append, List.nil_append] at hA N'
    walk_at "MINE apart15"
    refine n_execs_nil ?_
    (try dsimp only)
    walk_at "MINE any1"
    walk_at "MINE any1"
    refine n_execs_nil ?_
    (try dsimp only)
    with_reducible rename Fr _ _ _ _ => F'
    with_reducible rename News _ _ _ _ => N'
    simp only [List.append_nil] at F'
    have apC' := apC.mono (leB 1 3 ++ leB 4 0)
    rw [← snoc_oct hd'] at F' N' apC'
    refine h _ ⟨_, _, gens, _, x, dx, fx, fdx, b, c, n', Su, _, ?plz, nr, k1, k2, k3, k4, k5, k6, ts, t1, t2, t3', _, th, ti, i, c1, fs ++ [_], oC', oN', ?oSz, ?oLz, oT, _, _, _, [], kT, _, [], _, [], TT, rfl, gb, F', fun q hq => N' q ?sb, ?nd, ⟨rfl, rfl, rfl, rfl, rfl, rfl, rfl⟩, ?p0, i0, frames_snoc hfr (.inr (.inr rfl)), ?len, ⟨hC', hN', ?hS, ?hL, hT⟩, ⟨iC, .nil, aS, .nil, aT⟩, apC', .nil, hTT, ⟨lo1, lo', lo3, ?lo, lo5⟩, trivial⟩
    case sb =>
      revert q
      unfold walL
      simp only [List.cons_append, List.nil_append]
      walk_at "MINE subs"
    case nd => exact nd_lo Z' (by simp only [List.forall_mem_cons, List.not_mem_nil, false_implies, implies_true, and_true]; omega)
    case hS => assumption
    case hL => assumption
    case lo => assumption
    case p0 => omega
    case len => rw [List.length_append, List.length_singleton]; omega
  · obtain rfl : kv = [] := List.length_eq_zero_iff.mp (by omega)
    obtain rfl : K = [] := List.length_eq_zero_iff.mp (by rw [← el1]; rfl)
    obtain rfl : LL = [] := List.length_eq_zero_iff.mp (by rw [← el2]; rfl)
    obtain rfl : kL = [] := List.length_eq_zero_iff.mp (by rw [el3]; rfl)
    refine n_execs_cons (n_IfAny ?_)
    k_fold
    walk_at "MINE steps"
    refine n_execs_cons (n_Expr (n_mcall0 (K := Mine.hd.heap_39 w.params) ?_))
    k_fold
    walk_at "MINE steps"
    with_reducible rename Fr _ _ _ _ => F'
    refine n_call (roll0_c (call_below B F' rfl rfl rfl) X T rfl rfl (by k_room) hD7 lo2 (by omega) hC hN rfl (call_foot B N2 rfl fun q hq => List.mem_append_left _ hq) (post_K F' N2 Z fun h' t' t3' n' oC' oN' tt F' N' Z' hC' hN' lo' => ?_))
    (try dsimp only)
    clear N2
    have hA := apart_of Z'
    simp only [List.map_cons, List.map_nil, List.cons_append, List.nil_append] at hA N'
    walk_at "MINE apart15"
    refine n_execs_nil ?_
    (try dsimp only)
    walk_at "MINE any1"
    walk_at "MINE any1"
    refine n_execs_nil ?_
    (try dsimp only)
    with_reducible rename Fr _ _ _ _ => F'
    with_reducible rename News _ _ _ _ => N'
    rw [← hd'] at F' N' apC
    refine h _ ⟨_, _, gens, _, x, dx, fx, fdx, b, c, n', Su, _, ?plw, nr, k1, k2, k3, k4, k5, k6, ts, t1, t2, t3', td, th, ti, i, c1, fs, oC', oN', ?oSw, ?oLw, oT, kc, [], kS, [], kT, C, [], SS, [], TT, rfl, gb, F', fun q hq => N' q ?sbw, ?ndw, ⟨rfl, rfl, rfl, rfl, rfl, rfl, rfl⟩, ?p0w, i0, hfr, ?lenw, ⟨hC', hN', ?hSw, ?hLw, hT⟩, ⟨iC, .nil, aS, .nil, aT⟩, apC, .nil, hTT, ⟨lo1, lo', lo3, ?low, lo5⟩, trivial⟩
    case sbw =>
      revert q
      unfold walL
      simp only [List.cons_append, List.nil_append]
      walk_at "MINE subs"
    case ndw => exact nd_lo Z' (by simp only [List.forall_mem_cons, List.not_mem_nil, false_implies, implies_true, and_true]; omega)
    case hSw => assumption
    case hLw => assumption
    case low => assumption
    case p0w => omega
    case lenw => omega
end
end

/-! ### VMove -/
theorem fresh63 {M : Model} {A : Around} {env : Env} {Q : Flow → Shared → Prop} {E : Value → Shared → Prop} {s : Shared} (h : Q .next s) : wpAny M A (execs [] env) Q E s := by
  w_top off
  (try walk1)
  all_goals first | exact h | exact wpAny_execs_nil h
section
section
local macro_rules | `(tactic| walk_at "MINE tlmem") => `(tactic| first | assumption | (refine List.mem_cons_of_mem _ ?_; walk_at "MINE tlmem"))
local macro_rules | `(tactic| walk_at "getMethod ref") => `(tactic| (k_here; (with_reducible rename News _ _ _ _ => N'); (with_reducible show wpAny _ _ (getMethod (Value.ref _) (Str.ofString "items") _) _ _ _); k_dflt (refine' kob_method PySem.F.slot_dict_items PySem.F.type_dict_items N' ?m (knd := intKind _ _) ?d ?_; (case m => k_mem); (case d => assumption); k_whole)))
local macro_rules | `(tactic| walk_at "call builtin:dict.items") => `(tactic| (k_here; (with_reducible rename Fr _ _ _ _ => F'); (with_reducible rename News _ _ _ _ => N'); k_dflt (refine' kdx_view F' N' ?m (knd := intKind _ _) ?d ?lo ?_; (case m => k_mem); (case d => assumption); (case lo => assumption); k_whole); intro D' h' F' N' l1'))
local macro_rules | `(tactic| walk_at "call type:list") => `(tactic| (k_here; (with_reducible show wpAny _ _ (call (Value.type "list") [Value.ref _]) _ _ _); (with_reducible rename Fr _ _ _ _ => F'); (with_reducible rename News _ _ _ _ => N'); k_dflt (refine' items_listK rfl F' N' ?v ?m ?d ?a ?z ?_; (case v => k_mem); (case m => k_mem); (case d => assumption); (case a => assumption); (case z => omega); k_whole); intro B' cap' vs' h' t' F' N' l1' rv'; (try k_sweep)))
local macro_rules | `(tactic| walk_at "call ref") => `(tactic| (k_here; (try dsimp only [List.cons_append, List.nil_append]); (with_reducible show wpAny _ _ (call (Value.ref 77) [Value.ref _]) _ _ _); refine Stop.go ?_))
local macro_rules | `(tactic| walk_at "call builtin:dict.update") => `(tactic| (k_here; (with_reducible rename Fr _ _ _ _ => F'); (with_reducible rename News _ _ _ _ => N'); k_dflt (refine' dict_updL rfl F' N' ?U ?d ?m2 ?P ?ne ?z ?_; (case U => k_updF); (case d => assumption); (case m2 => k_mem); (case P => assumption); (case ne => walk_at "MINE ne"); (case z => omega); k_whole); intro h' t' o' F' N' hd' _; (try k_sweep)))
local macro_rules | `(tactic| walk_at "call builtin:len") => `(tactic| (k_here; (with_reducible show wpAny _ _ (call (Value.builtin "len") [Value.ref _]) _ _ _); k_dflt (refine' ba_lenL (d := []) ?hb ?hz ?_; (case hb => exact (News.get (by k_asm) (by k_mem))); (case hz => exact Nat.zero_le _); k_whole)))
local macro_rules | `(tactic| walk_at "compareOp NotEq ref ref") => `(tactic| (k_here; refine Stop.go ?_))
variable {w : World} {s0 s' : Shared} {base gH hp : Heap} {p : Program} {loose : List Str} {mean : ExcName → Option Value} {mg mb : Str → Option Value} {L S Sc St I x dx fx fdx b c n Su Lo : Addr} {oc oz oI oC oN oS oL oT : Obj} {ws : List Value} {ns : List Int} {c1 c2 sz kk tz tk : Nat} {kd pl i : Int} {nr : Bool} {k1 k2 k3 k4 k5 k6 ts t1 t2 t3 th ti : Tok} {Q : Flow → Shared → Prop} {E : Value → Shared → Prop}
  {gens : Array GenState} {m : Str → Option Value} {d : List UInt8} {kc kS kT : List (Int × Value)} {C : List (Int × Int)} {SS TT : List (Int × List UInt8)}
theorem move_N (B : Below callerA base [] gH) (X : (Mine.hd.heap_39 w.params).In base) (T : Top p loose mean mg mb base) (hs : 3 ≤ sz) (hs6 : sz ≤ 6) (dc : oc.data = .cell (some (.ref St))) (dz : oz.data = .cell (some (.int sz tz))) (gb : ∀ y ∈ gens, y.bare = true) (F0 : Fr gH L hp m)
    (N0 : News gH L hp (walL w x dx fx fdx b c n sz pl nr k1 k2 k3 k4 k5 k6 ts t1 t2 t3 d oC oN ++ [(S, W.listOf #[.ref Sc, .int i ti] c1), (Sc, W.listOf ws.toArray c2), (L + 1 + 1, oc), (L + 1, oz), (St, oT), (Su, oS), (Lo, oL), (I, oI)]))
    (Z : Nd (walL w x dx fx fdx b c n sz pl nr k1 k2 k3 k4 k5 k6 ts t1 t2 t3 d oC oN ++ [(S, W.listOf #[.ref Sc, .int i ti] c1), (Sc, W.listOf ws.toArray c2), (L + 1 + 1, oc), (L + 1, oz), (St, oT), (Su, oS), (Lo, oL), (I, oI)]))
    (e1 : m (Str.ofString "state") = some (.ref S)) (e2 : m (Str.ofString "wal") = some (.ref x)) (e3 : m (Str.ofString "log") = some (.ref fx)) (e4 : m (Str.ofString "head") = some (.bytes (leB 4 sz).toArray th)) (e5 : m (Str.ofString "sure") = some (.ref Su)) (p0 : 0 ≤ pl) (i0 : 0 ≤ i) (hol : d.length ≤ 147)
    (hC : oC.IsDictOf (kn w) kc) (hS : oS.IsDictOf (kn w) kS) (hT : oT.IsDictOf (kn w) kT) (iC : Ints kc C) (aS : All2 IsOcts kS SS) (aT : All2 IsOcts kT TT) (apC : AP d sz C SS) (hTT : ∀ q ∈ TT, 0 < q.1 ∧ q.1 < 4 ∧ q.2.length = sz)
    (lo1 : (c == sysModules) = false) (lo3 : (Su == sysModules) = false) (lo5 : (St == sysModules) = false)
    (h : ∀ s'', LawSt w s0 gH L S Sc (L + 1 + 1) (L + 1) St oc oz ws c2 sz kk [(I, oI)] s'' → Q .next s'') :
    wpN (model PySem.Challenge.rw_vq0002_01.row.prog w) (callerA.deeper (lawEnv L)) (execs moveB.1 (lawEnv L)) Q E { s0 with heap := hp, toks := tk, gens := gens } := by
  have F' := fr5 F0 e1 e2 e3 e4 e5
  have N' := N0
  have hA := apart_of Z
  simp only [List.map_cons, List.map_nil, List.cons_append, List.nil_append] at hA N'
  walk_at "MINE apart15"
  have zC := short_dict hC iC (ap_keysC apC)
  have zS := short_dict hS aS (ap_keys3 apC)
  have zT := short_dict hT aT fun q hq => ⟨(hTT q hq).1, (hTT q hq).2.1⟩
  revert X h
  dsimp only [lawEnv, lawFn, moveB, List.drop]
  k_fill
  intro X h
  have X' := X.keeps B.stays
  have T' := T.keeps B.stays
  refine n_execs_cons (n_Assign_Name (n_Call_Name ?_))
  k_fold
  walk_at "MINE steps"
  refine n_callWithT1 ?_
  k_fold
  walk_at "MINE steps"
  show wpAny _ _ (call _ _) _ _ _
  with_reducible rename Fr _ _ _ _ => F'
  with_reducible rename News _ _ _ _ => N'
  refine ckpt_K B X T F' N0 Z rfl rfl rfl rfl rfl (by k_room) lo1 (by omega) (by omega) p0 hC (by omega) (ap_places iC apC) gb fun IG t' hG gs0 XG lst => ?_
  (try dsimp only)
  clear N' F'
  walk_at "MINE steps"
  (try dsimp only)
  refine lst _ _ fun D cap h2 t2' g2 pl' t3' tl p0' F' N' Z' rl gb' => ?_
  clear lst
  simp only [List.cons_append, List.nil_append] at N'
  (try dsimp only)
  walk_at "MINE steps"
  walk_at "MINE nx"
  walk_at "MINE any1"
  show wpAny _ _ (compareOp _ _ _) _ _ _
  with_reducible rename Fr _ _ _ _ => F'
  with_reducible rename News _ _ _ _ => N'
  have tpp := told_pairs rl iC apC (fun q hq => (N' q (by walk_at "MINE tlmem")).1)
  obtain ⟨ps, hP, aPs⟩ := pairs_of tpp
  have zp := aPs.length
  have zs := aS.length
  refine' lists_ne (N' (D, lstObj _ cap) ?m1).1 (N' (_, W.listOf (List.toArray _) _) ?m2).1 ?u tpp ?rv ?_
  case m1 => k_mem
  case m2 => k_mem
  case u => simp only [units_deeper, units_caller, cLine_is]; omega
  case rv => assumption
  walk_at "MINE steps"
  walk_at "MINE nx"
  have Z3 : Nd ((fx, instObj 194 fdx) :: (fdx, octD w.params b pl' t1 t2 t3') :: (b, baObj [].toArray) :: (S, W.listOf #[.ref Sc, .int i ti] c1) :: (Sc, W.listOf ws.toArray c2) :: (L + 1 + 1, oc) :: (L + 1, oz) :: (St, oT) :: (Su, oS) :: (Lo, oL) :: (I, oI) :: [(D, lstObj (tl.map fun q => Value.ref q.1).toArray cap)]) :=
    nd_sub Z' (.cons _ (.cons _ (.cons₂ _ (.cons₂ _ (.cons₂ _ (.cons _ (.cons _ (.cons₂ _ (.cons₂ _ (.cons₂ _ (.cons₂ _ (.cons₂ _ (.cons₂ _ (.cons₂ _ (.cons₂ _ (.cons₂ _ (List.nil_sublist _)))))))))))))))))
  with_reducible rename Fr _ _ _ _ => F'
  with_reducible rename News _ _ _ _ => N'
  have N3 : News gH L _ ((fx, instObj 194 fdx) :: (fdx, octD w.params b pl' t1 t2 t3') :: (b, baObj [].toArray) :: (S, W.listOf #[.ref Sc, .int i ti] c1) :: (Sc, W.listOf ws.toArray c2) :: (L + 1 + 1, oc) :: (L + 1, oz) :: (St, oT) :: (Su, oS) :: (Lo, oL) :: (I, oI) :: [(D, lstObj (tl.map fun q => Value.ref q.1).toArray cap)]) := fun q hq => N' q (by revert q; walk_at "MINE subs")
  clear N' Z'
  have hA := apart_of Z3
  simp only [List.map_cons, List.map_nil, List.cons_append, List.nil_append] at hA
  walk_at "MINE apart12"
  walk_at "MINE any1"
  with_reducible rename Fr _ _ _ _ => F'
  with_reducible rename News _ _ _ _ => N'
  obtain ⟨oT', hT', N3⟩ : ∃ oT', oT'.IsDictOf (kn w) (merged kT ps) ∧ News gH L _ ((fx, instObj 194 fdx) :: (fdx, octD w.params b pl' t1 t2 t3') :: (b, baObj [].toArray) :: (S, W.listOf #[.ref Sc, .int i ti] c1) :: (Sc, W.listOf ws.toArray c2) :: (L + 1 + 1, oc) :: (L + 1, oz) :: (St, oT') :: (Su, oS) :: (Lo, oL) :: [(I, oI)]) := ⟨_, by assumption, fun q hq => N' q (by revert q; walk_at "MINE subs")⟩
  have Z1 : Nd ((fx, instObj 194 fdx) :: (fdx, octD w.params b pl' t1 t2 t3') :: (b, baObj [].toArray) :: (S, W.listOf #[.ref Sc, .int i ti] c1) :: (Sc, W.listOf ws.toArray c2) :: (L + 1 + 1, oc) :: (L + 1, oz) :: (St, oT') :: (Su, oS) :: (Lo, oL) :: [(I, oI)]) :=
    nd_sub Z3 (.cons₂ _ (.cons₂ _ (.cons₂ _ (.cons₂ _ (.cons₂ _ (.cons₂ _ (.cons₂ _ (.cons₂ _ (.cons₂ _ (.cons₂ _ (.cons₂ _ (List.nil_sublist _))))))))))))
  clear N' Z3
  have N' := N3
  clear N3
  refine n_execs_cons (n_Assign_Name (n_Call_Name ?_))
  k_fold
  walk_at "MINE steps"
  refine n_callWith (K := Mine.hd.heap_39 w.params) (by k_is) ?_
  refine n_spliced2 ?_
  refine n_Tuple ?_
  refine n_spliced2 ?_
  refine n_Call_Name ?_
  walk_at "MINE steps"
  with_reducible rename Fr _ _ _ _ => F'
  with_reducible rename News _ _ _ _ => N'
  refine n_callWith0 (K := Mine.hd.heap_39 w.params) ?hX2 (by k_is) ?_
  case hX2 => exact Frag.In.keeps X' F'.keep
  refine' octets_N (s := ⟨_, _, _, _, _⟩) B X T F' N' rfl rfl rfl rfl rfl ?room Z1 ?_
  case room => k_room
  clear F' N'
  intro h2 tk2 o1 do1 bo1 u1 u2 u3 F' N' Z2
  simp only [logL, List.cons_append, List.nil_append] at N' Z2
  (try dsimp only)
  walk_at "MINE steps"
  with_reducible rename Fr _ _ _ _ => F'
  with_reducible rename News _ _ _ _ => N'
  with_reducible rename _ ∧ _ => LL
  refine' walE_N2 (s := ⟨_, _, _, _, _⟩) (d := []) B X T F' N' rfl rfl rfl rfl rfl ?room2 Z1 ?LL ?sz rfl ?_
  case room2 => k_room
  case sz => omega
  case LL => simp only [AllLt, and_true]; exact LL
  clear F' N' LL Z2
  intro h3 tk3 x2 dx2 c2' n2 k1' k2' k3' k4' k5' k6' t3'' oC2 oN2 F' N' Z' hC2 hN2 loC loN
  have hA := apart_of Z'
  simp only [List.map_cons, List.map_nil, List.cons_append, List.nil_append] at hA N'
  walk_at "MINE apart15"
  (try dsimp only)
  walk_at "MINE steps"
  walk_at "MINE any1"
  walk_at "MINE any1"
  walk_at "MINE any1"
  walk_at "MINE any1"
  refine n_execs_nil ?_
  (try dsimp only)
  with_reducible rename Fr _ _ _ _ => F'
  with_reducible rename News _ _ _ _ => N'
  refine h _ ⟨_, _, g2, _, x2, dx2, fx, fdx, b, c2', n2, _, _, 4, false, k1', k2', k3', k4', k5', k6', tz, t1, t2, t3'', th, th, ti, i, c1, [], oC2, oN2, ?oSz, ?oLz, oT', [], [], [], [], merged kT ps, [], [], [], [], mergeP TT SS, rfl, gb', F', fun q hq => N' q ?sb, ?nd, ⟨rfl, rfl, rfl, rfl, by rw [List.flatten_nil, List.append_nil]; rfl, rfl, rfl⟩, by decide, i0, (fun q hq => by cases hq), Nat.zero_le _, ⟨hC2, hN2, ?hS, ?hL, hT'⟩, ⟨.nil, .nil, .nil, .nil, aPs.merge aT⟩, .nil, .nil, mergeP_all hTT (fun q hq => apC.all q hq), ⟨loC, loN, ?ls, ?ll, lo5⟩, trivial⟩
  case sb =>
    revert q
    rw [List.flatten_nil, List.append_nil]
    unfold walL
    simp only [List.cons_append, List.nil_append]
    walk_at "MINE subs"
  case nd => exact nd_lo (nd_su Z' (fun z => by simp only [List.mem_cons, List.not_mem_nil, or_false] at z; omega)) (by simp only [List.forall_mem_cons, List.not_mem_nil, false_implies, implies_true, and_true]; omega)
  case hS => assumption
  case hL => assumption
  case ls => assumption
  case ll => assumption
end
end

/-! ### VCut -/
theorem fresh64 {M : Model} {A : Around} {env : Env} {Q : Flow → Shared → Prop} {E : Value → Shared → Prop} {s : Shared} (h : Q .next s) : wpAny M A (execs [] env) Q E s := by
  w_top off
  (try walk1)
  all_goals first | exact h | exact wpAny_execs_nil h
section
section
local macro_rules | `(tactic| walk_at "call ref") => `(tactic| (k_here; (try dsimp only [List.cons_append, List.nil_append]); (with_reducible show wpAny _ _ (call (Value.ref 238) [Value.ref _, Value.ref _]) _ _ _); refine Stop.go ?_))
local macro_rules | `(tactic| walk_at "call ref") => `(tactic| (k_here; (try dsimp only [List.cons_append, List.nil_append]); (with_reducible show wpAny _ _ (call (Value.ref 233) [Value.bytes (List.toArray _) _, Value.int _ _]) _ _ _); refine Stop.go ?_))
variable {w : World} {s0 s' : Shared} {base gH : Heap} {p : Program} {loose : List Str} {mean : ExcName → Option Value} {mg mb : Str → Option Value} {L S Sc St I : Addr} {oc oz oI : Obj} {ws : List Value} {ns : List Int} {c2 sz kk tz : Nat} {kd : Int} {Q : Flow → Shared → Prop} {E : Value → Shared → Prop}
theorem cut_N (B : Below callerA base [] gH) (X : (Mine.hd.heap_39 w.params).In base) (T : Top p loose mean mg mb base) (hw : IntsAre ws ns) (hwz : ns.length ≤ 1000) (hs : 3 ≤ sz) (hs6 : sz ≤ 6) (hk : kk < 13) (dc : oc.data = .cell (some (.ref St))) (dz : oz.data = .cell (some (.int sz tz)))
    (hI : LawSt w s0 gH L S Sc (L + 1 + 1) (L + 1) St oc oz ws c2 sz kk [(I, oI)] s') (h : ∀ s'', LawSt w s0 gH L S Sc (L + 1 + 1) (L + 1) St oc oz ws c2 sz (kk + 1) [(I, oI)] s'' → Q .next s'') :
    wpN (model PySem.Challenge.rw_vq0002_01.row.prog w) (callerA.deeper (lawEnv L)) (execs moveIf.1.1 (lawEnv L)) (fun f s'' => match f with | .next => wpN (model PySem.Challenge.rw_vq0002_01.row.prog w) (callerA.deeper (lawEnv L)) (execs moveB.1 (lawEnv L)) Q E s'' | f => Q f s'') E s' := by
  refine lawSt_elim hI fun hp tk gens m x dx fx fdx b c n Su Lo pl nr k1 k2 k3 k4 k5 k6 ts t1 t2 t3 td th ti i c1 fs oC oN oS oL oT kc kv kS kL kT C K SS LL TT e gb F0 N' Z hm p0 i0 hfr hfl hd hi apC apK hTT lo hkk => ?_
  subst e
  clear hI
  obtain ⟨hC, hN, hS, hL, hT⟩ := hd
  obtain ⟨iC, iK, aS, aL, aT⟩ := hi
  obtain ⟨lo1, lo2, lo3, lo4, lo5⟩ := lo
  have F' := fr7 F0 hm
  clear F0
  have hol := octs_len hfr hs6 (by omega)
  have ho4 : 4 ≤ (leB 4 sz ++ fs.flatten).length := by rw [List.length_append, leB_length]; omega
  have Z1 : Nd ((S, W.listOf #[.ref Sc, .int i ti] c1) :: (Sc, W.listOf ws.toArray c2) :: (L + 1 + 1, oc) :: (L + 1, oz) :: (St, oT) :: (Su, oS) :: (Lo, oL) :: [(I, oI)]) := nd_sub Z (List.Sublist.map _ (List.sublist_append_right _ _))
  have N1 : News gH L hp ((S, W.listOf #[.ref Sc, .int i ti] c1) :: (Sc, W.listOf ws.toArray c2) :: (L + 1 + 1, oc) :: (L + 1, oz) :: (St, oT) :: (Su, oS) :: (Lo, oL) :: [(I, oI)]) := fun q hq => N' q (List.mem_append_right _ hq)
  clear N' Z
  have N' := N1
  clear N1
  have hA := apart_of Z1
  simp only [List.map_cons, List.map_nil] at hA
  walk_at "MINE apart8"
  revert X h
  dsimp only [lawEnv, lawFn, moveIf, List.drop]
  k_fill
  intro X h
  have X' := X.keeps B.stays
  have T' := T.keeps B.stays
  generalize hd' : leB 4 sz ++ fs.flatten = d at *
  walk_at "MINE any1"
  with_reducible rename _ = List.take _ d => hc
  obtain ⟨cut, hc4, hcut⟩ : ∃ cut : Nat, 4 ≤ cut ∧ _ = List.take cut d := ⟨_, by omega, hc⟩
  clear hc
  subst hcut
  have he4 := cut_len d cut hc4 ho4
  have hel : (d.take cut).length ≤ 147 := by rw [List.length_take]; omega
  have ehd := cut_head (sz := sz) (fs := fs) hc4 (by omega)
  have eok := cut_ok hfr cut
  have eap := cut_ap hfr cut
  rw [hd'] at ehd eok eap
  generalize d.take cut = e at *
  with_reducible rename Fr _ _ _ _ => F'
  with_reducible rename News _ _ _ _ => N'
  obtain ⟨i2, ti2, cc2, i02, N3⟩ : ∃ (i2 : Int) (ti2 cc2 : Nat), 0 ≤ i2 ∧ News gH L _ ((S, W.listOf #[.ref Sc, .int i2 ti2] cc2) :: (Sc, W.listOf ws.toArray c2) :: (L + 1 + 1, oc) :: (L + 1, oz) :: (St, oT) :: (Su, oS) :: (Lo, oL) :: [(I, oI)]) := by
    refine' ⟨?iz, ?tiz, ?c1z, ?i0z, fun q hq => N' q ?_⟩
    rotate_left 4
    · revert q
      walk_at "MINE subs"
    case i0z => assumption
  have Z3 : Nd ((S, W.listOf #[.ref Sc, .int i2 ti2] cc2) :: (Sc, W.listOf ws.toArray c2) :: (L + 1 + 1, oc) :: (L + 1, oz) :: (St, oT) :: (Su, oS) :: (Lo, oL) :: [(I, oI)]) := nd_obj Z1 rfl
  clear N' Z1
  have N' := N3
  clear N3
  refine n_execs_cons (n_Assign_Name (n_Call_Name ?_))
  k_fold
  walk_at "MINE steps"
  refine n_callWithA (K := Mine.hd.heap_39 w.params) (by k_is) ?_
  k_fold
  walk_at "MINE steps"
  with_reducible rename Fr _ _ _ _ => F'
  with_reducible rename News _ _ _ _ => N'
  refine' log_N (s := ⟨_, _, _, _, _⟩) B X T F' N' rfl rfl rfl rfl rfl ?room1 Z3 (by omega) (by omega) ?_
  case room1 => k_room
  clear F' N'
  intro h1 tk1 fx2 fdx2 b2 v1 v2 v3 F' N' Z1
  simp only [logL, List.cons_append, List.nil_append] at N' Z1
  (try dsimp only)
  walk_at "MINE steps"
  refine n_execs_cons (n_Assign_Name (n_Call_Name ?_))
  k_fold
  walk_at "MINE steps"
  refine n_callWith (K := Mine.hd.heap_39 w.params) (by k_is) ?_
  refine n_spliced2 ?_
  refine n_Tuple ?_
  refine n_spliced2 ?_
  refine n_Call_Name ?_
  walk_at "MINE steps"
  with_reducible rename Fr _ _ _ _ => F'
  with_reducible rename News _ _ _ _ => N'
  refine n_callWith0 (K := Mine.hd.heap_39 w.params) ?hX2 (by k_is) ?_
  case hX2 => exact Frag.In.keeps X' F'.keep
  refine' octets_N (s := ⟨_, _, _, _, _⟩) B X T F' N' rfl rfl rfl rfl rfl ?room2 Z1 ?_
  case room2 => k_room
  clear F' N'
  intro h2 tk2 o1 do1 bo1 u1 u2 u3 F' N' Z2
  simp only [logL, List.cons_append, List.nil_append] at N' Z2
  (try dsimp only)
  walk_at "MINE steps"
  with_reducible rename Fr _ _ _ _ => F'
  with_reducible rename News _ _ _ _ => N'
  with_reducible rename _ ∧ _ => LL
  refine' walL_N2 (s := ⟨_, _, _, _, _⟩) (d := e) (f := fs.length) B X T F' N' rfl rfl rfl rfl rfl ?room3 Z1 ?LL (by omega) (by omega) (by omega) he4 ehd (by omega) eok.ok ?_
  case room3 => k_room
  case LL => simp only [AllLt, and_true]; exact LL
  clear F' N' LL Z2
  intro h3 tk3 x2 dx2 c2' n2 k1' k2' k3' k4' k5' k6' t3'' oC2 oN2 pl2 kc2 p02 F' N' Z' hC2 iC2 hN2 loC loN
  have hA := apart_of Z'
  simp only [List.map_cons, List.map_nil, List.cons_append, List.nil_append] at hA N'
  walk_at "MINE apart15"
  (try dsimp only)
  walk_at "MINE steps"
  walk_at "MINE any1"
  show wpAny _ _ (call _ _) _ _ _
  with_reducible rename Fr _ _ _ _ => F'
  with_reducible rename News _ _ _ _ => N'
  refine recover_K B X T F' N' rfl rfl rfl rfl (by k_room) (by omega) (by omega) (by omega) (f := fs.length) (by omega) eok.ok fun h4 t4 D oD kD F' N' nD hD aD loD => ?_
  have nD2 := nD_sub (l' := walL w x2 dx2 fx2 fdx2 b2 c2' n2 sz pl2 true k1' k2' k3' k4' k5' k6' tz v1 v2 t3'' e oC2 oN2 ++ [(S, W.listOf #[.ref Sc, .int i2 ti2] cc2), (Sc, W.listOf ws.toArray c2), (L + 1 + 1, oc), (L + 1, oz), (St, oT), (Lo, oL), (I, oI)]) nD (by unfold walL; simp only [List.cons_append, List.nil_append]; walk_at "MINE subs")
  (try dsimp only)
  walk_at "MINE steps"
  walk_at "MINE nx"
  have Z4 := nodup_swap (l := [x2, dx2, fx2, fdx2, b2, c2', n2, S, Sc, L + 1 + 1, L + 1, St]) (r := [Lo, I]) (a' := D) Z' nD2
  have hA := apart_of Z4
  simp only [List.cons_append, List.nil_append] at hA
  walk_at "MINE apart15"
  have hD7 := apart_of (nd7 Z')
  have zD := short_dict hD aD (ap_keys3 eap)
  have pC := places_of iC2 eap
  have hEq : ∀ q : Int, 1 ≤ q → q ≤ 4 → ∃ t, (valueAt kD q).getD .none = bytesOr (pageAt e sz [] kc2 q) t := fun q _ _ => told_eq (kS := kD) (kL := []) .nil iC2 aD .nil eap (.nil : AP e sz [] []) List.nodup_nil q
  walk_at "MINE any1"
  show wpAny _ _ (call _ _) _ _ _
  with_reducible rename Fr _ _ _ _ => F'
  with_reducible rename News _ _ _ _ => N'
  refine' told_K B X T F' N' rfl rfl rfl rfl ?room4 ?hu ?sub ?U ?Da loN loC (by omega) (by omega) (places_of .nil .nil) pC p02 hN2 hC2 hD loD ?ne hEq ?_
  case room4 => k_room
  case hu => simp only [units_deeper, units_caller, cLine_is]; omega
  case sub => unfold walL; simp only [List.cons_append, List.nil_append]; walk_at "MINE subs"
  case U => k_updF
  case Da => exact hD7
  case ne => walk_at "MINE ne"
  clear F' N'
  intro h5 t5 pl5 t35 p05 F' N'
  (try dsimp only)
  walk_at "MINE steps"
  refine n_execs_nil ?_
  (try dsimp only)
  with_reducible rename Fr _ _ _ _ => F'
  with_reducible rename News _ _ _ _ => N'
  refine' move_N (Lo := Lo) (oL := oL) B X T hs hs6 dc dz gb F' (fun q hq => N' q ?sb2) ?Z5 rfl rfl rfl rfl rfl p05 i02 hel hC2 hD hT iC2 aD aT eap hTT loC loD lo5 h
  case sb2 =>
    revert q
    unfold walL
    simp only [List.cons_append, List.nil_append]
    walk_at "MINE subs"
  case Z5 => exact Z4
end
end

/-! ### VEnd -/
theorem fresh65 {M : Model} {A : Around} {env : Env} {Q : Flow → Shared → Prop} {E : Value → Shared → Prop} {s : Shared} (h : Q .next s) : wpAny M A (execs [] env) Q E s := by
  w_top off
  (try walk1)
  all_goals first | exact h | exact wpAny_execs_nil h
section
section
open PyProof.Rows.LCg
theorem comp_all {prog : Program} {w : World} {A : Around} {h₀ : Heap} {L : Addr} {m : Str → Option Value} {env : Env} {elt : Expr} {x : Str} {scope : Scope} {cl : List (Str × Addr)} {s : Shared} {S : List (Addr × Obj) → Prop} {P : Nat → Value → Prop} {Fin : List Value → List (Addr × Obj) → Prop} {n : Nat} {news : List (Addr × Obj)}
    (turn : ∀ i ys v I oI C oC D m₂ h tk (E' : Value → Shared → Prop), P i v → NsObj oC m₂ → m₂ x = some v → Fr h₀ L h m → News h₀ L h ((I, oI) :: (C, oC) :: (D, lst ys) :: news) → Off3 I C D news → ((@Ne Nat I C) ∧ (@Ne Nat I D) ∧ (@Ne Nat C D)) →
      wpAny (model prog w) A (eval elt (compEnvC scope cl C env)) (CompEnd h₀ L m { s with heap := h, toks := tk } I oI C oC D (lst ys) S (fun y news' => y = .bool true ∧ news' = news)) E' { s with heap := h, toks := tk })
    (fin : Fin (List.replicate n (.bool true)) news) : ∀ k i, i + k = n → CompRest prog w A h₀ L m env elt x scope cl s S P Fin k i (List.replicate i (.bool true)) news := by
  intro k
  induction k with
  | zero => intro i hi; obtain rfl : i = n := by omega
            exact CompRest.zero fin
  | succ k ih =>
    intro i hi
    refine CompRest.succ fun v I oI C oC D m₂ h tk E' p1 p2 p3 p4 p5 p6 p7 => wpAny_mono (turn i _ v I oI C oC D m₂ h tk E' p1 p2 p3 p4 p5 p6 p7) (fun y s₂ hy => ?_) fun _ _ e => e
    obtain ⟨h', tk', news', e1, e2, e3, e4, e5, rfl, rfl⟩ := hy
    refine ⟨h', tk', _, e1, e2, e3, e4, e5, ?_⟩
    have z := ih (i + 1) (by omega)
    rw [List.replicate_succ'] at z
    exact z
theorem kvs_look {kv : List (Int × Value)} (nd : (kv.map (·.1)).Nodup) {i : Nat} {k : Int} {v : Value} (h : kv[i]? = some (k, v)) : valueAt kv k = some v := by
  induction kv generalizing i with
  | nil => simp at h
  | cons p r ih =>
    obtain ⟨n1, n2⟩ := List.nodup_cons.mp nd
    unfold valueAt at ih ⊢
    cases i with
    | zero => simp at h; subst h; rw [List.find?_cons_of_pos (by simp)]; rfl
    | succ i =>
      have hm := List.mem_of_getElem? (show r[i]? = some (k, v) by simpa using h)
      rw [List.find?_cons_of_neg (by simpa using fun e : p.1 = k => n1 (List.mem_map.mpr ⟨_, hm, e.symm⟩))]
      exact ih n2 (by simpa using h)
theorem all2_at {β : Type} {r : Value → β → Prop} {kv : List (Int × Value)} {l : List (Int × β)} (a : All2 r kv l) {i : Nat} {k : Int} {v : Value} (h : kv[i]? = some (k, v)) : ∃ b, (k, b) ∈ l ∧ r v b := by
  induction a generalizing i with
  | nil => simp at h
  | cons e _ ih =>
    cases i with
    | zero => simp at h; obtain ⟨rfl, rfl⟩ := h; exact ⟨_, .head _, e⟩
    | succ i =>
      obtain ⟨b, h1, h2⟩ := ih (by simpa using h)
      exact ⟨b, .tail _ h1, h2⟩
local macro_rules | `(tactic| walk_at "eval ListComp") => `(tactic| (k_here; refine Stop.go ?_))
local macro_rules | `(tactic| walk_at "subscriptTail") => `(tactic| (k_here; (with_reducible show wpAny _ _ (subscriptTail _ _ (Value.ref _) (Value.int _ _)) _ _ _); (with_reducible rename News _ _ _ _ => N'); k_dflt (refine' kda_item N' ?m ?d ?k ?l ?_; (case m => k_mem); (case d => assumption); (case k => exact intKind_is _ _ _ _); (case l => assumption))))
local macro_rules | `(tactic| walk_at "call builtin:all") => `(tactic| (k_here; refine Stop.go ?_))
variable {w : World} {s0 s' : Shared} {base gH : Heap} {p : Program} {loose : List Str} {mean : ExcName → Option Value} {mg mb : Str → Option Value} {L S Sc St : Addr} {oc oz : Obj} {ws : List Value} {c2 sz kk tz : Nat} {mid : List (Addr × Obj)} {Q : Flow → Shared → Prop} {E : Value → Shared → Prop}
theorem end_N (B : Below callerA base [] gH) (X : (Mine.hd.heap_39 w.params).In base) (T : Top p loose mean mg mb base) (hs6 : sz ≤ 6) (dc : oc.data = .cell (some (.ref St))) (dz : oz.data = .cell (some (.int sz tz)))
    (hI : LawSt w s0 gH L S Sc (L + 1 + 1) (L + 1) St oc oz ws c2 sz kk mid s') (h : ∀ h' t' gens m', (∀ y ∈ gens, y.bare = true) → Fr gH L h' m' → Q (.ret (.bool true)) { s0 with heap := h', toks := t', gens := gens }) :
    wpN (model PySem.Challenge.rw_vq0002_01.row.prog w) (callerA.deeper (lawEnv L)) (execs lawEnd.1 (lawEnv L)) Q E s' := by
  refine lawSt_elim hI fun hp tk gens m x dx fx fdx b c n Su Lo pl nr k1 k2 k3 k4 k5 k6 ts t1 t2 t3 td th ti i c1 fs oC oN oS oL oT kc kv kS kL kT C K SS LL TT e gb F0 N0 Z hm p0 i0 hfr hfl hd hi apC apK hTT lo _ => ?_
  subst e
  clear hI
  have F' := fr7 F0 hm
  clear F0
  have hT := hd.2.2.2.2
  have aT := hi.2.2.2.2
  have lo5 := lo.2.2.2.2
  have N' : News gH L hp [(L + 1 + 1, oc), (L + 1, oz), (St, oT)] := fun q hq => N0 q (by
    refine List.mem_append_right _ ?_
    revert q
    walk_at "MINE subs")
  clear N0 Z
  have zT := short_dict hT aT fun q hq => ⟨(hTT q hq).1, (hTT q hq).2.1⟩
  revert X h
  dsimp only [lawEnv, lawFn, lawEnd, List.drop]
  k_fill
  intro X h
  have X' := X.keeps B.stays
  have T' := T.keeps B.stays
  refine n_execs_cons (n_any ?_)
  k_fold
  walk_at "MINE steps"
  show wpAny _ _ (eval _ _) _ _ _
  refine ListComp_D F' (by rfl) (by decide) (by rfl) (by decide) (by rfl) ?_
  k_fold
  walk_at "MINE steps"
  refine ⟨St, oT, kT, _, rfl, rfl, F', N', by k_mem, hT, lo5, by omega, ?_⟩
  rintro s₂ ⟨g, rfl⟩
  refine comp_all (n := kT.length) ?turn ?fin kT.length 0 (by omega)
  case turn =>
    clear F' N'
    intro i2 ys v IT oIT C2 oC2 D m₂ h2 tk2 E' hP hC2 hm2 F' N' off ne
    obtain ⟨ky, vx, hx, hk⟩ := hP
    obtain ⟨tky, rfl⟩ := Value.isInt_shape hk
    obtain ⟨l, hl1, t', rfl⟩ := all2_at aT hx
    obtain ⟨q1, q2, q3⟩ := hTT _ hl1
    have hv := kvs_look (dict_nodup hT) hx
    dsimp only at q1 q2 q3
    show wpAny _ _ (eval _ _) _ _ _
    k_fold
    walk_at "MINE steps"
    show wpAny _ _ (subscriptTail _ _ _ _) _ _ _
    refine' kda_item (knd := intKind _ _) N' ?m ?d ?k ?l ?_
    case m => k_mem
    case d => exact hT
    case k => exact intKind_is _ _ _ _
    case l => exact hv
    walk_at "MINE steps"
    exact CompEnd.intro F' N' _ (fun p hp => hp) off (by k_mem) ⟨by rw [decide_eq_true q2], rfl⟩
  case fin =>
    clear F' N'
    intro D h3 tk3 F' N' o1
    (try dsimp only)
    walk_at "MINE steps"
    show wpAny _ _ (call _ _) _ _ _
    refine all_true rfl N' (by k_mem) fun h4 tk4 kp => ?_
    (try dsimp only)
    walk_at "MINE steps"
    exact h _ _ _ _ gb (F'.keeps kp)
end
end

/-! ### VDeed -/
theorem fresh66 {M : Model} {A : Around} {env : Env} {Q : Flow → Shared → Prop} {E : Value → Shared → Prop} {s : Shared} (h : Q .next s) : wpAny M A (execs [] env) Q E s := by
  w_top off
  (try walk1)
  all_goals first | exact h | exact wpAny_execs_nil h
section
section
variable {w : World} {s0 s' : Shared} {base gH : Heap} {p : Program} {loose : List Str} {mean : ExcName → Option Value} {mg mb : Str → Option Value} {L S Sc cs cz St I : Addr} {oc oz oI oI' : Obj} {ws : List Value} {ns : List Int} {c2 sz kk tz tk : Nat} {kd : Int} {Q : Flow → Shared → Prop} {E E' : Value → Shared → Prop}
/-- the range's own object may turn -/
theorem lawSt_mid {h' : Heap} (hI : LawSt w s0 gH L S Sc cs cz St oc oz ws c2 sz kk [(I, oI)] s') (e : h'.get? I = some oI') (kp : ∀ b o, b ≠ I → s'.heap.get? b = some o → h'.get? b = some o) :
    LawSt w s0 gH L S Sc cs cz St oc oz ws c2 sz kk [(I, oI')] { s' with heap := h', toks := tk } := by
  refine lawSt_elim hI fun hp tk gens m x dx fx fdx b c n Su Lo pl nr k1 k2 k3 k4 k5 k6 ts t1 t2 t3 td th ti i c1 fs oC oN oS oL oT kc kv kS kL kT C K SS LL TT e0 gb F N Z hm p0 i0 hfr hfl hd hi apC apK hTT lo hkk => ?_
  subst e0
  dsimp only at kp
  have k : Keep [I] hp h' := fun b o e n => kp b o (fun z => n (List.mem_singleton.mpr z)) e
  have mI : ∀ {oo : Obj}, (I, oo) ∈ (walL w x dx fx fdx b c n sz pl nr k1 k2 k3 k4 k5 k6 ts t1 t2 t3 (leB 4 sz ++ fs.flatten) oC oN ++ ((S, W.listOf #[.ref Sc, .int i ti] c1) :: (Sc, W.listOf ws.toArray c2) :: (cs, oc) :: (cz, oz) :: (St, oT) :: (Su, oS) :: (Lo, oL) :: [(I, oo)])) := fun {oo} =>
    List.mem_append_right _ (.tail _ (.tail _ (.tail _ (.tail _ (.tail _ (.tail _ (.tail _ (.head _))))))))
  have pre : ∀ {oo : Obj}, (walL w x dx fx fdx b c n sz pl nr k1 k2 k3 k4 k5 k6 ts t1 t2 t3 (leB 4 sz ++ fs.flatten) oC oN ++ ((S, W.listOf #[.ref Sc, .int i ti] c1) :: (Sc, W.listOf ws.toArray c2) :: (cs, oc) :: (cz, oz) :: (St, oT) :: (Su, oS) :: (Lo, oL) :: [(I, oo)])) =
      (walL w x dx fx fdx b c n sz pl nr k1 k2 k3 k4 k5 k6 ts t1 t2 t3 (leB 4 sz ++ fs.flatten) oC oN ++ [(S, W.listOf #[.ref Sc, .int i ti] c1), (Sc, W.listOf ws.toArray c2), (cs, oc), (cz, oz), (St, oT), (Su, oS), (Lo, oL)]) ++ [(I, oo)] := fun {oo} => rfl
  have Z2 := Z
  unfold Nd at Z2
  rw [pre, List.map_append] at Z2
  refine ⟨h', _, gens, m, x, dx, fx, fdx, b, c, n, Su, Lo, pl, nr, k1, k2, k3, k4, k5, k6, ts, t1, t2, t3, td, th, ti, i, c1, fs, oC, oN, oS, oL, oT, kc, kv, kS, kL, kT, C, K, SS, LL, TT, rfl, gb, back_fr F N k (mods1 mI), back_new N F k fun q hq => ?_, nd_obj Z rfl, hm, p0, i0, hfr, hfl, hd, hi, apC, apK, hTT, lo, trivial⟩
  rw [pre] at hq
  rcases List.mem_append.mp hq with z | z
  · refine .inl ⟨?_, fun y => (List.nodup_append.mp Z2).2.2 q.1 (List.mem_map_of_mem z) I (List.mem_singleton.mpr rfl) (List.mem_singleton.mp y)⟩
    rw [pre]
    exact List.mem_append_left _ z
  · rw [List.mem_singleton.mp z]
    exact .inr ⟨e, .inl ⟨_, mI⟩⟩
/-- the deed that moves, with the log cut ahead or not -/
theorem mv_N (B : Below callerA base [] gH) (X : (Mine.hd.heap_39 w.params).In base) (T : Top p loose mean mg mb base) (hw : IntsAre ws ns) (hwz : ns.length ≤ 1000) (hs : 3 ≤ sz) (hs6 : sz ≤ 6) (hk : kk < 13) (dc : oc.data = .cell (some (.ref St))) (dz : oz.data = .cell (some (.int sz tz)))
    (hI : LawStP (KK kk kd) w s0 gH L S Sc (L + 1 + 1) (L + 1) St oc oz ws c2 sz kk [(I, oI)] s') (h : ∀ s'', LawSt w s0 gH L S Sc (L + 1 + 1) (L + 1) St oc oz ws c2 sz (kk + 1) [(I, oI)] s'' → Q .next s'') :
    wpN (model PySem.Challenge.rw_vq0002_01.row.prog w) (callerA.deeper (lawEnv L)) (execs deedIf2.1.2 (lawEnv L)) Q E s' := by
  refine lawSt_elim hI fun hp tk gens m x dx fx fdx b c n Su Lo pl nr k1 k2 k3 k4 k5 k6 ts t1 t2 t3 td th ti i c1 fs oC oN oS oL oT kc kv kS kL kT C K SS LL TT e gb F0 N' Z hm p0 i0 hfr hfl hd hi apC apK hTT lo _ => ?_
  subst e
  clear hI
  have F' := fr7 F0 hm
  clear F0
  have hol := octs_len hfr hs6 (by omega)
  have hA := apart_of Z
  simp only [List.map_cons, List.map_nil, List.cons_append, List.nil_append] at hA N'
  walk_at "MINE apart15"
  revert X h
  rw [show (deedIf2.1.2 : List Stmt) = deedIf2.1.2.take 1 ++ moveB.1 from rfl]
  dsimp only [lawEnv, lawFn, deedIf2, List.take, List.cons_append, List.nil_append]
  k_fill
  intro X h
  have X' := X.keeps B.stays
  have T' := T.keeps B.stays
  generalize hd' : leB 4 sz ++ fs.flatten = d at *
  refine n_execs_cons (n_IfAny ?_)
  k_fold
  walk_at "MINE steps"
  all_goals (with_reducible rename Fr _ _ _ _ => F'; with_reducible rename News _ _ _ _ => N'; subst hd')
  · refine cut_N B X T hw hwz hs hs6 hk dc dz ⟨_, _, gens, _, x, dx, fx, fdx, b, c, n, Su, Lo, pl, nr, k1, k2, k3, k4, k5, k6, ts, t1, t2, t3, td, th, ?ti, ?i, ?c1, fs, oC, oN, oS, oL, oT, kc, kv, kS, kL, kT, C, K, SS, LL, TT, rfl, gb, F', fun q hq => N' q ?_, ?nd, ⟨rfl, rfl, rfl, rfl, rfl, rfl, rfl⟩, p0, ?i0, hfr, hfl, hd, hi, apC, apK, hTT, lo, trivial⟩ h
    rotate_left 3
    · revert q
      unfold walL
      simp only [List.cons_append, List.nil_append]
      walk_at "MINE subs"
    case nd => exact nd_obj Z rfl
    case i0 => assumption
  · refine n_execs_nil ?_
    (try dsimp only)
    refine' move_N (dx := dx) (fdx := fdx) (b := b) (n := n) (Lo := Lo) (oN := oN) (oL := oL) (nr := nr) (k1 := k1) (k2 := k2) (k3 := k3) (k4 := k4) (k5 := k5) (k6 := k6) (ts := ts) (t1 := t1) (t2 := t2) (t3 := t3) B X T hs hs6 dc dz gb F' (i := ?iy) (ti := ?tiy) (c1 := ?c1y) (fun q hq => N' q ?_) ?ndy rfl rfl rfl rfl rfl p0 ?i0y hol hd.1 hd.2.2.1 hd.2.2.2.2 hi.1 hi.2.2.1 hi.2.2.2.2 apC hTT lo.1 lo.2.2.1 lo.2.2.2.2 h
    rotate_left 3
    · revert q
      unfold walL
      simp only [List.cons_append, List.nil_append]
      walk_at "MINE subs"
    case ndy => exact nd_obj Z rfl
    case i0y => assumption
/-- one deed -/
theorem deed_N (B : Below callerA base [] gH) (X : (Mine.hd.heap_39 w.params).In base) (T : Top p loose mean mg mb base) (hw : IntsAre ws ns) (hwz : ns.length ≤ 1000) (hs : 3 ≤ sz) (hs6 : sz ≤ 6) (hk : kk < 13) (dc : oc.data = .cell (some (.ref St))) (dz : oz.data = .cell (some (.int sz tz))) {t : Tok}
    (hI : LawSt w s0 gH L S Sc (L + 1 + 1) (L + 1) St oc oz ws c2 sz kk [(I, oI)] s') (h : ∀ s'', LawSt w s0 gH L S Sc (L + 1 + 1) (L + 1) St oc oz ws c2 sz (kk + 1) [(I, oI)] s'' → Q .next s'') :
    wpAny (model PySem.Challenge.rw_vq0002_01.row.prog w) (callerA.deeper (lawEnv L)) (storeName (lawEnv L) (Str.ofString "k") (.int (0 + (kk : Int)) t)) (fun _ s₂ => wpN (model PySem.Challenge.rw_vq0002_01.row.prog w) (callerA.deeper (lawEnv L)) (execs deedB.1 (lawEnv L)) Q E s₂) E' s' := by
  refine start_N B X T hw hwz hI fun s2 kd k0 k8 hP => ?_
  have tl : ∀ s3, LawSt w s0 gH L S Sc (L + 1 + 1) (L + 1) St oc oz ws c2 sz (kk + 1) [(I, oI)] s3 → wpN (model PySem.Challenge.rw_vq0002_01.row.prog w) (callerA.deeper (lawEnv L)) (execs deedTail.1 (lawEnv L)) Q E s3 := fun s3 h3 => tail_N B X T hs hs6 (by omega) dc dz h3 h
  clear h hI
  refine lawSt_elim hP fun hp tk gens m x dx fx fdx b c n Su Lo pl nr k1 k2 k3 k4 k5 k6 ts t1 t2 t3 td th ti i c1 fs oC oN oS oL oT kc kv kS kL kT C K SS LL TT e gb F0 N0 Z hm p0 i0 hfr hfl hd hi apC apK hTT lo hkk => ?_
  subst e
  clear hP
  obtain ⟨⟨tkk, hkk1⟩, tkd, hkd⟩ := id hkk
  have F' := fr9 (a1 := Str.ofString "k") (a2 := Str.ofString "kind") (v1 := .int kk tkk) (v2 := .int kd tkd) F0 hkk1 hkd
  have N' := N0
  simp only [List.cons_append, List.nil_append] at N'
  revert X tl
  dsimp only [lawEnv, lawFn, deedB, List.drop]
  k_fill
  intro X tl
  have X' := X.keeps B.stays
  have T' := T.keeps B.stays
  by_cases h4 : kd < 4
  · refine n_execs_cons (n_IfAny ?_)
    k_fold
    walk_at "MINE steps"
    exact page_N B X T hw hwz hs hs6 hk dc dz ⟨hp, _, gens, m, x, dx, fx, fdx, b, c, n, Su, Lo, pl, nr, k1, k2, k3, k4, k5, k6, ts, t1, t2, t3, td, th, ti, i, c1, fs, oC, oN, oS, oL, oT, kc, kv, kS, kL, kT, C, K, SS, LL, TT, rfl, gb, F0, N0, Z, hm, p0, i0, hfr, hfl, hd, hi, apC, apK, hTT, lo, hkk⟩ tl
  · refine n_execs_cons (n_IfAny ?_)
    k_fold
    walk_at "MINE steps"
    refine n_execs_cons (n_IfAny ?_)
    k_fold
    by_cases h7 : kd < 7
    · walk_at "MINE steps"
      by_cases h6 : kd < 6
      · exact comm_N B X T hs hs6 hk h6 ⟨hp, _, gens, m, x, dx, fx, fdx, b, c, n, Su, Lo, pl, nr, k1, k2, k3, k4, k5, k6, ts, t1, t2, t3, td, th, ti, i, c1, fs, oC, oN, oS, oL, oT, kc, kv, kS, kL, kT, C, K, SS, LL, TT, rfl, gb, F0, N0, Z, hm, p0, i0, hfr, hfl, hd, hi, apC, apK, hTT, lo, hkk⟩ fun s3 h3 => n_execs_nil (tl s3 h3)
      · exact roll_N B X T hs hs6 hk (by omega) ⟨hp, _, gens, m, x, dx, fx, fdx, b, c, n, Su, Lo, pl, nr, k1, k2, k3, k4, k5, k6, ts, t1, t2, t3, td, th, ti, i, c1, fs, oC, oN, oS, oL, oT, kc, kv, kS, kL, kT, C, K, SS, LL, TT, rfl, gb, F0, N0, Z, hm, p0, i0, hfr, hfl, hd, hi, apC, apK, hTT, lo, hkk⟩ fun s3 h3 => n_execs_nil (tl s3 h3)
    · walk_at "MINE steps"
      exact mv_N B X T hw hwz hs hs6 hk dc dz ⟨hp, _, gens, m, x, dx, fx, fdx, b, c, n, Su, Lo, pl, nr, k1, k2, k3, k4, k5, k6, ts, t1, t2, t3, td, th, ti, i, c1, fs, oC, oN, oS, oL, oT, kc, kv, kS, kL, kT, C, K, SS, LL, TT, rfl, gb, F0, N0, Z, hm, p0, i0, hfr, hfl, hd, hi, apC, apK, hTT, lo, hkk⟩ fun s3 h3 => n_execs_nil (tl s3 h3)
end
end

/-! ### VCuts -/
theorem fresh67 {M : Model} {A : Around} {env : Env} {Q : Flow → Shared → Prop} {E : Value → Shared → Prop} {s : Shared} (h : Q .next s) : wpAny M A (execs [] env) Q E s := by
  w_top off
  (try walk1)
  all_goals first | exact h | exact wpAny_execs_nil h
section
section
variable {w : World} {s0 s' : Shared} {base gH : Heap} {p : Program} {loose : List Str} {mean : ExcName → Option Value} {mg mb : Str → Option Value} {L S Sc cs cz St I : Addr} {oc oz oI oI' : Obj} {ws : List Value} {ns : List Int} {c2 sz kk tz tk : Nat} {Q : Flow → Shared → Prop} {E E' : Value → Shared → Prop}
/-- the range is through -/
theorem lawSt_end {h' : Heap} (hI : LawSt w s0 gH L S Sc cs cz St oc oz ws c2 sz kk [(I, oI)] s') (kp : ∀ b o, b ≠ I → s'.heap.get? b = some o → h'.get? b = some o) :
    LawSt w s0 gH L S Sc cs cz St oc oz ws c2 sz kk [] { s' with heap := h', toks := tk } := by
  refine lawSt_elim hI fun hp tk gens m x dx fx fdx b c n Su Lo pl nr k1 k2 k3 k4 k5 k6 ts t1 t2 t3 td th ti i c1 fs oC oN oS oL oT kc kv kS kL kT C K SS LL TT e0 gb F N Z hm p0 i0 hfr hfl hd hi apC apK hTT lo hkk => ?_
  subst e0
  dsimp only at kp
  have k : Keep [I] hp h' := fun b o e n => kp b o (fun z => n (List.mem_singleton.mpr z)) e
  have pre : (walL w x dx fx fdx b c n sz pl nr k1 k2 k3 k4 k5 k6 ts t1 t2 t3 (leB 4 sz ++ fs.flatten) oC oN ++ ((S, W.listOf #[.ref Sc, .int i ti] c1) :: (Sc, W.listOf ws.toArray c2) :: (cs, oc) :: (cz, oz) :: (St, oT) :: (Su, oS) :: (Lo, oL) :: [(I, oI)])) =
      (walL w x dx fx fdx b c n sz pl nr k1 k2 k3 k4 k5 k6 ts t1 t2 t3 (leB 4 sz ++ fs.flatten) oC oN ++ [(S, W.listOf #[.ref Sc, .int i ti] c1), (Sc, W.listOf ws.toArray c2), (cs, oc), (cz, oz), (St, oT), (Su, oS), (Lo, oL)]) ++ [(I, oI)] := rfl
  have Z2 := Z
  unfold Nd at Z2
  rw [pre, List.map_append] at Z2
  refine ⟨h', _, gens, m, x, dx, fx, fdx, b, c, n, Su, Lo, pl, nr, k1, k2, k3, k4, k5, k6, ts, t1, t2, t3, td, th, ti, i, c1, fs, oC, oN, oS, oL, oT, kc, kv, kS, kL, kT, C, K, SS, LL, TT, rfl, gb, back_fr F N k (mods1 (by rw [pre]; exact List.mem_append_right _ (.head _))), back_new N F k fun q hq => .inl ⟨?_, fun y => (List.nodup_append.mp Z2).2.2 q.1 (List.mem_map_of_mem hq) I (List.mem_singleton.mpr rfl) (List.mem_singleton.mp y)⟩, (List.nodup_append.mp Z2).1, hm, p0, i0, hfr, hfl, hd, hi, apC, apK, hTT, lo, trivial⟩
  rw [pre]
  exact List.mem_append_left _ hq
/-- a new range -/
theorem lawSt_push (av nv : Int) (hI : LawSt w s0 gH L S Sc cs cz St oc oz ws c2 sz kk [] s') : LawSt w s0 gH L S Sc cs cz St oc oz ws c2 sz kk [(s'.heap.objs.size, itR av nv)] { s' with heap := s'.heap.push (itR av nv), toks := tk } := by
  refine lawSt_elim hI fun hp tk gens m x dx fx fdx b c n Su Lo pl nr k1 k2 k3 k4 k5 k6 ts t1 t2 t3 td th ti i c1 fs oC oN oS oL oT kc kv kS kL kT C K SS LL TT e0 gb F N Z hm p0 i0 hfr hfl hd hi apC apK hTT lo hkk => ?_
  subst e0
  have pre : (walL w x dx fx fdx b c n sz pl nr k1 k2 k3 k4 k5 k6 ts t1 t2 t3 (leB 4 sz ++ fs.flatten) oC oN ++ ((S, W.listOf #[.ref Sc, .int i ti] c1) :: (Sc, W.listOf ws.toArray c2) :: (cs, oc) :: (cz, oz) :: (St, oT) :: (Su, oS) :: (Lo, oL) :: [(hp.objs.size, itR av nv)])) =
      (walL w x dx fx fdx b c n sz pl nr k1 k2 k3 k4 k5 k6 ts t1 t2 t3 (leB 4 sz ++ fs.flatten) oC oN ++ [(S, W.listOf #[.ref Sc, .int i ti] c1), (Sc, W.listOf ws.toArray c2), (cs, oc), (cz, oz), (St, oT), (Su, oS), (Lo, oL)]) ++ [(hp.objs.size, itR av nv)] := rfl
  have N1 := News.push F N (itR av nv)
  have lw := low_no (a := hp.objs.size) fun q hq => Heap.lt_size (N q hq).1
  refine ⟨_, _, gens, m, x, dx, fx, fdx, b, c, n, Su, Lo, pl, nr, k1, k2, k3, k4, k5, k6, ts, t1, t2, t3, td, th, ti, i, c1, fs, oC, oN, oS, oL, oT, kc, kv, kS, kL, kT, C, K, SS, LL, TT, rfl, gb, F.push _, fun q hq => N1 q ?_, ?_, hm, p0, i0, hfr, hfl, hd, hi, apC, apK, hTT, lo, trivial⟩
  · rw [pre] at hq
    rcases List.mem_append.mp hq with z | z
    · exact .tail _ z
    · rw [List.mem_singleton.mp z]; exact .head _
  · unfold Nd
    rw [pre, List.map_append]
    refine List.nodup_append.mpr ⟨Z, List.nodup_cons.mpr ⟨(fun z => nomatch z), List.nodup_nil⟩, fun u hu v hv e => lw ?_⟩
    have ev : v = hp.objs.size := List.mem_singleton.mp hv
    rw [← ev, ← e]
    exact hu
theorem nd_front {l r : List (Addr × Obj)} {a : Addr × Obj} (Z : Nd (l ++ a :: r)) : Nd (a :: (l ++ r)) := by
  unfold Nd at *
  rw [List.map_append, List.map_cons] at Z
  rw [List.map_cons, List.map_append]
  exact List.perm_middle.nodup_iff.mp Z
end
theorem nd_insert {l r : List (Addr × Obj)} {a : Addr} {o : Obj} (Z : Nd (l ++ r)) (h : (a : Nat) ∉ ((l ++ r).map (·.1) : List Nat)) : Nd (l ++ (a, o) :: r) := by
  unfold Nd at *
  rw [List.map_append] at Z h ⊢
  rw [List.map_cons]
  exact List.perm_middle.nodup_iff.mpr (List.nodup_cons.mpr ⟨h, Z⟩)
section
variable {w : World} {A A₀ : Around} {s : Shared} {base h₀ : Heap} {env : Env} {L : Addr} {m : Str → Option Value} {p : Program} {loose : List Str} {mean : ExcName → Option Value} {mg mb : Str → Option Value}
  {Q : Value → Shared → Prop} {E : Value → Shared → Prop} {rest : List (Addr × Obj)} {fx fdx b tp o1 : Addr} {pl : Int} {t1 t2 t3 ts : Tok} {d : List UInt8} {sz : Nat}
theorem walL_N3 (B : Below A₀ base [] h₀) (X : (Mine.hd.heap_39 w.params).In base) (T : Top p loose mean mg mb base) (F : Fr h₀ L s.heap m) {q1 q2 q3 : Addr × Obj} (N : News h₀ L s.heap ((tp, tupObj [.ref o1, .ref fx]) :: (fx, instObj 194 fdx) :: (fdx, octD w.params b pl t1 t2 t3) :: (b, baObj d.toArray) :: q1 :: q2 :: q3 :: rest))
    (hA : A.frames = some [env]) (hf : env.frame = some L) (hke : env.scope.kind = .function) (hh : A.handled = none) (hg : A.guards = some []) (hroom : A.depth + 90 < recursionLimit)
    (Z : Nd ((fx, instObj 194 fdx) :: (fdx, octD w.params b pl t1 t2 t3) :: (b, baObj d.toArray) :: q1 :: q2 :: q3 :: rest)) (LL : AllLt tp ((fx, instObj 194 fdx) :: (fdx, octD w.params b pl t1 t2 t3) :: (b, baObj d.toArray) :: q1 :: q2 :: q3 :: rest)) (hs : 0 < sz) (hsz : sz ≤ 1000) (hz : d.length ≤ 1000000) (hin : 4 ≤ d.length) (hsd : leInt (d.take 4) = sz) {f : Nat} (hf' : f ≤ 900) (hok : Ok d sz f 4)
    (h : ∀ h' t' x dx c n k1 k2 k3 k4 k5 k6 t3' oC oN pl' kc, 0 ≤ pl' → Fr h₀ L h' m → News h₀ L h' (walL w x dx fx fdx b c n sz pl' true k1 k2 k3 k4 k5 k6 ts t1 t2 t3' d oC oN ++ rest) →
      Nd (walL w x dx fx fdx b c n sz pl' true k1 k2 k3 k4 k5 k6 ts t1 t2 t3' d oC oN ++ rest) → oC.IsDictOf (kn w) kc → Ints kc (scan d sz f 4 [] []) → oN.IsDictOf (kn w) [] → (c == sysModules) = false → (n == sysModules) = false → Q (.ref x) { s with heap := h', toks := t' }) :
    wpN (model PySem.Challenge.rw_vq0002_01.row.prog w) A (call (.ref 144) [.ref tp, .int sz ts]) Q E s :=
  walL_N B X T F (rest := rest) (fun q hq => by
    rcases List.mem_cons.mp hq with rfl | hq
    · exact N _ (.tail _ (.head _))
    · rcases List.mem_cons.mp hq with rfl | hq
      · exact N _ (.tail _ (.tail _ (.head _)))
      · rcases List.mem_cons.mp hq with rfl | hq
        · exact N _ (.tail _ (.tail _ (.tail _ (.head _))))
        · rcases List.mem_cons.mp hq with rfl | hq
          · exact N _ (.head _)
          · exact N _ (.tail _ (.tail _ (.tail _ (.tail _ (.tail _ (.tail _ (.tail _ hq)))))))) hA hf hke hh hg hroom
    (nd_tp (nd_sub Z (.cons₂ _ (.cons₂ _ (.cons₂ _ (.cons _ (.cons _ (.cons _ (List.Sublist.refl _)))))))) (low_no fun q hq => allLt_mem LL q (by
      rcases List.mem_cons.mp hq with rfl | hq
      · exact .head _
      · rcases List.mem_cons.mp hq with rfl | hq
        · exact .tail _ (.head _)
        · rcases List.mem_cons.mp hq with rfl | hq
          · exact .tail _ (.tail _ (.head _))
          · exact .tail _ (.tail _ (.tail _ (.tail _ (.tail _ (.tail _ hq)))))))) hs hsz hz hin hsd hf' hok h
end
section
local macro_rules | `(tactic| walk_at "MINE tlmem") => `(tactic| first | assumption | (refine List.mem_cons_of_mem _ ?_; walk_at "MINE tlmem"))
local macro_rules | `(tactic| walk_at "call ref") => `(tactic| (k_here; (try dsimp only [List.cons_append, List.nil_append]); (with_reducible show wpAny _ _ (call (Value.ref 238) [Value.ref _, Value.ref _]) _ _ _); refine Stop.go ?_))
local macro_rules | `(tactic| walk_at "call ref") => `(tactic| (k_here; (try dsimp only [List.cons_append, List.nil_append]); (with_reducible show wpAny _ _ (call (Value.ref 233) [Value.bytes (List.toArray _) _, Value.int _ _]) _ _ _); refine Stop.go ?_))
variable {w : World} {s0 s' : Shared} {base gH : Heap} {p : Program} {loose : List Str} {mean : ExcName → Option Value} {mg mb : Str → Option Value} {L S Sc St I : Addr} {oc oz oI : Obj} {ws : List Value} {ns : List Int} {c2 sz kk tz : Nat} {Q : Flow → Shared → Prop} {E E' : Value → Shared → Prop}
/-- one cut, and the log opened anew -/
theorem cutstep_N (B : Below callerA base [] gH) (X : (Mine.hd.heap_39 w.params).In base) (T : Top p loose mean mg mb base) (hs : 3 ≤ sz) (hs6 : sz ≤ 6) (hk : kk ≤ 13) (dz : oz.data = .cell (some (.int sz tz))) {ct : Int} {t : Tok} (hct : 4 ≤ ct)
    (hI : LawSt w s0 gH L S Sc (L + 1 + 1) (L + 1) St oc oz ws c2 sz kk [(I, oI)] s') (h : ∀ s'', LawSt w s0 gH L S Sc (L + 1 + 1) (L + 1) St oc oz ws c2 sz kk [(I, oI)] s'' → Q .next s'') :
    wpAny (model PySem.Challenge.rw_vq0002_01.row.prog w) (callerA.deeper (lawEnv L)) (storeName (lawEnv L) (Str.ofString "cut") (.int ct t)) (fun _ s₂ => wpN (model PySem.Challenge.rw_vq0002_01.row.prog w) (callerA.deeper (lawEnv L)) (execs cutsB.1 (lawEnv L)) Q E s₂) E' s' := by
  refine lawSt_elim hI fun hp tk gens m x dx fx fdx b c n Su Lo pl nr k1 k2 k3 k4 k5 k6 ts t1 t2 t3 td th ti i c1 fs oC oN oS oL oT kc kv kS kL kT C K SS LL TT e gb F0 N0 Z hm p0 i0 hfr hfl hd hi apC apK hTT lo _ => ?_
  subst e
  clear hI
  have F' := fr7 F0 hm
  clear F0
  have hol := octs_len hfr hs6 (by omega)
  have ho4 : 4 ≤ (leB 4 sz ++ fs.flatten).length := by rw [List.length_append, leB_length]; omega
  have Z1 := nd_front (l := walL w x dx fx fdx b c n sz pl nr k1 k2 k3 k4 k5 k6 ts t1 t2 t3 (leB 4 sz ++ fs.flatten) oC oN ++ [(S, W.listOf #[.ref Sc, .int i ti] c1), (Sc, W.listOf ws.toArray c2), (L + 1 + 1, oc)]) (a := (L + 1, oz)) (r := [(St, oT), (Su, oS), (Lo, oL), (I, oI)]) Z
  generalize hr : (walL w x dx fx fdx b c n sz pl nr k1 k2 k3 k4 k5 k6 ts t1 t2 t3 (leB 4 sz ++ fs.flatten) oC oN ++ [(S, W.listOf #[.ref Sc, .int i ti] c1), (Sc, W.listOf ws.toArray c2), (L + 1 + 1, oc)]) ++ [(St, oT), (Su, oS), (Lo, oL), (I, oI)] = rest at Z1
  have N' : News gH L hp ((L + 1, oz) :: rest) := fun q hq => N0 q (by
    subst hr
    revert q
    unfold walL
    simp only [List.cons_append, List.nil_append]
    walk_at "MINE subs")
  have back : ∀ {h2 : Heap}, News gH L h2 ((L + 1, oz) :: rest) → News gH L h2 (walL w x dx fx fdx b c n sz pl nr k1 k2 k3 k4 k5 k6 ts t1 t2 t3 (leB 4 sz ++ fs.flatten) oC oN ++ ((S, W.listOf #[.ref Sc, .int i ti] c1) :: (Sc, W.listOf ws.toArray c2) :: (L + 1 + 1, oc) :: (L + 1, oz) :: (St, oT) :: (Su, oS) :: (Lo, oL) :: [(I, oI)])) := fun N2 q hq => N2 q (by
    subst hr
    revert q
    unfold walL
    simp only [List.cons_append, List.nil_append]
    walk_at "MINE subs")
  clear N0
  revert X h
  dsimp only [lawEnv, lawFn, cutsB, List.drop]
  k_fill
  intro X h
  have X' := X.keeps B.stays
  have T' := T.keeps B.stays
  generalize hd' : leB 4 sz ++ fs.flatten = d at *
  show wpAny _ _ _ _ _ _
  k_fold
  walk_at "MINE steps"
  refine n_execs_cons (n_Assign_Name (n_Call_Name ?_))
  k_fold
  walk_at "MINE steps"
  refine n_callWith (K := Mine.hd.heap_39 w.params) (by k_is) ?_
  refine n_spliced2 ?_
  refine n_Tuple ?_
  refine n_spliced2N ?_
  refine n_Call_Name ?_
  walk_at "MINE steps"
  with_reducible rename Fr _ _ _ _ => F'
  with_reducible rename News _ _ _ _ => N'
  refine n_callWith0 (K := Mine.hd.heap_39 w.params) ?hX2 (by k_is) ?_
  case hX2 => exact Frag.In.keeps X' F'.keep
  refine' octets_N (s := ⟨_, _, _, _, _⟩) B X T F' N' rfl rfl rfl rfl rfl ?room2 Z1 ?_
  case room2 => k_room
  clear F' N'
  intro h2 tk2 o1 do1 bo1 u1 u2 u3 F' N' Z2
  simp only [logL, List.cons_append, List.nil_append] at N' Z2
  (try dsimp only)
  refine n_Call_Name ?_
  k_fold
  walk_at "MINE steps"
  refine n_callWithA (K := Mine.hd.heap_39 w.params) (by k_is) ?_
  k_fold
  walk_at "MINE steps"
  with_reducible rename _ = List.take _ d => hc
  subst hc
  have he4 := cut_len d ct.toNat (by omega) ho4
  have hel : (d.take ct.toNat).length ≤ 147 := by rw [List.length_take]; omega
  have ehd := cut_head (sz := sz) (fs := fs) (cut := ct.toNat) (by omega) (by omega)
  have eok := cut_ok hfr ct.toNat
  have eap := cut_ap hfr ct.toNat
  rw [hd'] at ehd eok eap
  generalize he : d.take ct.toNat = e at *
  with_reducible rename Fr _ _ _ _ => F'
  with_reducible rename News _ _ _ _ => N'
  have N3 : News gH L _ ((o1, instObj 194 do1) :: (do1, octD w.params bo1 0 u1 u2 u3) :: (bo1, baObj [].toArray) :: (L + 1, oz) :: rest) := fun q hq => N' q (by walk_at "MINE tlmem")
  clear N'
  refine' log_N (s := ⟨_, _, _, _, _⟩) B X T F' N3 rfl rfl rfl rfl rfl ?room1 Z2 (by omega) (by omega) ?_
  case room1 => k_room
  clear F' N3
  intro h1 tk1 fx2 fdx2 b2 v1 v2 v3 F' N' Z3
  simp only [logL, List.cons_append, List.nil_append] at N' Z3
  (try dsimp only)
  walk_at "MINE steps"
  with_reducible rename Fr _ _ _ _ => F'
  with_reducible rename News _ _ _ _ => N'
  with_reducible rename _ ∧ _ => LL
  refine' walL_N3 (s := ⟨_, _, _, _, _⟩) (d := e) (f := fs.length) (rest := (L + 1, oz) :: rest) B X T F' N' rfl rfl rfl rfl rfl ?room3 Z3 ?LL (by omega) (by omega) (by omega) he4 ehd (by omega) eok.ok ?_
  case room3 => k_room
  case LL => simp only [AllLt]; exact LL
  clear F' N' LL Z2 Z3
  intro h3 tk3 x2 dx2 c2' n2 k1' k2' k3' k4' k5' k6' t3'' oC2 oN2 pl2 kc2 p02 F' N' Z4 hC2 iC2 hN2 loC loN
  simp only [List.cons_append, List.nil_append] at N'
  (try dsimp only)
  walk_at "MINE steps"
  have hD7 := apart_of (nd7 Z4)
  have pC := places_of iC2 eap
  walk_at "MINE any1"
  show wpAny _ _ (call _ _) _ _ _
  with_reducible rename _ = List.take _ d => hc2
  rw [he] at hc2
  replace hc2 := hc2.symm
  subst hc2
  with_reducible rename Fr _ _ _ _ => F'
  with_reducible rename News _ _ _ _ => N'
  have N5 : News gH L _ (walL w x2 dx2 fx2 fdx2 b2 c2' n2 sz pl2 true k1' k2' k3' k4' k5' k6' tz v1 v2 t3'' e oC2 oN2 ++ (L + 1, oz) :: rest) := fun q hq => N' q (by
    unfold walL at hq
    simp only [List.cons_append, List.nil_append] at hq
    walk_at "MINE tlmem")
  clear N'
  refine recover_K B X T F' N5 rfl rfl rfl rfl (by k_room) (by omega) (by omega) (by omega) (f := fs.length) (by omega) eok.ok fun h4 t4 D oD kD F' N' nD hD aD loD => ?_
  clear N5
  have Z6 := nd_insert (o := oD) Z4 nD
  have N6 : News gH L h4 (walL w x2 dx2 fx2 fdx2 b2 c2' n2 sz pl2 true k1' k2' k3' k4' k5' k6' tz v1 v2 t3'' e oC2 oN2 ++ (D, oD) :: (L + 1, oz) :: rest) := fun q hq => N' q (List.perm_middle.mem_iff.mp hq)
  have hEq : ∀ q : Int, 1 ≤ q → q ≤ 4 → ∃ t, (valueAt kD q).getD .none = bytesOr (pageAt e sz [] kc2 q) t := fun q _ _ => told_eq (kS := kD) (kL := []) .nil iC2 aD .nil eap (.nil : AP e sz [] []) List.nodup_nil q
  clear N'
  have N' := N6
  simp only [List.cons_append, List.nil_append] at N'
  (try dsimp only)
  walk_at "MINE steps"
  show wpAny _ _ (call _ _) _ _ _
  with_reducible rename Fr _ _ _ _ => F'
  refine' told_K B X T F' N6 rfl rfl rfl rfl ?room4 ?hu ?sub (updF_wal Z6) ?Da loN loC (by omega) (by omega) (places_of .nil .nil) pC p02 hN2 hC2 hD loD ?ne hEq ?_
  case room4 => k_room
  case hu => simp only [units_deeper, units_caller, cLine_is]; omega
  case sub =>
    intro q hq
    rcases List.mem_append.mp hq with z | z
    · exact List.mem_append_left _ z
    · rw [List.mem_singleton.mp z]; exact List.mem_append_right _ (.head _)
  case Da => exact hD7
  case ne =>
    intro z
    refine nD ?_
    rw [show D = fdx2 from z]
    exact List.mem_map_of_mem (f := Prod.fst) (List.mem_append_left _ (List.Mem.tail _ (.tail _ (.tail _ (.head _)))))
  clear F' N6 N'
  intro h5 t5 pl5 t35 p05 F' N'
  (try dsimp only)
  walk_at "MINE steps"
  refine n_execs_nil ?_
  (try dsimp only)
  with_reducible rename Fr _ _ _ _ => F'
  with_reducible rename News _ _ _ _ => N'
  have N7 : News gH L h5 ((L + 1, oz) :: rest) := fun q hq => N' q (by walk_at "MINE tlmem")
  clear N'
  have N8 := back N7
  subst hd'
  exact h _ ⟨_, _, gens, _, x, dx, fx, fdx, b, c, n, Su, Lo, pl, nr, k1, k2, k3, k4, k5, k6, ts, t1, t2, t3, td, th, ti, i, c1, fs, oC, oN, oS, oL, oT, kc, kv, kS, kL, kT, C, K, SS, LL, TT, rfl, gb, F', N8, Z, ⟨rfl, rfl, rfl, rfl, rfl, rfl, rfl⟩, p0, i0, hfr, hfl, hd, hi, apC, apK, hTT, lo, trivial⟩
end
end

/-! ### VLoop -/
theorem fresh68 {M : Model} {A : Around} {env : Env} {Q : Flow → Shared → Prop} {E : Value → Shared → Prop} {s : Shared} (h : Q .next s) : wpAny M A (execs [] env) Q E s := by
  w_top off
  (try walk1)
  all_goals first | exact h | exact wpAny_execs_nil h
section
section
variable {w : World} {s0 s' : Shared} {base gH : Heap} {p : Program} {loose : List Str} {mean : ExcName → Option Value} {mg mb : Str → Option Value} {L S Sc cs cz St : Addr} {oc oz : Obj} {ws : List Value} {ns : List Int} {c2 sz kk tz tk : Nat} {mid : List (Addr × Obj)} {Q : Flow → Shared → Prop} {E : Value → Shared → Prop}
theorem lawSt_keep {h' : Heap} (hI : LawSt w s0 gH L S Sc cs cz St oc oz ws c2 sz kk mid s') (kp : ∀ b o, s'.heap.get? b = some o → h'.get? b = some o) :
    LawSt w s0 gH L S Sc cs cz St oc oz ws c2 sz kk mid { s' with heap := h', toks := tk } := by
  refine lawSt_elim hI fun hp tk gens m x dx fx fdx b c n Su Lo pl nr k1 k2 k3 k4 k5 k6 ts t1 t2 t3 td th ti i c1 fs oC oN oS oL oT kc kv kS kL kT C K SS LL TT e0 gb F N Z hm p0 i0 hfr hfl hd hi apC apK hTT lo hkk => ?_
  subst e0
  exact ⟨h', _, gens, m, x, dx, fx, fdx, b, c, n, Su, Lo, pl, nr, k1, k2, k3, k4, k5, k6, ts, t1, t2, t3, td, th, ti, i, c1, fs, oC, oN, oS, oL, oT, kc, kv, kS, kL, kT, C, K, SS, LL, TT, rfl, gb, F.keeps kp, fun q hq => ⟨kp _ _ (N q hq).1, (N q hq).2⟩, Z, hm, p0, i0, hfr, hfl, hd, hi, apC, apK, hTT, lo, hkk⟩
theorem cuts_loop {A : Around} {env : Env} {kx : Str} {px : Pos} {body : List Stmt} {R : Result → Shared → Prop} {a : Int} {nn : Nat} (hh : A.handled = none) (hL : LawSt w s0 gH L S Sc cs cz St oc oz ws c2 sz kk [] s')
    (hstep : ∀ (i : Nat) s₁ h' tk t, i < nn → LawSt w s0 gH L S Sc cs cz St oc oz ws c2 sz kk [(s'.heap.objs.size, itR (a + (i : Int)) ((nn : Int) - (i : Int)))] s₁ → h'.get? s'.heap.objs.size = some (itR (a + ((i + 1 : Nat) : Int)) ((nn : Int) - ((i + 1 : Nat) : Int))) → (∀ b o, b ≠ s'.heap.objs.size → s₁.heap.get? b = some o → h'.get? b = some o) →
      wpAny (model PySem.Challenge.rw_vq0002_01.row.prog w) A (storeName env kx (.int (a + (i : Int)) t)) (fun _ s₂ => wpN (model PySem.Challenge.rw_vq0002_01.row.prog w) A (execs body env) (fun f s₃ => match f with
        | .next => LawSt w s0 gH L S Sc cs cz St oc oz ws c2 sz kk [(s'.heap.objs.size, itR (a + ((i + 1 : Nat) : Int)) ((nn : Int) - ((i + 1 : Nat) : Int)))] s₃
        | .cont => LawSt w s0 gH L S Sc cs cz St oc oz ws c2 sz kk [(s'.heap.objs.size, itR (a + ((i + 1 : Nat) : Int)) ((nn : Int) - ((i + 1 : Nat) : Int)))] s₃ | .brk => False | .ret v => R (.ok (.ret v)) s₃) (notedBy (model PySem.Challenge.rw_vq0002_01.row.prog w) A env fun e s' => R (.error e) s') s₂) (notedBy (model PySem.Challenge.rw_vq0002_01.row.prog w) A env fun e s' => R (.error e) s') { s₁ with heap := h', toks := tk })
    (hend : ∀ s₁ h' tk, LawSt w s0 gH L S Sc cs cz St oc oz ws c2 sz kk [(s'.heap.objs.size, itR (a + (nn : Int)) ((nn : Int) - (nn : Int)))] s₁ → (∀ b o, b ≠ s'.heap.objs.size → s₁.heap.get? b = some o → h'.get? b = some o) → R (.ok .next) { s₁ with heap := h', toks := tk }) :
    codeN (model PySem.Challenge.rw_vq0002_01.row.prog w) A (.forLoop (.Name kx px) (.ref s'.heap.objs.size) body [] env) R { s' with heap := s'.heap.push (itR a nn), toks := tk } := by
  refine c_range (a := a) (n := nn) hh (fun i s₁ => LawSt w s0 gH L S Sc cs cz St oc oz ws c2 sz kk [(s'.heap.objs.size, itR (a + (i : Int)) ((nn : Int) - (i : Int)))] s₁) (fun i s₁ hI => ?_) hstep hend nn 0 _ rfl (Nat.zero_le _) ?_
  · refine lawSt_elim hI fun hp' tk' gens' m' x' dx' fx' fdx' b' c' n' Su' Lo' pl' nr' k1' k2' k3' k4' k5' k6' ts' t1' t2' t3' td' th' ti' i' c1' fs' oC' oN' oS' oL' oT' kc' kv' kS' kL' kT' C' K' SS' LL' TT' e _ _ N' _ _ _ _ _ _ _ _ _ _ _ _ _ => ?_
    subst e
    exact (N' (s'.heap.objs.size, _) (List.mem_append_right _ (by k_mem))).1
  · have z := lawSt_push (tk := tk) a nn hL
    rw [show a + ((0 : Nat) : Int) = a by omega, show (nn : Int) - ((0 : Nat) : Int) = nn by omega]
    exact z
def cutsE : { b : List Stmt // lawFn.1.2.1.drop 11 = b } := ⟨_, rfl⟩
theorem cuts_N (B : Below callerA base [] gH) (X : (Mine.hd.heap_39 w.params).In base) (T : Top p loose mean mg mb base) (hs : 3 ≤ sz) (hs6 : sz ≤ 6) (hk : kk ≤ 13) (dc : oc.data = .cell (some (.ref St))) (dz : oz.data = .cell (some (.int sz tz)))
    (hI : LawSt w s0 gH L S Sc (L + 1 + 1) (L + 1) St oc oz ws c2 sz kk [] s') (h : ∀ h' t' gens m', (∀ y ∈ gens, y.bare = true) → Fr gH L h' m' → Q (.ret (.bool true)) { s0 with heap := h', toks := t', gens := gens }) :
    wpN (model PySem.Challenge.rw_vq0002_01.row.prog w) (callerA.deeper (lawEnv L)) (execs cutsE.1 (lawEnv L)) Q E s' := by
  have hI0 := hI
  refine lawSt_elim hI fun hp tk gens m x dx fx fdx b c n Su Lo pl nr k1 k2 k3 k4 k5 k6 ts t1 t2 t3 td th ti i c1 fs oC oN oS oL oT kc kv kS kL kT C K SS LL TT e gb F0 N0 Z hm p0 i0 hfr hfl hd hi apC apK hTT lo _ => ?_
  subst e
  clear hI
  have F' := fr7 F0 hm
  have hol := octs_len hfr hs6 (by omega)
  have ho4 : 4 ≤ (leB 4 sz ++ fs.flatten).length := by rw [List.length_append, leB_length]; omega
  have N' := N0
  simp only [List.cons_append, List.nil_append] at N'
  clear F0 N0
  revert X h
  dsimp only [lawEnv, lawFn, cutsE, List.drop]
  k_fill
  intro X h
  have X' := X.keeps B.stays
  have T' := T.keeps B.stays
  generalize hd' : leB 4 sz ++ fs.flatten = d at *
  refine n_execs_cons (n_For ?_)
  k_fold
  walk_at "MINE steps"
  with_reducible rename IsRange _ _ _ _ _ _ _ _ => IR
  with_reducible rename Fr _ _ _ _ => F'
  with_reducible rename News _ _ _ _ => N'
  subst hd'
  have hL : ∀ tk1 : Nat, LawSt w s0 gH L S Sc (L + 1 + 1) (L + 1) St oc oz ws c2 sz kk [] { s0 with heap := _, toks := tk1, gens := gens } := fun tk1 => ⟨_, tk1, gens, _, x, dx, fx, fdx, b, c, n, Su, Lo, pl, nr, k1, k2, k3, k4, k5, k6, ts, t1, t2, t3, td, th, ti, i, c1, fs, oC, oN, oS, oL, oT, kc, kv, kS, kL, kT, C, K, SS, LL, TT, rfl, gb, F', fun q hq => N' q hq, Z, ⟨rfl, rfl, rfl, rfl, rfl, rfl, rfl⟩, p0, i0, hfr, hfl, hd, hi, apC, apK, hTT, lo, trivial⟩
  have ha : ∃ a : Int, (if ((leB 4 sz ++ fs.flatten).length : Int) - 11 > 4 then ((leB 4 sz ++ fs.flatten).length : Int) - 11 else 4) = a ∧ 4 ≤ a ∧ a ≤ ((leB 4 sz ++ fs.flatten).length : Int) := ⟨_, rfl, by split <;> omega, by split <;> omega⟩
  obtain ⟨a, ea, a4, al⟩ := ha
  rw [ea] at IR
  generalize (leB 4 sz ++ fs.flatten).length = len at IR al hol
  refine wpAny_pyIter_range IR ?small ?_
  case small => exact small_one (by omega) (by omega) (by omega) (by omega)
  rw [rangeSize_nat]
  refine cuts_loop (nn := ((len : Int) + 1 - a).toNat) rfl (hL _) (fun i2 s1 h1 tk1 t hi2 hI e kp => cutstep_N B X T hs hs6 hk dz (by omega) (lawSt_mid hI e kp) fun s2 hs2 => hs2) (fun s1 h1 tk1 hI kp => end_N B X T hs6 dc dz (lawSt_end hI kp) h)
end
end

/-! ### VLaw -/
theorem fresh69 {M : Model} {A : Around} {env : Env} {Q : Flow → Shared → Prop} {E : Value → Shared → Prop} {s : Shared} (h : Q .next s) : wpAny M A (execs [] env) Q E s := by
  w_top off
  (try walk1)
  all_goals first | exact h | exact wpAny_execs_nil h
section
section
local macro_rules | `(tactic| walk_at "MINE apart11") => `(tactic| ((with_reducible rename Apart _ => hA); simp only [Apart, AllNeN, and_true, true_and] at hA; obtain ⟨⟨_, _, _, _, _, _, _, _, _, _⟩, ⟨_, _, _, _, _, _, _, _, _⟩, ⟨_, _, _, _, _, _, _, _⟩, ⟨_, _, _, _, _, _, _⟩, ⟨_, _, _, _, _, _⟩, ⟨_, _, _, _, _⟩, ⟨_, _, _, _⟩, ⟨_, _, _⟩, ⟨_, _⟩, _⟩ := hA))
local macro_rules | `(tactic| walk_at "MINE apart12") => `(tactic| ((with_reducible rename Apart _ => hA); simp only [Apart, AllNeN, and_true, true_and] at hA; obtain ⟨⟨_, _, _, _, _, _, _, _, _, _, _⟩, ⟨_, _, _, _, _, _, _, _, _, _⟩, ⟨_, _, _, _, _, _, _, _, _⟩, ⟨_, _, _, _, _, _, _, _⟩, ⟨_, _, _, _, _, _, _⟩, ⟨_, _, _, _, _, _⟩, ⟨_, _, _, _, _⟩, ⟨_, _, _, _⟩, ⟨_, _, _⟩, ⟨_, _⟩, _⟩ := hA))
local macro_rules | `(tactic| walk_at "MINE apart13") => `(tactic| ((with_reducible rename Apart _ => hA); simp only [Apart, AllNeN, and_true, true_and] at hA; obtain ⟨⟨_, _, _, _, _, _, _, _, _, _, _, _⟩, ⟨_, _, _, _, _, _, _, _, _, _, _⟩, ⟨_, _, _, _, _, _, _, _, _, _⟩, ⟨_, _, _, _, _, _, _, _, _⟩, ⟨_, _, _, _, _, _, _, _⟩, ⟨_, _, _, _, _, _, _⟩, ⟨_, _, _, _, _, _⟩, ⟨_, _, _, _, _⟩, ⟨_, _, _, _⟩, ⟨_, _, _⟩, ⟨_, _⟩, _⟩ := hA))
local macro_rules | `(tactic| walk_at "MINE apart14") => `(tactic| ((with_reducible rename Apart _ => hA); simp only [Apart, AllNeN, and_true, true_and] at hA; obtain ⟨⟨_, _, _, _, _, _, _, _, _, _, _, _, _⟩, ⟨_, _, _, _, _, _, _, _, _, _, _, _⟩, ⟨_, _, _, _, _, _, _, _, _, _, _⟩, ⟨_, _, _, _, _, _, _, _, _, _⟩, ⟨_, _, _, _, _, _, _, _, _⟩, ⟨_, _, _, _, _, _, _, _⟩, ⟨_, _, _, _, _, _, _⟩, ⟨_, _, _, _, _, _⟩, ⟨_, _, _, _, _⟩, ⟨_, _, _, _⟩, ⟨_, _, _⟩, ⟨_, _⟩, _⟩ := hA))
local macro_rules | `(tactic| walk_at "MINE apart15") => `(tactic| ((with_reducible rename Apart _ => hA); simp only [Apart, AllNeN, and_true, true_and] at hA; obtain ⟨⟨_, _, _, _, _, _, _, _, _, _, _, _, _, _⟩, ⟨_, _, _, _, _, _, _, _, _, _, _, _, _⟩, ⟨_, _, _, _, _, _, _, _, _, _, _, _⟩, ⟨_, _, _, _, _, _, _, _, _, _, _⟩, ⟨_, _, _, _, _, _, _, _, _, _⟩, ⟨_, _, _, _, _, _, _, _, _⟩, ⟨_, _, _, _, _, _, _, _⟩, ⟨_, _, _, _, _, _, _⟩, ⟨_, _, _, _, _, _⟩, ⟨_, _, _, _, _⟩, ⟨_, _, _, _⟩, ⟨_, _, _⟩, ⟨_, _⟩, _⟩ := hA))
variable {w : World} {s : Shared} {p : Program} {loose : List Str} {mean : ExcName → Option Value} {mg mb : Str → Option Value} {R : Result → Shared → Prop}
theorem law_c (X : (Mine.hd.heap_39 w.params).In s.heap) (T : Top p loose mean mg mb s.heap) {a : Addr} {vs : List Value} {ns : List Int} (hl : s.heap.IsList a vs.toArray) (hi : IntsAre vs ns) (hz : ns.length ≤ 63) (gb : ∀ y ∈ s.gens, y.bare = true)
    (h : ∀ h' t' g', Keep [] s.heap h' → (∀ y ∈ g', y.bare = true) → R (.ok (.ret (.bool true))) { s with heap := h', toks := t', gens := g' }) :
    codeN (model PySem.Challenge.rw_vq0002_01.row.prog w) callerA (.call (.ref 243) ⟨[.ref a], []⟩) R s := by
  have B : Below callerA s.heap [] s.heap := below_caller s.heap
  have P : Foot s.heap [] s.heap [] := foot_nil
  revert X
  k_fill
  intro X
  walk_at "MINE enterNC"
  with_reducible rename Keep _ _ _ => KG
  have hl' := isList_keep KG hl
  have hzn := hi.length
  refine n_execs_cons (n_any ?_)
  k_fold
  walk_at "MINE steps"
  walk_at "MINE nx"
  have hxz : (ns.take 60).length ≤ 1000 := by rw [List.length_take]; omega
  have i00 : (0 : Int) ≤ 0 := Int.le_refl 0
  walk_at "MINE any1"
  (with_reducible rename _ < (4 : Int) => r1)
  obtain ⟨sz, hsz, s1, s2⟩ := size_nat r1 (by assumption)
  simp only [hsz] at *
  with_reducible rename Below _ _ _ _ => B'
  refine n_execs_cons (n_Assign_Name (n_Call_Name ?_))
  k_fold
  walk_at "MINE steps"
  with_reducible rename Fr _ _ _ _ => F'
  with_reducible rename News _ _ _ _ => N'
  refine n_callWith0 (K := Mine.hd.heap_39 w.params) ?hX (by k_is) ?_
  case hX => exact Frag.In.keeps (by assumption) F'.keep
  refine' octets_N (s := ⟨_, _, _, _, _⟩) B' ?X ?T F' N' rfl rfl rfl rfl rfl ?room ?nd ?_
  case X => assumption
  case T => assumption
  case room => k_room
  case nd => refine nd_dec4 ?_ ?_ ?_ <;> (dsimp only; omega)
  clear F' N'
  intro h1 tk1 fx fdx b t1 t2 t3 F' N' Z1
  simp only [logL, List.cons_append, List.nil_append] at N' Z1
  (try dsimp only)
  walk_at "MINE steps"
  refine n_execs_cons (n_Assign_Name (n_Call_Name ?_))
  k_fold
  walk_at "MINE steps"
  refine n_callWith (K := Mine.hd.heap_39 w.params) (by k_is) ?_
  refine n_spliced2 ?_
  refine n_Tuple ?_
  refine n_spliced2 ?_
  refine n_Call_Name ?_
  walk_at "MINE steps"
  with_reducible rename Fr _ _ _ _ => F'
  with_reducible rename News _ _ _ _ => N'
  refine n_callWith0 (K := Mine.hd.heap_39 w.params) ?hX2 (by k_is) ?_
  case hX2 => exact Frag.In.keeps (by assumption) F'.keep
  refine' octets_N (s := ⟨_, _, _, _, _⟩) B' ?X ?T F' N' rfl rfl rfl rfl rfl ?room Z1 ?_
  case X => assumption
  case T => assumption
  case room => k_room
  clear F' N'
  intro h2 tk2 o1 do1 bo1 u1 u2 u3 F' N' Z2
  simp only [logL, List.cons_append, List.nil_append] at N' Z2
  (try dsimp only)
  walk_at "MINE steps"
  with_reducible rename Fr _ _ _ _ => F'
  with_reducible rename News _ _ _ _ => N'
  with_reducible rename _ ∧ _ => LL
  refine' walE_N2 (s := ⟨_, _, _, _, _⟩) (d := []) B' ?X ?T F' N' rfl rfl rfl rfl rfl ?room Z1 ?LL ?sz rfl ?_
  case X => assumption
  case T => assumption
  case room => k_room
  case sz => omega
  case LL => simp only [AllLt, and_true]; exact LL
  clear F' N' LL Z1 Z2
  intro h3 tk3 x dx c n k1 k2 k3 k4 k5 k6 t3' oC oN F' N' Z' hC hN loC loN
  simp only [walL, List.cons_append, List.nil_append] at N' Z'
  have hA := apart_of Z'
  simp only [List.map_cons, List.map_nil] at hA
  walk_at "MINE apart11"
  (try dsimp only)
  walk_at "MINE steps"
  walk_at "MINE any1"
  walk_at "MINE any1"
  walk_at "MINE any1"
  walk_at "MINE any1"
  walk_at "MINE any1"
  refine n_execs_cons (n_any ?_)
  k_fold
  walk_at "MINE steps"
  refine n_execs_cons (n_For ?_)
  k_fold
  walk_at "MINE steps"
  with_reducible rename _ < (13 : Int) => r13
  with_reducible rename (0 : Int) ≤ _ => r130
  with_reducible rename IsRange _ _ _ _ _ _ _ _ => IR
  with_reducible rename Fr _ _ _ _ => F'
  with_reducible rename News _ _ _ _ => N'
  obtain ⟨nn, rfl⟩ := Int.eq_ofNat_of_zero_le r130
  refine wpAny_pyIter_range IR ?small ?_
  case small => exact small_one (by omega) (by omega) (by omega) (by omega)
  rw [show Builtin.Range.rangeSize 0 (nn : Int) 1 = (nn : Int) from by rw [rangeSize_nat]; omega]
  refine' law_range rfl F' N' ?Z ?q1 ?q2 ?q3 ⟨rfl, rfl, rfl, rfl, rfl, rfl, rfl⟩ ?i0 hC hN ?hS ?hL ?hT gb loC loN ?l3 ?l4 ?l5 ?hstep ?hend
  case Z => exact Z'
  case q1 => simp only [List.forall_mem_cons, List.not_mem_nil, false_implies, implies_true, and_true]; assumption
  case q2 => simp only [List.forall_mem_cons, List.not_mem_nil, false_implies, implies_true, and_true]; assumption
  case q3 => simp only [List.forall_mem_cons, List.not_mem_nil, false_implies, implies_true, and_true]; assumption
  case i0 => assumption
  case hS => assumption
  case hL => assumption
  case hT => assumption
  case l3 => assumption
  case l4 => assumption
  case l5 => assumption
  case hstep =>
    intro i1 s' h' tk1 t' hi1 hI e kp
    exact deed_N B' X T (by assumption) hxz s1 s2 (by omega) (by assumption) (by assumption) (lawSt_mid hI e kp) fun s'' h2 => h2
  case hend =>
    intro s' h' tk1 hI kp
    refine cuts_N B' X T s1 s2 (by omega) (by assumption) (by assumption) (lawSt_end hI kp) fun h2 t2 g2 m2 gb2 F2 => ?_
    exact h h2 t2 g2 (fun b o e n => F2.keep b o (KG b o e n)) gb2
end
end

/-! ### VTop -/
theorem fresh70 {M : Model} {A : Around} {env : Env} {Q : Flow → Shared → Prop} {E : Value → Shared → Prop} {s : Shared} (h : Q .next s) : wpAny M A (execs [] env) Q E s := by
  w_top off
  (try walk1)
  all_goals first | exact h | exact wpAny_execs_nil h
section
theorem top_holds : PySem.Challenge.rw_vq0002_01.Holds := by
  refine Mine.hd ?_
  k_fill
  intro w s₀ s₁ mg mb G Y fa o pm cd doc dV kV ho hd hcd hD hmg hg args vals as hpre hlay hrd hwl hlo
  have KX := kIn_of Y
  refine Ground.open G ?_
  intro T B D TE TW
  wrow_args hpre hlay hrd hwl hlo
  have ef : fa = 243 := by
    have z := mg_of KX T.g (n := Str.ofString "law") (v := .ref 243) (by k_is)
    have z2 : some (Value.ref fa) = some (Value.ref 243) := hmg.symm.trans z
    injection z2 with z2
    injection z2
  subst ef
  refine n_call (law_c KX T (by assumption) (by assumption) (by omega) (fun y hy => by rw [hg] at hy; exact absurd hy (Array.not_mem_empty y)) fun h' t' g' kp gb => ?_)
  show GoodWG _ _ _ _ _ _ _
  refine ⟨.inl ⟨_, .bool true, [], rfl, fun cls => ?ra, .bool _, ?po, fun _ => ⟨.nil, fun _ ha => nomatch ha⟩⟩, .of_keep fun b o e => kp b o e (fun z => nomatch z), rfl, gb⟩
  case ra => rfl
  case po => wrow_post
end

end Mine

theorem PySem.Challenge.cw_vq0002_01_holds : PySem.Challenge.rw_vq0002_01.Holds := by
  exact Mine.top_holds
