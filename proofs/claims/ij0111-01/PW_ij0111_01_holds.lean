import PyProof.Rows.All
import Wide.All
import OpenK.AllK
import Wide.FinOn
import Lean
import PySem.Challenge.RW_ij0111_01
set_option Elab.async false
set_option genSizeOf false
set_option genSizeOfSpec false
set_option bootstrap.genMatcherCode false
set_option tactic.hygienic false
set_option linter.all false
set_option maxRecDepth 100000
set_option maxHeartbeats 4000000
namespace Mine
open PySem PySem.Calls PySem.W PyProof.Rows

theorem nn {p : Prop} (h : ¬ ¬ p) : p := Classical.not_not.mp h
theorem no_some {α : Type} {a : α} {G : Prop} (e : none = some a) : G := nomatch e
theorem no_ft {G : Prop} (e : false = true) : G := nomatch e
theorem no_tf {G : Prop} (e : true = false) : G := nomatch e
/-! ### A logic in which the stack holds no call that may hold a buffer -/
noncomputable def held (self : Value) (x : Code × Pos) : Bool :=
  Builtin.Bytes.exported.match_1 (fun _ => Bool) x (fun v _ _ _ => Builtin.Bytes.sameRef v self) (fun v _ _ _ => Builtin.Bytes.sameRef v self) (fun _ v _ _ _ => Builtin.Bytes.sameRef v self) (fun v _ _ _ => Builtin.Bytes.sameRef v self)
    (fun _ _ l _ _ => l.any (Builtin.Bytes.sameRef self)) (fun id v _ _ _ => Builtin.Bytes.sameRef v self && Builtin.Bytes.decodersThatHold.contains id) fun _ => false
noncomputable def cool (c : Code) : Prop := ∀ self q, held self (c, q) = false
theorem cool_id {id : String} {v : Value} {l : List Value} {kw : List (Str × Value)} (h : ∀ self q, held self (.builtin id ⟨v :: l, kw⟩, q) = (Builtin.Bytes.sameRef v self && false)) : cool (.builtin id ⟨v :: l, kw⟩) :=
  fun self q => (h self q).trans (Bool.and_false _)
structure Cool (Γ : PySem.Ctx) : Prop where
  code : cool Γ.code
  below : ∀ x ∈ Γ.below, cool x.1
theorem Cool.enter {Γ : PySem.Ctx} (h : Cool Γ) {c : Code} (hc : cool c) (hd : Option Value) (p : Pos) : Cool (Γ.enter c hd p) :=
  ⟨hc, fun x hx => by
    rcases List.mem_cons.mp hx with rfl | hx
    · exact h.code
    · exact h.below x hx⟩
theorem Cool.goto {Γ : PySem.Ctx} (h : Cool Γ) {c : Code} (hc : cool c) : Cool (Γ.goto c) := ⟨hc, h.below⟩

noncomputable def wpB {α : Type} (M : Model) (A : Around) (t : Sem α) (Q : α → Shared → Prop) (s : Shared) : Prop :=
  ∀ Γ p, Γ.In A → Cool Γ → Sem.wp M Γ t (fun a _ s' => Q a s') (fun _ _ _ => False) p s
noncomputable def codeB (M : Model) (A : Around) (c : Code) (R : Flow → Shared → Prop) (s : Shared) : Prop :=
  ∀ Γ p, Γ.code = c → Γ.Below A → Cool Γ → wpCode M Γ (fun r s' => ∃ f, r = .ok f ∧ R f s') p s

/-! ### The head, with the weaker demand -/
noncomputable def callerΓ : PySem.Ctx := ⟨.builtin "claim.caller" {}, none, none, [], none⟩
theorem caller_cool : Cool callerΓ := ⟨fun _ _ => rfl, fun _ h => nomatch h⟩

theorem thread_endsB {prog : Program} {w : World} {t : Sem Fin} {s : Shared} {R : Result → Shared → Prop} (hreg : s.asleep)
    (h : wpB (model prog w) callerA t (fun fin s' => ∃ f, fin = .done f ∧ (R (.ok f) s' ∧ leftWithCleanup s'.gens = false)) s) :
    ∃ n r s' s'', runN (denote table) prog w n s ⟨t, .builtin "claim.caller" {}, default, []⟩ = .halted (outcomeOf r) s' ∧
      schedN (denote table) prog w n (.single s ⟨t, .builtin "claim.caller" {}, default, []⟩) = .halted (outcomeOf r) s' ∧ s'.forget = s''.forget ∧ R r s'' := by
  have hw : Sem.wp (model prog w) callerΓ t (Sem.finPost (model prog w) callerΓ (fun r s' => R r s' ∧ leftWithCleanup s'.gens = false)) (fun e _ s' => R (.error e) s' ∧ leftWithCleanup s'.gens = false) default s := by
    refine Sem.wp_mono _ _ t (fun fin p' s' h' => ?_) (fun _ _ _ h' => h'.elim) default s (h callerΓ default caller_in caller_cool)
    obtain ⟨f, rfl, hf⟩ := h'
    exact hf
  obtain ⟨n, r, s₁, s₂, hs, hn, hfo, hR⟩ := wp_halts_full (M := model prog w) (R := R) hreg hw
  exact ⟨n, r, s₂, s₁, hn, hs, hfo, hR⟩

theorem callFromB {c : ClaimW} {tree : List Value → Sem Fin} {w : World} {s : Shared} {free : Addr → Prop} {gens : Prop} {kept : Heap → Prop} (hz : s.asleep) (hgens : s.gens = #[])
    (hspec : ∀ args, c.pre args = true → WData.layableAll args = true →
      ∀ ord : List DictEntry → List DictEntry, (∀ l, (ord l).Perm l) →
      ∃ vs s₁, layAllW c.records (classAt s.heap) w.params ord args s = some (vs, s₁) ∧
        wpB (model c.prog w) callerA (tree vs) (fun fin s' => ∃ f, fin = .done f ∧ (c.Ends s args vs s₁ (.ok f) s' ∧ s'.os = s.os ∧ AllBare s'.gens ∧ kept s'.heap)) s₁) :
    c.CallFrom (fun vs => ⟨tree vs, .builtin "claim.caller" {}, default, []⟩) w free gens kept s := by
  intro args hpre hlay ord hord
  refine nn fun no => ?_
  obtain ⟨vs, s₁, hlaid, hcode⟩ := hspec args hpre hlay ord hord
  have hal := layAllW_rest _ _ _ hlaid
  obtain ⟨k, r, s', s'', hrun, hsched, hfo, hcase, hos, hkp⟩ := thread_endsB (prog := c.prog) (w := w) (t := tree vs) (s := s₁)
    (R := fun r s' => c.Ends s args vs s₁ r s' ∧ s'.os = s.os ∧ kept s'.heap)
    (Shared.asleep_of_life hal.2.2.2 hz)
    (fun Γ p h1 h2 => Sem.wp_mono _ _ _ (fun fin _ s' h' => h'.elim fun f h => ⟨f, h.1, ⟨h.2.1, h.2.2.1, h.2.2.2.2⟩, leftWithCleanup_false_of_bare h.2.2.2.1⟩) (fun _ _ _ h' => h') _ _ (hcode Γ p h1 h2))
  obtain ⟨eh, _, _, eo, _⟩ := Shared.forget_eq hfo
  have hcase := hcase.congr eh
  rw [← eh] at hkp
  rw [← eo] at hos
  have hlife : s'.heap.life = s.heap.life := (runN_life _ _ _ hrun).trans hal.2.2.2
  have hg : ∀ (i : Nat) x, s.gens[i]? = some x → False := fun i x hx => by rw [hgens] at hx; exact no_some hx
  have e3 := Shared.rest_eq hos
  clear hcode hrun hfo hos hal hspec hz hgens
  rcases hcase with ⟨v, e, d1, d2, d3, d4, d5⟩ | ⟨e, ob, cls, e', d1, d2, d3, d4, d5⟩
  · exact no ⟨vs, s₁, hlaid, k, _, s', hsched, .inl ⟨v, congrArg outcomeOf e, d1, d2, d3, fun b o y _ => d4 b o y, d5⟩, fun _ i x hx => (hg i x hx).elim, hkp, by rw [hlife], e3⟩
  · exact no ⟨vs, s₁, hlaid, k, _, s', hsched, .inr ⟨e, ob, cls, congrArg outcomeOf e', d1, d2, d3, d4, fun b o y _ => d5 b o y⟩, fun _ i x hx => (hg i x hx).elim, hkp, by rw [hlife], e3⟩

theorem wpB_mono {α : Type} {M : Model} {A : Around} {t : Sem α} {Q Q' : α → Shared → Prop} {s : Shared} (h : wpB M A t Q s) (hQ : ∀ a s, Q a s → Q' a s) : wpB M A t Q' s :=
  fun Γ p h1 h2 => Sem.wp_mono M Γ t (fun a _ s => hQ a s) (fun _ _ _ x => x) p s (h Γ p h1 h2)
theorem wpB_bind {α β : Type} {M : Model} {A : Around} {m : Sem α} {f : α → Sem β} {Q : β → Shared → Prop} {s : Shared} (h : wpB M A m (fun a s' => wpB M A (f a) Q s') s) : wpB M A (m >>= f) Q s :=
  fun Γ p h1 h2 => by
    rw [Sem.wp_bind']
    exact Sem.wp_mono M Γ m (fun a p' s' h' => h' Γ p' h1 h2) (fun _ _ _ x => x) p s (h Γ p h1 h2)
theorem wpB_pure {α : Type} {M : Model} {A : Around} {a : α} {Q : α → Shared → Prop} {s : Shared} (h : Q a s) : wpB M A (pure a) Q s := fun _ _ _ _ => h
theorem wpB_leaf {α : Type} {M : Model} {A : Around} {t : Sem α} {Q : α → Shared → Prop} {s : Shared} (h : wpAny M A t Q (fun _ _ => False) s) : wpB M A t Q s := fun Γ p h1 _ => h Γ p h1

theorem open_anyB {r : RowW} {run : Value → List Value → Sem Value} {tree : List Value → Sem Fin} {q : Program} {loose defs kps : List Str} {writes : Bool} {Xt : Shared → Bool} {XP : (Str → Option Value) → Heap → Prop} {α : Type} {Yf : Shared → α} {Ya : World → α} {N : Nat}
    (left : LeftO r.prog q loose Xt Yf Ya N) (hX : ∀ s, Xt s = true → XP (s.heap.nsMap mainGlobals) s.heap) (hXk : ∀ mg h h', XP mg h → (∀ b o, h.get? b = some o → h'.get? b = some o) → XP mg h')
    (hRf : ∀ s, Xt s = true → RecFacts r.records s.heap) (hwr : (!writes || r.records.isEmpty) = true) (ok : (chainsOk q && opensWell r.prog && (frees r && r.within.isEmpty)) = true) (hb : r.prog.bare) (hw : r.promised)
    (ht : ∀ vs (w : World) (s : Shared) mg f (Q : Fin → Shared → Prop), s.heap.Ns mainGlobals mg → mg r.name = some f → wpB (model r.prog w) callerA (run f vs) (fun v s' => Q (.done (.ret v)) s') s → wpB (model r.prog w) callerA (tree vs) Q s)
    (pin : ∀ w s, s.heap.isNs mainGlobals = true → Ground q loose [] XP w s (s.heap.nsMap mainGlobals) (s.heap.nsMap builtinsNs) s.heap → ∀ n ∈ defs, isTheDefsW r.prog s.heap n)
    (call : ∀ (w : World) (s₀ s₁ : Shared) (mg mb : Str → Option Value), Ground q loose r.records XP w s₀ mg mb s₁.heap → Yf s₀ = Ya w → ∀ (args : List WData) (vs : List Value) (as : List Addr),
      r.claim.pre args = true → WData.layableAll args = true → Laid r.records w s₀ s₁ args vs as → sysModules < s₀.heap.objs.size → ∃ f, mg r.name = some f ∧
        wpB (model r.prog w) callerA (run f vs) (fun v s' => GoodWG r.claim (classAt s₀.heap) (ExcName.means s₀.heap) args s₁ (.ok (.ret v)) s') s₁) :
    r.claim.HoldsOpenBy (fun vs => ⟨tree vs, .builtin "claim.caller" {}, default, []⟩) defs kps writes := by
  obtain ⟨ok, k5⟩ := Bool.and_eq_true_iff.mp ok
  obtain ⟨hch, o1⟩ := Bool.and_eq_true_iff.mp ok
  obtain ⟨k5, k6⟩ := Bool.and_eq_true_iff.mp k5
  obtain ⟨hsame, hu, ha, hap, hm⟩ := frees_parts k5
  refine ⟨⟨hb, o1, by show r.makers.map _ = []; rw [hm]; rfl⟩, hw.witness, fun w => ⟨(left.behind hX hch w).1, fun s' hs' => ?_⟩⟩
  obtain ⟨s₀, hf, hg0, s, hT, hz, hgens, hg, G00, y⟩ := (left.behind (XP := fun mg h => XP mg h ∧ RecFacts r.records h) (fun s hs => ⟨hX s hs, hRf s hs⟩) hch w).2 s' hs'
  have G0 : Ground q loose [] XP w s (s.heap.nsMap mainGlobals) (s.heap.nsMap builtinsNs) s.heap := ⟨G00.T, G00.B, G00.D, G00.TE, G00.TD, G00.W, G00.X.1, G00.cls, G00.has, G00.apart, G00.once, G00.K⟩
  have RF := G00.X.2
  have hT' := hT
  refine ⟨s₀, hf, hg0, s, hT, pin w s hg G0, RF.1, RF.2.1, ?_⟩
  have hgens : s.gens = #[] := Array.eq_empty_of_size_eq_zero (beq_iff_eq.mp hgens)
  have G : Ground q loose r.records XP w s _ _ s.heap := RF.ground G0
  refine callFromB (c := r.claim) hz hgens fun args hpre hlay ord hord => ?_
  obtain ⟨⟨vs, s₁⟩, hlaid⟩ := Option.isSome_iff_exists.mp (layAllW_isSome (P := w.params) (ord := ord) G.has args r.args s (pre_splitW hpre).1)
  have keeps := layAllW_keeps _ _ _ hlaid
  have hal := layAllW_rest _ _ _ hlaid
  obtain ⟨as, hrd, hin, hold⟩ := reads_layAllW hord _ _ _ hlaid hlay s₁.heap (fun _ _ e => e)
  have L : Laid r.records w s s₁ args vs as := ⟨⟨ord, hord, hlaid⟩, hrd, hin, hold, keeps, hal.1.trans hgens, hal.2.2.1⟩
  have G₁ := G.keeps hXk keeps
  obtain ⟨f, hf, h⟩ := call w s s₁ _ _ G₁ y args vs as hpre hlay L G.low
  have hi := ident_freeW hu ha hap
  have hwi : r.claim.within = [] := List.isEmpty_iff.mp k6
  exact ⟨vs, s₁, hlaid, ht vs w s₁ _ f _ G₁.T.g hf (wpB_mono h (fun v s' g => ⟨_, rfl, have z := g.laid (c := r.claim) hsame hwi hi L; ⟨z.1, z.2.1, z.2.2, fun q => ⟨namesKept_of hT' hg kps keeps g.2.1.old, noTable hwr q⟩⟩⟩))⟩

abbrev WalkB (q : Program) (loose : List Str) (XP : (Str → Option Value) → Heap → Prop) {α : Type} (Yf : Shared → α) (Ya : World → α) (r : RowW) (d : DefRec) (kwd : List (Str × Expr)) (run : Value → List Value → Sem Value) : Prop :=
  ∀ (w : World) (s₀ s₁ : Shared) (mg mb : Str → Option Value), Ground q loose r.records XP w s₀ mg mb s₁.heap → Yf s₀ = Ya w → ∀ (a : Addr) (o : Obj) (pm cd doc dV kV : Value), s₁.heap.get? a = some o →
    o.data = .func { docDef d.name d.params d.body d.scope pm cd doc with defaults := dV, kwdefaults := kV } → s₁.heap.CodeRec cd d.name → Dflts mg s₁.heap d.params kwd dV kV → mg d.name = some (.ref a) → s₁.gens = #[] →
    ∀ (args : List WData) (vals : List Value) (as : List Addr), Laid r.records w s₀ s₁ args vals as → r.claim.pre args = true → WData.layableAll args = true → ReadsAllW r.records (classAt s₀.heap) s₁.heap vals args as → WellAll w.params s₁.heap vals args → (∀ a ∈ as, (a == sysModules) = false) →
      wpB (model r.prog w) callerA (run (.ref a) vals) (fun v s' => GoodWG r.claim (classAt s₀.heap) (ExcName.means s₀.heap) args s₁ (.ok (.ret v)) s') s₁

theorem openX {r : OpenRow} {q : Program} {loose : List Str} {Xt : Shared → Bool} {XP : (Str → Option Value) → Heap → Prop} {α : Type} {Yf : Shared → α} {Ya : World → α} {d : DefRec} {kwd : List (Str × Expr)} {N : Nat}
    (left : LeftO r.prog q loose Xt Yf Ya N)
    (hX : ∀ s, Xt s = true → XP (s.heap.nsMap mainGlobals) s.heap) (hXk : ∀ mg h h', XP mg h → (∀ b o, h.get? b = some o → h'.get? b = some o) → XP mg h')
    (hdef : defOf q r.name = some (d, kwd)) (hp : r.prog.theDef r.name = some (d.params, d.body, d.scope)) (hk : kwWritten? d.params.kwonlyargs d.params.kw_defaults = some kwd) (hRf : ∀ s, Xt s = true → RecFacts r.records s.heap) (hwr : (!r.writes || r.records.isEmpty) = true)
    (k1 : r.wellSaid = true) (ok : (chainsOk q && opensWell r.prog && (frees r.toRowW && r.within.isEmpty)) = true) (hb : r.prog.bare) (hw : r.toRowW.promised)
    (call : WalkB q loose XP Yf Ya r.toRowW d kwd fun f vs => PySem.call f vs) : r.Holds := by
  refine ⟨k1, hw, open_anyB (r := r.toRowW) (run := fun f vs => PySem.call f vs) (tree := fun vs => do match ← nsGet mainNs r.name with
      | some f => do ret (← PySem.call f vs)
      | none => unsupported "claim.caller:no-such-global") left hX hXk hRf hwr ok hb hw
    (fun vs w s mg f Q hg hf h => wpB_bind (wpB_leaf (wpAny_nsGet hg (by rw [hf]; exact wpB_bind (wpB_mono h (fun _ _ x => wpB_pure x))))))
    (fun w s hg G n hn => ?_) fun w s₀ s₁ mg mb G Y args vs as hpre hlay L low => ?_⟩
  · obtain rfl : n = r.name := by split at hn <;> simp_all
    exact pinned_of_view hg G hdef hp hk
  · obtain ⟨a, o, pm, cd, doc, dV, kV, h1, h2, h3, h4, h5⟩ := G.fn hdef
    exact ⟨.ref a, h1, call w s₀ s₁ mg mb G Y a o pm cd doc dV kV h2 h3 h4 h5 (defOf_name hdef ▸ h1) L.gens args vs as L hpre hlay L.reads L.well (L.low low)⟩
abbrev WalkY (q : Program) (loose : List Str) (XP : (Str → Option Value) → Heap → Prop) (YP : World → Heap → Prop) (r : RowW) (d : DefRec) (kwd : List (Str × Expr)) (run : Value → List Value → Sem Value) : Prop :=
  ∀ (w : World) (s₀ s₁ : Shared) (mg mb : Str → Option Value), Ground q loose r.records XP w s₀ mg mb s₁.heap → YP w s₁.heap → ∀ (a : Addr) (o : Obj) (pm cd doc dV kV : Value), s₁.heap.get? a = some o →
    o.data = .func { docDef d.name d.params d.body d.scope pm cd doc with defaults := dV, kwdefaults := kV } → s₁.heap.CodeRec cd d.name → Dflts mg s₁.heap d.params kwd dV kV → mg d.name = some (.ref a) → s₁.gens = #[] →
    ∀ (args : List WData) (vals : List Value) (as : List Addr), Laid r.records w s₀ s₁ args vals as → r.claim.pre args = true → WData.layableAll args = true → ReadsAllW r.records (classAt s₀.heap) s₁.heap vals args as → WellAll w.params s₁.heap vals args → (∀ a ∈ as, (a == sysModules) = false) →
      wpB (model r.prog w) callerA (run (.ref a) vals) (fun v s' => GoodWG r.claim (classAt s₀.heap) (ExcName.means s₀.heap) args s₁ (.ok (.ret v)) s') s₁
theorem PySem.W.holds_open {r : OpenRow} {q : Program} {loose : List Str} {Xt : Shared → Bool} {XP : (Str → Option Value) → Heap → Prop} {α : Type} {Yf : Shared → α} {Ya : World → α} {YP : World → Heap → Prop} {d : DefRec} {kwd : List (Str × Expr)} {N : Nat}
    (left : LeftO r.prog q loose Xt Yf Ya N) (hY : ∀ w s, Yf s = Ya w → YP w s.heap) (hYk : ∀ w h h', YP w h → (∀ b o, h.get? b = some o → h'.get? b = some o) → YP w h')
    (hX : ∀ s, Xt s = true → XP (s.heap.nsMap mainGlobals) s.heap) (hXk : ∀ mg h h', XP mg h → (∀ b o, h.get? b = some o → h'.get? b = some o) → XP mg h')
    (hdef : defOf q r.name = some (d, kwd)) (hp : r.prog.theDef r.name = some (d.params, d.body, d.scope)) (hk : kwWritten? d.params.kwonlyargs d.params.kw_defaults = some kwd) (hRf : ∀ s, Xt s = true → RecFacts r.records s.heap) (hwr : (!r.writes || r.records.isEmpty) = true)
    (k1 : r.wellSaid = true) (ok : (chainsOk q && opensWell r.prog && (frees r.toRowW && r.within.isEmpty)) = true) (hb : r.prog.bare) (hw : r.toRowW.promised)
    (call : WalkY q loose XP YP r.toRowW d kwd fun f vs => PySem.call f vs) : r.Holds :=
  openX left hX hXk hdef hp hk hRf hwr k1 ok hb hw fun w s₀ s₁ mg mb G y a o pm cd doc dV kV h1 h2 h3 h4 h5 h6 args vals as L => call w s₀ s₁ mg mb G (hYk _ _ _ (hY w s₀ y) L.keeps) a o pm cd doc dV kV h1 h2 h3 h4 h5 h6 args vals as L
end Mine
namespace Mine
open _root_.PySem _root_.PySem.Calls _root_.PySem.W _root_.PyProof.Rows

section
variable {α β : Type} {M : Model} {A : Around} {s : Shared}
theorem wpB_holding {vs : List Value} {m : Sem α} {Q : α → Shared → Prop} (h : wpB M A m Q s) : wpB M A (holding vs m) Q s := fun Γ p h1 h2 => by rw [Sem.wp_holding]; exact h Γ p h1 h2
theorem wpB_keep {vs : List Value} {m : Sem α} {Q : α → Shared → Prop} (h : wpB M A m Q s) : wpB M A (m.keep vs) Q s := fun Γ p h1 h2 => by rw [Sem.wp_keep]; exact h Γ p h1 h2
theorem wpB_operate {vs : List Value} {m : Sem Value} {Q : Value → Shared → Prop} (h : wpB M A m Q s) : wpB M A (operate vs m) Q s := fun Γ p h1 h2 => by rw [Sem.wp_operate]; exact h Γ p h1 h2
theorem wpB_onRaise {m : Sem α} {k : Value → Sem Unit} {Q : α → Shared → Prop} (h : wpB M A m Q s) : wpB M A (m.onRaise k) Q s := fun Γ p h1 h2 => by
  rw [Sem.wp_onRaise]
  exact Sem.wp_mono _ _ _ (fun _ _ _ x => x) (fun _ _ _ x => x.elim) _ _ (h Γ p h1 h2)
theorem wpB_attempt {m : Sem α} {Q : Except Value α → Shared → Prop} (h : wpB M A m (fun a => Q (.ok a)) s) : wpB M A m.attempt Q s := fun Γ p h1 h2 => by
  rw [Sem.wp_attempt]
  exact Sem.wp_mono _ _ _ (fun _ _ _ x => x) (fun _ _ _ x => x.elim) _ _ (h Γ p h1 h2)
theorem wpB_standAt {pos : Pos} {Q : Unit → Shared → Prop} (h : Q () s) : wpB M A (standAt pos) Q s := fun _ _ _ _ => h
theorem wpB_point {Q : Unit → Shared → Prop} (h : Q () s) : wpB M A point Q s := fun _ _ _ _ => h
theorem wpB_rule {tag : String} {Q : Unit → Shared → Prop} (h : Q () s) : wpB M A (rule tag) Q s := fun _ _ _ _ => h
theorem wpB_release {vs keep : List Value} {Q : Unit → Shared → Prop} (h : Q () s) : wpB M A (release vs keep) Q s := fun Γ p h1 h2 => by rw [Sem.wp_release]; exact h
theorem wpB_map {m : Sem α} {f : α → β} {Q : β → Shared → Prop} (h : wpB M A m (fun a s' => Q (f a) s') s) : wpB M A (f <$> m) Q s := fun Γ p h1 h2 => by rw [Sem.wp_map]; exact h Γ p h1 h2
theorem wpB_load {a : Addr} {o : Obj} {Q : Obj → Shared → Prop} (ho : s.heap.get? a = some o) (h : Q o s) : wpB M A (load a) Q s := wpB_leaf (wpAny_load ho h)
theorem wpB_bindm {m : Sem α} {f : α → Sem β} {P : α → Shared → Prop} {Q : β → Shared → Prop} (h : wpB M A m P s) (k : ∀ a s', P a s' → wpB M A (f a) Q s') : wpB M A (m >>= f) Q s := wpB_bind (wpB_mono h k)

theorem codeB_mono {c : Code} {R R' : Flow → Shared → Prop} (h : codeB M A c R s) (hR : ∀ r s, R r s → R' r s) : codeB M A c R' s :=
  fun Γ p h1 h2 h3 => wpCode_mono (fun _ _ ⟨f, e, x⟩ => ⟨f, e, hR _ _ x⟩) (h Γ p h1 h2 h3)
theorem codeB_of_tree {c : Code} {R : Flow → Shared → Prop}
    (h : wpB M (A.under c) (M.den c) (fun fin s' => match fin with | .done f => R f s' | .again c' => c'.quiet = true ∧ cool c' ∧ codeB M A c' R s') s) : codeB M A c R s := fun Γ p hc hΓ hK => by
  rw [wpCode_iff_wp, hc]
  refine Sem.wp_mono M Γ _ (fun fin p' s' h' => ?_) (fun _ _ _ h' => h'.elim) p s (h Γ p (hc ▸ hΓ.in) hK)
  cases fin with
  | done f => exact ⟨f, rfl, h'⟩
  | again c' => exact ⟨h'.1, h'.2.2 (Γ.goto c') p' rfl (hΓ.goto c') (hK.goto h'.2.1)⟩
theorem wpB_run {c : Code} {Q : Flow → Shared → Prop} (hc : cool c) (h : codeB M A c Q s) : wpB M A (run c) Q s := fun Γ p h1 h2 => by
  rw [Sem.wp_run]
  refine wpCode_mono (fun r s' x => ?_) (h _ p rfl (h1.enter c none p (by intro x; cases x)) (h2.enter hc none p))
  obtain ⟨f, rfl, hf⟩ := x
  exact hf
theorem wpB_runOwn {c : Code} {env : Env} {Q : Flow → Shared → Prop} (hc : cool c) (h : codeB M A c Q s) : wpB M A (runOwn c env) Q s := by
  unfold runOwn
  exact wpB_onRaise (wpB_run hc h)
theorem wpB_call {f : Value} {pos : List Value} {kw : List (Str × Value)} {Q : Value → Shared → Prop} (h : codeB M A (.call f ⟨pos, kw⟩) (fun fl s' => ∃ v, fl = .ret v ∧ Q v s') s) : wpB M A (call f pos kw) Q s := fun Γ p h1 h2 => by
  show Sem.wp M Γ (runValue _) _ _ p s
  rw [Sem.wp_runValue]
  refine wpCode_mono (fun r s' x => ?_) (h _ p rfl (h1.enter _ none p (by intro x; cases x)) (h2.enter (fun _ _ => rfl) none p))
  obtain ⟨f, rfl, v, rfl, hv⟩ := x
  exact hv
end

section
variable {prog : Program} {w : World} {A : Around} {s : Shared}
theorem codeB_call_function {R : Flow → Shared → Prop} {a : Addr} {args : Args} {o : Obj} {fd : FuncData} {body : List Stmt} (hroom : A.depth < recursionLimit)
    (ho : s.heap.get? a = some o)
    (hd' : o.data = .func fd) (hco : fd.scope.isCoroutine = false) (hgen : fd.scope.isGenerator = false) (hbody : fd.body = .stmts body) (hcd : s.heap.CodeRec fd.code fd.qualname)
    (h : wpB (model prog w) A.in1 (bindArgs fd args) (fun binds s₁ =>
      wpB (model prog w) A.in1 (newFunctionEnv fd.scope fd.globals fd.closure binds (fd.qualname ++ ".<locals>.") (some a) fd.code none fd.builtins)
        (fun env s₂ => s₂.heap.NoLimit ∧ codeB (model prog w) A (.func body env) R s₂) s₁) s) :
    codeB (model prog w) A (.call (.ref a) args) R s := by
  refine codeB_of_tree ?_
  show wpB _ A.in1 (callAny (.ref a) args) _ s
  simp only [callAny]
  refine wpB_bind (wpB_leaf (wpAny_load ho ?_))
  obtain ⟨c, oc, vs, tq, hc, hoc, hdc, hq⟩ := hcd
  simp only [hd', callFunction, hco, hgen, hbody, hc]
  rw [hc] at h
  refine wpB_bind (m := field (.ref c) 1) (wpB_leaf (wpAny_field hoc hdc hq (wpB_bind (wpB_pure ?_))))
  exact wpB_bind (wpB_mono h (fun binds s₁ h₁ => wpB_bind (wpB_mono h₁ (fun env s₂ h₂ => wpB_bind (wpB_leaf (wpAny_enterFrame h₂.1 hroom (wpB_pure (And.intro rfl (And.intro (fun _ _ => rfl) h₂.2)))))))))

theorem codeB_func {R : Flow → Shared → Prop} {body : List Stmt} {env : Env}
    (h : wpB (model prog w) (A.deeper env) (execs body env) (fun f s' => R (.ret (match f with | .ret v => v | _ => .none)) s') s) :
    codeB (model prog w) A (.func body env) R s := by
  refine codeB_of_tree ?_
  show wpB _ (A.deeper env) (do point; match ← (execs body env).onRaise (leaving env) with | .ret v => ret v | _ => ret .none) _ s
  refine wpB_bind (wpB_point (wpB_bind (wpB_onRaise (wpB_mono h (fun f s' h' => ?_)))))
  cases f <;> exact wpB_pure h'

/-- a while loop: one turn -/
theorem codeB_while {R : Flow → Shared → Prop} {test : Expr} {body : List Stmt} {env : Env}
    (h : wpB (model prog w) A (isTrue test env (eval test env)) (fun b s₁ => match b with
      | false => R .next s₁
      | true => wpB (model prog w) A (execs body env) (fun f s₂ => match f with
        | .next | .cont => codeB (model prog w) A (.whileLoop test body [] env) R s₂
        | .brk => R .next s₂
        | .ret v => R (.ret v) s₂) s₁) s) :
    codeB (model prog w) A (.whileLoop test body [] env) R s := by
  refine codeB_of_tree ?_
  rw [Around.under_of_weight (by rfl)]
  show wpB _ A ((whileTurn test body [] env).onRaise (fun x => do noteFrame x env; theTreesLotGoes x)) _ s
  refine wpB_onRaise ?_
  unfold whileTurn
  refine wpB_bindm h (fun b s₁ h₁ => ?_)
  cases b with
  | false =>
    simp only [Bool.false_eq_true, if_false]
    rw [show execs [] env = (pure .next : Sem Flow) from rfl]
    exact wpB_bind (wpB_pure (wpB_pure h₁))
  | true =>
    simp only [if_true]
    refine wpB_bindm h₁ (fun f s₂ h₂ => ?_)
    cases f <;> first | exact wpB_pure h₂ | exact wpB_pure (And.intro rfl (And.intro (fun _ _ => rfl) h₂))

/-- a for loop: one turn -/
theorem codeB_for {R : Flow → Shared → Prop} {target : Expr} {it : Value} {body : List Stmt} {env : Env}
    (h : wpB (model prog w) A (pyNext it) (fun r s₁ => match r with
      | none => R .next s₁
      | some v => wpB (model prog w) A (letOwnedTupleGo target it v) (fun _ s₁' => wpB (model prog w) A (assign target env v) (fun _ s₂ =>
        wpB (model prog w) A (execs body env) (fun f s₃ => match f with
          | .next | .cont => codeB (model prog w) A (.forLoop target it body [] env) R s₃
          | .brk => R .next s₃
          | .ret v => R (.ret v) s₃) s₂) s₁') s₁) s) :
    codeB (model prog w) A (.forLoop target it body [] env) R s := by
  refine codeB_of_tree ?_
  rw [Around.under_of_weight (by rfl)]
  show wpB _ A ((forTurn target it body [] env).onRaise (fun x => do noteFrame x env; theTreesLotGoes x)) _ s
  refine wpB_onRaise ?_
  unfold forTurn
  refine wpB_bind (wpB_standAt (wpB_bindm (wpB_onRaise h) (fun r s₁ h₁ => ?_)))
  cases r with
  | none =>
    refine wpB_pure (And.intro rfl (And.intro (fun _ _ => rfl) ?_))
    refine codeB_of_tree ?_
    rw [Around.under_of_weight (by rfl)]
    show wpB _ A (do return Fin.done (← (execs [] env).onRaise (fun x => do noteFrame x env; theTreesLotGoes x)) : Sem Fin) _ s₁
    rw [show execs [] env = (pure .next : Sem Flow) from rfl]
    exact wpB_bind (wpB_onRaise (wpB_pure (wpB_pure h₁)))
  | some v =>
    refine wpB_bindm h₁ (fun _ s₁' h₁' => wpB_bindm h₁' (fun _ s₂ h₂ => wpB_bindm h₂ (fun f s₃ h₃ => ?_)))
    cases f <;> first | exact wpB_pure h₃ | exact wpB_pure (And.intro rfl (And.intro (fun _ _ => rfl) h₃))
end
end Mine
namespace Mine
open _root_.PySem

/-! ### The small language: values, expressions, statements, and what they come to -/
inductive PV where
  | none
  | bool (b : Bool)
  | int (i : Int)
  | str (s : List Nat)
  | bytes (b : List Nat)
  | list (xs : List PV)
  | tup (xs : List PV)
  | range (a b c : Int)
  | ref (k : Nat)
  | meth (k : Nat)

/-- a value that holds no object that may turn -/
noncomputable def frozen : PV → Bool
  | .ref _ => false
  | .meth _ => false
  | _ => true

inductive PObj where
  | list (xs : List PV)
  | barr (bs : List Nat)
  | hid

/-- what the names hold -/
abbrev Vars := Nat → Option PV
structure St where
  env : Vars
  led : List PObj

noncomputable def getV (e : Vars) (x : Nat) : Option PV := e x
noncomputable def setV (e : Vars) (x : Nat) (v : PV) : Vars := fun y => match Nat.beq y x with
  | true => some v
  | false => e y
noncomputable def noVars : Vars := fun _ => Option.none
noncomputable def ofL : List (Nat × PV) → Vars
  | [] => noVars
  | p :: r => setV (ofL r) p.1 p.2
noncomputable def onlyV (e : Vars) (caps : List Nat) : Vars := fun y => match caps.contains y with
  | true => e y
  | false => Option.none

inductive BOp where | add | sub | mul | fdiv | mod
inductive COp where | eq | ne | lt | le | gt | ge | isin | notin | is
inductive Prim where
  | len | ord | chr | bytes | isStr | isMem | strAscii | range1 | range2 | range3 | list | sum | rfind | upper | transl | replace | find | join | reSub | joinEsc
inductive Fn where
  | T | gen1 | adapt | gens | dec1 | isort | pdec | escape | transl | members | dressed | bracket | takes | allTake | inside | octet | first | next | laid | law
  deriving DecidableEq

inductive PE where
  | any
  | lit (v : PV)
  | var (x : Nat)
  | digits
  | bin (o : BOp) (a b : PE)
  | not (a : PE)
  | and (a b : PE)
  | or (a b : PE)
  | ite (c a b : PE)
  | cmp (o : COp) (a b : PE)
  | cmp2 (o p : COp) (a b c : PE)
  | list (as : PE)
  | tup (as : PE)
  | idx (o i : PE)
  | slice (o lo hi : PE)
  | prim (p : Prim) (as : PE)
  | meth (p : Prim) (o as : PE)
  | call (f : Fn) (as : PE)
  | comp (x : Nat) (caps : List Nat) (elt it cond : PE)
  | fstr (pre : List Nat) (e : PE) (post : List Nat)
  | nil
  | cons (a r : PE)

inductive PS where
  | any
  | nil
  | seq (s r : PS)
  | asg (x : Nat) (e : PE)
  | newl (x : Nat)
  | newb (x : Nat)
  | getapp (x y : Nat)
  | asgSwap (x y : Nat) (a b : PE)
  | asgT (x y : Nat) (e : PE)
  | aug (x : Nat) (o : BOp) (e : PE)
  | app (x : Nat) (e : PE)
  | appm (x : Nat) (e : PE)
  | ext (x : Nat) (e : PE)
  | setI (x : Nat) (i e : PE)
  | augI (x : Nat) (i : Int) (e : PE)
  | delI (x : Nat) (i : PE)
  | iff (c : PE) (t e : PS)
  | whl (c : PE) (b : PS)
  | forI (x : Nat) (it : PE) (b : PS)
  | forT (x y z : Nat) (it : PE) (b : PS)
  | forE (x y : Nat) (it : PE) (b : PS)
  | ret (e : PE)
  | brk
  | asrt (e : PE)
  | try_ (b : PS)

inductive Fl where
  | next | brk
  | ret (v : PV)

/-- sizes that the model is sure to bear -/
noncomputable def big : Nat := 4096
noncomputable def ibig : Int := 4294967296

/-! looking into values, one step at a time -/
noncomputable def a1 : List PV → Option PV
  | [x] => some x
  | _ => Option.none
noncomputable def a2 : List PV → Option (PV × PV)
  | [x, y] => some (x, y)
  | _ => Option.none
noncomputable def a3 : List PV → Option (PV × PV × PV)
  | [x, y, z] => some (x, y, z)
  | _ => Option.none
noncomputable def a4 : List PV → Option (PV × PV × PV × PV)
  | [x, y, z, u] => some (x, y, z, u)
  | _ => Option.none
noncomputable def asStr : PV → Option (List Nat)
  | .str s => some s
  | _ => Option.none
noncomputable def asByt : PV → Option (List Nat)
  | .bytes s => some s
  | _ => Option.none
noncomputable def asInt : PV → Option Int
  | .int i => some i
  | _ => Option.none
noncomputable def asLst : PV → Option (List PV)
  | .list l => some l
  | _ => Option.none
noncomputable def asRng : PV → Option (Int × Int × Int)
  | .range a b c => some (a, b, c)
  | _ => Option.none
noncomputable def one1 : List Nat → Option Nat
  | [c] => some c
  | _ => Option.none
noncomputable def asBool : PV → Option Bool
  | .bool b => some b
  | _ => Option.none
noncomputable def asTup : PV → Option (List PV)
  | .tup l => some l
  | _ => Option.none
noncomputable def isNone : PV → Bool
  | .none => true
  | _ => false

noncomputable def truth : PV → Option Bool
  | .none => some false
  | .bool b => some b
  | .int i => some (decide (i ≠ 0))
  | .str s => if s.length ≤ big then some (!s.isEmpty) else Option.none
  | _ => Option.none

noncomputable def asLO : PObj → Option (List PV)
  | .list xs => some xs
  | _ => Option.none
noncomputable def lstAt (led : List PObj) (k : Nat) : Option (List PV) := led[k]?.bind asLO
noncomputable def listOf (led : List PObj) : PV → Option (List PV)
  | .list xs => some xs
  | .ref k => lstAt led k
  | _ => Option.none

noncomputable def addV (a b : PV) : Option PV := match a with
  | .int i => (asInt b).bind fun j => some (.int (i + j))
  | .str s => (asStr b).bind fun r => if s.length + r.length ≤ big then some (.str (s ++ r)) else Option.none
  | .bytes s => (asByt b).bind fun r => if s.length + r.length ≤ big then some (.bytes (s ++ r)) else Option.none
  | .list s => (asLst b).bind fun r => if s.length + r.length ≤ big then some (.list (s ++ r)) else Option.none
  | _ => Option.none
noncomputable def intsV (a b : PV) (f : Int → Int → Option PV) : Option PV := (asInt a).bind fun i => (asInt b).bind fun j => f i j
noncomputable def binop (o : BOp) (a b : PV) : Option PV := match o with
  | .add => addV a b
  | .sub => intsV a b fun i j => some (.int (i - j))
  | .mul => intsV a b fun i j => if -ibig < i ∧ i < ibig then some (.int (i * j)) else Option.none
  | .fdiv => intsV a b fun i j => if 0 < j ∧ j < 1073741824 then some (.int (Int.fdiv i j)) else Option.none
  | .mod => intsV a b fun i j => if 0 < j then some (.int (Int.fmod i j)) else Option.none

/-- += and //= on ints -/
noncomputable def iop (o : BOp) (a b : PV) : Option PV := match o with
  | .add => intsV a b fun i j => some (.int (i + j))
  | .fdiv => intsV a b fun i j => if 0 < j ∧ j < 1073741824 then some (.int (Int.fdiv i j)) else Option.none
  | _ => Option.none

/-- < of two texts, by their signs' numbers -/
noncomputable def strLt : List Nat → List Nat → Bool
  | [], [] => false
  | [], _ :: _ => true
  | _ :: _, [] => false
  | a :: s, b :: t => if a < b then true else if b < a then false else strLt s t

/-- equality of two ints, texts, bytes -/
noncomputable def pvEq : PV → PV → Bool
  | .int a, .int b => decide (a = b)
  | .str a, .str b => decide (a = b)
  | .bytes a, .bytes b => decide (a = b)
  | _, _ => false
noncomputable def isInt : PV → Bool
  | .int _ => true
  | _ => false
noncomputable def isStr : PV → Bool
  | .str _ => true
  | _ => false
noncomputable def isBytes : PV → Bool
  | .bytes _ => true
  | _ => false
noncomputable def oneKind (xs ys : List PV) : Bool := (xs.all isInt && ys.all isInt) || (xs.all isStr && ys.all isStr) || (xs.all isBytes && ys.all isBytes)

noncomputable def eqL (led : List PObj) (a b : PV) : Option Bool := (listOf led a).bind fun xs => (listOf led b).bind fun ys =>
      if xs.length = ys.length then (if oneKind xs ys then some ((xs.zip ys).all fun p => pvEq p.1 p.2) else Option.none) else some false
noncomputable def cmpEq (led : List PObj) (a b : PV) : Option Bool := match a with
  | .int i => (asInt b).bind fun j => some (decide (i = j))
  | .bool i => (asBool b).bind fun j => some (i == j)
  | .str i => (asStr b).bind fun j => some (decide (i = j))
  | .bytes i => (asByt b).bind fun j => some (decide (i = j))
  | a => eqL led a b
noncomputable def intsB (a b : PV) (f : Int → Int → Bool) : Option Bool := (asInt a).bind fun i => (asInt b).bind fun j => some (f i j)
noncomputable def leV (a b : PV) : Option Bool := match a with
  | .str s => (asStr b).bind fun r => some (!strLt r s)
  | _ => intsB a b fun i j => decide (i ≤ j)
noncomputable def gtV (a b : PV) : Option Bool := match a with
  | .str s => (asStr b).bind fun r => some (strLt r s)
  | _ => intsB a b fun i j => decide (j < i)
noncomputable def inV (a b : PV) : Option Bool := (asStr a).bind fun s => match b with
  | .str r => (one1 s).bind fun c => some (r.contains c)
  | .tup xs => if xs.all isStr then some (xs.any fun p => pvEq p (.str s)) else Option.none
  | _ => Option.none
noncomputable def cmpv (led : List PObj) (o : COp) (a b : PV) : Option Bool := match o with
  | .eq => cmpEq led a b
  | .ne => (cmpEq led a b).map (!·)
  | .lt => intsB a b fun i j => decide (i < j)
  | .le => leV a b
  | .gt => gtV a b
  | .ge => intsB a b fun i j => decide (j ≤ i)
  | .isin => inV a b
  | .notin => (asStr a).bind fun s => (one1 s).bind fun c => (asStr b).bind fun r => some (!r.contains c)
  | .is => (asInt a).bind fun _ => if isNone b then some false else Option.none

/-- an index as Python takes it -/
noncomputable def pyIdx (i : Int) (n : Nat) : Option Nat :=
  if 0 ≤ i ∧ i < n then some i.toNat else if i < 0 ∧ -(n : Int) ≤ i then some (i + n).toNat else Option.none

noncomputable def idxI (led : List PObj) (i : Int) (o : PV) : Option PV := match o with
  | .str s => if s.length ≤ big then (pyIdx i s.length).bind fun k => (s[k]?).map fun c => .str [c] else Option.none
  | .bytes b => if b.length ≤ big then (pyIdx i b.length).bind fun k => (b[k]?).map fun (c : Nat) => .int (c : Int) else Option.none
  | .tup xs => if xs.length ≤ big then (pyIdx i xs.length).bind fun k => xs[k]? else Option.none
  | o => (listOf led o).bind fun xs => if xs.length ≤ big then (pyIdx i xs.length).bind fun k => xs[k]? else Option.none
noncomputable def idxv (led : List PObj) (o y : PV) : Option PV := (asInt y).bind fun i => idxI led i o

/-- a slice's bound -/
noncomputable def clip (dflt : Nat) (n : Nat) : PV → Option Nat
  | .none => some dflt
  | .int i => some (if i < 0 then (i + n).toNat else min i.toNat n)
  | _ => Option.none

noncomputable def cut {α : Type} (lo hi : Nat) (l : List α) : List α := (l.take hi).drop lo

noncomputable def slicev (led : List PObj) (o lo hi : PV) : Option PV :=
  match o with
  | .str s => (clip 0 s.length lo).bind fun a => (clip s.length s.length hi).bind fun b => if s.length ≤ big then some (.str (cut a b s)) else Option.none
  | .bytes s => (clip 0 s.length lo).bind fun a => (clip s.length s.length hi).bind fun b => if s.length ≤ big then some (.bytes (cut a b s)) else Option.none
  | o => (listOf led o).bind fun s => (clip 0 s.length lo).bind fun a => (clip s.length s.length hi).bind fun b => if s.length ≤ big then some (.list (cut a b s)) else Option.none

noncomputable def upInts (a : Int) : Nat → List Int
  | 0 => []
  | n + 1 => a :: upInts (a + 1) n
noncomputable def downInts (a : Int) : Nat → List Int
  | 0 => []
  | n + 1 => a :: downInts (a - 1) n
noncomputable def rangeInts (a b c : Int) : Option (List Int) :=
  if ¬ (-ibig < a ∧ a < ibig ∧ -ibig < b ∧ b < ibig) then Option.none
  else if c = 1 then (if b - a ≤ big then some (upInts a (b - a).toNat) else Option.none)
  else if c = -1 then (if a - b ≤ big then some (downInts a (a - b).toNat) else Option.none)
  else Option.none

/-- what a loop goes over -/
noncomputable def iterOf : PV → Option (List PV)
  | .list xs => some xs
  | .range a b c => (rangeInts a b c).map fun l => l.map PV.int
  | .str s => if s.all (· < 128) then some (s.map fun c => .str [c]) else Option.none
  | _ => Option.none

noncomputable def lastIdx (c : Nat) : List Nat → Nat → Int → Int
  | [], _, r => r
  | x :: l, i, r => lastIdx c l (i + 1) (if x = c then i else r)
noncomputable def upSign (c : Nat) : Nat := if 97 ≤ c ∧ c ≤ 122 then c - 32 else c
noncomputable def specials : List Nat := [40, 41, 91, 93, 123, 125, 63, 42, 43, 45, 124, 94, 36, 92, 46, 38, 126, 35, 32, 9, 10, 13, 11, 12]
noncomputable def repl1 (c : Nat) (r : List Nat) (s : List Nat) : List Nat := s.flatMap fun x => if x = c then r else [x]
/-- the first place of c in s at k or behind, ahead of j -/
noncomputable def firstIdx (c : Nat) : List Nat → Nat → Nat → Nat → Int
  | [], _, _, _ => -1
  | x :: l, i, k, j => if k ≤ i ∧ i < j ∧ x = c then i else firstIdx c l (i + 1) k j
noncomputable def sumInts : List PV → Int → Option Int
  | [], t => some t
  | .int i :: r, t => sumInts r (t + i)
  | _, _ => Option.none
noncomputable def octets : List PV → Option (List Nat)
  | [] => some []
  | .int i :: r => if 0 ≤ i ∧ i < 256 then (octets r).map (i.toNat :: ·) else Option.none
  | _ => Option.none
noncomputable def texts : List PV → Option (List (List Nat))
  | [] => some []
  | .str s :: r => (texts r).map (s :: ·)
  | _ => Option.none
noncomputable def joinS (sep : List Nat) : List (List Nat) → List Nat
  | [] => []
  | [x] => x
  | x :: r => x ++ sep ++ joinS sep r
noncomputable def escDash (s : List Nat) : List Nat := repl1 45 [92, 45] (repl1 92 [92, 92] s)

noncomputable def asBO : PObj → Option (List Nat)
  | .barr xs => some xs
  | _ => Option.none
noncomputable def barrAt (led : List PObj) (k : Nat) : Option (List Nat) := led[k]?.bind asBO
noncomputable def lenV (led : List PObj) : PV → Option PV
  | .str s => if s.length ≤ big then some (.int s.length) else Option.none
  | .bytes s => if s.length ≤ big then some (.int s.length) else Option.none
  | o => (listOf led o).bind fun xs => if xs.length ≤ big then some (.int xs.length) else Option.none
noncomputable def bytesV (led : List PObj) : PV → Option PV
  | .ref k => (barrAt led k).bind fun bs => if bs.length ≤ big then some (.bytes bs) else Option.none
  | .list xs => if xs.length ≤ big then (octets xs).map .bytes else Option.none
  | _ => Option.none
noncomputable def isStrV : PV → Option PV
  | .str _ => some (.bool true)
  | .bytes _ => some (.bool false)
  | _ => Option.none

noncomputable def primEv (led : List PObj) (p : Prim) (l : List PV) : Option PV := match p with
  | .len => (a1 l).bind (lenV led)
  | .ord => (a1 l).bind fun x => (asStr x).bind fun s => (one1 s).bind fun c => some (.int c)
  | .chr => (a1 l).bind fun x => (asInt x).bind fun i => if 0 ≤ i ∧ i < 50000 then some (.str [i.toNat]) else Option.none
  | .bytes => (a1 l).bind (bytesV led)
  | .isStr => (a1 l).bind isStrV
  | .isMem => (a1 l).bind fun x => (asByt x).bind fun _ => some (.bool false)
  | .strAscii => (a3 l).bind fun q => (asByt q.1).bind fun b => (asStr q.2.1).bind fun e => (asStr q.2.2).bind fun m => if b.all (· < 128) ∧ b.length ≤ big ∧ e = [97, 115, 99, 105, 105] ∧ m = [115, 116, 114, 105, 99, 116] then some (.str b) else Option.none
  | .range1 => (a1 l).bind fun x => (asInt x).bind fun b => if -ibig < b ∧ b < ibig then some (.range 0 b 1) else Option.none
  | .range2 => (a2 l).bind fun q => (asInt q.1).bind fun a => (asInt q.2).bind fun b => if -ibig < a ∧ a < ibig ∧ -ibig < b ∧ b < ibig then some (.range a b 1) else Option.none
  | .range3 => (a3 l).bind fun q => (asInt q.1).bind fun a => (asInt q.2.1).bind fun b => (asInt q.2.2).bind fun c => if c = -1 ∧ -ibig < a ∧ a < ibig ∧ -ibig < b ∧ b < ibig then some (.range a b c) else Option.none
  | .list => (a1 l).bind fun x => (asRng x).bind fun r => (rangeInts r.1 r.2.1 r.2.2).map fun l => .list (l.map PV.int)
  | .sum => (a1 l).bind fun x => (asLst x).bind fun xs => (sumInts xs 0).map PV.int
  | .rfind => (a2 l).bind fun q => (asByt q.1).bind fun b => (asByt q.2).bind fun d => (one1 d).bind fun c => if b.length ≤ big then some (.int (lastIdx c b 0 (-1))) else Option.none
  | .upper => (a1 l).bind fun x => (asByt x).bind fun b => if b.length ≤ big then some (.bytes (b.map upSign)) else Option.none
  | .transl => (a1 l).bind fun x => (asStr x).bind fun s => (one1 s).bind fun c => if c < 128 then some (.str (if specials.contains c then [92, c] else [c])) else Option.none
  | .replace => (a3 l).bind fun q => (asStr q.1).bind fun s => (asStr q.2.1).bind fun d => (one1 d).bind fun c => (asStr q.2.2).bind fun _ => if s.length ≤ big ∧ s.contains c = false then some (.str s) else Option.none
  | .find => (a4 l).bind fun q => (asStr q.1).bind fun s => (asStr q.2.1).bind fun d => (one1 d).bind fun c => (asInt q.2.2.1).bind fun k => (asInt q.2.2.2).bind fun j => if 0 ≤ k ∧ 0 ≤ j ∧ j < ibig ∧ k < ibig ∧ s.length ≤ big then some (.int (firstIdx c s 0 k.toNat j.toNat)) else Option.none
  | .join => (a2 l).bind fun q => (asStr q.1).bind fun s => (asLst q.2).bind fun xs => if s = [] then (texts xs).bind fun l => if (joinS [] l).length ≤ big ∧ l.length ≤ big then some (.str (joinS [] l)) else Option.none else Option.none
  | .reSub => (a1 l).bind fun x => (asStr x).bind fun s => if s.length ≤ big ∧ s.all (fun c => decide (c ≠ 38 ∧ c ≠ 124 ∧ c ≠ 126)) then some (.str s) else Option.none
  | .joinEsc => (a1 l).bind fun o => (listOf led o).bind fun xs => (texts xs).bind fun l => if l.length ≤ 64 ∧ l.all (fun s => decide (s.length ≤ 64) && !s.contains 92 && !s.contains 45) then some (.str (joinS [45] l)) else Option.none

noncomputable def digitsB : List Nat := [97, 98, 99, 100, 101, 102, 103, 104, 105, 106, 107, 108, 109, 110, 111, 112, 113, 114, 115, 116, 117, 118, 119, 120, 121, 122, 48, 49, 50, 51, 52, 53, 54, 55, 56, 57]

/-! ### The evaluator, in the style of continuations: K is what is to hold of the result -/
/-- a method's own value -/
noncomputable def rcv (p : Prim) (x : PV) : Bool := match p with
  | .rfind => isBytes x
  | .upper => isBytes x
  | .replace => isStr x
  | .find => isStr x
  | .join => isStr x
  | _ => false
/-- a guard -/
noncomputable def gd (b : Bool) (K : Prop) : Prop := match b with
  | true => K
  | false => False
/-- a branch -/
noncomputable def bW (b : Bool) (A B : Prop) : Prop := match b with
  | true => A
  | false => B
structure BrW (b : Bool) (A B : Prop) : Prop where
  k : bW b A B
noncomputable def oW {α : Type} (o : Option α) (K : α → Prop) : Prop := match o with
  | some a => K a
  | none => False
noncomputable def tupW (v : PV) (K : List PV → Prop) : Prop := match v with
  | .tup l => K l
  | _ => False
noncomputable def tup2W (v : PV) (K : PV → PV → Prop) : Prop := tupW v fun l => match l with
  | [a, b] => K a b
  | _ => False
noncomputable def tup3W (v : PV) (K : PV → PV → PV → Prop) : Prop := tupW v fun l => match l with
  | [a, b, c] => K a b c
  | _ => False
noncomputable def callK (led : List PObj) (K : PV → Prop) (r : PV) : Prop := match r with
  | .list _ => gd led.isEmpty (K r)
  | .tup _ => gd led.isEmpty (K r)
  | .range .. => False
  | .ref _ => False
  | .meth _ => False
  | _ => K r

noncomputable def asRef : PV → Option Nat
  | .ref k => some k
  | _ => Option.none
noncomputable def asMth : PV → Option Nat
  | .meth k => some k
  | _ => Option.none
noncomputable def refW (env : Vars) (x : Nat) (K : Nat → Prop) : Prop := oW (getV env x) fun r => oW (asRef r) K
noncomputable def mthW (env : Vars) (x : Nat) (K : Nat → Prop) : Prop := oW (getV env x) fun r => oW (asMth r) K
noncomputable def lstW (led : List PObj) (k : Nat) (K : List PV → Prop) : Prop := oW (lstAt led k) K
noncomputable def barrW (led : List PObj) (k : Nat) (K : List Nat → Prop) : Prop := oW (barrAt led k) K
noncomputable def intW (v : PV) (K : Int → Prop) : Prop := oW (asInt v) K
noncomputable def strW (v : PV) (K : List Nat → Prop) : Prop := oW (asStr v) K
noncomputable def bytW (v : PV) (K : List Nat → Prop) : Prop := oW (asByt v) K
noncomputable def intsW (x y : PV) (k : Int → Int → Prop) : Prop := intW x fun i => intW y fun j => k i j
/-- an int that is reckoned: any name for it will do -/
structure ValK (a : Int) (K : PV → Prop) : Prop where
  k : K (.int a)
/-- a loop -/
structure LoopW (p : Prop) : Prop where
  h : p
/-- a call of the program's own -/
structure CallW (p : Prop) : Prop where
  h : p
/-- what a primitive gives -/
structure OpW (o : Option PV) (K : PV → Prop) : Prop where
  k : oW o K
noncomputable def binW (o : BOp) (x y : PV) (K : PV → Prop) : Prop := match o with
  | .add => oW (addV x y) K
  | .sub => intsW x y fun i j => ValK (i - j) K
  | .mul => intsW x y fun i j => (-ibig < i ∧ i < ibig) ∧ ValK (i * j) K
  | .fdiv => intsW x y fun i j => (0 < j ∧ j < 1073741824) ∧ ValK (Int.fdiv i j) K
  | .mod => intsW x y fun i j => 0 < j ∧ ValK (Int.fmod i j) K
noncomputable def iopW (o : BOp) (x y : PV) (K : PV → Prop) : Prop := match o with
  | .add => intsW x y fun i j => K (.int (i + j))
  | .fdiv => intsW x y fun i j => (0 < j ∧ j < 1073741824) ∧ ValK (Int.fdiv i j) K
  | _ => False
/-- the comprehension's loop: c the test, e the item -/
noncomputable def compW (c : PV → (Bool → Prop) → Prop) (e : PV → (PV → Prop) → Prop) : List PV → (List PV → Prop) → Prop
  | [], K => K []
  | v :: vs, K => c v fun b => BrW b (e v fun y => gd (frozen y) (compW c e vs fun ys => K (y :: ys))) (compW c e vs K)

abbrev Orac := Fn → List PV → (PV → Prop) → Prop

noncomputable def St.has (σ : St) (x : Nat) (caps : List Nat) (v : PV) : St := ⟨setV (onlyV σ.env caps) x v, σ.led ++ [.hid]⟩

noncomputable def wE (C : Orac) : PE → St → (PV → Prop) → Prop
  | .any, _, _ => False
  | .lit v, _, K => K v
  | .var x, σ, K => oW (getV σ.env x) K
  | .digits, _, K => K (.bytes digitsB)
  | .bin o a b, σ, K => wE C a σ fun x => wE C b σ fun y => binW o x y K
  | .not a, σ, K => wE C a σ fun x => oW (truth x) fun b => K (.bool (!b))
  | .and a b, σ, K => wE C a σ fun x => oW (truth x) fun t => BrW t (wE C b σ K) (K x)
  | .or a b, σ, K => wE C a σ fun x => oW (truth x) fun t => BrW t (K x) (wE C b σ K)
  | .ite c a b, σ, K => wE C c σ fun x => oW (truth x) fun t => BrW t (wE C a σ K) (wE C b σ K)
  | .cmp o a b, σ, K => wE C a σ fun x => wE C b σ fun y => oW (cmpv σ.led o x y) fun t => K (.bool t)
  | .cmp2 o p a b c, σ, K => wE C a σ fun x => wE C b σ fun y => oW (cmpv σ.led o x y) fun t => BrW t (wE C c σ fun z => oW (cmpv σ.led p y z) fun t => K (.bool t)) (K (.bool false))
  | .list as, σ, K => wE C as σ fun v => tupW v fun l => gd (l.all frozen) (K (.list l))
  | .tup as, σ, K => wE C as σ fun v => tupW v fun l => gd (l.all frozen) (K (.tup l))
  | .idx o i, σ, K => wE C o σ fun x => wE C i σ fun y => OpW (idxv σ.led x y) K
  | .slice o lo hi, σ, K => wE C o σ fun x => wE C lo σ fun y => wE C hi σ fun z => OpW (slicev σ.led x y z) K
  | .prim p as, σ, K => wE C as σ fun v => tupW v fun l => OpW (primEv σ.led p l) K
  | .meth p o as, σ, K => wE C o σ fun x => gd (rcv p x) (wE C as σ fun v => tupW v fun l => OpW (primEv σ.led p (x :: l)) K)
  | .call f as, σ, K => wE C as σ fun v => tupW v fun l => gd (l.all frozen) (CallW (C f l (callK σ.led K)))
  | .comp x caps elt it cond, σ, K => wE C it σ fun vi => oW (iterOf vi) fun l => l.length ≤ big ∧
      compW (fun v K => wE C cond (σ.has x caps v) fun z => oW (truth z) K) (fun v K => wE C elt (σ.has x caps v) K) l fun zs => K (.list zs)
  | .fstr p e q, σ, K => wE C e σ fun v => strW v fun s => s.length ≤ big ∧ K (.str (p ++ s ++ q))
  | .nil, _, K => K (.tup [])
  | .cons a r, σ, K => wE C a σ fun x => wE C r σ fun v => tupW v fun l => K (.tup (x :: l))

noncomputable def wT (C : Orac) (e : PE) (σ : St) (K : Bool → Prop) : Prop := wE C e σ fun v => oW (truth v) K
noncomputable def St.set (σ : St) (x : Nat) (v : PV) : St := ⟨setV σ.env x v, σ.led⟩
noncomputable def St.setO (σ : St) (k : Nat) (o : PObj) : St := ⟨σ.env, σ.led.set k o⟩

/-- how a loop goes on behind its body -/
noncomputable def lpK (next : St → Prop) (K : Fl → St → Prop) (f : Fl) (σ : St) : Prop := match f with
  | .next => next σ
  | .brk => K .next σ
  | .ret v => K (.ret v) σ
noncomputable def whileW (c : St → (Bool → Prop) → Prop) (b : St → (Fl → St → Prop) → Prop) : Nat → St → (Fl → St → Prop) → Prop
  | 0, _, _ => False
  | n + 1, σ, K => c σ fun t => BrW t (b σ (lpK (fun σ' => whileW c b n σ' K) K)) (K .next σ)
/-- the body of a for makes no object that stays -/
noncomputable def forW (put : St → PV → (St → Prop) → Prop) (b : St → (Fl → St → Prop) → Prop) : List PV → St → (Fl → St → Prop) → Prop
  | [], σ, K => K .next σ
  | v :: vs, σ, K => put σ v fun σ₁ => b σ₁ fun f σ' => σ'.led.length = σ₁.led.length ∧ lpK (fun σ' => forW put b vs σ' K) K f σ'
noncomputable def enumItems (l : List PV) : Nat → List PV
  | i => match l with
    | [] => []
    | x :: r => .tup [.int i, x] :: enumItems r (i + 1)

noncomputable def shown : PObj → Bool
  | .hid => false
  | _ => true
noncomputable def appW (σ : St) (k : Nat) (v : PV) (K : Fl → St → Prop) (o : PObj) : Prop := match o with
  | .list xs => gd (frozen v) (xs.length ≤ big ∧ K .next (σ.setO k (.list (xs ++ [v]))))
  | .barr bs => intW v fun i => (0 ≤ i ∧ i < 256 ∧ bs.length ≤ big) ∧ K .next (σ.setO k (.barr (bs ++ [i.toNat])))
  | .hid => False
noncomputable def put2 (x y : Nat) (σ : St) (v : PV) (K : St → Prop) : Prop := tup2W v fun a b => K ((σ.set x a).set y b)
noncomputable def put3 (x y z : Nat) (σ : St) (v : PV) (K : St → Prop) : Prop := tup3W v fun a b c => gd (frozen a && (frozen b && frozen c)) (K (((σ.set x a).set y b).set z c))
noncomputable def put1 (x : Nat) (σ : St) (v : PV) (K : St → Prop) : Prop := gd (frozen v) (K (σ.set x v))
noncomputable def seqK (next : St → Prop) (K : Fl → St → Prop) (f : Fl) (σ : St) : Prop := match f with
  | .next => next σ
  | .brk => K .brk σ
  | .ret v => K (.ret v) σ
noncomputable def wS (C : Orac) (N : Nat) : PS → St → (Fl → St → Prop) → Prop
  | .any, _, _ => False
  | .nil, σ, K => K .next σ
  | .seq s r, σ, K => wS C N s σ (seqK (fun σ' => wS C N r σ' K) K)
  | .asg x e, σ, K => wE C e σ fun v => gd (frozen v) (K .next (σ.set x v))
  | .newl x, σ, K => K .next ⟨setV σ.env x (.ref σ.led.length), σ.led ++ [.list []]⟩
  | .newb x, σ, K => K .next ⟨setV σ.env x (.ref σ.led.length), σ.led ++ [.barr []]⟩
  | .getapp x y, σ, K => refW σ.env y fun k => lstW σ.led k fun _ => K .next (σ.set x (.meth k))
  | .asgSwap x y a b, σ, K => wE C a σ fun u => wE C b σ fun v => gd (frozen u && (frozen v && !(Nat.beq x y))) (K .next ((σ.set y v).set x u))
  | .asgT x y e, σ, K => wE C e σ fun v => tup2W v fun a b => gd (frozen a && frozen b) (K .next ((σ.set x a).set y b))
  | .aug x o e, σ, K => oW (getV σ.env x) fun a => wE C e σ fun b => iopW o a b fun v => K .next (σ.set x v)
  | .app x e, σ, K => refW σ.env x fun k => oW σ.led[k]? fun o => gd (shown o) (wE C e σ fun v => appW σ k v K o)
  | .appm x e, σ, K => mthW σ.env x fun k => wE C e σ fun v => lstW σ.led k fun xs => gd (frozen v) (xs.length ≤ big ∧ K .next (σ.setO k (.list (xs ++ [v]))))
  | .ext x e, σ, K => refW σ.env x fun k => barrW σ.led k fun bs => wE C e σ fun v => bytW v fun b => (bs.length ≤ big ∧ b.length ≤ big) ∧ K .next (σ.setO k (.barr (bs ++ b)))
  | .setI x i e, σ, K => wE C e σ fun v => refW σ.env x fun k => wE C i σ fun j => intW j fun j => lstW σ.led k fun xs => gd (frozen v) ((0 ≤ j ∧ j < xs.length ∧ xs.length ≤ big) ∧ K .next (σ.setO k (.list (xs.set j.toNat v))))
  | .augI x i e, σ, K => refW σ.env x fun k => lstW σ.led k fun xs => (i = -1 ∧ xs.length ≤ big) ∧ oW (xs[xs.length - 1]?) fun u => strW u fun a => wE C e σ fun v => strW v fun b => a.length + b.length ≤ big ∧ K .next (σ.setO k (.list (xs.set (xs.length - 1) (.str (a ++ b)))))
  | .delI x i, σ, K => refW σ.env x fun k => wE C i σ fun j => intW j fun j => lstW σ.led k fun xs => (0 ≤ j ∧ j < xs.length ∧ xs.length ≤ big) ∧ K .next (σ.setO k (.list (xs.eraseIdx j.toNat)))
  | .iff c t e, σ, K => wT C c σ fun b => BrW b (wS C N t σ K) (wS C N e σ K)
  | .whl c b, σ, K => LoopW (whileW (wT C c) (wS C N b) N σ K)
  | .forI x it b, σ, K => wE C it σ fun v => oW (iterOf v) fun l => l.length ≤ big ∧ LoopW (forW (put1 x) (wS C N b) l σ K)
  | .forT x y z it b, σ, K => wE C it σ fun v => oW (iterOf v) fun l => l.length ≤ big ∧ LoopW (forW (put3 x y z) (wS C N b) l σ K)
  | .forE x y it b, σ, K => wE C it σ fun v => oW (asLst v) fun l => (l.length ≤ big ∧ l.all frozen = true) ∧ LoopW (forW (put2 x y) (wS C N b) (enumItems l 0) σ K)
  | .ret e, σ, K => wE C e σ fun v => K (.ret v) σ
  | .brk, σ, K => K .brk σ
  | .asrt e, σ, K => wT C e σ fun b => gd b (K .next σ)
  | .try_ b, σ, K => wS C N b σ K

/-- what a call gives: the body run from the parameters; a list of its own is handed out as it stands -/
noncomputable def thaw (led : List PObj) : PV → Option PV
  | .ref k => (lstAt led k).bind fun xs => if xs.all frozen then some (.list xs) else Option.none
  | .meth _ => Option.none
  | .range .. => Option.none
  | v => some v
noncomputable def retK (K : PV → Prop) (f : Fl) (σ : St) : Prop := match f with
  | .ret v => oW (thaw σ.led v) K
  | _ => False
noncomputable def bodyW (C : Orac) (N : Nat) (ps : List Nat) (body : PS) (args : List PV) (K : PV → Prop) : Prop :=
  ps.length = args.length ∧ wS C N body ⟨ofL (ps.zip args), []⟩ (retK K)
theorem getV_setV {x y : Nat} {v : PV} {env : Vars} : getV (setV env x v) y = if y = x then some v else getV env y := by
  show (match Nat.beq y x with | true => some v | false => env y) = _
  cases h : Nat.beq y x with
  | true => rw [if_pos (Nat.eq_of_beq_eq_true h)]
  | false => rw [if_neg (Nat.ne_of_beq_eq_false h)]; rfl
theorem getV_only {caps : List Nat} {y : Nat} {u : PV} {env : Vars} (h : getV (onlyV env caps) y = some u) : y ∈ caps ∧ getV env y = some u := by
  have h : (match caps.contains y with | true => env y | false => none) = some u := h
  cases q : caps.contains y with
  | true => rw [q] at h; exact ⟨List.contains_iff_mem.mp q, h⟩
  | false => rw [q] at h; cases h
/-! taking them apart -/
section
variable {α : Type} {P K A B : Prop} {b : Bool} {o : Option α} {a : α} {k : α → Prop}
theorem gd_el (h : gd b K) (H : b = true → K → P) : P := by
  cases b
  · exact h.elim
  · exact H rfl h
theorem gd_i (h : b = true) (k : K) : gd b K := by rw [h]; exact k
theorem bW_t (h : b = true) (k : A) : BrW b A B := ⟨by rw [h]; exact k⟩
theorem bW_f (h : b = false) (k : B) : BrW b A B := ⟨by rw [h]; exact k⟩
theorem oW_el (h : oW o k) (H : ∀ a, o = some a → k a → P) : P := by
  cases o with
  | none => exact h.elim
  | some a => exact H a rfl h
theorem oW_eq (h : o = some a) (q : k a) : oW o k := by rw [h]; exact q
theorem oW_if {c : Prop} [Decidable c] (h : c) (q : k a) : oW (if c then some a else none) k := by rw [if_pos h]; exact q
theorem op_is {o : Option PV} {z : PV} {k : PV → Prop} (e : o = some z) (q : k z) : OpW o k := ⟨by rw [e]; exact q⟩
theorem tupW_el {k : List PV → Prop} {G : PV → Prop} (H : ∀ l, k l → G (.tup l)) (v : PV) (h : tupW v k) : G v := by
  cases v <;> first | exact H _ h | exact h.elim
theorem tup2_el {k : PV → PV → Prop} {G : PV → Prop} (H : ∀ a b, k a b → G (.tup [a, b])) : ∀ v, tup2W v k → G v := tupW_el fun l h => by
  match l, h with
  | [a, b], h => exact H a b h
theorem tup3_el {k : PV → PV → PV → Prop} {G : PV → Prop} (H : ∀ a b c, k a b c → G (.tup [a, b, c])) : ∀ v, tup3W v k → G v := tupW_el fun l h => by
  match l, h with
  | [a, b, c], h => exact H a b c h
theorem intW_el {k : Int → Prop} {G : PV → Prop} (H : ∀ a, k a → G (.int a)) (v : PV) (h : intW v k) : G v := by cases v <;> first | exact H _ h | exact h.elim
theorem strW_el {k : List Nat → Prop} {G : PV → Prop} (H : ∀ a, k a → G (.str a)) (v : PV) (h : strW v k) : G v := by cases v <;> first | exact H _ h | exact h.elim
theorem ints_el {x y : PV} {f : Int → Int → Option PV} {k : Int → Int → Prop} (h : intsW x y k) (H : ∀ i j, intsV (.int i) (.int j) f = f i j → k i j → intsV x y f = f i j → P) : P :=
  intW_el (G := fun x => (∀ i j, intsV (.int i) (.int j) f = f i j → k i j → intsV x y f = f i j → P) → P) (fun i h => intW_el (G := fun y => (∀ i' j, intsV (.int i') (.int j) f = f i' j → k i' j → intsV (.int i) y f = f i' j → P) → P) (fun j h H => H i j rfl h rfl) y h) x h H
theorem binW_el {o : BOp} {x y : PV} {k : PV → Prop} (h : binW o x y k) (H : ∀ z, binop o x y = some z → k z → P) : P := by
  cases o with
  | add => exact oW_el h H
  | sub => exact ints_el h fun i j _ h e => H _ e h.k
  | mul => exact ints_el h fun i j _ h e => H _ (e.trans (if_pos h.1)) h.2.k
  | fdiv => exact ints_el h fun i j _ h e => H _ (e.trans (if_pos h.1)) h.2.k
  | mod => exact ints_el h fun i j _ h e => H _ (e.trans (if_pos h.1)) h.2.k
theorem iopW_el {o : BOp} {x y : PV} {k : PV → Prop} (h : iopW o x y k) (H : ∀ z, iop o x y = some z → k z → P) : P := by
  cases o with
  | add => exact ints_el h fun i j _ h e => H _ e h
  | fdiv => exact ints_el h fun i j _ h e => H _ (e.trans (if_pos h.1)) h.2.k
  | _ => exact h.elim
theorem asLst_el {k : List PV → Prop} {G : PV → Prop} (H : ∀ a, k a → G (.list a)) (v : PV) (h : oW (asLst v) k) : G v := by cases v <;> first | exact H _ h | exact h.elim
theorem bytW_el {k : List Nat → Prop} {G : PV → Prop} (H : ∀ a, k a → G (.bytes a)) (v : PV) (h : bytW v k) : G v := by cases v <;> first | exact H _ h | exact h.elim
theorem refW_el {env : Vars} {x : Nat} {k : Nat → Prop} (h : refW env x k) (H : ∀ a, getV env x = some (.ref a) → k a → P) : P :=
  oW_el h fun v e h => by cases v <;> first | exact H _ e h | exact h.elim
theorem mthW_el {env : Vars} {x : Nat} {k : Nat → Prop} (h : mthW env x k) (H : ∀ a, getV env x = some (.meth a) → k a → P) : P :=
  oW_el h fun v e h => by cases v <;> first | exact H _ e h | exact h.elim
theorem lstW_el {led : List PObj} {n : Nat} {k : List PV → Prop} (h : lstW led n k) (H : ∀ xs, led[n]? = some (.list xs) → k xs → P) : P :=
  oW_el h fun xs e h => by
    cases o : led[n]? with
    | none => rw [lstAt, o] at e; cases e
    | some q =>
      rw [lstAt, o] at e
      cases q with
      | list ys => cases e; exact H _ o h
      | barr => cases e
      | hid => cases e
theorem barrW_el {led : List PObj} {n : Nat} {k : List Nat → Prop} (h : barrW led n k) (H : ∀ xs, led[n]? = some (.barr xs) → k xs → P) : P :=
  oW_el h fun xs e h => by
    cases o : led[n]? with
    | none => rw [barrAt, o] at e; cases e
    | some q =>
      rw [barrAt, o] at e
      cases q with
      | barr ys => cases e; exact H _ o h
      | list => cases e
      | hid => cases e
end
end Mine
namespace Mine
open _root_.PySem
/-! ### The program in the small language (printed by gen.py) -/
noncomputable def tab : List Str := [⟨#[106]⟩, ⟨#[98, 105, 97, 115]⟩, ⟨#[114, 101, 115]⟩, ⟨#[78]⟩, ⟨#[116]⟩, ⟨#[114, 101, 115, 117, 108, 116]⟩, ⟨#[100, 101, 108, 116, 97]⟩, ⟨#[102, 105, 114, 115, 116]⟩, ⟨#[110, 117, 109, 99, 104, 97, 114, 115]⟩, ⟨#[100, 105, 118, 105, 115, 105, 111, 110, 115]⟩, ⟨#[98, 97, 115, 101, 108, 101, 110]⟩, ⟨#[100, 101, 108, 116, 97, 115]⟩, ⟨#[112, 111, 105, 110, 116, 115]⟩, ⟨#[115]⟩, ⟨#[101, 120, 116, 101, 110, 100, 101, 100]⟩, ⟨#[101, 120, 116, 112, 111, 115]⟩, ⟨#[101, 114, 114, 111, 114, 115]⟩, ⟨#[119]⟩, ⟨#[100, 105, 103, 105, 116]⟩, ⟨#[99, 104, 97, 114]⟩, ⟨#[98, 97, 115, 101]⟩, ⟨#[110, 101, 119, 112, 111, 115]⟩, ⟨#[112, 111, 115]⟩, ⟨#[116, 101, 120, 116]⟩, ⟨#[112, 97, 116, 116, 101, 114, 110]⟩, ⟨#[112, 97, 116]⟩, ⟨#[83, 84, 65, 82]⟩, ⟨#[81, 85, 69, 83, 84, 73, 79, 78, 95, 77, 65, 82, 75]⟩, ⟨#[105]⟩, ⟨#[110]⟩, ⟨#[99]⟩, ⟨#[97, 100, 100]⟩, ⟨#[115, 116, 117, 102, 102]⟩, ⟨#[99, 104, 117, 110, 107, 115]⟩, ⟨#[107]⟩, ⟨#[99, 104, 117, 110, 107]⟩, ⟨#[100, 114, 97, 119, 115]⟩, ⟨#[109, 101, 109, 98, 101, 114, 115]⟩, ⟨#[120]⟩, ⟨#[115, 105, 103, 110]⟩, ⟨#[98, 97, 114, 114, 101, 100]⟩, ⟨#[108, 111, 119]⟩, ⟨#[108, 97, 115, 116]⟩, ⟨#[119, 105, 100, 101]⟩, ⟨#[112, 97, 114, 116]⟩, ⟨#[102, 111, 117, 110, 100]⟩, ⟨#[98, 111, 100, 121]⟩, ⟨#[112, 97, 114, 116, 115]⟩, ⟨#[110, 97, 109, 101]⟩, ⟨#[119, 104, 105, 99, 104]⟩, ⟨#[111, 110, 101]⟩, ⟨#[100]⟩, ⟨#[117, 112, 112, 101, 114]⟩, ⟨#[109, 105, 100, 100, 108, 101]⟩, ⟨#[101]⟩, ⟨#[116, 101, 110, 115]⟩, ⟨#[112, 108, 97, 99, 101]⟩, ⟨#[115, 99, 114, 105, 112, 116]⟩, ⟨#[116, 97, 107, 101, 110]⟩, ⟨#[100, 117, 101]⟩, ⟨#[110, 117, 109, 98, 101, 114, 115]⟩, ⟨#[116, 111, 116, 97, 108]⟩, ⟨#[104, 101, 97, 100]⟩, ⟨#[112, 97, 105, 114]⟩, ⟨#[98, 111, 116, 104]⟩, ⟨#[112, 108, 97, 99, 101, 115]⟩, ⟨#[97, 104, 101, 97, 100]⟩, ⟨#[115, 108, 111, 116]⟩, ⟨#[110, 97, 109, 101, 115]⟩, ⟨#[110, 117, 109, 101, 114, 97, 108, 115]⟩, ⟨#[110, 117, 109, 101, 114, 97, 108]⟩, ⟨#[98, 114, 97, 99, 107, 101, 116]⟩]
-- 0 j, 1 bias, 2 res, 3 N, 4 t, 5 result, 6 delta, 7 first, 8 numchars, 9 divisions, 10 baselen, 11 deltas, 12 points, 13 s, 14 extended, 15 extpos, 16 errors, 17 w, 18 digit, 19 char, 20 base, 21 newpos, 22 pos, 23 text, 24 pattern, 25 pat, 26 STAR, 27 QUESTION_MARK, 28 i, 29 n, 30 c, 31 add, 32 stuff, 33 chunks, 34 k, 35 chunk, 36 draws, 37 members, 38 x, 39 sign, 40 barred, 41 low, 42 last, 43 wide, 44 part, 45 found, 46 body, 47 parts, 48 name, 49 which, 50 one, 51 d, 52 upper, 53 middle, 54 e, 55 tens, 56 place, 57 script, 58 taken, 59 due, 60 numbers, 61 total, 62 head, 63 pair, 64 both, 65 places, 66 ahead, 67 slot, 68 names, 69 numerals, 70 numeral, 71 bracket
noncomputable def body_T : PS := .seq (.asg 2 (.bin .sub (.bin .mul (.lit (.int 36)) (.bin .add (.var 0) (.lit (.int 1)))) (.var 1))) (.seq (.iff (.cmp .lt (.var 2) (.lit (.int 1))) (.seq (.ret (.lit (.int 1))) .nil) .nil) (.seq (.iff (.cmp .gt (.var 2) (.lit (.int 26))) (.seq (.ret (.lit (.int 26))) .nil) .nil) (.seq (.ret (.var 2)) .nil)))
noncomputable def body_gen1 : PS := .seq (.newb 5) (.seq (.asg 0 (.lit (.int 0))) (.seq (.whl (.lit (.int 1)) (.seq (.asg 4 (.call .T (.cons (.var 0) (.cons (.var 1) .nil)))) (.seq (.iff (.cmp .lt (.var 3) (.var 4)) (.seq (.app 5 (.idx .digits (.var 3))) (.seq (.ret (.prim .bytes (.cons (.var 5) .nil))) .nil)) .nil) (.seq (.app 5 (.idx .digits (.bin .add (.var 4) (.bin .mod (.bin .sub (.var 3) (.var 4)) (.bin .sub (.lit (.int 36)) (.var 4)))))) (.seq (.asg 3 (.bin .fdiv (.bin .sub (.var 3) (.var 4)) (.bin .sub (.lit (.int 36)) (.var 4)))) (.seq (.aug 0 .add (.lit (.int 1))) .nil)))))) .nil))
noncomputable def body_adapt : PS := .seq (.iff (.var 7) (.seq (.aug 6 .fdiv (.lit (.int 700))) .nil) (.seq (.aug 6 .fdiv (.lit (.int 2))) .nil)) (.seq (.aug 6 .add (.bin .fdiv (.var 6) (.var 8))) (.seq (.asg 9 (.lit (.int 0))) (.seq (.whl (.cmp .gt (.var 6) (.lit (.int 455))) (.seq (.asg 6 (.bin .fdiv (.var 6) (.lit (.int 35)))) (.seq (.aug 9 .add (.lit (.int 36))) .nil))) (.seq (.asg 1 (.bin .add (.var 9) (.bin .fdiv (.bin .mul (.lit (.int 36)) (.var 6)) (.bin .add (.var 6) (.lit (.int 38)))))) (.seq (.ret (.var 1)) .nil)))))
noncomputable def body_gens : PS := .seq (.newb 5) (.seq (.asg 1 (.lit (.int 72))) (.seq (.forE 12 6 (.var 11) (.seq (.asg 13 (.call .gen1 (.cons (.var 6) (.cons (.var 1) .nil)))) (.seq (.ext 5 (.var 13)) (.seq (.asg 1 (.call .adapt (.cons (.var 6) (.cons (.cmp .eq (.var 12) (.lit (.int 0))) (.cons (.bin .add (.bin .add (.var 10) (.var 12)) (.lit (.int 1))) .nil))))) .nil)))) (.seq (.ret (.prim .bytes (.cons (.var 5) .nil))) .nil)))
noncomputable def body_dec1 : PS := .seq (.asg 5 (.lit (.int 0))) (.seq (.asg 17 (.lit (.int 1))) (.seq (.asg 0 (.lit (.int 0))) (.seq (.whl (.lit (.int 1)) (.seq (.try_ (.seq (.asg 19 (.idx (.var 14) (.var 15))) .nil)) (.seq (.aug 15 .add (.lit (.int 1))) (.seq (.iff (.cmp2 .le .le (.lit (.int 65)) (.var 19) (.lit (.int 90))) (.seq (.asg 18 (.bin .sub (.var 19) (.lit (.int 65)))) .nil) (.seq (.iff (.cmp2 .le .le (.lit (.int 48)) (.var 19) (.lit (.int 57))) (.seq (.asg 18 (.bin .sub (.var 19) (.lit (.int 22)))) .nil) (.seq (.iff (.cmp .eq (.var 16) (.lit (.str [115, 116, 114, 105, 99, 116]))) (.seq .any .nil) (.seq (.ret (.tup (.cons (.var 15) (.cons (.lit .none) .nil)))) .nil)) .nil)) .nil)) (.seq (.asg 4 (.call .T (.cons (.var 0) (.cons (.var 1) .nil)))) (.seq (.aug 5 .add (.bin .mul (.var 18) (.var 17))) (.seq (.iff (.cmp .lt (.var 18) (.var 4)) (.seq (.ret (.tup (.cons (.var 15) (.cons (.var 5) .nil)))) .nil) .nil) (.seq (.asg 17 (.bin .mul (.var 17) (.bin .sub (.lit (.int 36)) (.var 4)))) (.seq (.aug 0 .add (.lit (.int 1))) .nil))))))))) .nil)))
noncomputable def body_isort : PS := .seq (.asg 19 (.lit (.int 128))) (.seq (.asg 22 (.lit (.int (-1)))) (.seq (.asg 1 (.lit (.int 72))) (.seq (.asg 15 (.lit (.int 0))) (.seq (.whl (.cmp .lt (.var 15) (.prim .len (.cons (.var 14) .nil))) (.seq (.asgT 21 6 (.call .dec1 (.cons (.var 14) (.cons (.var 15) (.cons (.var 1) (.cons (.var 16) .nil)))))) (.seq (.iff (.cmp .is (.var 6) (.lit .none)) (.seq (.ret (.var 20)) .nil) .nil) (.seq (.aug 22 .add (.bin .add (.var 6) (.lit (.int 1)))) (.seq (.aug 19 .add (.bin .fdiv (.var 22) (.bin .add (.prim .len (.cons (.var 20) .nil)) (.lit (.int 1))))) (.seq (.iff (.cmp .gt (.var 19) (.lit (.int 1114111))) (.seq (.iff (.cmp .eq (.var 16) (.lit (.str [115, 116, 114, 105, 99, 116]))) (.seq .any .nil) .nil) (.seq (.asg 19 (.prim .ord (.cons (.lit (.str [63])) .nil))) .nil)) .nil) (.seq (.asg 22 (.bin .mod (.var 22) (.bin .add (.prim .len (.cons (.var 20) .nil)) (.lit (.int 1))))) (.seq (.asg 20 (.bin .add (.bin .add (.slice (.var 20) (.lit .none) (.var 22)) (.prim .chr (.cons (.var 19) .nil))) (.slice (.var 20) (.var 22) (.lit .none)))) (.seq (.asg 1 (.call .adapt (.cons (.var 6) (.cons (.cmp .eq (.var 15) (.lit (.int 0))) (.cons (.prim .len (.cons (.var 20) .nil)) .nil))))) (.seq (.asg 15 (.var 21)) .nil)))))))))) (.seq (.ret (.var 20)) .nil)))))
noncomputable def body_pdec : PS := .seq (.iff (.prim .isStr (.cons (.var 23) .nil)) (.seq (.asg 23 .any) .nil) .nil) (.seq (.iff (.prim .isMem (.cons (.var 23) .nil)) (.seq (.asg 23 (.prim .bytes (.cons (.var 23) .nil))) .nil) .nil) (.seq (.asg 22 (.meth .rfind (.var 23) (.cons (.lit (.bytes [45])) .nil))) (.seq (.iff (.cmp .eq (.var 22) (.lit (.int (-1)))) (.seq (.asg 20 (.lit (.str []))) (.seq (.asg 14 (.meth .upper (.var 23) .nil)) .nil)) (.seq (.try_ (.seq (.asg 20 (.prim .strAscii (.cons (.slice (.var 23) (.lit .none) (.var 22)) (.cons (.lit (.str [97, 115, 99, 105, 105])) (.cons (.var 16) .nil))))) .nil)) (.seq (.asg 14 (.meth .upper (.slice (.var 23) (.bin .add (.var 22) (.lit (.int 1))) (.lit .none)) .nil)) .nil))) (.seq (.try_ (.seq (.ret (.call .isort (.cons (.var 20) (.cons (.var 14) (.cons (.var 16) .nil))))) .nil)) .nil))))
noncomputable def body_escape : PS := .seq (.iff (.prim .isStr (.cons (.var 24) .nil)) (.seq (.ret (.prim .transl (.cons (.var 24) .nil))) .nil) .any) .nil
noncomputable def body_transl : PS := .seq (.newl 2) (.seq (.getapp 31 2) (.seq (.asgSwap 28 29 (.lit (.int 0)) (.prim .len (.cons (.var 25) .nil))) (.seq (.whl (.cmp .lt (.var 28) (.var 29)) (.seq (.asg 30 (.idx (.var 25) (.var 28))) (.seq (.asg 28 (.bin .add (.var 28) (.lit (.int 1)))) (.seq (.iff (.cmp .eq (.var 30) (.lit (.str [42]))) (.seq (.iff (.or (.not (.var 2)) .any) (.seq (.appm 31 (.var 26)) .nil) .nil) .nil) (.seq (.iff (.cmp .eq (.var 30) (.lit (.str [63]))) (.seq (.appm 31 (.var 27)) .nil) (.seq (.iff (.cmp .eq (.var 30) (.lit (.str [91]))) (.seq (.asg 0 (.var 28)) (.seq (.iff (.and (.cmp .lt (.var 0) (.var 29)) (.cmp .eq (.idx (.var 25) (.var 0)) (.lit (.str [33])))) (.seq (.asg 0 (.bin .add (.var 0) (.lit (.int 1)))) .nil) .nil) (.seq (.iff (.and (.cmp .lt (.var 0) (.var 29)) (.cmp .eq (.idx (.var 25) (.var 0)) (.lit (.str [93])))) (.seq (.asg 0 (.bin .add (.var 0) (.lit (.int 1)))) .nil) .nil) (.seq (.whl (.and (.cmp .lt (.var 0) (.var 29)) (.cmp .ne (.idx (.var 25) (.var 0)) (.lit (.str [93])))) (.seq (.asg 0 (.bin .add (.var 0) (.lit (.int 1)))) .nil)) (.seq (.iff (.cmp .ge (.var 0) (.var 29)) (.seq (.appm 31 (.lit (.str [92, 91]))) .nil) (.seq (.asg 32 (.slice (.var 25) (.var 28) (.var 0))) (.seq (.iff (.cmp .notin (.lit (.str [45])) (.var 32)) (.seq (.asg 32 (.meth .replace (.var 32) (.cons (.lit (.str [92])) (.cons (.lit (.str [92, 92])) .nil)))) .nil) (.seq (.newl 33) (.seq (.asg 34 (.ite (.cmp .eq (.idx (.var 25) (.var 28)) (.lit (.str [33]))) (.bin .add (.var 28) (.lit (.int 2))) (.bin .add (.var 28) (.lit (.int 1))))) (.seq (.whl (.lit (.bool true)) (.seq (.asg 34 (.meth .find (.var 25) (.cons (.lit (.str [45])) (.cons (.var 34) (.cons (.var 0) .nil))))) (.seq (.iff (.cmp .lt (.var 34) (.lit (.int 0))) (.seq .brk .nil) .nil) (.seq (.app 33 (.slice (.var 25) (.var 28) (.var 34))) (.seq (.asg 28 (.bin .add (.var 34) (.lit (.int 1)))) (.seq (.asg 34 (.bin .add (.var 34) (.lit (.int 3)))) .nil)))))) (.seq (.asg 35 (.slice (.var 25) (.var 28) (.var 0))) (.seq (.iff (.var 35) (.seq (.app 33 (.var 35)) .nil) (.seq (.augI 33 (-1) (.lit (.str [45]))) .nil)) (.seq (.forI 34 (.prim .range3 (.cons (.bin .sub (.prim .len (.cons (.var 33) .nil)) (.lit (.int 1))) (.cons (.lit (.int 0)) (.cons (.lit (.int (-1))) .nil)))) (.seq (.iff (.cmp .gt (.idx (.idx (.var 33) (.bin .sub (.var 34) (.lit (.int 1)))) (.lit (.int (-1)))) (.idx (.idx (.var 33) (.var 34)) (.lit (.int 0)))) (.seq (.setI 33 (.bin .sub (.var 34) (.lit (.int 1))) (.bin .add (.slice (.idx (.var 33) (.bin .sub (.var 34) (.lit (.int 1)))) (.lit .none) (.lit (.int (-1)))) (.slice (.idx (.var 33) (.var 34)) (.lit (.int 1)) (.lit .none)))) (.seq (.delI 33 (.var 34)) .nil)) .nil) .nil)) (.seq (.asg 32 (.prim .joinEsc (.cons (.var 33) .nil))) .nil)))))))) (.seq (.asg 32 (.prim .reSub (.cons (.var 32) .nil))) (.seq (.asg 28 (.bin .add (.var 0) (.lit (.int 1)))) (.seq (.iff (.not (.var 32)) (.seq (.appm 31 (.lit (.str [40, 63, 33, 41]))) .nil) (.seq (.iff (.cmp .eq (.var 32) (.lit (.str [33]))) (.seq (.appm 31 (.lit (.str [46]))) .nil) (.seq (.iff (.cmp .eq (.idx (.var 32) (.lit (.int 0))) (.lit (.str [33]))) (.seq (.asg 32 (.bin .add (.lit (.str [94])) (.slice (.var 32) (.lit (.int 1)) (.lit .none)))) .nil) (.seq (.iff (.cmp .isin (.idx (.var 32) (.lit (.int 0))) (.tup (.cons (.lit (.str [94])) (.cons (.lit (.str [91])) .nil)))) (.seq (.asg 32 (.bin .add (.lit (.str [92])) (.var 32))) .nil) .nil) .nil)) (.seq (.appm 31 (.fstr [91] (.var 32) [93])) .nil))) .nil)) .nil)))))) .nil))))) (.seq (.appm 31 (.call .escape (.cons (.var 30) .nil))) .nil)) .nil)) .nil)) .nil)))) (.seq (.asrt (.cmp .eq (.var 28) (.var 29))) (.seq (.ret (.var 2)) .nil)))))
noncomputable def body_members : PS := .seq (.newl 37) (.seq (.forI 38 (.var 36) (.seq (.iff (.cmp .eq (.bin .mod (.var 38) (.lit (.int 3))) (.lit (.int 1))) (.seq (.app 37 (.tup (.cons (.bin .mod (.bin .fdiv (.var 38) (.lit (.int 3))) (.lit (.int 4))) (.cons (.bin .mod (.bin .fdiv (.var 38) (.lit (.int 3))) (.lit (.int 4))) (.cons (.lit (.bool false)) .nil))))) .nil) (.seq (.iff (.cmp .eq (.bin .mod (.var 38) (.lit (.int 3))) (.lit (.int 2))) (.seq (.app 37 (.tup (.cons (.bin .mod (.bin .fdiv (.var 38) (.lit (.int 3))) (.lit (.int 4))) (.cons (.bin .mod (.bin .fdiv (.var 38) (.lit (.int 12))) (.lit (.int 4))) (.cons (.lit (.bool true)) .nil))))) .nil) .nil) .nil)) .nil)) (.seq (.ret (.ite (.cmp .ne (.var 37) (.list .nil)) (.slice (.var 37) (.lit .none) (.lit (.int 3))) (.list (.cons (.tup (.cons (.lit (.int 2)) (.cons (.lit (.int 1)) (.cons (.lit (.bool true)) .nil)))) .nil)))) .nil))
noncomputable def body_dressed : PS := .seq (.ret (.meth .join (.lit (.str [])) (.cons (.comp 39 [] (.ite (.cmp .isin (.var 39) (.lit (.str [42, 63, 91]))) (.bin .add (.bin .add (.lit (.str [91])) (.var 39)) (.lit (.str [93]))) (.var 39)) (.var 23) (.lit (.bool true))) .nil))) .nil
noncomputable def body_bracket : PS := .seq (.asg 23 (.ite (.var 40) (.lit (.str [91, 33])) (.lit (.str [91])))) (.seq (.forT 7 42 43 (.var 37) (.seq (.asg 23 (.bin .add (.var 23) (.prim .chr (.cons (.bin .add (.var 41) (.var 7)) .nil)))) (.seq (.iff (.var 43) (.seq (.asg 23 (.bin .add (.bin .add (.var 23) (.lit (.str [45]))) (.prim .chr (.cons (.bin .add (.var 41) (.var 42)) .nil)))) .nil) .nil) .nil))) (.seq (.ret (.bin .add (.var 23) (.lit (.str [93])))) .nil))
noncomputable def body_takes : PS := .seq (.iff (.cmp .eq (.var 44) (.lit (.str [40, 63, 33, 41]))) (.seq (.ret (.lit (.bool false))) .nil) .nil) (.seq (.iff (.cmp .eq (.var 44) (.lit (.str [46]))) (.seq (.ret (.lit (.bool true))) .nil) .nil) (.seq (.iff (.cmp .eq (.idx (.var 44) (.lit (.int 0))) (.lit (.str [92]))) (.seq (.ret (.cmp .eq (.slice (.var 44) (.lit (.int 1)) (.lit .none)) (.var 39))) .nil) .nil) (.seq (.iff (.cmp .ne (.idx (.var 44) (.lit (.int 0))) (.lit (.str [91]))) (.seq (.ret (.cmp .eq (.var 44) (.var 39))) .nil) .nil) (.seq (.asg 46 (.slice (.var 44) (.lit (.int 1)) (.lit (.int (-1))))) (.seq (.asg 40 (.cmp .eq (.idx (.var 46) (.lit (.int 0))) (.lit (.str [94])))) (.seq (.asg 45 (.lit (.bool false))) (.seq (.asg 34 (.ite (.var 40) (.lit (.int 1)) (.lit (.int 0)))) (.seq (.whl (.cmp .lt (.var 34) (.prim .len (.cons (.var 46) .nil))) (.seq (.iff (.cmp .eq (.idx (.var 46) (.var 34)) (.lit (.str [92]))) (.seq (.asg 34 (.bin .add (.var 34) (.lit (.int 1)))) .nil) .nil) (.seq (.iff (.and (.cmp .lt (.bin .add (.var 34) (.lit (.int 2))) (.prim .len (.cons (.var 46) .nil))) (.cmp .eq (.idx (.var 46) (.bin .add (.var 34) (.lit (.int 1)))) (.lit (.str [45])))) (.seq (.asg 45 (.or (.var 45) (.cmp2 .le .le (.idx (.var 46) (.var 34)) (.var 39) (.idx (.var 46) (.bin .add (.var 34) (.lit (.int 2))))))) (.seq (.asg 34 (.bin .add (.var 34) (.lit (.int 3)))) .nil)) (.seq (.asg 45 (.or (.var 45) (.cmp .eq (.idx (.var 46) (.var 34)) (.var 39)))) (.seq (.asg 34 (.bin .add (.var 34) (.lit (.int 1)))) .nil))) .nil))) (.seq (.ret (.cmp .ne (.var 45) (.var 40))) .nil)))))))))
noncomputable def body_allTake : PS := .seq (.iff (.cmp .ne (.prim .len (.cons (.var 47) .nil)) (.prim .len (.cons (.var 48) .nil))) (.seq (.ret (.lit (.bool false))) .nil) .nil) (.seq (.forI 34 (.prim .range1 (.cons (.prim .len (.cons (.var 47) .nil)) .nil)) (.seq (.iff (.not (.call .takes (.cons (.idx (.var 47) (.var 34)) (.cons (.idx (.var 48) (.var 34)) .nil)))) (.seq (.ret (.lit (.bool false))) .nil) .nil) .nil)) (.seq (.ret (.lit (.bool true))) .nil))
noncomputable def body_inside : PS := .seq (.ret (.cmp .ne (.cmp .ne (.comp 50 [49] (.var 50) (.var 37) (.cmp2 .le .le (.idx (.var 50) (.lit (.int 0))) (.var 49) (.idx (.var 50) (.lit (.int 1))))) (.list .nil)) (.var 40))) .nil
noncomputable def body_octet : PS := .seq (.ret (.ite (.cmp .lt (.var 18) (.lit (.int 26))) (.bin .add (.lit (.int 97)) (.var 18)) (.bin .add (.lit (.int 22)) (.var 18)))) .nil
noncomputable def body_first : PS := .seq (.iff (.cmp .eq (.var 51) (.lit (.int 0))) (.seq (.ret (.lit (.bytes [97]))) .nil) .nil) (.seq (.asg 52 (.bin .fdiv (.bin .sub (.var 51) (.lit (.int 1))) (.lit (.int 35)))) (.seq (.asg 53 (.ite (.cmp .gt (.var 52) (.lit (.int 0))) (.list (.cons (.var 52) .nil)) (.list .nil))) (.seq (.ret (.prim .bytes (.cons (.comp 18 [] (.call .octet (.cons (.var 18) .nil)) (.bin .add (.bin .add (.list (.cons (.bin .sub (.var 51) (.bin .mul (.lit (.int 35)) (.var 52))) .nil)) (.var 53)) (.list (.cons (.lit (.int 0)) .nil))) (.lit (.bool true))) .nil))) .nil)))
noncomputable def body_next : PS := .seq (.iff (.cmp .lt (.var 54) (.lit (.int 26))) (.seq (.ret (.prim .bytes (.cons (.list (.cons (.call .octet (.cons (.var 54) .nil)) .nil)) .nil))) .nil) .nil) (.seq (.asg 55 (.bin .fdiv (.bin .sub (.var 54) (.lit (.int 26))) (.lit (.int 10)))) (.seq (.ret (.prim .bytes (.cons (.list (.cons (.call .octet (.cons (.bin .sub (.var 54) (.bin .mul (.lit (.int 10)) (.var 55))) .nil)) (.cons (.call .octet (.cons (.var 55) .nil)) .nil))) .nil))) .nil))
noncomputable def body_laid : PS := .seq (.ret (.bin .add (.bin .add (.slice (.var 20) (.lit .none) (.var 56)) (.prim .chr (.cons (.bin .add (.lit (.int 128)) (.var 49)) .nil))) (.slice (.var 20) (.var 56) (.lit .none)))) .nil
noncomputable def body_law : PS := .seq (.asg 36 (.comp 38 [] (.bin .mod (.var 38) (.lit (.int 384))) (.ite (.cmp .gt (.prim .len (.cons (.var 57) .nil)) (.lit (.int 1))) (.slice (.var 57) (.lit .none) (.lit (.int 8))) (.bin .add (.var 57) (.list (.cons (.lit (.int 126)) (.cons (.lit (.int 41)) .nil))))) (.lit (.bool true)))) (.seq (.asg 61 (.prim .sum (.cons (.var 36) .nil))) (.seq (.asg 20 (.meth .join (.lit (.str [])) (.cons (.slice (.comp 38 [] (.prim .chr (.cons (.bin .fdiv (.var 38) (.lit (.int 3))) .nil)) (.var 36) (.cmp .eq (.bin .mod (.var 38) (.lit (.int 3))) (.lit (.int 0)))) (.lit .none) (.lit (.int 2))) .nil))) (.seq (.asg 37 (.call .members (.cons (.var 36) .nil))) (.seq (.asg 65 (.bin .add (.prim .len (.cons (.var 20) .nil)) (.lit (.int 1)))) (.seq (.asg 56 (.bin .mod (.var 61) (.var 65))) (.seq (.asg 40 (.cmp .eq (.bin .mod (.bin .fdiv (.var 61) (.lit (.int 6))) (.lit (.int 2))) (.lit (.int 1)))) (.seq (.asg 66 (.bin .mod (.bin .fdiv (.var 61) (.lit (.int 12))) (.lit (.int 50)))) (.seq (.asg 71 (.call .bracket (.cons (.var 37) (.cons (.var 40) (.cons (.bin .add (.lit (.int 128)) (.var 66)) .nil))))) (.seq (.asg 47 (.call .transl (.cons (.bin .add (.bin .add (.call .dressed (.cons (.slice (.var 20) (.lit .none) (.var 56)) .nil)) (.var 71)) (.call .dressed (.cons (.slice (.var 20) (.var 56) (.lit .none)) .nil))) (.cons (.lit .none) (.cons (.lit .none) .nil))))) (.seq (.asg 62 (.ite (.cmp .ne (.var 20) (.lit (.str []))) (.prim .bytes (.cons (.comp 39 [] (.prim .ord (.cons (.var 39) .nil)) (.bin .add (.var 20) (.lit (.str [45]))) (.lit (.bool true))) .nil)) (.lit (.bytes [])))) (.seq (.asg 60 (.bin .add (.bin .add (.list (.cons (.var 56) .nil)) (.prim .list (.cons (.prim .range2 (.cons (.bin .mul (.var 66) (.var 65)) (.cons (.bin .mul (.bin .add (.var 66) (.lit (.int 4))) (.var 65)) .nil))) .nil))) (.list (.cons (.bin .add (.bin .mul (.bin .add (.var 66) (.lit (.int 4))) (.var 65)) (.var 56)) .nil)))) (.seq (.asg 69 (.comp 51 [20] (.call .gens (.cons (.prim .len (.cons (.var 20) .nil)) (.cons (.list (.cons (.var 51) .nil)) .nil))) (.var 60) (.lit (.bool true)))) (.seq (.iff (.cmp .ne (.var 69) (.comp 51 [] (.call .first (.cons (.var 51) .nil)) (.var 60) (.lit (.bool true)))) (.seq (.ret (.lit (.bool false))) .nil) .nil) (.seq (.asg 68 (.comp 70 [62] (.call .pdec (.cons (.bin .add (.var 62) (.var 70)) (.cons (.lit (.str [115, 116, 114, 105, 99, 116])) .nil))) (.var 69) (.lit (.bool true)))) (.seq (.asg 58 (.comp 34 [47, 60, 68] (.idx (.var 60) (.var 34)) (.prim .range1 (.cons (.prim .len (.cons (.var 60) .nil)) .nil)) (.call .allTake (.cons (.var 47) (.cons (.idx (.var 68) (.var 34)) .nil))))) (.seq (.asg 59 (.comp 51 [37, 40, 56, 65, 66] (.var 51) (.var 60) (.and (.cmp .eq (.bin .mod (.var 51) (.var 65)) (.var 56)) (.call .inside (.cons (.var 37) (.cons (.var 40) (.cons (.bin .sub (.bin .fdiv (.var 51) (.var 65)) (.var 66)) .nil))))))) (.seq (.iff (.cmp .ne (.prim .len (.cons (.var 47) .nil)) (.var 65)) (.seq (.ret (.lit (.bool false))) .nil) .nil) (.seq (.iff (.cmp .ne (.var 68) (.comp 51 [20, 65] (.call .laid (.cons (.var 20) (.cons (.bin .fdiv (.var 51) (.var 65)) (.cons (.bin .mod (.var 51) (.var 65)) .nil)))) (.var 60) (.lit (.bool true)))) (.seq (.ret (.lit (.bool false))) .nil) .nil) (.seq (.asg 67 (.bin .mod (.var 61) (.bin .add (.var 65) (.lit (.int 1))))) (.seq (.forI 51 (.list (.cons (.var 56) (.cons (.idx (.var 60) (.bin .mod (.bin .fdiv (.var 61) (.lit (.int 2))) (.prim .len (.cons (.var 60) .nil)))) .nil))) (.seq (.asg 54 (.bin .sub (.bin .sub (.bin .add (.bin .mul (.bin .sub (.bin .add (.var 66) (.lit (.int 5))) (.bin .fdiv (.var 51) (.var 65))) (.bin .add (.var 65) (.lit (.int 1)))) (.var 67)) (.bin .mod (.var 51) (.var 65))) (.lit (.int 1)))) (.seq (.asg 63 (.call .gens (.cons (.prim .len (.cons (.var 20) .nil)) (.cons (.list (.cons (.var 51) (.cons (.var 54) .nil))) .nil)))) (.seq (.iff (.cmp .ne (.var 63) (.bin .add (.call .first (.cons (.var 51) .nil)) (.call .next (.cons (.var 54) .nil)))) (.seq (.ret (.lit (.bool false))) .nil) .nil) (.seq (.asg 64 (.call .laid (.cons (.call .laid (.cons (.var 20) (.cons (.bin .fdiv (.var 51) (.var 65)) (.cons (.bin .mod (.var 51) (.var 65)) .nil)))) (.cons (.bin .add (.var 66) (.lit (.int 5))) (.cons (.var 67) .nil))))) (.seq (.iff (.cmp .ne (.call .pdec (.cons (.bin .add (.var 62) (.var 63)) (.cons (.lit (.str [115, 116, 114, 105, 99, 116])) .nil))) (.var 64)) (.seq (.ret (.lit (.bool false))) .nil) .nil) .nil)))))) (.seq (.ret (.cmp .eq (.var 58) (.var 59))) .nil)))))))))))))))))))))
noncomputable def fbody : Fn → PS
  | .T => body_T
  | .gen1 => body_gen1
  | .adapt => body_adapt
  | .gens => body_gens
  | .dec1 => body_dec1
  | .isort => body_isort
  | .pdec => body_pdec
  | .escape => body_escape
  | .transl => body_transl
  | .members => body_members
  | .dressed => body_dressed
  | .bracket => body_bracket
  | .takes => body_takes
  | .allTake => body_allTake
  | .inside => body_inside
  | .octet => body_octet
  | .first => body_first
  | .next => body_next
  | .laid => body_laid
  | .law => body_law
noncomputable def fpars : Fn → List Nat
  | .T => [0, 1]
  | .gen1 => [3, 1]
  | .adapt => [6, 7, 8]
  | .gens => [10, 11]
  | .dec1 => [14, 15, 1, 16]
  | .isort => [20, 14, 16]
  | .pdec => [23, 16]
  | .escape => [24]
  | .transl => [25, 26, 27]
  | .members => [36]
  | .dressed => [23]
  | .bracket => [37, 40, 41]
  | .takes => [44, 39]
  | .allTake => [47, 48]
  | .inside => [37, 40, 49]
  | .octet => [18]
  | .first => [51]
  | .next => [54]
  | .laid => [20, 49, 56]
  | .law => [57]
noncomputable def fname : Fn → Str
  | .T => ⟨#[84]⟩
  | .gen1 => ⟨#[103, 101, 110, 101, 114, 97, 116, 101, 95, 103, 101, 110, 101, 114, 97, 108, 105, 122, 101, 100, 95, 105, 110, 116, 101, 103, 101, 114]⟩
  | .adapt => ⟨#[97, 100, 97, 112, 116]⟩
  | .gens => ⟨#[103, 101, 110, 101, 114, 97, 116, 101, 95, 105, 110, 116, 101, 103, 101, 114, 115]⟩
  | .dec1 => ⟨#[100, 101, 99, 111, 100, 101, 95, 103, 101, 110, 101, 114, 97, 108, 105, 122, 101, 100, 95, 110, 117, 109, 98, 101, 114]⟩
  | .isort => ⟨#[105, 110, 115, 101, 114, 116, 105, 111, 110, 95, 115, 111, 114, 116]⟩
  | .pdec => ⟨#[112, 117, 110, 121, 99, 111, 100, 101, 95, 100, 101, 99, 111, 100, 101]⟩
  | .escape => ⟨#[101, 115, 99, 97, 112, 101]⟩
  | .transl => ⟨#[95, 116, 114, 97, 110, 115, 108, 97, 116, 101]⟩
  | .members => ⟨#[95, 108, 97, 119, 95, 109, 101, 109, 98, 101, 114, 115]⟩
  | .dressed => ⟨#[95, 108, 97, 119, 95, 100, 114, 101, 115, 115, 101, 100]⟩
  | .bracket => ⟨#[95, 108, 97, 119, 95, 98, 114, 97, 99, 107, 101, 116]⟩
  | .takes => ⟨#[95, 108, 97, 119, 95, 116, 97, 107, 101, 115]⟩
  | .allTake => ⟨#[95, 108, 97, 119, 95, 97, 108, 108, 95, 116, 97, 107, 101]⟩
  | .inside => ⟨#[95, 108, 97, 119, 95, 105, 110, 115, 105, 100, 101]⟩
  | .octet => ⟨#[95, 108, 97, 119, 95, 111, 99, 116, 101, 116]⟩
  | .first => ⟨#[95, 108, 97, 119, 95, 102, 105, 114, 115, 116]⟩
  | .next => ⟨#[95, 108, 97, 119, 95, 110, 101, 120, 116]⟩
  | .laid => ⟨#[95, 108, 97, 119, 95, 108, 97, 105, 100]⟩
  | .law => ⟨#[108, 97, 119]⟩
end Mine
namespace Mine
open _root_.PySem _root_.PySem.Calls _root_.PySem.W _root_.PyProof.Rows

/-! ### How the heap bears the small language's values -/
abbrev codeTab (vs : Array Value) : Obj := { cls := .none, data := .fields vs }
noncomputable def nm (x : Nat) : Str := tab.getD x ⟨#[]⟩

/-- only the table of one code object may turn -/
noncomputable def KeepP (P : Addr) (h h' : Heap) : Prop := ∀ b o, b ≠ P → h.get? b = some o → h'.get? b = some o
theorem KeepP.refl {P : Addr} (h : Heap) : KeepP P h h := fun _ _ _ e => e
theorem KeepP.trans {P : Addr} {h₁ h₂ h₃ : Heap} (x : KeepP P h₁ h₂) (y : KeepP P h₂ h₃) : KeepP P h₁ h₃ := fun b o n e => y b o n (x b o n e)
theorem KeepP.of_keep {P : Addr} {h h' : Heap} (k : ∀ b o, h.get? b = some o → h'.get? b = some o) : KeepP P h h' := fun b o _ e => k b o e

noncomputable def TabIs (P : Addr) (h : Heap) : Prop := ∃ vs, h.get? P = some (codeTab vs) ∧ TriplesOk vs.toList

structure Ext (P : Addr) (s s' : Shared) : Prop where
  keep : KeepP P s.heap s'.heap
  tab : ∀ vs, s.heap.get? P = some (codeTab vs) → TriplesOk vs.toList → ∃ more, s'.heap.get? P = some (codeTab (vs ++ more)) ∧ TriplesOk (vs ++ more).toList
  os : s'.os = s.os
  gens : AllBare s.gens → AllBare s'.gens
theorem Ext.refl {P : Addr} (s : Shared) : Ext P s s := ⟨.refl _, fun vs e t => ⟨#[], by simpa using e, by simpa using t⟩, rfl, id⟩
theorem Ext.trans {P : Addr} {s₁ s₂ s₃ : Shared} (x : Ext P s₁ s₂) (y : Ext P s₂ s₃) : Ext P s₁ s₃ :=
  ⟨x.keep.trans y.keep, fun vs e t => by
    obtain ⟨m₁, e₁, t₁⟩ := x.tab vs e t
    obtain ⟨m₂, e₂, t₂⟩ := y.tab _ e₁ t₁
    exact ⟨m₁ ++ m₂, by rw [← Array.append_assoc]; exact e₂, by rw [← Array.append_assoc]; exact t₂⟩, y.os.trans x.os, fun g => y.gens (x.gens g)⟩
theorem Ext.of_keep {P : Addr} {s : Shared} {h' : Heap} {t : Nat} (k : ∀ b o, s.heap.get? b = some o → h'.get? b = some o) : Ext P s { s with heap := h', toks := t } :=
  ⟨.of_keep k, fun vs e ok => ⟨#[], by simpa using k _ _ e, by simpa using ok⟩, rfl, id⟩
theorem Ext.toks {P : Addr} {s : Shared} {t : Nat} : Ext P s { s with toks := t } := Ext.of_keep (fun _ _ e => e)
theorem Ext.push {P : Addr} {s : Shared} {o : Obj} {t : Nat} : Ext P s { s with heap := s.heap.push o, toks := t } := Ext.of_keep (fun _ _ e => Heap.get?_push_of_some _ e)

theorem TabIs.ext {P : Addr} {s s' : Shared} (x : TabIs P s.heap) (e : Ext P s s') : TabIs P s'.heap := by
  obtain ⟨vs, h1, h2⟩ := x
  obtain ⟨more, h3, h4⟩ := e.tab vs h1 h2
  exact ⟨_, h3, h4⟩

/-- no code table: kept -/
noncomputable def noTab (o : Obj) : Prop := ∀ vs, o ≠ codeTab vs
theorem noTab.cls {o : Obj} (h : o.cls ≠ .none) : noTab o := fun vs e => h (by rw [e])
theorem noTab.data {o : Obj} (h : ∀ vs, o.data ≠ .fields vs) : noTab o := fun vs e => h vs (by rw [e])
theorem TabIs.ne {P : Addr} {h : Heap} (x : TabIs P h) {b : Addr} {o : Obj} (e : h.get? b = some o) (n : noTab o) : b ≠ P := fun q => by
  obtain ⟨vs, h1, _⟩ := x
  subst q
  rw [e] at h1
  exact n vs (Option.some.inj h1)
theorem KeepP.get {P : Addr} {h h' : Heap} (k : KeepP P h h') (x : TabIs P h) {b : Addr} {o : Obj} (e : h.get? b = some o) (n : noTab o) : h'.get? b = some o := k b o (x.ne e n) e
theorem Ns_keep {P : Addr} {h h' : Heap} (k : KeepP P h h') (x : TabIs P h) {a : Addr} {m : Str → Option Value} (hn : h.Ns a m) : h'.Ns a m :=
  let ⟨o, es, ep, e, d, r⟩ := hn
  ⟨o, es, ep, k.get x e (.data fun vs q => by rw [d] at q; cases q), d, r⟩
theorem IsList_keep {P : Addr} {h h' : Heap} (k : KeepP P h h') (x : TabIs P h) {a : Addr} {vs : Array Value} (hl : h.IsList a vs) : h'.IsList a vs :=
  let ⟨o, e, c, r⟩ := hl
  ⟨o, k.get x e (.cls (by rw [c]; nofun)), c, r⟩
theorem PlainList_keep {P : Addr} {h h' : Heap} (k : KeepP P h h') (x : TabIs P h) {a : Addr} {vs : Array Value} (hl : h.PlainList a vs) : h'.PlainList a vs :=
  let ⟨n, e⟩ := hl
  ⟨n, k.get x e (.cls (by nofun))⟩
theorem IsTuple_keep {P : Addr} {h h' : Heap} (k : KeepP P h h') (x : TabIs P h) {a : Addr} {vs : Array Value} (hl : h.IsTuple a vs) : h'.IsTuple a vs :=
  let ⟨o, e, c, r⟩ := hl
  ⟨o, k.get x e (.cls (by rw [c]; nofun)), c, r⟩
theorem IsCell_keep {P : Addr} {h h' : Heap} (k : KeepP P h h') (x : TabIs P h) {a : Addr} {v : Option Value} (hl : h.IsCell a v) : h'.IsCell a v :=
  let ⟨o, e, d⟩ := hl
  ⟨o, k.get x e (.data fun vs q => by rw [d] at q; cases q), d⟩

noncomputable def IsRange' (h : Heap) (r : Addr) (a b c : Int) : Prop := ∃ t u v, IsRange h r a b c t u v
/-- a bound append of the list at a -/
noncomputable def IsMeth (h : Heap) (q a : Addr) : Prop := ∃ o vs, h.get? q = some o ∧ o.cls = .type "builtin_function_or_method" ∧ o.data = .fields vs ∧ vs[0]? = some (.builtin "list.append") ∧ vs[1]? = some (.ref a)

mutual
inductive Is (h : Heap) (γ : List Addr) : Value → PV → Prop where
  | none : Is h γ .none .none
  | bool (b : Bool) : Is h γ (.bool b) (.bool b)
  | int (i : Int) (t : Tok) : Is h γ (.int i t) (.int i)
  | str (x : Str) (t : Tok) (l : List Nat) (e : x.cps.toList = l) : Is h γ (.str x t) (.str l)
  | bytes (b : Array UInt8) (t : Tok) (l : List Nat) (e : b.toList.map UInt8.toNat = l) : Is h γ (.bytes b t) (.bytes l)
  | list (a : Addr) (vs : Array Value) (xs : List PV) (hn : a ∉ γ) (hl : h.PlainList a vs) (hx : IsAll h γ vs.toList xs) (hf : xs.all frozen = true) : Is h γ (.ref a) (.list xs)
  | tup (a : Addr) (vs : Array Value) (xs : List PV) (hl : h.IsTuple a vs) (hx : IsAll h γ vs.toList xs) (hf : xs.all frozen = true) : Is h γ (.ref a) (.tup xs)
  | range (r : Addr) (a b c : Int) (hr : IsRange' h r a b c) : Is h γ (.ref r) (.range a b c)
  | ref (k : Nat) (a : Addr) (e : γ[k]? = some a) : Is h γ (.ref a) (.ref k)
  | meth (k : Nat) (a q : Addr) (e : γ[k]? = some a) (hq : IsMeth h q a) : Is h γ (.ref q) (.meth k)
inductive IsAll (h : Heap) (γ : List Addr) : List Value → List PV → Prop where
  | nil : IsAll h γ [] []
  | cons {v : Value} {x : PV} {vs : List Value} {xs : List PV} (hv : Is h γ v x) (hs : IsAll h γ vs xs) : IsAll h γ (v :: vs) (x :: xs)
end

/-- what a value of each kind is -/
noncomputable def IsF (h : Heap) (γ : List Addr) (v : Value) : PV → Prop
  | .none => v = .none
  | .bool b => v = .bool b
  | .int i => ∃ t, v = .int i t
  | .str l => ∃ u t, v = .str u t ∧ u.cps.toList = l
  | .bytes l => ∃ u t, v = .bytes u t ∧ u.toList.map UInt8.toNat = l
  | .list l => ∃ a vs, v = .ref a ∧ a ∉ γ ∧ h.PlainList a vs ∧ IsAll h γ vs.toList l ∧ l.all frozen = true
  | .tup l => ∃ a vs, v = .ref a ∧ h.IsTuple a vs ∧ IsAll h γ vs.toList l ∧ l.all frozen = true
  | .range a b c => ∃ r, v = .ref r ∧ IsRange' h r a b c
  | .ref k => ∃ a, v = .ref a ∧ γ[k]? = some a
  | .meth k => ∃ l q, v = .ref q ∧ γ[k]? = some l ∧ IsMeth h q l
theorem Is.inv {h : Heap} {γ : List Addr} {v : Value} {x : PV} (hv : Is h γ v x) : IsF h γ v x :=
  Is.rec (motive_1 := fun v x _ => IsF h γ v x) (motive_2 := fun _ _ _ => True) rfl (fun _ => rfl) (fun _ t => ⟨t, rfl⟩) (fun u t _ e => ⟨u, t, rfl, e⟩) (fun u t _ e => ⟨u, t, rfl, e⟩) (fun a vs _ h1 h2 h3 h4 _ => ⟨a, vs, rfl, h1, h2, h3, h4⟩)
    (fun a vs _ h1 h2 h3 _ => ⟨a, vs, rfl, h1, h2, h3⟩) (fun r _ _ _ h => ⟨r, rfl, h⟩) (fun _ a h => ⟨a, rfl, h⟩) (fun _ a q h1 h2 => ⟨a, q, rfl, h1, h2⟩) trivial (fun _ _ _ _ => trivial) hv
theorem IsAll.ind {h : Heap} {γ : List Addr} {M : List Value → List PV → Prop} (nil : M [] []) (cons : ∀ {v x vs xs}, Is h γ v x → IsAll h γ vs xs → M vs xs → M (v :: vs) (x :: xs)) {vs : List Value} {xs : List PV} (hx : IsAll h γ vs xs) : M vs xs :=
  IsAll.rec (motive_1 := fun _ _ _ => True) (motive_2 := fun vs xs _ => M vs xs) trivial (fun _ => trivial) (fun _ _ => trivial) (fun _ _ _ _ => trivial) (fun _ _ _ _ => trivial) (fun _ _ _ _ _ _ _ _ => trivial) (fun _ _ _ _ _ _ _ => trivial)
    (fun _ _ _ _ _ => trivial) (fun _ _ _ => trivial) (fun _ _ _ _ _ => trivial) nil (fun hv hs _ i => cons hv hs i) hx
/-- what a row of values is -/
noncomputable def IsAF (h : Heap) (γ : List Addr) (vs : List Value) : List PV → Prop
  | [] => vs = []
  | x :: xs => ∃ v ws, vs = v :: ws ∧ Is h γ v x ∧ IsAll h γ ws xs
theorem IsAll.inv {h : Heap} {γ : List Addr} {vs : List Value} {xs : List PV} (hx : IsAll h γ vs xs) : IsAF h γ vs xs := hx.ind (M := fun vs xs => IsAF h γ vs xs) rfl fun hv hs _ => ⟨_, _, rfl, hv, hs⟩
theorem IsAll.nil_inv {h : Heap} {γ : List Addr} {vs : List Value} (x : IsAll h γ vs []) : vs = [] := x.inv
theorem IsAll.cons_inv {h : Heap} {γ : List Addr} {vs : List Value} {y : PV} {ys : List PV} (x : IsAll h γ vs (y :: ys)) : ∃ v ws, vs = v :: ws ∧ Is h γ v y ∧ IsAll h γ ws ys := x.inv
section
variable {h : Heap} {γ : List Addr} {v : Value} {vs : List Value} {x y z u : PV} {xs : List PV}
theorem IsAll.one (hx : IsAll h γ vs [x]) : ∃ v, vs = [v] ∧ Is h γ v x := by
  obtain ⟨v, ws, rfl, hv, hw⟩ := hx.cons_inv
  rw [hw.nil_inv]
  exact ⟨v, rfl, hv⟩
theorem a1_inv (e : a1 xs = some x) : xs = [x] := by
  cases xs with
  | nil => exact no_some e
  | cons a r => cases r with
    | nil => exact congrArg (fun x => [x]) (Option.some.inj e)
    | cons b r => exact no_some e
theorem a2_inv (e : a2 xs = some (x, y)) : xs = [x, y] := by
  cases xs with
  | nil => exact no_some e
  | cons a r => cases r with
    | nil => exact no_some e
    | cons b r => cases r with
      | nil => exact congrArg (fun q : PV × PV => [q.1, q.2]) (Option.some.inj e)
      | cons b r => exact no_some e
theorem a3_inv (e : a3 xs = some (x, y, z)) : xs = [x, y, z] := by
  cases xs with
  | nil => exact no_some e
  | cons a r => cases r with
    | nil => exact no_some e
    | cons b r => cases r with
      | nil => exact no_some e
      | cons c r => cases r with
        | nil => exact congrArg (fun q : PV × PV × PV => [q.1, q.2.1, q.2.2]) (Option.some.inj e)
        | cons b r => exact no_some e
theorem a4_inv (e : a4 xs = some (x, y, z, u)) : xs = [x, y, z, u] := by
  cases xs with
  | nil => exact no_some e
  | cons a r => cases r with
    | nil => exact no_some e
    | cons b r => cases r with
      | nil => exact no_some e
      | cons c r => cases r with
        | nil => exact no_some e
        | cons d r => cases r with
          | nil => exact congrArg (fun q : PV × PV × PV × PV => [q.1, q.2.1, q.2.2.1, q.2.2.2]) (Option.some.inj e)
          | cons b r => exact no_some e
theorem IsAll.of1 (hx : IsAll h γ vs xs) (e : a1 xs = some x) : ∃ v, vs = [v] ∧ Is h γ v x := by
  rw [a1_inv e] at hx; exact hx.one
theorem IsAll.of2 (hx : IsAll h γ vs xs) (e : a2 xs = some (x, y)) : ∃ v w, vs = [v, w] ∧ Is h γ v x ∧ Is h γ w y := by
  rw [a2_inv e] at hx
  obtain ⟨v, ws, rfl, hv, hw⟩ := hx.cons_inv
  obtain ⟨w, rfl, hq⟩ := hw.one
  exact ⟨v, w, rfl, hv, hq⟩
theorem IsAll.of3 (hx : IsAll h γ vs xs) (e : a3 xs = some (x, y, z)) : ∃ v w q, vs = [v, w, q] ∧ Is h γ v x ∧ Is h γ w y ∧ Is h γ q z := by
  rw [a3_inv e] at hx
  obtain ⟨v, ws, rfl, hv, hw⟩ := hx.cons_inv
  obtain ⟨w, q, rfl, h1, h2⟩ := hw.of2 (x := y) (y := z) rfl
  exact ⟨v, w, q, rfl, hv, h1, h2⟩
theorem asStr_inv {l : List Nat} (e : asStr x = some l) : x = .str l := by
  cases x <;> first | exact no_some e | exact congrArg _ (Option.some.inj e)
theorem asByt_inv {l : List Nat} (e : asByt x = some l) : x = .bytes l := by
  cases x <;> first | exact no_some e | exact congrArg _ (Option.some.inj e)
theorem asInt_inv {l : Int} (e : asInt x = some l) : x = .int l := by
  cases x <;> first | exact no_some e | exact congrArg _ (Option.some.inj e)
theorem asLst_inv {l : List PV} (e : asLst x = some l) : x = .list l := by
  cases x <;> first | exact no_some e | exact congrArg _ (Option.some.inj e)
theorem asRng_inv {l : Int × Int × Int} (e : asRng x = some l) : x = .range l.1 l.2.1 l.2.2 := by
  cases x <;> first | exact no_some e | exact congrArg (fun l : Int × Int × Int => PV.range l.1 l.2.1 l.2.2) (Option.some.inj e)
theorem asBool_inv {l : Bool} (e : asBool x = some l) : x = .bool l := by
  cases x <;> first | exact no_some e | exact congrArg _ (Option.some.inj e)
theorem Is.bool_inv {i : Bool} (hv : Is h γ v (.bool i)) : v = .bool i := hv.inv
theorem Is.none_inv (hv : Is h γ v .none) : v = .none := hv.inv
theorem one1_inv {l : List Nat} {c : Nat} (e : one1 l = some c) : l = [c] := by
  cases l with
  | nil => exact no_some e
  | cons a r => cases r with
    | nil => exact congrArg (fun x => [x]) (Option.some.inj e)
    | cons b r => exact no_some e
theorem Is.str_inv {l : List Nat} (hv : Is h γ v (.str l)) : ∃ y t, v = .str y t ∧ y.cps.toList = l := hv.inv
theorem Is.bytes_inv {l : List Nat} (hv : Is h γ v (.bytes l)) : ∃ y t, v = .bytes y t ∧ y.toList.map UInt8.toNat = l := hv.inv
theorem Is.int_inv {i : Int} (hv : Is h γ v (.int i)) : ∃ t, v = .int i t := hv.inv
theorem Is.list_inv {l : List PV} (hv : Is h γ v (.list l)) : ∃ a vs, v = .ref a ∧ a ∉ γ ∧ h.PlainList a vs ∧ IsAll h γ vs.toList l ∧ l.all frozen = true := hv.inv
theorem Is.tup_inv {l : List PV} (hv : Is h γ v (.tup l)) : ∃ a vs, v = .ref a ∧ h.IsTuple a vs ∧ IsAll h γ vs.toList l ∧ l.all frozen = true := hv.inv
theorem Is.range_inv {a b c : Int} (hv : Is h γ v (.range a b c)) : ∃ r, v = .ref r ∧ IsRange' h r a b c := hv.inv
theorem Is.ref_inv {k : Nat} (hv : Is h γ v (.ref k)) : ∃ a, v = .ref a ∧ γ[k]? = some a := hv.inv
theorem Is.meth_inv {k : Nat} (hv : Is h γ v (.meth k)) : ∃ l q, v = .ref q ∧ γ[k]? = some l ∧ IsMeth h q l := hv.inv
theorem asRef_inv {k : Nat} (e : asRef x = some k) : x = .ref k := by
  cases x <;> first | exact no_some e | exact congrArg _ (Option.some.inj e)
theorem asMth_inv {k : Nat} (e : asMth x = some k) : x = .meth k := by
  cases x <;> first | exact no_some e | exact congrArg _ (Option.some.inj e)
theorem asTup_inv {l : List PV} (e : asTup x = some l) : x = .tup l := by
  cases x <;> first | exact no_some e | exact congrArg _ (Option.some.inj e)
theorem lstAt_inv {led : List PObj} {k : Nat} {l : List PV} (e : lstAt led k = some l) : led[k]? = some (.list l) := by
  obtain ⟨o, e1, e2⟩ := Option.bind_eq_some_iff.mp e
  cases o <;> first | exact no_some e2 | exact e1.trans (congrArg (fun l => some (PObj.list l)) (Option.some.inj e2))
theorem barrAt_inv {led : List PObj} {k : Nat} {l : List Nat} (e : barrAt led k = some l) : led[k]? = some (.barr l) := by
  obtain ⟨o, e1, e2⟩ := Option.bind_eq_some_iff.mp e
  cases o <;> first | exact no_some e2 | exact e1.trans (congrArg (fun l => some (PObj.barr l)) (Option.some.inj e2))
theorem Is.asRef (hv : Is h γ v x) {k : Nat} (e : asRef x = some k) : ∃ a, v = .ref a ∧ γ[k]? = some a := by rw [asRef_inv e] at hv; exact hv.ref_inv
theorem Is.asMth (hv : Is h γ v x) {k : Nat} (e : asMth x = some k) : ∃ l q, v = .ref q ∧ γ[k]? = some l ∧ IsMeth h q l := by rw [asMth_inv e] at hv; exact hv.meth_inv
theorem Is.asTup (hv : Is h γ v x) {l : List PV} (e : asTup x = some l) : ∃ a vs, v = .ref a ∧ h.IsTuple a vs ∧ IsAll h γ vs.toList l ∧ l.all frozen = true := by rw [asTup_inv e] at hv; exact hv.tup_inv
theorem Is.asStr (hv : Is h γ v x) {l : List Nat} (e : asStr x = some l) : ∃ y t, v = .str y t ∧ y.cps.toList = l := by rw [asStr_inv e] at hv; exact hv.str_inv
theorem Is.asByt (hv : Is h γ v x) {l : List Nat} (e : asByt x = some l) : ∃ y t, v = .bytes y t ∧ y.toList.map UInt8.toNat = l := by rw [asByt_inv e] at hv; exact hv.bytes_inv
theorem Is.asInt (hv : Is h γ v x) {i : Int} (e : asInt x = some i) : ∃ t, v = .int i t := by rw [asInt_inv e] at hv; exact hv.int_inv
theorem Is.asLst (hv : Is h γ v x) {l : List PV} (e : asLst x = some l) : ∃ a vs, v = .ref a ∧ a ∉ γ ∧ h.PlainList a vs ∧ IsAll h γ vs.toList l ∧ l.all frozen = true := by rw [asLst_inv e] at hv; exact hv.list_inv
end
theorem ob_inv {α β : Type} {o : Option α} {f : α → Option β} {z : β} (e : o.bind f = some z) : ∃ a, o = some a ∧ f a = some z := Option.bind_eq_some_iff.mp e
theorem ite_inv {α : Type} {p : Prop} [Decidable p] {a : Option α} {z : α} (e : (if p then a else none) = some z) : p ∧ a = some z := by
  split at e
  · exact ⟨‹_›, e⟩
  · cases e
theorem if_inv {α : Type} {p : Prop} [Decidable p] {a z : α} (e : (if p then some a else none) = some z) : p ∧ a = z := by
  split at e
  · exact ⟨‹_›, Option.some.inj e⟩
  · cases e
theorem IsAll.length {h : Heap} {γ : List Addr} {vs : List Value} {xs : List PV} (hx : IsAll h γ vs xs) : vs.length = xs.length := hx.ind (M := fun vs xs => vs.length = xs.length) rfl fun _ _ i => congrArg Nat.succ i
theorem IsAll.get {h : Heap} {γ : List Addr} {vs : List Value} {xs : List PV} (hx : IsAll h γ vs xs) : ∀ {k : Nat} {x : PV}, xs[k]? = some x → ∃ v, vs[k]? = some v ∧ Is h γ v x :=
  hx.ind (M := fun vs xs => ∀ {k : Nat} {x : PV}, xs[k]? = some x → ∃ v, vs[k]? = some v ∧ Is h γ v x) (fun e => no_some e) fun hv _ i k _ e => match k with
    | 0 => ⟨_, rfl, (Option.some.inj (e : some _ = some _)) ▸ hv⟩
    | k + 1 => i (k := k) e
theorem IsAll.append {h : Heap} {γ : List Addr} {vs ws : List Value} {xs ys : List PV} (a : IsAll h γ vs xs) (b : IsAll h γ ws ys) : IsAll h γ (vs ++ ws) (xs ++ ys) :=
  a.ind (M := fun vs xs => IsAll h γ (vs ++ ws) (xs ++ ys)) b fun hv _ i => .cons hv i
theorem IsAll.drop {h : Heap} {γ : List Addr} {vs : List Value} {xs : List PV} (hx : IsAll h γ vs xs) : ∀ k : Nat, IsAll h γ (vs.drop k) (xs.drop k) :=
  hx.ind (M := fun vs xs => ∀ k : Nat, IsAll h γ (vs.drop k) (xs.drop k)) (fun k => by rw [List.drop_nil, List.drop_nil]; exact .nil) fun hv hs i k => match k with
    | 0 => .cons hv hs
    | k + 1 => i k
theorem IsAll.take {h : Heap} {γ : List Addr} {vs : List Value} {xs : List PV} (hx : IsAll h γ vs xs) : ∀ k : Nat, IsAll h γ (vs.take k) (xs.take k) :=
  hx.ind (M := fun vs xs => ∀ k : Nat, IsAll h γ (vs.take k) (xs.take k)) (fun k => by rw [List.take_nil, List.take_nil]; exact .nil) fun hv hs i k => match k with
    | 0 => .nil
    | k + 1 => .cons hv (i k)
theorem IsAll.set {h : Heap} {γ : List Addr} {vs : List Value} {xs : List PV} (hx : IsAll h γ vs xs) : ∀ {k : Nat} {v : Value} {x : PV}, Is h γ v x → IsAll h γ (vs.set k v) (xs.set k x) :=
  hx.ind (M := fun vs xs => ∀ {k : Nat} {v : Value} {x : PV}, Is h γ v x → IsAll h γ (vs.set k v) (xs.set k x)) (fun _ => .nil) fun hv hs i k _ _ e => match k with
    | 0 => .cons e hs
    | k + 1 => .cons hv (i e)
theorem IsAll.eraseIdx {h : Heap} {γ : List Addr} {vs : List Value} {xs : List PV} (hx : IsAll h γ vs xs) : ∀ k : Nat, IsAll h γ (vs.eraseIdx k) (xs.eraseIdx k) :=
  hx.ind (M := fun vs xs => ∀ k : Nat, IsAll h γ (vs.eraseIdx k) (xs.eraseIdx k)) (fun _ => .nil) fun hv hs i k => match k with
    | 0 => hs
    | k + 1 => .cons hv (i k)

theorem Is.tr {h h' : Heap} {γ γ' : List Addr}
    (hl : ∀ a o vs n, h.get? a = some o → a ∉ γ → o.cls = .type "list" → o.data = .seq vs n → h'.get? a = some o ∧ a ∉ γ')
    (ht : ∀ a o vs n, h.get? a = some o → o.cls = .type "tuple" → o.data = .seq vs n → h'.get? a = some o)
    (hf : ∀ a o vs, h.get? a = some o → (o.cls = .type "range" ∨ o.cls = .type "builtin_function_or_method") → o.data = .fields vs → h'.get? a = some o)
    (pre : ∀ (k : Nat) (a : Addr), γ[k]? = some a → γ'[k]? = some a) : ∀ {v : Value} {x : PV}, Is h γ v x → Is h' γ' v x := by
  intro v x hv
  refine Is.rec (motive_1 := fun v x _ => Is h' γ' v x) (motive_2 := fun vs xs _ => IsAll h' γ' vs xs) .none .bool .int .str .bytes ?_ ?_ ?_ ?_ ?_ .nil ?_ hv
  · rintro a vs xs hn ⟨n, e⟩ _ hz ih
    obtain ⟨e', hn'⟩ := hl a _ vs n e hn rfl rfl
    exact .list a vs xs hn' ⟨n, e'⟩ ih hz
  · rintro a vs xs ⟨o, e, c, n, d⟩ _ hz ih
    exact .tup a vs xs ⟨o, ht a o vs n e c d, c, n, d⟩ ih hz
  · rintro r a b c ⟨t, u, w, e⟩
    exact .range r a b c ⟨t, u, w, hf r _ _ e (.inl rfl) rfl⟩
  · intro k a e
    exact .ref k a (pre k a e)
  · rintro k a q e ⟨o, vs, e1, c, d, r⟩
    exact .meth k a q (pre k a e) ⟨o, vs, hf q o vs e1 (.inr c) d, c, d, r⟩
  · intro v x vs xs _ _ i1 i2
    exact .cons i1 i2
theorem IsAll.imp {h h' : Heap} {γ γ' : List Addr} (f : ∀ {v : Value} {x : PV}, Is h γ v x → Is h' γ' v x) {vs : List Value} {xs : List PV} (hx : IsAll h γ vs xs) : IsAll h' γ' vs xs :=
  hx.ind (M := IsAll h' γ') .nil fun hv _ i => .cons (f hv) i

theorem Is.ext {P : Addr} {h h' : Heap} {γ : List Addr} (T : TabIs P h) (k : KeepP P h h') {v : Value} {x : PV} (hv : Is h γ v x) : Is h' γ v x :=
  hv.tr (fun _ _ _ _ e hn c _ => ⟨k.get T e (.cls (by rw [c]; nofun)), hn⟩) (fun _ _ _ _ e c _ => k.get T e (.cls (by rw [c]; nofun)))
    (fun _ _ _ e c _ => k.get T e (.cls (by rcases c with c | c <;> rw [c] <;> nofun))) (fun _ _ e => e)
theorem IsAll.ext {P : Addr} {h h' : Heap} {γ : List Addr} (T : TabIs P h) (k : KeepP P h h') {vs : List Value} {xs : List PV} (hv : IsAll h γ vs xs) : IsAll h' γ vs xs := hv.imp fun x => x.ext T k

/-! what a step may change: the objects at M (and the one table) -/
structure Upd (P : Addr) (M : List Addr) (s s' : Shared) : Prop where
  keep : ∀ b o, b ∉ M → b ≠ P → s.heap.get? b = some o → s'.heap.get? b = some o
  tab : ∀ vs, s.heap.get? P = some (codeTab vs) → TriplesOk vs.toList → ∃ more, s'.heap.get? P = some (codeTab (vs ++ more)) ∧ TriplesOk (vs ++ more).toList
  os : s'.os = s.os
  gens : AllBare s.gens → AllBare s'.gens
theorem Ext.upd {P : Addr} {M : List Addr} {s s' : Shared} (e : Ext P s s') : Upd P M s s' := ⟨fun b o _ n x => e.keep b o n x, e.tab, e.os, e.gens⟩
theorem Upd.refl {P : Addr} {M : List Addr} (s : Shared) : Upd P M s s := (Ext.refl s).upd
theorem Upd.mono {P : Addr} {M M' : List Addr} {s s' : Shared} (e : Upd P M s s') (h : ∀ b ∈ M, b ∈ M') : Upd P M' s s' := ⟨fun b o hb n x => e.keep b o (fun q => hb (h b q)) n x, e.tab, e.os, e.gens⟩
theorem Upd.trans {P : Addr} {M : List Addr} {s₁ s₂ s₃ : Shared} (x : Upd P M s₁ s₂) (y : Upd P M s₂ s₃) : Upd P M s₁ s₃ :=
  ⟨fun b o hb n e => y.keep b o hb n (x.keep b o hb n e), fun vs e t => by
    obtain ⟨m₁, e₁, t₁⟩ := x.tab vs e t
    obtain ⟨m₂, e₂, t₂⟩ := y.tab _ e₁ t₁
    exact ⟨m₁ ++ m₂, by rw [← Array.append_assoc]; exact e₂, by rw [← Array.append_assoc]; exact t₂⟩, y.os.trans x.os, fun g => y.gens (x.gens g)⟩
theorem Upd.of_keep {P : Addr} {M : List Addr} {s : Shared} {h' : Heap} {t : Nat} (T : TabIs P s.heap) (hP : ∀ b ∈ M, ∀ o, s.heap.get? b = some o → noTab o) (k : ∀ b o, b ∉ M → s.heap.get? b = some o → h'.get? b = some o) : Upd P M s { s with heap := h', toks := t } := by
  obtain ⟨vs, h1, h2⟩ := T
  have hn : P ∉ M := fun hm => hP P hm _ h1 vs rfl
  exact ⟨fun b o hb _ e => k b o hb e, fun ws e ok => ⟨#[], by simpa using k _ _ hn e, by simpa using ok⟩, rfl, id⟩
/-- fresh objects may turn -/
theorem Upd.ext {P : Addr} {M : List Addr} {s₀ s s' : Shared} (b : Ext P s₀ s) (e : Upd P M s s') (h : ∀ a ∈ M, s₀.heap.get? a = Option.none) : Ext P s₀ s' :=
  ⟨fun a o n x => e.keep a o (fun hm => by rw [h a hm] at x; cases x) n (b.keep a o n x), fun vs x t => by
    obtain ⟨m₁, e₁, t₁⟩ := b.tab vs x t
    obtain ⟨m₂, e₂, t₂⟩ := e.tab _ e₁ t₁
    exact ⟨m₁ ++ m₂, by rw [← Array.append_assoc]; exact e₂, by rw [← Array.append_assoc]; exact t₂⟩, e.os.trans b.os, fun g => e.gens (b.gens g)⟩
theorem TabIs.upd {P : Addr} {M : List Addr} {s s' : Shared} (x : TabIs P s.heap) (e : Upd P M s s') : TabIs P s'.heap := by
  obtain ⟨vs, h1, h2⟩ := x
  obtain ⟨more, h3, h4⟩ := e.tab vs h1 h2
  exact ⟨_, h3, h4⟩

noncomputable def valObj (o : Obj) : Prop := (∃ vs n, o.data = .seq vs n ∧ (o.cls = .type "list" ∨ o.cls = .type "tuple")) ∨ (∃ vs, o.data = .fields vs ∧ (o.cls = .type "range" ∨ o.cls = .type "builtin_function_or_method"))
/-- M touches no value that is not one of γ's objects -/
noncomputable def Off (h : Heap) (M γ : List Addr) : Prop := ∀ b ∈ M, b ∈ γ ∨ ∀ o, h.get? b = some o → ¬ valObj o
noncomputable def Lives (h : Heap) (γ : List Addr) : Prop := ∀ b ∈ γ, ∃ o, h.get? b = some o ∧ (o.cls = .type "list" ∨ o.cls = .type "bytearray")
theorem Is.upd {P : Addr} {M : List Addr} {s s' : Shared} {γ : List Addr} (T : TabIs P s.heap) (E : Upd P M s s') (hM : Off s.heap M γ) (hγ : Lives s.heap γ) {v : Value} {x : PV} (hv : Is s.heap γ v x) : Is s'.heap γ v x := by
  have key : ∀ {b : Addr} {o : Obj}, s.heap.get? b = some o → b ∉ γ → noTab o → valObj o → s'.heap.get? b = some o := by
    intro b o e hb hn h1
    refine E.keep b o (fun hm => ?_) (T.ne e hn) e
    rcases hM b hm with q | q
    · exact hb q
    · exact q o e h1
  have off : ∀ {b : Addr} {o : Obj}, s.heap.get? b = some o → o.cls ≠ .type "list" → o.cls ≠ .type "bytearray" → b ∉ γ := by
    intro b o e h1 h2 hb
    obtain ⟨o', e', q⟩ := hγ b hb
    rw [e] at e'; cases e'
    rcases q with q | q
    · exact h1 q
    · exact h2 q
  exact hv.tr (fun a o vs n e hn c d => ⟨key e hn (.cls (by rw [c]; nofun)) (.inl ⟨vs, n, d, .inl c⟩), hn⟩)
    (fun a o vs n e c d => key e (off e (by rw [c]; decide) (by rw [c]; decide)) (.cls (by rw [c]; nofun)) (.inl ⟨vs, n, d, .inr c⟩))
    (fun a o vs e c d => key e (by rcases c with c | c <;> exact off e (by rw [c]; decide) (by rw [c]; decide)) (by rcases c with c | c <;> exact .cls (by rw [c]; nofun)) (.inr ⟨vs, d, c⟩))
    (fun k a e => e)
theorem IsAll.upd {P : Addr} {M : List Addr} {s s' : Shared} {γ : List Addr} (T : TabIs P s.heap) (E : Upd P M s s') (hM : Off s.heap M γ) (hγ : Lives s.heap γ) {vs : List Value} {xs : List PV} (hv : IsAll s.heap γ vs xs) : IsAll s'.heap γ vs xs := hv.imp fun x => x.upd T E hM hγ

/-- the own objects may grow by places that were not there -/
theorem Is.grow {h : Heap} {γ δ : List Addr} {v : Value} {x : PV} (hv : Is h γ v x) (hd : ∀ a ∈ δ, h.get? a = Option.none) : Is h (γ ++ δ) v x :=
  hv.tr (fun a o vs n e hn c d => ⟨e, fun hm => by
    rcases List.mem_append.mp hm with q | q
    · exact hn q
    · rw [hd a q] at e; cases e⟩) (fun _ _ _ _ e _ _ => e) (fun _ _ _ e _ _ => e) (fun k a e => by
    obtain ⟨hk, e'⟩ := List.getElem?_eq_some_iff.mp e
    rw [List.getElem?_append_left hk]; exact e)
theorem IsAll.grow {h : Heap} {γ δ : List Addr} {vs : List Value} {xs : List PV} (hv : IsAll h γ vs xs) (hd : ∀ a ∈ δ, h.get? a = Option.none) : IsAll h (γ ++ δ) vs xs := hv.imp fun x => x.grow hd

theorem Is.strip {h : Heap} {γ γ' : List Addr} (hs : ∀ a ∈ γ, a ∈ γ') : ∀ {v : Value} {x : PV}, Is h γ' v x → frozen x = true → Is h γ v x := by
  intro v x hv
  refine Is.rec (motive_1 := fun v x _ => frozen x = true → Is h γ v x) (motive_2 := fun vs xs _ => xs.all frozen = true → IsAll h γ vs xs) (fun _ => .none) (fun b _ => .bool b) (fun i t _ => .int i t) (fun x t l e _ => .str x t l e) (fun x t l e _ => .bytes x t l e) ?_ ?_ ?_ ?_ ?_ (fun _ => .nil) ?_ hv
  · intro a vs xs hn hl _ hf ih _
    exact .list a vs xs (fun q => hn (hs a q)) hl (ih hf) hf
  · intro a vs xs hl _ hf ih _
    exact .tup a vs xs hl (ih hf) hf
  · intro r a b c hr _
    exact .range r a b c hr
  · intro k a e q; exact no_ft q
  · intro k a q e hq z; exact no_ft z
  · intro v x vs xs _ _ i1 i2 q
    rw [List.all_cons, Bool.and_eq_true] at q
    exact .cons (i1 q.1) (i2 q.2)
theorem IsAll.strip {h : Heap} {γ γ' : List Addr} (hs : ∀ a ∈ γ, a ∈ γ') {vs : List Value} {xs : List PV} (hx : IsAll h γ' vs xs) : xs.all frozen = true → IsAll h γ vs xs :=
  hx.ind (M := fun vs xs => xs.all frozen = true → IsAll h γ vs xs) (fun _ => .nil) fun hv _ i q => .cons (hv.strip hs (Bool.and_eq_true_iff.mp q).1) (i (Bool.and_eq_true_iff.mp q).2)
section
variable {h : Heap} {γ : List Addr} {G : Value → Prop} {v : Value} {x : PV}
theorem ex_el {α : Type} {f : α → Value} {p : α → Prop} (e : ∃ t, v = f t ∧ p t) (H : ∀ t, p t → G (f t)) : G v := e.elim fun t q => q.1 ▸ H t q.2
theorem ex_el2 {α β : Type} {f : α → β → Value} {p : α → β → Prop} (e : ∃ t u, v = f t u ∧ p t u) (H : ∀ t u, p t u → G (f t u)) : G v := e.elim fun t e => ex_el e (H t)
@[elab_as_elim] theorem Is.bool_k {i : Bool} (x : Is h γ v (.bool i)) (H : G (.bool i)) : G v := x.inv ▸ H
@[elab_as_elim] theorem Is.none_k (x : Is h γ v .none) (H : G .none) : G v := x.inv ▸ H
@[elab_as_elim] theorem Is.ref_k {k : Nat} (x : Is h γ v (.ref k)) (H : ∀ a, γ[k]? = some a → G (.ref a)) : G v := ex_el x.ref_inv H
@[elab_as_elim] theorem Is.meth_k {k : Nat} (x : Is h γ v (.meth k)) (H : ∀ a q, γ[k]? = some a → IsMeth h q a → G (.ref q)) : G v := ex_el2 x.meth_inv fun a q e => H a q e.1 e.2
@[elab_as_elim] theorem Is.int_k {i : Int} (x : Is h γ v (.int i)) (H : ∀ t, G (.int i t)) : G v := x.int_inv.elim fun t q => q ▸ H t
@[elab_as_elim] theorem Is.str_k {l : List Nat} (x : Is h γ v (.str l)) (H : ∀ u t, u.cps.toList = l → G (.str u t)) : G v := ex_el2 x.str_inv H
@[elab_as_elim] theorem Is.bytes_k {l : List Nat} (x : Is h γ v (.bytes l)) (H : ∀ u t, u.toList.map UInt8.toNat = l → G (.bytes u t)) : G v := ex_el2 x.bytes_inv H
@[elab_as_elim] theorem Is.list_k {l : List PV} (x : Is h γ v (.list l)) (H : ∀ a vs, a ∉ γ → h.PlainList a vs → IsAll h γ vs.toList l → l.all frozen = true → G (.ref a)) : G v := ex_el2 x.list_inv fun a q e => H a q e.1 e.2.1 e.2.2.1 e.2.2.2
@[elab_as_elim] theorem Is.tup_k {l : List PV} (x : Is h γ v (.tup l)) (H : ∀ a vs, h.IsTuple a vs → IsAll h γ vs.toList l → l.all frozen = true → G (.ref a)) : G v := ex_el2 x.tup_inv fun a q e => H a q e.1 e.2.1 e.2.2
@[elab_as_elim] theorem Is.asInt_k {i : Int} (hv : Is h γ v x) (e : Mine.asInt x = some i) (H : ∀ t, G (.int i t)) : G v := (hv.asInt e).elim fun t q => q ▸ H t
@[elab_as_elim] theorem Is.asStr_k {l : List Nat} (hv : Is h γ v x) (e : Mine.asStr x = some l) (H : ∀ u t, u.cps.toList = l → G (.str u t)) : G v := ex_el2 (hv.asStr e) H
@[elab_as_elim] theorem Is.asByt_k {l : List Nat} (hv : Is h γ v x) (e : Mine.asByt x = some l) (H : ∀ u t, u.toList.map UInt8.toNat = l → G (.bytes u t)) : G v := ex_el2 (hv.asByt e) H
@[elab_as_elim] theorem Is.asLst_k {l : List PV} (hv : Is h γ v x) (e : Mine.asLst x = some l) (H : ∀ a vs, a ∉ γ → h.PlainList a vs → IsAll h γ vs.toList l → l.all frozen = true → G (.ref a)) : G v := ex_el2 (hv.asLst e) fun a q e => H a q e.1 e.2.1 e.2.2.1 e.2.2.2
@[elab_as_elim] theorem Is.asBool_k {i : Bool} (hv : Is h γ v x) (e : Mine.asBool x = some i) (H : G (.bool i)) : G v := by
  rw [asBool_inv e] at hv
  exact hv.inv ▸ H
theorem Is.ref_el {k : Nat} (H : ∀ a, γ[k]? = some a → G (.ref a)) (v : Value) (x : Is h γ v (.ref k)) : G v := x.ref_k H
theorem Is.meth_el {k : Nat} (H : ∀ a q, γ[k]? = some a → IsMeth h q a → G (.ref q)) (v : Value) (x : Is h γ v (.meth k)) : G v := x.meth_k H
theorem Is.int_el {i : Int} (H : ∀ t, G (.int i t)) (v : Value) (x : Is h γ v (.int i)) : G v := x.int_k H
theorem Is.str_el {l : List Nat} (H : ∀ u t, u.cps.toList = l → G (.str u t)) (v : Value) (x : Is h γ v (.str l)) : G v := x.str_k H
theorem Is.bytes_el {l : List Nat} (H : ∀ u t, u.toList.map UInt8.toNat = l → G (.bytes u t)) (v : Value) (x : Is h γ v (.bytes l)) : G v := x.bytes_k H
theorem Is.list_el {l : List PV} (H : ∀ a vs, a ∉ γ → h.PlainList a vs → IsAll h γ vs.toList l → l.all frozen = true → G (.ref a)) (v : Value) (x : Is h γ v (.list l)) : G v := x.list_k H
theorem Is.tup_el {l : List PV} (H : ∀ a vs, h.IsTuple a vs → IsAll h γ vs.toList l → l.all frozen = true → G (.ref a)) (v : Value) (x : Is h γ v (.tup l)) : G v := x.tup_k H
end
/-! eliminators of options, tests, kinds -/
section
variable {α β : Type} {G : Prop}
theorem ob_el {o : Option α} {f : α → Option β} {z : β} (e : o.bind f = some z) (H : ∀ a, o = some a → f a = some z → G) : G := (Option.bind_eq_some_iff.mp e).elim fun a q => H a q.1 q.2
theorem om_el {o : Option α} {f : α → β} {z : β} (e : o.map f = some z) (H : ∀ a, o = some a → f a = z → G) : G := (Option.map_eq_some_iff.mp e).elim fun a q => H a q.1 q.2
theorem it_el {p : Prop} [Decidable p] {a : Option β} {z : β} (e : (if p then a else none) = some z) (H : p → a = some z → G) : G := H (ite_inv e).1 (ite_inv e).2
theorem if_el {p : Prop} [Decidable p] {a z : β} (e : (if p then some a else none) = some z) (H : p → a = z → G) : G := H (if_inv e).1 (if_inv e).2
theorem beq_dec [BEq α] [LawfulBEq α] [DecidableEq α] (a b : α) : (a == b) = decide (a = b) := by by_cases h : a = b <;> simp [h]
@[elab_as_elim] theorem isInt_k {G : PV → Prop} (x : PV) (h : isInt x = true) (H : ∀ i, G (.int i)) : G x := by cases x <;> first | exact no_ft h | exact H _
@[elab_as_elim] theorem isStr_k {G : PV → Prop} (x : PV) (h : isStr x = true) (H : ∀ i, G (.str i)) : G x := by cases x <;> first | exact no_ft h | exact H _
@[elab_as_elim] theorem isBytes_k {G : PV → Prop} (x : PV) (h : isBytes x = true) (H : ∀ i, G (.bytes i)) : G x := by cases x <;> first | exact no_ft h | exact H _
@[elab_as_elim] theorem isNone_k {G : PV → Prop} (x : PV) (h : isNone x = true) (H : G .none) : G x := by cases x <;> first | exact no_ft h | exact H
end
end Mine
namespace Mine
open _root_.PySem _root_.PySem.Calls _root_.PySem.W _root_.PyProof.Rows
theorem zip_lookup_isSome : ∀ {ns : List Str} {vs : List Value}, vs.length = ns.length → ∀ n ∈ ns, ((ns.zip vs).lookup n).isNone = false := by
  intro ns
  induction ns with
  | nil => intro vs _ n hn; exact absurd hn List.not_mem_nil
  | cons m ns ih =>
    intro vs hl n hn
    cases vs with
    | nil => exact absurd hl.symm (Nat.succ_ne_zero _)
    | cons v vs =>
      rw [List.zip_cons_cons, List.lookup_cons]
      cases h : n == m with
      | true => rfl
      | false => exact ih (Nat.succ.inj hl) n ((List.mem_cons.mp hn).resolve_left fun e => absurd (beq_iff_eq.mpr e) (by rw [h]; exact Bool.false_ne_true))
theorem fm_congr {α β : Type} {f g : α → Option β} : ∀ {l : List α}, (∀ a ∈ l, f a = g a) → l.filterMap f = l.filterMap g := by
  intro l
  induction l with
  | nil => intro _; rfl
  | cons a l ih => intro h; rw [List.filterMap_cons, List.filterMap_cons, h a List.mem_cons_self, ih fun b hb => h b (List.mem_cons_of_mem _ hb)]
theorem zip_self : ∀ {ns : List Str} {vs : List Value}, ns.Nodup → vs.length = ns.length → ns.filterMap (fun n => ((ns.zip vs).lookup n).map (n, ·)) = ns.zip vs := by
  intro ns
  induction ns with
  | nil => intro vs _ _; rfl
  | cons m ns ih =>
    intro vs hd hl
    cases vs with
    | nil => exact absurd hl.symm (Nat.succ_ne_zero _)
    | cons v vs =>
      rw [List.zip_cons_cons, List.filterMap_cons, List.lookup_cons_self]
      refine congrArg ((m, v) :: ·) (Eq.trans (fm_congr fun n hn => ?_) (ih (List.nodup_cons.mp hd).2 (Nat.succ.inj hl)))
      rw [List.lookup_cons, show (n == m) = false from beq_eq_false_iff_ne.mpr fun e => (List.nodup_cons.mp hd).1 (e ▸ hn)]
theorem drop_nil_zip {α β : Type} (l : List α) (k : Nat) : l.zip (List.drop k ([] : List β)) = [] := by rw [List.drop_nil, List.zip_nil_right]
theorem forIn_nil_bind {α β γ : Type} {l : List α} {b : β} {f : α → β → Sem (ForInStep β)} {k : β → Sem γ} {r : Sem γ} (e : l = []) (h : k b = r) : (forIn l b f >>= k) = r := by subst e; exact h
theorem bindArgs_plain {fd : FuncData} {as : List Arg} {vs : List Value} (hp : fd.params = ⟨[], as, none, [], [], none, []⟩) (hd : fd.defaults = .none) (hn : (as.map (·.arg)).Nodup) (hl : vs.length = as.length) :
    bindArgs fd ⟨vs, []⟩ = pure ((as.map (·.arg)).zip vs) := by
  have hl : vs.length = (as.map (·.arg)).length := hl.trans (List.length_map _).symm
  have h1 : ¬ (decide (vs.length > (as.map (·.arg)).length) && (none : Option Arg).isNone) = true := by rw [hl, decide_eq_false (Nat.lt_irrefl _)]; exact Bool.false_ne_true
  have h2 : ∀ k, ¬ (!(((as.map (·.arg)).take k).filter fun n => (((as.map (·.arg)).zip vs).lookup n).isNone).isEmpty) = true := fun k => by
    rw [List.filter_eq_nil_iff.mpr fun n hm => by rw [zip_lookup_isSome hl n (List.mem_of_mem_take hm)]; exact Bool.false_ne_true]
    exact Bool.false_ne_true
  have h3 : pure (((as.map Arg.arg) ++ []).filterMap (fun n => (((as.map Arg.arg).zip vs).lookup n).map (n, ·))) = (pure ((as.map Arg.arg).zip vs) : Sem _) := by rw [List.append_nil, zip_self hn hl]
  cases fd
  cases hp
  cases hd
  exact (if_neg h1).trans ((if_neg (h2 _)).trans (forIn_nil_bind (drop_nil_zip _ _) h3))

/-! ### What the world bears throughout -/
noncomputable def faddr : Fn → Addr
  | .T => 38 | .gen1 => 45 | .adapt => 52 | .gens => 59 | .dec1 => 66 | .isort => 73 | .pdec => 80 | .escape => 97 | .transl => 104 | .members => 111
  | .dressed => 116 | .bracket => 123 | .takes => 130 | .allTake => 137 | .inside => 142 | .octet => 149 | .first => 154 | .next => 161 | .laid => 168 | .law => 173
noncomputable def biNames : List Str := ["len", "ord", "chr", "bytes", "isinstance", "str", "memoryview", "bytearray", "range", "list", "sum", "enumerate"]
noncomputable def sreW : Array Nat := #[14, 14, 4, 1, 1, 9, 0, 64, 0, 1342177280, 0, 0, 0, 0, 0, 17, 0, 13, 11, 9, 0, 64, 0, 1342177280, 0, 0, 0, 0, 0, 17, 1, 1]
structure PatIs (h : Heap) : Prop where
  pat : ∃ o vs, h.get? 85 = some o ∧ o.cls = .type "re.Pattern" ∧ o.dict = none ∧ o.data = .fields vs ∧ vs.getD 5 .none = .ref 84 ∧ Builtin.Re.reRawNat (vs.getD 6 .none) = 0 ∧ Builtin.Re.reRawNat (vs.getD 2 .none) = 1
  code : ∃ o vs n, h.get? 84 = some o ∧ o.cls = .type "tuple" ∧ o.data = .seq vs n ∧ (vs.map Builtin.Re.reRawOf).map Int.toNat = sreW
/-- the dict of the signs to be escaped -/
structure MapIs (h : Heap) (D : Addr) : Prop where
  at_ : ∃ o es ep, h.get? D = some o ∧ o.ExactDict ∧ o.data = .dict es ep ∧ (∀ e ∈ es, ∃ k : Int, Value.isInt k e.key = true ∧ e.hash = hashInt k) ∧
    ∀ c : Nat, c < 128 → match findBy Value.isInt es (c : Int) with | some v => specials.contains c = true ∧ ∃ t, v = .str ⟨#[92, c]⟩ t | none => specials.contains c = false

structure FnAt (h : Heap) (ok : Fn → DefRec → Bool) (f : Fn) : Prop where
  all : ∃ o pm c doc d oc vs tq, h.get? (faddr f) = some o ∧ o.data = .func (docDef d.name d.params d.body d.scope pm (.ref c) doc) ∧ h.get? c = some oc ∧ oc.cls = .type "code" ∧ oc.data = .fields vs ∧ vs[1]? = some (.str d.name tq) ∧ ok f d = true ∧ (f = .transl → c = 103)

/-- a code object whose table lies at P: as it once was, whatever the table holds now -/
noncomputable def CodeHd (h : Heap) (c P : Addr) : Prop := ∃ (h₀ : Heap) (ps : Array Value), h₀.IsCode c P ps ∧ h₀.TableAt c P ps ∧ ∀ o, h₀.get? c = some o → h.get? c = some o
section
variable {h h' : Heap} {c P : Addr} {ps : Array Value}
theorem CodeHd.of (hc : h.IsCode c P ps) (ht : h.TableAt c P ps) : CodeHd h c P := ⟨h, ps, hc, ht, fun _ e => e⟩
theorem CodeHd.at_ (x : CodeHd h c P) (k : ∀ o, h.get? c = some o → o.cls = .type "code" → h'.get? c = some o) : CodeHd h' c P := by
  obtain ⟨h₀, ps, hc, ht, k0⟩ := x
  refine ⟨h₀, ps, hc, ht, fun o e => k o (k0 o e) ?_⟩
  obtain ⟨⟨o', vs, e1, e2, _⟩, _⟩ := ht
  rw [e] at e1; cases e1
  exact e2
theorem CodeHd.keeps (x : CodeHd h c P) (k : ∀ b o, h.get? b = some o → h'.get? b = some o) : CodeHd h' c P := x.at_ fun o e _ => k c o e
theorem CodeHd.tab (x : CodeHd h c P) (hP : h.get? P = some (codeTab ps)) : h.TableAt c P ps := by
  obtain ⟨h₀, ps₀, _, ⟨⟨o, vs, e1, e2, e3, e4⟩, _⟩, k⟩ := x
  exact ⟨⟨o, vs, k _ e1, e2, e3, e4⟩, hP⟩
theorem CodeHd.code (x : CodeHd h c P) (hP : h.get? P = some (codeTab ps)) (ht : TriplesOk ps.toList) : h.IsCode c P ps := by
  obtain ⟨h₀, ps₀, ⟨o, vs, file, tf, flags, tg, inF, text, tt, op, ho, hd, h11, h2, h7, h9, h10, _, _, _, hne⟩, _, k⟩ := x
  exact ⟨o, vs, file, tf, flags, tg, inF, text, tt, _, k _ ho, hd, h11, h2, h7, h9, h10, hP, rfl, ht, hne⟩
end
structure Wd (ok : Fn → DefRec → Bool) (P : Addr) (mg mb : Str → Option Value) (h : Heap) : Prop where
  g : h.Ns mainGlobals mg
  b : h.Ns builtinsNs mb
  nolimit : h.NoLimit
  tab : TabIs P h
  gl : ∀ f, mg (fname f) = some (.ref (faddr f))
  fn : ∀ f, FnAt h ok f
  bi : ∀ x ∈ biNames, mg x = none ∧ mb x = bootBuiltins x
  dig : ∃ arr t, mg "digits" = some (.bytes arr t) ∧ arr.toList.map UInt8.toNat = digitsB
  mapN : mg "_special_chars_map" = some (.ref 87)
  map : MapIs h 87
  patN : mg "_twin_re_1" = some (.ref 85)
  pat : PatIs h
  chd : CodeHd h 103 P
  bat : h.BuiltinsAt mg P

theorem Wd.keep {ok : Fn → DefRec → Bool} {P : Addr} {mg mb : Str → Option Value} {h h' : Heap} (W : Wd ok P mg mb h) (k : KeepP P h h') (t : TabIs P h') : Wd ok P mg mb h' where
  g := Ns_keep k W.tab W.g
  b := Ns_keep k W.tab W.b
  nolimit := let ⟨mc, a, b⟩ := W.nolimit; ⟨mc, Ns_keep k W.tab a, b⟩
  tab := t
  gl := W.gl
  fn := fun f => by
    obtain ⟨o, pm, c, doc, d, oc, vs, tq, h1, h2, h3, h4, h5, h6, h7, h8⟩ := (W.fn f).all
    exact ⟨o, pm, c, doc, d, oc, vs, tq, k.get W.tab h1 (.data fun vs q => by rw [h2] at q; cases q), h2, k.get W.tab h3 (.cls (by rw [h4]; nofun)), h4, h5, h6, h7, h8⟩
  bi := W.bi
  dig := W.dig
  mapN := W.mapN
  patN := W.patN
  chd := W.chd.at_ fun o e c => k.get W.tab e (.cls (by rw [c]; nofun))
  bat := by
    obtain ⟨bm, o, h1, h2, h3, h4, h5, h6, h7⟩ := W.bat
    exact ⟨bm, o, h1, h2, h3, h4, k.get W.tab h5 (.cls (by rw [h6]; nofun)), h6, h7⟩
  pat := by
    obtain ⟨o, vs, h1, h2, h3, h4, h5⟩ := W.pat.pat
    obtain ⟨o', ws, n, g1, g2, g3, g4⟩ := W.pat.code
    exact ⟨⟨o, vs, k.get W.tab h1 (.cls (by rw [h2]; nofun)), h2, h3, h4, h5⟩, ⟨o', ws, n, k.get W.tab g1 (.cls (by rw [g2]; nofun)), g2, g3, g4⟩⟩
  map := by
    obtain ⟨o, es, ep, h1, h2, h3, h4⟩ := W.map.at_
    exact ⟨o, es, ep, k.get W.tab h1 (.data fun vs q => by rw [h3] at q; cases q), h2, h3, h4⟩

noncomputable def ObjIs (h : Heap) (γ : List Addr) (a : Addr) : PObj → Prop
  | .list xs => ∃ vs, h.PlainList a vs ∧ IsAll h γ vs.toList xs ∧ xs.all frozen = true
  | .barr bs => ∃ arr, h.get? a = some { cls := .type "bytearray", data := .bytearray arr 0 } ∧ arr.toList.map UInt8.toNat = bs
  | .hid => ∃ vs, h.PlainList a vs
structure LedIs (h : Heap) (γ : List Addr) (led : List PObj) : Prop where
  len : γ.length = led.length
  at_ : ∀ (k : Nat) (o : PObj), led[k]? = some o → ∃ a, γ[k]? = some a ∧ ObjIs h γ a o
theorem LedIs.nil {h : Heap} : LedIs h [] [] := ⟨rfl, fun k o e => by simp at e⟩

inductive VarAt (h : Heap) (γ : List Addr) (env : Env) (n : Str) (v : PV) : Prop where
  | loc (hk : env.kindOf n = some .local) (m : Str → Option Value) (u : Value) (hn : h.Ns env.locals m) (hm : m n = some u) (hv : Is h γ u v)
  | cell (hk : env.kindOf n = some .cell) (c : Addr) (u : Value) (hc : env.cells.lookup n = some c) (hu : h.IsCell c (some u)) (hv : Is h γ u v)

structure RelE (ok : Fn → DefRec → Bool) (P : Addr) (mg mb : Str → Option Value) (env : Env) (γ : List Addr) (σ : St) (s : Shared) : Prop where
  wd : Wd ok P mg mb s.heap
  var : ∀ x v, getV σ.env x = some v → x < tab.length ∧ VarAt s.heap γ env (nm x) v
  led : LedIs s.heap γ σ.led

section
variable {ok : Fn → DefRec → Bool} {P : Addr} {mg mb : Str → Option Value}
theorem ObjIs.live {h : Heap} {γ : List Addr} {a : Addr} : ∀ {o : PObj}, ObjIs h γ a o → ∃ ob, h.get? a = some ob ∧ (ob.cls = .type "list" ∨ ob.cls = .type "bytearray")
  | .list _, ⟨_, ⟨_, e⟩, _⟩ => ⟨_, e, .inl rfl⟩
  | .barr _, ⟨_, e, _⟩ => ⟨_, e, .inr rfl⟩
  | .hid, ⟨_, _, e⟩ => ⟨_, e, .inl rfl⟩
theorem LedIs.live {h : Heap} {γ : List Addr} {led : List PObj} (x : LedIs h γ led) {a : Addr} (ha : a ∈ γ) : ∃ ob, h.get? a = some ob ∧ (ob.cls = .type "list" ∨ ob.cls = .type "bytearray") := by
  obtain ⟨k, hk, e⟩ := List.getElem_of_mem ha
  have hk' : k < led.length := x.len ▸ hk
  obtain ⟨a', e', o⟩ := x.at_ k led[k] (by simp [hk'])
  have : a' = a := by
    have h1 : γ[k]? = some γ[k] := by simp [hk]
    rw [h1] at e'
    rw [← Option.some.inj e', e]
  exact this ▸ o.live
theorem ObjIs.data {h : Heap} {γ : List Addr} {a : Addr} : ∀ {o : PObj}, ObjIs h γ a o → ∃ ob, h.get? a = some ob ∧ ((∃ vs n, ob.data = .seq vs n) ∨ ∃ b n, ob.data = .bytearray b n)
  | .list _, ⟨_, ⟨_, e⟩, _⟩ => ⟨_, e, .inl ⟨_, _, rfl⟩⟩
  | .barr _, ⟨_, e, _⟩ => ⟨_, e, .inr ⟨_, _, rfl⟩⟩
  | .hid, ⟨_, _, e⟩ => ⟨_, e, .inl ⟨_, _, rfl⟩⟩
theorem LedIs.data {h : Heap} {γ : List Addr} {led : List PObj} (x : LedIs h γ led) {a : Addr} (ha : a ∈ γ) : ∃ ob, h.get? a = some ob ∧ ((∃ vs n, ob.data = .seq vs n) ∨ ∃ b n, ob.data = .bytearray b n) := by
  obtain ⟨k, hk, e⟩ := List.getElem_of_mem ha
  have hk' : k < led.length := x.len ▸ hk
  obtain ⟨a', e', o⟩ := x.at_ k led[k] (by simp [hk'])
  have : a' = a := by
    have h1 : γ[k]? = some γ[k] := by simp [hk]
    rw [h1] at e'
    rw [← Option.some.inj e', e]
  exact this ▸ o.data
theorem LedIs.lives {h : Heap} {γ : List Addr} {led : List PObj} (x : LedIs h γ led) : Lives h γ := fun _ ha => x.live ha
theorem ObjIs.ext {h h' : Heap} {γ : List Addr} {a : Addr} (T : TabIs P h) (k : KeepP P h h') : ∀ {o : PObj}, ObjIs h γ a o → ObjIs h' γ a o
  | .list _, ⟨vs, l, x, z⟩ => ⟨vs, PlainList_keep k T l, x.ext T k, z⟩
  | .barr _, ⟨arr, e, x⟩ => ⟨arr, k.get T e (.cls (by nofun)), x⟩
  | .hid, ⟨vs, l⟩ => ⟨vs, PlainList_keep k T l⟩
theorem LedIs.ext {h h' : Heap} {γ : List Addr} {led : List PObj} (T : TabIs P h) (k : KeepP P h h') (x : LedIs h γ led) : LedIs h' γ led :=
  ⟨x.len, fun i o e => let ⟨a, e', q⟩ := x.at_ i o e; ⟨a, e', q.ext T k⟩⟩
theorem VarAt.ext {h h' : Heap} {γ : List Addr} {env : Env} {n : Str} {v : PV} (T : TabIs P h) (k : KeepP P h h') (x : VarAt h γ env n v) : VarAt h' γ env n v := by
  cases x with
  | loc hk m u hn hm hv => exact .loc hk m u (Ns_keep k T hn) hm (hv.ext T k)
  | cell hk c u hc hu hv => exact .cell hk c u hc (IsCell_keep k T hu) (hv.ext T k)
theorem RelE.ext {env : Env} {γ : List Addr} {σ : St} {s s' : Shared} (R : RelE ok P mg mb env γ σ s) (E : Ext P s s') : RelE ok P mg mb env γ σ s' :=
  ⟨R.wd.keep E.keep (R.wd.tab.ext E), fun x v e => ⟨(R.var x v e).1, (R.var x v e).2.ext R.wd.tab E.keep⟩, R.led.ext R.wd.tab E.keep⟩
theorem fresh_off {h : Heap} {γ : List Addr} {led : List PObj} (x : LedIs h γ led) : h.objs.size ∉ γ := fun hm => by
  obtain ⟨ob, e, _⟩ := x.live hm
  exact absurd (Heap.lt_size e) (Nat.lt_irrefl _)
end
end Mine
namespace Mine
open _root_.PySem _root_.PySem.Calls _root_.PySem.W _root_.PyProof.Rows

noncomputable def opn : BOp → Operator
  | .add => .Add | .sub => .Sub | .mul => .Mult | .fdiv => .FloorDiv | .mod => .Mod
noncomputable def copn : COp → CmpOp
  | .eq => .Eq | .ne => .NotEq | .lt => .Lt | .le => .LtE | .gt => .Gt | .ge => .GtE | .isin => .In | .notin => .NotIn | .is => .Is

section
variable {prog : Program} {w : World} {A : Around} {s : Shared} {P : Addr} {γ : List Addr} {led : List PObj} {a b : Value} {x y z : PV} {Q : Value → Shared → Prop}

theorem add_list_leaf {l b : Addr} {vs ws : Array Value} (hl : s.heap.IsList l vs) (hb : s.heap.IsList b ws)
    (h : Q (.ref s.heap.objs.size) { s with heap := s.heap.push { cls := .type "list", data := .seq (vs ++ ws) } }) (hsz : vs.size + ws.size ≤ sizeLine) :
    wpAny (model prog w) A (binaryOp .Add (.ref l) (.ref b)) Q (fun _ _ => False) s := by
  obtain ⟨⟨cls, dd, data, sl⟩, ho, hc, n, hd⟩ := id hl
  obtain ⟨⟨cls2, dd2, data2, sl2⟩, ho2, hc2, n2, hd2⟩ := id hb
  simp only at hc hd hc2 hd2
  subst hc hd hc2 hd2
  exact concat_meets ⟨_, ho, rfl⟩ ⟨_, ho2, rfl⟩ noFill_list_add seq_list_add PySem.F.slot_list_add PySem.F.entry_list_add (PySem.F.args_list_add_2 _ _) (list_addW l b vs ws n n2 dd dd2 sl sl2 hsz) ⟨ho, ho2, h⟩

@[elab_as_elim] theorem intsV_k {G : Value → Value → Prop} {f : Int → Int → Option PV} (e : intsV x y f = some z) (ha : Is s.heap γ a x) (hb : Is s.heap γ b y) (H : ∀ i j t u, f i j = some z → G (.int i t) (.int j u)) : G a b :=
  ob_el (show (asInt x).bind _ = some z from e) fun i e1 e => ob_el e fun j e2 e => ha.asInt_k e1 fun t => hb.asInt_k e2 fun u => H i j t u e
theorem cps_len {u : Str} {l : List Nat} (e : u.cps.toList = l) : u.length = l.length := e ▸ (Array.length_toList (xs := u.cps)).symm
theorem u8_len {u : Array UInt8} {l : List Nat} (e : u.toList.map UInt8.toNat = l) : u.size = l.length := e ▸ ((List.length_map _).trans (Array.length_toList (xs := u))).symm
theorem cps_len0 {u : Str} {l : List Nat} (e : u.cps.toList = l) (h : (u.length == 0) = true) : l = [] := List.length_eq_zero_iff.mp ((cps_len e).symm.trans (eq_of_beq h))
theorem leaf_binop {o : BOp} (e : binop o x y = some z) (ha : Is s.heap γ a x) (hb : Is s.heap γ b y) (L : LedIs s.heap γ led) (T : TabIs P s.heap)
    (h : ∀ v s', Ext P s s' → Is s'.heap γ v z → Q v s') : wpB (model prog w) A (binaryOp (opn o) a b) Q s := by
  cases o with
  | add =>
    cases x with
    | int i =>
      refine ob_el (show (asInt y).bind _ = some z from e) fun j e2 e => ha.int_k fun t => hb.asInt_k e2 fun u => wpB_leaf (PySem.P.add_int (h _ _ Ext.toks ?_))
      exact Option.some.inj e ▸ .int _ _
    | str l =>
      refine ob_el (show (asStr y).bind _ = some z from e) fun l' e2 e => if_el e fun hsz e => ha.str_k fun xs t el => hb.asStr_k e2 fun ys u el' => wpB_leaf (PySem.P.add_str ?_)
      subst e
      by_cases h0 : (xs.length == 0) = true
      · rw [if_pos h0, cps_len0 el h0] at *
        exact h _ _ (Ext.refl _) (.str _ _ _ el')
      · rw [if_neg h0]
        by_cases h1 : (ys.length == 0) = true
        · rw [if_pos h1]
          exact h _ _ (Ext.refl _) (.str _ _ _ (by rw [cps_len0 el' h1, List.append_nil]; exact el))
        · rw [if_neg h1]
          refine ⟨?_, h _ _ Ext.toks (.str _ _ _ ((Array.toList_append ..).trans (by rw [el, el'])))⟩
          show (xs.cps ++ ys.cps).size ≤ sizeLine
          rw [Array.size_append, show xs.cps.size = _ from cps_len el, show ys.cps.size = _ from cps_len el', sizeLine_eq]
          exact Nat.le_trans hsz (by decide)
    | bytes l =>
      refine ob_el (show (asByt y).bind _ = some z from e) fun l' e2 e => if_el e fun hsz e => ha.bytes_k fun xs t el => hb.asByt_k e2 fun ys u el' =>
        wpB_leaf (KBy.add_bytes (by rw [u8_len el, u8_len el']; exact Nat.le_trans hsz (by decide)) fun t' k => h _ _ Ext.toks (e ▸ .bytes _ _ _ ?_))
      rw [Array.toList_append, List.map_append, el, el']
    | list xs =>
      refine ob_el (show (asLst y).bind _ = some z from e) fun ys e2 e => if_el e fun hsz e => ha.list_k fun l vs hn hl hx hf => hb.asLst_k e2 fun l' ws hn' hl' hy hg => ?_
      have h1 := hx.length
      have h2 := hy.length
      rw [Array.length_toList] at h1 h2
      refine wpB_leaf (add_list_leaf hl.isList hl'.isList (h _ _ (Ext.push (t := s.toks)) (e ▸ .list _ (vs ++ ws) _ (fresh_off L) ⟨_, Heap.get?_push_size _ rfl⟩ ?_ (by rw [List.all_append, hf, hg]; rfl))) (by rw [h1, h2, sizeLine_eq]; exact Nat.le_trans hsz (by decide)))
      rw [Array.toList_append]
      exact (hx.append hy).ext T (.of_keep fun _ _ e => Heap.get?_push_of_some _ e)
    | _ => exact no_some e
  | sub => exact intsV_k e ha hb fun i j t u e => wpB_leaf (PySem.P.sub_int (h _ _ Ext.toks (Option.some.inj e ▸ .int _ _)))
  | mul => exact intsV_k e ha hb fun i j t u e => if_el e fun hb e => wpB_leaf (PySem.P.mul_int (h _ _ Ext.toks (e ▸ .int _ _)) (.of_left (intBits_le_64 (by unfold ibig at hb; (first | lia | omega)) (by unfold ibig at hb; (first | lia | omega)))))
  | fdiv => exact intsV_k e ha hb fun i j t u e => if_el e fun hb e => wpB_leaf (PyProof.Rows.floordiv_int (Int.ne_of_gt hb.1) (h _ _ Ext.toks (e ▸ .int _ _)) (.inl (PyProof.noPylong_small (by (first | lia | omega)))))
  | mod => exact intsV_k e ha hb fun i j t u e => if_el e fun hb e => wpB_leaf (PyProof.Rows.mod_int' (Int.ne_of_gt hb) (h _ _ Ext.toks (e ▸ .int _ _)))

theorem leaf_iop {o : BOp} (e : iop o x y = some z) (ha : Is s.heap γ a x) (hb : Is s.heap γ b y)
    (h : ∀ v s', Ext P s s' → Is s'.heap γ v z → Q v s') : wpB (model prog w) A (inplaceOp (opn o) a b) Q s := by
  cases o with
  | add => exact intsV_k e ha hb fun i j t u e => wpB_leaf (PySem.P.iadd_int (h _ _ Ext.toks (Option.some.inj e ▸ .int _ _)))
  | fdiv => exact intsV_k e ha hb fun i j t u e => if_el e fun hb e => wpB_leaf (PyProof.Rows.ifloordiv_int (Int.ne_of_gt hb.1) (h _ _ Ext.toks (e ▸ .int _ _)) (.inl (PyProof.noPylong_small (by (first | lia | omega)))))
  | _ => exact no_some e

theorem leaf_truth {t : Bool} {Q : Bool → Shared → Prop} (e : truth x = some t) (ha : Is s.heap γ a x) (h : ∀ s', Ext P s s' → Q t s') : wpB (model prog w) A (truthy a) Q s := by
  cases x with
  | none =>
    have e := Option.some.inj (show some false = some t from e)
    subst e
    exact ha.none_k (wpB_leaf fun _ _ _ => h _ (Ext.refl _))
  | bool b => exact ha.bool_k (wpB_leaf (wpAny_truthy_bool (Option.some.inj e ▸ h _ (Ext.refl _))))
  | int i =>
    refine ha.int_k fun u => wpB_leaf (PySem.P.truthy_int ?_)
    rw [show (i != 0) = t from (congrArg (!·) (beq_dec i 0)).trans (decide_not.symm.trans (Option.some.inj e))]
    exact h s (Ext.refl _)
  | str l =>
    refine if_el e fun hb e => ha.str_k fun xs u el => wpB_leaf (PySem.P.truthy_str (by rw [cps_len el]; exact fun q => absurd (Int.le_trans q (Int.ofNat_le.mpr hb)) (by decide)) ?_)
    rw [show ((xs.length : Int) != 0) = t by rw [← e, cps_len el]; cases l <;> rfl]
    exact h _ Ext.toks
  | _ => exact no_some e
end
end Mine
namespace Mine
open _root_.PySem _root_.PySem.Calls _root_.PySem.W _root_.PyProof.Rows

section
variable {prog : Program} {w : World} {A : Around} {s : Shared} {P : Addr} {γ : List Addr} {led : List PObj} {a b : Value} {x y z : PV} {Q : Value → Shared → Prop}

@[elab_as_elim] theorem listOf_k {h : Heap} {G : Value → Prop} {xs : List PV} (L : LedIs h γ led) (ha : Is h γ a x) (e : listOf led x = some xs) (H : ∀ l vs, h.PlainList l vs → IsAll h γ vs.toList xs → xs.all frozen = true → G (.ref l)) : G a := by
  cases x with
  | list ys => exact ha.list_k fun l vs _ hl hx hf => H l vs hl (Option.some.inj e ▸ hx) (Option.some.inj e ▸ hf)
  | ref k =>
    refine ha.ref_k fun l ek => ?_
    obtain ⟨a', ea, vs, hl, hx, hf⟩ := L.at_ k _ (lstAt_inv e)
    rw [ek] at ea
    exact H l vs (Option.some.inj ea ▸ hl) hx hf
  | _ => exact no_some e
theorem listOf_is {h : Heap} {xs : List PV} (L : LedIs h γ led) (ha : Is h γ a x) (e : listOf led x = some xs) : ∃ l vs, a = .ref l ∧ h.PlainList l vs ∧ IsAll h γ vs.toList xs ∧ xs.all frozen = true :=
  listOf_k (G := fun a => ∃ l vs, a = .ref l ∧ h.PlainList l vs ∧ IsAll h γ vs.toList xs ∧ xs.all frozen = true) L ha e fun l vs hl hx hf => ⟨l, vs, rfl, hl, hx, hf⟩

theorem listOf_at {k : Nat} {xs : List PV} (h : led[k]? = some (.list xs)) : listOf led (.ref k) = some xs := (congrArg (Option.bind · asLO) h)
theorem toNat_inj {a b : Array UInt8} (e : a.toList.map UInt8.toNat = b.toList.map UInt8.toNat) : a = b := Array.ext' (List.map_inj_right (fun _ _ h => UInt8.toNat_inj.mp h) |>.mp e)
theorem str_eq {u v : Str} {l : List Nat} (e : u.cps.toList = l) (e' : v.cps.toList = l) : u = v := congrArg Str.mk (Array.ext' (e.trans e'.symm))
theorem beq_s {u v : List Nat} {l l' : List Nat} (e : u = l) (e' : v = l') : (u == v) = decide (l = l') := by rw [e, e']; exact beq_dec l l'
theorem beq_b {u v : Array UInt8} {l l' : List Nat} (e : u.toList.map UInt8.toNat = l) (e' : v.toList.map UInt8.toNat = l') : (u.toList == v.toList) = decide (l = l') :=
  (beq_dec ..).trans (decide_eq_decide.mpr ⟨fun q => e ▸ e' ▸ congrArg _ q, fun q => congrArg Array.toList (toNat_inj (e.trans (q.trans e'.symm)))⟩)

noncomputable def oneKind1 (x y : PV) : Prop := (isInt x = true ∧ isInt y = true) ∨ (isStr x = true ∧ isStr y = true) ∨ (isBytes x = true ∧ isBytes y = true)
theorem eqAt_of {h : Heap} (ha : Is h γ a x) (hb : Is h γ b y) (hk : oneKind1 x y) (s : Shared) (A : Around) : SeqAt.EqAt A s a b (pvEq x y) := by
  revert ha hb
  rcases hk with ⟨h1, h2⟩ | ⟨h1, h2⟩ | ⟨h1, h2⟩
  · refine isInt_k x h1 fun i => isInt_k y h2 fun j ha hb => ha.int_k fun t => hb.int_k fun u prog w E Q hq => wpAny_eqBool_int ?_
    rw [beq_dec]; exact hq
  · refine isStr_k x h1 fun l => isStr_k y h2 fun l' ha hb => ha.str_k fun u t e => hb.str_k fun v t' e' prog w E Q hq => wpAny_eqBool_str ?_
    rw [show decide (u = v) = pvEq (.str l) (.str l') from decide_eq_decide.mpr ⟨fun q => e ▸ e' ▸ congrArg (fun u : Str => u.cps.toList) q, fun q => str_eq e (q ▸ e')⟩]; exact hq
  · refine isBytes_k x h1 fun l => isBytes_k y h2 fun l' ha hb => ha.bytes_k fun u t e => hb.bytes_k fun v t' e' prog w E Q hq => ?_
    unfold eqBool
    refine wpAny_holding (wpAny_ite_split (fun hab => wpAny_bind (wpAny_rule (wpAny_pure ?_))) fun _ => ?_)
    · have hab := Value.bytes.inj (eq_of_beq hab)
      rw [show pvEq (.bytes l) (.bytes l') = true from decide_eq_true (e.symm.trans (hab.1 ▸ e'))] at hq
      exact hq
    · show wpAny _ _ (richCompare .Eq (.bytes u t) (.bytes v t') >>= fun r => truthOfDropped r) _ _ _
      refine wpAny_bind (PySem.W.eq_bytes (c := v) (u := t') ?_)
      rw [beq_b e e']
      exact wpAny_truthy_bool hq

theorem all_zip_range : ∀ (xs ys : List PV), xs.length = ys.length → (List.range xs.length).all (fun j => pvEq (xs.getD j .none) (ys.getD j .none)) = (xs.zip ys).all fun p => pvEq p.1 p.2 := by
  intro xs
  induction xs with
  | nil => intro ys _; cases ys <;> rfl
  | cons x xs ih =>
    intro ys h
    cases ys with
    | nil => exact absurd h (Nat.succ_ne_zero _)
    | cons y ys =>
      rw [List.length_cons, List.range_succ_eq_map, List.all_cons, List.all_map, List.zip_cons_cons, List.all_cons, ← ih ys (Nat.succ.inj h)]
      rfl

theorem oneKind_at {xs ys : List PV} (h : oneKind xs ys = true) {j : Nat} {x y : PV} (hx : xs[j]? = some x) (hy : ys[j]? = some y) : oneKind1 x y := by
  have g : ∀ {f : PV → Bool}, (xs.all f && ys.all f) = true → f x = true ∧ f y = true := fun q =>
    ⟨List.all_eq_true.mp (Bool.and_eq_true_iff.mp q).1 x (List.mem_of_getElem? hx), List.all_eq_true.mp (Bool.and_eq_true_iff.mp q).2 y (List.mem_of_getElem? hy)⟩
  rcases Bool.or_eq_true_iff.mp h with h | h
  · exact (Bool.or_eq_true_iff.mp h).imp g fun h => .inl (g h)
  · exact .inr (.inr (g h))

theorem getD_at {l : List PV} {j : Nat} (h : j < l.length) : l.getD j .none = l[j] := (List.getD_eq_getElem?_getD ..).trans (by rw [List.getElem?_eq_getElem h]; rfl)
theorem rc_lists {l r : Addr} {vs ws : Array Value} {xs ys : List PV} {t : Bool} (hl : s.heap.IsList l vs) (hx : IsAll s.heap γ vs.toList xs) (hr : s.heap.IsList r ws) (hy : IsAll s.heap γ ws.toList ys)
    (e : (if xs.length = ys.length then (if oneKind xs ys then some ((xs.zip ys).all fun p => pvEq p.1 p.2) else Option.none) else some false) = some t) (hu : A.units < cLine) : SeqAt.RcAt A s (.ref l) (.ref r) t ∧ SeqAt.RcNeAt A s (.ref l) (.ref r) (!t) := by
  have h1 := hx.length
  have h2 := hy.length
  rw [Array.length_toList] at h1 h2
  by_cases hlen : xs.length = ys.length
  · rw [if_pos hlen] at e
    refine if_el e fun hk e => ?_
    have key : ∀ j (q1 : j < vs.size) (q2 : j < ws.size), SeqAt.EqAt A.in1 s vs[j] ws[j] (pvEq (xs.getD j .none) (ys.getD j .none)) := by
      intro j q1 q2
      have b1 : j < xs.length := h1 ▸ q1
      have b2 : j < ys.length := h2 ▸ q2
      rw [getD_at b1, getD_at b2]
      obtain ⟨v, ev, iv⟩ := hx.get (List.getElem?_eq_getElem b1)
      obtain ⟨u, eu, iu⟩ := hy.get (List.getElem?_eq_getElem b2)
      rw [Array.getElem?_toList, Array.getElem?_eq_getElem q1] at ev
      rw [Array.getElem?_toList, Array.getElem?_eq_getElem q2] at eu
      exact eqAt_of (Option.some.inj ev ▸ iv) (Option.some.inj eu ▸ iu) (oneKind_at hk (List.getElem?_eq_getElem b1) (List.getElem?_eq_getElem b2)) s A.in1
    have hsz : vs.size = ws.size := h1.trans (hlen.trans h2.symm)
    have e1 := SeqAt.RcAt.lists hl hr hsz hu key
    have e2 := SeqAt.RcNeAt.lists hl hr hsz hu key
    rw [h1, all_zip_range xs ys hlen, e] at e1 e2
    exact ⟨e1, e2⟩
  · rw [if_neg hlen] at e
    have hne : (vs.size != ws.size) = true := bne_iff_ne.mpr fun q => hlen (h1.symm.trans (q.trans h2))
    exact Option.some.inj e ▸ ⟨SeqAt.RcAt.lists_lengths hl hr hne hu, SeqAt.RcNeAt.lists_lengths hl hr hne hu⟩

theorem ltList : ∀ (l r : List Nat), decide (l < r) = strLt l r := by
  intro l
  induction l with
  | nil => intro r; cases r <;> rfl
  | cons a l ih =>
    intro r
    cases r with
    | nil => rfl
    | cons b r =>
      show _ = if a < b then true else if b < a then false else strLt l r
      rw [← ih r]
      by_cases h1 : a < b
      · rw [if_pos h1]; exact decide_eq_true (List.cons_lt_cons_iff.mpr (.inl h1))
      · rw [if_neg h1]
        by_cases h2 : b < a
        · rw [if_pos h2]; exact decide_eq_false fun q => (List.cons_lt_cons_iff.mp q).elim h1 fun q => Nat.ne_of_lt h2 q.1.symm
        · rw [if_neg h2]
          exact decide_eq_decide.mpr (List.cons_lt_cons_iff.trans ⟨fun q => q.elim (fun q => absurd q h1) (·.2), fun q => .inr ⟨Nat.le_antisymm (Nat.le_of_not_lt h2) (Nat.le_of_not_lt h1), q⟩⟩)

theorem any_is {h : Heap} {p : PV → Bool} {e : Value → Bool} {vs : List Value} {xs : List PV} (hx : IsAll h γ vs xs) : (∀ v x, x ∈ xs → Is h γ v x → e v = p x) → vs.any e = xs.any p :=
  hx.ind (M := fun vs xs => (∀ v x, x ∈ xs → Is h γ v x → e v = p x) → vs.any e = xs.any p) (fun _ => rfl) fun hv _ i k => by
    rw [List.any_cons, List.any_cons, k _ _ List.mem_cons_self hv, i fun v x h => k v x (List.mem_cons_of_mem _ h)]
theorem IsAll.mem {h : Heap} {vs : List Value} {xs : List PV} (hx : IsAll h γ vs xs) : ∀ {v : Value}, v ∈ vs → ∃ x, x ∈ xs ∧ Is h γ v x :=
  hx.ind (M := fun vs xs => ∀ {v : Value}, v ∈ vs → ∃ x, x ∈ xs ∧ Is h γ v x) (fun q => absurd q List.not_mem_nil) fun {u x _ _} hv _ i v hm =>
    (List.mem_cons.mp hm).elim (fun q => ⟨x, List.mem_cons_self, q ▸ hv⟩) fun hm => (i hm).elim fun y q => ⟨y, List.mem_cons_of_mem _ q.1, q.2⟩
noncomputable def txtEq (c : Str) (v : Value) : Bool := match v with
  | .str u _ => decide (u = c)
  | _ => false

theorem leaf_eq {t : Bool} (e : cmpEq led x y = some t) (ha : Is s.heap γ a x) (hb : Is s.heap γ b y) (L : LedIs s.heap γ led) (hu : A.units < cLine) :
    (Q (.bool t) s → wpB (model prog w) A (compareOp .Eq a b) Q s) ∧ (Q (.bool (!t)) s → wpB (model prog w) A (compareOp .NotEq a b) Q s) := by
  have lst : eqL led x y = some t → (Q (.bool t) s → wpB (model prog w) A (compareOp .Eq a b) Q s) ∧ (Q (.bool (!t)) s → wpB (model prog w) A (compareOp .NotEq a b) Q s) := fun e =>
    ob_el (show (listOf led x).bind _ = some t from e) fun xs e1 e => ob_el e fun ys e2 e => listOf_k L ha e1 fun l vs hl hx _ => listOf_k L hb e2 fun r ws hr hy _ =>
      have q := rc_lists hl.isList hx hr.isList hy e hu
      ⟨fun h => wpB_leaf (q.1 prog w _ Q h), fun h => wpB_leaf (q.2 prog w _ Q h)⟩
  cases x with
  | bool c =>
    refine ob_el (show (asBool y).bind _ = some t from e) fun d e2 e => ha.bool_k (hb.asBool_k e2 ?_)
    rw [← Option.some.inj e]
    exact ⟨fun h => wpB_leaf (PyProof.Rows.eq_bool h), fun h => wpB_leaf (PyProof.Rows.ne_bool h)⟩
  | int i =>
    refine ob_el (show (asInt y).bind _ = some t from e) fun j e2 e => ha.int_k fun k => hb.asInt_k e2 fun u => ?_
    rw [← Option.some.inj e, ← beq_dec]
    exact ⟨fun h => wpB_leaf (PySem.P.eq_int h), fun h => wpB_leaf (PySem.P.ne_int h)⟩
  | str l =>
    refine ob_el (show (asStr y).bind _ = some t from e) fun l' e2 e => ha.str_k fun u k e1 => hb.asStr_k e2 fun v k' e2 => ?_
    rw [← Option.some.inj e, ← beq_s e1 e2]
    exact ⟨fun h => wpB_leaf (PySem.P.eq_str h), fun h => wpB_leaf (PySem.P.ne_str h)⟩
  | bytes l =>
    refine ob_el (show (asByt y).bind _ = some t from e) fun l' e2 e => ha.bytes_k fun u k e1 => hb.asByt_k e2 fun v k' e2 => ?_
    rw [← Option.some.inj e, ← beq_b e1 e2]
    exact ⟨fun h => wpB_leaf (PySem.W.eq_bytes h), fun h => wpB_leaf (PySem.W.ne_bytes h)⟩
  | _ => exact lst e
@[elab_as_elim] theorem intsB_k {G : Value → Value → Prop} {f : Int → Int → Bool} {t : Bool} (e : intsB x y f = some t) (ha : Is s.heap γ a x) (hb : Is s.heap γ b y) (H : ∀ i j p q, f i j = t → G (.int i p) (.int j q)) : G a b :=
  ob_el (show (asInt x).bind _ = some t from e) fun i e1 e => ob_el e fun j e2 e => ha.asInt_k e1 fun p => hb.asInt_k e2 fun q => H i j p q (Option.some.inj e)
theorem leaf_cmp {o : COp} {t : Bool} (e : cmpv led o x y = some t) (ha : Is s.heap γ a x) (hb : Is s.heap γ b y) (L : LedIs s.heap γ led) (hu : A.units < cLine)
    (h : ∀ s', Ext P s s' → Q (.bool t) s') : wpB (model prog w) A (compareOp (copn o) a b) Q s := by
  have h0 := h s (Ext.refl _)
  clear h
  cases o with
  | eq => exact (leaf_eq e ha hb L hu).1 h0
  | ne => exact om_el (show (cmpEq led x y).map _ = some t from e) fun t' e1 e => (leaf_eq e1 ha hb L hu).2 (e ▸ h0)
  | lt => exact intsB_k e ha hb fun i j p q e => wpB_leaf (PySem.P.lt_int (e ▸ h0))
  | le =>
    cases x with
    | str l =>
      refine ob_el (show (asStr y).bind _ = some t from e) fun l' e2 e => ha.str_k fun u k e1 => hb.asStr_k e2 fun v k' e2 => wpB_leaf (PySem.P.le_str ?_)
      rw [e1, e2, ltList]; exact Option.some.inj e ▸ h0
    | int i0 => exact intsB_k (show intsB (.int i0) y (fun i j => decide (i ≤ j)) = some t from e) ha hb fun i j p q e => wpB_leaf (PySem.P.le_int (e ▸ h0))
    | _ => exact no_some e
  | gt =>
    cases x with
    | str l =>
      refine ob_el (show (asStr y).bind _ = some t from e) fun l' e2 e => ha.str_k fun u k e1 => hb.asStr_k e2 fun v k' e2 => wpB_leaf (PySem.P.gt_str ?_)
      rw [e1, e2, ltList]; exact Option.some.inj e ▸ h0
    | int i0 => exact intsB_k (show intsB (.int i0) y (fun i j => decide (j < i)) = some t from e) ha hb fun i j p q e => wpB_leaf (PySem.P.gt_int (e ▸ h0))
    | _ => exact no_some e
  | ge => exact intsB_k e ha hb fun i j p q e => wpB_leaf (PySem.P.ge_int (e ▸ h0))
  | isin =>
    refine ob_el (show (asStr x).bind _ = some t from e) fun l q1 e => ha.asStr_k q1 fun u k e1 => ?_
    cases y with
    | str l' =>
      refine ob_el (show (one1 l).bind _ = some t from e) fun c q2 e => hb.str_k fun v k' e2 => wpB_leaf (PySem.P.in_str ?_)
      rw [str_eq (e1.trans (one1_inv q2)) (v := ⟨#[c]⟩) rfl, StrLaws.found_one, e2, ← List.elem_eq_mem, List.elem_eq_contains]; exact Option.some.inj e ▸ h0
    | tup xs =>
      refine if_el (show (if xs.all isStr then some (xs.any fun p => pvEq p (.str l)) else none) = some t from e) fun hall e => hb.tup_k fun r vs hl hx hf => ?_
      have hk : ∀ v x, x ∈ xs → Is s.heap γ v x → txtEq u v = pvEq x (.str l) := fun v x hm =>
        isStr_k x (List.all_eq_true.mp hall x hm) fun l2 hv => hv.str_k fun v' k2 e2 => decide_eq_decide.mpr ⟨fun q => e2 ▸ e1 ▸ congrArg (fun u : Str => u.cps.toList) q, fun q => str_eq e2 (q ▸ e1)⟩
      refine wpB_leaf (SeqAt.in_tupleAt (txtEq u) hl (fun v hv => ?_) (by rw [← Array.any_toList, any_is hx hk]; exact e ▸ h0))
      obtain ⟨x, hm, hv'⟩ := hx.mem (Array.mem_toList_iff.mpr hv)
      rw [hk v x hm hv']
      exact eqAt_of hv' (.str u k l e1) (.inr (.inl ⟨List.all_eq_true.mp hall x hm, rfl⟩)) s A.in1
    | _ => exact no_some e
  | notin =>
    refine ob_el (show (asStr x).bind _ = some t from e) fun l q1 e => ob_el e fun c q2 e => ob_el e fun l' q3 e => ha.asStr_k q1 fun u k e1 => hb.asStr_k q3 fun v k' e2 => wpB_leaf (PySem.P.notIn_str ?_)
    rw [str_eq (e1.trans (one1_inv q2)) (v := ⟨#[c]⟩) rfl, StrLaws.found_one, e2, ← List.elem_eq_mem, List.elem_eq_contains]; exact Option.some.inj e ▸ h0
  | is =>
    refine ob_el (show (asInt x).bind _ = some t from e) fun i q1 e => if_el e fun hn e => ha.asInt_k q1 fun k => ?_
    revert hb
    exact isNone_k y hn fun hb => hb.none_k (wpB_leaf (PyProof.Rows.is_int_none (e ▸ h0)))
end
end Mine
namespace Mine
open _root_.PySem _root_.PySem.Calls _root_.PySem.W _root_.PyProof.Rows

section
variable {prog : Program} {w : World} {A : Around} {s : Shared} {P : Addr} {γ : List Addr} {led : List PObj} {a b : Value} {x y z : PV} {Q : Value → Shared → Prop}

theorem pyIdx_some {i : Int} {n k : Nat} (h : pyIdx i n = some k) : (0 ≤ i ∧ i < n ∧ k = i.toNat) ∨ (i < 0 ∧ -(n : Int) ≤ i ∧ k = (i + n).toNat) := by
  unfold pyIdx at h
  by_cases q : 0 ≤ i ∧ i < n
  · rw [if_pos q] at h; exact .inl ⟨q.1, q.2, (Option.some.inj h).symm⟩
  · rw [if_neg q] at h; exact if_el h fun q e => .inr ⟨q.1, q.2, e.symm⟩
theorem pyIdx_lo {i : Int} {n k : Nat} (h : pyIdx i n = some k) : -(n : Int) ≤ i ∧ i < n := (pyIdx_some h).elim (fun q => ⟨by (first | lia | omega), q.2.1⟩) fun q => ⟨q.2.1, by (first | lia | omega)⟩
theorem seqIndex_py {i : Int} {n k : Nat} (h : pyIdx i n = some k) : seqIndex? i n = some k := by
  rcases pyIdx_some h with ⟨h0, h1, rfl⟩ | ⟨h0, h1, rfl⟩
  · have hn : ¬ i < 0 := Int.not_lt.mpr h0
    simp [seqIndex?, hn, h0, h1]
  · exact seqIndex_neg h0 h1
theorem getA {α : Type} {a : Array α} {l : List α} (e : a.toList = l) (k : Nat) : a[k]? = l[k]? := e ▸ Array.getElem?_toList.symm

theorem item_list {l : Addr} {vs : Array Value} {xs : List PV} {i : Int} {t : Tok} (hl : s.heap.IsList l vs) (hx : IsAll s.heap γ vs.toList xs) (hb : xs.length ≤ big)
    (e : ((pyIdx i xs.length).bind fun k => xs[k]?) = some z) (h : ∀ v s', Ext P s s' → Is s'.heap γ v z → Q v s') : ItemOn (model prog w) A (fun _ _ => False) (.ref l) (.int i t) Q s := by
  obtain ⟨k, e1, e2⟩ := Option.bind_eq_some_iff.mp e
  obtain ⟨v, e3, hv⟩ := hx.get e2
  have hn := hx.length
  rw [Array.length_toList] at hn
  rw [Array.getElem?_toList] at e3
  unfold big at hb
  refine ⟨"list", _, list_getitem_lookup, hl.typeIs, ?_⟩
  rcases pyIdx_some e1 with ⟨h0, h1, rfl⟩ | ⟨h0, h1, rfl⟩
  · exact wpAny_getItem_list hl h0 (by (first | lia | omega)) e3 (h _ _ (Ext.refl _) hv)
  · exact wpAny_getItem_list_neg hl h0 (by (first | lia | omega)) (by (first | lia | omega)) (by rw [hn]; exact e3) (h _ _ (Ext.refl _) hv)

theorem leaf_idx (e : idxv led x y = some z) (ha : Is s.heap γ a x) (hb : Is s.heap γ b y) (L : LedIs s.heap γ led)
    (h : ∀ v s', Ext P s s' → Is s'.heap γ v z → Q v s') : ItemOn (model prog w) A (fun _ _ => False) a b Q s := by
  refine ob_el (show (asInt y).bind _ = some z from e) fun i e1 e => hb.asInt_k e1 fun t => ?_
  have lst : ((listOf led x).bind fun xs => if xs.length ≤ big then (pyIdx i xs.length).bind fun k => xs[k]? else Option.none) = some z → ItemOn (model prog w) A (fun _ _ => False) a (.int i t) Q s :=
    fun e => ob_el e fun xs e1 e => it_el e fun hb e => listOf_k L ha e1 fun l vs hl hx hz => item_list hl.isList hx hb e h
  clear e1 hb
  cases x with
  | str l =>
    refine it_el (show (if l.length ≤ big then _ else _) = some z from e) fun hb e => ob_el e fun j e1 e => om_el e fun c e2 e => ha.str_k fun u k el =>
      ⟨"str", _, PySem.F.slot_str_getitem.lookup, typeIs_str _ _ _, PySem.P.getItem_str (c := c) ?_ ?_ (h _ _ Ext.toks (e ▸ .str _ _ _ rfl))⟩
    · have q := pyIdx_lo e1
      unfold big at hb
      rw [decide_eq_false (by (first | lia | omega)), decide_eq_false (by (first | lia | omega))]; rfl
    · rw [cps_len el, seqIndex_py e1]
      exact (getA el j).trans e2
  | bytes l =>
    refine it_el (show (if l.length ≤ big then _ else _) = some z from e) fun hb e => ob_el e fun j e1 e => om_el e fun c e2 e => ha.bytes_k fun u k el => ?_
    rw [← el, List.getElem?_map] at e2
    refine om_el e2 fun d e3 e4 => ⟨"bytes", _, FB.slot_bytes_getitem.lookup, typeIs_bytes _ _ _, getItem_gives (typeIs_bytes s _ k) (by decide) FB.slot_bytes_getitem FB.entry_bytes_getitem (FB.args_bytes_getitem_2 _ _) (gives_bytes_getitem _ i k t d ?_ ?_) (h _ _ Ext.toks (e ▸ e4 ▸ .int _ _))⟩
    · have q := pyIdx_lo e1
      unfold big at hb
      simp only [Builtin.Bytes.fitsIndex, Bool.and_eq_true, decide_eq_true_eq]
      (first | lia | omega)
    · rw [u8_len el, seqIndex_py e1]
      exact Array.getElem?_toList.symm.trans e3
  | tup xs =>
    refine it_el (show (if xs.length ≤ big then _ else _) = some z from e) fun hb e => ob_el e fun k e1 e2 => ha.tup_k fun r vs hl hx hf => ?_
    obtain ⟨v, e3, hv⟩ := hx.get e2
    have hn := hx.length
    rw [Array.length_toList] at hn
    rw [Array.getElem?_toList] at e3
    have q := pyIdx_lo e1
    unfold big at hb
    exact ⟨"tuple", _, PyProof.Rows.slot_tuple_getitem.lookup, let ⟨o, h1, h2, _⟩ := hl; ⟨o, h1, h2⟩, PyProof.Rows.getItem_tuple (j := k) hl (by (first | lia | omega)) (by (first | lia | omega)) (by rw [hn]; exact seqIndex_py e1) e3 (h _ _ (Ext.refl _) hv)⟩
  | _ => exact lst e

/-! slices -/
noncomputable def clipO (dflt n : Nat) (p : Option Int) : Nat := p.elim dflt (clipAt n)
theorem tn0 (x : Int) : (max 0 x).toNat = x.toNat := by
  by_cases h : 0 ≤ x
  · rw [Int.max_eq_right h]
  · rw [Int.max_eq_left (Int.le_of_not_le h)]; exact (Int.toNat_of_nonpos (Int.le_of_not_le h)).symm
theorem clip_at (n : Nat) (i : Int) : clipAt n i = if i < 0 then (i + n).toNat else min i.toNat n := by
  refine (tn0 _).trans ?_
  by_cases q : i < 0
  · rw [if_pos q, if_pos q, Int.min_eq_left (show i + n ≤ n by (first | lia | omega))]
  · rw [if_neg q, if_neg q]
    by_cases h : i ≤ n
    · rw [Int.min_eq_left h, Nat.min_eq_left (Int.toNat_le.mpr h)]
    · have h := Int.le_of_not_le h
      rw [Int.min_eq_right h, Nat.min_eq_right (Int.toNat_natCast n ▸ Int.toNat_le_toNat h), Int.toNat_natCast]
theorem clipO_le {dflt n : Nat} (hd : dflt ≤ n) (p : Option Int) : clipO dflt n p ≤ n := by
  cases p with
  | none => exact hd
  | some i => exact Int.toNat_le.mpr (Int.max_le.mpr ⟨Int.natCast_nonneg n, Int.min_le_right _ _⟩)
theorem cut_eq {α : Type} (lo hi : Nat) (l : List α) : (l.drop lo).take (hi - lo) = cut lo hi l := (List.drop_take ..).symm
theorem all_cut {α : Type} {p : α → Bool} {l : List α} (h : l.all p = true) {lo hi : Nat} : (cut lo hi l).all p = true := by
  rw [List.all_eq_true] at h ⊢
  exact fun x hx => h x (List.mem_of_mem_take (List.mem_of_mem_drop hx))
theorem IsAll.cut {h : Heap} {vs : List Value} {xs : List PV} (a : IsAll h γ vs xs) (lo hi : Nat) : IsAll h γ (cut lo hi vs) (cut lo hi xs) := (a.take hi).drop lo

theorem Is.push {h : Heap} {o : Obj} {v : Value} (T : TabIs P h) (hv : Is h γ v x) : Is (h.push o) γ v x := hv.ext T (.of_keep fun _ _ e => Heap.get?_push_of_some _ e)
theorem sliceMade_eq (u : Str) (t : Tok) (l r : Option (Int × Tok)) (R : Value → Shared → Prop) (s : Shared) (hsz : u.length ≤ big)
    (h : ∀ t' s', s'.heap = s.heap → s'.os = s.os → s'.gens = s.gens → s' = { s with toks := s'.toks } → R (.str ⟨(cut (clipO 0 u.length (l.map (·.1))) (clipO u.length u.length (r.map (·.1))) u.cps.toList).toArray⟩ t') s') : (sliceMade u t l r none).post R s := by
  have hp : slicePicked u l r none = (List.range (clipO u.length u.length (r.map (·.1)) - clipO 0 u.length (l.map (·.1)))).map (clipO 0 u.length (l.map (·.1)) + ·) := by
    rw [← sliceRange_one]
    unfold slicePicked
    have e := sliceBounds_plain (l.map (·.1)) (r.map (·.1)) u.length
    have e1 := congrArg (·.1) e
    have e2 := congrArg (·.2.1) e
    show Builtin.Str.strSliceIndices (l.map (·.1)) (r.map (·.1)) 1 u.length = sliceRange (clipO 0 u.length (l.map (·.1))) (clipO u.length u.length (r.map (·.1))) 1
    exact (congrArg (sliceRange · _ 1) e1).trans (congrArg (sliceRange _ · 1) e2)
  have hle := clipO_le (dflt := u.length) (Nat.le_refl u.length) (r.map (·.1))
  have hpick : ((slicePicked u l r none).filterMap (u.cps[·]?)) = cut (clipO 0 u.length (l.map (·.1))) (clipO u.length u.length (r.map (·.1))) u.cps.toList := by
    rw [hp, pick_run, cut_eq]
  have hl : u.cps.toList.length = u.length := Array.length_toList
  unfold sliceMade
  by_cases hc : ((Option.map (fun x : Int × Tok => x.fst) none).getD 1 == 1 && (slicePicked u l r none).length == u.length) = true
  · rw [if_pos hc]
    have hlen := eq_of_beq (Bool.and_eq_true_iff.mp hc).2
    rw [hp, List.length_map, List.length_range] at hlen
    have e : (cut (clipO 0 u.length (l.map (·.1))) (clipO u.length u.length (r.map (·.1))) u.cps.toList) = u.cps.toList := by
      rw [← cut_eq, hlen]
      have hlo : clipO 0 u.length (l.map (·.1)) = 0 ∨ u.length = 0 := by (first | lia | omega)
      rcases hlo with q | q
      · rw [q, List.drop_zero, List.take_of_length_le (Nat.le_of_eq hl)]
      · rw [List.length_eq_zero_iff.mp (hl.trans q), List.drop_nil, List.take_nil]
    have := h t s rfl rfl rfl rfl
    rw [e] at this
    exact this
  · rw [if_neg hc]
    refine ⟨?_, ?_⟩
    · show (_ : Array Nat).size ≤ sizeLine
      rw [hpick, List.size_toArray, sizeLine_eq]
      refine Nat.le_trans (Nat.le_trans (Nat.le_trans (List.drop_sublist _ _).length_le (List.length_take_le _ _)) (Nat.le_trans hle hsz)) (by decide)
    · rw [hpick]
      exact h _ { s with toks := s.toks + 1 } rfl rfl rfl rfl

@[elab_as_elim] theorem part_k {G : Value → Prop} {h : Heap} {dflt n m : Nat} (ha : Is h γ a x) (e : clip dflt n x = some m) (H : ∀ p : Option (Int × Tok), IsPart (partValue p) (p.map (·.1)) → clipO dflt n (p.map (·.1)) = m → G (partValue p)) : G a := by
  cases x with
  | none => exact ha.none_k (H none .none (Option.some.inj e))
  | int i => exact ha.int_k fun t => H (some (i, t)) (.int i t) ((clip_at n i).trans (Option.some.inj e))
  | _ => exact no_some e
theorem leaf_slice {lo hi : Value} {yl yh : PV} {R : Value → Shared → Prop} (e : slicev led x yl yh = some z) (ha : Is s.heap γ a x) (hlo : Is s.heap γ lo yl) (hhi : Is s.heap γ hi yh) (L : LedIs s.heap γ led) (T : TabIs P s.heap)
    (h : ∀ v s', Ext P s s' → Is s'.heap γ v z → R v s') :
    ItemOn (model prog w) A (fun _ _ => False) a (.ref s.heap.objs.size) R { s with heap := s.heap.push { cls := .type "slice", data := .fields #[lo, hi, .none] } } := by
  have E : ∀ {t}, Ext P s { s with heap := s.heap.push { cls := .type "slice", data := .fields #[lo, hi, .none] }, toks := t } := Ext.push
  have lst : ((listOf led x).bind fun s => (clip 0 s.length yl).bind fun a => (clip s.length s.length yh).bind fun b => if s.length ≤ big then some (PV.list (cut a b s)) else Option.none) = some z →
      ItemOn (model prog w) A (fun _ _ => False) a (.ref s.heap.objs.size) R { s with heap := s.heap.push { cls := .type "slice", data := .fields #[lo, hi, .none] } } := by
    refine fun e => ob_el e fun xs e1 e => ob_el e fun ca e2 e => ob_el e fun cb e3 e => if_el e fun hb e => listOf_k L ha e1 fun l vs hl hx hz => ?_
    revert E
    refine part_k hlo e2 fun p hp e2 => part_k hhi e3 fun q hq e3 E => ?_
    have hn := hx.length
    rw [Array.length_toList] at hn
    refine ⟨"list", _, list_getitem_lookup, (hl.isList.push _).typeIs, wpAny_getItem_list_slice (st := none) (hl.isList.push _) (Heap.IsSliceOf.new ..) hp hq .none nofun ?_ (by rw [hn, sizeLine_eq]; exact Nat.le_trans hb (by decide))⟩
    refine h _ _ (E.trans (Ext.push (t := s.toks))) (e ▸ .list _ _ _ (fun hm => ?_) ⟨_, Heap.get?_push_size _ rfl⟩ ?_ (all_cut hz))
    · obtain ⟨ob, e, _⟩ := L.live hm
      have := Heap.lt_size e
      rw [Heap.size_push] at this
      exact absurd this (Nat.not_lt_of_le (Nat.le_succ _))
    · rw [slicePick_plain, hn, List.toList_toArray, cut_eq]
      exact e2 ▸ e3 ▸ ((hx.cut _ _).ext T (E (t := s.toks)).keep).ext (T.ext (E (t := s.toks))) (.of_keep fun _ _ e => Heap.get?_push_of_some _ e)
  cases x with
  | str l =>
    refine ob_el (show (clip 0 l.length yl).bind _ = some z from e) fun ca e2 e => ob_el e fun cb e3 e => if_el e fun hb e => ha.str_k fun u t el => ?_
    clear lst
    revert E
    refine part_k hlo e2 fun p hp e2 => part_k hhi e3 fun q hq e3 E => ?_
    have hn := cps_len el
    refine ⟨"str", _, PySem.F.slot_str_getitem.lookup, typeIs_str _ _ _, wpAny_getItem_str_slice (l := p) (u := q) (st := none) ⟨_, Heap.get?_push_size _ rfl, rfl, rfl⟩ rfl (sliceMade_eq u t p q _ _ (hn ▸ hb) fun t' s' k1 k2 k3 k4 => ?_)⟩
    refine h _ _ (k4 ▸ E.trans Ext.toks) (e ▸ .str _ _ _ ?_)
    rw [List.toList_toArray, el, hn, e2, e3]
  | bytes l =>
    refine ob_el (show (clip 0 l.length yl).bind _ = some z from e) fun ca e2 e => ob_el e fun cb e3 e => if_el e fun hb e => ha.bytes_k fun u t el => ?_
    clear lst
    revert E
    refine part_k hlo e2 fun p hp e2 => part_k hhi e3 fun q hq e3 E => ?_
    have hn := u8_len el
    refine ⟨"bytes", _, FB.slot_bytes_getitem.lookup, typeIs_bytes _ _ _, getItem_meets (typeIs_bytes _ _ _) (by decide) FB.slot_bytes_getitem FB.entry_bytes_getitem (FB.args_bytes_getitem_2 _ _) (KBc.meets_slice2 u t _ hp hq)
      ⟨Heap.IsSliceOf.new _ _ _ _, Nat.le_trans (KBc.size_picked_le u _ _) (by rw [hn, sizeLine_eq]; exact Nat.le_trans hb (by decide)), fun t' k => h _ _ (E.trans Ext.toks) (e ▸ .bytes _ _ _ ?_)⟩⟩
    rw [KBc.picked_eq, List.toList_toArray, cut_eq, hn]
    show (cut (clipO 0 l.length _) (clipO l.length l.length _) u.toList).map UInt8.toNat = _
    rw [e2, e3]
    unfold cut
    rw [List.map_drop, List.map_take, el]
  | _ => exact lst e
end
end Mine
namespace Mine
open _root_.PySem _root_.PySem.Calls _root_.PySem.W _root_.PyProof.Rows

/-! ### Rules of wpB for the forms of expressions -/
structure Room (d : Nat) (A : Around) : Prop where
  handled : A.handled = none
  depth : A.depth + 4 * d ≤ 600
  units : A.units + 32 * d ≤ 9000
theorem Room.in1 {d : Nat} {A : Around} (r : Room d A) (h : 1 ≤ d) : Room (d - 1) A.in1 := ⟨r.handled, by have := r.depth; show A.depth + _ ≤ _; (first | lia | omega), by have := r.units; show A.units + 1 + _ ≤ _; (first | lia | omega)⟩

section
variable {prog : Program} {w : World} {A : Around} {s : Shared} {env : Env}

theorem wpB_Name_local {n : Str} {pos : Pos} {m : Str → Option Value} {v : Value} {Q : Value → Shared → Prop} (hk : env.scope.kind = .function) (hl : env.kindOf n = some .local) (hn : s.heap.Ns env.locals m) (hv : m n = some v)
    (hd : (n == ("__debug__" : Str)) = false) (h : Q v s) : wpB (model prog w) A (eval (.Name n pos) env) Q s := wpB_leaf (wpAny_Name (wpAny_loadName_local hk hl hn hv h) hd)
theorem wpB_Name_cell {n : Str} {pos : Pos} {c : Addr} {v : Value} {Q : Value → Shared → Prop} (hk : env.scope.kind = .function) (hl : env.kindOf n = some .cell) (hc : env.cells.lookup n = some c) (hv : s.heap.IsCell c (some v))
    (hd : (n == ("__debug__" : Str)) = false) (h : Q v s) : wpB (model prog w) A (eval (.Name n pos) env) Q s := wpB_leaf (wpAny_Name (wpAny_loadName_cell hk hl hc hv h) hd)

theorem wpB_BinOp {l r : Expr} {op : Operator} {pos : Pos} {Q : Value → Shared → Prop}
    (h : wpB (model prog w) A (eval l env) (fun a s₁ => wpB (model prog w) A (eval r env) (fun b s₂ => wpB (model prog w) A (binaryOp op a b) Q s₂) s₁) s) : wpB (model prog w) A (eval (.BinOp l op r pos) env) Q s := by
  rw [arm_eval_BinOp]
  exact wpB_bindm h fun a s₁ h₁ => wpB_bind (wpB_holding (wpB_mono h₁ fun b s₂ h₂ => wpB_bind (wpB_standAt (wpB_operate h₂))))
theorem wpB_Not {x : Expr} {pos : Pos} {Q : Value → Shared → Prop}
    (h : wpB (model prog w) A (eval x env) (fun a s₁ => wpB (model prog w) A (truthy a) (fun b s₂ => Q (.bool !b) s₂) s₁) s) : wpB (model prog w) A (eval (.UnaryOp .Not x pos) env) Q s := by
  rw [arm_eval_UnaryOp]
  refine wpB_bindm h fun a s₁ h₁ => wpB_bind (wpB_standAt (wpB_holding ?_))
  unfold unaryOp
  refine wpB_holding ?_
  show wpB _ _ (truthy a >>= fun b => pure (Value.bool !b)) _ _
  exact wpB_bindm h₁ fun b s₂ h₂ => wpB_pure h₂
theorem wpB_Neg {i : Int} {k : Nat} {p pos : Pos} {Q : Value → Shared → Prop} (h : ∀ t u, Q (.int (-i) t) { s with toks := u }) :
    wpB (model prog w) A (eval (.UnaryOp .USub (.Constant (.int i) k p) pos) env) Q s := by
  exact wpB_leaf (wpAny_UnaryOp (wpAny_Constant_int (PySem.P.neg_int (h _ _))))
theorem wpB_BoolOp {x y : Expr} {op : BoolOp} {pos : Pos} {Q : Value → Shared → Prop}
    (h : wpB (model prog w) A (eval x env) (fun a s₁ => wpB (model prog w) A (truthy a) (fun t s₂ => if (match op, t with | .And, false => true | .Or, true => true | _, _ => false) = true then Q a s₂ else wpB (model prog w) A (eval y env) Q s₂) s₁) s) :
    wpB (model prog w) A (eval (.BoolOp op [x, y] pos) env) Q s := by
  rw [arm_eval_BoolOp]
  show wpB _ _ (do let v ← eval x env; standAt pos; let t ← holding [v] (truthy v); match op, t with | .And, false | .Or, true => pure v | _, _ => eval y env) _ _
  refine wpB_bindm h fun a s₁ h₁ => wpB_bind (wpB_standAt (wpB_bind (wpB_holding (wpB_mono h₁ fun t s₂ h₂ => ?_))))
  cases op <;> cases t <;> first | exact wpB_pure h₂ | exact h₂
theorem wpB_IfExp {c a b : Expr} {pos : Pos} {Q : Value → Shared → Prop}
    (h : wpB (model prog w) A (isTrue c env (eval c env)) (fun t s₁ => match t with | true => wpB (model prog w) A (eval a env) Q s₁ | false => wpB (model prog w) A (eval b env) Q s₁) s) : wpB (model prog w) A (eval (.IfExp c a b pos) env) Q s := by
  rw [arm_eval_IfExp]
  refine wpB_bindm h fun t s₁ h₁ => ?_
  cases t <;> exact h₁
theorem wpB_Compare1 {l r : Expr} {op : CmpOp} {pos : Pos} {Q : Value → Shared → Prop} (hm : behindInMarks op r = false)
    (h : wpB (model prog w) A (eval l env) (fun a s₁ => wpB (model prog w) A (eval r env) (fun b s₂ => wpB (model prog w) A (compareOp op a b) Q s₂) s₁) s) : wpB (model prog w) A (eval (.Compare l [op] [r] pos) env) Q s := by
  rw [arm_eval_Compare]
  refine wpB_bindm h fun a s₁ h₁ => ?_
  show wpB _ _ (do let rv ← holding [a] (markedBehindIn op r (eval r env)); standAt pos; operate [a, rv] (compareOp op a rv)) _ _
  rw [markedBehindIn_of_false hm]
  exact wpB_bind (wpB_holding (wpB_mono h₁ fun b s₂ h₂ => wpB_bind (wpB_standAt (wpB_operate h₂))))
theorem wpB_Compare2 {l m r : Expr} {op op' : CmpOp} {pos : Pos} {Q : Value → Shared → Prop} (hm : behindInMarks op' r = false)
    (h : wpB (model prog w) A (eval l env) (fun a s₁ => wpB (model prog w) A (eval m env) (fun b s₂ => wpB (model prog w) A (compareOp op a b) (fun c s₃ => wpB (model prog w) A (truthy c) (fun t s₄ => match t with
      | true => wpB (model prog w) A (eval r env) (fun d s₅ => wpB (model prog w) A (compareOp op' b d) Q s₅) s₄
      | false => Q c s₄) s₃) s₂) s₁) s) : wpB (model prog w) A (eval (.Compare l [op, op'] [m, r] pos) env) Q s := by
  rw [arm_eval_Compare]
  refine wpB_bindm h fun a s₁ h₁ => ?_
  show wpB _ _ (do
    let rv ← holding [a] (eval m env)
    standAt pos
    let c ← holding [a, rv] (compareOp op a rv)
    release [a, rv] [c]
    if ← holding [c, rv] (truthy c) then (do let r2 ← holding [rv] (markedBehindIn op' r (eval r env)); standAt pos; operate [rv, r2] (compareOp op' rv r2)) else pure c) _ _
  rw [markedBehindIn_of_false hm]
  refine wpB_bind (wpB_holding (wpB_mono h₁ fun b s₂ h₂ => wpB_bind (wpB_standAt (wpB_bind (wpB_holding (wpB_mono h₂ fun c s₃ h₃ => wpB_bind (wpB_release (wpB_bind (wpB_holding (wpB_mono h₃ fun t s₄ h₄ => ?_))))))))))
  cases t with
  | false => exact wpB_pure h₄
  | true => exact wpB_bind (wpB_holding (wpB_mono h₄ fun d s₅ h₅ => wpB_bind (wpB_standAt (wpB_operate h₅))))

/-! in a test's place -/
theorem wpB_isTrue_plain {e : Expr} {Q : Bool → Shared → Prop} (hs : isTrue e env (eval e env) = (do let v ← eval e env; standAt e.pos; holding [v] (truthy v)))
    (h : wpB (model prog w) A (eval e env) (fun v s₁ => wpB (model prog w) A (truthy v) Q s₁) s) : wpB (model prog w) A (isTrue e env (eval e env)) Q s := by
  rw [hs]
  exact wpB_bindm h fun v s₁ h₁ => wpB_bind (wpB_standAt (wpB_holding h₁))
theorem wpB_isTrue_Not {x : Expr} {pos : Pos} {y : Sem Value} {Q : Bool → Shared → Prop} (h : wpB (model prog w) A (isTrue x env (eval x env)) (fun b s₁ => Q (!b) s₁) s) : wpB (model prog w) A (isTrue (.UnaryOp .Not x pos) env y) Q s := by
  rw [arm_isTrue_UnaryOp]
  exact wpB_bindm h fun b s₁ h₁ => wpB_pure h₁
theorem wpB_isTrue_BoolOp {x z : Expr} {op : BoolOp} {pos : Pos} {y : Sem Value} {Q : Bool → Shared → Prop}
    (h : wpB (model prog w) A (isTrue x env (eval x env)) (fun t s₁ => if (match op, t with | .And, false => true | .Or, true => true | _, _ => false) = true then Q t s₁ else wpB (model prog w) A (isTrue z env (eval z env)) Q s₁) s) :
    wpB (model prog w) A (isTrue (.BoolOp op [x, z] pos) env y) Q s := by
  rw [arm_isTrue_BoolOp, arm_allTrue_cons]
  refine wpB_bindm h fun t s₁ h₁ => ?_
  have tail : ∀ {Q : Bool → Shared → Prop}, wpB (model prog w) A (isTrue z env (eval z env)) Q s₁ → wpB (model prog w) A (allTrue op [z] env) Q s₁ := by
    intro Q h
    rw [arm_allTrue_cons]
    refine wpB_bindm h fun t s₂ h₂ => ?_
    cases op <;> cases t <;> exact wpB_pure h₂
  cases op <;> cases t <;> first | exact wpB_pure h₁ | exact tail h₁
theorem wpB_isTrue_IfExp {c a b : Expr} {pos : Pos} {y : Sem Value} {Q : Bool → Shared → Prop}
    (h : wpB (model prog w) A (isTrue c env (eval c env)) (fun t s₁ => match t with | true => wpB (model prog w) A (isTrue a env (eval a env)) Q s₁ | false => wpB (model prog w) A (isTrue b env (eval b env)) Q s₁) s) : wpB (model prog w) A (isTrue (.IfExp c a b pos) env y) Q s := by
  rw [arm_isTrue_IfExp]
  refine wpB_bindm h fun t s₁ h₁ => ?_
  cases t <;> exact h₁
theorem wpB_isTrue_Compare1 {l r : Expr} {op : CmpOp} {pos : Pos} {y : Sem Value} {Q : Bool → Shared → Prop} (hm : behindInMarks op r = false)
    (h : wpB (model prog w) A (eval l env) (fun a s₁ => wpB (model prog w) A (eval r env) (fun b s₂ => wpB (model prog w) A (compareOp op a b) (fun c s₃ => wpB (model prog w) A (truthy c) Q s₃) s₂) s₁) s) : wpB (model prog w) A (isTrue (.Compare l [op] [r] pos) env y) Q s := by
  rw [arm_isTrue_Compare]
  refine wpB_bindm h fun a s₁ h₁ => ?_
  show wpB _ _ (do let rv ← holding [a] (markedBehindIn op r (eval r env)); standAt pos; let c ← operate [a, rv] (compareOp op a rv); holding [c] (truthy c)) _ _
  rw [markedBehindIn_of_false hm]
  exact wpB_bind (wpB_holding (wpB_mono h₁ fun b s₂ h₂ => wpB_bind (wpB_standAt (wpB_bind (wpB_operate (wpB_mono h₂ fun c s₃ h₃ => wpB_holding h₃))))))
theorem wpB_isTrue_Compare2 {l m r : Expr} {op op' : CmpOp} {pos : Pos} {y : Sem Value} {Q : Bool → Shared → Prop} (hm : behindInMarks op' r = false)
    (h : wpB (model prog w) A (eval l env) (fun a s₁ => wpB (model prog w) A (eval m env) (fun b s₂ => wpB (model prog w) A (compareOp op a b) (fun c s₃ => wpB (model prog w) A (truthy c) (fun t s₄ => match t with
      | true => wpB (model prog w) A (eval r env) (fun d s₅ => wpB (model prog w) A (compareOp op' b d) (fun c s₆ => wpB (model prog w) A (truthy c) Q s₆) s₅) s₄
      | false => Q false s₄) s₃) s₂) s₁) s) : wpB (model prog w) A (isTrue (.Compare l [op, op'] [m, r] pos) env y) Q s := by
  rw [arm_isTrue_Compare]
  refine wpB_bindm h fun a s₁ h₁ => ?_
  show wpB _ _ (do
    let rv ← holding [a] (eval m env)
    standAt pos
    let c ← holding [a, rv] (compareOp op a rv)
    release [a, rv] [c]
    if ← holding [c, rv] (truthy c) then (do let r2 ← holding [rv] (markedBehindIn op' r (eval r env)); standAt pos; let c ← operate [rv, r2] (compareOp op' rv r2); holding [c] (truthy c)) else pure false) _ _
  rw [markedBehindIn_of_false hm]
  refine wpB_bind (wpB_holding (wpB_mono h₁ fun b s₂ h₂ => wpB_bind (wpB_standAt (wpB_bind (wpB_holding (wpB_mono h₂ fun c s₃ h₃ => wpB_bind (wpB_release (wpB_bind (wpB_holding (wpB_mono h₃ fun t s₄ h₄ => ?_))))))))))
  cases t with
  | false => exact wpB_pure h₄
  | true => exact wpB_bind (wpB_holding (wpB_mono h₄ fun d s₅ h₅ => wpB_bind (wpB_standAt (wpB_bind (wpB_operate (wpB_mono h₅ fun c s₆ h₆ => wpB_holding h₆))))))

/-! items -/
set_option tactic.hygienic true in
theorem wpB_item {base slice : Expr} {o i : Value} {Q : Value → Shared → Prop} (h : ItemOn (model prog w) A (fun _ _ => False) o i Q s) :
    wpB (model prog w) A (do let r ← subscripted slice (← getitemInPython o) o i; letTemporaryGo base o r; pure r) Q s := by
  obtain ⟨T, id, hl, hT, hg⟩ := h
  have fin : ∀ vs, wpB (model prog w) A (operate vs (getItem o i)) (fun r s₃ => wpB (model prog w) A (letTemporaryGo base o r >>= fun _ => pure r) Q s₃) s := fun vs =>
    wpB_operate (wpB_mono (wpB_leaf hg) fun r s₃ h₃ => wpB_bind (wpB_leaf (wpAny_letTemporaryGo (wpB_pure h₃))))
  have key : wpB (model prog w) A (getitemInPython o) (fun b s' => b = false ∧ s' = s) s := by
    refine wpB_leaf ?_
    rw [getitemInPython_of_ne hT.not_modules]
    refine wpAny_bind (wpAny_specialOf (name := Str.ofString "__getitem__") hT hl ?_)
    exact wpAny_pure ⟨rfl, rfl⟩
  refine wpB_bindm key fun b s' hb => ?_
  obtain ⟨rfl, rfl⟩ := hb
  refine wpB_bind ?_
  unfold subscripted
  split <;> first | exact fin _ | (rename_i hc; cases hc)
theorem wpB_Subscript {value slice : Expr} {pos : Pos} {Q : Value → Shared → Prop}
    (h : wpB (model prog w) A (eval value env) (fun o s₁ => wpB (model prog w) A (eval slice env) (fun i s₂ => ItemOn (model prog w) A (fun _ _ => False) o i Q s₂) s₁) s) : wpB (model prog w) A (eval (.Subscript value slice pos) env) Q s := by
  rw [arm_eval_Subscript]
  exact wpB_bindm h fun o s₁ h₁ => wpB_bind (wpB_holding (wpB_mono h₁ fun i s₂ h₂ => wpB_bind (wpB_standAt (wpB_item h₂))))
theorem wpB_Slice {lower upper : Option Expr} {p : Pos} {Q : Value → Shared → Prop}
    (h : wpB (model prog w) A (evalPart lower env) (fun l s₁ => wpB (model prog w) A (evalPart upper env) (fun u s₂ =>
      Q (.ref s₂.heap.objs.size) { s₂ with heap := s₂.heap.push { cls := .type "slice", data := .fields #[l, u, .none] } }) s₁) s) : wpB (model prog w) A (eval (.Slice lower upper none p) env) Q s := by
  rw [arm_eval_Slice]
  refine wpB_bindm h fun l s₁ h₁ => wpB_bind (wpB_holding (wpB_mono h₁ fun u s₂ h₂ => wpB_bind (wpB_holding ?_)))
  show wpB _ _ (pure Value.none) _ _
  exact wpB_pure (wpB_leaf (wpAny_newObj_type h₂))

/-! displays and calls -/
theorem wpB_spliced_cons {x : Sem Value} {rest : List (Bool × Sem Value)} {Q : List Value → Shared → Prop}
    (h : wpB (model prog w) A x (fun v s₁ => wpB (model prog w) A (spliced rest) (fun vs s₂ => Q (v :: vs) s₂) s₁) s) : wpB (model prog w) A (spliced ((false, x) :: rest)) Q s := by
  rw [spliced]
  refine wpB_bindm h fun v s₁ h₁ => ?_
  simp only [Bool.false_eq_true, if_false]
  exact wpB_bind (wpB_pure (wpB_bind (wpB_holding (wpB_mono h₁ fun vs s₂ h₂ => wpB_pure h₂))))
theorem wpB_List {elts : List Expr} {pos : Pos} {Q : Value → Shared → Prop} (h : wpB (model prog w) A (spliced (backTo pos (starEach elts env))) (fun vs s₁ => wpB (model prog w) A (newList vs) Q s₁) s) :
    wpB (model prog w) A (eval (.List elts pos) env) Q s := by
  rw [arm_eval_List]
  exact wpB_bind (wpB_standAt (wpB_bindm h fun vs s₁ h₁ => h₁))
theorem wpB_Tuple {elts : List Expr} {k : Nat} {pos : Pos} {Q : Value → Shared → Prop} (h : wpB (model prog w) A (spliced (backTo pos (starEach elts env))) (fun vs s₁ => wpB (model prog w) A (newTuple vs) Q s₁) s) :
    wpB (model prog w) A (eval (.Tuple elts k pos) env) Q s := by
  rw [arm_eval_Tuple]
  exact wpB_bind (wpB_standAt (wpB_bindm h fun vs s₁ h₁ => h₁))

noncomputable def noStar : List Expr → Bool
  | [] => true
  | .Starred .. :: _ => false
  | _ :: r => noStar r
theorem backTo_plain {pos : Pos} : ∀ {es : List Expr}, noStar es = true → backTo pos (starEach es env) = es.map fun e => (false, eval e env)
  | [], _ => rfl
  | e :: r, h => by
    have ih := @backTo_plain pos r
    cases e <;> simp only [noStar, Bool.false_eq_true] at h <;> (simp only [starEach, backTo, List.map_cons] at ih ⊢; rw [ih h]; rfl)
theorem wpB_evalArgs {f : Value} {es : List Expr} {pos : Pos} {Q : Args → Shared → Prop} (hs : noStar es = true)
    (h : wpB (model prog w) A (spliced (backTo pos (starEach es env))) (fun vs s' => Q ⟨vs, []⟩ s') s) : wpB (model prog w) A (evalArgs f true (backTo pos (starEach es env)) (backToKw pos (keywordEach [] env))) Q s := by
  rw [backTo_plain hs] at h ⊢
  unfold evalArgs
  cases es with
  | nil =>
    show wpB _ _ (spliced [] >>= _) _ _
    refine wpB_bindm h fun vs s' h' => ?_
    refine wpB_bind (wpB_pure ?_)
    refine wpB_holding ?_
    exact wpB_bind (wpB_pure (wpB_bind (wpB_pure (wpB_pure h'))))
  | cons x r =>
    show wpB _ _ (spliced ((false, eval x env) :: r.map fun e => (false, eval e env)) >>= _) _ _
    refine wpB_bindm h fun vs s' h' => ?_
    refine wpB_bind (wpB_pure ?_)
    refine wpB_holding ?_
    exact wpB_bind (wpB_pure (wpB_bind (wpB_pure (wpB_pure h'))))
theorem any_plain {es : List Expr} {pos : Pos} (hs : noStar es = true) : (backTo pos (starEach es env)).any (·.1) = false := by
  rw [backTo_plain hs]
  induction es with
  | nil => rfl
  | cons x r ih => rw [List.map_cons, List.any_cons]; exact ih (by cases x <;> simp only [noStar, Bool.false_eq_true] at hs <;> exact hs)

/-- a call whose callee stands: built-in function, type, or a def -/
inductive Callable (h : Heap) : Value → Prop where
  | builtin (id : String) : Callable h (.builtin id)
  | type (T : String) : Callable h (.type T)
  | func (a : Addr) (o : Obj) (fd : FuncData) (ho : h.get? a = some o) (hd : o.data = .func fd) : Callable h (.ref a)
  | bfm (a : Addr) (o : Obj) (vs : Array Value) (ho : h.get? a = some o) (hd : o.data = .fields vs) (hc : o.cls = .type "builtin_function_or_method") : Callable h (.ref a)
theorem wpB_callWith {pos : Pos} {f : Value} {first : List Value} {es : List Expr} {Q : Value → Shared → Prop} (hs : noStar es = true)
    (h : wpB (model prog w) A (spliced (backTo pos (starEach es env))) (fun vs s₁ => Callable s₁.heap f ∧ wpB (model prog w) A (call f (first ++ vs)) Q s₁) s) :
    wpB (model prog w) A (callWith pos f first (backTo pos (starEach es env)) (backToKw pos (keywordEach [] env))) Q s := by
  unfold callWith
  refine wpB_bind (wpB_holding (wpB_evalArgs hs (wpB_mono h fun vs s₁ h₁ => wpB_bind (wpB_standAt ?_))))
  rw [any_plain hs]
  have tail : ∀ {t : Sem Value}, wpB (model prog w) A t Q s₁ → wpB (model prog w) A (t >>= fun r => holding [r] point >>= fun _ => pure r) Q s₁ :=
    fun ht => wpB_bind (wpB_mono ht fun r s₂ hr => wpB_bind (wpB_holding (wpB_point (wpB_pure hr))))
  obtain ⟨hc, hq⟩ := h₁
  cases hc with
  | builtin id => exact wpB_bind (wpB_pure (tail hq))
  | type T => exact wpB_bind (wpB_pure (tail hq))
  | bfm a o ws ho hd hcl =>
    have hk : wpB (model prog w) A (keeperOf (.ref a)) (fun k s' => k = .machine ∧ s' = s₁) s₁ := by
      refine wpB_leaf ?_
      unfold keeperOf
      refine wpAny_bind (wpAny_load ho ?_)
      rw [hd, hcl]
      exact wpAny_pure ⟨rfl, rfl⟩
    refine wpB_bindm hk fun k s' hks => ?_
    obtain ⟨rfl, rfl⟩ := hks
    exact tail hq
  | func a o fd ho hd =>
    have hk : wpB (model prog w) A (keeperOf (.ref a)) (fun k s' => k = .frame ∧ s' = s₁) s₁ := by
      refine wpB_leaf ?_
      unfold keeperOf
      refine wpAny_bind (wpAny_load ho ?_)
      rw [hd]
      exact wpAny_pure ⟨rfl, rfl⟩
    refine wpB_bindm hk fun k s' hks => ?_
    obtain ⟨rfl, rfl⟩ := hks
    have e0 : backToKw pos (keywordEach [] env) = [] := rfl
    rw [e0]
    simp only [Bool.false_or, List.any_nil]
    split
    · exact tail hq
    · exact tail (by unfold callMarked; exact wpB_keep hq)
theorem wpB_Call_Name {n : Str} {pn pos : Pos} {es : List Expr} {Q : Value → Shared → Prop} (hs : noStar es = true)
    (h : wpB (model prog w) A (eval (.Name n pn) env) (fun f s₁ => wpB (model prog w) A (spliced (backTo pos (starEach es env))) (fun vs s₂ => Callable s₂.heap f ∧ wpB (model prog w) A (call f vs) Q s₂) s₁) s) :
    wpB (model prog w) A (eval (.Call (.Name n pn) es [] pos) env) Q s := by
  show wpB _ _ (do callWith pos (← eval (.Name n pn) env) [] (backTo pos (starEach es env)) (backToKw pos (keywordEach [] env))) _ _
  exact wpB_bindm h fun f s₁ h₁ => wpB_callWith hs h₁

noncomputable def notCall : Expr → Bool
  | .Call (.Name ..) .. => false
  | _ => true
theorem attributeBase_plain {o : Expr} {attr : Str} {whole : Sem Value} (h : notCall o = true) : attributeBase o attr env whole = whole := by
  unfold attributeBase
  split
  · simp only [notCall, Bool.false_eq_true] at h
  · rfl

/-- a method of a built-in type -/
structure Meth (s : Shared) (ov : Value) (name : Str) (id : String) : Prop where
  at_ : ∃ T, s.TypeIs ov T ∧ PlainAttrs T ∧ Slot T name id
  ty : typeOf (.builtin id) = pure (.type "method_descriptor")
  nodict : ∀ a, ov = .ref a → ∃ ob, s.heap.get? a = some ob ∧ ob.dict = none
theorem wpB_Call_method {o : Expr} {name : Str} {apos pos : Pos} {es : List Expr} {Q : Value → Shared → Prop} (hb : notCall o = true) (hs : noStar es = true) (hlen : es.length < 20) (hline : (apos.endLine == pos.line) = true)
    (h : wpB (model prog w) A (eval o env) (fun ov s₁ => ∃ id, Meth s₁ ov name id ∧ wpB (model prog w) A (spliced (backTo pos (starEach es env))) (fun vs s₂ => wpB (model prog w) A (call (.builtin id) (ov :: vs)) Q s₂) s₁) s) :
    wpB (model prog w) A (eval (.Call (.Attribute o name apos) es [] pos) env) Q s := by
  rw [arm_eval_Call, attributeBase_plain hb]
  refine wpB_bindm h fun ov s₁ h₁ => wpB_bind (wpB_standAt ?_)
  obtain ⟨id, ⟨⟨T, hT, pa, slot⟩, hty, hd⟩, hc⟩ := h₁
  have hform : methodCallForm (es.length + ([] : List Keyword).length) (backTo pos (starEach es env)) (backToKw pos (keywordEach [] env)) = true := by
    unfold methodCallForm
    have : (backTo pos (starEach es env)).all (!·.1) = true := by
      rw [List.all_eq_true]
      intro x hx
      have := any_plain (pos := pos) (env := env) hs
      rw [List.any_eq_false] at this
      simpa using this x hx
    rw [this]
    simp only [Bool.true_and]
    show (true && decide (es.length + 0 + (if true = true then 0 else 1) < 30)) = true
    simp only [Bool.true_and, decide_eq_true_eq, if_true]; (first | lia | omega)
  have hpos : methodCallPos true o env apos pos = pure pos := by unfold methodCallPos; simp [hline]
  unfold methodCall
  rw [hform]
  refine wpB_bind (wpB_holding (wpB_leaf (getMethod_builtin hT pa slot hty hd ?_)))
  rw [hpos]
  refine wpB_bind (wpB_pure ?_)
  exact wpB_callWith (first := [ov]) hs (wpB_mono hc fun vs s₂ h₂ => ⟨.builtin id, h₂⟩)
end
end Mine
namespace Mine
open _root_.PySem _root_.PySem.Calls _root_.PySem.W _root_.PyProof.Rows

/-! ### Iterators -/
noncomputable def Steps (step : Int) : Int → List Int → Prop
  | _, [] => True
  | x, y :: r => y = x ∧ Steps step (x + step) r
inductive IterAt (h : Heap) (γ : List Addr) (it : Addr) : List PV → Prop where
  | list (l : Addr) (i : Nat) (vs : Array Value) (xs ys : List PV) (hit : h.IsListIter it l i) (hn : l ∉ γ) (hl : h.PlainList l vs) (hx : IsAll h γ vs.toList xs) (e : ys = xs.drop i) : IterAt h γ it ys
  | range (x step : Int) (l : List Int) (ys : List PV) (hit : IsRangeIter h it x l.length step) (hs : Steps step x l) (e : ys = l.map PV.int) : IterAt h γ it ys
  | str (x : Str) (t : Tok) (i : Nat) (l : List Nat) (ys : List PV) (hit : h.IsStrIter it "str_ascii_iterator" x t i) (hx : x.cps.toList = l) (e : ys = (l.drop i).map fun c => PV.str [c]) : IterAt h γ it ys

theorem fresh_size (h : Heap) : h.get? h.objs.size = none := by
  cases e : h.get? h.objs.size with
  | none => rfl
  | some o => exact absurd (Heap.lt_size e) (Nat.lt_irrefl _)

section
variable {P : Addr} {γ δ M : List Addr} {s s' : Shared} {h : Heap} {it : Addr} {l : List PV}
theorem IterAt.live (x : IterAt h γ it l) : ∃ o, h.get? it = some o ∧ ¬ valObj o ∧ noTab o := by
  have key : ∀ {T : String} {o : Obj}, o.cls = .type T → T ≠ "list" → T ≠ "tuple" → T ≠ "range" → T ≠ "builtin_function_or_method" → ¬ valObj o := by
    intro T o c n1 n2 n3 n4 h
    rcases h with ⟨_, _, _, q | q⟩ | ⟨_, _, q | q⟩ <;> (rw [c] at q; cases q) <;> contradiction
  cases x with
  | list l i vs xs ys hit => obtain ⟨o, e, c, d⟩ := hit; exact ⟨o, e, key c (by decide) (by decide) (by decide) (by decide), .cls (by rw [c]; nofun)⟩
  | range x step l ys hit => exact ⟨_, hit, key rfl (by decide) (by decide) (by decide) (by decide), .cls (by nofun)⟩
  | str x t i l ys hit => obtain ⟨o, e, c, d⟩ := hit; exact ⟨o, e, key c (by decide) (by decide) (by decide) (by decide), .cls (by rw [c]; nofun)⟩
theorem IterAt.grow (x : IterAt h γ it l) (hd : ∀ a ∈ δ, h.get? a = none) : IterAt h (γ ++ δ) it l := by
  cases x with
  | list l i vs xs ys hit hn hl hx e =>
    refine .list l i vs xs _ hit (fun hm => ?_) hl (hx.grow hd) e
    rcases List.mem_append.mp hm with q | q
    · exact hn q
    · obtain ⟨_, e⟩ := hl; rw [hd l q] at e; cases e
  | range x step l ys hit hs e => exact .range x step l _ hit hs e
  | str x t i l ys hit hx e => exact .str x t i l _ hit hx e
theorem IterAt.upd (T : TabIs P s.heap) (E : Upd P M s s') (hM : Off s.heap M γ) (hγ : Lives s.heap γ) (hi : it ∉ M) (x : IterAt s.heap γ it l) : IterAt s'.heap γ it l := by
  cases x with
  | list l i vs xs ys hit hn hl hx e =>
    obtain ⟨o, e1, c, d⟩ := hit
    obtain ⟨n, e2⟩ := hl
    refine .list l i vs xs _ ⟨o, E.keep _ _ hi (T.ne e1 (.cls (by rw [c]; nofun))) e1, c, d⟩ hn ⟨n, E.keep _ _ (fun hm => ?_) (T.ne e2 (.cls (by nofun))) e2⟩ (hx.upd T E hM hγ) e
    rcases hM l hm with q | q
    · exact hn q
    · exact q _ e2 (.inl ⟨_, _, rfl, .inl rfl⟩)
  | range x step l ys hit hs e => exact .range x step l _ (E.keep _ _ hi (T.ne hit (.cls (by nofun))) hit) hs e
  | str x t i l ys hit hx e =>
    obtain ⟨o, e1, c, d⟩ := hit
    exact .str x t i l _ ⟨o, E.keep _ _ hi (T.ne e1 (.cls (by rw [c]; nofun))) e1, c, d⟩ hx e
theorem IterAt.ext (T : TabIs P s.heap) (E : Ext P s s') (hγ : Lives s.heap γ) (x : IterAt s.heap γ it l) : IterAt s'.heap γ it l := x.upd T (E.upd (M := [])) (fun _ h => nomatch h) hγ (by simp)
end

theorem upInts_length : ∀ (n : Nat) (a : Int), (upInts a n).length = n
  | 0, _ => rfl
  | n + 1, a => by rw [upInts, List.length_cons, upInts_length n]
theorem downInts_length : ∀ (n : Nat) (a : Int), (downInts a n).length = n
  | 0, _ => rfl
  | n + 1, a => by rw [downInts, List.length_cons, downInts_length n]
theorem steps_up : ∀ (n : Nat) (a : Int), Steps 1 a (upInts a n)
  | 0, _ => trivial
  | n + 1, a => ⟨rfl, steps_up n (a + 1)⟩
theorem steps_down : ∀ (n : Nat) (a : Int), Steps (-1) a (downInts a n)
  | 0, _ => trivial
  | n + 1, a => ⟨rfl, steps_down n (a - 1)⟩

section
variable {prog : Program} {w : World} {A : Around} {s : Shared} {P : Addr} {γ : List Addr} {a : Value} {x : PV}

set_option tactic.hygienic true in
theorem range_ok {a b c : Int} {l : List Int} (e : rangeInts a b c = some l) : Builtin.Range.small a b c = true ∧ Builtin.Range.rangeSize a b c = l.length ∧ Steps c a l := by
  unfold rangeInts at e
  split at e
  · cases e
  · rename_i hb
    have hb : -ibig < a ∧ a < ibig ∧ -ibig < b ∧ b < ibig := Classical.byContradiction hb
    unfold ibig at hb
    split at e
    · rename_i hc
      subst hc
      split at e
      · rename_i hz
        cases e
        unfold big at hz
        have hs : Builtin.Range.rangeSize a b 1 = (upInts a (b - a).toNat).length := by
          rw [upInts_length]
          unfold Builtin.Range.rangeSize
          simp only [show (1 : Int) > 0 by decide, if_true, Int.ediv_one]
          split <;> (first | lia | omega)
        refine ⟨?_, hs, steps_up _ _⟩
        rw [upInts_length] at hs
        unfold Builtin.Range.small Builtin.Range.rangeFitsLong
        rw [hs]
        simp only [show (1 : Int) > 0 by decide, if_true, Bool.and_eq_true, Bool.or_eq_true, decide_eq_true_eq]
        refine ⟨⟨⟨⟨⟨by (first | lia | omega), by (first | lia | omega)⟩, by (first | lia | omega), by (first | lia | omega)⟩, by (first | lia | omega), by (first | lia | omega)⟩, by (first | lia | omega), by (first | lia | omega)⟩, .inr ⟨by (first | lia | omega), by (first | lia | omega)⟩⟩
      · cases e
    · split at e
      · rename_i hc
        subst hc
        split at e
        · rename_i hz
          cases e
          unfold big at hz
          have hs : Builtin.Range.rangeSize a b (-1) = (downInts a (a - b).toNat).length := by
            rw [downInts_length]
            unfold Builtin.Range.rangeSize
            simp only [show ¬ ((-1 : Int) > 0) by decide, if_false, show -(-1 : Int) = 1 by decide, Int.ediv_one]
            split <;> (first | lia | omega)
          refine ⟨?_, hs, steps_down _ _⟩
          rw [downInts_length] at hs
          unfold Builtin.Range.small Builtin.Range.rangeFitsLong
          rw [hs]
          simp only [show ¬ ((-1 : Int) > 0) by decide, if_false, Bool.and_eq_true, Bool.or_eq_true, decide_eq_true_eq, Bool.false_eq_true]
          refine ⟨⟨⟨⟨⟨by (first | lia | omega), by (first | lia | omega)⟩, by (first | lia | omega), by (first | lia | omega)⟩, by (first | lia | omega), by (first | lia | omega)⟩, by (first | lia | omega), by (first | lia | omega)⟩, .inr ⟨by (first | lia | omega), by (first | lia | omega)⟩⟩
        · cases e
      · cases e

theorem pyIter_ok {l : List PV} (e : iterOf x = some l) (ha : Is s.heap γ a x) (T : TabIs P s.heap) {Q : Value → Shared → Prop}
    (h : ∀ it s', Ext P s s' → s.heap.get? it = none → IterAt s'.heap γ it l → Q (.ref it) s') : wpB (model prog w) A (pyIter a) Q s := by
  cases ha with
  | list l' vs xs hn hl hx hf =>
    cases e
    refine wpB_leaf (wpAny_pyIter_list hl.isList (h _ _ (Ext.push (t := s.toks)) (fresh_size _) ?_))
    have old : ∀ b o, s.heap.get? b = some o → (s.heap.push { cls := .type "list_iterator", data := .fields #[.ref l', .int 0 0] }).get? b = some o := fun b o e => Heap.get?_push_of_some _ e
    obtain ⟨n, e⟩ := hl
    exact .list l' 0 vs l _ ⟨_, Heap.get?_push_size _ rfl, rfl, rfl⟩ hn ⟨n, old _ _ e⟩ (hx.ext T (.of_keep old)) rfl
  | range r i j k hr =>
    obtain ⟨is, e1, rfl⟩ := Option.map_eq_some_iff.mp e
    obtain ⟨hs, hz, hst⟩ := range_ok e1
    obtain ⟨t, u, v, hr⟩ := hr
    refine wpB_leaf (wpAny_pyIter_range hr hs (h _ _ (Ext.push (t := s.toks)) (fresh_size _) (.range i k is _ ?_ hst rfl)))
    rw [hz]
    exact Heap.get?_push_size _ rfl
  | str u t l' el =>
    obtain ⟨hc, rfl⟩ := if_inv e
    exact wpB_leaf (wpAny_pyIter_ascii (by rw [← Array.all_toList, el]; exact hc) (h _ _ (Ext.push (t := s.toks)) (fresh_size _) (.str u t 0 l' _ ⟨_, Heap.get?_push_size _ rfl, rfl, rfl⟩ el rfl)))
  | _ => cases e

theorem noTab_of {h : Heap} {it : Addr} {o o' : Obj} (e : h.get? it = some o) (n : noTab o) (e' : h.get? it = some o') : noTab o' := by rw [e] at e'; cases e'; exact n
/-- what is to hold behind a step of an iterator -/
noncomputable def NextK (P : Addr) (γ : List Addr) (its : List Addr) (I : Heap → List PV → Prop) (s : Shared) (Q : Option Value → Shared → Prop) (l : List PV) : Prop := match l with
  | [] => ∀ s', Upd P its s s' → Q none s'
  | x :: l => ∀ v s', Upd P its s s' → Is s'.heap γ v x → I s'.heap l → Q (some v) s'
theorem pyNext_ok {it : Addr} {l : List PV} (hh : A.handled = none) (hi : IterAt s.heap γ it l) (T : TabIs P s.heap) (hγ : Lives s.heap γ) {Q : Option Value → Shared → Prop}
    (k : NextK P γ [it] (fun h l => IterAt h γ it l) s Q l) : wpB (model prog w) A (pyNext (.ref it)) Q s := by
  obtain ⟨o, e0, hv, hnt⟩ := hi.live
  have off : Off s.heap [it] γ := fun b hb => .inr fun o' e' => by
    have := List.mem_singleton.mp hb
    subst this
    rw [e0] at e'; cases e'; exact hv
  have nt : ∀ b ∈ [it], ∀ o, s.heap.get? b = some o → noTab o := fun b hb o' e' => by
    have := List.mem_singleton.mp hb
    subst this
    exact noTab_of e0 hnt e'
  have U : ∀ {h' : Heap} {t : Nat}, Heap.ExtBut it s.heap h' → Upd P [it] s { s with heap := h', toks := t } := fun hs => Upd.of_keep T nt fun b o hb e => hs b o (by simpa using hb) e
  cases hi with
  | list l' i vs xs ys hit hn hl hx e =>
    subst e
    have hlen := hx.length
    rw [Array.length_toList] at hlen
    cases hd : xs.drop i with
    | nil =>
      have hi : xs.length ≤ i := List.drop_eq_nil_iff.mp hd
      rw [hd] at k
      exact wpB_leaf (wpAny_pyNext_list_end hh hit hl.isList (Array.getElem?_eq_none (by (first | lia | omega))) fun h' hs => k _ (U (t := s.toks) hs))
    | cons x l'' =>
      have hx0 : xs[i]? = some x := by
        have := congrArg List.head? hd
        simpa [List.head?_drop] using this
      obtain ⟨v, ev, hv'⟩ := hx.get hx0
      rw [Array.getElem?_toList] at ev
      refine wpB_leaf (wpAny_pyNext_list_item hit hl.isList ev fun h' hi' hs => ?_)
      have u : Upd P [it] s { s with heap := h', toks := s.toks } := U hs.extBut
      rw [hd] at k
      refine k v _ u (hv'.upd T u off hγ) ?_
      obtain ⟨n, e2⟩ := hl
      refine .list l' (i + 1) vs xs _ hi' hn ⟨n, hs.extBut _ _ (fun q => ?_) e2⟩ (hx.upd T u off hγ) ?_
      · subst q
        rw [e0] at e2; cases e2
        exact hv (.inl ⟨_, _, rfl, .inl rfl⟩)
      · rw [← List.drop_drop, hd]; rfl
  | range x step is ys hit hst e =>
    subst e
    cases is with
    | nil => exact wpB_leaf (wpAny_pyNext_range_end hh hit (by simp) fun h' hs => k _ (U (t := s.toks) hs))
    | cons y r =>
      obtain ⟨rfl, hst⟩ := hst
      refine wpB_leaf (wpAny_pyNext_range_item hit (by simp only [List.length_cons]; (first | lia | omega)) fun h' hi' hs => ?_)
      refine k _ _ (U hs.extBut) (.int _ _) (.range _ step r _ ?_ hst rfl)
      have : ((y :: r).length : Int) - 1 = r.length := by simp only [List.length_cons]; (first | lia | omega)
      rw [this] at hi'; exact hi'
  | str u t i l' ys hit hx e =>
    subst e
    have hlen : u.cps.size = l'.length := by rw [← hx, Array.length_toList]
    cases hd : l'.drop i with
    | nil =>
      have hi : l'.length ≤ i := List.drop_eq_nil_iff.mp hd
      rw [hd] at k
      exact wpB_leaf (wpAny_pyNext_ascii_end hh hit (Array.getElem?_eq_none (by (first | lia | omega))) fun h' hs => k _ (U (t := s.toks) hs))
    | cons c r =>
      have hx0 : l'[i]? = some c := by
        have := congrArg List.head? hd
        simpa [List.head?_drop] using this
      refine wpB_leaf (wpAny_pyNext_ascii_item hit (c := c) (by rw [getA hx]; exact hx0) fun h' hi' hs => ?_)
      rw [hd] at k
      refine k _ _ (U hs.extBut) (.str _ _ _ rfl) (.str u t (i + 1) l' _ hi' hx ?_)
      rw [← List.drop_drop, hd]; rfl
end
end Mine
namespace Mine
open _root_.PySem _root_.PySem.Calls _root_.PySem.W _root_.PyProof.Rows

/-! ### List comprehensions -/
section
variable {prog : Program} {w : World} {A : Around} {s : Shared} {env : Env}

noncomputable def compPostB (prog : Program) (w : World) (A : Around) (use : Option (Value → Sem Unit)) (Q : Value → Shared → Prop) (acc : Value) (C : Addr) (s' : Shared) : Prop :=
  match use with
  | none => ∃ m, s'.heap.Ns C m ∧ ∀ h', Heap.SameBut C s'.heap h' → Q acc { s' with heap := h' }
  | some u => wpB (model prog w) A (u acc) (fun _ s'' => ∃ m, s''.heap.Ns C m ∧ ∀ h', Heap.SameBut C s''.heap h' → Q .none { s'' with heap := h' }) s'

theorem wpB_comprehension {e : Expr} {scope : Scope} {pos : Pos} {newAcc first : Sem Value} {g : Comprehension} {gs : List Comprehension} {cl : List (Str × Addr)} {use : Option (Value → Sem Unit)} {Q : Value → Shared → Prop}
    (hcl : clausesOf e = g :: gs) (hs : ∀ x, foldedSetIterable g.iter env x = pure x) (hclos : closureFor scope env = pure cl)
    (hkind : scope.kind = .function) (hnames : ∀ x ∈ scope.names, x.2 = .local → scope.names.lookup x.1 = some .local)
    (hc : ∀ it acc cenv, cool (.compStart e 0 it acc cenv))
    (h : wpB (model prog w) A first (fun x s₁ => wpB (model prog w) A (pyIter x) (fun it s₂ => wpB (model prog w) A newAcc (fun acc s₃ =>
      wpB (model prog w) A (newFunctionEnv scope env.globals cl [] env.qual none .none (some env)) (fun cenv s₄ =>
        codeB (model prog w) A (.compStart e 0 it acc { cenv with scope := relabel scope env }) (fun _ s' => compPostB prog w A use Q acc cenv.locals s') s₄) s₃) s₂) s₁) s) :
    wpB (model prog w) A (comprehension e scope env pos newAcc false first use) Q s := by
  unfold comprehension
  rw [hclos, hcl]
  have standIf : ∀ {α : Type} {c : Prop} [Decidable c] {p : Pos} {k : PUnit → Sem α} {Q : α → Shared → Prop} {s : Shared}, wpB (model prog w) A (k ()) Q s → wpB (model prog w) A (if c then (standAt p >>= k) else k ()) Q s := by
    intro α c _ p k Q s h
    split
    · exact wpB_bind (wpB_standAt h)
    · exact h
  refine wpB_bindm h fun x s₁ h₁ => wpB_bind (wpB_standAt (wpB_bind ?_))
  show wpB _ _ (foldedSetIterable g.iter env x) _ _
  rw [hs x]
  refine wpB_pure (wpB_bind (wpB_holding (wpB_mono h₁ fun it s₂ h₂ => standIf (wpB_bind (wpB_mono h₂ fun acc s₃ h₃ => wpB_bind (wpB_pure (wpB_bind (wpB_mono h₃ fun cenv s₄ h₄ => ?_))))))))
  dsimp only
  have hv : ∀ x ∈ (scope.names.filter fun x => (x.2 == .local || x.2 == .cell) && x.1 != (".0" : Str)).reverse, x.2 = .local →
      Env.kindOf { cenv with scope := relabel scope env } x.1 = some .local := fun x hx hl => lookup_relabel_local (hnames x (List.mem_filter.mp (List.mem_reverse.mp hx)).1 hl)
  have hv' : ∀ x ∈ (scope.names.filter fun x => (x.2 == .local || x.2 == .cell) && x.1 != (".0" : Str)).reverse.drop 1 ++ (scope.names.filter fun x => (x.2 == .local || x.2 == .cell) && x.1 != (".0" : Str)).reverse.take 1,
      x.2 = .local → Env.kindOf { cenv with scope := relabel scope env } x.1 = some .local := fun x hx hl => by
    rcases List.mem_append.mp hx with h1 | h1
    · exact hv x (List.mem_of_mem_drop h1) hl
    · exact hv x (List.mem_of_mem_take h1) hl
  refine wpB_holding (wpB_bind (wpB_attempt (wpB_holding (wpB_run (hc _ _ _) (codeB_mono h₄ fun r s' hr => ?_)))))
  cases use with
  | none =>
    obtain ⟨m, hn, hr⟩ := hr
    exact wpB_bind (wpB_holding (wpB_leaf (wpAny_comp_letGo (cenv := { cenv with scope := relabel scope env }) hkind _ s' m hv hn fun h' m' _ hs' => wpB_pure (hr h' hs'))))
  | some u =>
    refine wpB_bind (wpB_rule (wpB_bind (wpB_holding (wpB_mono hr fun _ s'' hr' => ?_))))
    obtain ⟨m, hn, hr'⟩ := hr'
    exact wpB_bind (wpB_leaf (wpAny_comp_letGo (cenv := { cenv with scope := relabel scope env }) hkind _ s'' m hv' hn fun h' m' _ hs' => wpB_pure (hr' h' hs')))

theorem codeB_compStart {elt target iter : Expr} {ifs : List Expr} {rest : List Comprehension} {scope : Scope} {pos : Pos} {it acc : Value} {R : Flow → Shared → Prop}
    (h0 : codeB (model prog w) A (.compLoop (.ListComp elt (⟨target, iter, ifs, 0⟩ :: rest) scope pos) 0 it acc env) R s)
    (h : wpB (model prog w) A (pyIter it) (fun it' s' => codeB (model prog w) A (.compLoop (.ListComp elt (⟨target, iter, ifs, 0⟩ :: rest) scope pos) 0 it' acc env) R s') s) :
    codeB (model prog w) A (.compStart (.ListComp elt (⟨target, iter, ifs, 0⟩ :: rest) scope pos) 0 it acc env) R s := by
  refine codeB_of_tree ?_
  rw [Around.under_of_weight (by rfl)]
  show wpB _ _ ((compStart (.ListComp elt (⟨target, iter, ifs, 0⟩ :: rest) scope pos) 0 it acc env).onRaise (fun x => do noteFrame x env; standAt theWindowsPlace)) _ s
  refine wpB_onRaise ?_
  unfold compStart
  have hask : wpB (model prog w) A ask (fun M s' => s' = s) s := fun _ _ _ _ => rfl
  show wpB _ _ (ask >>= _) _ s
  refine wpB_bindm hask fun st s' e => ?_
  subst e
  split
  · exact wpB_pure ⟨rfl, fun _ _ => rfl, h0⟩
  · exact wpB_bind (wpB_rule (wpB_bind (wpB_standAt (wpB_bindm h fun it' s' h' => wpB_pure ⟨rfl, fun _ _ => rfl, h'⟩))))

noncomputable def testsOf (ifs : List Expr) (env : Env) : Sem Bool := forIn ifs true fun c r => if r = true then do let ok ← isTrue c env (eval c env); pure (ForInStep.yield ok) else pure (ForInStep.yield r)
theorem tests_nil {Q : Bool → Shared → Prop} (h : Q true s) : wpB (model prog w) A (testsOf [] env) Q s := wpB_pure h
theorem tests_one {c : Expr} {Q : Bool → Shared → Prop} (h : wpB (model prog w) A (isTrue c env (eval c env)) Q s) : wpB (model prog w) A (testsOf [c] env) Q s := by
  unfold testsOf
  simp only [List.forIn_cons, List.forIn_nil, if_true]
  exact wpB_bind (wpB_bindm h fun b s' hb => wpB_pure (wpB_pure hb))
theorem codeB_compLoop {elt iter : Expr} {x : Str} {px : Pos} {ifs : List Expr} {scope : Scope} {pos : Pos} {it acc : Value} {R : Flow → Shared → Prop}
    (h : wpB (model prog w) A (pyNext it) (fun r s₁ => match r with
      | none => R .next s₁
      | some v => wpB (model prog w) A (storeName env x v) (fun _ s₂ => wpB (model prog w) A (testsOf ifs env) (fun ok s₃ =>
            if ok = true then wpB (model prog w) A (eval elt env) (fun y s₄ => wpB (model prog w) A (call (.builtin "list.append") [acc, y]) (fun _ s₅ => codeB (model prog w) A (.compLoop (.ListComp elt [⟨.Name x px, iter, ifs, 0⟩] scope pos) 0 it acc env) R s₅) s₄) s₃
            else codeB (model prog w) A (.compLoop (.ListComp elt [⟨.Name x px, iter, ifs, 0⟩] scope pos) 0 it acc env) R s₃) s₂) s₁) s) :
    codeB (model prog w) A (.compLoop (.ListComp elt [⟨.Name x px, iter, ifs, 0⟩] scope pos) 0 it acc env) R s := by
  refine codeB_of_tree ?_
  rw [Around.under_of_weight (by rfl)]
  show wpB _ A ((compTurn (.ListComp elt [⟨.Name x px, iter, ifs, 0⟩] scope pos) 0 it acc env).onRaise (fun x => do noteFrame x env; theTreesLotGoes x)) _ s
  refine wpB_onRaise ?_
  rw [compTurn_list]
  refine wpB_bind (wpB_standAt (wpB_bindm h fun r s₁ h₁ => ?_))
  cases r with
  | none => exact wpB_pure h₁
  | some v =>
    refine wpB_bind (m := letOwnedTupleGo (.Name x px) it v) (wpB_pure ?_)
    have ha : ∀ {Q : Unit → Shared → Prop}, wpB (model prog w) A (storeName env x v) Q s₁ → wpB (model prog w) A (assign (.Name x px) env v) Q s₁ := by
      intro Q h
      rw [arm_assign_Name]
      refine wpB_bind (wpB_standAt ?_)
      unfold bindName
      exact wpB_bind (wpB_holding (wpB_point (wpB_bindm h fun _ s₂ h₂ => wpB_point h₂)))
    refine wpB_bind (wpB_mono (ha h₁) fun _ s₂ h₂ => ?_)
    refine wpB_bind (m := testsOf ifs env) (wpB_mono h₂ fun ok s₃ h₃ => ?_)
    cases ok with
    | false => exact wpB_pure ⟨rfl, fun _ _ => rfl, h₃⟩
    | true =>
      exact wpB_bind (wpB_bindm h₃ fun x s₄ h₄ => wpB_bindm h₄ fun _ s₅ h₅ => wpB_pure (wpB_pure ⟨rfl, fun _ _ => rfl, h₅⟩))
end

/-! what closes over what -/
noncomputable def clo (cells : List (Str × Addr)) : List (Str × NameKind) → List (Str × Addr) → List (Str × Addr)
  | [], acc => acc
  | (n, k) :: r, acc => if k == .free then clo cells r ((n, (cells.lookup n).getD 0) :: acc) else clo cells r acc
theorem closureFor_go {env : Env} : ∀ (names : List (Str × NameKind)) (acc : List (Str × Addr)), (∀ n, (n, NameKind.free) ∈ names → (env.cells.lookup n).isSome = true) →
    (forIn names acc fun (x : Str × NameKind) (r : List (Str × Addr)) => if x.2 == .free then (do let c ← cellOf env x.1; pure (ForInStep.yield ((x.1, c) :: r)) : Sem (ForInStep (List (Str × Addr)))) else pure (ForInStep.yield r)) = pure (clo env.cells names acc)
  | [], acc, _ => rfl
  | (n, k) :: r, acc, h => by
    have ih := fun acc => closureFor_go (env := env) r acc fun n hn => h n (List.mem_cons_of_mem _ hn)
    rw [List.forIn_cons, clo]
    by_cases hk : (k == .free) = true
    · have hk' : k = .free := eq_of_beq hk
      subst hk'
      obtain ⟨c, hc⟩ := Option.isSome_iff_exists.mp (h n List.mem_cons_self)
      simp only [hk, if_true]
      have : cellOf env n = pure c := by unfold cellOf; rw [hc]
      rw [this, hc]
      simp only [pure_bind, Option.getD_some]
      exact ih _
    · simp only [hk, if_false, pure_bind, Bool.false_eq_true]
      exact ih _
theorem closureFor_clo {scope : Scope} {env : Env} (h : ∀ n, (n, NameKind.free) ∈ scope.names → (env.cells.lookup n).isSome = true) : closureFor scope env = pure (clo env.cells scope.names []) := by
  have := closureFor_go (env := env) scope.names [] h
  have e : closureFor scope env = ((forIn scope.names [] fun (x : Str × NameKind) (r : List (Str × Addr)) => if x.2 == .free then (do let c ← cellOf env x.1; pure (ForInStep.yield ((x.1, c) :: r)) : Sem (ForInStep (List (Str × Addr)))) else pure (ForInStep.yield r)) >>= fun cs => pure cs) := rfl
  rw [e, this, pure_bind]
theorem clo_lookup_acc {cells : List (Str × Addr)} {n : Str} : ∀ (names : List (Str × NameKind)) (acc : List (Str × Addr)), ((n, NameKind.free) ∈ names ∨ acc.lookup n = some ((cells.lookup n).getD 0)) → (∀ c, acc.lookup n = some c → c = (cells.lookup n).getD 0) →
    (clo cells names acc).lookup n = some ((cells.lookup n).getD 0)
  | [], acc, h, _ => by
    rcases h with h | h
    · exact nomatch h
    · exact h
  | (m, k) :: r, acc, h, hu => by
    rw [clo]
    by_cases hk : (k == .free) = true
    · rw [if_pos hk]
      by_cases hm : n = m
      · subst hm
        exact clo_lookup_acc r _ (.inr (by simp)) (by simp)
      · have hb : (n == m) = false := beq_eq_false_iff_ne.mpr hm
        refine clo_lookup_acc r _ ?_ (by rw [List.lookup_cons, hb]; exact hu)
        rcases h with h | h
        · rcases List.mem_cons.mp h with q | q
          · cases q; exact absurd rfl hm
          · exact .inl q
        · exact .inr (by rw [List.lookup_cons, hb]; exact h)
    · rw [if_neg hk]
      refine clo_lookup_acc r _ ?_ hu
      rcases h with h | h
      · rcases List.mem_cons.mp h with q | q
        · cases q; exact absurd rfl hk
        · exact .inl q
      · exact .inr h
theorem clo_lookup {cells : List (Str × Addr)} {n : Str} {c : Addr} {names : List (Str × NameKind)} (h : (n, NameKind.free) ∈ names) (hc : cells.lookup n = some c) : (clo cells names []).lookup n = some c := by
  rw [clo_lookup_acc names [] (.inl h) (by simp), hc]; rfl

/-! the frame of a def or of a comprehension -/
structure EnvOk (tr : Bool) (ns : List (Str × NameKind)) (env : Env) : Prop where
  kind : env.scope.kind = .function
  names : env.scope.names = ns
  glob : env.globals = mainGlobals
  bi : env.builtins = builtinsNs
  cells : ∀ n, ns.lookup n = some .cell → (env.cells.lookup n).isSome = true
  code : tr = true → env.code = .ref 103
noncomputable def relab (ns ms : List (Str × NameKind)) : List (Str × NameKind) := ms.map fun (n, k) => if k == .free && ns.lookup n == some .cell then (n, .cell) else (n, k)
theorem relab_eq {tr : Bool} {ns : List (Str × NameKind)} {env : Env} (E : EnvOk tr ns env) (scope : Scope) : (relabel scope env).names = relab ns scope.names := by
  show scope.names.map _ = _
  unfold relab
  rw [E.kind]
  refine List.map_congr_left fun x _ => ?_
  have : ∀ n, env.kindOf n = ns.lookup n := fun n => by unfold Env.kindOf; rw [E.names]
  simp only [this, beq_self_eq_true, Bool.and_true]
theorem relab_local {ns : List (Str × NameKind)} : ∀ {ms : List (Str × NameKind)} {x : Str}, ms.lookup x = some .local → (relab ns ms).lookup x = some .local
  | [], _, h => by simp at h
  | (n, k) :: r, x, h => by
    show List.lookup x ((if k == .free && ns.lookup n == some .cell then (n, NameKind.cell) else (n, k)) :: relab ns r) = _
    cases hx : x == n with
    | true =>
      simp only [List.lookup_cons, hx] at h
      cases h
      simp [List.lookup_cons, hx]
    | false =>
      simp only [List.lookup_cons, hx] at h
      have ih := relab_local (ns := ns) h
      split <;> (simp only [List.lookup_cons, hx]; exact ih)
theorem relab_cell {ns : List (Str × NameKind)} : ∀ {ms : List (Str × NameKind)} {x : Str}, ms.lookup x = some .free → ns.lookup x = some .cell → (relab ns ms).lookup x = some .cell
  | [], _, h, _ => by simp at h
  | (n, k) :: r, x, h, hn => by
    show List.lookup x ((if k == .free && ns.lookup n == some .cell then (n, NameKind.cell) else (n, k)) :: relab ns r) = _
    cases hx : x == n with
    | true =>
      have : x = n := eq_of_beq hx
      subst this
      simp only [List.lookup_cons, beq_self_eq_true] at h
      cases h
      simp [List.lookup_cons, hn]
    | false =>
      simp only [List.lookup_cons, hx] at h
      have ih := relab_cell h hn
      split <;> (simp only [List.lookup_cons, hx]; exact ih)
set_option tactic.hygienic true in
theorem relab_of_cell {ns : List (Str × NameKind)} : ∀ {ms : List (Str × NameKind)} {x : Str}, (∀ y ∈ ms, y.2 ≠ .cell) → (relab ns ms).lookup x = some .cell → (x, NameKind.free) ∈ ms ∧ ns.lookup x = some .cell
  | [], _, _, h => by simp [relab] at h
  | (n, k) :: r, x, hc, h => by
    have h : List.lookup x ((if k == .free && ns.lookup n == some .cell then (n, NameKind.cell) else (n, k)) :: relab ns r) = some .cell := h
    cases hx : x == n with
    | true =>
      have : x = n := eq_of_beq hx
      subst this
      split at h
      · rename_i q
        rw [Bool.and_eq_true] at q
        have hk : k = .free := eq_of_beq q.1
        subst hk
        exact ⟨List.mem_cons_self, eq_of_beq q.2⟩
      · simp only [List.lookup_cons, beq_self_eq_true] at h
        cases h
        exact absurd rfl (hc _ List.mem_cons_self)
    | false =>
      have h' : (relab ns r).lookup x = some .cell := by
        split at h <;> (simp only [List.lookup_cons, hx] at h; exact h)
      obtain ⟨a, b⟩ := relab_of_cell (fun y hy => hc y (List.mem_cons_of_mem _ hy)) h'
      exact ⟨List.mem_cons_of_mem _ a, b⟩
end Mine
namespace Mine
open _root_.PySem _root_.PySem.Calls _root_.PySem.W _root_.PyProof.Rows

/-! ### The loop of a list comprehension -/
theorem ObjIs.grow {h : Heap} {γ δ : List Addr} {a : Addr} (hd : ∀ a ∈ δ, h.get? a = none) : ∀ {o : PObj}, ObjIs h γ a o → ObjIs h (γ ++ δ) a o
  | .list _, ⟨vs, l, x, z⟩ => ⟨vs, l, x.grow hd, z⟩
  | .barr _, h => h
  | .hid, h => h
theorem Ext.fresh {P : Addr} {s s' : Shared} (E : Ext P s s') (T : TabIs P s.heap) {a : Addr} (h : s'.heap.get? a = none) : s.heap.get? a = none := by
  cases e : s.heap.get? a with
  | none => rfl
  | some o =>
    by_cases q : a = P
    · subst q
      obtain ⟨vs, h1, h2⟩ := T
      obtain ⟨more, h3, _⟩ := E.tab vs h1 h2
      rw [h] at h3; cases h3
    · rw [E.keep a o q e] at h; cases h
theorem Ns_upd {P : Addr} {M : List Addr} {s s' : Shared} (U : Upd P M s s') (T : TabIs P s.heap) {a : Addr} {m : Str → Option Value} (ha : a ∉ M) (hn : s.heap.Ns a m) : s'.heap.Ns a m :=
  let ⟨o, es, ep, e, d, r⟩ := hn
  ⟨o, es, ep, U.keep _ _ ha (T.ne e (.data fun vs q => by rw [d] at q; cases q)) e, d, r⟩
theorem Ns_off {h : Heap} {a : Addr} {m : Str → Option Value} (hn : h.Ns a m) {o : Obj} (e : h.get? a = some o) : ¬ valObj o ∧ noTab o := by
  obtain ⟨o', es, ep, e', d, r⟩ := hn
  rw [e] at e'; cases e'
  exact ⟨fun h => by rcases h with ⟨_, _, q, _⟩ | ⟨_, q, _⟩ <;> (rw [d] at q; cases q), .data fun vs q => by rw [d] at q; cases q⟩
theorem PlainList_upd {P : Addr} {M : List Addr} {s s' : Shared} (U : Upd P M s s') (T : TabIs P s.heap) {a : Addr} {vs : Array Value} (ha : a ∉ M) (hl : s.heap.PlainList a vs) : s'.heap.PlainList a vs :=
  let ⟨n, e⟩ := hl
  ⟨n, U.keep _ _ ha (T.ne e (.cls (by nofun))) e⟩
theorem Upd.one {P : Addr} {a : Addr} {s : Shared} {h' : Heap} {t : Nat} (T : TabIs P s.heap) (hs : Heap.SameBut a s.heap h') {o : Obj} (e : s.heap.get? a = some o) (n : noTab o) : Upd P [a] s { s with heap := h', toks := t } :=
  Upd.of_keep T (fun b hb o' e' => by rw [List.mem_singleton.mp hb, e] at e'; cases e'; exact n) fun b o hb e => hs.extBut b o (by simpa using hb) e
section
variable {ok : Fn → DefRec → Bool} {P : Addr} {mg mb : Str → Option Value}
theorem RelE.has {env cenv : Env} {γ : List Addr} {σ : St} {s₁ t : Shared} {acc : Addr} {x : Nat} {caps : List Nat} {v : PV} {u : Value} {m : Str → Option Value}
    (hb : RelE ok P mg mb env γ σ s₁) (E : Ext P s₁ t) (hacc0 : s₁.heap.get? acc = none) (hacc : ∃ vs, t.heap.PlainList acc vs) (hk : cenv.kindOf (nm x) = some .local) (hx : x < tab.length)
    (hn : t.heap.Ns cenv.locals m) (hm : m (nm x) = some u) (hu : Is t.heap (γ ++ [acc]) u v)
    (hcap : ∀ y ∈ caps, env.kindOf (nm y) = some .cell ∧ cenv.kindOf (nm y) = some .cell ∧ ∀ c, env.cells.lookup (nm y) = some c → cenv.cells.lookup (nm y) = some c) : RelE ok P mg mb cenv (γ ++ [acc]) (σ.has x caps v) t where
  wd := hb.wd.keep E.keep (hb.wd.tab.ext E)
  var := fun y z e => by
    have fr : ∀ a ∈ [acc], s₁.heap.get? a = none := fun a ha => by rw [List.mem_singleton.mp ha]; exact hacc0
    have e : getV (setV (onlyV σ.env caps) x v) y = some z := e
    rw [getV_setV] at e
    by_cases q : y = x
    · subst q
      rw [if_pos rfl] at e; cases e
      exact ⟨hx, .loc hk m u hn hm hu⟩
    · rw [if_neg q] at e
      obtain ⟨h1, h2⟩ := getV_only e
      obtain ⟨h3, h4⟩ := hb.var y z h2
      obtain ⟨k1, k2, k3⟩ := hcap y h1
      refine ⟨h3, ?_⟩
      cases h4 with
      | loc hk' => rw [k1] at hk'; cases hk'
      | cell hk' c u' hc hu' hv => exact .cell k2 c u' (k3 c hc) (IsCell_keep E.keep hb.wd.tab hu') ((hv.grow fr).ext hb.wd.tab E.keep)
  led := by
    have fr : ∀ a ∈ [acc], s₁.heap.get? a = none := fun a ha => by rw [List.mem_singleton.mp ha]; exact hacc0
    refine ⟨by show (γ ++ [acc]).length = (σ.led ++ [PObj.hid]).length; simp [hb.led.len], fun k o e => ?_⟩
    have e : (σ.led ++ [PObj.hid])[k]? = some o := e
    by_cases hk : k < σ.led.length
    · rw [List.getElem?_append_left hk] at e
      obtain ⟨a, e1, e2⟩ := hb.led.at_ k o e
      refine ⟨a, ?_, (e2.grow fr).ext hb.wd.tab E.keep⟩
      rw [List.getElem?_append_left (by rw [hb.led.len]; exact hk)]; exact e1
    · rw [List.getElem?_append_right (by (first | lia | omega))] at e
      have hk0 : k - σ.led.length = 0 := by
        have := (List.getElem?_eq_some_iff.mp e).1
        simp at this; (first | lia | omega)
      rw [hk0] at e
      simp only [List.getElem?_cons_zero] at e
      cases e
      refine ⟨acc, ?_, hacc⟩
      rw [List.getElem?_append_right (by rw [hb.led.len]; (first | lia | omega)), hb.led.len, hk0]; rfl
end

section
variable {prog : Program} {w : World} {A : Around} {ok : Fn → DefRec → Bool} {P : Addr} {mg mb : Str → Option Value}
theorem comp_loop {env cenv : Env} {γ : List Addr} {σ : St} {s₁ : Shared} {it acc : Addr} {x : Nat} {caps : List Nat} {elt iter : Expr} {px : Pos} {ifs : List Expr} {scope : Scope} {pos : Pos} {c : PV → (Bool → Prop) → Prop} {e : PV → (PV → Prop) → Prop} {R : Flow → Shared → Prop}
    (hh : A.handled = none) (hb : RelE ok P mg mb env γ σ s₁) (hacc0 : s₁.heap.get? acc = none) (hit0 : s₁.heap.get? it = none) (hL0 : s₁.heap.get? cenv.locals = none)
    (n1 : it ≠ acc) (n2 : it ≠ cenv.locals) (n3 : acc ≠ cenv.locals)
    (hk : cenv.kindOf (nm x) = some .local) (hkind : cenv.scope.kind = .function) (hx : x < tab.length)
    (hcap : ∀ y ∈ caps, env.kindOf (nm y) = some .cell ∧ cenv.kindOf (nm y) = some .cell ∧ ∀ c, env.cells.lookup (nm y) = some c → cenv.cells.lookup (nm y) = some c)
    (hcond : ∀ {v t K Q}, RelE ok P mg mb cenv (γ ++ [acc]) (σ.has x caps v) t → c v K → (∀ b t', K b → Ext P t t' → Q b t') → wpB (model prog w) A (testsOf ifs cenv) Q t)
    (helt : ∀ {v t K Q}, RelE ok P mg mb cenv (γ ++ [acc]) (σ.has x caps v) t → e v K → (∀ r t' y, K y → Ext P t t' → Is t'.heap (γ ++ [acc]) r y → Q r t') → wpB (model prog w) A (eval elt cenv) Q t) :
    ∀ (l : List PV) (t : Shared) (ys : List PV) (accs : Array Value) (m : Str → Option Value) (K : List PV → Prop), Ext P s₁ t → IterAt t.heap (γ ++ [acc]) it l → t.heap.PlainList acc accs → IsAll t.heap (γ ++ [acc]) accs.toList ys → ys.all frozen = true → t.heap.Ns cenv.locals m →
      compW c e l K → ys.length + l.length ≤ 2 * big →
      (∀ zs t' accs' m', K zs → Ext P s₁ t' → t'.heap.PlainList acc accs' → IsAll t'.heap (γ ++ [acc]) accs'.toList (ys ++ zs) → (ys ++ zs).all frozen = true → t'.heap.Ns cenv.locals m' → R .next t') →
      codeB (model prog w) A (.compLoop (.ListComp elt [⟨.Name (nm x) px, iter, ifs, 0⟩] scope pos) 0 (.ref it) (.ref acc) cenv) R t := by
  have led' : ∀ {t : Shared} {accs : Array Value}, Ext P s₁ t → t.heap.PlainList acc accs → Lives t.heap (γ ++ [acc]) := by
    intro t accs E hp b hb'
    rcases List.mem_append.mp hb' with q | q
    · exact (hb.led.ext hb.wd.tab E.keep).live q
    · rw [List.mem_singleton.mp q]
      obtain ⟨n, e⟩ := hp
      exact ⟨_, e, .inl rfl⟩
  have offI : ∀ {t : Shared} {l : List PV}, IterAt t.heap (γ ++ [acc]) it l → Off t.heap [it] (γ ++ [acc]) := fun hi b hb => .inr fun o' e' => by
    obtain ⟨oi, ei, vi, ni⟩ := hi.live
    rw [List.mem_singleton.mp hb, ei] at e'; cases e'; exact vi
  intro l
  induction l with
  | nil =>
    intro t ys accs m K E hi hp hx' hf hn hg hz hR
    have T := hb.wd.tab.ext E
    refine codeB_compLoop (pyNext_ok hh hi T (led' E hp) fun t₁ U => ?_)
    refine hR [] t₁ accs m hg (U.ext E fun a ha => by rw [List.mem_singleton.mp ha]; exact hit0) (PlainList_upd U T (by simp [Ne.symm n1]) hp) ?_ ?_ (Ns_upd U T (by simp [Ne.symm n2]) hn)
    · rw [List.append_nil]; exact hx'.upd T U (offI hi) (led' E hp)
    · rw [List.append_nil]; exact hf
  | cons v l ih =>
    intro t ys accs m K E hi hp hx' hf hn hg hz hR
    have T := hb.wd.tab.ext E
    refine codeB_compLoop (pyNext_ok hh hi T (led' E hp) fun u t₁ U hu hi₁ => ?_)
    have E₁ : Ext P s₁ t₁ := U.ext E (fun a ha => by rw [List.mem_singleton.mp ha]; exact hit0)
    have hp₁ := PlainList_upd U T (by simp [Ne.symm n1]) hp
    have hx₁ := hx'.upd T U (offI hi) (led' E hp)
    have hn₁ := Ns_upd U T (by simp [Ne.symm n2]) hn
    have T₁ := hb.wd.tab.ext E₁
    clear hi hp hx' hn U T
    refine wpB_leaf (wpAny_storeName_local hk hn₁ (fun h' hn₂ hs => ?_) (by rw [hkind]; rfl))
    obtain ⟨oL, _, _, eL, _⟩ := id hn₁
    have U₂ : Upd P [cenv.locals] t₁ { t₁ with heap := h', toks := t₁.toks + 1 } := Upd.one T₁ hs eL (Ns_off hn₁ eL).2
    have off₂ : Off t₁.heap [cenv.locals] (γ ++ [acc]) := fun b hb => .inr fun o' e' => by rw [List.mem_singleton.mp hb] at e'; exact (Ns_off hn₁ e').1
    have E₂ := U₂.ext E₁ (fun a ha => by rw [List.mem_singleton.mp ha]; exact hL0)
    have hp₂ := PlainList_upd U₂ T₁ (by simp [n3]) hp₁
    have lv := led' E₁ hp₁
    have hx₂ := hx₁.upd T₁ U₂ off₂ lv
    have hi₂ := hi₁.upd T₁ U₂ off₂ lv (by simp [n2])
    have R₂ : RelE ok P mg mb cenv (γ ++ [acc]) (σ.has x caps v) { t₁ with heap := h', toks := t₁.toks + 1 } :=
      hb.has E₂ hacc0 ⟨_, hp₂⟩ hk hx hn₂ (by simp) (hu.upd T₁ U₂ off₂ lv) hcap
    clear hi₁ hp₁ hx₁ hu hs U₂ off₂ lv T₁ E₁ hn₁ eL
    refine hcond R₂ hg fun b t₃ hg E₃ => ?_
    have T₂ := R₂.wd.tab
    have T₃ := T₂.ext E₃
    have hp₃ := PlainList_keep E₃.keep T₂ hp₂
    have hx₃ := hx₂.ext T₂ E₃.keep
    have hi₃ := hi₂.ext T₂ E₃ (led' E₂ hp₂)
    have hn₃ := Ns_keep E₃.keep T₂ hn₂
    have E₃' := E₂.trans E₃
    have R₃ := R₂.ext E₃
    clear hi₂ hp₂ hx₂ T₂ E₂ E₃ R₂
    cases b with
    | false => exact ih t₃ ys accs _ K E₃' hi₃ hp₃ hx₃ hf hn₃ hg.k (by simp only [List.length_cons] at hz; (first | lia | omega)) hR
    | true =>
      refine helt R₃ hg.k fun r t₄ y hg E₄ hr => gd_el hg fun hy hg => ?_
      have T₄ := T₃.ext E₄
      have hp₄ := PlainList_keep E₄.keep T₃ hp₃
      have hx₄ := hx₃.ext T₃ E₄.keep
      have hi₄ := hi₃.ext T₃ E₄ (led' E₃' hp₃)
      have hn₄ := Ns_keep E₄.keep T₃ hn₃
      have E₄' := E₃'.trans E₄
      clear hi₃ hp₃ hx₃ T₃ E₃' E₄ R₃
      have hlen := hx₄.length
      rw [Array.length_toList] at hlen
      refine wpB_leaf (wpAny_list_append_plain hp₄ (fun h' hp₅ hs => ?_) (by rw [sizeLine_eq]; unfold big at hz; (first | lia | omega)))
      obtain ⟨n, ea⟩ := id hp₄
      have U₅ : Upd P [acc] t₄ { t₄ with heap := h', toks := t₄.toks } := Upd.one T₄ hs ea (.cls (by nofun))
      have off₅ : Off t₄.heap [acc] (γ ++ [acc]) := fun b hb => .inl (by rw [List.mem_singleton.mp hb]; simp)
      have lv := led' E₄' hp₄
      refine ih _ (ys ++ [y]) (accs.push r) _ _ (U₅.ext E₄' (fun a ha => by rw [List.mem_singleton.mp ha]; exact hacc0)) (hi₄.upd T₄ U₅ off₅ lv (by simp [n1])) hp₅
        (by rw [Array.toList_push]; exact (hx₄.upd T₄ U₅ off₅ lv).append (.cons (hr.upd T₄ U₅ off₅ lv) .nil)) (by rw [List.all_append, hf]; simp [hy]) (Ns_upd U₅ T₄ (by simp [Ne.symm n3]) hn₄) hg
        (by simp only [List.length_cons, List.length_append, List.length_nil] at hz ⊢; (first | lia | omega)) fun zs t' accs' m' k E' p' x' f' n' => ?_
      rw [List.append_assoc] at x' f'
      exact hR (y :: zs) t' accs' m' k E' p' x' f' n'
end
end Mine
namespace Mine
open _root_.PySem _root_.PySem.Calls _root_.PySem.W _root_.PyProof.Rows

section
variable {prog : Program} {w : World} {A : Around} {ok : Fn → DefRec → Bool} {P : Addr} {mg mb : Str → Option Value}

theorem mem_of_lookup {ns : List (Str × NameKind)} {n : Str} {k : NameKind} (h : ns.lookup n = some k) : (n, k) ∈ ns := by
  induction ns with
  | nil => simp at h
  | cons x r ih =>
    obtain ⟨m, j⟩ := x
    rw [List.lookup_cons] at h
    cases hb : n == m with
    | true =>
      rw [hb] at h; cases h
      rw [eq_of_beq hb]; exact List.mem_cons_self
    | false => rw [hb] at h; exact List.mem_cons_of_mem _ (ih h)

theorem pyIter_again {γ : List Addr} {it : Addr} {l : List PV} {s : Shared} {Q : Value → Shared → Prop} (hi : IterAt s.heap γ it l) (h : Q (.ref it) s) : wpB (model prog w) A (pyIter (.ref it)) Q s := by
  cases hi with
  | list l i vs xs ys hit => exact wpB_leaf (wpAny_pyIter_listiter hit h)
  | range x step l ys hit => exact wpB_leaf (wpAny_pyIter_rangeiter hit h)
  | str x t i l ys hit => exact wpB_leaf (wpAny_pyIter_striter_ascii hit h)

theorem IterAt.kept {h h' : Heap} {γ : List Addr} {it : Addr} {l : List PV} (T : TabIs P h) (old : ∀ b o, h.get? b = some o → h'.get? b = some o) (x : IterAt h γ it l) : IterAt h' γ it l := by
  cases x with
  | list l' i vs xs ys hit hn hl' hx' e' =>
    obtain ⟨o, e1, c1, d1⟩ := hit
    obtain ⟨n, e2⟩ := hl'
    exact .list l' i vs xs _ ⟨o, old _ _ e1, c1, d1⟩ hn ⟨n, old _ _ e2⟩ (hx'.ext T (.of_keep old)) e'
  | range x' step l' ys hit hs e' => exact .range x' step l' _ (old _ _ hit) hs e'
  | str x' t i l' ys hit hx e' =>
    obtain ⟨o, e1, c1, d1⟩ := hit
    exact .str x' t i l' _ ⟨o, old _ _ e1, c1, d1⟩ hx e'
theorem comp_whole {tr : Bool} {ns : List (Str × NameKind)} {env : Env} {γ : List Addr} {σ : St} {s : Shared} {x : Nat} {caps : List Nat} {elt iter : Expr} {px : Pos} {ifs : List Expr} {scope : Scope} {pos p2 : Pos} {c : PV → (Bool → Prop) → Prop} {e : PV → (PV → Prop) → Prop}
    {K₀ : PV → Prop} {K : List PV → Prop} {use : Option (Value → Sem Unit)} {Q : Value → Shared → Prop}
    (hh : A.handled = none) (EO : EnvOk tr ns env) (R : RelE ok P mg mb env γ σ s)
    (hiter : ∀ {Q}, (∀ v s' z, K₀ z → Ext P s s' → Is s'.heap γ v z → Q v s') → wpB (model prog w) A (eval iter env) Q s) (hl : ∀ z, K₀ z → oW (iterOf z) fun l => l.length ≤ big ∧ compW c e l K)
    (hkind : scope.kind = .function) (hcell : ∀ y ∈ scope.names, y.2 ≠ .cell) (hnames : ∀ y ∈ scope.names, y.2 = .local → scope.names.lookup y.1 = some .local) (hx : scope.names.lookup (nm x) = some .local) (hxt : x < tab.length)
    (hfree : ∀ y ∈ scope.names, y.2 = .free → ns.lookup y.1 = some .cell) (hcap : ∀ y ∈ caps, scope.names.lookup (nm y) = some .free ∧ ns.lookup (nm y) = some .cell) (hset : ∀ x, foldedSetIterable iter env x = pure x)
    (hcond : ∀ {cenv acc v t K Q}, EnvOk tr (relab ns scope.names) cenv → RelE ok P mg mb cenv (γ ++ [acc]) (σ.has x caps v) t → c v K → (∀ b t', K b → Ext P t t' → Q b t') → wpB (model prog w) A (testsOf ifs cenv) Q t)
    (helt : ∀ {cenv acc v t K Q}, EnvOk tr (relab ns scope.names) cenv → RelE ok P mg mb cenv (γ ++ [acc]) (σ.has x caps v) t → e v K → (∀ r t' y, K y → Ext P t t' → Is t'.heap (γ ++ [acc]) r y → Q r t') → wpB (model prog w) A (eval elt cenv) Q t)
    (hQ : ∀ acc L t m zs, K zs → Ext P s t → Is t.heap γ (.ref acc) (.list zs) → t.heap.Ns L m → s.heap.get? L = none → L ≠ acc → compPostB prog w A use Q (.ref acc) L t) :
    wpB (model prog w) A (comprehension (.ListComp elt [⟨.Name (nm x) px, iter, ifs, 0⟩] scope pos) scope env p2 (newList []) false (eval iter env) use) Q s := by
  have hfr : ∀ n, (n, NameKind.free) ∈ scope.names → (env.cells.lookup n).isSome = true := fun n hn => EO.cells n (hfree _ hn rfl)
  refine wpB_comprehension rfl hset (closureFor_clo hfr) hkind hnames (fun _ _ _ _ _ => rfl) (hiter fun v s₁ vi hvi E₁ hv => oW_el (hl vi hvi) fun l hl hg => ?_)
  have hz := hg.1
  replace hg := hg.2
  have R₁ := R.ext E₁
  have T₁ := R₁.wd.tab
  refine pyIter_ok hl hv T₁ fun it s₂ E₂ hit0 hi => ?_
  have T₂ := T₁.ext E₂
  obtain ⟨oi, ei, vi', ni⟩ := hi.live
  refine wpB_leaf (wpAny_newList ?_ (by simp))
  refine wpB_leaf (wpAny_newFunctionEnv hcell (by intro y hy; simp at hy) (fun h₁ hns hsb => ?_) hkind)
  have hacc0 : s₂.heap.get? s₂.heap.objs.size = none := fresh_size _
  have hL0 : s₂.heap.get? (s₂.heap.objs.size + 1) = none := by
    cases e' : s₂.heap.get? (s₂.heap.objs.size + 1) with
    | none => rfl
    | some o => exact absurd (Heap.lt_size e') (Nat.not_lt_of_le (Nat.le_succ _))
  have hLs : (s₂.heap.push { cls := .type "list", data := .seq ([] : List Value).toArray }).objs.size = s₂.heap.objs.size + 1 := Heap.size_push ..
  dsimp only at hns hsb ⊢
  rw [hLs] at hns hsb ⊢
  have old : ∀ b o, s₂.heap.get? b = some o → h₁.get? b = some o := fun b o e' =>
    hsb.extBut b o (Nat.ne_of_lt (Nat.lt_succ_of_lt (Heap.lt_size e'))) (Heap.get?_push_of_some _ (Heap.get?_push_of_some _ e'))
  have hacc : h₁.PlainList s₂.heap.objs.size #[] := ⟨0, hsb.extBut _ _ (Nat.ne_of_lt (Nat.lt_succ_self _)) (Heap.get?_push_of_some _ (Heap.get?_push_size _ rfl))⟩
  have E₃ : Ext P s₁ { s₂ with heap := h₁, toks := s₂.toks + ([] : List (Str × Value)).length } := E₂.trans (Ext.of_keep old)
  have ia : IterAt h₁ (γ ++ [s₂.heap.objs.size]) it l := (hi.grow fun a ha => by rw [List.mem_singleton.mp ha]; exact hacc0).kept T₂ old
  obtain ⟨cenv, ec⟩ : ∃ c, c = { newEnv scope (s₂.heap.objs.size + 1) env.globals (clo env.cells scope.names []) env.qual none .none (some env) builtinsNs with scope := relabel scope env } := ⟨_, rfl⟩
  have eL : cenv.locals = s₂.heap.objs.size + 1 := by rw [ec]; rfl
  have cenvOk : EnvOk tr (relab ns scope.names) cenv := by
    rw [ec]
    refine ⟨hkind, relab_eq EO scope, EO.glob, EO.bi, fun n hn => ?_, EO.code⟩
    obtain ⟨h1, h2⟩ := relab_of_cell hcell hn
    obtain ⟨c', hc'⟩ := Option.isSome_iff_exists.mp (EO.cells n h2)
    show ((clo env.cells scope.names []).lookup n).isSome = true
    rw [clo_lookup h1 hc']; rfl
  have hk' : ∀ n k, (relab ns scope.names).lookup n = some k → cenv.kindOf n = some k := fun n k h => by
    unfold Env.kindOf; rw [cenvOk.names]; exact h
  have hkE : ∀ n k, ns.lookup n = some k → env.kindOf n = some k := fun n k h => by unfold Env.kindOf; rw [EO.names]; exact h
  have hcap' : ∀ y ∈ caps, env.kindOf (nm y) = some .cell ∧ cenv.kindOf (nm y) = some .cell ∧ ∀ c, env.cells.lookup (nm y) = some c → cenv.cells.lookup (nm y) = some c := fun y hy =>
    ⟨hkE _ _ (hcap y hy).2, hk' _ _ (relab_cell (hcap y hy).1 (hcap y hy).2), fun c' hc' => by rw [ec]; exact clo_lookup (mem_of_lookup (hcap y hy).1) hc'⟩
  have hkx := hk' _ _ (relab_local hx)
  show codeB _ _ (.compStart _ 0 (.ref it) (.ref _) { newEnv scope (s₂.heap.objs.size + 1) env.globals (clo env.cells scope.names []) env.qual none .none (some env) builtinsNs with scope := relabel scope env }) (fun _ s' => compPostB prog w A use Q (.ref s₂.heap.objs.size) (s₂.heap.objs.size + 1) s') _
  rw [← ec]
  have fin : codeB (model prog w) A (.compLoop (.ListComp elt [⟨.Name (nm x) px, iter, ifs, 0⟩] scope pos) 0 (.ref it) (.ref s₂.heap.objs.size) cenv)
      (fun _ s' => compPostB prog w A use Q (.ref s₂.heap.objs.size) (s₂.heap.objs.size + 1) s') { s₂ with heap := h₁, toks := s₂.toks + ([] : List (Str × Value)).length } := by
    refine comp_loop hh R₁ (E₂.fresh T₁ hacc0) hit0 (by rw [eL]; exact E₂.fresh T₁ hL0) (fun q => by rw [q, hacc0] at ei; cases ei) (fun q => by rw [q, eL] at ei; exact absurd (ei.symm.trans hL0) nofun) (by rw [eL]; exact Nat.ne_of_lt (Nat.lt_succ_self _))
      hkx cenvOk.kind hxt hcap' (hcond cenvOk) (helt cenvOk) l _ [] #[] _ K E₃ ia hacc .nil rfl (by rw [eL]; exact hns) hg (by simp only [List.length_nil]; (first | lia | omega)) fun zs t accs m' k Et hp hx' hf hn => ?_
    refine hQ _ _ t m' zs k (E₁.trans Et) (.list _ accs zs (fun hm => ?_) hp (hx'.strip (fun a ha => List.mem_append_left _ ha) hf) hf) (by rw [← eL]; exact hn) (E₁.fresh R.wd.tab (E₂.fresh T₁ hL0)) (Nat.ne_of_gt (Nat.lt_succ_self _))
    obtain ⟨o, eo, _⟩ := (R₁.ext E₂).led.live hm
    rw [hacc0] at eo; cases eo
  exact codeB_compStart fin (pyIter_again ia fin)
end
end Mine
namespace Mine
section
open _root_.PySem _root_.PySem.Calls _root_.PySem.W _root_.PyProof.Rows

/-! ### Does the expression fit? -/
noncomputable def litIs : PV → Const → Bool
  | .none, .none => true
  | .bool a, .bool b => a == b
  | .int a, .int b => a == b
  | .str l, .str s => s.cps.toList == l
  | .bytes l, .bytes b => b.map UInt8.toNat == l
  | _, _ => false
noncomputable def primName : Prim → Option (Str × Value)
  | .len => some ("len", .builtin "len")
  | .ord => some ("ord", .builtin "ord")
  | .chr => some ("chr", .builtin "chr")
  | .bytes => some ("bytes", .type "bytes")
  | .strAscii => some ("str", .type "str")
  | .range1 => some ("range", .type "range")
  | .range2 => some ("range", .type "range")
  | .range3 => some ("range", .type "range")
  | .list => some ("list", .type "list")
  | .sum => some ("sum", .builtin "sum")
  | _ => none
noncomputable def isaName : Prim → Option (Str × String)
  | .isStr => some ("str", "str")
  | .isMem => some ("memoryview", "memoryview")
  | _ => none
noncomputable def methName : Prim → Option Str
  | .rfind => some "rfind"
  | .upper => some "upper"
  | .replace => some "replace"
  | .find => some "find"
  | .join => some "join"
  | _ => none
noncomputable def notSet : Expr → Bool
  | .Set .. => false
  | _ => true
noncomputable def isGlob (ns : List (Str × NameKind)) (n : Str) : Bool := ns.lookup n == some .globalImplicit && n != ("__debug__" : Str)

/-- the two forms that are not covered by the general rules: their own checks (subC, joinC) -/
structure Forms where
  sub : List (Str × NameKind) → Expr → (Expr → Bool) → Bool
  join : List (Str × NameKind) → Expr → (Expr → Bool) → Bool

/-! looking into syntax, one step at a time (printed by dgen.py) -/
theorem dite_el {c : Prop} [Decidable c] {a : c → Bool} {G : Prop} (H : ∀ q, a q = true → G) (h : (if q : c then a q else false) = true) : G := by
  split at h
  · exact H _ h
  · cases h
noncomputable def onBoolOp (e : Expr) (k : BoolOp → List Expr → Pos → Bool) : Bool := if h : e.ctorIdx = 0 then Expr.BoolOp.elim (motive_1 := fun _ => Bool) e h k else false
theorem onBoolOp_el {k : BoolOp → List Expr → Pos → Bool} {G : Expr → Prop} (H : ∀ a b c, k a b c = true → G (.BoolOp a b c)) (e : Expr) (h : onBoolOp e k = true) : G e :=
  dite_el (fun q => Expr.BoolOp.elim (motive_1 := fun e => ∀ q, Expr.BoolOp.elim (motive_1 := fun _ => Bool) e q k = true → G e) e q (fun a b c _ h => H a b c h) q) h
noncomputable def onBinOp (e : Expr) (k : Expr → Operator → Expr → Pos → Bool) : Bool := if h : e.ctorIdx = 2 then Expr.BinOp.elim (motive_1 := fun _ => Bool) e h k else false
theorem onBinOp_el {k : Expr → Operator → Expr → Pos → Bool} {G : Expr → Prop} (H : ∀ a b c d, k a b c d = true → G (.BinOp a b c d)) (e : Expr) (h : onBinOp e k = true) : G e :=
  dite_el (fun q => Expr.BinOp.elim (motive_1 := fun e => ∀ q, Expr.BinOp.elim (motive_1 := fun _ => Bool) e q k = true → G e) e q (fun a b c d _ h => H a b c d h) q) h
noncomputable def onUnaryOp (e : Expr) (k : UnaryOp → Expr → Pos → Bool) : Bool := if h : e.ctorIdx = 3 then Expr.UnaryOp.elim (motive_1 := fun _ => Bool) e h k else false
theorem onUnaryOp_el {k : UnaryOp → Expr → Pos → Bool} {G : Expr → Prop} (H : ∀ a b c, k a b c = true → G (.UnaryOp a b c)) (e : Expr) (h : onUnaryOp e k = true) : G e :=
  dite_el (fun q => Expr.UnaryOp.elim (motive_1 := fun e => ∀ q, Expr.UnaryOp.elim (motive_1 := fun _ => Bool) e q k = true → G e) e q (fun a b c _ h => H a b c h) q) h
noncomputable def onLambda (e : Expr) (k : Arguments → Expr → Scope → Pos → Bool) : Bool := if h : e.ctorIdx = 4 then Expr.Lambda.elim (motive_1 := fun _ => Bool) e h k else false
theorem onLambda_el {k : Arguments → Expr → Scope → Pos → Bool} {G : Expr → Prop} (H : ∀ a b c d, k a b c d = true → G (.Lambda a b c d)) (e : Expr) (h : onLambda e k = true) : G e :=
  dite_el (fun q => Expr.Lambda.elim (motive_1 := fun e => ∀ q, Expr.Lambda.elim (motive_1 := fun _ => Bool) e q k = true → G e) e q (fun a b c d _ h => H a b c d h) q) h
noncomputable def onIfExp (e : Expr) (k : Expr → Expr → Expr → Pos → Bool) : Bool := if h : e.ctorIdx = 5 then Expr.IfExp.elim (motive_1 := fun _ => Bool) e h k else false
theorem onIfExp_el {k : Expr → Expr → Expr → Pos → Bool} {G : Expr → Prop} (H : ∀ a b c d, k a b c d = true → G (.IfExp a b c d)) (e : Expr) (h : onIfExp e k = true) : G e :=
  dite_el (fun q => Expr.IfExp.elim (motive_1 := fun e => ∀ q, Expr.IfExp.elim (motive_1 := fun _ => Bool) e q k = true → G e) e q (fun a b c d _ h => H a b c d h) q) h
noncomputable def onListComp (e : Expr) (k : Expr → List Comprehension → Scope → Pos → Bool) : Bool := if h : e.ctorIdx = 8 then Expr.ListComp.elim (motive_1 := fun _ => Bool) e h k else false
theorem onListComp_el {k : Expr → List Comprehension → Scope → Pos → Bool} {G : Expr → Prop} (H : ∀ a b c d, k a b c d = true → G (.ListComp a b c d)) (e : Expr) (h : onListComp e k = true) : G e :=
  dite_el (fun q => Expr.ListComp.elim (motive_1 := fun e => ∀ q, Expr.ListComp.elim (motive_1 := fun _ => Bool) e q k = true → G e) e q (fun a b c d _ h => H a b c d h) q) h
noncomputable def onGeneratorExp (e : Expr) (k : Expr → List Comprehension → Scope → Pos → Bool) : Bool := if h : e.ctorIdx = 11 then Expr.GeneratorExp.elim (motive_1 := fun _ => Bool) e h k else false
theorem onGeneratorExp_el {k : Expr → List Comprehension → Scope → Pos → Bool} {G : Expr → Prop} (H : ∀ a b c d, k a b c d = true → G (.GeneratorExp a b c d)) (e : Expr) (h : onGeneratorExp e k = true) : G e :=
  dite_el (fun q => Expr.GeneratorExp.elim (motive_1 := fun e => ∀ q, Expr.GeneratorExp.elim (motive_1 := fun _ => Bool) e q k = true → G e) e q (fun a b c d _ h => H a b c d h) q) h
noncomputable def onCompare (e : Expr) (k : Expr → List CmpOp → List Expr → Pos → Bool) : Bool := if h : e.ctorIdx = 15 then Expr.Compare.elim (motive_1 := fun _ => Bool) e h k else false
theorem onCompare_el {k : Expr → List CmpOp → List Expr → Pos → Bool} {G : Expr → Prop} (H : ∀ a b c d, k a b c d = true → G (.Compare a b c d)) (e : Expr) (h : onCompare e k = true) : G e :=
  dite_el (fun q => Expr.Compare.elim (motive_1 := fun e => ∀ q, Expr.Compare.elim (motive_1 := fun _ => Bool) e q k = true → G e) e q (fun a b c d _ h => H a b c d h) q) h
noncomputable def onCall (e : Expr) (k : Expr → List Expr → List Keyword → Pos → Bool) : Bool := if h : e.ctorIdx = 16 then Expr.Call.elim (motive_1 := fun _ => Bool) e h k else false
theorem onCall_el {k : Expr → List Expr → List Keyword → Pos → Bool} {G : Expr → Prop} (H : ∀ a b c d, k a b c d = true → G (.Call a b c d)) (e : Expr) (h : onCall e k = true) : G e :=
  dite_el (fun q => Expr.Call.elim (motive_1 := fun e => ∀ q, Expr.Call.elim (motive_1 := fun _ => Bool) e q k = true → G e) e q (fun a b c d _ h => H a b c d h) q) h
noncomputable def onFormattedValue (e : Expr) (k : Expr → Int → Option Expr → Pos → Bool) : Bool := if h : e.ctorIdx = 17 then Expr.FormattedValue.elim (motive_1 := fun _ => Bool) e h k else false
theorem onFormattedValue_el {k : Expr → Int → Option Expr → Pos → Bool} {G : Expr → Prop} (H : ∀ a b c d, k a b c d = true → G (.FormattedValue a b c d)) (e : Expr) (h : onFormattedValue e k = true) : G e :=
  dite_el (fun q => Expr.FormattedValue.elim (motive_1 := fun e => ∀ q, Expr.FormattedValue.elim (motive_1 := fun _ => Bool) e q k = true → G e) e q (fun a b c d _ h => H a b c d h) q) h
noncomputable def onJoinedStr (e : Expr) (k : List Expr → Pos → Bool) : Bool := if h : e.ctorIdx = 18 then Expr.JoinedStr.elim (motive_1 := fun _ => Bool) e h k else false
theorem onJoinedStr_el {k : List Expr → Pos → Bool} {G : Expr → Prop} (H : ∀ a b, k a b = true → G (.JoinedStr a b)) (e : Expr) (h : onJoinedStr e k = true) : G e :=
  dite_el (fun q => Expr.JoinedStr.elim (motive_1 := fun e => ∀ q, Expr.JoinedStr.elim (motive_1 := fun _ => Bool) e q k = true → G e) e q (fun a b _ h => H a b h) q) h
noncomputable def onConstant (e : Expr) (k : Const → Nat → Pos → Bool) : Bool := if h : e.ctorIdx = 19 then Expr.Constant.elim (motive_1 := fun _ => Bool) e h k else false
theorem onConstant_el {k : Const → Nat → Pos → Bool} {G : Expr → Prop} (H : ∀ a b c, k a b c = true → G (.Constant a b c)) (e : Expr) (h : onConstant e k = true) : G e :=
  dite_el (fun q => Expr.Constant.elim (motive_1 := fun e => ∀ q, Expr.Constant.elim (motive_1 := fun _ => Bool) e q k = true → G e) e q (fun a b c _ h => H a b c h) q) h
noncomputable def onAttribute (e : Expr) (k : Expr → Str → Pos → Bool) : Bool := if h : e.ctorIdx = 20 then Expr.Attribute.elim (motive_1 := fun _ => Bool) e h k else false
theorem onAttribute_el {k : Expr → Str → Pos → Bool} {G : Expr → Prop} (H : ∀ a b c, k a b c = true → G (.Attribute a b c)) (e : Expr) (h : onAttribute e k = true) : G e :=
  dite_el (fun q => Expr.Attribute.elim (motive_1 := fun e => ∀ q, Expr.Attribute.elim (motive_1 := fun _ => Bool) e q k = true → G e) e q (fun a b c _ h => H a b c h) q) h
noncomputable def onSubscript (e : Expr) (k : Expr → Expr → Pos → Bool) : Bool := if h : e.ctorIdx = 21 then Expr.Subscript.elim (motive_1 := fun _ => Bool) e h k else false
theorem onSubscript_el {k : Expr → Expr → Pos → Bool} {G : Expr → Prop} (H : ∀ a b c, k a b c = true → G (.Subscript a b c)) (e : Expr) (h : onSubscript e k = true) : G e :=
  dite_el (fun q => Expr.Subscript.elim (motive_1 := fun e => ∀ q, Expr.Subscript.elim (motive_1 := fun _ => Bool) e q k = true → G e) e q (fun a b c _ h => H a b c h) q) h
noncomputable def onName (e : Expr) (k : Str → Pos → Bool) : Bool := if h : e.ctorIdx = 23 then Expr.Name.elim (motive_1 := fun _ => Bool) e h k else false
theorem onName_el {k : Str → Pos → Bool} {G : Expr → Prop} (H : ∀ a b, k a b = true → G (.Name a b)) (e : Expr) (h : onName e k = true) : G e :=
  dite_el (fun q => Expr.Name.elim (motive_1 := fun e => ∀ q, Expr.Name.elim (motive_1 := fun _ => Bool) e q k = true → G e) e q (fun a b _ h => H a b h) q) h
noncomputable def onList (e : Expr) (k : List Expr → Pos → Bool) : Bool := if h : e.ctorIdx = 24 then Expr.List.elim (motive_1 := fun _ => Bool) e h k else false
theorem onList_el {k : List Expr → Pos → Bool} {G : Expr → Prop} (H : ∀ a b, k a b = true → G (.List a b)) (e : Expr) (h : onList e k = true) : G e :=
  dite_el (fun q => Expr.List.elim (motive_1 := fun e => ∀ q, Expr.List.elim (motive_1 := fun _ => Bool) e q k = true → G e) e q (fun a b _ h => H a b h) q) h
noncomputable def onTuple (e : Expr) (k : List Expr → Nat → Pos → Bool) : Bool := if h : e.ctorIdx = 25 then Expr.Tuple.elim (motive_1 := fun _ => Bool) e h k else false
theorem onTuple_el {k : List Expr → Nat → Pos → Bool} {G : Expr → Prop} (H : ∀ a b c, k a b c = true → G (.Tuple a b c)) (e : Expr) (h : onTuple e k = true) : G e :=
  dite_el (fun q => Expr.Tuple.elim (motive_1 := fun e => ∀ q, Expr.Tuple.elim (motive_1 := fun _ => Bool) e q k = true → G e) e q (fun a b c _ h => H a b c h) q) h
noncomputable def onSlice (e : Expr) (k : Option Expr → Option Expr → Option Expr → Pos → Bool) : Bool := if h : e.ctorIdx = 26 then Expr.Slice.elim (motive_1 := fun _ => Bool) e h k else false
theorem onSlice_el {k : Option Expr → Option Expr → Option Expr → Pos → Bool} {G : Expr → Prop} (H : ∀ a b c d, k a b c d = true → G (.Slice a b c d)) (e : Expr) (h : onSlice e k = true) : G e :=
  dite_el (fun q => Expr.Slice.elim (motive_1 := fun e => ∀ q, Expr.Slice.elim (motive_1 := fun _ => Bool) e q k = true → G e) e q (fun a b c d _ h => H a b c d h) q) h
noncomputable def onReturn (e : Stmt) (k : Option Expr → Pos → Bool) : Bool := if h : e.ctorIdx = 3 then Stmt.Return.elim (motive_2 := fun _ => Bool) e h k else false
theorem onReturn_el {k : Option Expr → Pos → Bool} {G : Stmt → Prop} (H : ∀ a b, k a b = true → G (.Return a b)) (e : Stmt) (h : onReturn e k = true) : G e :=
  dite_el (fun q => Stmt.Return.elim (motive_2 := fun e => ∀ q, Stmt.Return.elim (motive_2 := fun _ => Bool) e q k = true → G e) e q (fun a b _ h => H a b h) q) h
noncomputable def onDelete (e : Stmt) (k : List Expr → Pos → Bool) : Bool := if h : e.ctorIdx = 4 then Stmt.Delete.elim (motive_2 := fun _ => Bool) e h k else false
theorem onDelete_el {k : List Expr → Pos → Bool} {G : Stmt → Prop} (H : ∀ a b, k a b = true → G (.Delete a b)) (e : Stmt) (h : onDelete e k = true) : G e :=
  dite_el (fun q => Stmt.Delete.elim (motive_2 := fun e => ∀ q, Stmt.Delete.elim (motive_2 := fun _ => Bool) e q k = true → G e) e q (fun a b _ h => H a b h) q) h
noncomputable def onAssign (e : Stmt) (k : List Expr → Expr → Pos → Bool) : Bool := if h : e.ctorIdx = 5 then Stmt.Assign.elim (motive_2 := fun _ => Bool) e h k else false
theorem onAssign_el {k : List Expr → Expr → Pos → Bool} {G : Stmt → Prop} (H : ∀ a b c, k a b c = true → G (.Assign a b c)) (e : Stmt) (h : onAssign e k = true) : G e :=
  dite_el (fun q => Stmt.Assign.elim (motive_2 := fun e => ∀ q, Stmt.Assign.elim (motive_2 := fun _ => Bool) e q k = true → G e) e q (fun a b c _ h => H a b c h) q) h
noncomputable def onAugAssign (e : Stmt) (k : Expr → Operator → Expr → Pos → Bool) : Bool := if h : e.ctorIdx = 7 then Stmt.AugAssign.elim (motive_2 := fun _ => Bool) e h k else false
theorem onAugAssign_el {k : Expr → Operator → Expr → Pos → Bool} {G : Stmt → Prop} (H : ∀ a b c d, k a b c d = true → G (.AugAssign a b c d)) (e : Stmt) (h : onAugAssign e k = true) : G e :=
  dite_el (fun q => Stmt.AugAssign.elim (motive_2 := fun e => ∀ q, Stmt.AugAssign.elim (motive_2 := fun _ => Bool) e q k = true → G e) e q (fun a b c d _ h => H a b c d h) q) h
noncomputable def onFor (e : Stmt) (k : Expr → Expr → List Stmt → List Stmt → Pos → Bool) : Bool := if h : e.ctorIdx = 9 then Stmt.For.elim (motive_2 := fun _ => Bool) e h k else false
theorem onFor_el {k : Expr → Expr → List Stmt → List Stmt → Pos → Bool} {G : Stmt → Prop} (H : ∀ a b c d f, k a b c d f = true → G (.For a b c d f)) (e : Stmt) (h : onFor e k = true) : G e :=
  dite_el (fun q => Stmt.For.elim (motive_2 := fun e => ∀ q, Stmt.For.elim (motive_2 := fun _ => Bool) e q k = true → G e) e q (fun a b c d f _ h => H a b c d f h) q) h
noncomputable def onWhile (e : Stmt) (k : Expr → List Stmt → List Stmt → Pos → Bool) : Bool := if h : e.ctorIdx = 11 then Stmt.While.elim (motive_2 := fun _ => Bool) e h k else false
theorem onWhile_el {k : Expr → List Stmt → List Stmt → Pos → Bool} {G : Stmt → Prop} (H : ∀ a b c d, k a b c d = true → G (.While a b c d)) (e : Stmt) (h : onWhile e k = true) : G e :=
  dite_el (fun q => Stmt.While.elim (motive_2 := fun e => ∀ q, Stmt.While.elim (motive_2 := fun _ => Bool) e q k = true → G e) e q (fun a b c d _ h => H a b c d h) q) h
noncomputable def onIf (e : Stmt) (k : Expr → List Stmt → List Stmt → Pos → Bool) : Bool := if h : e.ctorIdx = 12 then Stmt.If.elim (motive_2 := fun _ => Bool) e h k else false
theorem onIf_el {k : Expr → List Stmt → List Stmt → Pos → Bool} {G : Stmt → Prop} (H : ∀ a b c d, k a b c d = true → G (.If a b c d)) (e : Stmt) (h : onIf e k = true) : G e :=
  dite_el (fun q => Stmt.If.elim (motive_2 := fun e => ∀ q, Stmt.If.elim (motive_2 := fun _ => Bool) e q k = true → G e) e q (fun a b c d _ h => H a b c d h) q) h
noncomputable def onTry (e : Stmt) (k : List Stmt → List ExceptHandler → List Stmt → List Stmt → Pos → Bool) : Bool := if h : e.ctorIdx = 17 then Stmt.Try.elim (motive_2 := fun _ => Bool) e h k else false
theorem onTry_el {k : List Stmt → List ExceptHandler → List Stmt → List Stmt → Pos → Bool} {G : Stmt → Prop} (H : ∀ a b c d f, k a b c d f = true → G (.Try a b c d f)) (e : Stmt) (h : onTry e k = true) : G e :=
  dite_el (fun q => Stmt.Try.elim (motive_2 := fun e => ∀ q, Stmt.Try.elim (motive_2 := fun _ => Bool) e q k = true → G e) e q (fun a b c d f _ h => H a b c d f h) q) h
noncomputable def onAssert (e : Stmt) (k : Expr → Option Expr → Pos → Bool) : Bool := if h : e.ctorIdx = 19 then Stmt.Assert.elim (motive_2 := fun _ => Bool) e h k else false
theorem onAssert_el {k : Expr → Option Expr → Pos → Bool} {G : Stmt → Prop} (H : ∀ a b c, k a b c = true → G (.Assert a b c)) (e : Stmt) (h : onAssert e k = true) : G e :=
  dite_el (fun q => Stmt.Assert.elim (motive_2 := fun e => ∀ q, Stmt.Assert.elim (motive_2 := fun _ => Bool) e q k = true → G e) e q (fun a b c _ h => H a b c h) q) h
noncomputable def onEx (e : Stmt) (k : Expr → Pos → Bool) : Bool := if h : e.ctorIdx = 24 then Stmt.Expr.elim (motive_2 := fun _ => Bool) e h k else false
theorem onEx_el {k : Expr → Pos → Bool} {G : Stmt → Prop} (H : ∀ a b, k a b = true → G (.Expr a b)) (e : Stmt) (h : onEx e k = true) : G e :=
  dite_el (fun q => Stmt.Expr.elim (motive_2 := fun e => ∀ q, Stmt.Expr.elim (motive_2 := fun _ => Bool) e q k = true → G e) e q (fun a b _ h => H a b h) q) h
noncomputable def onBreak (e : Stmt) (k : Pos → Bool) : Bool := if h : e.ctorIdx = 26 then Stmt.Break.elim (motive_2 := fun _ => Bool) e h k else false
theorem onBreak_el {k : Pos → Bool} {G : Stmt → Prop} (H : ∀ a, k a = true → G (.Break a)) (e : Stmt) (h : onBreak e k = true) : G e :=
  dite_el (fun q => Stmt.Break.elim (motive_2 := fun e => ∀ q, Stmt.Break.elim (motive_2 := fun _ => Bool) e q k = true → G e) e q (fun a _ h => H a h) q) h
noncomputable def onAny (e : PE) (k : Bool) : Bool := if h : e.ctorIdx = 0 then PE.any.elim (motive := fun _ => Bool) e h k else false
theorem onAny_el {k : Bool} {G : PE → Prop} (H : k = true → G .any) (e : PE) (h : onAny e k = true) : G e :=
  dite_el (fun q => PE.any.elim (motive := fun e => ∀ q, PE.any.elim (motive := fun _ => Bool) e q k = true → G e) e q (fun _ h => H  h) q) h
noncomputable def onLit (e : PE) (k : PV → Bool) : Bool := if h : e.ctorIdx = 1 then PE.lit.elim (motive := fun _ => Bool) e h k else false
theorem onLit_el {k : PV → Bool} {G : PE → Prop} (H : ∀ a, k a = true → G (.lit a)) (e : PE) (h : onLit e k = true) : G e :=
  dite_el (fun q => PE.lit.elim (motive := fun e => ∀ q, PE.lit.elim (motive := fun _ => Bool) e q k = true → G e) e q (fun a _ h => H a h) q) h
noncomputable def onVar (e : PE) (k : Nat → Bool) : Bool := if h : e.ctorIdx = 2 then PE.var.elim (motive := fun _ => Bool) e h k else false
theorem onVar_el {k : Nat → Bool} {G : PE → Prop} (H : ∀ a, k a = true → G (.var a)) (e : PE) (h : onVar e k = true) : G e :=
  dite_el (fun q => PE.var.elim (motive := fun e => ∀ q, PE.var.elim (motive := fun _ => Bool) e q k = true → G e) e q (fun a _ h => H a h) q) h
noncomputable def onNil (e : PE) (k : Bool) : Bool := if h : e.ctorIdx = 20 then PE.nil.elim (motive := fun _ => Bool) e h k else false
theorem onNil_el {k : Bool} {G : PE → Prop} (H : k = true → G .nil) (e : PE) (h : onNil e k = true) : G e :=
  dite_el (fun q => PE.nil.elim (motive := fun e => ∀ q, PE.nil.elim (motive := fun _ => Bool) e q k = true → G e) e q (fun _ h => H  h) q) h
noncomputable def onCons (e : PE) (k : PE → PE → Bool) : Bool := if h : e.ctorIdx = 21 then PE.cons.elim (motive := fun _ => Bool) e h k else false
theorem onCons_el {k : PE → PE → Bool} {G : PE → Prop} (H : ∀ a b, k a b = true → G (.cons a b)) (e : PE) (h : onCons e k = true) : G e :=
  dite_el (fun q => PE.cons.elim (motive := fun e => ∀ q, PE.cons.elim (motive := fun _ => Bool) e q k = true → G e) e q (fun a b _ h => H a b h) q) h
section
variable {α β : Type}
noncomputable def sm (o : Option α) (f : α → Bool) : Bool := match o with
  | some a => f a
  | none => false
theorem sm_el {f : α → Bool} {G : Option α → Prop} (H : ∀ a, f a = true → G (some a)) (o : Option α) (h : sm o f = true) : G o := by
  cases o with
  | none => cases h
  | some a => exact H a h
noncomputable def on0 (l : List α) (b : Bool) : Bool := l.isEmpty && b
theorem on0_el {b : Bool} {G : List α → Prop} (H : b = true → G []) (l : List α) (h : on0 l b = true) : G l := by
  cases l with
  | nil => exact H h
  | cons => cases h
noncomputable def onC (l : List α) (k : α → List α → Bool) : Bool := match l with
  | x :: l => k x l
  | [] => false
theorem onC_el {k : α → List α → Bool} {G : List α → Prop} (H : ∀ x l, k x l = true → G (x :: l)) (l : List α) (h : onC l k = true) : G l := by
  cases l with
  | nil => cases h
  | cons x r => exact H x r h
noncomputable def on1 (l : List α) (k : α → Bool) : Bool := onC l fun x l => on0 l (k x)
theorem on1_el {k : α → Bool} {G : List α → Prop} (H : ∀ x, k x = true → G [x]) (l : List α) (h : on1 l k = true) : G l := onC_el (fun x l h => on0_el (G := fun l => G (x :: l)) (H x) l h) l h
noncomputable def on2 (l : List α) (k : α → α → Bool) : Bool := onC l fun x l => on1 l (k x)
theorem on2_el {k : α → α → Bool} {G : List α → Prop} (H : ∀ x y, k x y = true → G [x, y]) (l : List α) (h : on2 l k = true) : G l := onC_el (fun x l h => on1_el (G := fun l => G (x :: l)) (H x) l h) l h
noncomputable def on3 (l : List α) (k : α → α → α → Bool) : Bool := onC l fun x l => on2 l (k x)
theorem on3_el {k : α → α → α → Bool} {G : List α → Prop} (H : ∀ x y z, k x y z = true → G [x, y, z]) (l : List α) (h : on3 l k = true) : G l := onC_el (fun x l h => on2_el (G := fun l => G (x :: l)) (H x) l h) l h
theorem and_t {a b : Bool} (h : (a && b) = true) : a = true ∧ b = true := by
  cases a
  · cases h
  · exact ⟨rfl, h⟩
theorem and_el {a b : Bool} {G : Prop} (H : a = true → b = true → G) (h : (a && b) = true) : G := H (and_t h).1 (and_t h).2
theorem or_el {a b : Bool} {G : Prop} (H : a = true → G) (H' : b = true → G) (h : (a || b) = true) : G := by
  cases a
  · exact H' h
  · exact H rfl
/-- an equation at the head: put in -/
theorem eq_el [BEq α] [LawfulBEq α] {y : α} {b : α → Bool} {G : α → Prop} (H : b y = true → G y) (x : α) (h : (x == y && b x) = true) : G x := by
  cases eq_of_beq (and_t h).1
  exact H (and_t h).2
end
noncomputable def isUSub : UnaryOp → Bool
  | .USub => true
  | _ => false
theorem isUSub_el {G : UnaryOp → Prop} (H : G .USub) (o : UnaryOp) (h : isUSub o = true) : G o := by cases o <;> first | exact H | cases h
noncomputable def isNotOp : UnaryOp → Bool
  | .Not => true
  | _ => false
theorem isNotOp_el {G : UnaryOp → Prop} (H : G .Not) (o : UnaryOp) (h : isNotOp o = true) : G o := by cases o <;> first | exact H | cases h
noncomputable def isAndOp : BoolOp → Bool
  | .And => true
  | .Or => false
theorem isAndOp_el {G : BoolOp → Prop} (H : G .And) (o : BoolOp) (h : isAndOp o = true) : G o := by cases o <;> first | exact H | cases h
theorem isOrOp_el {G : BoolOp → Prop} (H : G .Or) (o : BoolOp) (h : (!isAndOp o) = true) : G o := by cases o <;> first | exact H | cases h
noncomputable def isNoneV : PV → Bool
  | .none => true
  | _ => false
theorem isNoneV_el {G : PV → Prop} (H : G .none) (v : PV) (h : isNoneV v = true) : G v := by cases v <;> first | exact H | cases h
noncomputable def isTrueV : PV → Bool
  | .bool b => b
  | _ => false
theorem isTrueV_el {G : PV → Prop} (H : G (.bool true)) (v : PV) (h : isTrueV v = true) : G v := by
  cases v <;> first | (cases (show _ = true from h); exact H) | cases h
noncomputable def negInt (v : PV) : Const → Bool
  | .int i => litIs v (.int (-i))
  | _ => false
theorem negInt_el {v : PV} {G : Const → Prop} (H : ∀ i, litIs v (.int (-i)) = true → G (.int i)) (c : Const) (h : negInt v c = true) : G c := by
  cases c <;> first | exact H _ h | cases h
noncomputable def isStrC (l : List Nat) : Const → Bool
  | .str s => s.cps.toList == l
  | _ => false
theorem isStrC_el {l : List Nat} {G : Const → Prop} (H : ∀ s : Str, s.cps.toList = l → G (.str s)) (c : Const) (h : isStrC l c = true) : G c := by
  cases c <;> first | exact H _ (eq_of_beq h) | cases h

noncomputable def isVarNm (y : Nat) (x : Expr) : Bool := onName x fun n _ => n == nm y && n != ("__debug__" : Str)
noncomputable def chkJoin (F : Forms) (tr : Bool) (ns : List (Str × NameKind)) (as : PE) (e : Expr) : Bool := onCons as fun a r => onVar a fun y => onNil r <| tr && F.join ns e (isVarNm y)
noncomputable def chkT (ns : List (Str × NameKind)) (e : Expr) (k : List Expr → Bool) : Bool := onCall e fun f es kw pos => on0 kw <| onAttribute f fun o n ap => on1 es fun g => onName g fun g _ => n == ("translate" : Str) && (notCall o && (ap.endLine == pos.line && (g == ("_special_chars_map" : Str) && (isGlob ns g && k [o]))))
noncomputable def chkI (ns : List (Str × NameKind)) (p : Prim) (f : Str) (es : List Expr) (k : List Expr → Bool) : Bool := sm (isaName p) fun g => f == ("isinstance" : Str) && on2 es fun x y => onName y fun g' _ => g' == g.1 && (isGlob ns g' && k [x])
noncomputable def chkN (p : Prim) (f : Str) (es : List Expr) (k : List Expr → Bool) : Bool := sm (primName p) fun g => f == g.1 && k es
noncomputable def chkG (ns : List (Str × NameKind)) (p : Prim) (e : Expr) (k : List Expr → Bool) : Bool := onCall e fun f es kw pos => on0 kw <| noStar es && (onName f fun f _ => isGlob ns f && (chkI ns p f es k || chkN p f es k))
noncomputable def isRe : Prim → Bool
  | .reSub => true
  | _ => false
theorem isRe_el {G : Prim → Prop} (H : G .reSub) (p : Prim) (h : isRe p = true) : G p := by cases p <;> first | exact H | cases h
noncomputable def isJoinE : Prim → Bool
  | .joinEsc => true
  | _ => false
theorem isJoinE_el {G : Prim → Prop} (H : G .joinEsc) (p : Prim) (h : isJoinE p = true) : G p := by cases p <;> first | exact H | cases h
noncomputable def isTransl : Prim → Bool
  | .transl => true
  | _ => false
theorem isTransl_el {G : Prim → Prop} (H : G .transl) (p : Prim) (h : isTransl p = true) : G p := by cases p <;> first | exact H | cases h
noncomputable def chkP (F : Forms) (tr : Bool) (ns : List (Str × NameKind)) (p : Prim) (as : PE) (e : Expr) (k : List Expr → Bool) : Bool :=
  isRe p && (tr && F.sub ns e fun x => k [x]) || (isJoinE p && chkJoin F tr ns as e || (isTransl p && chkT ns e k || chkG ns p e k))
theorem primName_bi {p : Prim} {g : Str × Value} (h : primName p = some g) : g.1 ∈ biNames ∧ bootBuiltins g.1 = some g.2 ∧ ∀ hp, Callable hp g.2 := by
  cases p <;> first | (injection h with h; subst h; exact ⟨by decide, rfl, fun _ => by constructor⟩) | cases h
theorem isaName_bi {p : Prim} {g : Str × String} (h : isaName p = some g) : g.1 ∈ biNames ∧ bootBuiltins g.1 = some (.type g.2) := by
  cases p <;> first | (injection h with h; subst h; exact ⟨by decide, rfl⟩) | cases h
noncomputable def okNames (ns : List (Str × NameKind)) (sc : Scope) : Bool := sc.names.all fun y => y.2 != .cell && (y.2 != .local || sc.names.lookup y.1 == some .local) && (y.2 != .free || ns.lookup y.1 == some .cell)
noncomputable def okCaps (ns : List (Str × NameKind)) (sc : Scope) (caps : List Nat) : Bool := caps.all fun y => sc.names.lookup (nm y) == some .free && ns.lookup (nm y) == some .cell
noncomputable def onPart (o : Option Expr) (p : PE) (k : Expr → Bool) : Bool := match o with
  | none => onLit p isNoneV
  | some e => k e
noncomputable def onIfs (l : List Expr) (p : PE) (k : Expr → Bool) : Bool := match l with
  | [] => onLit p isTrueV
  | e :: l => on0 l (k e)
theorem onIfs_el {k : Expr → Bool} {G : List Expr → PE → Prop} (p : PE) (H : G [] (.lit (.bool true))) (H' : ∀ c, k c = true → G [c] p) (l : List Expr) (h : onIfs l p k = true) : G l p := by
  cases l with
  | nil => exact onLit_el (G := fun p => G [] p) (fun v h => isTrueV_el (G := fun v => G [] (.lit v)) H v h) p h
  | cons e l => exact on0_el (G := fun l => G (e :: l) p) (fun h => H' e h) l h

mutual
noncomputable def chkE (F : Forms) (tr : Bool) (ns : List (Str × NameKind)) : PE → Expr → Bool
  | .lit v, e => (onConstant e fun c _ _ => litIs v c) || onUnaryOp e fun o a _ => isUSub o && onConstant a fun c _ _ => negInt v c
  | .var x, e => onName e fun n _ => n == nm x && n != ("__debug__" : Str)
  | .digits, e => onName e fun n _ => n == ("digits" : Str) && isGlob ns n
  | .bin o a b, e => onBinOp e fun l op r _ => op == opn o && (chkE F tr ns a l && chkE F tr ns b r)
  | .not a, e => onUnaryOp e fun o x _ => isNotOp o && chkE F tr ns a x
  | .and a b, e => onBoolOp e fun o l _ => isAndOp o && on2 l fun x y => chkE F tr ns a x && chkE F tr ns b y
  | .or a b, e => onBoolOp e fun o l _ => !isAndOp o && on2 l fun x y => chkE F tr ns a x && (onAny b true || chkE F tr ns b y)
  | .ite c a b, e => onIfExp e fun x y z _ => chkE F tr ns c x && (chkE F tr ns a y && chkE F tr ns b z)
  | .cmp o a b, e => onCompare e fun l ops rs _ => on1 ops fun op => on1 rs fun r => op == copn o && (behindInMarks op r == false && (chkE F tr ns a l && chkE F tr ns b r))
  | .cmp2 o p a b c, e => onCompare e fun l ops rs _ => on2 ops fun op op' => on2 rs fun m r => op == copn o && (op' == copn p && (behindInMarks op' r == false && (chkE F tr ns a l && (chkE F tr ns b m && chkE F tr ns c r))))
  | .list as, e => onList e fun es _ => noStar es && (decide (es.length ≤ big) && chkA F tr ns as es)
  | .tup as, e => onTuple e fun es _ _ => noStar es && (decide (es.length ≤ big) && chkA F tr ns as es)
  | .idx o i, e => onSubscript e fun v sl _ => chkE F tr ns o v && chkE F tr ns i sl
  | .slice o lo hi, e => onSubscript e fun v sl _ => onSlice sl fun l u t _ => t.isNone && (chkE F tr ns o v && (onPart l lo (chkE F tr ns lo) && onPart u hi (chkE F tr ns hi)))
  | .prim p as, e => chkP F tr ns p as e (chkA F tr ns as)
  | .meth p a as, e => onCall e fun f es kw pos => on0 kw <| noStar es && (onAttribute f fun o n ap => notCall o && (decide (es.length < 20) && (ap.endLine == pos.line && (methName p == some n && (chkE F tr ns a o && chkA F tr ns as es)))))
  | .call f as, e => onCall e fun g es kw _ => on0 kw <| onName g fun g _ => g == fname f && (isGlob ns g && (noStar es && chkA F tr ns as es))
  | .comp x caps elt it cond, e => onListComp e fun el gs sc _ => on1 gs fun g => onName g.target fun n _ => g.is_async == 0 && (n == nm x && (decide (x < tab.length) && (sc.kind == .function && (okNames ns sc && (sc.names.lookup n == some .local &&
      (okCaps ns sc caps && (notSet g.iter && (chkE F tr ns it g.iter && (chkE F tr (relab ns sc.names) elt el && onIfs g.ifs cond (chkE F tr (relab ns sc.names) cond))))))))))
  | .fstr p v r, e => onJoinedStr e fun l _ => on3 l fun a m b => onConstant a fun a _ _ => onFormattedValue m fun m k f _ => onConstant b fun b _ _ => k == -1 && (f.isNone && (isStrC p a && (isStrC r b && (decide (p.length + r.length ≤ big) && chkE F tr ns v m))))
  | _, _ => false
noncomputable def chkA (F : Forms) (tr : Bool) (ns : List (Str × NameKind)) : PE → List Expr → Bool
  | .nil, es => es.isEmpty
  | .cons a r, es => onC es fun e es => chkE F tr ns a e && chkA F tr ns r es
  | _, _ => false
end
end
end Mine
namespace Mine
open _root_.PySem _root_.PySem.Calls _root_.PySem.W _root_.PyProof.Rows

/-- what stays the same throughout -/
structure Par where
  prog : Program
  w : World
  ok : Fn → DefRec → Bool
  P : Addr
  mg : Str → Option Value
  mb : Str → Option Value
  C : Orac
  d : Nat
  F : Forms
  tr : Bool

section
variable (κ : Par)
/-- the place of an evaluation -/
structure Cx (ns : List (Str × NameKind)) (A : Around) (env : Env) (γ : List Addr) (σ : St) (s : Shared) : Prop where
  room : Room κ.d A
  eo : EnvOk κ.tr ns env
  rel : RelE κ.ok κ.P κ.mg κ.mb env γ σ s
noncomputable def EvOk (ns : List (Str × NameKind)) (pe : PE) (e : Expr) : Prop := ∀ {A : Around} {env : Env} {γ : List Addr} {σ : St} {s : Shared} {K : PV → Prop} {Q : Value → Shared → Prop}, Cx κ ns A env γ σ s → wE κ.C pe σ K →
  (∀ v s' z, K z → Ext κ.P s s' → Is s'.heap γ v z → Q v s') → wpB (model κ.prog κ.w) A (eval e env) Q s
noncomputable def TrOk (ns : List (Str × NameKind)) (pe : PE) (e : Expr) : Prop := ∀ {A : Around} {env : Env} {γ : List Addr} {σ : St} {s : Shared} {K : PV → Bool → Prop} {Q : Bool → Shared → Prop}, Cx κ ns A env γ σ s → wE κ.C pe σ (fun x => oW (truth x) (K x)) →
  (∀ b s' x, K x b → truth x = some b → Ext κ.P s s' → Q b s') → wpB (model κ.prog κ.w) A (isTrue e env (eval e env)) Q s
noncomputable def Both (ns : List (Str × NameKind)) (pe : PE) (e : Expr) : Prop := EvOk κ ns pe e ∧ TrOk κ ns pe e
/-- arguments, one behind the other -/
noncomputable def ArgB (A : Around) (env : Env) (γ : List Addr) : List Expr → Shared → (List PV → Prop) → Prop
  | [], _, K => K []
  | e :: es, s, K => ∀ {Q : Value → Shared → Prop}, (∀ v s' x, Ext κ.P s s' → Is s'.heap γ v x → ArgB A env γ es s' (fun l => K (x :: l)) → Q v s') → wpB (model κ.prog κ.w) A (eval e env) Q s
noncomputable def ArgOk (ns : List (Str × NameKind)) (pe : PE) (es : List Expr) : Prop := ∀ {A : Around} {env : Env} {γ : List Addr} {σ : St} {s : Shared} {K : PV → Prop}, Cx κ ns A env γ σ s → wE κ.C pe σ K → ArgB κ A env γ es s (fun l => K (.tup l))
noncomputable def Plain (e : Expr) : Prop := ∀ env, isTrue e env (eval e env) = (do let v ← eval e env; standAt e.pos; holding [v] (truthy v))

/-- what the calls are known to do -/
structure Side : Prop where
  cal : ∀ {A : Around} {f : Fn} {vs : List Value} {xs : List PV} {K : PV → Prop} {Q : Value → Shared → Prop} {s : Shared}, Room κ.d A → Wd κ.ok κ.P κ.mg κ.mb s.heap → IsAll s.heap [] vs xs → κ.C f xs K →
    (∀ v s' z, K z → Ext κ.P s s' → Is s'.heap [] v z → Q v s') → wpB (model κ.prog κ.w) A (call (.ref (faddr f)) vs) Q s
  fn : ∀ {A : Around} {p : Prim} {g : Str × Value} {vs : List Value} {xs : List PV} {z : PV} {s : Shared} {γ : List Addr} {led : List PObj}, primName p = some g → Room κ.d A → Wd κ.ok κ.P κ.mg κ.mb s.heap → LedIs s.heap γ led → IsAll s.heap γ vs xs → primEv led p xs = some z →
    wpB (model κ.prog κ.w) A (call g.2 vs) (fun v s' => Ext κ.P s s' ∧ Is s'.heap γ v z) s
  isa : ∀ {A : Around} {p : Prim} {g : Str × String} {v : Value} {xs : List PV} {z : PV} {s : Shared} {γ : List Addr} {led : List PObj}, isaName p = some g → Room κ.d A → Wd κ.ok κ.P κ.mg κ.mb s.heap → LedIs s.heap γ led → IsAll s.heap γ [v] xs → primEv led p xs = some z →
    wpB (model κ.prog κ.w) A (call (.builtin "isinstance") [v, .type g.2]) (fun v s' => Ext κ.P s s' ∧ Is s'.heap γ v z) s
  meth : ∀ {p : Prim} {n : Str} {o : Value} {x : PV} {s : Shared} {γ : List Addr} {led : List PObj}, methName p = some n → rcv p x = true → Wd κ.ok κ.P κ.mg κ.mb s.heap → LedIs s.heap γ led → Is s.heap γ o x →
    ∃ id, Meth s o n id ∧ ∀ {A : Around} {s' : Shared} {vs : List Value} {xs : List PV} {z : PV}, Room κ.d A → Ext κ.P s s' → IsAll s'.heap γ vs xs → primEv led p (x :: xs) = some z → wpB (model κ.prog κ.w) A (call (.builtin id) (o :: vs)) (fun v s'' => Ext κ.P s' s'' ∧ Is s''.heap γ v z) s'
  transl : ∀ {o : Value} {x : PV} {z : PV} {s : Shared} {γ : List Addr} {led : List PObj}, Wd κ.ok κ.P κ.mg κ.mb s.heap → Is s.heap γ o x → primEv led .transl [x] = some z →
    ∃ id mv, κ.mg ("_special_chars_map" : Str) = some mv ∧ Meth s o ("translate" : Str) id ∧ ∀ {A : Around}, Room κ.d A → wpB (model κ.prog κ.w) A (call (.builtin id) [o, mv]) (fun v s'' => Ext κ.P s s'' ∧ Is s''.heap γ v z) s
  sub : ∀ {ns : List (Str × NameKind)} {pe : PE} {e : Expr} {k : Expr → Bool}, κ.tr = true → κ.F.sub ns e k = true → (∀ x, k x = true → ArgOk κ ns pe [x]) → EvOk κ ns (.prim .reSub pe) e ∧ Plain e
  join : ∀ {ns : List (Str × NameKind)} {y : Nat} {e : Expr}, κ.tr = true → κ.F.join ns e (isVarNm y) = true → EvOk κ ns (.prim .joinEsc (.cons (.var y) .nil)) e ∧ Plain e
end

section
variable {κ : Par} {ns : List (Str × NameKind)}
theorem Cx.to {A : Around} {env : Env} {γ : List Addr} {σ : St} {s s' : Shared} (c : Cx κ ns A env γ σ s) (E : Ext κ.P s s') : Cx κ ns A env γ σ s' := ⟨c.room, c.eo, c.rel.ext E⟩
theorem Cx.tab {A : Around} {env : Env} {γ : List Addr} {σ : St} {s : Shared} (c : Cx κ ns A env γ σ s) : TabIs κ.P s.heap := c.rel.wd.tab
theorem ArgB.spliced {A : Around} {env : Env} {γ : List Addr} : ∀ {es : List Expr} {K : List PV → Prop} {s : Shared} {Q : List Value → Shared → Prop}, ArgB κ A env γ es s K → TabIs κ.P s.heap →
    (∀ vs s' l, K l → vs.length = es.length → Ext κ.P s s' → IsAll s'.heap γ vs l → Q vs s') → wpB (model κ.prog κ.w) A (PySem.spliced (es.map fun e => (false, eval e env))) Q s
  | [], K, s, Q, h, _, hQ => wpB_pure (hQ [] s [] h rfl (Ext.refl _) .nil)
  | e :: es, K, s, Q, h, T, hQ => wpB_spliced_cons (h fun v s₁ x E₁ hv hr => ArgB.spliced hr (T.ext E₁) fun vs s₂ l k hn E₂ hvs => hQ (v :: vs) s₂ (x :: l) k (congrArg (· + 1) hn) (E₁.trans E₂) (.cons (hv.ext (T.ext E₁) E₂.keep) hvs))

theorem EvOk.both {pe : PE} {e : Expr} (hs : Plain e) (h : EvOk κ ns pe e) : Both κ ns pe e :=
  ⟨h, fun c ht hQ => wpB_isTrue_plain (hs _) (h c ht fun v s₁ z k E hv => oW_el k fun b hb k => leaf_truth (P := κ.P) hb hv fun s₂ E₂ => hQ b s₂ z k hb (E.trans E₂))⟩

theorem Name_global {prog : Program} {w : World} {ok : Fn → DefRec → Bool} {P : Addr} {mg mb : Str → Option Value} {tr : Bool} {ns : List (Str × NameKind)} {env : Env} {A : Around} {γ : List Addr} {σ : St} {s : Shared} {n : Str} {pos : Pos} {v : Value} {Q : Value → Shared → Prop} (he : EnvOk tr ns env) (R : RelE ok P mg mb env γ σ s) (hg : isGlob ns n = true)
    (hv : mg n = some v ∨ (mg n = none ∧ mb n = some v)) (h : Q v s) : wpB (model prog w) A (eval (.Name n pos) env) Q s := by
  unfold isGlob at hg
  rw [Bool.and_eq_true] at hg
  have hk : env.kindOf n = some .globalImplicit := by unfold Env.kindOf; rw [he.names]; exact eq_of_beq hg.1
  have hd : (n == ("__debug__" : Str)) = false := by
    have := hg.2
    simpa using this
  refine wpB_leaf (Calls.Name_function_global he.kind hk ?_ hd)
  rcases hv with hv | ⟨h0, hv⟩
  · exact Calls.loadGlobal_global (he.glob ▸ R.wd.g) hv h
  · exact Calls.loadGlobal_builtin (he.glob ▸ R.wd.g) h0 (he.bi ▸ R.wd.b) hv h

theorem callK_el {h : Heap} {γ : List Addr} {led : List PObj} {v : Value} {z : PV} {K : PV → Prop} {G : Prop} (hv : Is h [] v z) (emp : led.isEmpty = true → γ = []) (k : callK led K z) (H : K z → Is h γ v z → G) : G := by
  cases hv with
  | none => exact H k .none
  | bool b => exact H k (.bool b)
  | int i t => exact H k (.int i t)
  | str x t l e => exact H k (.str x t l e)
  | bytes x t l e => exact H k (.bytes x t l e)
  | list a vs xs h1 h2 h3 h4 => exact gd_el k fun q k => by cases emp q; exact H k (.list a vs xs h1 h2 h3 h4)
  | tup a vs xs h1 h2 h3 => exact gd_el k fun q k => by cases emp q; exact H k (.tup a vs xs h1 h2 h3)
  | range => exact k.elim
  | ref => exact k.elim
  | meth => exact k.elim
theorem wpB_joinParts_cons {prog : Program} {w : World} {A : Around} {s : Shared} {out : Str} {x : Sem Value} {rest : List (Sem Value)} {Q : Value → Shared → Prop}
    (h : wpB (model prog w) A x (fun v s₁ => ∃ y t, v = .str y t ∧ (out ++ y).length ≤ sizeLine ∧ wpB (model prog w) A (joinParts (out ++ y) rest) Q s₁) s) : wpB (model prog w) A (joinParts out (x :: rest)) Q s := by
  rw [joinParts]
  refine wpB_bindm h fun v s₁ h₁ => ?_
  obtain ⟨y, t, rfl, hz, hr⟩ := h₁
  have hz' : ¬ (out.length + y.length > sizeLine) := by rw [← strLen_append]; exact Nat.not_lt.mpr hz
  refine wpB_bind (wpB_pure ?_)
  show wpB (model prog w) A (if out.length + y.length > sizeLine then _ else _) Q s₁
  rw [if_neg hz']
  exact wpB_bind (wpB_pure hr)


noncomputable def PartOk (κ : Par) (ns : List (Str × NameKind)) (pe : PE) (oe : Option Expr) : Prop := ∀ {A : Around} {env : Env} {γ : List Addr} {σ : St} {s : Shared} {K : PV → Prop} {Q : Value → Shared → Prop}, Cx κ ns A env γ σ s → wE κ.C pe σ K → (∀ v s' z, K z → Ext κ.P s s' → Is s'.heap γ v z → Q v s') → wpB (model κ.prog κ.w) A (evalPart oe env) Q s
/-- a comprehension, whatever is done with what it gives -/
noncomputable def CompOk (κ : Par) (ns : List (Str × NameKind)) (pe : PE) (el iter : Expr) (n : Str) (px : Pos) (ifs : List Expr) (scope : Scope) (pos : Pos) : Prop := ∀ {A : Around} {env : Env} {γ : List Addr} {σ : St} {s : Shared} {K : PV → Prop} {p2 : Pos} (use : Option (Value → Sem Unit)) (Q : Value → Shared → Prop), Cx κ ns A env γ σ s → wE κ.C pe σ K →
  (∀ acc L t m zs, K (.list zs) → Ext κ.P s t → Is t.heap γ (.ref acc) (.list zs) → t.heap.Ns L m → s.heap.get? L = none → L ≠ acc → compPostB κ.prog κ.w A use Q (.ref acc) L t) →
  wpB (model κ.prog κ.w) A (comprehension (.ListComp el [⟨.Name n px, iter, ifs, 0⟩] scope pos) scope env p2 (newList []) false (eval iter env) use) Q s
theorem comp_el {x : Nat} {caps : List Nat} {elt it cond : PE} {G : Expr → Prop} (ihi : ∀ ns e, chkE κ.F κ.tr ns it e = true → Both κ ns it e) (ihe : ∀ ns e, chkE κ.F κ.tr ns elt e = true → Both κ ns elt e) (ihc : ∀ ns e, chkE κ.F κ.tr ns cond e = true → Both κ ns cond e)
    (H : ∀ el n px iter ifs scope pos, CompOk κ ns (.comp x caps elt it cond) el iter n px ifs scope pos → G (.ListComp el [⟨.Name n px, iter, ifs, 0⟩] scope pos)) : ∀ e, chkE κ.F κ.tr ns (.comp x caps elt it cond) e = true → G e := by
  refine onListComp_el fun el gs scope pos => ?_
  revert gs
  refine on1_el fun g => ?_
  obtain ⟨tg, iter, ifs, k⟩ := g
  dsimp only
  revert tg
  refine onName_el fun n px => ?_
  revert k
  refine eq_el ?_
  revert n
  refine eq_el fun h => ?_
  obtain ⟨h2, h⟩ := and_t h
  obtain ⟨h3, h⟩ := and_t h
  obtain ⟨h4, h⟩ := and_t h
  obtain ⟨h5, h⟩ := and_t h
  obtain ⟨h6, h⟩ := and_t h
  obtain ⟨h7, h⟩ := and_t h
  obtain ⟨h8, h⟩ := and_t h
  obtain ⟨h9, h10⟩ := and_t h
  refine H el (nm x) px iter ifs scope pos fun {A env γ σ s K p2} use Q c hz hQ => ?_
  unfold okNames at h4
  unfold okCaps at h6
  rw [List.all_eq_true] at h4 h6
  have h1 : ∀ y ∈ scope.names, y.2 ≠ .cell ∧ (y.2 = .local → scope.names.lookup y.1 = some .local) ∧ (y.2 = .free → ns.lookup y.1 = some .cell) := fun y hy => by
    have := h4 y hy
    simp only [Bool.and_eq_true, Bool.or_eq_true, bne_iff_ne, ne_eq, beq_iff_eq] at this
    exact ⟨this.1.1, fun q => this.1.2.resolve_left fun h => h q, fun q => this.2.resolve_left fun h => h q⟩
  refine comp_whole (K₀ := fun z => oW (iterOf z) fun l => l.length ≤ big ∧ _) (K := fun zs => K (.list zs)) c.room.handled c.eo c.rel (fun hQ => (ihi ns iter h8).1 c hz hQ) (fun z k => k) (eq_of_beq h3) (fun y hy => (h1 y hy).1) (fun y hy => (h1 y hy).2.1) (eq_of_beq h5) (of_decide_eq_true h2) (fun y hy => (h1 y hy).2.2)
    (fun y hy => ⟨eq_of_beq (and_t (h6 y hy)).1, eq_of_beq (and_t (h6 y hy)).2⟩) (fun v => by cases iter <;> first | rfl | cases h7) ?_ ?_ hQ
  · intro cenv acc v t K Q ec Rt
    refine onIfs_el (G := fun ifs cond => (wE κ.C cond (σ.has x caps v) fun z => oW (truth z) K) → (∀ b t', K b → Ext κ.P t t' → Q b t') → wpB (model κ.prog κ.w) A (testsOf ifs cenv) Q t) cond (fun k hQ => tests_nil (hQ true t k (Ext.refl _))) (fun e he k hQ => tests_one ((ihc _ e he).2 (K := fun _ => K) ⟨c.room, ec, Rt⟩ k fun b t' x k _ E => hQ b t' k E)) ifs h10
  · intro cenv acc v t K Q ec Rt k hQ
    exact (ihe _ el h9).1 ⟨c.room, ec, Rt⟩ k hQ

theorem sound (S : Side κ) : ∀ pe : PE, (∀ ns e, chkE κ.F κ.tr ns pe e = true → Both κ ns pe e) ∧ (∀ ns es, chkA κ.F κ.tr ns pe es = true → ArgOk κ ns pe es) := by
  have noA : ∀ {pe : PE}, (∀ ns es, chkA κ.F κ.tr ns pe es = false) → ∀ ns es, chkA κ.F κ.tr ns pe es = true → ArgOk κ ns pe es := fun h ns es q => absurd q (by rw [h]; exact Bool.false_ne_true)
  intro pe
  induction pe with
  | any => exact ⟨fun _ _ h => absurd h Bool.false_ne_true, noA fun _ _ => rfl⟩
  | lit v =>
    refine ⟨fun ns e => or_el ?_ ?_, noA fun _ _ => rfl⟩ <;> revert e
    · refine onConstant_el fun c k pos h => EvOk.both (fun _ => rfl) fun hc hz hQ => ?_
      cases v <;> cases c <;> first | cases h | skip
      · exact wpB_pure (hQ _ _ _ hz (Ext.refl _) .none)
      · cases eq_of_beq h
        exact wpB_pure (hQ _ _ _ hz (Ext.refl _) (.bool _))
      · cases eq_of_beq h
        exact wpB_leaf (wpAny_Constant_int (hQ _ _ _ hz Ext.toks (.int _ _)))
      · exact wpB_leaf (Calls.Constant_str (hQ _ _ _ hz Ext.toks (.str _ _ _ (eq_of_beq h))))
      · exact wpB_leaf (PySem.W.Constant_bytes (hQ _ _ _ hz Ext.toks (.bytes _ _ _ (by simpa using eq_of_beq h))))
    · refine onUnaryOp_el fun o a pos => and_el fun ho => ?_
      revert a
      refine onConstant_el fun c k p => ?_
      revert c
      refine negInt_el fun i h => isUSub_el (G := fun o => Both κ ns (.lit v) (.UnaryOp o (.Constant (.int i) k p) pos)) (EvOk.both (fun _ => rfl) fun hc hz hQ => ?_) o ho
      cases v <;> first | cases h | skip
      cases eq_of_beq h
      exact wpB_Neg fun t u => hQ _ _ _ hz Ext.toks (.int _ _)
  | var x =>
    refine ⟨fun ns => onName_el fun n pos => ?_, noA fun _ _ => rfl⟩
    revert n
    refine eq_el fun h => EvOk.both (fun _ => rfl) fun c hz hQ => oW_el hz fun z hz k => ?_
    have hd : (nm x == ("__debug__" : Str)) = false := by simpa using h
    cases (c.rel.var x z hz).2 with
    | loc hk m u hn hm hv => exact wpB_Name_local c.eo.kind hk hn hm hd (hQ _ _ _ k (Ext.refl _) hv)
    | cell hk cl u hc hu hv => exact wpB_Name_cell c.eo.kind hk hc hu hd (hQ _ _ _ k (Ext.refl _) hv)
  | digits =>
    refine ⟨fun ns => onName_el fun n pos => ?_, noA fun _ _ => rfl⟩
    revert n
    refine eq_el fun h => EvOk.both (fun _ => rfl) fun c hz hQ => ?_
    obtain ⟨arr, t, h1, h2⟩ := c.rel.wd.dig
    exact Name_global c.eo c.rel h (.inl h1) (hQ _ _ _ hz (Ext.refl _) (.bytes _ _ _ h2))
  | bin o a b iha ihb =>
    refine ⟨fun ns => onBinOp_el fun l op r pos => ?_, noA fun _ _ => rfl⟩
    revert op
    refine eq_el (and_el fun h1 h2 => EvOk.both (fun _ => rfl) fun c hz hQ => ?_)
    refine wpB_BinOp ((iha.1 ns l h1).1 c hz fun u s₁ x hz E₁ hu => (ihb.1 ns r h2).1 (c.to E₁) hz fun v s₂ y hz E₂ hv => binW_el hz fun z e k => ?_)
    have c₂ := (c.to E₁).to E₂
    exact leaf_binop e (hu.ext (c.to E₁).tab E₂.keep) hv c₂.rel.led c₂.tab fun r s₃ E₃ hr => hQ r s₃ z k ((E₁.trans E₂).trans E₃) hr
  | not a iha =>
    refine ⟨fun ns => onUnaryOp_el fun o x pos => and_el fun ho h => isNotOp_el (G := fun o => Both κ ns (.not a) (.UnaryOp o x pos)) ⟨fun c hz hQ => ?_, fun c hz hQ => ?_⟩ o ho, noA fun _ _ => rfl⟩
    · exact wpB_Not ((iha.1 ns x h).1 c hz fun u s₁ y k E₁ hu => oW_el k fun b hb k => leaf_truth (P := κ.P) hb hu fun s₂ E₂ => hQ _ _ _ k (E₁.trans E₂) (.bool _))
    · exact wpB_isTrue_Not ((iha.1 ns x h).2 (K := fun _ b => _) c hz fun b s₁ x k hb E => hQ _ _ _ k rfl E)
  | and a b iha ihb =>
    refine ⟨fun ns => onBoolOp_el fun o l pos => and_el fun ho => ?_, noA fun _ _ => rfl⟩
    revert l
    refine on2_el fun x y => and_el fun h1 h2 => isAndOp_el (G := fun o => Both κ ns (.and a b) (.BoolOp o [x, y] pos)) ⟨fun c hz hQ => ?_, fun c hz hQ => ?_⟩ o ho
    · refine wpB_BoolOp ((iha.1 ns x h1).1 c hz fun v s₁ z k E₁ hv => oW_el k fun t ht k => leaf_truth (P := κ.P) ht hv fun s₂ E₂ => ?_)
      cases t with
      | false => exact hQ _ _ _ k.k (E₁.trans E₂) (hv.ext (c.to E₁).tab E₂.keep)
      | true => exact (ihb.1 ns y h2).1 ((c.to E₁).to E₂) k.k fun r s₃ z k E₃ hr => hQ r s₃ z k ((E₁.trans E₂).trans E₃) hr
    · refine wpB_isTrue_BoolOp ((iha.1 ns x h1).2 (K := fun x t => BrW t _ _) c hz fun t s₁ x k ht E₁ => ?_)
      cases t with
      | false => exact oW_el k.k fun b hb k => by rw [ht] at hb; cases hb; exact hQ _ _ _ k ht E₁
      | true => exact (ihb.1 ns y h2).2 (c.to E₁) k.k fun b s₂ z k hb E₂ => hQ b s₂ z k hb (E₁.trans E₂)
  | or a b iha ihb =>
    refine ⟨fun ns => onBoolOp_el fun o l pos => and_el fun ho => ?_, noA fun _ _ => rfl⟩
    revert l
    refine on2_el fun x y => and_el fun h1 h2 => isOrOp_el (G := fun o => Both κ ns (.or a b) (.BoolOp o [x, y] pos)) ⟨fun c hz hQ => ?_, fun c hz hQ => ?_⟩ o ho
    · refine wpB_BoolOp ((iha.1 ns x h1).1 c hz fun v s₁ z k E₁ hv => oW_el k fun t ht k => leaf_truth (P := κ.P) ht hv fun s₂ E₂ => ?_)
      cases t with
      | true => exact hQ _ _ _ k.k (E₁.trans E₂) (hv.ext (c.to E₁).tab E₂.keep)
      | false => exact or_el (fun h2 => onAny_el (G := fun b => wE κ.C b _ _ → wpB _ _ _ _ _) (fun _ k => k.elim) b h2 k.k) (fun h2 => (ihb.1 ns y h2).1 ((c.to E₁).to E₂) k.k fun r s₃ z k E₃ hr => hQ r s₃ z k ((E₁.trans E₂).trans E₃) hr) h2
    · refine wpB_isTrue_BoolOp ((iha.1 ns x h1).2 (K := fun x t => BrW t _ _) c hz fun t s₁ x k ht E₁ => ?_)
      cases t with
      | true => exact oW_el k.k fun b hb k => by rw [ht] at hb; cases hb; exact hQ _ _ _ k ht E₁
      | false => exact or_el (fun h2 => onAny_el (G := fun b => wE κ.C b _ _ → wpB _ _ _ _ _) (fun _ k => k.elim) b h2 k.k) (fun h2 => (ihb.1 ns y h2).2 (c.to E₁) k.k fun b s₂ z k hb E₂ => hQ b s₂ z k hb (E₁.trans E₂)) h2
  | ite q a b ihc iha ihb =>
    refine ⟨fun ns => onIfExp_el fun x y y' pos => and_el fun h1 => and_el fun h2 h3 => ⟨fun c hz hQ => ?_, fun c hz hQ => ?_⟩, noA fun _ _ => rfl⟩
    · refine wpB_IfExp ((ihc.1 ns x h1).2 (K := fun _ t => BrW t _ _) c hz fun t s₁ x k ht E₁ => ?_)
      cases t with
      | true => exact (iha.1 ns y h2).1 (c.to E₁) k.k fun r s₂ z k E₂ hr => hQ r s₂ z k (E₁.trans E₂) hr
      | false => exact (ihb.1 ns y' h3).1 (c.to E₁) k.k fun r s₂ z k E₂ hr => hQ r s₂ z k (E₁.trans E₂) hr
    · refine wpB_isTrue_IfExp ((ihc.1 ns x h1).2 (K := fun _ t => BrW t _ _) c hz fun t s₁ x k ht E₁ => ?_)
      cases t with
      | true => exact (iha.1 ns y h2).2 (c.to E₁) k.k fun r s₂ z k ht E₂ => hQ r s₂ z k ht (E₁.trans E₂)
      | false => exact (ihb.1 ns y' h3).2 (c.to E₁) k.k fun r s₂ z k ht E₂ => hQ r s₂ z k ht (E₁.trans E₂)
  | cmp o a b iha ihb =>
    refine ⟨fun ns => onCompare_el fun l ops rs pos => ?_, noA fun _ _ => rfl⟩
    revert ops
    refine on1_el fun op => ?_
    revert rs
    refine on1_el fun r => ?_
    revert op
    refine eq_el (and_el fun hm => and_el fun h1 h2 => ?_)
    have key : ∀ {A : Around} {env : Env} {γ : List Addr} {σ : St} {s : Shared} {K : Bool → Prop} {Q : Value → Shared → Prop}, Cx κ ns A env γ σ s → (wE κ.C a σ fun x => wE κ.C b σ fun y => oW (cmpv σ.led o x y) K) → (∀ t s', K t → Ext κ.P s s' → Q (.bool t) s') →
        wpB (model κ.prog κ.w) A (eval l env) (fun u s₁ => wpB (model κ.prog κ.w) A (eval r env) (fun v s₂ => wpB (model κ.prog κ.w) A (compareOp (copn o) u v) Q s₂) s₁) s :=
      fun c hz hQ => (iha.1 ns l h1).1 c hz fun u s₁ x hz E₁ hu => (ihb.1 ns r h2).1 (c.to E₁) hz fun v s₂ y hz E₂ hv => oW_el hz fun t ht k =>
        leaf_cmp (P := κ.P) ht (hu.ext (c.to E₁).tab E₂.keep) hv ((c.to E₁).to E₂).rel.led (by have := c.room.units; unfold cLine; (first | lia | omega)) fun s₃ E₃ => hQ t s₃ k ((E₁.trans E₂).trans E₃)
    exact ⟨fun c hz hQ => wpB_Compare1 (eq_of_beq hm) (key c hz fun t s' k E => hQ _ _ _ k E (.bool t)),
      fun c hz hQ => wpB_isTrue_Compare1 (eq_of_beq hm) (key c hz fun t s' k E => wpB_leaf (wpAny_truthy_bool (hQ t s' _ k rfl E)))⟩
  | cmp2 o p a b q iha ihb ihc =>
    refine ⟨fun ns => onCompare_el fun l ops rs pos => ?_, noA fun _ _ => rfl⟩
    revert ops
    refine on2_el fun op op' => ?_
    revert rs
    refine on2_el fun m r => ?_
    revert op
    refine eq_el ?_
    revert op'
    refine eq_el (and_el fun hm => and_el fun h1 => and_el fun h2 h3 => ?_)
    have key : ∀ {A : Around} {env : Env} {γ : List Addr} {σ : St} {s : Shared} {K : Bool → Prop} {Q : Value → Shared → Prop} {Q' : Value → Shared → Prop}, Cx κ ns A env γ σ s →
        (wE κ.C a σ fun x => wE κ.C b σ fun y => oW (cmpv σ.led o x y) fun t => BrW t (wE κ.C q σ fun z => oW (cmpv σ.led p y z) K) (K false)) → (∀ t s', K t → Ext κ.P s s' → Q (.bool t) s') → (∀ s', K false → Ext κ.P s s' → Q' (.bool false) s') →
        wpB (model κ.prog κ.w) A (eval l env) (fun u s₁ => wpB (model κ.prog κ.w) A (eval m env) (fun v s₂ => wpB (model κ.prog κ.w) A (compareOp (copn o) u v) (fun c s₃ => wpB (model κ.prog κ.w) A (truthy c) (fun t s₄ => match t with
          | true => wpB (model κ.prog κ.w) A (eval r env) (fun d s₅ => wpB (model κ.prog κ.w) A (compareOp (copn p) v d) Q s₅) s₄
          | false => Q' c s₄) s₃) s₂) s₁) s := by
      intro A env γ σ s K Q Q' c hz hQ hQ'
      have hu : A.units < cLine := by have := c.room.units; unfold cLine; (first | lia | omega)
      refine (iha.1 ns l h1).1 c hz fun u s₁ x hz E₁ hu₁ => (ihb.1 ns m h2).1 (c.to E₁) hz fun v s₂ y hz E₂ hv => oW_el hz fun t ht k => ?_
      have c₂ := (c.to E₁).to E₂
      refine leaf_cmp (P := κ.P) ht (hu₁.ext (c.to E₁).tab E₂.keep) hv c₂.rel.led hu fun s₃ E₃ => wpB_leaf (wpAny_truthy_bool ?_)
      cases t with
      | false => exact hQ' s₃ k.k ((E₁.trans E₂).trans E₃)
      | true =>
        refine (ihc.1 ns r h3).1 (c₂.to E₃) k.k fun j s₄ z k E₄ hk => oW_el k fun t ht k => ?_
        exact leaf_cmp (P := κ.P) ht (hv.ext c₂.tab (E₃.trans E₄).keep) hk ((c₂.to E₃).to E₄).rel.led hu fun s₅ E₅ => hQ t s₅ k ((((E₁.trans E₂).trans E₃).trans E₄).trans E₅)
    exact ⟨fun c hz hQ => wpB_Compare2 (eq_of_beq hm) (key c hz (fun t s' k E => hQ _ _ _ k E (.bool t)) fun s' k E => hQ _ _ _ k E (.bool false)),
      fun c hz hQ => wpB_isTrue_Compare2 (eq_of_beq hm) (key (Q' := fun _ s => _) c hz (fun t s' k E => wpB_leaf (wpAny_truthy_bool (hQ t s' _ k rfl E))) fun s' k E => hQ _ _ _ k rfl E)⟩
  | list as ih =>
    refine ⟨fun ns => onList_el fun es pos => and_el fun h1 => and_el fun h2 h3 => EvOk.both (fun _ => rfl) fun c hz hQ => wpB_List ?_, noA fun _ _ => rfl⟩
    rw [backTo_plain h1]
    refine (ih.2 ns es h3 c hz).spliced c.tab fun vs s₁ l k hn E₁ hvs => gd_el k fun hf k => ?_
    have hle := of_decide_eq_true h2
    refine wpB_leaf (wpAny_newList (hQ _ _ _ k (E₁.trans (Ext.push (t := s₁.toks))) ?_) (by rw [sizeLine_eq, hn]; unfold big at hle; (first | lia | omega)))
    exact .list _ _ _ (fresh_off (c.to E₁).rel.led) ⟨_, Heap.get?_push_size _ rfl⟩ (hvs.ext (c.to E₁).tab (.of_keep fun _ _ e => Heap.get?_push_of_some _ e)) hf
  | tup as ih =>
    refine ⟨fun ns => onTuple_el fun es j pos => and_el fun h1 => and_el fun h2 h3 => EvOk.both (fun _ => rfl) fun c hz hQ => wpB_Tuple ?_, noA fun _ _ => rfl⟩
    rw [backTo_plain h1]
    refine (ih.2 ns es h3 c hz).spliced c.tab fun vs s₁ l k hn E₁ hvs => gd_el k fun hf k => ?_
    have hle := of_decide_eq_true h2
    refine wpB_leaf (wpAny_newTuple (hQ _ _ _ k (E₁.trans (Ext.push (t := s₁.toks))) ?_) (by rw [sizeLine_eq, hn]; unfold big at hle; (first | lia | omega)))
    exact .tup _ _ _ ⟨_, Heap.get?_push_size _ rfl, rfl, _, rfl⟩ (hvs.ext (c.to E₁).tab (.of_keep fun _ _ e => Heap.get?_push_of_some _ e)) hf
  | idx o i iho ihi =>
    refine ⟨fun ns => onSubscript_el fun v sl pos => and_el fun h1 h2 => EvOk.both (fun _ => rfl) fun c hz hQ => wpB_Subscript ?_, noA fun _ _ => rfl⟩
    refine (iho.1 ns v h1).1 c hz fun u s₁ x hz E₁ hu => (ihi.1 ns sl h2).1 (c.to E₁) hz fun q s₂ y hz E₂ hq => oW_el hz.k fun z e k => ?_
    exact leaf_idx (P := κ.P) e (hu.ext (c.to E₁).tab E₂.keep) hq ((c.to E₁).to E₂).rel.led fun r s₃ E₃ hr => hQ r s₃ z k ((E₁.trans E₂).trans E₃) hr
  | slice o lo hi iho ihl ihh =>
    have part : ∀ {ns : List (Str × NameKind)} {pe : PE} {oe : Option Expr}, (∀ ns e, chkE κ.F κ.tr ns pe e = true → Both κ ns pe e) → onPart oe pe (chkE κ.F κ.tr ns pe) = true → PartOk κ ns pe oe := by
      intro ns pe oe ih
      cases oe with
      | some e' => exact fun h => (ih ns e' h).1
      | none => exact onLit_el (G := fun pe => PartOk κ ns pe none) (fun v => isNoneV_el (G := fun v => PartOk κ ns (.lit v) none) (fun c hz hQ => wpB_pure (hQ _ _ _ hz (Ext.refl _) .none)) v) pe
    refine ⟨fun ns => onSubscript_el fun v sl pos => ?_, noA fun _ _ => rfl⟩
    revert sl
    refine onSlice_el fun l u t p => and_el fun ht => and_el fun h1 => and_el fun h2 h3 => ?_
    cases Option.isNone_iff_eq_none.mp ht
    refine EvOk.both (fun _ => rfl) fun c hz hQ => wpB_Subscript ?_
    refine (iho.1 ns v h1).1 c hz fun u' s₁ x hz E₁ hu => wpB_Slice (part ihl.1 h2 (c.to E₁) hz fun q s₂ y hz E₂ hq => part ihh.1 h3 ((c.to E₁).to E₂) hz fun q' s₃ y' hz E₃ hq' => oW_el hz.k fun z e k => ?_)
    have c₂ := (c.to E₁).to E₂
    have c₃ := c₂.to E₃
    exact leaf_slice (P := κ.P) e (hu.ext (c.to E₁).tab (E₂.trans E₃).keep) (hq.ext c₂.tab E₃.keep) hq' c₃.rel.led c₃.tab fun r s₄ E₄ hr => hQ r s₄ z k (((E₁.trans E₂).trans E₃).trans E₄) hr
  | call f as ih =>
    refine ⟨fun ns => onCall_el fun g es kw pos => ?_, noA fun _ _ => rfl⟩
    revert kw
    refine on0_el ?_
    revert g
    refine onName_el fun g pn => ?_
    revert g
    refine eq_el (and_el fun h2 => and_el fun h3 h4 => EvOk.both (fun _ => rfl) fun {A env γ σ s K Q} c hz hQ => ?_)
    refine wpB_Call_Name h3 (Name_global c.eo c.rel h2 (.inl (c.rel.wd.gl f)) ?_)
    rw [backTo_plain h3]
    refine (ih.2 ns es h4 c hz).spliced c.tab fun vs s₁ l k hn E₁ hvs => gd_el k fun hf k => ?_
    have c₁ := c.to E₁
    obtain ⟨o, pm, cc, doc, d', oc, cvs, tq, g1, g2, _⟩ := (c₁.rel.wd.fn f).all
    refine ⟨.func _ o _ g1 g2, S.cal c.room c₁.rel.wd (hvs.strip (γ := []) (fun a ha => nomatch ha) hf) k.h fun v s₂ z k E₂ hv => ?_⟩
    exact callK_el hv (fun q => List.length_eq_zero_iff.mp (by rw [c.rel.led.len]; exact List.length_eq_zero_iff.mpr (List.isEmpty_iff.mp q))) k fun k hv => hQ v s₂ z k (E₁.trans E₂) hv
  | fstr p v q ih =>
    refine ⟨fun ns => onJoinedStr_el fun l pos => ?_, noA fun _ _ => rfl⟩
    revert l
    refine on3_el fun a m b => ?_
    revert a
    refine onConstant_el fun a k1 x1 => ?_
    revert m
    refine onFormattedValue_el fun x k f x2 => ?_
    revert b
    refine onConstant_el fun b k3 x3 => ?_
    revert k
    refine eq_el (and_el fun hf => ?_)
    cases Option.isNone_iff_eq_none.mp hf
    refine and_el fun ha => and_el fun hb => and_el fun h4 h5 => isStrC_el (G := fun a => Both κ ns _ (.JoinedStr [.Constant a k1 x1, _, _] pos)) (fun p' hp => isStrC_el (G := fun b => Both κ ns _ (.JoinedStr [_, _, .Constant b k3 x3] pos)) (fun q' hq => ?_) b hb) a ha
    replace h4 := of_decide_eq_true h4
    refine EvOk.both (fun _ => rfl) fun {A env γ σ s K Q} c hz hQ => ?_
    show wpB _ _ (joinParts Str.empty [eval (.Constant (.str p') k1 x1) env, eval (.FormattedValue x (-1) none x2) env, eval (.Constant (.str q') k3 x3) env]) _ _
    have len : ∀ (u : Str) (l : List Nat), u.cps.toList = l → u.length = l.length := fun u l e => by rw [← e]; simp [Str.length]
    have app : ∀ (u v : Str), (u ++ v).cps.toList = u.cps.toList ++ v.cps.toList := fun u v => by show (u.cps ++ v.cps).toList = _; simp
    have a1 : (Str.empty ++ p').cps.toList = p := (app _ _).trans hp
    have zl : ∀ (u : Str) (l : List Nat), u.cps.toList = l → l.length ≤ 3 * big → u.length ≤ sizeLine := fun u l e h => by rw [len u l e, sizeLine_eq]; unfold big at h; (first | lia | omega)
    refine wpB_joinParts_cons (wpB_leaf (Calls.Constant_str ⟨p', _, rfl, zl _ _ a1 (by (first | lia | omega)), wpB_joinParts_cons ?_⟩))
    show wpB _ _ (do let v ← eval x env; standAt x2; formatted x2 (← holding [v] (converted (-1) v)) none) _ _
    refine wpB_bindm ((ih.1 ns x h5).1 (c.to Ext.toks) hz fun v s₁ z k E₁ hv => wpB_bind (wpB_standAt ?_)) fun _ _ h => h
    show wpB _ _ (do let v' ← holding [v] (pure v); formatField v' Str.empty) _ _
    refine wpB_bind (wpB_holding (wpB_pure ?_))
    revert z
    refine strW_el fun l k => ?_
    revert v
    refine Is.str_el fun u t el => ?_
    · have hb := k.1
      have a2 : (Str.empty ++ p' ++ u).cps.toList = p ++ l := (app _ _).trans (by rw [a1, el])
      have a3 : (Str.empty ++ p' ++ u ++ q').cps.toList = p ++ l ++ q := (app _ _).trans (by rw [a2, hq])
      have fin : ∀ (t' : Tok) (s₂ : Shared), Ext κ.P s₁ s₂ → ∃ y t, (Value.str u t') = .str y t ∧ (Str.empty ++ p' ++ y).length ≤ sizeLine ∧ wpB (model κ.prog κ.w) A (joinParts (Str.empty ++ p' ++ y) [eval (.Constant (.str q') k3 x3) env]) Q s₂ := by
        intro t' s₂ E₂
        refine ⟨u, t', rfl, zl _ _ a2 (by rw [List.length_append]; (first | lia | omega)), wpB_joinParts_cons (wpB_leaf (Calls.Constant_str ⟨q', _, rfl, zl _ _ a3 (by rw [List.length_append, List.length_append]; (first | lia | omega)), ?_⟩))⟩
        rw [joinParts]
        exact wpB_leaf (wpAny_mkStr (hQ _ _ _ k.2 ((Ext.toks.trans E₁).trans (E₂.trans (Ext.toks.trans Ext.toks))) (.str _ _ _ a3)) (zl _ _ a3 (by rw [List.length_append, List.length_append]; (first | lia | omega))))
      exact wpB_leaf (wpAny_formatField_str (fin _ _ (Ext.refl _)) (fin _ _ Ext.toks) (zl u l el (by (first | lia | omega))))
  | nil =>
    refine ⟨fun _ _ h => absurd h Bool.false_ne_true, fun ns es h => ?_⟩
    cases es with
    | nil => exact fun c hz => hz
    | cons _ _ => exact absurd h Bool.false_ne_true
  | cons a r iha ihr =>
    exact ⟨fun _ _ h => absurd h Bool.false_ne_true, fun ns => onC_el fun e es => and_el fun h1 h2 => fun c hz => fun hQ => (iha.1 ns e h1).1 c hz fun u s₁ x k E₁ hu => hQ u s₁ x E₁ hu (ihr.2 ns es h2 (c.to E₁) k)⟩
  | comp x caps elt it cond ihe ihi ihc =>
    refine ⟨fun ns => comp_el ihi.1 ihe.1 ihc.1 fun el n px iter ifs scope pos go => EvOk.both (fun _ => rfl) fun {A env γ σ s K Q} c hz hQ => ?_, noA fun _ _ => rfl⟩
    refine go (p2 := firstIterPos [⟨.Name n px, iter, ifs, 0⟩] pos) none _ c hz fun acc L t m zs k E hv hn h0 hne => ⟨m, hn, fun h' hs => ?_⟩
    obtain ⟨o, _, _, eo, _⟩ := id hn
    have T := (c.to E).tab
    have U : Upd κ.P [L] t { t with heap := h', toks := t.toks } := Upd.one T hs eo (Ns_off hn eo).2
    have off : Off t.heap [L] γ := fun b hb => .inr fun o' e' => by rw [List.mem_singleton.mp hb] at e'; exact (Ns_off hn e').1
    exact hQ _ _ _ k (U.ext E (fun a ha => by rw [List.mem_singleton.mp ha]; exact h0)) (hv.upd T U off (c.to E).rel.led.lives)
  | prim p as ih =>
    refine ⟨fun ns e => or_el (and_el fun hp => and_el fun h1 h2 => ?_) (or_el (and_el fun hp => ?_) (or_el (and_el fun hp => ?_) ?_)), noA fun _ _ => rfl⟩
    · exact isRe_el (G := fun p => Both κ ns (.prim p as) e) (have q := S.sub h1 h2 fun x hx => ih.2 ns [x] hx; EvOk.both q.2 q.1) p hp
    · refine isJoinE_el (G := fun p => chkJoin κ.F κ.tr ns as e = true → Both κ ns (.prim p as) e) (onCons_el (G := fun as => Both κ ns (.prim .joinEsc as) e) (fun a r => ?_) as) p hp
      revert a
      refine onVar_el fun y => onNil_el (G := fun r => Both κ ns (.prim .joinEsc (.cons (.var y) r)) e) (and_el fun h1 h2 => ?_) r
      have q := S.join h1 h2
      exact EvOk.both q.2 q.1
    · refine isTransl_el (G := fun p => chkT ns e (chkA κ.F κ.tr ns as) = true → Both κ ns (.prim p as) e) ?_ p hp
      revert e
      refine onCall_el fun f es kw pos => ?_
      revert kw
      refine on0_el ?_
      revert f
      refine onAttribute_el fun o n ap => ?_
      revert es
      refine on1_el fun g => ?_
      revert g
      refine onName_el fun g gp => ?_
      revert n
      refine eq_el (and_el fun h2 => and_el fun h3 => ?_)
      revert g
      refine eq_el (and_el fun h5 h6 => EvOk.both (fun _ => rfl) fun {A env γ σ s K Q} c hz hQ => ?_)
      refine wpB_Call_method h2 rfl (show 1 < 20 by decide) h3 (ih.2 ns [o] h6 c hz fun v s₁ x E₁ hv k => oW_el k.k fun z e k => ?_)
      have c₁ := c.to E₁
      obtain ⟨id, mv, hmv, hm, hc⟩ := S.transl c₁.rel.wd hv e
      exact ⟨id, hm, wpB_spliced_cons (Name_global c.eo c₁.rel h5 (.inl hmv) (wpB_pure (wpB_mono (hc c.room) fun r s₂ q => hQ r s₂ z k (E₁.trans q.1) q.2)))⟩
    · revert e
      refine onCall_el fun f es kw pos => ?_
      revert kw
      refine on0_el (and_el fun h1 => ?_)
      revert f
      refine onName_el fun f fp => and_el fun h2 => or_el (fun h => sm_el (G := fun o => isaName p = o → Both κ ns (.prim p as) (.Call (.Name f fp) es [] pos)) (fun g => and_el fun hf h hi => ?_) _ h rfl) (fun h => sm_el (G := fun o => primName p = o → Both κ ns (.prim p as) (.Call (.Name f fp) es [] pos)) (fun g => and_el fun hf h hp => ?_) _ h rfl)
      · refine on2_el (G := fun es => noStar es = true → Both κ ns (.prim p as) (.Call (.Name f fp) es [] pos)) (fun x y => ?_) es h h1
        revert y
        refine onName_el fun g' gp => ?_
        revert g'
        refine eq_el (and_el fun h5 h6 h1 => EvOk.both (fun _ => rfl) fun {A env γ σ s K Q} c hz hQ => ?_)
        have hI := c.rel.wd.bi ("isinstance" : Str) (by decide)
        rw [← eq_of_beq hf] at hI
        refine wpB_Call_Name h1 (Name_global c.eo c.rel h2 (.inr ⟨hI.1, hI.2.trans (by rw [eq_of_beq hf]; rfl)⟩) ?_)
        rw [backTo_plain h1]
        refine wpB_spliced_cons (ih.2 ns [x] h6 c hz fun v s₁ y E₁ hv k => oW_el k.k fun z e k => ?_)
        have c₁ := c.to E₁
        have hb := isaName_bi hi
        have hg := c.rel.wd.bi _ hb.1
        exact wpB_spliced_cons (Name_global c.eo c₁.rel h5 (.inr ⟨hg.1, hg.2.trans hb.2⟩) (wpB_pure ⟨.builtin _, wpB_mono (S.isa hi c.room c₁.rel.wd c₁.rel.led (.cons hv .nil) e) fun r s₂ q => hQ r s₂ z k (E₁.trans q.1) q.2⟩))
      · refine EvOk.both (fun _ => rfl) fun {A env γ σ s K Q} c hz hQ => ?_
        have hb := primName_bi hp
        have hg := c.rel.wd.bi _ hb.1
        rw [← eq_of_beq hf] at hg
        refine wpB_Call_Name h1 (Name_global c.eo c.rel h2 (.inr ⟨hg.1, hg.2.trans (by rw [eq_of_beq hf]; exact hb.2.1)⟩) ?_)
        rw [backTo_plain h1]
        refine (ih.2 ns es h c hz).spliced c.tab fun vs s₁ l k hn E₁ hvs => oW_el k.k fun z e k => ?_
        have c₁ := c.to E₁
        exact ⟨hb.2.2 _, wpB_mono (S.fn hp c.room c₁.rel.wd c₁.rel.led hvs e) fun r s₂ q => hQ r s₂ z k (E₁.trans q.1) q.2⟩
  | meth p a as iha ihs =>
    refine ⟨fun ns => onCall_el fun f es kw pos => ?_, noA fun _ _ => rfl⟩
    revert kw
    refine on0_el (and_el fun h1 => ?_)
    revert f
    refine onAttribute_el fun o n ap => and_el fun h2 => and_el fun h3 => and_el fun h4 => and_el fun h5 => and_el fun h6 h7 => EvOk.both (fun _ => rfl) fun {A env γ σ s K Q} c hz hQ => ?_
    refine wpB_Call_method h2 h1 (of_decide_eq_true h3) h4 ((iha.1 ns o h6).1 c hz fun v s₁ x k E₁ hv => gd_el k fun hx k => ?_)
    have c₁ := c.to E₁
    obtain ⟨id, hM, hc⟩ := S.meth (eq_of_beq h5) hx c₁.rel.wd c₁.rel.led hv
    refine ⟨id, hM, ?_⟩
    rw [backTo_plain h1]
    exact (ihs.2 ns es h7 c₁ k).spliced c₁.tab fun vs s₂ l k hn E₂ hvs => oW_el k.k fun z e k => wpB_mono (hc c.room E₂ hvs e) fun r s₃ q => hQ r s₃ z k ((E₁.trans E₂).trans q.1) q.2
end
end Mine
namespace Mine
open _root_.PySem _root_.PySem.Calls _root_.PySem.W _root_.PyProof.Rows

/-! ### The frame of a def, between its statements -/
theorem tab_nodup : tab.Nodup := by decide +kernel
theorem nm_inj {x y : Nat} (hx : x < tab.length) (hy : y < tab.length) (h : nm x = nm y) : x = y := by
  unfold nm at h
  rw [List.getD_eq_getElem?_getD, List.getD_eq_getElem?_getD, List.getElem?_eq_getElem hx, List.getElem?_eq_getElem hy] at h
  exact (List.getElem_inj tab_nodup).mp (by simpa using h)
noncomputable def own (env : Env) (γ : List Addr) : List Addr := env.locals :: (env.cells.map (·.2) ++ γ)
structure FrameR (ok : Fn → DefRec → Bool) (P : Addr) (mg mb : Str → Option Value) (s₀ : Shared) (env : Env) (γ : List Addr) (σ : St) (s : Shared) : Prop where
  wd0 : Wd ok P mg mb s₀.heap
  ext : Ext P s₀ s
  kinds : ∀ x v, getV σ.env x = some v → x < tab.length ∧ (env.kindOf (nm x) = some .local ∨ env.kindOf (nm x) = some .cell)
  ns : ∃ m, s.heap.Ns env.locals m ∧ ∀ x v, getV σ.env x = some v → env.kindOf (nm x) = some .local → ∃ u, m (nm x) = some u ∧ Is s.heap γ u v
  cell : ∀ x v, getV σ.env x = some v → env.kindOf (nm x) = some .cell → ∃ c u, env.cells.lookup (nm x) = some c ∧ s.heap.IsCell c (some u) ∧ Is s.heap γ u v
  cells : ∀ c ∈ env.cells.map (·.2), ∃ u, s.heap.IsCell c u
  inj : ∀ n n' c, env.cells.lookup n = some c → env.cells.lookup n' = some c → n = n'
  led : LedIs s.heap γ σ.led
  nodup : γ.Nodup
  fresh : ∀ a ∈ own env γ, s₀.heap.get? a = none

section
variable {ok : Fn → DefRec → Bool} {P : Addr} {mg mb : Str → Option Value} {s₀ s s' : Shared} {env : Env} {γ δ : List Addr} {σ : St}
theorem mem_cells {cells : List (Str × Addr)} {n : Str} {c : Addr} (h : cells.lookup n = some c) : c ∈ cells.map (·.2) := by
  induction cells with
  | nil => simp at h
  | cons x r ih =>
    obtain ⟨m, d⟩ := x
    rw [List.lookup_cons] at h
    cases hb : n == m with
    | true => rw [hb] at h; cases h; simp
    | false => rw [hb] at h; exact List.mem_cons_of_mem _ (ih h)
namespace FrameR
variable (R : FrameR ok P mg mb s₀ env γ σ s)
include R
theorem tabIs : TabIs P s.heap := R.wd0.tab.ext R.ext
theorem rel : RelE ok P mg mb env γ σ s := by
  refine ⟨R.wd0.keep R.ext.keep R.tabIs, fun x v e => ⟨(R.kinds x v e).1, ?_⟩, R.led⟩
  rcases (R.kinds x v e).2 with hk | hk
  · obtain ⟨m, hn, hm⟩ := R.ns
    obtain ⟨u, h1, h2⟩ := hm x v e hk
    exact .loc hk m u hn h1 h2
  · obtain ⟨c, u, h1, h2, h3⟩ := R.cell x v e hk
    exact .cell hk c u h1 h2 h3
theorem off : Off s.heap (own env γ) γ := fun b hb => by
  rcases List.mem_cons.mp hb with q | hb
  · subst q
    obtain ⟨m, hn, _⟩ := R.ns
    exact .inr fun o e => (Ns_off hn e).1
  · rcases List.mem_append.mp hb with q | q
    · obtain ⟨u, o, e, d⟩ := R.cells b q
      refine .inr fun o' e' h => ?_
      rw [e] at e'; cases e'
      rcases h with ⟨_, _, q, _⟩ | ⟨_, q, _⟩ <;> (rw [d] at q; cases q)
    · exact .inl q
theorem live {a : Addr} (ha : a ∈ own env γ) : ∃ o, s.heap.get? a = some o ∧ noTab o := by
  rcases List.mem_cons.mp ha with q | hb
  · subst q
    obtain ⟨m, hn, _⟩ := R.ns
    obtain ⟨o, e⟩ : ∃ o, s.heap.get? env.locals = some o := let ⟨o, _, _, e, _⟩ := hn; ⟨o, e⟩
    exact ⟨o, e, (Ns_off hn e).2⟩
  · rcases List.mem_append.mp hb with q | q
    · obtain ⟨u, o, e, d⟩ := R.cells a q
      exact ⟨o, e, .data fun vs q => by rw [d] at q; cases q⟩
    · obtain ⟨o, e, c⟩ := R.led.live q
      exact ⟨o, e, by rcases c with c | c <;> exact .cls (by rw [c]; nofun)⟩
theorem lives : Lives s.heap γ := R.led.lives
theorem notP {a : Addr} (ha : a ∈ own env γ) : a ≠ P := by
  obtain ⟨o, e, n⟩ := R.live ha
  exact R.tabIs.ne e n
theorem to (E : Ext P s s') : FrameR ok P mg mb s₀ env γ σ s' := by
  have T := R.tabIs
  refine ⟨R.wd0, R.ext.trans E, R.kinds, ?_, fun x v e hk => ?_, fun c hc => ?_, R.inj, R.led.ext T E.keep, R.nodup, R.fresh⟩
  · obtain ⟨m, hn, hm⟩ := R.ns
    exact ⟨m, Ns_keep E.keep T hn, fun x v e hk => let ⟨u, h1, h2⟩ := hm x v e hk; ⟨u, h1, h2.ext T E.keep⟩⟩
  · obtain ⟨c, u, h1, h2, h3⟩ := R.cell x v e hk
    exact ⟨c, u, h1, IsCell_keep E.keep T h2, h3.ext T E.keep⟩
  · obtain ⟨u, h⟩ := R.cells c hc
    exact ⟨u, IsCell_keep E.keep T h⟩
end FrameR

/-- what a statement may do -/
structure Step (P : Addr) (env : Env) (γ δ : List Addr) (s s' : Shared) : Prop where
  upd : Upd P (own env γ) s s'
  new : ∀ a ∈ δ, s.heap.get? a = none
theorem Step.of_ext (E : Ext P s s') : Step P env γ [] s s' := ⟨E.upd, fun _ h => nomatch h⟩
theorem Step.trans {s₁ s₂ s₃ : Shared} {δ₁ δ₂ : List Addr} {σ' : St} (x : Step P env γ δ₁ s₁ s₂) (y : Step P env (γ ++ δ₁) δ₂ s₂ s₃) (T : TabIs P s₁.heap) (R : FrameR ok P mg mb s₀ env (γ ++ δ₁) σ' s₂) : Step P env γ (δ₁ ++ δ₂) s₁ s₃ := by
  have mo : ∀ b, b ∈ own env (γ ++ δ₁) → b ∈ own env γ ∨ b ∈ δ₁ := fun b hb => by
    unfold own at hb ⊢
    simp only [List.mem_cons, List.mem_append] at hb ⊢
    rcases hb with h | h | h | h
    · exact .inl (.inl h)
    · exact .inl (.inr (.inl h))
    · exact .inl (.inr (.inr h))
    · exact .inr h
  refine ⟨⟨fun b o hb n e => ?_, fun vs e t => ?_, y.upd.os.trans x.upd.os, fun g => y.upd.gens (x.upd.gens g)⟩, fun a ha => ?_⟩
  · refine y.upd.keep b o (fun hm => ?_) n (x.upd.keep b o hb n e)
    rcases mo b hm with q | q
    · exact hb q
    · rw [x.new b q] at e; cases e
  · obtain ⟨m₁, e₁, t₁⟩ := x.upd.tab vs e t
    obtain ⟨m₂, e₂, t₂⟩ := y.upd.tab _ e₁ t₁
    exact ⟨m₁ ++ m₂, by rw [← Array.append_assoc]; exact e₂, by rw [← Array.append_assoc]; exact t₂⟩
  · rcases List.mem_append.mp ha with q | q
    · exact x.new a q
    · have h2 := y.new a q
      cases e : s₁.heap.get? a with
      | none => rfl
      | some o =>
        exfalso
        by_cases hP : a = P
        · subst hP
          obtain ⟨vs, h3, h4⟩ := T.upd x.upd
          rw [h2] at h3; cases h3
        · by_cases hm : a ∈ own env γ
          · obtain ⟨o', e', _⟩ := R.live (a := a) (by
              unfold own at hm ⊢
              simp only [List.mem_cons, List.mem_append] at hm ⊢
              rcases hm with h | h | h
              · exact .inl h
              · exact .inr (.inl h)
              · exact .inr (.inr (.inl h)))
            rw [h2] at e'; cases e'
          · rw [x.upd.keep a o hm hP e] at h2; cases h2

/-- a step with the objects at M, all own -/
theorem Step.of_upd {M : List Addr} (U : Upd P M s s') (h : ∀ b ∈ M, b ∈ own env γ) : Step P env γ [] s s' := ⟨U.mono h, fun _ h => nomatch h⟩
end
end Mine
namespace Mine
open _root_.PySem _root_.PySem.Calls _root_.PySem.W _root_.PyProof.Rows

section
variable {prog : Program} {w : World} {A : Around} {ok : Fn → DefRec → Bool} {P : Addr} {mg mb : Str → Option Value} {s₀ s s' : Shared} {env : Env} {γ δ : List Addr} {σ : St} {tr : Bool} {ns : List (Str × NameKind)}

theorem ObjIs.upd {M : List Addr} (T : TabIs P s.heap) (E : Upd P M s s') (hM : Off s.heap M γ) (hγ : Lives s.heap γ) {a : Addr} (ha : a ∉ M) : ∀ {o : PObj}, ObjIs s.heap γ a o → ObjIs s'.heap γ a o
  | .list _, ⟨vs, l, x, z⟩ => ⟨vs, PlainList_upd E T ha l, x.upd T E hM hγ, z⟩
  | .barr _, ⟨arr, e, x⟩ => ⟨arr, E.keep _ _ ha (T.ne e (.cls (by nofun))) e, x⟩
  | .hid, ⟨vs, l⟩ => ⟨vs, PlainList_upd E T ha l⟩

theorem FrameR.cell_ne (R : FrameR ok P mg mb s₀ env γ σ s) {c : Addr} {u : Option Value} (hc : s.heap.IsCell c u) : c ≠ env.locals ∧ c ∉ γ := by
  obtain ⟨o', e', d'⟩ := hc
  refine ⟨fun q => ?_, fun q => ?_⟩
  · obtain ⟨m, hn, _⟩ := R.ns
    obtain ⟨o, es, ep, e, d, _⟩ := hn
    rw [q, e] at e'; cases e'
    rw [d] at d'; cases d'
  · obtain ⟨o, e, h⟩ := R.led.data q
    rw [e] at e'; cases e'
    rcases h with ⟨_, _, h⟩ | ⟨_, _, h⟩ <;> (rw [h] at d'; cases d')
theorem FrameR.locals_ne (R : FrameR ok P mg mb s₀ env γ σ s) : env.locals ∉ γ := fun q => by
  obtain ⟨m, hn, _⟩ := R.ns
  obtain ⟨o', es, ep, e', d', _⟩ := hn
  obtain ⟨o, e, h⟩ := R.led.data q
  rw [e] at e'; cases e'
  rcases h with ⟨_, _, h⟩ | ⟨_, _, h⟩ <;> (rw [h] at d'; cases d')
theorem IsCell_upd {M : List Addr} (U : Upd P M s s') (T : TabIs P s.heap) {c : Addr} {u : Option Value} (hc : c ∉ M) (h : s.heap.IsCell c u) : s'.heap.IsCell c u :=
  let ⟨o, e, d⟩ := h
  ⟨o, U.keep _ _ hc (T.ne e (.data fun vs q => by rw [d] at q; cases q)) e, d⟩
theorem LedIs.upd {M : List Addr} {led : List PObj} (T : TabIs P s.heap) (E : Upd P M s s') (hM : Off s.heap M γ) (hd : ∀ a ∈ γ, a ∉ M) (L : LedIs s.heap γ led) : LedIs s'.heap γ led :=
  ⟨L.len, fun k o e => let ⟨a, e', q⟩ := L.at_ k o e; ⟨a, e', q.upd T E hM L.lives (hd a (List.mem_of_getElem? e'))⟩⟩

/-- a name is bound anew -/
theorem store (R : FrameR ok P mg mb s₀ env γ σ s) (EO : EnvOk tr ns env) {x : Nat} (hx : x < tab.length) (hk : ns.lookup (nm x) = some .local ∨ ns.lookup (nm x) = some .cell) {u : Value} {v : PV} (hv : Is s.heap γ u v) :
    wpB (model prog w) A (storeName env (nm x) u) (fun _ s' => FrameR ok P mg mb s₀ env γ (σ.set x v) s' ∧ Step P env γ [] s s') s := by
  have T := R.tabIs
  have kof : ∀ n, env.kindOf n = ns.lookup n := fun n => by unfold Env.kindOf; rw [EO.names]
  have kk : env.kindOf (nm x) = some .local ∨ env.kindOf (nm x) = some .cell := by rw [kof]; exact hk
  have main : ∀ (M : List Addr) (s' : Shared), Upd P M s s' → (∀ b ∈ M, b ∈ env.locals :: env.cells.map (·.2)) →
      (∃ m, s'.heap.Ns env.locals m ∧ ∀ y v', getV (σ.set x v).env y = some v' → env.kindOf (nm y) = some .local → ∃ u, m (nm y) = some u ∧ Is s'.heap γ u v') →
      (∀ y v', getV (σ.set x v).env y = some v' → env.kindOf (nm y) = some .cell → ∃ c u, env.cells.lookup (nm y) = some c ∧ s'.heap.IsCell c (some u) ∧ Is s'.heap γ u v') →
      (∀ c ∈ env.cells.map (·.2), ∃ u, s'.heap.IsCell c u) → FrameR ok P mg mb s₀ env γ (σ.set x v) s' ∧ Step P env γ [] s s' := by
    intro M s' U hM h1 h2 h3
    have sub : ∀ b ∈ M, b ∈ own env γ := fun b hb => by
      have := hM b hb
      unfold own
      simp only [List.mem_cons, List.mem_append] at this ⊢
      rcases this with q | q
      · exact .inl q
      · exact .inr (.inl q)
    refine ⟨⟨R.wd0, U.ext R.ext fun a ha => R.fresh a (sub a ha), fun y v' e => ?_, h1, h2, h3, R.inj, ?_, R.nodup, R.fresh⟩, Step.of_upd U sub⟩
    · have e : getV (setV σ.env x v) y = some v' := e
      rw [getV_setV] at e
      by_cases q : y = x
      · subst q; exact ⟨hx, kk⟩
      · rw [if_neg q] at e; exact R.kinds y v' e
    · refine R.led.upd T U (fun b hb => R.off b (sub b hb)) fun a ha hm => ?_
      rcases List.mem_cons.mp (hM a hm) with q | q
      · exact R.locals_ne (q ▸ ha)
      · obtain ⟨u, hc⟩ := R.cells a q
        exact (R.cell_ne hc).2 ha
  rcases kk with hk | hk
  · obtain ⟨m, hn, hm⟩ := R.ns
    refine wpB_leaf (wpAny_storeName_local hk hn (fun h' hn' hs => ?_) (by rw [EO.kind]; rfl))
    obtain ⟨o, eo⟩ : ∃ o, s.heap.get? env.locals = some o := let ⟨o, _, _, e, _⟩ := hn; ⟨o, e⟩
    have U : Upd P [env.locals] s { s with heap := h', toks := s.toks + 1 } := Upd.one T hs eo (Ns_off hn eo).2
    have off : Off s.heap [env.locals] γ := fun b hb => R.off b (by rw [List.mem_singleton.mp hb]; exact List.mem_cons_self)
    refine main [env.locals] _ U (fun b hb => by rw [List.mem_singleton.mp hb]; exact List.mem_cons_self) ⟨_, hn', fun y v' e ky => ?_⟩ (fun y v' e ky => ?_) fun c hc => ?_
    · have e : getV (setV σ.env x v) y = some v' := e
      rw [getV_setV] at e
      by_cases q : y = x
      · subst q
        rw [if_pos rfl] at e; cases e
        exact ⟨u, by simp, hv.upd T U off R.lives⟩
      · rw [if_neg q] at e
        obtain ⟨u', h1, h2⟩ := hm y v' e ky
        have : nm y ≠ nm x := fun z => q (nm_inj (R.kinds y v' e).1 hx z)
        exact ⟨u', by rw [if_neg this]; exact h1, h2.upd T U off R.lives⟩
    · have e : getV (setV σ.env x v) y = some v' := e
      rw [getV_setV] at e
      by_cases q : y = x
      · subst q; rw [hk] at ky; cases ky
      · rw [if_neg q] at e
        obtain ⟨c, u', h1, h2, h3⟩ := R.cell y v' e ky
        exact ⟨c, u', h1, IsCell_upd U T (by simpa using (R.cell_ne h2).1) h2, h3.upd T U off R.lives⟩
    · obtain ⟨u', h⟩ := R.cells c hc
      exact ⟨u', IsCell_upd U T (by simpa using (R.cell_ne h).1) h⟩
  · obtain ⟨c, hc⟩ := Option.isSome_iff_exists.mp (EO.cells (nm x) (by rw [← kof]; exact hk))
    have hcm := mem_cells hc
    obtain ⟨u₀, hu₀⟩ := R.cells c hcm
    refine wpB_leaf (wpAny_storeName_cell EO.kind hk hc hu₀ fun h' hc' hs => ?_)
    obtain ⟨o, eo, d⟩ := id hu₀
    have U : Upd P [c] s { s with heap := h', toks := s.toks } := Upd.one T hs eo (.data fun vs q => by rw [d] at q; cases q)
    have off : Off s.heap [c] γ := fun b hb => R.off b (by rw [List.mem_singleton.mp hb]; exact List.mem_cons_of_mem _ (List.mem_append_left _ hcm))
    refine main [c] _ U (fun b hb => by rw [List.mem_singleton.mp hb]; exact List.mem_cons_of_mem _ hcm) ?_ (fun y v' e ky => ?_) fun c' hc2 => ?_
    · obtain ⟨m, hn, hm⟩ := R.ns
      refine ⟨m, Ns_upd U T (by simpa using Ne.symm (R.cell_ne hu₀).1) hn, fun y v' e ky => ?_⟩
      have e : getV (setV σ.env x v) y = some v' := e
      rw [getV_setV] at e
      by_cases q : y = x
      · subst q; rw [hk] at ky; cases ky
      · rw [if_neg q] at e
        obtain ⟨u', h1, h2⟩ := hm y v' e ky
        exact ⟨u', h1, h2.upd T U off R.lives⟩
    · have e : getV (setV σ.env x v) y = some v' := e
      rw [getV_setV] at e
      by_cases q : y = x
      · subst q
        rw [if_pos rfl] at e; cases e
        exact ⟨c, u, hc, hc', hv.upd T U off R.lives⟩
      · rw [if_neg q] at e
        obtain ⟨c', u', h1, h2, h3⟩ := R.cell y v' e ky
        have : c' ≠ c := fun z => q (nm_inj (R.kinds y v' e).1 hx (R.inj _ _ c (z ▸ h1) hc))
        exact ⟨c', u', h1, IsCell_upd U T (by simpa using this) h2, h3.upd T U off R.lives⟩
    · by_cases q : c' = c
      · subst q; exact ⟨_, hc'⟩
      · obtain ⟨u', h⟩ := R.cells c' hc2
        exact ⟨u', IsCell_upd U T (by simpa using q) h⟩

/-- an own object more -/
theorem FrameR.new (R : FrameR ok P mg mb s₀ env γ σ s) (E : Ext P s s') {a : Addr} (h0 : s.heap.get? a = none) {o : PObj} (ho : ObjIs s'.heap (γ ++ [a]) a o) :
    FrameR ok P mg mb s₀ env (γ ++ [a]) ⟨σ.env, σ.led ++ [o]⟩ s' ∧ Step P env γ [a] s s' := by
  have T := R.tabIs
  have hd : ∀ b ∈ [a], s.heap.get? b = none := fun b hb => by rw [List.mem_singleton.mp hb]; exact h0
  have hna : a ∉ γ := fun hm => by obtain ⟨o, e, _⟩ := R.led.live hm; rw [h0] at e; cases e
  refine ⟨⟨R.wd0, R.ext.trans E, R.kinds, ?_, fun x v e hk => ?_, fun c hc => ?_, R.inj, ⟨by simp [R.led.len], fun k q e => ?_⟩, ?_, fun b hb => ?_⟩, ⟨E.upd, hd⟩⟩
  · obtain ⟨m, hn, hm⟩ := R.ns
    exact ⟨m, Ns_keep E.keep T hn, fun x v e hk => let ⟨u, h1, h2⟩ := hm x v e hk; ⟨u, h1, (h2.grow hd).ext T E.keep⟩⟩
  · obtain ⟨c, u, h1, h2, h3⟩ := R.cell x v e hk
    exact ⟨c, u, h1, IsCell_keep E.keep T h2, (h3.grow hd).ext T E.keep⟩
  · obtain ⟨u, h⟩ := R.cells c hc
    exact ⟨u, IsCell_keep E.keep T h⟩
  · by_cases hk : k < σ.led.length
    · have e : (σ.led ++ [o])[k]? = some q := e
      rw [List.getElem?_append_left hk] at e
      obtain ⟨b, e1, e2⟩ := R.led.at_ k q e
      exact ⟨b, by rw [List.getElem?_append_left (by rw [R.led.len]; exact hk)]; exact e1, (e2.grow hd).ext T E.keep⟩
    · have e : (σ.led ++ [o])[k]? = some q := e
      rw [List.getElem?_append_right (by (first | lia | omega))] at e
      have hk0 : k - σ.led.length = 0 := by
        have := (List.getElem?_eq_some_iff.mp e).1
        simp at this; (first | lia | omega)
      rw [hk0] at e
      simp only [List.getElem?_cons_zero] at e
      cases e
      refine ⟨a, ?_, ho⟩
      rw [List.getElem?_append_right (by rw [R.led.len]; (first | lia | omega)), R.led.len, hk0]; rfl
  · rw [List.nodup_append]
    refine ⟨R.nodup, by simp, fun x hx y hy => ?_⟩
    rw [List.mem_singleton.mp hy]
    rintro rfl; exact hna hx
  · unfold own at hb
    simp only [List.mem_cons, List.mem_append, List.mem_singleton, List.not_mem_nil, or_false] at hb
    rcases hb with h | h | h | h
    · exact R.fresh b (by unfold own; simp [h])
    · exact R.fresh b (by unfold own; simp [h])
    · exact R.fresh b (by unfold own; simp [h])
    · rw [h]; exact R.ext.fresh R.wd0.tab h0

/-- an own object turns -/
theorem FrameR.setO (R : FrameR ok P mg mb s₀ env γ σ s) {k : Nat} {a : Addr} {o o' : PObj} (hk : σ.led[k]? = some o) (ha : γ[k]? = some a) (U : Upd P [a] s s') (ho : ObjIs s'.heap γ a o') :
    FrameR ok P mg mb s₀ env γ (σ.setO k o') s' ∧ Step P env γ [] s s' := by
  have T := R.tabIs
  have hm : a ∈ γ := List.mem_of_getElem? ha
  have sub : ∀ b ∈ [a], b ∈ own env γ := fun b hb => by rw [List.mem_singleton.mp hb]; unfold own; simp [hm]
  have off : Off s.heap [a] γ := fun b hb => R.off b (sub b hb)
  refine ⟨⟨R.wd0, U.ext R.ext fun b hb => R.fresh b (sub b hb), R.kinds, ?_, fun x v e hk => ?_, fun c hc => ?_, R.inj, ⟨by show γ.length = (σ.led.set k o').length; simp [R.led.len], fun j q e => ?_⟩, R.nodup, R.fresh⟩, Step.of_upd U sub⟩
  · obtain ⟨m, hn, h⟩ := R.ns
    exact ⟨m, Ns_upd U T (by rw [List.mem_singleton]; rintro rfl; exact R.locals_ne hm) hn, fun x v e hk => let ⟨u, h1, h2⟩ := h x v e hk; ⟨u, h1, h2.upd T U off R.lives⟩⟩
  · obtain ⟨c, u, h1, h2, h3⟩ := R.cell x v e hk
    exact ⟨c, u, h1, IsCell_upd U T (by rw [List.mem_singleton]; rintro rfl; exact (R.cell_ne h2).2 hm) h2, h3.upd T U off R.lives⟩
  · obtain ⟨u, h⟩ := R.cells c hc
    exact ⟨u, IsCell_upd U T (by rw [List.mem_singleton]; rintro rfl; exact (R.cell_ne h).2 hm) h⟩
  · have e : (σ.led.set k o')[j]? = some q := e
    by_cases hj : j = k
    · subst hj
      rw [List.getElem?_set_self (List.getElem?_eq_some_iff.mp hk).1] at e
      cases e
      exact ⟨a, ha, ho⟩
    · rw [List.getElem?_set_ne (Ne.symm hj)] at e
      obtain ⟨b, e1, e2⟩ := R.led.at_ j q e
      refine ⟨b, e1, e2.upd T U off R.lives ?_⟩
      rw [List.mem_singleton]
      rintro rfl
      obtain ⟨l1, h1⟩ := List.getElem?_eq_some_iff.mp e1
      obtain ⟨l2, h2⟩ := List.getElem?_eq_some_iff.mp ha
      exact hj ((List.getElem_inj R.nodup).mp (h1.trans h2.symm))
end
end Mine
namespace Mine
open _root_.PySem _root_.PySem.Calls _root_.PySem.W _root_.PyProof.Rows

section
variable {prog : Program} {w : World} {A : Around} {ok : Fn → DefRec → Bool} {P : Addr} {mg mb : Str → Option Value} {s₀ s s' : Shared} {env : Env} {γ δ : List Addr} {σ : St} {tr : Bool} {ns : List (Str × NameKind)}

/-- other fresh objects turn -/
theorem FrameR.other (R : FrameR ok P mg mb s₀ env γ σ s) {M : List Addr} (U : Upd P M s s') (h0 : ∀ b ∈ M, s₀.heap.get? b = none) (hn : ∀ b ∈ M, b ∉ own env γ) (off : Off s.heap M γ) : FrameR ok P mg mb s₀ env γ σ s' := by
  have T := R.tabIs
  refine ⟨R.wd0, U.ext R.ext h0, R.kinds, ?_, fun x v e hk => ?_, fun c hc => ?_, R.inj, R.led.upd T U off fun a ha hm => hn a hm (by unfold own; simp [ha]), R.nodup, R.fresh⟩
  · obtain ⟨m, hm, h⟩ := R.ns
    exact ⟨m, Ns_upd U T (fun q => hn _ q (by unfold own; simp)) hm, fun x v e hk => let ⟨u, h1, h2⟩ := h x v e hk; ⟨u, h1, h2.upd T U off R.lives⟩⟩
  · obtain ⟨c, u, h1, h2, h3⟩ := R.cell x v e hk
    exact ⟨c, u, h1, IsCell_upd U T (fun q => hn _ q (by unfold own; simp only [List.mem_cons, List.mem_append]; exact .inr (.inl (mem_cells h1)))) h2, h3.upd T U off R.lives⟩
  · obtain ⟨u, h⟩ := R.cells c hc
    exact ⟨u, IsCell_upd U T (fun q => hn _ q (by unfold own; simp only [List.mem_cons, List.mem_append]; exact .inr (.inl hc))) h⟩

noncomputable def FlowIs (h : Heap) (γ : List Addr) : Flow → Fl → Prop
  | .next, .next => True
  | .brk, .brk => True
  | .ret u, .ret v => Is h γ u v
  | _, _ => False

/-- objects of iterators -/
noncomputable def ItObj (h : Heap) (b : Addr) : Prop := ∃ o vs T, h.get? b = some o ∧ o.data = .fields vs ∧ o.cls = .type T ∧ T ≠ "range" ∧ T ≠ "builtin_function_or_method"
theorem ItObj.off {h : Heap} {b : Addr} (x : ItObj h b) {o : Obj} (e : h.get? b = some o) : ¬ valObj o ∧ noTab o := by
  obtain ⟨o', vs, T, e', d, c, n1, n2⟩ := x
  rw [e] at e'; cases e'
  refine ⟨fun q => ?_, .cls (by rw [c]; nofun)⟩
  rcases q with ⟨_, _, q, _⟩ | ⟨_, _, q | q⟩
  · rw [d] at q; cases q
  · rw [c] at q; cases q; exact n1 rfl
  · rw [c] at q; cases q; exact n2 rfl
theorem ItObj.own {b : Addr} (x : ItObj s.heap b) (R : FrameR ok P mg mb s₀ env γ σ s) : b ∉ own env γ := fun hb => by
  obtain ⟨o', vs, T, e', d, _⟩ := x
  rcases List.mem_cons.mp hb with q | hb
  · obtain ⟨m, ⟨o, es, ep, e, d', _⟩, _⟩ := R.ns
    rw [← q, e'] at e; cases e
    rw [d] at d'; cases d'
  · rcases List.mem_append.mp hb with q | q
    · obtain ⟨u, o, e, d'⟩ := R.cells b q
      rw [e'] at e; cases e
      rw [d] at d'; cases d'
    · obtain ⟨o, e, h⟩ := R.led.data q
      rw [e'] at e; cases e
      rcases h with ⟨_, _, h⟩ | ⟨_, _, h⟩ <;> (rw [d] at h; cases h)

/-- what is to hold behind a step of an iterator, and behind the look at its tuple -/
noncomputable def ItK (prog : Program) (w : World) (P : Addr) (γ : List Addr) (target : Expr) (it : Addr) (its : List Addr) (I : Heap → List PV → Prop) (A : Around) (s : Shared) (Q : Option Value → Shared → Prop) (l : List PV) : Prop := match l with
  | [] => ∀ s', Upd P its s s' → Q none s'
  | x :: l => ∀ v s₁, (∀ {Q' : Unit → Shared → Prop}, (∀ s₂, Upd P its s s₂ → Is s₂.heap γ v x → I s₂.heap l → Q' () s₂) → wpB (model prog w) A (letOwnedTupleGo target (.ref it) v) Q' s₁) → Q (some v) s₁
/-- an iterator under a loop's target -/
structure Itr (prog : Program) (w : World) (P : Addr) (γ : List Addr) (target : Expr) (it : Addr) (its : List Addr) (I : Heap → List PV → Prop) : Prop where
  obj : ∀ {h l}, I h l → ∀ b ∈ its, ItObj h b
  upd : ∀ {M : List Addr} {s s' : Shared} {l}, TabIs P s.heap → Upd P M s s' → Off s.heap M γ → Lives s.heap γ → (∀ b ∈ its, b ∉ M) → I s.heap l → I s'.heap l
  next : ∀ {A : Around} {s : Shared} {l} {Q : Option Value → Shared → Prop}, A.handled = none → TabIs P s.heap → Lives s.heap γ → I s.heap l → ItK prog w P γ target it its I A s Q l → wpB (model prog w) A (pyNext (.ref it)) Q s

theorem IterAt.itObj {h : Heap} {it : Addr} {l : List PV} (x : IterAt h γ it l) : ItObj h it := by
  cases x with
  | list l i vs xs ys hit => obtain ⟨o, e, c, d⟩ := hit; exact ⟨o, _, _, e, d, c, by decide, by decide⟩
  | range x step l ys hit => exact ⟨_, _, _, hit, rfl, rfl, by decide, by decide⟩
  | str x t i l ys hit => obtain ⟨o, e, c, d⟩ := hit; exact ⟨o, _, _, e, d, c, by decide, by decide⟩
set_option tactic.hygienic true in
theorem IterAt.letGo {it : Addr} {l : List PV} (x : IterAt s.heap γ it l) {target : Expr} {v : Value} {Q : Unit → Shared → Prop} (h : Q () s) : wpB (model prog w) A (letOwnedTupleGo target (.ref it) v) Q s := by
  have key : ∀ {T : String} {o : Obj}, s.heap.get? it = some o → o.cls = .type T → ["enumerate", "zip", "dict_itemiterator", "dict_reverseitemiterator", "odict_iterator", "itertools.zip_longest", "itertools.pairwise"].contains T = false →
      wpB (model prog w) A (letOwnedTupleGo target (.ref it) v) Q s := by
    intro T o e c hT
    unfold letOwnedTupleGo
    split <;> try exact wpB_pure h
    all_goals
      split
      · rename_i q
        cases q
        refine wpB_bind (wpB_load e ?_)
        split
        · rename_i n vs hc hd
          rw [c] at hc; cases hc
          rw [hT]
          exact wpB_pure h
        · exact wpB_pure h
      · exact wpB_pure h
  cases x with
  | list l i vs xs ys hit => obtain ⟨o, e, c, d⟩ := hit; exact key e c (by decide)
  | range x step l ys hit => exact key hit rfl (by decide)
  | str x t i l ys hit => obtain ⟨o, e, c, d⟩ := hit; exact key e c (by decide)
theorem IterAt.itr {it : Addr} {target : Expr} : Itr prog w P γ target it [it] (fun h l => IterAt h γ it l) where
  obj := fun x b hb => by rw [List.mem_singleton.mp hb]; exact x.itObj
  upd := fun T U off lv hn x => x.upd T U off lv (hn it (by simp))
  next := fun {A s l Q} hh T lv x k => pyNext_ok hh x T lv (by
    cases l with
    | nil => exact k
    | cons y l => exact fun v s' U hv hi => k v s' fun hQ => hi.letGo (hQ s' U hv hi))

theorem frame_nil {σ' : St} {t : Shared} (R' : FrameR ok P mg mb s₀ env (γ ++ δ) σ' t) (R : FrameR ok P mg mb s₀ env γ σ s) (h : σ'.led.length = σ.led.length) : δ = [] := by
  have h1 := R'.led.len
  rw [h, ← R.led.len, List.length_append] at h1
  exact List.length_eq_zero_iff.mp (by (first | lia | omega))
theorem flow_el {h : Heap} {f : Flow} {fl : Fl} {nx : St → Prop} {K : Fl → St → Prop} {G : Flow → Prop} (hf : FlowIs h γ f fl) (k : lpK nx K fl σ) (H1 : nx σ → G .next) (H2 : K .next σ → G .brk) (H3 : ∀ u v, Is h γ u v → K (.ret v) σ → G (.ret u)) : G f := by
  cases fl with
  | next => cases f <;> first | exact H1 k | exact hf.elim
  | brk => cases f <;> first | exact H2 k | exact hf.elim
  | ret v => cases f <;> first | exact H3 _ v hf k | exact hf.elim

theorem for_loop {d : Nat} {target : Expr} {it : Addr} {its : List Addr} {I : Heap → List PV → Prop} {body : List Stmt} {put : St → PV → (St → Prop) → Prop} {b : St → (Fl → St → Prop) → Prop} {R : Flow → Shared → Prop} (hr : Room d A) (IT : Itr prog w P γ target it its I)
    (hput : ∀ {σ t u v K} {Q : Unit → Shared → Prop}, FrameR ok P mg mb s₀ env γ σ t → Is t.heap γ u v → put σ v K → (∀ t' σ₁, K σ₁ → FrameR ok P mg mb s₀ env γ σ₁ t' → Step P env γ [] t t' → Q () t') → wpB (model prog w) A (assign target env u) Q t)
    (hbody : ∀ {σ t K} {Q : Flow → Shared → Prop}, FrameR ok P mg mb s₀ env γ σ t → b σ K → (∀ f t' δ σ' fl, K fl σ' → FrameR ok P mg mb s₀ env (γ ++ δ) σ' t' → Step P env γ δ t t' → FlowIs t'.heap (γ ++ δ) f fl → Q f t') → wpB (model prog w) A (execs body env) Q t)
    (hits : ∀ b ∈ its, s₀.heap.get? b = none) :
    ∀ (l : List PV) (σ : St) (t : Shared) (K : Fl → St → Prop), FrameR ok P mg mb s₀ env γ σ t → I t.heap l → forW put b l σ K → (∀ f t' fl σ', K fl σ' → FrameR ok P mg mb s₀ env γ σ' t' → Upd P (its ++ own env γ) t t' → FlowIs t'.heap γ f fl → R f t') →
      codeB (model prog w) A (.forLoop target (.ref it) body [] env) R t := by
  intro l
  induction l with
  | nil => exact fun σ t K F hi hg hR => codeB_for (IT.next hr.handled F.tabIs F.lives hi fun t₁ U =>
      hR .next t₁ .next σ hg (F.other U hits (fun b hb => (IT.obj hi b hb).own F) fun b hb => .inr fun o e => ((IT.obj hi b hb).off e).1) (U.mono fun b hb => List.mem_append_left _ hb) trivial)
  | cons v l ih =>
    refine fun σ t K F hi hg hR => codeB_for (IT.next hr.handled F.tabIs F.lives hi fun u t₁ h => h fun t₂ U₂ hu hi₂ => ?_)
    have F₂ := F.other U₂ hits (fun b hb => (IT.obj hi b hb).own F) fun b hb => .inr fun o e => ((IT.obj hi b hb).off e).1
    refine hput F₂ hu hg fun t₃ σ₁ hg F₃ S₃ => ?_
    have hi₃ : I t₃.heap l := IT.upd F₂.tabIs S₃.upd F₂.off F₂.lives (fun b hb => (IT.obj hi₂ b hb).own F₂) hi₂
    refine hbody F₃ hg fun f t₄ δ σ₂ fl k F₄ S₄ hf => ?_
    cases frame_nil F₄ F₃ k.1
    rw [List.append_nil] at F₄ hf
    have U₄ : Upd P (its ++ own env γ) t t₄ := ((U₂.mono fun b hb => List.mem_append_left _ hb).trans (S₃.upd.mono fun b hb => List.mem_append_right _ hb)).trans (S₄.upd.mono fun b hb => List.mem_append_right _ hb)
    refine flow_el (G := fun f => match f with
      | .next | .cont => codeB (model prog w) A (.forLoop target (.ref it) body [] env) R t₄
      | .brk => R .next t₄
      | .ret v => R (.ret v) t₄) hf k.2 (fun k => ?_) (fun k => hR .next t₄ .next σ₂ k F₄ U₄ trivial) fun u v hv k => hR (.ret u) t₄ (.ret v) σ₂ k F₄ U₄ hv
    exact ih σ₂ t₄ K F₄ (IT.upd F₃.tabIs S₄.upd F₃.off F₃.lives (fun b hb => (IT.obj hi₃ b hb).own F₃) hi₃) k fun f t₅ fl σ' k F₅ U₅ hf => hR f t₅ fl σ' k F₅ (U₄.trans U₅) hf

theorem while_loop {test : Expr} {body : List Stmt} {c : St → (Bool → Prop) → Prop} {b : St → (Fl → St → Prop) → Prop} {R : Flow → Shared → Prop}
    (hc : ∀ {γ σ t K} {Q : Bool → Shared → Prop}, FrameR ok P mg mb s₀ env γ σ t → c σ K → (∀ v t', K v → Ext P t t' → Q v t') → wpB (model prog w) A (isTrue test env (eval test env)) Q t)
    (hbody : ∀ {γ σ t K} {Q : Flow → Shared → Prop}, FrameR ok P mg mb s₀ env γ σ t → b σ K → (∀ f t' δ σ' fl, K fl σ' → FrameR ok P mg mb s₀ env (γ ++ δ) σ' t' → Step P env γ δ t t' → FlowIs t'.heap (γ ++ δ) f fl → Q f t') → wpB (model prog w) A (execs body env) Q t) :
    ∀ (n : Nat) (γ : List Addr) (σ : St) (t : Shared) (K : Fl → St → Prop), FrameR ok P mg mb s₀ env γ σ t → whileW c b n σ K → (∀ f t' δ σ' fl, K fl σ' → FrameR ok P mg mb s₀ env (γ ++ δ) σ' t' → Step P env γ δ t t' → FlowIs t'.heap (γ ++ δ) f fl → R f t') →
      codeB (model prog w) A (.whileLoop test body [] env) R t := by
  intro n
  induction n generalizing R with
  | zero => exact fun _ _ _ _ _ hg => hg.elim
  | succ n ih =>
    refine fun γ σ t K F hg hR => codeB_while (hc F hg fun v t₁ hg E₁ => ?_)
    have F₁ := F.to E₁
    have S₁ : Step P env γ [] t t₁ := Step.of_ext E₁
    cases v with
    | false => exact hR .next t₁ [] σ .next hg.k (by rw [List.append_nil]; exact F₁) S₁ trivial
    | true =>
      refine hbody F₁ hg.k fun f t₂ δ σ₂ fl k F₂ S₂ hf => ?_
      have S₂' : Step P env γ δ t t₂ := S₁.trans (δ₁ := []) (by rw [List.append_nil]; exact S₂) F.tabIs (by rw [List.append_nil]; exact F₁)
      refine flow_el (G := fun f => match f with
        | .next | .cont => codeB (model prog w) A (.whileLoop test body [] env) R t₂
        | .brk => R .next t₂
        | .ret v => R (.ret v) t₂) hf k (fun k => ?_) (fun k => hR .next t₂ δ σ₂ .next k F₂ S₂' trivial) fun u v hv k => hR (.ret u) t₂ δ σ₂ (.ret v) k F₂ S₂' hv
      exact ih (γ ++ δ) σ₂ t₂ K F₂ k fun f t₃ δ₂ σ' fl k F₃ S₃ hf => by
        rw [List.append_assoc] at F₃ hf
        exact hR f t₃ (δ ++ δ₂) σ' fl k F₃ (S₂'.trans S₃ F.tabIs F₂) hf
end
end Mine
namespace Mine
section
open _root_.PySem _root_.PySem.Calls _root_.PySem.W _root_.PyProof.Rows

/-! ### Does the statement fit? -/
noncomputable def isLoc (ns : List (Str × NameKind)) (x : Nat) (n : Str) : Bool := n == nm x && decide (x < tab.length) && (ns.lookup n == some .local || ns.lookup n == some .cell)
noncomputable def isComp : Expr → Bool
  | .ListComp .. => true
  | .SetComp .. => true
  | .DictComp .. => true
  | _ => false
noncomputable def isCompPE : PE → Bool
  | .comp .. => true
  | _ => false
noncomputable def isTuple : Expr → Bool
  | .Tuple .. => true
  | _ => false
noncomputable def isSlice : Expr → Bool
  | .Slice .. => true
  | _ => false
noncomputable def isOne : Const → Bool
  | .int i => i == 1
  | _ => false
theorem isOne_el {G : Const → Prop} (H : G (.int 1)) (c : Const) (h : isOne c = true) : G c := by
  cases c <;> first | (cases eq_of_beq (show (_ == (1 : Int)) = true from h); exact H) | cases h

mutual
noncomputable def chkS (F : Forms) (tr : Bool) (ns : List (Str × NameKind)) : PS → List Stmt → Bool
  | .any, _ => true
  | .nil, ss => ss.isEmpty
  | .seq s r, ss => onC ss fun st rest => chk1 F tr ns s st && chkS F tr ns r rest
  | _, _ => false
noncomputable def chk1 (F : Forms) (tr : Bool) (ns : List (Str × NameKind)) : PS → Stmt → Bool
  | .any, _ => true
  | .asg x e, st => onAny e true || onAssign st fun ts v _ => on1 ts fun t => onName t fun n _ => isLoc ns x n && (chkE F tr ns e v && (!isComp v || isCompPE e))
  | .newl x, st => onAssign st fun ts v _ => on1 ts fun t => onName t fun n _ => onList v fun es _ => on0 es (isLoc ns x n)
  | .newb x, st => onAssign st fun ts v _ => on1 ts fun t => onName t fun n _ => onCall v fun g es kw _ => on0 es <| on0 kw <| onName g fun g _ => isLoc ns x n && (g == ("bytearray" : Str) && isGlob ns g)
  | .getapp x y, st => onAssign st fun ts v _ => on1 ts fun t => onName t fun n _ => onAttribute v fun b a _ => onName b fun m _ => isLoc ns x n && (isLoc ns y m && (m != ("__debug__" : Str) && a == ("append" : Str)))
  | .asgSwap x y a b, st => onAssign st fun ts v _ => on1 ts fun t => onTuple t fun l _ _ => on2 l fun t1 t2 => onName t1 fun n p => onName t2 fun m q => onTuple v fun l _ _ => on2 l fun u v =>
      isLoc ns x n && (isLoc ns y m && (n != m && (ns.lookup n == some .local && (ns.lookup m == some .local && (q.line == p.line &&
        (noStar [u, v] && (!([u, v].all (foldedForSure 8)) && (!([u, v].all (constantsAlone 8)) && (chkE F tr ns a u && chkE F tr ns b v)))))))))
  | .asgT x y e, st => onAssign st fun ts v _ => on1 ts fun t => onTuple t fun l _ _ => on2 l fun t1 t2 => onName t1 fun n _ => onName t2 fun m _ => isLoc ns x n && (isLoc ns y m && (!isTuple v && (!isComp v && chkE F tr ns e v)))
  | .aug x o e, st => onAugAssign st fun t op v _ => onName t fun n _ => isLoc ns x n && (op == opn o && chkE F tr ns e v)
  | .app x e, st => onEx st fun c _ => onCall c fun f es kw pos => on0 kw <| onAttribute f fun b a apos => onName b fun n _ => on1 es fun v => isLoc ns x n && (n != ("__debug__" : Str) && (a == ("append" : Str) && (apos.endLine == pos.line && (noStar [v] && chkE F tr ns e v))))
  | .appm x e, st => onEx st fun c _ => onCall c fun f es kw _ => on0 kw <| onName f fun n _ => on1 es fun v => isLoc ns x n && (n != ("__debug__" : Str) && (noStar [v] && chkE F tr ns e v))
  | .ext x e, st => onEx st fun c _ => onCall c fun f es kw pos => on0 kw <| onAttribute f fun b a apos => onName b fun n _ => on1 es fun v => isLoc ns x n && (n != ("__debug__" : Str) && (a == ("extend" : Str) && (apos.endLine == pos.line && (noStar [v] && chkE F tr ns e v))))
  | .setI x i e, st => onAssign st fun ts v _ => on1 ts fun t => onSubscript t fun b j _ => onName b fun n _ => isLoc ns x n && (n != ("__debug__" : Str) && (!isSlice j && (!isComp v && (chkE F tr ns i j && chkE F tr ns e v))))
  | .augI x i e, st => onAugAssign st fun t op v _ => onSubscript t fun b j _ => onName b fun n _ => onUnaryOp j fun o c _ => onConstant c fun c _ _ => isUSub o && (isOne c && (op == .Add && (isLoc ns x n && (n != ("__debug__" : Str) && (i == -1 && chkE F tr ns e v)))))
  | .delI x i, st => onDelete st fun ts _ => on1 ts fun t => onSubscript t fun b j _ => onName b fun n _ => isLoc ns x n && (n != ("__debug__" : Str) && chkE F tr ns i j)
  | .iff c t e, st => onIf st fun v b o _ => chkE F tr ns c v && (chkS F tr ns t b && chkS F tr ns e o)
  | .whl c b, st => onWhile st fun v bs o _ => on0 o <| chkE F tr ns c v && chkS F tr ns b bs
  | .forI x it b, st => onFor st fun t v bs o _ => on0 o <| onName t fun n _ => isLoc ns x n && (notSet v && (chkE F tr ns it v && chkS F tr ns b bs))
  | .forT x y z it b, st => onFor st fun t v bs o _ => on0 o <| onTuple t fun l _ _ => on3 l fun t1 t2 t3 => onName t1 fun n _ => onName t2 fun m _ => onName t3 fun k _ => isLoc ns x n && (isLoc ns y m && (isLoc ns z k && (notSet v && (chkE F tr ns it v && chkS F tr ns b bs))))
  | .forE x y it b, st => onFor st fun t v bs o _ => on0 o <| onTuple t fun l _ _ => on2 l fun t1 t2 => onName t1 fun n _ => onName t2 fun m _ => onCall v fun g es kw _ => on0 kw <| onName g fun g _ => on1 es fun v => isLoc ns x n && (isLoc ns y m && (g == ("enumerate" : Str) && (isGlob ns g && (noStar [v] && (chkE F tr ns it v && chkS F tr ns b bs)))))
  | .ret e, st => onReturn st fun o _ => sm o (chkE F tr ns e)
  | .brk, st => onBreak st fun _ => true
  | .asrt e, st => onAssert st fun v _ _ => chkE F tr ns e v
  | .try_ b, st => onTry st fun bs _ o f _ => on0 o <| on0 f (chkS F tr ns b bs)
  | _, _ => false
end

section
variable (κ : Par)
structure Side2 : Prop where
  newb : ∀ {A : Around} {s : Shared}, Room κ.d A → wpB (model κ.prog κ.w) A (call (.type "bytearray") []) (fun v s' => ∃ a, v = .ref a ∧ s.heap.get? a = none ∧ Ext κ.P s s' ∧ s'.heap.get? a = some { cls := .type "bytearray", data := .bytearray #[] 0 }) s
  getapp : ∀ {A : Around} {s : Shared} {a : Addr} {vs : Array Value}, Room κ.d A → TabIs κ.P s.heap → s.heap.PlainList a vs → wpB (model κ.prog κ.w) A (getAttr (.ref a) "append" true) (fun v s' => ∃ q, v = .ref q ∧ Ext κ.P s s' ∧ IsMeth s'.heap q a) s
  appm : ∀ {A : Around} {s : Shared} {q a : Addr} {vs : Array Value} {v : Value}, Room κ.d A → TabIs κ.P s.heap → IsMeth s.heap q a → s.heap.PlainList a vs → vs.size ≤ big → wpB (model κ.prog κ.w) A (call (.ref q) [v]) (fun r s' => r = .none ∧ Upd κ.P [a] s s' ∧ s'.heap.PlainList a (vs.push v)) s
  mapp : ∀ {s : Shared} {a : Addr} {vs : Array Value}, s.heap.PlainList a vs → Meth s (.ref a) "append" "list.append"
  bapp : ∀ {s : Shared} {a : Addr} {arr : Array UInt8}, s.heap.get? a = some { cls := .type "bytearray", data := .bytearray arr 0 } → Meth s (.ref a) "append" "bytearray.append"
  cbapp : ∀ {A : Around} {s : Shared} {a : Addr} {arr : Array UInt8} {i : Int} {t : Tok}, Room κ.d A → TabIs κ.P s.heap → s.heap.get? a = some { cls := .type "bytearray", data := .bytearray arr 0 } → 0 ≤ i → i < 256 → arr.size ≤ big →
    wpB (model κ.prog κ.w) A (call (.builtin "bytearray.append") [.ref a, .int i t]) (fun r s' => r = .none ∧ Upd κ.P [a] s s' ∧ s'.heap.get? a = some { cls := .type "bytearray", data := .bytearray (arr.push (UInt8.ofNat i.toNat)) 0 }) s
  bext : ∀ {s : Shared} {a : Addr} {arr : Array UInt8}, s.heap.get? a = some { cls := .type "bytearray", data := .bytearray arr 0 } → Meth s (.ref a) "extend" "bytearray.extend"
  cbext : ∀ {A : Around} {s : Shared} {a : Addr} {arr b : Array UInt8} {t : Tok}, Room κ.d A → TabIs κ.P s.heap → s.heap.get? a = some { cls := .type "bytearray", data := .bytearray arr 0 } → b.size ≤ big → arr.size ≤ big →
    wpB (model κ.prog κ.w) A (call (.builtin "bytearray.extend") [.ref a, .bytes b t]) (fun r s' => r = .none ∧ Upd κ.P [a] s s' ∧ s'.heap.get? a = some { cls := .type "bytearray", data := .bytearray (arr ++ b) 0 }) s
end
end
end Mine
namespace Mine
open _root_.PySem _root_.PySem.Calls _root_.PySem.W _root_.PyProof.Rows

/-! ### Statements are sound -/
section
variable {prog : Program} {w : World} {A : Around} {ok : Fn → DefRec → Bool} {P : Addr} {mg mb : Str → Option Value} {s₀ s s' : Shared} {env : Env} {γ δ : List Addr} {σ : St} {tr : Bool} {ns : List (Str × NameKind)}

theorem wpB_bindName {n : Str} {v : Value} {Q : Unit → Shared → Prop} (h : wpB (model prog w) A (storeName env n v) Q s) : wpB (model prog w) A (bindName env n v) Q s := by
  unfold bindName
  exact wpB_bind (wpB_holding (wpB_point (wpB_bindm h fun _ s₂ h₂ => wpB_point h₂)))
theorem wpB_assign_Name {n : Str} {pos : Pos} {v : Value} {Q : Unit → Shared → Prop} (h : wpB (model prog w) A (storeName env n v) Q s) : wpB (model prog w) A (assign (.Name n pos) env v) Q s := by
  rw [arm_assign_Name]
  exact wpB_bind (wpB_standAt (wpB_bindName h))
theorem isLoc_of {x : Nat} {n : Str} (h : isLoc ns x n = true) : n = nm x ∧ x < tab.length ∧ (ns.lookup (nm x) = some .local ∨ ns.lookup (nm x) = some .cell) := by
  unfold isLoc at h
  simp only [Bool.and_eq_true, Bool.or_eq_true, decide_eq_true_eq] at h
  obtain ⟨⟨h1, h2⟩, h3⟩ := h
  have := eq_of_beq h1
  subst this
  exact ⟨rfl, h2, h3.imp eq_of_beq eq_of_beq⟩
theorem store' (R : FrameR ok P mg mb s₀ env γ σ s) (EO : EnvOk tr ns env) {x : Nat} {n : Str} (hl : isLoc ns x n = true) {u : Value} {v : PV} (hv : Is s.heap γ u v) :
    wpB (model prog w) A (storeName env n u) (fun _ s' => FrameR ok P mg mb s₀ env γ (σ.set x v) s' ∧ Step P env γ [] s s') s := by
  obtain ⟨rfl, h2, h3⟩ := isLoc_of hl
  exact store R EO h2 h3 hv
theorem Step.refl : Step P env γ [] s s := Step.of_ext (Ext.refl s)
theorem Step.trans0 {s₁ s₂ s₃ : Shared} (x : Step P env γ [] s₁ s₂) (y : Step P env γ [] s₂ s₃) : Step P env γ [] s₁ s₃ := ⟨x.upd.trans y.upd, fun _ h => nomatch h⟩

/-- the items of an unpacked tuple -/
theorem wpB_unpack {t : Addr} {vs : Array Value} {targets : List (Bool × (Value → Sem Unit))} {Q : Unit → Shared → Prop} (hh : A.handled = none) (ht : s.heap.IsTuple t vs) (hn : targets.length = vs.size) (hs : targets.findIdx? (·.1) = none)
    (h : ∀ s', Ext P s s' → wpB (model prog w) A (assignInOrder (targets.map (·.2)) vs.toList) Q s') : wpB (model prog w) A (unpack (.ref t) targets) Q s := by
  unfold unpack
  rw [hn, hs]
  refine wpB_bind (wpB_holding (wpB_leaf (wpAny_unpackItems_tuple hh ht fun h' he => h _ (Ext.of_keep (t := s.toks) fun b o e => he b o (Nat.ne_of_lt (Heap.lt_size e)) e))))
theorem wpB_inOrder2 {t1 t2 : Value → Sem Unit} {u v : Value} {Q : Unit → Shared → Prop} (h : wpB (model prog w) A (t1 u) (fun _ s₁ => wpB (model prog w) A (t2 v) Q s₁) s) : wpB (model prog w) A (assignInOrder [t1, t2] [u, v]) Q s := by
  show wpB _ _ (do holding [v] (t1 u); (do holding [] (t2 v); pure ())) _ _
  exact wpB_bind (wpB_holding (wpB_mono h fun _ s₁ h₁ => wpB_bind (wpB_holding (wpB_mono h₁ fun _ s₂ h₂ => wpB_pure h₂))))
theorem wpB_inOrder3 {t1 t2 t3 : Value → Sem Unit} {u v z : Value} {Q : Unit → Shared → Prop} (h : wpB (model prog w) A (t1 u) (fun _ s₁ => wpB (model prog w) A (t2 v) (fun _ s₂ => wpB (model prog w) A (t3 z) Q s₂) s₁) s) : wpB (model prog w) A (assignInOrder [t1, t2, t3] [u, v, z]) Q s := by
  show wpB _ _ (do holding [v, z] (t1 u); (do holding [z] (t2 v); (do holding [] (t3 z); pure ()))) _ _
  exact wpB_bind (wpB_holding (wpB_mono h fun _ s₁ h₁ => wpB_bind (wpB_holding (wpB_mono h₁ fun _ s₂ h₂ => wpB_bind (wpB_holding (wpB_mono h₂ fun _ s₃ h₃ => wpB_pure h₃))))))

theorem assign2 (hh : A.handled = none) (R : FrameR ok P mg mb s₀ env γ σ s) (EO : EnvOk tr ns env) {x y : Nat} {n m : Str} {p q pos : Pos} {k : Nat} (h1 : isLoc ns x n = true) (h2 : isLoc ns y m = true) {u : Value} {a b : PV} (hv : Is s.heap γ u (.tup [a, b])) :
    wpB (model prog w) A (assign (.Tuple [.Name n p, .Name m q] k pos) env u) (fun _ s' => FrameR ok P mg mb s₀ env γ ((σ.set x a).set y b) s' ∧ Step P env γ [] s s') s := by
  cases hv with
  | tup t vs xs hl hx hf =>
    have hlen := hx.length
    rw [arm_assign_Tuple]
    refine wpB_bind (wpB_standAt (wpB_unpack (P := P) hh hl (by rw [Array.length_toList] at hlen; simp only [List.length_cons, List.length_nil] at hlen; rw [hlen]; rfl) rfl fun s₁ E => ?_))
    have hx₁ := hx.ext R.tabIs E.keep
    have R₁ := R.to E
    have S₁ : Step P env γ [] s s₁ := Step.of_ext E
    generalize vs.toList = l at hx₁
    cases hx₁ with
    | cons hv1 hr => cases hr with
      | cons hv2 hr => cases hr with
        | nil =>
          refine wpB_inOrder2 (wpB_assign_Name (wpB_mono (store' R₁ EO h1 hv1) fun _ s₂ ⟨R₂, S₂⟩ => ?_))
          refine wpB_assign_Name (wpB_mono (store' R₂ EO h2 (hv2.upd R₁.tabIs S₂.upd R₁.off R₁.lives)) fun _ s₃ ⟨R₃, S₃⟩ => ⟨R₃, (S₁.trans0 S₂).trans0 S₃⟩)
theorem assign3 (hh : A.handled = none) (R : FrameR ok P mg mb s₀ env γ σ s) (EO : EnvOk tr ns env) {x y z : Nat} {n m l : Str} {p q r pos : Pos} {k : Nat} (h1 : isLoc ns x n = true) (h2 : isLoc ns y m = true) (h3 : isLoc ns z l = true) {u : Value} {a b c : PV} (hv : Is s.heap γ u (.tup [a, b, c])) :
    wpB (model prog w) A (assign (.Tuple [.Name n p, .Name m q, .Name l r] k pos) env u) (fun _ s' => FrameR ok P mg mb s₀ env γ (((σ.set x a).set y b).set z c) s' ∧ Step P env γ [] s s') s := by
  cases hv with
  | tup t vs xs hl hx hf =>
    have hlen := hx.length
    rw [arm_assign_Tuple]
    refine wpB_bind (wpB_standAt (wpB_unpack (P := P) hh hl (by rw [Array.length_toList] at hlen; simp only [List.length_cons, List.length_nil] at hlen; rw [hlen]; rfl) rfl fun s₁ E => ?_))
    have hx₁ := hx.ext R.tabIs E.keep
    have R₁ := R.to E
    have S₁ : Step P env γ [] s s₁ := Step.of_ext E
    generalize vs.toList = l at hx₁
    cases hx₁ with
    | cons hv1 hr => cases hr with
      | cons hv2 hr => cases hr with
        | cons hv3 hr => cases hr with
          | nil =>
            refine wpB_inOrder3 (wpB_assign_Name (wpB_mono (store' R₁ EO h1 hv1) fun _ s₂ ⟨R₂, S₂⟩ => ?_))
            refine wpB_assign_Name (wpB_mono (store' R₂ EO h2 (hv2.upd R₁.tabIs S₂.upd R₁.off R₁.lives)) fun _ s₃ ⟨R₃, S₃⟩ => ?_)
            refine wpB_assign_Name (wpB_mono (store' R₃ EO h3 ((hv3.upd R₁.tabIs S₂.upd R₁.off R₁.lives).upd R₂.tabIs S₃.upd R₂.off R₂.lives)) fun _ s₄ ⟨R₄, S₄⟩ => ⟨R₄, ((S₁.trans0 S₂).trans0 S₃).trans0 S₄⟩)
end

section
variable (κ : Par)
/-- the place of a statement -/
structure Fx (ns : List (Str × NameKind)) (A : Around) (s₀ : Shared) (env : Env) (γ : List Addr) (σ : St) (s : Shared) : Prop where
  room : Room κ.d A
  eo : EnvOk κ.tr ns env
  fr : FrameR κ.ok κ.P κ.mg κ.mb s₀ env γ σ s
/-- what is to hold behind a statement -/
noncomputable def EndK (s₀ : Shared) (env : Env) (γ : List Addr) (s : Shared) (K : Fl → St → Prop) (Q : Flow → Shared → Prop) : Prop :=
  ∀ f s' δ σ' fl, K fl σ' → FrameR κ.ok κ.P κ.mg κ.mb s₀ env (γ ++ δ) σ' s' → Step κ.P env γ δ s s' → FlowIs s'.heap (γ ++ δ) f fl → Q f s'
noncomputable def ExOk (N : Nat) (ns : List (Str × NameKind)) (ps : PS) (ss : List Stmt) : Prop := ∀ {A : Around} {s₀ : Shared} {env : Env} {γ : List Addr} {σ : St} {s : Shared} {K : Fl → St → Prop} {Q : Flow → Shared → Prop}, Fx κ ns A s₀ env γ σ s → wS κ.C N ps σ K → EndK κ s₀ env γ s K Q → wpB (model κ.prog κ.w) A (execs ss env) Q s
noncomputable def Ex1Ok (N : Nat) (ns : List (Str × NameKind)) (ps : PS) (st : Stmt) : Prop := ∀ {A : Around} {s₀ : Shared} {env : Env} {γ : List Addr} {σ : St} {s : Shared} {K : Fl → St → Prop} {Q : Flow → Shared → Prop}, Fx κ ns A s₀ env γ σ s → wS κ.C N ps σ K → EndK κ s₀ env γ s K Q → wpB (model κ.prog κ.w) A (exec st env) Q s
end
section
variable {κ : Par} {ns : List (Str × NameKind)} {A : Around} {s₀ s s₁ : Shared} {env : Env} {γ : List Addr} {σ σ' : St} {K : Fl → St → Prop} {Q : Flow → Shared → Prop}
theorem Fx.cx (x : Fx κ ns A s₀ env γ σ s) : Cx κ ns A env γ σ s := ⟨x.room, x.eo, x.fr.rel⟩
theorem Fx.to (x : Fx κ ns A s₀ env γ σ s) (E : Ext κ.P s s₁) : Fx κ ns A s₀ env γ σ s₁ := ⟨x.room, x.eo, x.fr.to E⟩
theorem EndK.fin (h : EndK κ s₀ env γ s K Q) {f : Flow} {fl : Fl} (k : K fl σ') (R : FrameR κ.ok κ.P κ.mg κ.mb s₀ env γ σ' s₁) (S : Step κ.P env γ [] s s₁) (hf : FlowIs s₁.heap γ f fl) : Q f s₁ :=
  h f s₁ [] σ' fl k (by rw [List.append_nil]; exact R) S (by rw [List.append_nil]; exact hf)
/-- an end by a name bound anew -/
theorem EndK.store (h : EndK κ s₀ env γ s K Q) {x : Nat} {n : Str} {u : Value} {v : PV} (k : K .next (σ.set x v)) (F : Fx κ ns A s₀ env γ σ s₁) (S : Step κ.P env γ [] s s₁) (hl : isLoc ns x n = true) (hv : Is s₁.heap γ u v) :
    wpB (model κ.prog κ.w) A (storeName env n u) (fun _ s₂ => Q .next s₂) s₁ :=
  wpB_mono (store' F.fr F.eo hl hv) fun _ s₂ q => h.fin k q.1 (S.trans0 q.2) trivial
/-- a step without new objects ahead -/
theorem EndK.later (h : EndK κ s₀ env γ s K Q) (F : Fx κ ns A s₀ env γ σ s) (E : Ext κ.P s s₁) : EndK κ s₀ env γ s₁ K Q := fun f s' δ σ' fl k R' S' hf =>
  h f s' δ σ' fl k R' ((Step.of_ext E).trans (δ₁ := []) (by rw [List.append_nil]; exact S') F.fr.tabIs (by rw [List.append_nil]; exact F.fr.to E)) hf
end
end Mine
namespace Mine
open _root_.PySem _root_.PySem.Calls _root_.PySem.W _root_.PyProof.Rows

section
variable {prog : Program} {w : World} {A : Around} {ok : Fn → DefRec → Bool} {P : Addr} {mg mb : Str → Option Value} {s₀ s s' : Shared} {env : Env} {γ δ : List Addr} {σ : St} {tr : Bool} {ns : List (Str × NameKind)}

theorem Step.fresh {s₁ s₂ : Shared} {M : List Addr} (x : Step P env γ δ s s₁) (U : Upd P M s₁ s₂) (h : ∀ b ∈ M, s.heap.get? b = none) : Step P env γ δ s s₂ :=
  ⟨⟨fun b o hb n e => U.keep b o (fun hm => by rw [h b hm] at e; cases e) n (x.upd.keep b o hb n e), fun vs e t => by
    obtain ⟨m₁, e₁, t₁⟩ := x.upd.tab vs e t
    obtain ⟨m₂, e₂, t₂⟩ := U.tab _ e₁ t₁
    exact ⟨m₁ ++ m₂, by rw [← Array.append_assoc]; exact e₂, by rw [← Array.append_assoc]; exact t₂⟩, U.os.trans x.upd.os, fun g => U.gens (x.upd.gens g)⟩, x.new⟩

theorem wpB_loadName (R : RelE ok P mg mb env γ σ s) (EO : EnvOk tr ns env) {x : Nat} {v : PV} (e : getV σ.env x = some v) {Q : Value → Shared → Prop} (h : ∀ u, Is s.heap γ u v → Q u s) : wpB (model prog w) A (loadName env (nm x)) Q s := by
  obtain ⟨_, hv⟩ := R.var x v e
  cases hv with
  | loc hk m u hn hm hv => exact wpB_leaf (wpAny_loadName_local EO.kind hk hn hm (h u hv))
  | cell hk c u hc hu hv => exact wpB_leaf (wpAny_loadName_cell EO.kind hk hc hu (h u hv))
theorem wpB_evalName (R : RelE ok P mg mb env γ σ s) (EO : EnvOk tr ns env) {x : Nat} {n : Str} {pos : Pos} {v : PV} (hl : isLoc ns x n = true) (hd : (n != ("__debug__" : Str)) = true) (e : getV σ.env x = some v) {Q : Value → Shared → Prop} (h : ∀ u, Is s.heap γ u v → Q u s) : wpB (model prog w) A (eval (.Name n pos) env) Q s := by
  obtain ⟨rfl, _, _⟩ := isLoc_of hl
  have hd : (nm x == ("__debug__" : Str)) = false := by simpa using hd
  rw [eval_Name env (nm x) pos hd]
  exact wpB_bind (wpB_standAt (wpB_loadName R EO e h))

theorem swaps_plain {v : Expr} {t : Option Expr} {line : Nat} {env : Env} (h : isComp v = false) : swapsWith v t line env = pure false := by
  cases v <;> first | rfl | simp [isComp] at h
theorem interactive_no (EO : EnvOk tr ns env) : interactive env = false := by unfold interactive; rw [EO.kind]; rfl

theorem wpB_Assign {t v : Expr} {pos : Pos} {Q : Flow → Shared → Prop} (hc : isComp v = false) (hs : swappedStores [t] v env = pure none)
    (h : wpB (model prog w) A (eval v env) (fun u s₁ => wpB (model prog w) A ((assignEach [t] env).map (·.2) |> assignAll u) (fun _ s₂ => Q .next s₂) s₁) s) : wpB (model prog w) A (exec (.Assign [t] v pos) env) Q s := by
  rw [arm_exec_Assign]
  refine wpB_bind (wpB_standAt (wpB_bind ?_))
  show wpB _ _ (swapsWith v (some t) pos.line env) _ _
  rw [swaps_plain hc]
  refine wpB_pure ?_
  simp only [Bool.false_eq_true, if_false]
  refine wpB_bindm h fun u s₁ h₁ => ?_
  rw [hs]
  refine wpB_bind (wpB_pure ?_)
  exact wpB_bindm h₁ fun _ s₂ h₂ => wpB_pure h₂
theorem wpB_assignAll1 {t : Value → Sem Unit} {u : Value} {Q : Unit → Shared → Prop} (h : wpB (model prog w) A (t u) Q s) : wpB (model prog w) A (assignAll u [t]) Q s := h

theorem wpB_ExprCall {f : Expr} {es : List Expr} {cp pos : Pos} {Q : Flow → Shared → Prop} (EO : EnvOk tr ns env)
    (h : wpB (model prog w) A (eval (.Call f es [] cp) env) (fun v s' => v = .none ∧ Q .next s') s) : wpB (model prog w) A (exec (.Expr (.Call f es [] cp) pos) env) Q s := by
  rw [arm_exec_Expr]
  refine wpB_bind (wpB_standAt ?_)
  rw [interactive_no EO]
  simp only [Bool.false_eq_true, if_false]
  refine wpB_bind ?_
  rw [swaps_plain rfl]
  refine wpB_pure ?_
  simp only [Bool.false_eq_true, if_false]
  refine wpB_bindm h fun v s' ⟨hv, hq⟩ => ?_
  subst hv
  exact wpB_pure hq

theorem wpB_AugName {n : Str} {np pos : Pos} {op : Operator} {v : Expr} {Q : Flow → Shared → Prop}
    (h : wpB (model prog w) A (loadName env n) (fun old s₁ => wpB (model prog w) A (eval v env) (fun u s₂ => wpB (model prog w) A (inplaceOp op old u) (fun r s₃ => wpB (model prog w) A (storeName env n r) (fun _ s₄ => Q .next s₄) s₃) s₂) s₁) s) :
    wpB (model prog w) A (exec (.AugAssign (.Name n np) op v pos) env) Q s := by
  rw [arm_exec_AugAssign]
  refine wpB_bind (wpB_standAt (wpB_bindm h fun old s₁ h₁ => wpB_bind (wpB_holding (wpB_mono h₁ fun u s₂ h₂ => wpB_bind (wpB_standAt (wpB_bind (wpB_operate (wpB_mono h₂ fun r s₃ h₃ => wpB_bind (wpB_standAt (wpB_bind (wpB_mono (wpB_bindName h₃) fun _ s₄ h₄ => wpB_pure h₄)))))))))))

theorem wpB_For {target iter : Expr} {body : List Stmt} {pos : Pos} {Q : Flow → Shared → Prop} (hs : notSet iter = true)
    (h : wpB (model prog w) A (eval iter env) (fun x s₁ => wpB (model prog w) A (pyIter x) (fun it s₂ => codeB (model prog w) A (.forLoop target it body [] env) Q s₂) s₁) s) :
    wpB (model prog w) A (exec (.For target iter body [] pos) env) Q s := by
  rw [arm_exec_For]
  refine wpB_bind (wpB_standAt (wpB_bindm h fun x s₁ h₁ => ?_))
  have : foldedSetIterable iter env x = pure x := by cases iter <;> first | rfl | simp [notSet] at hs
  rw [this]
  refine wpB_bind (wpB_pure (wpB_bind (wpB_standAt (wpB_bind (wpB_holding (wpB_mono h₁ fun it s₂ h₂ => wpB_runOwn (fun _ _ => rfl) h₂))))))
theorem wpB_While {test : Expr} {body : List Stmt} {pos : Pos} {Q : Flow → Shared → Prop} (h : codeB (model prog w) A (.whileLoop test body [] env) Q s) : wpB (model prog w) A (exec (.While test body [] pos) env) Q s := by
  rw [arm_exec_While]
  exact wpB_bind (wpB_standAt (wpB_runOwn (fun _ _ => rfl) h))
theorem wpB_If {test : Expr} {b o : List Stmt} {pos : Pos} {Q : Flow → Shared → Prop} (h : wpB (model prog w) A (isTrue test env (eval test env)) (fun t s₁ => match t with | true => wpB (model prog w) A (execs b env) Q s₁ | false => wpB (model prog w) A (execs o env) Q s₁) s) :
    wpB (model prog w) A (exec (.If test b o pos) env) Q s := by
  rw [arm_exec_If]
  refine wpB_bind (wpB_standAt (wpB_bindm h fun t s₁ h₁ => ?_))
  cases t <;> exact h₁
theorem wpB_Try {b : List Stmt} {hs : List ExceptHandler} {pos : Pos} {Q : Flow → Shared → Prop} (h : wpB (model prog w) A (execs b env) Q s) : wpB (model prog w) A (exec (.Try b hs [] [] pos) env) Q s := by
  rw [arm_exec_Try]
  refine wpB_bind (wpB_standAt ?_)
  unfold tryStmt
  simp only [List.isEmpty_nil, if_true]
  refine wpB_bind (wpB_attempt (wpB_mono h fun f s₁ h₁ => ?_))
  cases f <;> exact wpB_pure h₁
theorem wpB_AssignSub {o j : Expr} {sp pos : Pos} {v : Expr} {Q : Flow → Shared → Prop} (hc : isComp v = false)
    (h : wpB (model prog w) A (eval v env) (fun u s₁ => wpB (model prog w) A (eval o env) (fun ov s₂ => wpB (model prog w) A (eval j env) (fun iv s₃ => wpB (model prog w) A (setItem ov iv u) (fun _ s₄ => Q .next s₄) s₃) s₂) s₁) s) :
    wpB (model prog w) A (exec (.Assign [.Subscript o j sp] v pos) env) Q s := by
  refine wpB_Assign hc rfl (wpB_mono h fun u s₁ h₁ => wpB_assignAll1 ?_)
  show wpB _ _ (assign (.Subscript o j sp) env u) _ _
  rw [arm_assign_Subscript]
  exact wpB_bind (wpB_holding (wpB_mono h₁ fun ov s₂ h₂ => wpB_bind (wpB_holding (wpB_mono h₂ fun iv s₃ h₃ => wpB_bind (wpB_standAt (wpB_bind (wpB_holding (wpB_mono h₃ fun _ s₄ h₄ => wpB_release h₄))))))))
theorem wpB_AugSub {o j : Expr} {sp pos : Pos} {op : Operator} {v : Expr} {Q : Flow → Shared → Prop} (hj : isSlice j = false)
    (h : wpB (model prog w) A (eval o env) (fun ov s₁ => wpB (model prog w) A (eval j env) (fun iv s₂ => wpB (model prog w) A (getItem ov iv) (fun old s₃ => wpB (model prog w) A (eval v env) (fun u s₄ => wpB (model prog w) A (inplaceOp op old u) (fun r s₅ => wpB (model prog w) A (setItem ov iv r) (fun _ s₆ => Q .next s₆) s₅) s₄) s₃) s₂) s₁) s) :
    wpB (model prog w) A (exec (.AugAssign (.Subscript o j sp) op v pos) env) Q s := by
  rw [arm_exec_AugAssign_3]
  refine wpB_bind (wpB_standAt (wpB_bindm h fun ov s₁ h₁ => wpB_bind (wpB_holding (wpB_mono h₁ fun iv s₂ h₂ => wpB_bind (wpB_holding (wpB_bind (wpB_standAt (wpB_bind (wpB_mono h₂ fun old s₃ h₃ => wpB_bind (wpB_holding (wpB_mono h₃ fun u s₄ h₄ => wpB_bind (wpB_standAt (wpB_operate (wpB_mono h₄ fun r s₅ h₅ => wpB_bind (wpB_standAt ?_)))))))))))))))
  have : augStore j ov iv r = (do holding [r, ov, iv] (setItem ov iv r); release [r, ov, iv] []; pure .next) := by
    unfold augStore
    split
    · simp [isSlice] at hj
    · rfl
  rw [this]
  exact wpB_bind (wpB_holding (wpB_mono h₅ fun _ s₆ h₆ => wpB_bind (wpB_release (wpB_pure h₆))))
theorem wpB_DelSub {o j : Expr} {sp pos : Pos} {Q : Flow → Shared → Prop}
    (h : wpB (model prog w) A (eval o env) (fun ov s₁ => wpB (model prog w) A (eval j env) (fun iv s₂ => wpB (model prog w) A (delItem ov iv) (fun _ s₃ => Q .next s₃) s₂) s₁) s) : wpB (model prog w) A (exec (.Delete [.Subscript o j sp] pos) env) Q s := by
  rw [arm_exec_Delete]
  refine wpB_bind (wpB_standAt (wpB_bind ?_))
  rw [arm_deleteEach_cons, arm_delete_Subscript]
  refine wpB_bind (wpB_bindm h fun ov s₁ h₁ => wpB_bind (wpB_holding (wpB_mono h₁ fun iv s₂ h₂ => wpB_bind (wpB_standAt (wpB_bind (wpB_holding (wpB_mono h₂ fun _ s₃ h₃ => wpB_release (wpB_pure (wpB_pure h₃)))))))))
theorem wpB_execs_cons {st : Stmt} {ss : List Stmt} {Q : Flow → Shared → Prop} (h : wpB (model prog w) A (exec st env) (fun f s₁ => match f with | .next => wpB (model prog w) A (execs ss env) Q s₁ | f => Q f s₁) s) : wpB (model prog w) A (execs (st :: ss) env) Q s := by
  rw [arm_execs_cons]
  refine wpB_bindm h fun f s₁ h₁ => ?_
  cases f <;> first | exact h₁ | exact wpB_pure h₁

/-- the list at an own place turns -/
theorem list_at (R : FrameR ok P mg mb s₀ env γ σ s) {k : Nat} {a : Addr} {xs ys : List PV} {ws : Array Value} (hk : σ.led[k]? = some (.list xs)) (ha : γ[k]? = some a) (U : Upd P [a] s s') (hp : s'.heap.PlainList a ws) (hx : IsAll s.heap γ ws.toList ys) (hf : ys.all frozen = true) :
    FrameR ok P mg mb s₀ env γ (σ.setO k (.list ys)) s' ∧ Step P env γ [] s s' := by
  have hm : a ∈ γ := List.mem_of_getElem? ha
  have off : Off s.heap [a] γ := fun b hb => .inl (by rw [List.mem_singleton.mp hb]; exact hm)
  exact R.setO hk ha U ⟨ws, hp, hx.upd R.tabIs U off R.lives, hf⟩
end
end Mine
namespace Mine
open _root_.PySem _root_.PySem.Calls _root_.PySem.W _root_.PyProof.Rows

section
variable {prog : Program} {w : World} {P : Addr} {γ : List Addr}
/-- an enumeration of a list -/
noncomputable def EnumAt (γ : List Addr) (e it : Addr) (h : Heap) (ys : List PV) : Prop :=
  e ≠ it ∧ ∃ (l : Addr) (i : Nat) (vs : Array Value) (xs : List PV) (old : Value), IsEnum h e it i old ∧ h.IsListIter it l i ∧ l ∉ γ ∧ h.PlainList l vs ∧ IsAll h γ vs.toList xs ∧ xs.all frozen = true ∧ ys = enumItems (xs.drop i) i
theorem EnumAt.itr {e it : Addr} {elts : List Expr} {k : Nat} {pos : Pos} : Itr prog w P γ (.Tuple elts k pos) e [e, it] (EnumAt γ e it) where
  obj := fun x b hb => by
    obtain ⟨_, l', i, vs, xs, old, he, ⟨o, e1, c, d⟩, _⟩ := x
    rcases List.mem_cons.mp hb with q | q
    · subst q; exact ⟨_, _, _, he, rfl, rfl, by decide, by decide⟩
    · rw [List.mem_singleton.mp q]; exact ⟨o, _, _, e1, d, c, by decide, by decide⟩
  upd := fun {M s s' l} T U off lv hn x => by
    obtain ⟨hne, l', i, vs, xs, old, he, ⟨o, e1, c, d⟩, hl, ⟨n, e2⟩, hx, hf, hy⟩ := x
    refine ⟨hne, l', i, vs, xs, old, U.keep _ _ (hn e (by simp)) (T.ne he (.cls (by nofun))) he, ⟨o, U.keep _ _ (hn it (by simp)) (T.ne e1 (.cls (by rw [c]; nofun))) e1, c, d⟩, hl, ⟨n, U.keep _ _ (fun hm => ?_) (T.ne e2 (.cls (by nofun))) e2⟩, hx.upd T U off lv, hf, hy⟩
    rcases off l' hm with q | q
    · exact hl q
    · exact q _ e2 (.inl ⟨_, _, rfl, .inl rfl⟩)
  next := fun {A s l Q} hh T lv x k => by
    obtain ⟨hne, l', i, vs, xs, old, he, hit, hl, hp, hx, hf, hy⟩ := x
    obtain ⟨o, e1, c, d⟩ := id hit
    have nt : ∀ b ∈ [e, it], ∀ o, s.heap.get? b = some o → noTab o ∧ ¬ valObj o := fun b hb o' e' => by
      rcases List.mem_cons.mp hb with q | q
      · rw [q, he] at e'; cases e'
        exact ⟨.cls (by nofun), fun h => by
          rcases h with ⟨_, _, q, _⟩ | ⟨_, _, q | q⟩
          · cases q
          · exact absurd q (show ¬ (Value.type "enumerate" = .type "range") by decide)
          · exact absurd q (show ¬ (Value.type "enumerate" = .type "builtin_function_or_method") by decide)⟩
      · rw [List.mem_singleton.mp q, e1] at e'; cases e'
        exact ⟨.cls (by rw [c]; nofun), fun h => by
          rcases h with ⟨_, _, q, _⟩ | ⟨_, _, q | q⟩
          · rw [d] at q; cases q
          · rw [c] at q; exact absurd q (by decide)
          · rw [c] at q; exact absurd q (by decide)⟩
    have off : Off s.heap [e, it] γ := fun b hb => .inr fun o e => (nt b hb o e).2
    have hlen := hx.length
    rw [Array.length_toList] at hlen
    cases hd : xs.drop i with
    | nil =>
      have hi : xs.length ≤ i := List.drop_eq_nil_iff.mp hd
      rw [hy, hd] at k
      refine wpB_leaf (wpAny_pyNext_enum_end hh he hit hp.isList (Array.getElem?_eq_none (by (first | lia | omega))) fun h' hs => k _ ?_)
      · exact Upd.of_keep (t := s.toks) T (fun b hb o e => (nt b hb o e).1) fun b o hb e => hs b o (fun q => hb (by simp [q])) e
    | cons x r =>
      have hx0 : xs[i]? = some x := by
        have := congrArg List.head? hd
        simpa [List.head?_drop] using this
      obtain ⟨v, ev, hv⟩ := hx.get hx0
      rw [Array.getElem?_toList] at ev
      refine wpB_leaf (wpAny_pyNext_enum_item he hit hp.isList ev hne fun h' ho hi' ht hz hk => ?_)
      have U : Upd P [e, it] s { s with heap := h', toks := s.toks + 1 } := Upd.of_keep T (fun b hb o e => (nt b hb o e).1) fun b o hb e => hk b o (fun q => hb (by simp [q])) (fun q => hb (by simp [q])) e
      rw [hy, hd] at k
      refine k _ _ fun {Q'} kk => ?_
      refine wpB_leaf (wpAny_letOwnedTupleGo_enum ho fun h'' he'' hs => ?_)
      have hk2 : ∀ b o, b ∉ [e, it] → s.heap.get? b = some o → h''.get? b = some o := fun b o hb e' => hs.extBut b o (fun q => hb (by simp [q])) (hk b o (fun q => hb (by simp [q])) (fun q => hb (by simp [q])) e')
      have U₂ : Upd P [e, it] s { s with heap := h'', toks := s.toks + 1 } := Upd.of_keep T (fun b hb o e => (nt b hb o e).1) hk2
      have hx2 := hx.upd T U₂ off lv
      have hv2 := hv.upd T U₂ off lv
      have lt := Heap.lt_size he
      refine kk _ U₂ (.tup _ #[.int i s.toks, v] _ ⟨_, hs.extBut _ _ (Nat.ne_of_gt lt) ht, rfl, _, rfl⟩ (.cons (.int _ _) (.cons hv2 .nil)) ?_) ⟨hne, l', i + 1, vs, xs, v, ?_, ?_, hl, ?_, hx2, hf, ?_⟩
      · have := List.all_eq_true.mp hf x (List.mem_of_getElem? hx0)
        show ([PV.int i, x].all frozen) = true
        rw [List.all_cons, List.all_cons, this]; rfl
      · exact he''
      · obtain ⟨o2, e3, c3, d3⟩ := hi'
        exact ⟨o2, hs.extBut _ _ (Ne.symm hne) e3, c3, d3⟩
      · obtain ⟨n, e2⟩ := hp
        refine ⟨n, hk2 _ _ (fun hm => ?_) e2⟩
        exact (nt l' hm _ e2).2 (.inl ⟨_, _, rfl, .inl rfl⟩)
      · rw [← List.drop_drop, hd]; rfl
end
end Mine
namespace Mine
open _root_.PySem _root_.PySem.Calls _root_.PySem.W _root_.PyProof.Rows

section
variable {κ : Par} {ns : List (Str × NameKind)} {N : Nat}
theorem isCompPE_el {G : PE → Prop} (H : ∀ x c a b d, G (.comp x c a b d)) (e : PE) (h : isCompPE e = true) : G e := by
  cases e <;> first | exact H _ _ _ _ _ | cases h
theorem asg_plain (S : Side κ) {x : Nat} {e : PE} {n : Str} {np : Pos} {v : Expr} {A : Around} {s₀ s : Shared} {env : Env} {γ : List Addr} {σ : St} {K : Fl → St → Prop} {Q : Flow → Shared → Prop} (hl : isLoc ns x n = true) (hv : chkE κ.F κ.tr ns e v = true) (F : Fx κ ns A s₀ env γ σ s) (hz : wS κ.C N (.asg x e) σ K) (hQ : EndK κ s₀ env γ s K Q) :
    wpB (model κ.prog κ.w) A (do let u ← eval v env; assignStores env u (← swappedStores [.Name n np] v env) ((assignEach [.Name n np] env).map (·.2))) Q s := by
  refine wpB_bindm (((sound S e).1 ns v hv).1 F.cx hz fun u s₁ z k E hu => gd_el k fun _ k => ?_) fun _ _ h => h
  show wpB _ _ (pure none >>= _) _ _
  refine wpB_bind (wpB_pure ?_)
  show wpB _ _ (do assignAll u [assign (.Name n np) env]; pure Flow.next) _ _
  exact wpB_bind (wpB_mono (wpB_assign_Name (hQ.store k (F.to E) (Step.of_ext E) hl hu)) fun _ s₂ q => wpB_pure q)
theorem asg_ok (S : Side κ) {x : Nat} {e : PE} {n : Str} {np pos : Pos} (hl : isLoc ns x n = true) (v : Expr) (hv : chkE κ.F κ.tr ns e v = true) (hc : (!isComp v || isCompPE e) = true) :
    Ex1Ok κ N ns (.asg x e) (.Assign [.Name n np] v pos) := by
  cases hcv : isComp v with
  | false =>
    intro A s₀ env γ σ s K Q F hz hQ
    rw [arm_exec_Assign]
    refine wpB_bind (wpB_standAt (wpB_bind ?_))
    show wpB _ _ (swapsWith v (some (.Name n np)) pos.line env) _ _
    rw [swaps_plain hcv]
    exact wpB_pure (asg_plain S hl hv F hz hQ)
  | true =>
    rw [hcv] at hc
    clear hcv
    refine isCompPE_el (G := fun e => chkE κ.F κ.tr ns e v = true → Ex1Ok κ N ns (.asg x e) (.Assign [.Name n np] v pos)) (fun y caps elt it cond hv => ?_) e hc hv
    refine comp_el (G := fun v => chkE κ.F κ.tr ns (.comp y caps elt it cond) v = true → Ex1Ok κ N ns (.asg x (.comp y caps elt it cond)) (.Assign [.Name n np] v pos)) (sound S it).1 (sound S elt).1 (sound S cond).1 (fun el m px iter ifs scope cp go hv => ?_) v hv hv
    intro A s₀ env γ σ s K Q F hz hQ
    rw [arm_exec_Assign]
    refine wpB_bind (wpB_standAt (wpB_bind ?_))
    show wpB _ _ (pure (env.blockKind == .function && env.kindOf n == some .local && np.line == cp.line && !(scope.names.any fun (n', k) => n' == n && (k == .local || k == .cell)))) _ _
    refine wpB_pure ?_
    split
    · refine wpB_bind ?_
      show wpB _ _ (comprehension (.ListComp el [⟨.Name m px, iter, ifs, 0⟩] scope cp) scope env (firstIterPos [⟨.Name m px, iter, ifs, 0⟩] cp) (newList []) false (eval iter env) (some fun u => assign (.Name n np) env u) >>= fun _ => pure ()) _ _
      refine wpB_bindm (go (some fun u => assign (.Name n np) env u) (fun _ s' => Q .next s') F.cx hz fun acc L t m' zs k E ha hn h0 hne => gd_el k fun _ k => ?_) fun _ s' q => wpB_pure (wpB_pure q)
      show wpB (model κ.prog κ.w) A (assign (.Name n np) env (.ref acc)) (fun _ s'' => ∃ m, s''.heap.Ns L m ∧ ∀ h', Heap.SameBut L s''.heap h' → Q .next { s'' with heap := h' }) t
      have F₁ := F.to E
      refine wpB_mono (wpB_assign_Name (store' F₁.fr F.eo hl ha)) fun _ s₂ q => ?_
      have R₂ := q.1
      have hL : L ∉ own env γ := fun hm => by
        obtain ⟨o, e, _⟩ := F.fr.live hm
        rw [h0] at e; cases e
      have hn₂ := Ns_upd q.2.upd F₁.fr.tabIs hL hn
      refine ⟨m', hn₂, fun h' hs => ?_⟩
      obtain ⟨o, _, _, eo, _⟩ := id hn₂
      have U : Upd κ.P [L] s₂ { s₂ with heap := h', toks := s₂.toks } := Upd.one R₂.tabIs hs eo (Ns_off hn₂ eo).2
      refine hQ.fin k (R₂.other U (fun b hb => ?_) (fun b hb => ?_) fun b hb => .inr fun o' e' => ?_) (((Step.of_ext E).trans0 q.2).fresh U fun b hb => ?_) trivial <;> rw [List.mem_singleton.mp hb] at *
      · exact F.fr.ext.fresh F.fr.wd0.tab h0
      · exact hL
      · exact (Ns_off hn₂ e').1
      · exact h0
    · exact asg_plain S hl hv F hz hQ
end
end Mine
namespace Mine
open _root_.PySem _root_.PySem.Calls _root_.PySem.W _root_.PyProof.Rows

noncomputable def isStar : Expr → Bool
  | .Starred .. => true
  | _ => false
theorem noStar_cons {e : Expr} {es : List Expr} (h : noStar (e :: es) = true) : isStar e = false ∧ noStar es = true := by
  cases e <;> first | exact ⟨rfl, h⟩ | cases h
noncomputable def nameOn (env : Env) (l : Nat) : Expr → Option Str
  | .Name id pos => if env.kindOf id == some .local && pos.line == l then some id else none
  | _ => none
theorem swap_stores {ns : List (Str × NameKind)} {env : Env} (EO : EnvOk tr ns env) {n m : Str} {p q tp vp : Pos} {k j : Nat} {u v : Expr} (hn : ns.lookup n = some .local) (hm : ns.lookup m = some .local) (hne : n ≠ m) (hl : (q.line == p.line) = true) (hs : noStar [u, v] = true)
    (h1 : [u, v].all (foldedForSure 8) = false) (h2 : [u, v].all (constantsAlone 8) = false) : swappedStores [.Tuple [.Name n p, .Name m q] k tp] (.Tuple [u, v] j vp) env = pure (some [n, m]) := by
  have kn : ∀ n, ns.lookup n = some .local → ∀ p : Pos, ∀ l, (p.line == l) = true → nameOn env l (.Name n p) = some n := fun n h p l e => by
    have k : env.kindOf n = some .local := by unfold Env.kindOf; rw [EO.names]; exact h
    exact if_pos (by rw [k, e]; rfl)
  have hb : env.blockKind = .function := by unfold Env.blockKind; rw [EO.kind]; rfl
  have hf : [Expr.Name n p, .Name m q].filterMap (nameOn env p.line) = [n, m] := by
    rw [List.filterMap_cons_some (kn n hn p _ (by simp)), List.filterMap_cons_some (kn m hm q _ hl)]; rfl
  have hd : ([n, m] : List Str).eraseDups.length = 2 := by
    have : (m == n) = false := beq_eq_false_iff_ne.mpr (Ne.symm hne)
    simp [List.eraseDups_cons, this]
  obtain ⟨su, hs⟩ := noStar_cons hs
  obtain ⟨sv, _⟩ := noStar_cons hs
  refine (if_neg ?_).trans ((if_neg ?_).trans ((if_neg ?_).trans ((if_neg ?_).trans ((if_neg ?_).trans ?_))))
  · rw [hb]; exact Bool.false_ne_true
  · show ¬ (isStar u || (isStar v || false)) = true
    rw [su, sv]; exact Bool.false_ne_true
  · show ¬ ((([Expr.Name n p, .Name m q].filterMap (nameOn env p.line)).length != 2 || ([Expr.Name n p, .Name m q].filterMap (nameOn env p.line)).eraseDups.length != ([Expr.Name n p, .Name m q].filterMap (nameOn env p.line)).length) = true)
    rw [hf, hd]; exact Bool.false_ne_true
  · rw [h1]; exact Bool.false_ne_true
  · rw [h2]; exact Bool.false_ne_true
  · show pure (some ([Expr.Name n p, .Name m q].filterMap (nameOn env p.line))) = _
    rw [hf]

section
variable {κ : Par} {ns : List (Str × NameKind)} {N : Nat}
/-- the list at an own place turns, and that is the end -/
theorem EndK.list {A : Around} {s₀ s s₁ s₂ : Shared} {env : Env} {γ : List Addr} {σ : St} {K : Fl → St → Prop} {Q : Flow → Shared → Prop} (hQ : EndK κ s₀ env γ s K Q) (F : Fx κ ns A s₀ env γ σ s₁) (S : Step κ.P env γ [] s s₁) {k : Nat} {a : Addr} {xs ys : List PV} {ws : Array Value}
    (q : K .next (σ.setO k (.list ys))) (hk : σ.led[k]? = some (.list xs)) (ha : γ[k]? = some a) (U : Upd κ.P [a] s₁ s₂) (hp : s₂.heap.PlainList a ws) (hx : IsAll s₁.heap γ ws.toList ys) (hf : ys.all frozen = true) : Q .next s₂ :=
  have r := list_at F.fr hk ha U hp hx hf
  hQ.fin q r.1 (S.trans0 r.2) trivial
/-- the list under an own place -/
theorem Fx.list {A : Around} {s₀ s : Shared} {env : Env} {γ : List Addr} {σ : St} (F : Fx κ ns A s₀ env γ σ s) {k : Nat} {a : Addr} {xs : List PV} {G : Prop} (hk : σ.led[k]? = some (.list xs)) (ha : γ[k]? = some a) (H : ∀ vs, s.heap.PlainList a vs → IsAll s.heap γ vs.toList xs → xs.all frozen = true → vs.size = xs.length → G) : G := by
  obtain ⟨l', el, vs, hp, hx, hf⟩ := F.fr.led.at_ k _ hk
  rw [ha] at el; cases el
  exact H vs hp hx hf hx.length
theorem Fx.barr {A : Around} {s₀ s : Shared} {env : Env} {γ : List Addr} {σ : St} (F : Fx κ ns A s₀ env γ σ s) {k : Nat} {a : Addr} {bs : List Nat} {G : Prop} (hk : σ.led[k]? = some (.barr bs)) (ha : γ[k]? = some a) (H : ∀ arr : Array UInt8, s.heap.get? a = some { cls := .type "bytearray", data := .bytearray arr 0 } → arr.toList.map UInt8.toNat = bs → arr.size = bs.length → G) : G := by
  obtain ⟨l', el, arr, hp, hx⟩ := F.fr.led.at_ k _ hk
  rw [ha] at el; cases el
  exact H arr hp hx (by rw [← hx, List.length_map, Array.length_toList])
/-- an int, a text, bytes out of an expression -/
theorem ev_int {pe : PE} {e : Expr} (h : EvOk κ ns pe e) {A : Around} {env : Env} {γ : List Addr} {σ : St} {s : Shared} {K : Int → Prop} {Q : Value → Shared → Prop} (c : Cx κ ns A env γ σ s) (hz : wE κ.C pe σ fun v => intW v K) (hQ : ∀ i t s', K i → Ext κ.P s s' → Q (.int i t) s') : wpB (model κ.prog κ.w) A (eval e env) Q s :=
  h c hz fun v s' z k E hv => intW_el (G := fun z => Is s'.heap γ v z → Q v s') (fun i k => Is.int_el (G := fun v => Q v s') (fun t => hQ i t s' k E) v) z k hv
theorem ev_str {pe : PE} {e : Expr} (h : EvOk κ ns pe e) {A : Around} {env : Env} {γ : List Addr} {σ : St} {s : Shared} {K : List Nat → Prop} {Q : Value → Shared → Prop} (c : Cx κ ns A env γ σ s) (hz : wE κ.C pe σ fun v => strW v K) (hQ : ∀ u t s' l, K l → Ext κ.P s s' → u.cps.toList = l → Q (.str u t) s') : wpB (model κ.prog κ.w) A (eval e env) Q s :=
  h c hz fun v s' z k E hv => strW_el (G := fun z => Is s'.heap γ v z → Q v s') (fun l k => Is.str_el (G := fun v => Q v s') (fun u t e => hQ u t s' l k E e) v) z k hv
theorem ev_byt {pe : PE} {e : Expr} (h : EvOk κ ns pe e) {A : Around} {env : Env} {γ : List Addr} {σ : St} {s : Shared} {K : List Nat → Prop} {Q : Value → Shared → Prop} (c : Cx κ ns A env γ σ s) (hz : wE κ.C pe σ fun v => bytW v K) (hQ : ∀ u t s' l, K l → Ext κ.P s s' → u.toList.map UInt8.toNat = l → Q (.bytes u t) s') : wpB (model κ.prog κ.w) A (eval e env) Q s :=
  h c hz fun v s' z k E hv => bytW_el (G := fun z => Is s'.heap γ v z → Q v s') (fun l k => Is.bytes_el (G := fun v => Q v s') (fun u t e => hQ u t s' l k E e) v) z k hv
theorem all_push {xs : List PV} {y : PV} (h : xs.all frozen = true) (hy : frozen y = true) : (xs ++ [y]).all frozen = true := by
  rw [List.all_append, h]
  exact (Bool.and_true _).trans hy
theorem all_set {xs : List PV} {y : PV} {n : Nat} (h : xs.all frozen = true) (hy : frozen y = true) : (xs.set n y).all frozen = true :=
  List.all_eq_true.mpr fun _ hz => (List.mem_or_eq_of_mem_set hz).elim (List.all_eq_true.mp h _) fun q => q ▸ hy
theorem small_of {n m : Nat} (h : n ≤ big) (e : m = n) : m ≤ sizeLine := by rw [sizeLine_eq]; unfold big at h; (first | lia | omega)

theorem ex_asg (S : Side κ) {x : Nat} {e : PE} : ∀ st, chk1 κ.F κ.tr ns (.asg x e) st = true → Ex1Ok κ N ns (.asg x e) st := fun st =>
  or_el (fun h => onAny_el (G := fun e => Ex1Ok κ N ns (.asg x e) st) (fun _ A s₀ env γ σ s K Q F hz hQ => hz.elim) e h) (onAssign_el (fun ts v pos => on1_el (G := fun ts => Ex1Ok κ N ns (.asg x e) (.Assign ts v pos)) (fun t => onName_el (G := fun t => Ex1Ok κ N ns (.asg x e) (.Assign [t] v pos)) (fun n np => and_el fun h1 => and_el fun h2 h3 => asg_ok S h1 v h2 h3) t) ts) st)

theorem ex_newl {x : Nat} : ∀ st, chk1 κ.F κ.tr ns (.newl x) st = true → Ex1Ok κ N ns (.newl x) st := by
  refine onAssign_el fun ts v pos => ?_
  revert ts
  refine on1_el fun t => ?_
  revert t
  refine onName_el fun n np => ?_
  revert v
  refine onList_el fun es lp => ?_
  revert es
  refine on0_el fun h A s₀ env γ σ s K Q F hz hQ => ?_
  refine wpB_Assign rfl rfl (wpB_List (wpB_pure (wpB_leaf (wpAny_newList ?_ (by simp)))))
  obtain ⟨R₁, S₁⟩ := F.fr.new (a := s.heap.objs.size) (o := .list []) (s' := { s with heap := s.heap.push { cls := .type "list", data := .seq ([] : List Value).toArray } }) (Ext.push (t := s.toks)) (fresh_size _) ⟨#[], ⟨0, Heap.get?_push_size _ rfl⟩, .nil, rfl⟩
  refine wpB_assignAll1 (wpB_assign_Name (wpB_mono (store' R₁ F.eo h (.ref σ.led.length _ ?_)) fun _ s₂ q => hQ .next s₂ _ _ .next hz q.1 (S₁.trans q.2 F.fr.tabIs R₁) trivial))
  rw [← F.fr.led.len, List.getElem?_append_right (Nat.le_refl _), Nat.sub_self]; rfl

theorem ex_newb (S2 : Side2 κ) {x : Nat} : ∀ st, chk1 κ.F κ.tr ns (.newb x) st = true → Ex1Ok κ N ns (.newb x) st := by
  refine onAssign_el fun ts v pos => ?_
  revert ts
  refine on1_el fun t => ?_
  revert t
  refine onName_el fun n np => ?_
  revert v
  refine onCall_el fun g es kw cp => ?_
  revert es
  refine on0_el ?_
  revert kw
  refine on0_el ?_
  revert g
  refine onName_el fun g gp => and_el fun h1 => ?_
  revert g
  refine eq_el fun h3 A s₀ env γ σ s K Q F hz hQ => ?_
  have hb := F.fr.rel.wd.bi ("bytearray" : Str) (by decide)
  refine wpB_Assign rfl rfl (wpB_Call_Name rfl (Name_global F.eo F.fr.rel h3 (.inr ⟨hb.1, show κ.mb ("bytearray" : Str) = some (.type "bytearray") from hb.2⟩) (wpB_pure ⟨.type _, wpB_mono (S2.newb F.room) fun u s₁ ⟨a, hu, h0, E, ho⟩ => ?_⟩)))
  subst hu
  obtain ⟨R₁, S₁⟩ := F.fr.new (a := a) (o := .barr []) E h0 ⟨#[], ho, rfl⟩
  refine wpB_assignAll1 (wpB_assign_Name (wpB_mono (store' R₁ F.eo h1 (.ref σ.led.length _ ?_)) fun _ s₂ q => hQ .next s₂ _ _ .next hz q.1 (S₁.trans q.2 F.fr.tabIs R₁) trivial))
  rw [← F.fr.led.len, List.getElem?_append_right (Nat.le_refl _), Nat.sub_self]; rfl

theorem ex_getapp (S2 : Side2 κ) {x y : Nat} : ∀ st, chk1 κ.F κ.tr ns (.getapp x y) st = true → Ex1Ok κ N ns (.getapp x y) st := by
  refine onAssign_el fun ts v pos => ?_
  revert ts
  refine on1_el fun t => ?_
  revert t
  refine onName_el fun n np => ?_
  revert v
  refine onAttribute_el fun b a ap => ?_
  revert b
  refine onName_el fun m mp => and_el fun h1 => and_el fun h2 => and_el fun h3 h4 A s₀ env γ σ s K Q F hz hQ => ?_
  cases eq_of_beq h4
  refine refW_el hz fun k hv hz => lstW_el hz fun xs hk q => wpB_Assign rfl rfl ?_
  rw [arm_eval_Attribute, attributeBase_plain rfl]
  refine wpB_bind (wpB_evalName F.fr.rel F.eo h2 h3 hv (Is.ref_el fun l ek => wpB_bind (wpB_standAt (wpB_bind (wpB_holding (F.list hk ek fun vs hp hx hf _ => wpB_mono (S2.getapp F.room F.fr.tabIs hp) fun r s₁ ⟨j, hr, E, hm⟩ => wpB_bind (wpB_leaf (wpAny_letTemporaryGo (wpB_pure ?_)))))))))
  subst hr
  exact wpB_assignAll1 (wpB_assign_Name (hQ.store q (F.to E) (Step.of_ext E) h1 (.meth k l j ek hm)))

theorem ex_asgSwap (S : Side κ) {x y : Nat} {a b : PE} : ∀ st, chk1 κ.F κ.tr ns (.asgSwap x y a b) st = true → Ex1Ok κ N ns (.asgSwap x y a b) st := by
  refine onAssign_el fun ts v pos => ?_
  revert ts
  refine on1_el fun t => ?_
  revert t
  refine onTuple_el fun l j tp => ?_
  revert l
  refine on2_el fun t1 t2 => ?_
  revert t1
  refine onName_el fun n p => ?_
  revert t2
  refine onName_el fun m q => ?_
  revert v
  refine onTuple_el fun l i vp => ?_
  revert l
  refine on2_el fun u v => and_el fun h1 => and_el fun h2 => and_el fun h3 => and_el fun h4 => and_el fun h5 => and_el fun h6 => and_el fun h7 => and_el fun h8 => and_el fun h9 => and_el fun h10 h11 A s₀ env γ σ s K Q F hz hQ => ?_
  rw [Bool.not_eq_true'] at h8 h9
  rw [arm_exec_Assign]
  refine wpB_bind (wpB_standAt (wpB_bind ?_))
  show wpB _ _ (swapsWith (.Tuple [u, v] i vp) (some (.Tuple [.Name n p, .Name m q] j tp)) pos.line env) _ _
  rw [swaps_plain rfl]
  refine wpB_pure (wpB_bind (wpB_Tuple ?_))
  rw [backTo_plain h7]
  refine wpB_spliced_cons (((sound S a).1 ns u h10).1 F.cx hz fun u1 s₁ z1 hz E₁ hu1 => wpB_spliced_cons (((sound S b).1 ns v h11).1 (F.to E₁).cx hz fun u2 s₂ z2 k E₂ hu2 => gd_el k fun _ k => wpB_pure (wpB_leaf (wpAny_newTuple ?_ (by rw [sizeLine_eq]; simp)))))
  rw [swap_stores F.eo (eq_of_beq h4) (eq_of_beq h5) (bne_iff_ne.mp h3) h6 h7 h8 h9]
  refine wpB_bind (wpB_pure ?_)
  unfold assignStores
  refine wpB_bind (wpB_rule ?_)
  have ht : (s₂.heap.push { cls := .type "tuple", data := .seq [u1, u2].toArray }).IsTuple s₂.heap.objs.size #[u1, u2] := ⟨_, Heap.get?_push_size _ rfl, rfl, _, rfl⟩
  show wpB _ _ (unpackItems (.ref s₂.heap.objs.size) (#[u1, u2] : Array Value).size none >>= _) _ _
  refine wpB_bind (wpB_leaf (wpAny_unpackItems_tuple (s := { s₂ with heap := s₂.heap.push { cls := .type "tuple", data := .seq [u1, u2].toArray } }) F.room.handled ht fun h' he => ?_))
  have E₄ : Ext κ.P s₂ { s₂ with heap := h', toks := s₂.toks } := Ext.of_keep (t := s₂.toks) fun b o e => he b o (Nat.ne_of_lt (Heap.lt_size (Heap.get?_push_of_some _ e))) (Heap.get?_push_of_some _ e)
  have F₂ := (F.to E₁).to E₂
  have F₄ := F₂.to E₄
  have k1 := (hu1.ext (F.to E₁).fr.tabIs E₂.keep).ext F₂.fr.tabIs E₄.keep
  have k2 := hu2.ext F₂.fr.tabIs E₄.keep
  have e1 : ([n, m].reverse.map fun n => bindName env n) = [bindName env m, bindName env n] := rfl
  have e2 : (#[u1, u2] : Array Value).toList.reverse = [u2, u1] := rfl
  rw [e1, e2]
  refine wpB_bind (wpB_inOrder2 (wpB_bindName (wpB_mono (store' F₄.fr F.eo h2 k2) fun _ s₅ r => ?_)))
  exact wpB_bindName (wpB_mono (hQ.store k ⟨F.room, F.eo, r.1⟩ ((Step.of_ext ((E₁.trans E₂).trans E₄)).trans0 r.2) h1 (k1.upd F₄.fr.tabIs r.2.upd F₄.fr.off F₄.fr.lives)) fun _ s₆ h => wpB_pure h)

theorem ex_asgT (S : Side κ) {x y : Nat} {e : PE} : ∀ st, chk1 κ.F κ.tr ns (.asgT x y e) st = true → Ex1Ok κ N ns (.asgT x y e) st := by
  refine onAssign_el fun ts v pos => ?_
  revert ts
  refine on1_el fun t => ?_
  revert t
  refine onTuple_el fun l j tp => ?_
  revert l
  refine on2_el fun t1 t2 => ?_
  revert t1
  refine onName_el fun n p => ?_
  revert t2
  refine onName_el fun m q => and_el fun h1 => and_el fun h2 => and_el fun h3 => and_el fun h4 h5 A s₀ env γ σ s K Q F hz hQ => ?_
  rw [Bool.not_eq_true'] at h3 h4
  refine wpB_Assign h4 (by cases v <;> first | rfl | cases h3) (((sound S e).1 ns v h5).1 F.cx hz fun u s₁ z k E hu => ?_)
  revert z
  refine tup2_el fun a b k hu => gd_el k fun _ k => ?_
  exact wpB_assignAll1 (wpB_mono (assign2 (p := p) (q := q) (pos := tp) (k := j) F.room.handled (F.to E).fr F.eo h1 h2 hu) fun _ s₂ r => hQ.fin k r.1 ((Step.of_ext E).trans0 r.2) trivial)

theorem ex_aug (S : Side κ) {x : Nat} {o : BOp} {e : PE} : ∀ st, chk1 κ.F κ.tr ns (.aug x o e) st = true → Ex1Ok κ N ns (.aug x o e) st := by
  refine onAugAssign_el fun t op v pos => ?_
  revert t
  refine onName_el fun n np => and_el fun h1 => ?_
  revert op
  refine eq_el fun h3 A s₀ env γ σ s K Q F hz hQ => oW_el hz fun a ha hz => ?_
  obtain ⟨rfl, _, _⟩ := isLoc_of h1
  refine wpB_AugName (wpB_loadName F.fr.rel F.eo ha fun u hu => ((sound S e).1 ns v h3).1 F.cx hz fun u2 s₁ b k E₁ hu2 => iopW_el k fun c hc k => ?_)
  exact leaf_iop (P := κ.P) hc (hu.ext F.fr.tabIs E₁.keep) hu2 fun r s₂ E₂ hr2 => hQ.store k ((F.to E₁).to E₂) (Step.of_ext (E₁.trans E₂)) h1 hr2

theorem ex_app (S : Side κ) (S2 : Side2 κ) {x : Nat} {e : PE} : ∀ st, chk1 κ.F κ.tr ns (.app x e) st = true → Ex1Ok κ N ns (.app x e) st := by
  refine onEx_el fun c pos => ?_
  revert c
  refine onCall_el fun f es kw cp => ?_
  revert kw
  refine on0_el ?_
  revert f
  refine onAttribute_el fun b a apos => ?_
  revert b
  refine onName_el fun n np => ?_
  revert es
  refine on1_el fun v => and_el fun h1 => and_el fun h2 => ?_
  revert a
  refine eq_el (and_el fun h4 => and_el fun h5 h6 A s₀ env γ σ s K Q F hz hQ => refW_el hz fun k hz1 hz => oW_el hz fun o hk hz => gd_el hz fun hs hz => ?_)
  refine wpB_ExprCall F.eo (wpB_Call_method rfl h5 (show 1 < 20 by decide) h4 (wpB_evalName F.fr.rel F.eo h1 h2 hz1 (Is.ref_el fun a ea => ?_)))
  rw [backTo_plain h5]
  cases o with
  | hid => cases hs
  | list xs =>
    refine F.list hk ea fun vs hp hx hf _ => ⟨_, S2.mapp hp, wpB_spliced_cons (((sound S e).1 ns v h6).1 F.cx hz fun u s₁ y k E₁ hu => gd_el k fun hy k => wpB_pure ?_)⟩
    have F₁ := F.to E₁
    refine F₁.list hk ea fun vs hp hx hf hn => wpB_leaf (wpAny_list_append_plain hp (fun h' hp₂ hs => ⟨rfl, ?_⟩) (small_of k.1 hn))
    obtain ⟨q, eq⟩ := id hp
    exact hQ.list F₁ (Step.of_ext E₁) k.2 hk ea (Upd.one (t := s₁.toks) F₁.fr.tabIs hs eq (.cls (by nofun))) hp₂ (by rw [Array.toList_push]; exact hx.append (.cons hu .nil)) (all_push hf hy)
  | barr bs =>
    refine F.barr hk ea fun arr hp hx _ => ⟨_, S2.bapp hp, wpB_spliced_cons (ev_int ((sound S e).1 ns v h6).1 F.cx hz fun i t s₁ k E₁ => wpB_pure ?_)⟩
    have F₁ := F.to E₁
    refine F₁.barr hk ea fun arr hp hx hn => wpB_mono (S2.cbapp F.room F₁.fr.tabIs hp k.1.1 k.1.2.1 (hn ▸ k.1.2.2)) fun r s₂ ⟨hr2, U, hp₂⟩ => ⟨hr2, ?_⟩
    obtain ⟨R₂, S₂⟩ := F₁.fr.setO (o' := .barr (bs ++ [i.toNat])) hk ea U ⟨_, hp₂, by
      rw [Array.toList_push, List.map_append, hx]
      have h3 : (UInt8.ofNat i.toNat).toNat = i.toNat := by
        rw [UInt8.toNat_ofNat']; have := k.1.1; have := k.1.2.1; (first | lia | omega)
      rw [List.map_singleton, h3]⟩
    exact hQ.fin k.2 R₂ ((Step.of_ext E₁).trans0 S₂) trivial

theorem ex_appm (S : Side κ) (S2 : Side2 κ) {x : Nat} {e : PE} : ∀ st, chk1 κ.F κ.tr ns (.appm x e) st = true → Ex1Ok κ N ns (.appm x e) st := by
  refine onEx_el fun c pos => ?_
  revert c
  refine onCall_el fun f es kw cp => ?_
  revert kw
  refine on0_el ?_
  revert f
  refine onName_el fun n np => ?_
  revert es
  refine on1_el fun v => and_el fun h1 => and_el fun h2 => and_el fun h3 h4 A s₀ env γ σ s K Q F hz hQ => mthW_el hz fun k hz1 hz => ?_
  refine wpB_ExprCall F.eo (wpB_Call_Name h3 (wpB_evalName F.fr.rel F.eo h1 h2 hz1 (Is.meth_el fun a q ea hq => ?_)))
  rw [backTo_plain h3]
  refine wpB_spliced_cons (((sound S e).1 ns v h4).1 F.cx hz fun u s₁ y k E₁ hu => lstW_el k fun xs hk k => gd_el k fun hy k => wpB_pure ?_)
  have F₁ := F.to E₁
  obtain ⟨oq, ws, e1, c1, d1, r1, r2⟩ := hq
  have hq₁ : s₁.heap.get? q = some oq := E₁.keep _ _ (F.fr.tabIs.ne e1 (.cls (by rw [c1]; nofun))) e1
  refine F₁.list hk ea fun vs hp hx hf hn => ⟨.bfm q oq ws hq₁ d1 c1, wpB_mono (S2.appm F.room F₁.fr.tabIs ⟨oq, ws, hq₁, c1, d1, r1, r2⟩ hp (hn ▸ k.1)) fun r s₂ ⟨hr2, U, hp₂⟩ => ⟨hr2, ?_⟩⟩
  exact hQ.list F₁ (Step.of_ext E₁) k.2 hk ea U hp₂ (by rw [Array.toList_push]; exact hx.append (.cons hu .nil)) (all_push hf hy)

theorem ex_ext (S : Side κ) (S2 : Side2 κ) {x : Nat} {e : PE} : ∀ st, chk1 κ.F κ.tr ns (.ext x e) st = true → Ex1Ok κ N ns (.ext x e) st := by
  refine onEx_el fun c pos => ?_
  revert c
  refine onCall_el fun f es kw cp => ?_
  revert kw
  refine on0_el ?_
  revert f
  refine onAttribute_el fun b a apos => ?_
  revert b
  refine onName_el fun n np => ?_
  revert es
  refine on1_el fun v => and_el fun h1 => and_el fun h2 => ?_
  revert a
  refine eq_el (and_el fun h4 => and_el fun h5 h6 A s₀ env γ σ s K Q F hz hQ => refW_el hz fun k hz1 hz => barrW_el hz fun bs hk hz => ?_)
  refine wpB_ExprCall F.eo (wpB_Call_method rfl h5 (show 1 < 20 by decide) h4 (wpB_evalName F.fr.rel F.eo h1 h2 hz1 (Is.ref_el fun a ea => ?_)))
  rw [backTo_plain h5]
  refine F.barr hk ea fun arr hp hx _ => ⟨_, S2.bext hp, wpB_spliced_cons (ev_byt ((sound S e).1 ns v h6).1 F.cx hz fun c t s₁ b k E₁ el2 => wpB_pure ?_)⟩
  have F₁ := F.to E₁
  have hlen2 : c.size ≤ big := by rw [← Array.length_toList, ← List.length_map (f := UInt8.toNat), el2]; exact k.1.2
  refine F₁.barr hk ea fun arr hp hx hn => wpB_mono (S2.cbext F.room F₁.fr.tabIs hp hlen2 (hn ▸ k.1.1)) fun r s₂ ⟨hr2, U, hp₂⟩ => ⟨hr2, ?_⟩
  obtain ⟨R₂, S₂⟩ := F₁.fr.setO (o' := .barr (bs ++ b)) hk ea U ⟨_, hp₂, by rw [Array.toList_append, List.map_append, hx, el2]⟩
  exact hQ.fin k.2 R₂ ((Step.of_ext E₁).trans0 S₂) trivial

/-- an item of a list is put in -/
theorem set_at {s : Shared} {l i n : Nat} {vs : Array Value} {u : Value} {t : Nat} {P : Addr} (T : TabIs P s.heap) (hp : s.heap.get? l = some { cls := .type "list", data := .seq vs n }) :
    Upd P [l] s { s with heap := s.heap.update l (Obj.mapSeq (·.setIfInBounds i u)), toks := t } ∧ (s.heap.update l (Obj.mapSeq (·.setIfInBounds i u))).PlainList l (vs.setIfInBounds i u) := by
  have hs : Heap.SameBut l s.heap (s.heap.update l (Obj.mapSeq (·.setIfInBounds i u))) := Heap.SameBut.update ..
  refine ⟨Upd.one T hs hp (.cls (by nofun)), ?_⟩
  obtain ⟨n', hd'⟩ := Obj.data_mapSeq (o := { cls := .type "list", data := .seq vs n }) rfl (·.setIfInBounds i u)
  refine ⟨n', ?_⟩
  rw [Heap.get?_update_self _ hp (Obj.isFreed_of_seq hd')]
  show some ({ cls := .type "list", data := (Obj.mapSeq (·.setIfInBounds i u) { cls := .type "list", data := .seq vs n }).data } : Obj) = _
  rw [hd']

theorem ex_setI (S : Side κ) {x : Nat} {i e : PE} : ∀ st, chk1 κ.F κ.tr ns (.setI x i e) st = true → Ex1Ok κ N ns (.setI x i e) st := by
  refine onAssign_el fun ts v pos => ?_
  revert ts
  refine on1_el fun t => ?_
  revert t
  refine onSubscript_el fun b j sp => ?_
  revert b
  refine onName_el fun n np => and_el fun h1 => and_el fun h2 => and_el fun h3 => and_el fun h4 => and_el fun h5 h6 A s₀ env γ σ s K Q F hz hQ => ?_
  rw [Bool.not_eq_true'] at h4
  refine wpB_AssignSub h4 (((sound S e).1 ns v h6).1 F.cx hz fun u s₁ y k E₁ hu => refW_el k fun k hz2 hz => wpB_evalName (F.to E₁).fr.rel F.eo h1 h2 hz2 (Is.ref_el fun l ek => ev_int ((sound S i).1 ns j h5).1 (F.to E₁).cx hz fun ji t s₂ k E₂ => lstW_el k fun xs hk k => gd_el k fun hy k => ?_))
  have F₂ := (F.to E₁).to E₂
  have hu₂ := hu.ext (F.to E₁).fr.tabIs E₂.keep
  obtain ⟨⟨k1, k2, k3⟩, kk⟩ := k
  refine F₂.list hk ek fun vs ⟨nn, hp⟩ hx hf hn => ?_
  refine wpB_leaf (_root_.PySem.W.ki_setAt (n := nn) hp k1 (by unfold big at k3; (first | lia | omega)) (by (first | lia | omega)) ?_)
  have r := set_at (t := s₂.toks) (i := ji.toNat) (u := u) F₂.fr.tabIs hp
  exact hQ.list F₂ (Step.of_ext (E₁.trans E₂)) kk hk ek r.1 r.2 (by rw [Array.toList_setIfInBounds]; exact hx.set hu₂) (all_set hf hy)

theorem ex_delI (S : Side κ) {x : Nat} {i : PE} : ∀ st, chk1 κ.F κ.tr ns (.delI x i) st = true → Ex1Ok κ N ns (.delI x i) st := by
  refine onDelete_el fun ts pos => ?_
  revert ts
  refine on1_el fun t => ?_
  revert t
  refine onSubscript_el fun b j sp => ?_
  revert b
  refine onName_el fun n np => and_el fun h1 => and_el fun h2 h3 A s₀ env γ σ s K Q F hz hQ => refW_el hz fun k hz2 hz => ?_
  refine wpB_DelSub (wpB_evalName F.fr.rel F.eo h1 h2 hz2 (Is.ref_el fun l ek => ev_int ((sound S i).1 ns j h3).1 F.cx hz fun ji t s₂ k E₂ => lstW_el k fun xs hk k => ?_))
  have F₂ := F.to E₂
  obtain ⟨⟨k1, k2, k3⟩, kk⟩ := k
  refine F₂.list hk ek fun vs hp hx hf hn => ?_
  have hsi : seqIndex? ji vs.size = some ji.toNat := by
    have h5 : ¬ ji < 0 := by (first | lia | omega)
    have : ji < vs.size := by (first | lia | omega)
    simp [seqIndex?, h5, k1, this]
  refine wpB_leaf (wpAny_delItem_plain hp (by
    unfold big at k3
    unfold Builtin.List.listFitsIndex
    simp only [Bool.and_eq_true, decide_eq_true_eq]; (first | lia | omega)) hsi (fun h' hp₂ hs => ?_) (small_of k3 hn))
  obtain ⟨q, eq⟩ := id hp
  exact hQ.list F₂ (Step.of_ext E₂) kk hk ek (Upd.one (t := s₂.toks) F₂.fr.tabIs hs eq (.cls (by nofun))) hp₂ (by rw [Array.toList_eraseIdxIfInBounds]; exact hx.eraseIdx _) (List.all_eq_true.mpr fun z hz => List.all_eq_true.mp hf z (List.mem_of_mem_eraseIdx hz))

theorem ex_iff (S : Side κ) {c : PE} {t e : PS} (iht : ∀ ns ss, chkS κ.F κ.tr ns t ss = true → ExOk κ N ns t ss) (ihe : ∀ ns ss, chkS κ.F κ.tr ns e ss = true → ExOk κ N ns e ss) : ∀ st, chk1 κ.F κ.tr ns (.iff c t e) st = true → Ex1Ok κ N ns (.iff c t e) st :=
  onIf_el fun v b o pos => and_el fun h1 => and_el fun h2 h3 A s₀ env γ σ s K Q F hz hQ => wpB_If (((sound S c).1 ns v h1).2 (K := fun _ b => BrW b _ _) F.cx hz fun r s₁ _ k _ E₁ => by
    cases r with
    | true => exact iht ns b h2 (F.to E₁) k.k (hQ.later F E₁)
    | false => exact ihe ns o h3 (F.to E₁) k.k (hQ.later F E₁))

theorem ex_whl (S : Side κ) {c : PE} {b : PS} (ih : ∀ ns ss, chkS κ.F κ.tr ns b ss = true → ExOk κ N ns b ss) : ∀ st, chk1 κ.F κ.tr ns (.whl c b) st = true → Ex1Ok κ N ns (.whl c b) st := by
  refine onWhile_el fun v bs o pos => ?_
  revert o
  exact on0_el (and_el fun h1 h2 A s₀ env γ σ s K Q F hz hQ => wpB_While (while_loop (fun R hv hQ => ((sound S c).1 ns v h1).2 (K := fun _ => _) ⟨F.room, F.eo, R.rel⟩ hv fun b s' _ k _ E => hQ b s' k E) (fun R hb hQ => ih ns bs h2 ⟨F.room, F.eo, R⟩ hb hQ) N γ σ s K F.fr hz.h hQ))

theorem ex_ret (S : Side κ) {e : PE} : ∀ st, chk1 κ.F κ.tr ns (.ret e) st = true → Ex1Ok κ N ns (.ret e) st := by
  refine onReturn_el fun o pos => ?_
  revert o
  refine sm_el fun v h A s₀ env γ σ s K Q F hz hQ => ?_
  rw [arm_exec_Return]
  refine wpB_bind (wpB_standAt ?_)
  show wpB _ _ (do return Flow.ret (← eval v env)) _ _
  exact wpB_bindm (((sound S e).1 ns v h).1 F.cx hz fun u s₁ z k E hu => wpB_pure (hQ.fin (f := .ret u) (fl := .ret z) k (F.to E).fr (Step.of_ext E) hu)) fun _ _ h => h

theorem ex_brk : ∀ st, chk1 κ.F κ.tr ns .brk st = true → Ex1Ok κ N ns .brk st := by
  refine onBreak_el fun pos _ A s₀ env γ σ s K Q F hz hQ => ?_
  rw [arm_exec_Break]
  exact wpB_bind (wpB_standAt (wpB_pure (hQ.fin hz F.fr Step.refl trivial)))

theorem ex_asrt (S : Side κ) {e : PE} : ∀ st, chk1 κ.F κ.tr ns (.asrt e) st = true → Ex1Ok κ N ns (.asrt e) st := by
  refine onAssert_el fun v m pos h A s₀ env γ σ s K Q F hz hQ => ?_
  rw [arm_exec_Assert]
  refine wpB_bind (wpB_standAt (wpB_bindm (((sound S e).1 ns v h).2 (K := fun _ b => gd b _) F.cx hz fun r s₁ _ k _ E => ?_) fun _ _ h => h))
  cases r with
  | false => exact k.elim
  | true => exact wpB_pure (hQ.fin k (F.to E).fr (Step.of_ext E) trivial)

theorem ex_try {b : PS} (ih : ∀ ns ss, chkS κ.F κ.tr ns b ss = true → ExOk κ N ns b ss) : ∀ st, chk1 κ.F κ.tr ns (.try_ b) st = true → Ex1Ok κ N ns (.try_ b) st := by
  refine onTry_el fun bs hs o f pos => ?_
  revert o
  refine on0_el ?_
  revert f
  exact on0_el fun h A s₀ env γ σ s K Q F hz hQ => wpB_Try (ih ns bs h F hz hQ)
end
end Mine
namespace Mine
open _root_.PySem _root_.PySem.Calls _root_.PySem.W _root_.PyProof.Rows

section
variable {κ : Par} {ns : List (Str × NameKind)} {N : Nat}

theorem ex_augI (S : Side κ) {x : Nat} {i : Int} {e : PE} : ∀ st, chk1 κ.F κ.tr ns (.augI x i e) st = true → Ex1Ok κ N ns (.augI x i e) st := by
  refine onAugAssign_el fun t op v pos => ?_
  revert t
  refine onSubscript_el fun b j sp => ?_
  revert b
  refine onName_el fun n np => ?_
  revert j
  refine onUnaryOp_el fun o c p2 => ?_
  revert c
  refine onConstant_el fun c kk p1 => and_el fun g1 => and_el fun g2 => ?_
  revert op
  refine eq_el (and_el fun h1 => and_el fun h2 => and_el fun h4 h5 => isUSub_el (G := fun o => Ex1Ok κ N ns (.augI x i e) (.AugAssign (.Subscript (.Name n np) (.UnaryOp o (.Constant c kk p1) p2) sp) .Add v pos)) (isOne_el (G := fun c => Ex1Ok κ N ns (.augI x i e) (.AugAssign (.Subscript (.Name n np) (.UnaryOp .USub (.Constant c kk p1) p2) sp) .Add v pos)) (fun {A s₀ env γ σ s K Q} F hz hQ => ?_) c g2) o g1)
  refine refW_el hz fun k hz1 hz => lstW_el hz fun xs hk hz => oW_el hz.2 fun y hy hz' => ?_
  have hb := hz.1.2
  clear hz
  refine wpB_AugSub rfl (wpB_evalName F.fr.rel F.eo h1 h2 hz1 (Is.ref_el fun l ek => wpB_Neg fun t tk => ?_))
  have E₁ : Ext κ.P s { s with toks := tk } := Ext.toks
  have F₁ := F.to E₁
  have hpos : 0 < xs.length := Nat.lt_of_le_of_lt (Nat.zero_le _) (List.getElem?_eq_some_iff.mp hy).1
  unfold big at hb
  refine F₁.list hk ek fun vs hp hx hf hn => ?_
  have hix : ((-1 : Int) + vs.size).toNat = xs.length - 1 := by (first | lia | omega)
  obtain ⟨uv, huv, hu⟩ := hx.get hy
  rw [Array.getElem?_toList, ← hix] at huv
  refine wpB_leaf (wpAny_getItem_list_neg hp.isList (by (first | lia | omega)) (by (first | lia | omega)) (by (first | lia | omega)) huv ?_)
  clear hn hix huv hp hx hf vs hy
  revert y
  refine strW_el fun la hz' => ?_
  revert uv
  refine Is.str_el fun sa ta ea => ?_
  refine ev_str ((sound S e).1 ns v h5).1 F₁.cx hz' fun sb tb s₂ lb k E₂ eb => ?_
  have F₂ := F₁.to E₂
  have hab := k.1
  unfold big at hab
  refine wpB_leaf (PyProof.Rows.iadd_str (fun t' tk' => ?_) (by rw [cps_len ea, cps_len eb, sizeLine_eq]; (first | lia | omega)))
  have E₃ : Ext κ.P s₂ { s₂ with toks := tk' } := Ext.toks
  have F₃ := F₂.to E₃
  refine F₃.list hk ek fun vs ⟨nn, hp⟩ hx hf hn => ?_
  refine wpB_leaf (_root_.PySem.W.ki_setBack (n := nn) hp (by (first | lia | omega)) (by (first | lia | omega)) (by (first | lia | omega)) ?_)
  rw [show ((-1 : Int) + vs.size).toNat = xs.length - 1 by (first | lia | omega)]
  have r := set_at (t := tk') (i := xs.length - 1) (u := .str (sa ++ sb) t') F₃.fr.tabIs hp
  exact hQ.list F₃ (Step.of_ext ((E₁.trans E₂).trans E₃)) k.2 hk ek r.1 r.2 (by rw [Array.toList_setIfInBounds]; exact hx.set (.str _ _ _ (by show (sa.cps ++ sb.cps).toList = _; rw [Array.toList_append, ea, eb]))) (all_set hf rfl)
theorem for_end {P : Addr} {s s₁ s₂ : Shared} {env : Env} {γ : List Addr} {its : List Addr} (E : Ext P s s₁) (U : Upd P (its ++ own env γ) s₁ s₂) (h0 : ∀ b ∈ its, s.heap.get? b = none) : Step P env γ [] s s₂ :=
  ⟨⟨fun b o hb n e => U.keep b o (fun hm => by
      rcases List.mem_append.mp hm with q | q
      · rw [h0 b q] at e; cases e
      · exact hb q) n (E.keep b o n e), fun vs e t => by
    obtain ⟨m₁, e₁, t₁⟩ := E.tab vs e t
    obtain ⟨m₂, e₂, t₂⟩ := U.tab _ e₁ t₁
    exact ⟨m₁ ++ m₂, by rw [← Array.append_assoc]; exact e₂, by rw [← Array.append_assoc]; exact t₂⟩, U.os.trans E.os, fun g => U.gens (E.gens g)⟩, fun _ h => nomatch h⟩

/-- a loop over a list: the iterator stands -/
theorem for_fin {x : Nat} {A : Around} {s₀ s s₁ s₂ : Shared} {env : Env} {γ : List Addr} {σ : St} {K : Fl → St → Prop} {Q : Flow → Shared → Prop} {target : Expr} {it : Addr} {its : List Addr} {I : Heap → List PV → Prop} {body : List Stmt} {b : PS} {put : St → PV → (St → Prop) → Prop} {l : List PV}
    (F : Fx κ ns A s₀ env γ σ s) (E₁ : Ext κ.P s s₁) (E₂ : Ext κ.P s₁ s₂) (h0 : ∀ b ∈ its, s₁.heap.get? b = none) (IT : Itr κ.prog κ.w κ.P γ target it its I) (hi : I s₂.heap l)
    (hput : ∀ {σ t u v K} {Q : Unit → Shared → Prop}, FrameR κ.ok κ.P κ.mg κ.mb s₀ env γ σ t → Is t.heap γ u v → put σ v K → (∀ t' σ₁, K σ₁ → FrameR κ.ok κ.P κ.mg κ.mb s₀ env γ σ₁ t' → Step κ.P env γ [] t t' → Q () t') → wpB (model κ.prog κ.w) A (assign target env u) Q t)
    (hb : ExOk κ N ns b body) (hz : forW put (wS κ.C N b) l σ K) (hQ : EndK κ s₀ env γ s K Q) : codeB (model κ.prog κ.w) A (.forLoop target (.ref it) body [] env) Q s₂ := by
  have h00 : ∀ b ∈ its, s.heap.get? b = none := fun b hb => E₁.fresh F.fr.tabIs (h0 b hb)
  exact for_loop F.room IT hput (fun R hb' hQ => hb ⟨F.room, F.eo, R⟩ hb' hQ) (fun b hb => F.fr.ext.fresh F.fr.wd0.tab (h00 b hb)) l σ s₂ K ((F.to E₁).to E₂).fr hi hz fun f t fl σ' k R U hf => hQ.fin k R (for_end (E₁.trans E₂) U h00) hf

theorem ex_forI (S : Side κ) {x : Nat} {it : PE} {b : PS} (ih : ∀ ns ss, chkS κ.F κ.tr ns b ss = true → ExOk κ N ns b ss) : ∀ st, chk1 κ.F κ.tr ns (.forI x it b) st = true → Ex1Ok κ N ns (.forI x it b) st := by
  refine onFor_el fun t v bs o pos => ?_
  revert o
  refine on0_el ?_
  revert t
  refine onName_el fun n np => and_el fun h1 => and_el fun h2 => and_el fun h3 h4 A s₀ env γ σ s K Q F hz hQ => ?_
  refine wpB_For h2 (((sound S it).1 ns v h3).1 F.cx hz fun u s₁ z k E₁ hu => oW_el k fun l hl k => pyIter_ok hl hu (F.to E₁).fr.tabIs fun itr s₂ E₂ h0 hi => ?_)
  refine for_fin (put := put1 x) (x := x) F E₁ E₂ (fun b hb => by rw [List.mem_singleton.mp hb]; exact h0) IterAt.itr hi (fun R hu hp hQ => ?_) (ih ns bs h4) k.2.h hQ
  exact gd_el hp fun _ k => wpB_assign_Name (wpB_mono (store' R F.eo h1 hu) fun _ t' q => hQ t' _ k q.1 q.2)

theorem ex_forT (S : Side κ) {x y z : Nat} {it : PE} {b : PS} (ih : ∀ ns ss, chkS κ.F κ.tr ns b ss = true → ExOk κ N ns b ss) : ∀ st, chk1 κ.F κ.tr ns (.forT x y z it b) st = true → Ex1Ok κ N ns (.forT x y z it b) st := by
  refine onFor_el fun t v bs o pos => ?_
  revert o
  refine on0_el ?_
  revert t
  refine onTuple_el fun l j tp => ?_
  revert l
  refine on3_el fun t1 t2 t3 => ?_
  revert t1
  refine onName_el fun n np => ?_
  revert t2
  refine onName_el fun m mp => ?_
  revert t3
  refine onName_el fun k kp => and_el fun h1 => and_el fun h2 => and_el fun h3 => and_el fun h4 => and_el fun h5 h6 A s₀ env γ σ s K Q F hz hQ => ?_
  refine wpB_For h4 (((sound S it).1 ns v h5).1 F.cx hz fun u s₁ z' k E₁ hu => oW_el k fun l hl k => pyIter_ok hl hu (F.to E₁).fr.tabIs fun itr s₂ E₂ h0 hi => ?_)
  refine for_fin (put := put3 x y z) (x := x) F E₁ E₂ (fun b hb => by rw [List.mem_singleton.mp hb]; exact h0) IterAt.itr hi (fun {σ t u v K Q} R hu hp hQ => ?_) (ih ns bs h6) k.2.h hQ
  exact tup3_el (G := fun v => Is t.heap γ u v → wpB _ _ _ _ t) (fun a b c k hu => gd_el k fun _ k => wpB_mono (assign3 F.room.handled R F.eo h1 h2 h3 hu) fun _ t' q => hQ t' _ k q.1 q.2) v hp hu

theorem ex_forE (S : Side κ) {x y : Nat} {it : PE} {b : PS} (ih : ∀ ns ss, chkS κ.F κ.tr ns b ss = true → ExOk κ N ns b ss) : ∀ st, chk1 κ.F κ.tr ns (.forE x y it b) st = true → Ex1Ok κ N ns (.forE x y it b) st := by
  refine onFor_el fun t v bs o pos => ?_
  revert o
  refine on0_el ?_
  revert t
  refine onTuple_el fun l j tp => ?_
  revert l
  refine on2_el fun t1 t2 => ?_
  revert t1
  refine onName_el fun n np => ?_
  revert t2
  refine onName_el fun m mp => ?_
  revert v
  refine onCall_el fun g es kw cp => ?_
  revert kw
  refine on0_el ?_
  revert g
  refine onName_el fun g gp => ?_
  revert es
  refine on1_el fun v => and_el fun h1 => and_el fun h2 => ?_
  revert g
  refine eq_el (and_el fun h4 => and_el fun h5 => and_el fun h6 h7 A s₀ env γ σ s K Q F hz hQ => ?_)
  have hb := F.fr.rel.wd.bi ("enumerate" : Str) (by decide)
  refine wpB_For rfl (wpB_Call_Name h5 (Name_global F.eo F.fr.rel h4 (.inr ⟨hb.1, show κ.mb ("enumerate" : Str) = some (.type "enumerate") from hb.2⟩) ?_))
  rw [backTo_plain h5]
  refine wpB_spliced_cons (((sound S it).1 ns v h6).1 F.cx hz fun u s₁ z k E₁ hu => wpB_pure ⟨.type _, ?_⟩)
  revert z
  refine asLst_el fun xs k => ?_
  revert u
  refine Is.list_el fun l vs hn hp hx hf => ?_
  obtain ⟨nn, hp'⟩ := hp
  have F₁ := F.to E₁
  refine wpB_leaf (call_enumerate_1 (n := nn) hp' fun h' he hi hsz hk => wpB_leaf (wpAny_pyIter_enum he ?_))
  have h0 : s₁.heap.get? (s₁.heap.objs.size + 1) = none := by
    cases e' : s₁.heap.get? (s₁.heap.objs.size + 1) with
    | none => rfl
    | some o => exact absurd (Heap.lt_size e') (Nat.not_lt_of_le (Nat.le_succ _))
  refine for_fin (put := put2 x y) (x := x) F E₁ (Ext.of_keep (t := s₁.toks) hk) (its := [s₁.heap.objs.size + 1, s₁.heap.objs.size]) (fun b hb => ?_) EnumAt.itr
    ⟨Nat.ne_of_gt (Nat.lt_succ_self _), l, 0, vs, xs, .none, he, hi, hn, ⟨nn, hk _ _ hp'⟩, hx.ext F₁.fr.tabIs (.of_keep hk), hf, rfl⟩ (fun {σ t u v K Q} R hu hp hQ => ?_) (ih ns bs h7) k.2.h hQ
  · rcases List.mem_cons.mp hb with q | q
    · rw [q]; exact h0
    · rw [List.mem_singleton.mp q]; exact fresh_size _
  · exact tup2_el (G := fun v => Is t.heap γ u v → wpB _ _ _ _ t) (fun a b k hu => wpB_mono (assign2 F.room.handled R F.eo h1 h2 hu) fun _ t' q => hQ t' _ k q.1 q.2) v hp hu

noncomputable def seqG (X : Prop) (Y : Flow → Prop) (f : Flow) : Prop := match f with
  | .next => X
  | f => Y f
theorem seq_el {h : Heap} {γ : List Addr} {σ : St} {f : Flow} {fl : Fl} {nx : St → Prop} {K : Fl → St → Prop} {X : Prop} {Y : Flow → Prop} (hf : FlowIs h γ f fl) (k : seqK nx K fl σ) (H1 : nx σ → X) (H2 : K fl σ → Y f) : seqG X Y f := by
  cases fl with
  | next => cases f <;> first | exact H1 k | exact hf.elim
  | brk => cases f <;> first | exact H2 k | exact hf.elim
  | ret v => cases f <;> first | exact H2 k | exact hf.elim
theorem exec_sound (S : Side κ) (S2 : Side2 κ) : ∀ ps : PS, (∀ ns ss, chkS κ.F κ.tr ns ps ss = true → ExOk κ N ns ps ss) ∧ (∀ ns st, chk1 κ.F κ.tr ns ps st = true → Ex1Ok κ N ns ps st) := by
  have noS : ∀ {ps : PS}, (∀ ns ss, chkS κ.F κ.tr ns ps ss = false) → ∀ ns ss, chkS κ.F κ.tr ns ps ss = true → ExOk κ N ns ps ss := fun h ns ss q => absurd q (by rw [h]; exact Bool.false_ne_true)
  have no1 : ∀ {ps : PS}, (∀ ns st, chk1 κ.F κ.tr ns ps st = false) → ∀ ns st, chk1 κ.F κ.tr ns ps st = true → Ex1Ok κ N ns ps st := fun h ns ss q => absurd q (by rw [h]; exact Bool.false_ne_true)
  intro ps
  induction ps with
  | any => exact ⟨fun ns ss _ A s₀ env γ σ s K Q F hz hQ => hz.elim, fun ns ss _ A s₀ env γ σ s K Q F hz hQ => hz.elim⟩
  | nil =>
    refine ⟨fun ns ss h A s₀ env γ σ s K Q F hz hQ => ?_, no1 fun _ _ => rfl⟩
    cases List.isEmpty_iff.mp (show ss.isEmpty = true from h)
    exact wpB_pure (hQ.fin hz F.fr Step.refl trivial)
  | seq p r ihs ihr =>
    refine ⟨fun ns => onC_el fun st ss => and_el fun h1 h2 A s₀ env γ σ s K Q F hz hQ => ?_, no1 fun _ _ => rfl⟩
    refine wpB_execs_cons (ihs.2 ns st h1 F hz fun f t δ σ₁ fl k R₁ S₁ hf => ?_)
    exact seq_el (Y := fun f => Q f t) hf k (fun k => ihr.1 ns ss h2 ⟨F.room, F.eo, R₁⟩ k fun f t₂ δ₂ σ₂ fl k R₂ S₂ hf => by
        rw [List.append_assoc] at R₂ hf
        exact hQ f t₂ _ σ₂ fl k R₂ (S₁.trans S₂ F.fr.tabIs R₁) hf) fun k => hQ f t δ σ₁ fl k R₁ S₁ hf
  | asg x e => exact ⟨noS fun _ _ => rfl, fun _ => ex_asg S⟩
  | newl x => exact ⟨noS fun _ _ => rfl, fun _ => ex_newl⟩
  | newb x => exact ⟨noS fun _ _ => rfl, fun _ => ex_newb S2⟩
  | getapp x y => exact ⟨noS fun _ _ => rfl, fun _ => ex_getapp S2⟩
  | asgSwap x y a b => exact ⟨noS fun _ _ => rfl, fun _ => ex_asgSwap S⟩
  | asgT x y e => exact ⟨noS fun _ _ => rfl, fun _ => ex_asgT S⟩
  | aug x o e => exact ⟨noS fun _ _ => rfl, fun _ => ex_aug S⟩
  | app x e => exact ⟨noS fun _ _ => rfl, fun _ => ex_app S S2⟩
  | appm x e => exact ⟨noS fun _ _ => rfl, fun _ => ex_appm S S2⟩
  | ext x e => exact ⟨noS fun _ _ => rfl, fun _ => ex_ext S S2⟩
  | setI x i e => exact ⟨noS fun _ _ => rfl, fun _ => ex_setI S⟩
  | augI x i e => exact ⟨noS fun _ _ => rfl, fun _ => ex_augI S⟩
  | delI x i => exact ⟨noS fun _ _ => rfl, fun _ => ex_delI S⟩
  | iff c t e iht ihe => exact ⟨noS fun _ _ => rfl, fun _ => ex_iff S iht.1 ihe.1⟩
  | whl c b ih => exact ⟨noS fun _ _ => rfl, fun _ => ex_whl S ih.1⟩
  | forI x it b ih => exact ⟨noS fun _ _ => rfl, fun _ => ex_forI S ih.1⟩
  | forT x y z it b ih => exact ⟨noS fun _ _ => rfl, fun _ => ex_forT S ih.1⟩
  | forE x y it b ih => exact ⟨noS fun _ _ => rfl, fun _ => ex_forE S ih.1⟩
  | ret e => exact ⟨noS fun _ _ => rfl, fun _ => ex_ret S⟩
  | brk => exact ⟨noS fun _ _ => rfl, fun _ => ex_brk⟩
  | asrt e => exact ⟨noS fun _ _ => rfl, fun _ => ex_asrt S⟩
  | try_ b ih => exact ⟨noS fun _ _ => rfl, fun _ => ex_try ih.1⟩
end
end Mine
namespace Mine
open _root_.PySem _root_.PySem.Calls _root_.PySem.W _root_.PyProof.Rows

/-! ### Calls of the program's functions -/
noncomputable def orac : Nat → Orac
  | 0 => fun _ _ _ => False
  | n + 1 => fun f a => bodyW (orac n) 400 (fpars f) (fbody f) a

noncomputable def chkF (F : Forms) (f : Fn) (d : DefRec) : Bool :=
  d.params.posonlyargs.isEmpty && d.params.vararg.isNone && d.params.kwonlyargs.isEmpty && d.params.kw_defaults.isEmpty && d.params.kwarg.isNone && d.params.defaults.isEmpty &&
  (d.params.args.map (·.arg) == (fpars f).map nm) && (d.scope.kind == .function) && !d.scope.isCoroutine && !d.scope.isGenerator && decide ((d.scope.names.map (·.1)).Nodup) && decide ((d.params.args.map (·.arg)).Nodup) &&
  (fpars f).all (fun x => decide (x < tab.length) && (d.scope.names.lookup (nm x) == some .local || d.scope.names.lookup (nm x) == some .cell)) && chkS F (f == .transl) d.scope.names (fbody f) d.body

theorem bindL_not {k : Str → Option NameKind} {n : Str} : ∀ {b : List (Str × Value)} {m : Str → Option Value}, n ∉ b.map (·.1) → bindL k b m n = m n
  | [], _, _ => rfl
  | (n0, v0) :: r, m, h => by
    have h1 : n ≠ n0 := fun q => h (by simp [q])
    have h2 : n ∉ r.map (·.1) := fun q => h (List.mem_cons_of_mem _ q)
    rw [bindL, bindL_not h2]
    split
    · show (if n = n0 then some v0 else m n) = m n
      rw [if_neg h1]
    · rfl
theorem bindL_of {k : Str → Option NameKind} {n : Str} {v : Value} (hk : k n = some .local) : ∀ {b : List (Str × Value)} {m : Str → Option Value}, (b.map (·.1)).Nodup → (n, v) ∈ b → bindL k b m n = some v
  | (n0, v0) :: r, m, hn, h => by
    rw [List.map_cons, List.nodup_cons] at hn
    rw [bindL]
    rcases List.mem_cons.mp h with q | q
    · cases q
      rw [bindL_not hn.1, if_pos hk]
      simp
    · exact bindL_of hk hn.2 q
theorem bindC_not {k : Str → Option NameKind} {n : Str} : ∀ {b : List (Str × Value)} {m : Str → Option Value}, n ∉ b.map (·.1) → bindC k b m n = m n
  | [], _, _ => rfl
  | (n0, v0) :: r, m, h => by
    have h1 : n ≠ n0 := fun q => h (by simp [q])
    have h2 : n ∉ r.map (·.1) := fun q => h (List.mem_cons_of_mem _ q)
    rw [bindC, bindC_not h2]
    split
    · rfl
    · show (if n = n0 then some v0 else m n) = m n
      rw [if_neg h1]
theorem bindC_of {k : Str → Option NameKind} {n : Str} {v : Value} (hk : k n ≠ some .local) : ∀ {b : List (Str × Value)} {m : Str → Option Value}, (b.map (·.1)).Nodup → (n, v) ∈ b → bindC k b m n = some v
  | (n0, v0) :: r, m, hn, h => by
    rw [List.map_cons, List.nodup_cons] at hn
    rw [bindC]
    rcases List.mem_cons.mp h with q | q
    · cases q
      rw [bindC_not hn.1, if_neg hk]
      simp
    · exact bindC_of hk hn.2 q
theorem zip_is {h : Heap} {γ : List Addr} : ∀ {ps : List Nat} {vs : List Value} {xs : List PV} {x : Nat} {v : PV}, IsAll h γ vs xs → getV (ofL (ps.zip xs)) x = some v → x ∈ ps ∧ ∃ u, (nm x, u) ∈ (ps.map nm).zip vs ∧ Is h γ u v
  | [], _, _, _, _, _, e => nomatch e
  | p :: ps, _, _, x, v, .nil, e => nomatch e
  | p :: ps, u :: vs, y :: xs, x, v, .cons hu hs, e => by
    have e : getV (setV (ofL (ps.zip xs)) p y) x = some v := e
    rw [getV_setV] at e
    by_cases q : x = p
    · subst q
      rw [if_pos rfl] at e; cases e
      exact ⟨List.mem_cons_self, u, List.mem_cons_self, hu⟩
    · rw [if_neg q] at e
      obtain ⟨h1, u', h2, h3⟩ := zip_is hs e
      exact ⟨List.mem_cons_of_mem _ h1, u', List.mem_cons_of_mem _ h2, h3⟩
theorem zip_names : ∀ {ns : List Str} {vs : List Value}, ns.length = vs.length → (ns.zip vs).map (·.1) = ns
  | [], _, _ => rfl
  | n :: ns, [], h => by simp at h
  | n :: ns, v :: vs, h => by rw [List.zip_cons_cons, List.map_cons, zip_names (by simpa using h)]
theorem cellsFrom_nodup : ∀ (names : List (Str × NameKind)) (n : Nat) (acc : List (Str × Addr)), (names.map (·.1)).Nodup → (acc.map (·.1)).Nodup → (∀ x ∈ names.map (·.1), x ∉ acc.map (·.1)) → ((cellsFrom n names acc).map (·.1)).Nodup
  | [], _, _, _, h, _ => h
  | (m, k) :: r, n, acc, h1, h2, h3 => by
    rw [List.map_cons, List.nodup_cons] at h1
    unfold cellsFrom
    split
    · refine cellsFrom_nodup r _ _ h1.2 ?_ fun x hx hm => ?_
      · rw [List.map_cons, List.nodup_cons]
        exact ⟨h3 m (by simp), h2⟩
      · rw [List.map_cons, List.mem_cons] at hm
        rcases hm with q | q
        · exact h1.1 (q ▸ hx)
        · exact h3 x (List.mem_cons_of_mem _ hx) q
    · exact cellsFrom_nodup r _ _ h1.2 h2 fun x hx => h3 x (List.mem_cons_of_mem _ hx)
theorem lookup_of_nodup {n : Str} {c : Addr} : ∀ {l : List (Str × Addr)}, (l.map (·.1)).Nodup → (n, c) ∈ l → l.lookup n = some c
  | (m, d) :: r, hn, h => by
    rw [List.map_cons, List.nodup_cons] at hn
    rw [List.lookup_cons]
    rcases List.mem_cons.mp h with q | q
    · cases q; simp
    · have : (n == m) = false := beq_eq_false_iff_ne.mpr fun e => hn.1 (by rw [← e]; exact List.mem_map_of_mem (f := (·.1)) q)
      rw [this]
      exact lookup_of_nodup hn.2 q

section
variable {prog : Program} {w : World} {P : Addr} {mg mb : Str → Option Value} {F : Forms}
noncomputable def CallSpec (prog : Program) (w : World) (ok : Fn → DefRec → Bool) (P : Addr) (mg mb : Str → Option Value) (C : Orac) (d : Nat) : Prop :=
  ∀ {A : Around} {f : Fn} {vs : List Value} {xs : List PV} {K : PV → Prop} {Q : Value → Shared → Prop} {s : Shared}, Room d A → Wd ok P mg mb s.heap → IsAll s.heap [] vs xs → C f xs K →
    (∀ v s' z, K z → Ext P s s' → Is s'.heap [] v z → Q v s') → wpB (model prog w) A (call (.ref (faddr f)) vs) Q s

theorem thaw_is {h : Heap} {γ : List Addr} {led : List PObj} {u : Value} {v z : PV} (L : LedIs h γ led) (hu : Is h γ u v) (e : thaw led v = some z) : Is h [] u z := by
  have st : frozen v = true → Is h [] u v := fun hf => hu.strip (γ := []) (fun a ha => nomatch ha) hf
  have fin : ∀ {v}, some v = some z → Is h [] u v → Is h [] u z := fun q x => Option.some.inj q ▸ x
  cases v with
  | ref k =>
    obtain ⟨xs, hk, e⟩ := ob_inv e
    obtain ⟨hf, rfl⟩ := if_inv e
    replace hk := lstAt_inv hk
    revert u
    intro u hu _ _
    refine Is.ref_el (G := fun u => Is h [] u (.list xs)) (fun a ek => ?_) u hu
    obtain ⟨a', e', vs, hp, hx, _⟩ := L.at_ k _ hk
    rw [ek] at e'; cases e'
    exact .list a vs xs (fun q => nomatch q) hp (hx.strip (γ := []) (fun a ha => nomatch ha) hf) hf
  | meth k => cases e
  | range a b c => cases e
  | _ => exact fin e (st rfl)

/-- what a def's record must be -/
structure DefOk (F : Forms) (f : Fn) (d : DefRec) : Prop where
  par : d.params = ⟨[], d.params.args, none, [], [], none, []⟩
  names : d.params.args.map (·.arg) = (fpars f).map nm
  kind : d.scope.kind = .function
  noCo : d.scope.isCoroutine = false
  noGen : d.scope.isGenerator = false
  nd : (d.scope.names.map (·.1)).Nodup
  nd2 : (d.params.args.map (·.arg)).Nodup
  loc : ∀ x ∈ fpars f, x < tab.length ∧ (d.scope.names.lookup (nm x) = some .local ∨ d.scope.names.lookup (nm x) = some .cell)
  body : chkS F (f == .transl) d.scope.names (fbody f) d.body = true
theorem defOk {f : Fn} {d : DefRec} (h : chkF F f d = true) : DefOk F f d := by
  unfold chkF at h
  simp only [Bool.and_eq_true, Bool.not_eq_true', decide_eq_true_eq, List.isEmpty_iff, Option.isNone_iff_eq_none] at h
  obtain ⟨⟨⟨⟨⟨⟨⟨⟨⟨⟨⟨⟨⟨p1, p2⟩, p3⟩, p4⟩, p5⟩, p6⟩, p7⟩, p8⟩, p9⟩, p10⟩, p11⟩, p12⟩, p13⟩, p14⟩ := h
  refine ⟨?_, eq_of_beq p7, eq_of_beq p8, p9, p10, p11, p12, fun x hx => ?_, p14⟩
  · clear p7 p8 p9 p10 p11 p12 p13 p14
    revert p1 p2 p3 p4 p5 p6
    cases d.params with
    | mk a1 a2 a3 a4 a5 a6 a7 =>
      intro p1 p2 p3 p4 p5 p6
      cases p1; cases p2; cases p3; cases p4; cases p5; cases p6; rfl
  · have := List.all_eq_true.mp p13 x hx
    have q := and_t this
    exact ⟨of_decide_eq_true q.1, (or_el (fun h => .inl (eq_of_beq h)) (fun h => .inr (eq_of_beq h)) q.2)⟩

/-- the frame that a call begins with -/
theorem frame0 {f : Fn} {d : DefRec} {env : Env} {vs : List Value} {xs : List PV} {s : Shared} {h' : Heap} {tk : Nat} (D : DefOk F f d) (W : Wd (chkF F) P mg mb s.heap) (E : Ext P s { s with heap := h', toks := tk }) (hx : IsAll s.heap [] vs xs) (hal : d.params.args.length = vs.length)
    (kof : ∀ n, env.kindOf n = d.scope.names.lookup n) (eL : env.locals = s.heap.objs.size) (ecl : env.cells = cellsFrom (s.heap.objs.size + 1) d.scope.names [])
    (hns : h'.Ns env.locals (bindL env.kindOf ((d.params.args.map (·.arg)).zip vs) (fun _ => none))) (hcell : ∀ n a, env.cells.lookup n = some a → h'.IsCell a (bindC env.kindOf ((d.params.args.map (·.arg)).zip vs) (fun _ => none) n))
    (hap : ∀ n n' a, env.cells.lookup n = some a → env.cells.lookup n' = some a → n = n') (habove : ∀ n a, (n, a) ∈ env.cells → s.heap.objs.size < a) :
    FrameR (chkF F) P mg mb s env [] ⟨ofL ((fpars f).zip xs), []⟩ { s with heap := h', toks := tk } := by
  have zn : ((d.params.args.map (·.arg)).zip vs).map (·.1) = d.params.args.map (·.arg) := zip_names (by rw [List.length_map]; exact hal)
  have bn : (((d.params.args.map (·.arg)).zip vs).map (·.1)).Nodup := by rw [zn]; exact D.nd2
  refine ⟨W, E, fun x v e => ?_, ⟨_, hns, fun x v e hk => ?_⟩, fun x v e hk => ?_, fun a ha => ?_, hap, LedIs.nil, List.nodup_nil, fun a ha => ?_⟩
  · have q := D.loc x (zip_is hx e).1
    rw [kof]
    exact q
  · obtain ⟨hm, u, hu, hv⟩ := zip_is hx e
    refine ⟨u, bindL_of hk bn ?_, hv.ext W.tab E.keep⟩
    rw [D.names]; exact hu
  · obtain ⟨hm, u, hu, hv⟩ := zip_is hx e
    rw [kof] at hk
    obtain ⟨a, hc⟩ := Option.isSome_iff_exists.mp (show ((cellsFrom (s.heap.objs.size + 1) d.scope.names []).lookup (nm x)).isSome = true from cellsFrom_some _ _ _ (.inl hk))
    rw [← ecl] at hc
    refine ⟨a, u, hc, ?_, hv.ext W.tab E.keep⟩
    rw [← bindC_of (k := env.kindOf) (m := fun _ => none) (v := u) (fun q => absurd (hk.symm.trans ((kof _).symm.trans q)) (by decide)) bn (by rw [D.names]; exact hu)]
    exact hcell (nm x) a hc
  · obtain ⟨⟨n, a'⟩, hm, rfl⟩ := List.mem_map.mp ha
    refine ⟨_, hcell n a' (lookup_of_nodup ?_ hm)⟩
    rw [ecl]
    exact cellsFrom_nodup d.scope.names _ [] D.nd List.nodup_nil fun _ _ q => nomatch q
  · unfold own at ha
    rw [List.append_nil] at ha
    rcases List.mem_cons.mp ha with q | q
    · rw [q, eL]; exact fresh_size _
    · obtain ⟨⟨n, a'⟩, hm, rfl⟩ := List.mem_map.mp q
      have := habove n a' hm
      cases e : s.heap.get? a' with
      | none => rfl
      | some o => exact absurd (Heap.lt_size e) (Nat.not_lt_of_lt this)

theorem call_ok (HS : ∀ (tr : Bool) (C : Orac) (d : Nat), CallSpec prog w (chkF F) P mg mb C d → Side ⟨prog, w, chkF F, P, mg, mb, C, d, F, tr⟩) (HS2 : ∀ (tr : Bool) (C : Orac) (d : Nat), Side2 ⟨prog, w, chkF F, P, mg, mb, C, d, F, tr⟩) : ∀ n : Nat, CallSpec prog w (chkF F) P mg mb (orac n) n := by
  intro n
  induction n with
  | zero => exact fun _ _ _ h _ => h.elim
  | succ n ih =>
    intro A f vs xs K Q s hr W hx hz hQ
    obtain ⟨o, pm, c, doc, d, oc, cvs, tq, h1, h2, h3, h4, h5, h6, h7, h8⟩ := (W.fn f).all
    have D := defOk h7
    have hlen := hz.1
    replace hz := hz.2
    have hal : d.params.args.length = vs.length := by
      have := congrArg List.length D.names
      rw [List.length_map, List.length_map, hlen, ← hx.length] at this
      exact this
    refine wpB_call (codeB_call_function (by have := hr.depth; unfold recursionLimit; (first | lia | omega)) h1 h2 D.noCo D.noGen rfl ⟨c, oc, cvs, tq, rfl, h3, h5, h6⟩ ?_)
    rw [bindArgs_plain (as := d.params.args) D.par rfl D.nd2 hal.symm]
    refine wpB_pure ?_
    have csome : ∀ {n : Str} {L : Nat}, d.scope.names.lookup n = some .cell → ((cellsFrom L d.scope.names []).lookup n).isSome = true := fun h => cellsFrom_some _ _ _ (.inl h)
    refine wpB_leaf (wpAny_newFunctionEnv_cells D.kind (fun x hxm => ?_) fun env he s' X => ?_)
    · have : x.1 ∈ d.params.args.map (·.arg) := by
        rw [← zip_names (ns := d.params.args.map (·.arg)) (vs := vs) (by rw [List.length_map]; exact hal)]
        exact List.mem_map_of_mem (f := (·.1)) hxm
      rw [D.names] at this
      obtain ⟨i, hi, e⟩ := List.mem_map.mp this
      rw [← e]
      exact (D.loc i hi).2.imp id fun q => ⟨q, csome q⟩
    · obtain ⟨h', tk, rfl, hk⟩ := X.done
      have E : Ext P s { s with heap := h', toks := tk } := Ext.of_keep hk
      have EO : EnvOk (f == .transl) d.scope.names env := by
        rw [he]
        exact ⟨D.kind, rfl, rfl, rfl, fun n hn => csome hn, fun ht => by show Value.ref c = _; rw [h8 (eq_of_beq ht)]⟩
      have eL : env.locals = s.heap.objs.size := by rw [he]; rfl
      have ecl : env.cells = cellsFrom (s.heap.objs.size + 1) d.scope.names [] := by rw [he]; rfl
      have R : FrameR (chkF F) P mg mb s env [] ⟨ofL ((fpars f).zip xs), []⟩ { s with heap := h', toks := tk } :=
        frame0 D W E hx hal (fun n => by unfold Env.kindOf; rw [EO.names]) eL ecl X.toInCall.ns X.cell (fun n n' a e1 e2 => name_of_addr X.apart (_root_.PySem.mem_of_lookup e1) (_root_.PySem.mem_of_lookup e2)) fun n a h => eL ▸ X.above n a h
      refine ⟨(W.keep E.keep (W.tab.ext E)).nolimit, codeB_func ?_⟩
      refine (exec_sound (κ := ⟨prog, w, chkF F, P, mg, mb, orac n, n, F, f == .transl⟩) (N := 400) (HS _ _ _ ih) (HS2 _ _ _) (fbody f)).1 d.scope.names d.body D.body ⟨⟨hr.handled, by have := hr.depth; show A.depth + 1 + 4 * n ≤ 600; (first | lia | omega), by have := hr.units; show A.units + 3 + 32 * n ≤ 9000; (first | lia | omega)⟩, EO, R⟩ hz fun fw s₂ δ σ' fl k R₂ S₂ hf => ?_
      cases fl with
      | next => exact k.elim
      | brk => exact k.elim
      | ret rv =>
        refine oW_el k fun z hz k => ?_
        cases fw <;> first | exact ⟨_, rfl, hQ _ s₂ z k R₂.ext (thaw_is R₂.led hf hz)⟩ | exact hf.elim
end
end Mine
namespace Mine
open _root_.PySem

/-! ### The plain law: running the small program by hand -/
section
variable {C : Orac} {N : Nat} {σ : St} {K : Fl → St → Prop} {A B : Prop}
/-- a test that is known -/
theorem b_t {p : Prop} [Decidable p] (h : p) (k : A) : BrW (decide p) A B := bW_t (decide_eq_true h) k
theorem b_f {p : Prop} [Decidable p] (h : ¬p) (k : B) : BrW (decide p) A B := bW_f (decide_eq_false h) k
theorem fdivn (a b : Nat) : Int.fdiv a b = (a / b : Nat) := by rw [Int.fdiv_eq_ediv_of_nonneg _ (by (first | lia | omega))]; exact (Int.natCast_ediv _ _).symm
theorem fmodn (a b : Nat) : Int.fmod a b = (a % b : Nat) := by rw [Int.fmod_eq_emod_of_nonneg _ (by (first | lia | omega))]; exact (Int.natCast_emod _ _).symm
/-- a value under another name -/
theorem val_is {a b : Int} {K : PV → Prop} (e : a = b) (k : K (.int b)) : ValK a K := ⟨by rw [e]; exact k⟩
theorem div_is {m n q : Nat} {K : PV → Prop} (e : m / n = q) (k : K (.int q)) : ValK (Int.fdiv m n) K := val_is ((fdivn m n).trans (by rw [e])) k
theorem mod_is {m n q : Nat} {K : PV → Prop} (e : m % n = q) (k : K (.int q)) : ValK (Int.fmod m n) K := val_is ((fmodn m n).trans (by rw [e])) k
theorem lb {n m : Nat} (h : Nat.ble n m = true) : n ≤ m := Nat.le_of_ble_eq_true h
theorem refW_eq {env : Vars} {x n : Nat} {k : Nat → Prop} (h : env x = some (.ref n)) (q : k n) : refW env x k := by
  show oW (env x) _
  rw [h]; exact q
theorem run {n : Nat} {f : Fn} {a : List PV} {K : PV → Prop} (h : bodyW (orac n) 400 (fpars f) (fbody f) a K) : orac (n + 1) f a K := h
end
end Mine
namespace Mine
open _root_.PySem

noncomputable def Tf (j b : Int) : Int := if 36 * (j + 1) - b < 1 then 1 else if 26 < 36 * (j + 1) - b then 26 else 36 * (j + 1) - b
theorem or_T (n : Nat) {j b t : Int} (e : Tf j b = t) {K : PV → Prop} (k : K (.int t)) : orac (n + 1) .T [.int j, .int b] K := by
  subst e
  refine And.intro rfl (And.intro ⟨by decide, by decide⟩ (val_is rfl (val_is rfl ?_)))
  unfold Tf at k
  by_cases h1 : 36 * (j + 1) - b < 1
  · exact b_t h1 (by rw [if_pos h1] at k; exact k)
  · rw [if_neg h1] at k
    refine b_f h1 ?_
    by_cases h2 : 26 < 36 * (j + 1) - b
    · exact b_t h2 (by rw [if_pos h2] at k; exact k)
    · exact b_f h2 (by rw [if_neg h2] at k; exact k)
noncomputable def oct (x : Nat) : Nat := if x < 26 then 97 + x else 22 + x
theorem or_octet (n : Nat) (x : Nat) {K : PV → Prop} (k : K (.int (oct x))) : orac (n + 1) .octet [.int x] K := by
  unfold oct at k
  refine And.intro rfl ?_
  by_cases h1 : x < 26
  · rw [if_pos h1] at k
    exact b_t (show (x : Int) < 26 by (first | lia | omega)) k
  · rw [if_neg h1] at k
    exact b_f (show ¬ (x : Int) < 26 by (first | lia | omega)) k
theorem or_adapt (n : Nat) (d m : Nat) (h2 : d < 700) (h3 : 0 < m) (h4 : m < 1000) {K : PV → Prop} (k : K (.int 0)) : orac (n + 1) .adapt [.int d, .bool true, .int m] K := by
  refine And.intro rfl (bW_t rfl (And.intro ⟨by decide, by decide⟩ (div_is (m := d) (n := 700) (q := 0) (Nat.div_eq_of_lt h2) ?_)))
  refine And.intro ⟨by (first | lia | omega), by (first | lia | omega)⟩ (div_is (m := 0) (n := m) (Nat.zero_div m) ?_)
  exact LoopW.mk (b_f (by decide) (And.intro ⟨by decide, by decide⟩ (val_is rfl (And.intro ⟨by decide, by decide⟩ (val_is rfl k)))))
theorem or_adapt2 (n : Nat) (d m : Nat) (h2 : d < 300) (h3 : 0 < m) (h4 : m < 1000) {K : PV → Prop} (k : ∀ i, K (.int i)) : orac (n + 1) .adapt [.int d, .bool false, .int m] K := by
  have h5 : d / 2 / m ≤ d / 2 := Nat.div_le_self _ _
  generalize hq : d / 2 / m = q at h5
  refine And.intro rfl (bW_f rfl (And.intro ⟨by decide, by decide⟩ (div_is (m := d) (n := 2) rfl ?_)))
  refine And.intro ⟨by (first | lia | omega), by (first | lia | omega)⟩ (div_is (m := d / 2) (n := m) hq ?_)
  refine LoopW.mk (b_f (show ¬ (455 : Int) < (d / 2 : Nat) + (q : Nat) by (first | lia | omega)) ?_)
  exact And.intro ⟨by decide, by decide⟩ (val_is rfl (And.intro ⟨by (first | lia | omega), by (first | lia | omega)⟩ (val_is rfl (k _))))
noncomputable def num1 (d : Nat) : List Nat := if d = 0 then [97] else oct (d - 35 * ((d - 1) / 35)) :: ((if 0 < (d - 1) / 35 then [oct ((d - 1) / 35)] else []) ++ [97])
noncomputable def num2 (e : Nat) : List Nat := if e < 26 then [oct e] else [oct (e - 10 * ((e - 26) / 10)), oct ((e - 26) / 10)]
theorem dig_at {x : Nat} (h : x < 36) : digitsB[x]? = some (oct x) := by
  have : (List.range 36).all (fun x => digitsB[x]? == some (oct x)) = true := by decide +kernel
  exact eq_of_beq (List.all_eq_true.mp this x (List.mem_range.mpr h))
theorem pyIdx_nat {p n : Nat} (h : p < n) : pyIdx (p : Int) n = some p := by
  unfold pyIdx
  rw [if_pos ⟨by (first | lia | omega), by (first | lia | omega)⟩]; simp
theorem lt_of_at {α : Type} {l : List α} {p : Nat} {c : α} (h : l[p]? = some c) : p < l.length := (List.getElem?_eq_some_iff.mp h).1
theorem idx_bytes {led : List PObj} {b : List Nat} {p : Nat} {c : Nat} (hb : b.length ≤ 4096) (h : b[p]? = some c) : idxv led (.bytes b) (.int p) = some (.int c) := by
  show (if b.length ≤ big then (pyIdx p b.length).bind fun k => (b[k]?).map fun (c : Nat) => PV.int (c : Int) else none) = _
  rw [if_pos (show b.length ≤ big from hb), pyIdx_nat (lt_of_at h), Option.bind_some, h]; rfl
theorem idx_str {led : List PObj} {b : List Nat} {p : Nat} {c : Nat} (hb : b.length ≤ 4096) (h : b[p]? = some c) : idxv led (.str b) (.int p) = some (.str [c]) := by
  show (if b.length ≤ big then (pyIdx p b.length).bind fun k => (b[k]?).map fun c => PV.str [c] else none) = _
  rw [if_pos (show b.length ≤ big from hb), pyIdx_nat (lt_of_at h), Option.bind_some, h]; rfl
theorem idx_dig {led : List PObj} {a : Int} {x : Nat} (e : a = x) (h : x < 36) : idxv led (.bytes digitsB) (.int a) = some (.int (oct x)) := by
  rw [e]; exact idx_bytes (show digitsB.length ≤ 4096 by decide) (dig_at h)
theorem oct_lt (x : Nat) (h : x < 36) : oct x < 256 := by unfold oct; split <;> (first | lia | omega)
theorem up_oct_lt (x : Nat) (h : x < 36) : (0 : Int) ≤ (oct x : Nat) ∧ ((oct x : Nat) : Int) < 256 := by have := oct_lt x h; (first | lia | omega)
theorem or_gen1_72 {d : Nat} (h : d < 170) {K : PV → Prop} (k : K (.bytes (num1 d))) : orac 4 .gen1 [.int d, .int 72] K := by
  unfold num1 at k
  refine run (And.intro rfl (LoopW.mk (bW_t rfl (CallW.mk (or_T 2 (t := 1) rfl ?_)))))
  by_cases h0 : d = 0
  · subst h0
    exact b_t (show ((0 : Nat) : Int) < 1 by decide) (op_is (idx_dig (x := 0) rfl (by decide)) (And.intro ⟨by decide, by decide, lb rfl⟩ (op_is rfl k)))
  · rw [if_neg h0] at k
    generalize hu : (d - 1) / 35 = u at k
    refine b_f (show ¬ (d : Int) < 1 by lia) ?_
    have ha : (d : Int) - 1 = (d - 1 : Nat) := by (first | lia | omega)
    have hx : d - 35 * u < 36 := by (first | lia | omega)
    refine val_is ha (val_is (b := 35) rfl (And.intro (by decide) (mod_is (m := d - 1) (n := 35) rfl ?_)))
    refine op_is (idx_dig (x := d - 35 * u) (show (1 : Int) + ((d - 1) % 35 : Nat) = _ by (first | lia | omega)) hx) (And.intro ⟨(up_oct_lt _ hx).1, (up_oct_lt _ hx).2, lb rfl⟩ ?_)
    refine val_is ha (val_is (b := 35) rfl (And.intro (by decide) (div_is (m := d - 1) (n := 35) hu ?_)))
    have hu4 : u < 5 := by (first | lia | omega)
    clear ha
    refine bW_t rfl (CallW.mk (or_T 2 (t := 1) rfl ?_))
    by_cases h1 : 0 < u
    · rw [if_pos h1] at k
      refine b_f (show ¬ (u : Int) < 1 by (first | lia | omega)) ?_
      have hb : (u : Int) - 1 = (u - 1 : Nat) := by (first | lia | omega)
      have hy : u < 36 := by (first | lia | omega)
      refine val_is hb (val_is (b := 35) rfl (And.intro (by decide) (mod_is (m := u - 1) (n := 35) rfl ?_)))
      refine op_is (idx_dig (x := u) (show (1 : Int) + ((u - 1) % 35 : Nat) = _ by (first | lia | omega)) hy) (And.intro ⟨(up_oct_lt _ hy).1, (up_oct_lt _ hy).2, lb rfl⟩ ?_)
      refine val_is hb (val_is (b := 35) rfl (And.intro (by decide) (div_is (m := u - 1) (n := 35) (q := 0) (by (first | lia | omega)) ?_)))
      refine bW_t rfl (CallW.mk (or_T 2 (t := 26) rfl ?_))
      exact b_t (show ((0 : Nat) : Int) < 26 by decide) (op_is (idx_dig (x := 0) rfl (by decide)) (And.intro ⟨by decide, by decide, lb rfl⟩ (op_is rfl k)))
    · rw [if_neg h1] at k
      exact b_t (show (u : Int) < 1 by (first | lia | omega)) (op_is (idx_dig (x := 0) (show (u : Int) = _ by (first | lia | omega)) (by decide)) (And.intro ⟨by decide, by decide, lb rfl⟩ (op_is rfl k)))
theorem or_gen1_0 {e : Nat} (h : e < 240) {K : PV → Prop} (k : K (.bytes (num2 e))) : orac 4 .gen1 [.int e, .int 0] K := by
  unfold num2 at k
  refine run (And.intro rfl (LoopW.mk (bW_t rfl (CallW.mk (or_T 2 (t := 26) rfl ?_)))))
  by_cases h0 : e < 26
  · rw [if_pos h0] at k
    have hx : e < 36 := by (first | lia | omega)
    exact b_t (show (e : Int) < 26 by (first | lia | omega)) (op_is (idx_dig rfl hx) (And.intro ⟨(up_oct_lt _ hx).1, (up_oct_lt _ hx).2, lb rfl⟩ (op_is rfl k)))
  · rw [if_neg h0] at k
    generalize hu : (e - 26) / 10 = u at k
    refine b_f (show ¬ (e : Int) < 26 by (first | lia | omega)) ?_
    have ha : (e : Int) - 26 = (e - 26 : Nat) := by (first | lia | omega)
    have hx : e - 10 * u < 36 := by (first | lia | omega)
    have hy : u < 26 := by (first | lia | omega)
    refine val_is ha (val_is (b := 10) rfl (And.intro (by decide) (mod_is (m := e - 26) (n := 10) rfl ?_)))
    refine op_is (idx_dig (x := e - 10 * u) (show (26 : Int) + ((e - 26) % 10 : Nat) = _ by (first | lia | omega)) hx) (And.intro ⟨(up_oct_lt _ hx).1, (up_oct_lt _ hx).2, lb rfl⟩ ?_)
    refine val_is ha (val_is (b := 10) rfl (And.intro (by decide) (div_is (m := e - 26) (n := 10) hu ?_)))
    refine bW_t rfl (CallW.mk (or_T 2 (t := 26) rfl ?_))
    have hy' : u < 36 := by (first | lia | omega)
    exact b_t (show (u : Int) < 26 by (first | lia | omega)) (op_is (idx_dig rfl hy') (And.intro ⟨(up_oct_lt _ hy').1, (up_oct_lt _ hy').2, lb rfl⟩ (op_is rfl k)))
theorem num1_len (d : Nat) : (num1 d).length ≤ 3 := by
  unfold num1; split
  · exact lb rfl
  · split <;> exact lb rfl
theorem num2_len (d : Nat) : (num2 d).length ≤ 2 := by
  unfold num2; split <;> exact lb rfl
end Mine
namespace Mine
open _root_.PySem

theorem by_ref {led : List PObj} {k : Nat} {bs : List Nat} (h : barrAt led k = some bs) (hl : bs.length ≤ 4096) : primEv led .bytes [.ref k] = some (.bytes bs) := by
  show (barrAt led k).bind (fun bs => if bs.length ≤ big then some (PV.bytes bs) else none) = _
  rw [h]
  exact if_pos hl
theorem or_gens1 {L d : Nat} (h : d < 170) (hL : L < 10) {K : PV → Prop} (k : K (.bytes (num1 d))) : orac 5 .gens [.int L, .list [.int d]] K := by
  have hl : (num1 d).length ≤ 4096 := Nat.le_trans (num1_len d) (lb rfl)
  refine run (And.intro rfl (And.intro ⟨lb rfl, rfl⟩ (LoopW.mk (CallW.mk (or_gen1_72 h (And.intro ⟨lb rfl, hl⟩ (CallW.mk (or_adapt 3 d (L + 0 + 1) (by (first | lia | omega)) (by (first | lia | omega)) (by (first | lia | omega)) (And.intro rfl ?_)))))))))
  exact op_is (by_ref (bs := num1 d) rfl hl) k
theorem or_gens2 {L d e : Nat} (h : d < 170) (he : e < 240) (hL : L < 10) {K : PV → Prop} (k : K (.bytes (num1 d ++ num2 e))) : orac 5 .gens [.int L, .list [.int d, .int e]] K := by
  have hl : (num1 d).length ≤ 4096 := Nat.le_trans (num1_len d) (lb rfl)
  have hl2 : (num2 e).length ≤ 4096 := Nat.le_trans (num2_len e) (lb rfl)
  refine run (And.intro rfl (And.intro ⟨lb rfl, rfl⟩ (LoopW.mk (CallW.mk (or_gen1_72 h (And.intro ⟨lb rfl, hl⟩ (CallW.mk (or_adapt 3 d (L + 0 + 1) (by (first | lia | omega)) (by (first | lia | omega)) (by (first | lia | omega)) (And.intro rfl ?_)))))))))
  refine CallW.mk (or_gen1_0 he (And.intro ⟨hl, hl2⟩ (CallW.mk (or_adapt2 3 e (L + 1 + 1) (by (first | lia | omega)) (by (first | lia | omega)) (by (first | lia | omega)) fun i => And.intro rfl ?_))))
  exact op_is (by_ref (bs := num1 d ++ num2 e) rfl (by have := num1_len d; have := num2_len e; rw [List.length_append]; lia)) k
theorem octets_map : ∀ {ns : List Nat}, (∀ x ∈ ns, x < 256) → octets (ns.map fun (x : Nat) => PV.int x) = some ns
  | [], _ => rfl
  | x :: ns, h => by
    have h1 := h x List.mem_cons_self
    show (if (0 : Int) ≤ x ∧ (x : Int) < 256 then (octets (ns.map fun (x : Nat) => PV.int x)).map ((x : Int).toNat :: ·) else none) = _
    rw [if_pos ⟨by (first | lia | omega), by (first | lia | omega)⟩, octets_map fun y hy => h y (List.mem_cons_of_mem _ hy)]; rfl
theorem by_list {led : List PObj} {ns : List Nat} (hl : ns.length ≤ 4096) (h : ∀ x ∈ ns, x < 256) : primEv led .bytes [.list (ns.map fun (x : Nat) => PV.int x)] = some (.bytes ns) := by
  show (if (ns.map fun (x : Nat) => PV.int x).length ≤ big then (octets (ns.map fun (x : Nat) => PV.int x)).map PV.bytes else none) = _
  rw [List.length_map, if_pos (show ns.length ≤ big from hl), octets_map h]; rfl
theorem all_cons {x : Nat} {ns : List Nat} {P : Nat → Prop} (h : P x) (h' : ∀ y ∈ ns, P y) : ∀ y ∈ x :: ns, P y := fun y hy => (List.mem_cons.mp hy).elim (fun e => e ▸ h) (h' y)
theorem or_first {d : Nat} (h : d < 170) {K : PV → Prop} (k : K (.bytes (num1 d))) : orac 5 .first [.int d] K := by
  unfold num1 at k
  refine run (And.intro rfl ?_)
  have none' : ∀ y ∈ ([] : List Nat), y < 256 := fun _ h => nomatch h
  by_cases h0 : d = 0
  · subst h0
    exact b_t (show ((0 : Nat) : Int) = 0 by decide) k
  · rw [if_neg h0] at k
    generalize hu : (d - 1) / 35 = u at k
    refine b_f (show ¬ (d : Int) = 0 by lia) (val_is (b := (d - 1 : Nat)) (by (first | lia | omega)) (And.intro (by decide) (div_is (m := d - 1) (n := 35) hu ?_)))
    have ha : (d : Int) - 35 * u = (d - 35 * u : Nat) := by (first | lia | omega)
    have hx : oct (d - 35 * u) < 256 := oct_lt _ (by (first | lia | omega))
    by_cases h1 : 0 < u
    · rw [if_pos h1] at k
      have hy : oct u < 256 := oct_lt _ (by (first | lia | omega))
      refine b_t (show (0 : Int) < u by (first | lia | omega)) (And.intro (by decide) (val_is rfl (val_is ha (And.intro (lb rfl) ?_))))
      refine bW_t rfl (CallW.mk (or_octet 3 _ (bW_t rfl (CallW.mk (or_octet 3 u (bW_t rfl (CallW.mk (or_octet 3 0 ?_))))))))
      exact op_is (by_list (ns := [oct (d - 35 * u), oct u, oct 0]) (lb rfl) (all_cons hx (all_cons hy (all_cons (by decide) none')))) k
    · rw [if_neg h1] at k
      refine b_f (show ¬ (0 : Int) < u by (first | lia | omega)) (And.intro (by decide) (val_is rfl (val_is ha (And.intro (lb rfl) ?_))))
      refine bW_t rfl (CallW.mk (or_octet 3 _ (bW_t rfl (CallW.mk (or_octet 3 0 ?_)))))
      exact op_is (by_list (ns := [oct (d - 35 * u), oct 0]) (lb rfl) (all_cons hx (all_cons (by decide) none'))) k
theorem or_next {e : Nat} (h : e < 240) {K : PV → Prop} (k : K (.bytes (num2 e))) : orac 5 .next [.int e] K := by
  unfold num2 at k
  refine run (And.intro rfl ?_)
  have none' : ∀ y ∈ ([] : List Nat), y < 256 := fun _ h => nomatch h
  by_cases h0 : e < 26
  · rw [if_pos h0] at k
    refine b_t (show (e : Int) < 26 by (first | lia | omega)) (CallW.mk (or_octet 3 e ?_))
    exact op_is (by_list (ns := [oct e]) (lb rfl) (all_cons (oct_lt _ (by (first | lia | omega))) none')) k
  · rw [if_neg h0] at k
    generalize hu : (e - 26) / 10 = u at k
    refine b_f (show ¬ (e : Int) < 26 by (first | lia | omega)) (val_is (b := (e - 26 : Nat)) (by (first | lia | omega)) (And.intro (by decide) (div_is (m := e - 26) (n := 10) hu ?_)))
    refine And.intro (by decide) (val_is rfl (val_is (b := (e - 10 * u : Nat)) (by (first | lia | omega)) (CallW.mk (or_octet 3 _ (CallW.mk (or_octet 3 u ?_))))))
    exact op_is (by_list (ns := [oct (e - 10 * u), oct u]) (lb rfl) (all_cons (oct_lt _ (by (first | lia | omega))) (all_cons (oct_lt _ (by (first | lia | omega))) none'))) k
end Mine
namespace Mine
open _root_.PySem

/-! decode_generalized_number -/
noncomputable def dec1B : PS := .seq (.try_ (.seq (.asg 19 (.idx (.var 14) (.var 15))) .nil)) (.seq (.aug 15 .add (.lit (.int 1))) (.seq (.iff (.cmp2 .le .le (.lit (.int 65)) (.var 19) (.lit (.int 90))) (.seq (.asg 18 (.bin .sub (.var 19) (.lit (.int 65)))) .nil) (.seq (.iff (.cmp2 .le .le (.lit (.int 48)) (.var 19) (.lit (.int 57))) (.seq (.asg 18 (.bin .sub (.var 19) (.lit (.int 22)))) .nil) (.seq (.iff (.cmp .eq (.var 16) (.lit (.str [115, 116, 114, 105, 99, 116]))) (.seq .any .nil) (.seq (.ret (.tup (.cons (.var 15) (.cons (.lit .none) .nil)))) .nil)) .nil)) .nil)) (.seq (.asg 4 (.call .T (.cons (.var 0) (.cons (.var 1) .nil)))) (.seq (.aug 5 .add (.bin .mul (.var 18) (.var 17))) (.seq (.iff (.cmp .lt (.var 18) (.var 4)) (.seq (.ret (.tup (.cons (.var 15) (.cons (.var 5) .nil)))) .nil) .nil) (.seq (.asg 17 (.bin .mul (.var 17) (.bin .sub (.lit (.int 36)) (.var 4)))) (.seq (.aug 0 .add (.lit (.int 1))) .nil)))))))
noncomputable def strSx : List Nat := [115, 116, 114, 105, 99, 116]
structure DecSt (env : Vars) (ext : List Nat) (p : Nat) (b r w j : Int) : Prop where
  h14 : env 14 = some (.bytes ext)
  h15 : env 15 = some (.int p)
  h1 : env 1 = some (.int b)
  h5 : env 5 = some (.int r)
  h17 : env 17 = some (.int w)
  h0 : env 0 = some (.int j)
/-- the digit of a sign -/
noncomputable def digOf (c x : Nat) : Prop := (x < 26 ∧ c = 65 + x) ∨ (26 ≤ x ∧ x < 36 ∧ c = 22 + x)
theorem up_oct {x : Nat} (h : x < 36) : digOf (upSign (oct x)) x := by
  unfold digOf upSign oct
  by_cases h1 : x < 26
  · left; rw [if_pos h1, if_pos (by (first | lia | omega))]; lia
  · right; rw [if_neg h1, if_neg (by (first | lia | omega))]; (first | lia | omega)
/-- one sign is read -/
theorem dec_step {env : Vars} {led : List PObj} {ext : List Nat} {p : Nat} {b r w j : Int} {c x : Nat} (n : Nat) (D : DecSt env ext p b r w j) (hl : ext.length ≤ 4096) (hc : ext[p]? = some c) (hx : digOf c x) (hw : -100000 < w) (hw' : w < 100000) {K : Fl → St → Prop}
    (k1 : ¬ (x : Int) < Tf j b → ∀ env', DecSt env' ext (p + 1) b (r + x * w) (w * (36 - Tf j b)) (j + 1) → K .next ⟨env', led⟩) (k2 : (x : Int) < Tf j b → ∀ env', K (.ret (.tup [.int (p + 1 : Nat), .int (r + x * w)])) ⟨env', led⟩) :
    wS (orac (n + 1)) 400 dec1B ⟨env, led⟩ K := by
  obtain ⟨h14, h15, h1, h5, h17, h0⟩ := D
  have hx36 : x < 36 := by rcases hx with q | q <;> (first | lia | omega)
  refine oW_eq h14 (oW_eq h15 (op_is (idx_bytes hl hc) (oW_eq h15 ?_)))
  have rest : ∀ env' : Vars, env' 14 = some (.bytes ext) → env' 15 = some (.int (p + 1 : Nat)) → env' 1 = some (.int b) → env' 5 = some (.int r) → env' 17 = some (.int w) → env' 0 = some (.int j) → env' 18 = some (.int x) →
      wS (orac (n + 1)) 400 (.seq (.asg 4 (.call .T (.cons (.var 0) (.cons (.var 1) .nil)))) (.seq (.aug 5 .add (.bin .mul (.var 18) (.var 17))) (.seq (.iff (.cmp .lt (.var 18) (.var 4)) (.seq (.ret (.tup (.cons (.var 15) (.cons (.var 5) .nil)))) .nil) .nil) (.seq (.asg 17 (.bin .mul (.var 17) (.bin .sub (.lit (.int 36)) (.var 4)))) (.seq (.aug 0 .add (.lit (.int 1))) .nil))))) ⟨env', led⟩ K := by
    intro env' g14 g15 g1 g5 g17 g0 g18
    refine oW_eq g0 (oW_eq g1 (CallW.mk (or_T n rfl (oW_eq g5 (oW_eq g18 (oW_eq g17 (And.intro ⟨by unfold ibig; (first | lia | omega), by unfold ibig; (first | lia | omega)⟩ (val_is rfl (oW_eq g18 ?_)))))))))
    generalize ht : Tf j b = t at k1 k2 ⊢
    by_cases q : (x : Int) < t
    · exact b_t q (oW_eq g15 (k2 q _))
    · exact b_f q (oW_eq g17 (val_is rfl (And.intro ⟨by unfold ibig; (first | lia | omega), by unfold ibig; (first | lia | omega)⟩ (val_is rfl (oW_eq g0 (k1 q _ ⟨g14, g15, g1, rfl, rfl, rfl⟩))))))
  rcases hx with ⟨q1, q2⟩ | ⟨q1, q2, q3⟩
  · exact b_t (show (65 : Int) ≤ c by (first | lia | omega)) (b_t (show (c : Int) ≤ 90 by (first | lia | omega)) (val_is (b := x) (by (first | lia | omega)) (rest _ h14 rfl h1 h5 h17 h0 rfl)))
  · refine b_f (show ¬ (65 : Int) ≤ c by (first | lia | omega)) (bW_f rfl (b_t (show (48 : Int) ≤ c by (first | lia | omega)) (b_t (show (c : Int) ≤ 57 by (first | lia | omega)) (val_is (b := x) (by (first | lia | omega)) (rest _ h14 rfl h1 h5 h17 h0 rfl)))))
/-- a numeral's reading, sign by sign -/
inductive Reads (ext : List Nat) (b : Int) : Nat → Int → Int → Int → Nat → Nat → Int → Prop where
  | last {p : Nat} {r w j : Int} {c x n : Nat} (hc : ext[p]? = some c) (hx : digOf c x) (hw : -100000 < w) (hw' : w < 100000) (ht : (x : Int) < Tf j b) : Reads ext b p r w j (n + 1) (p + 1) (r + x * w)
  | more {p : Nat} {r w j : Int} {c x n q : Nat} {z : Int} (hc : ext[p]? = some c) (hx : digOf c x) (hw : -100000 < w) (hw' : w < 100000) (ht : ¬ (x : Int) < Tf j b) (h : Reads ext b (p + 1) (r + x * w) (w * (36 - Tf j b)) (j + 1) n q z) : Reads ext b p r w j (n + 1) q z
theorem reads_loop {ext : List Nat} {b : Int} (hl : ext.length ≤ 4096) (m : Nat) {led : List PObj} {K : Fl → St → Prop} {p : Nat} {r w j : Int} {n q : Nat} {z : Int} (h : Reads ext b p r w j n q z) (k : ∀ env', K (.ret (.tup [.int q, .int z])) ⟨env', led⟩) :
    ∀ {env : Vars}, DecSt env ext p b r w j → whileW (wT (orac (m + 1)) (.lit (.int 1))) (wS (orac (m + 1)) 400 dec1B) n ⟨env, led⟩ K := by
  induction h with
  | last hc hx hw hw' ht => exact fun D => bW_t rfl (dec_step m D hl hc hx hw hw' (fun q => absurd ht q) fun _ env' => k env')
  | more hc hx hw hw' ht h ih => exact fun D => bW_t rfl (dec_step m D hl hc hx hw hw' (fun _ env' D' => ih k D') fun q => absurd q ht)
theorem or_dec1 {ext : List Nat} {b : Int} (hl : ext.length ≤ 4096) (m : Nat) {p q : Nat} {z : Int} (h : Reads ext b p 0 1 0 400 q z) {K : PV → Prop} (k : K (.tup [.int q, .int z])) : orac (m + 2) .dec1 [.bytes ext, .int p, .int b, .str strSx] K :=
  run (And.intro rfl (LoopW.mk (reads_loop hl m h (fun env' => k) ⟨rfl, rfl, rfl, rfl, rfl, rfl⟩)))
end Mine
namespace Mine
open _root_.PySem

theorem clip_nat {d n k : Nat} (h : k ≤ n) : clip d n (.int k) = some k := by
  show some (if (k : Int) < 0 then _ else min (Int.toNat k) n) = _
  rw [if_neg (by (first | lia | omega)), Int.toNat_natCast, Nat.min_eq_left h]
theorem slice_lo {led : List PObj} {s : List Nat} {k : Nat} (hs : s.length ≤ 4096) (hk : k ≤ s.length) : slicev led (.str s) .none (.int k) = some (.str (s.take k)) := by
  show (clip 0 s.length .none).bind (fun a => (clip s.length s.length (.int k)).bind fun b => if s.length ≤ big then some (PV.str (cut a b s)) else none) = _
  rw [clip_nat hk]
  exact if_pos hs
theorem slice_hi {led : List PObj} {s : List Nat} {k : Nat} (hs : s.length ≤ 4096) (hk : k ≤ s.length) : slicev led (.str s) (.int k) .none = some (.str (s.drop k)) := by
  show (clip 0 s.length (.int k)).bind (fun a => (clip s.length s.length .none).bind fun b => if s.length ≤ big then some (PV.str (cut a b s)) else none) = _
  rw [clip_nat hk]
  exact (if_pos hs).trans (by unfold cut; rw [List.take_length])
theorem sliceb_lo {led : List PObj} {s : List Nat} {k : Nat} (hs : s.length ≤ 4096) (hk : k ≤ s.length) : slicev led (.bytes s) .none (.int k) = some (.bytes (s.take k)) := by
  show (clip 0 s.length .none).bind (fun a => (clip s.length s.length (.int k)).bind fun b => if s.length ≤ big then some (PV.bytes (cut a b s)) else none) = _
  rw [clip_nat hk]
  exact if_pos hs
theorem sliceb_hi {led : List PObj} {s : List Nat} {k : Nat} (hs : s.length ≤ 4096) (hk : k ≤ s.length) : slicev led (.bytes s) (.int k) .none = some (.bytes (s.drop k)) := by
  show (clip 0 s.length (.int k)).bind (fun a => (clip s.length s.length .none).bind fun b => if s.length ≤ big then some (PV.bytes (cut a b s)) else none) = _
  rw [clip_nat hk]
  exact (if_pos hs).trans (by unfold cut; rw [List.take_length])
theorem len_str {led : List PObj} {s : List Nat} (hs : s.length ≤ 4096) : primEv led .len [.str s] = some (.int s.length) := if_pos hs
theorem len_byt {led : List PObj} {s : List Nat} (hs : s.length ≤ 4096) : primEv led .len [.bytes s] = some (.int s.length) := if_pos hs
theorem len_list {led : List PObj} {s : List PV} (hs : s.length ≤ 4096) : primEv led .len [.list s] = some (.int s.length) := if_pos hs
theorem p_chr {led : List PObj} {i : Int} : primEv led .chr [.int i] = if 0 ≤ i ∧ i < 50000 then some (.str [i.toNat]) else none := rfl
theorem chr_nat {led : List PObj} {i : Int} {c : Nat} (e : i = c) (h : c < 50000) : primEv led .chr [.int i] = some (.str [c]) := by
  rw [p_chr, if_pos ⟨by (first | lia | omega), by (first | lia | omega)⟩, e, Int.toNat_natCast]
theorem adds {s r : List Nat} (h : s.length + r.length ≤ 4096) : addV (.str s) (.str r) = some (.str (s ++ r)) := if_pos h
theorem addb {s r : List Nat} (h : s.length + r.length ≤ 4096) : addV (.bytes s) (.bytes r) = some (.bytes (s ++ r)) := if_pos h
theorem addl {s r : List PV} (h : s.length + r.length ≤ 4096) : addV (.list s) (.list r) = some (.list (s ++ r)) := if_pos h

noncomputable def laidL (base : List Nat) (w pl : Nat) : List Nat := base.take pl ++ [128 + w] ++ base.drop pl
theorem laidL_len {base : List Nat} {w pl : Nat} (h : pl ≤ base.length) : (laidL base w pl).length = base.length + 1 := by
  unfold laidL; simp; (first | lia | omega)

/-! insertion_sort -/
noncomputable def isortB : PS := .seq (.asgT 21 6 (.call .dec1 (.cons (.var 14) (.cons (.var 15) (.cons (.var 1) (.cons (.var 16) .nil)))))) (.seq (.iff (.cmp .is (.var 6) (.lit .none)) (.seq (.ret (.var 20)) .nil) .nil) (.seq (.aug 22 .add (.bin .add (.var 6) (.lit (.int 1)))) (.seq (.aug 19 .add (.bin .fdiv (.var 22) (.bin .add (.prim .len (.cons (.var 20) .nil)) (.lit (.int 1))))) (.seq (.iff (.cmp .gt (.var 19) (.lit (.int 1114111))) (.seq (.iff (.cmp .eq (.var 16) (.lit (.str [115, 116, 114, 105, 99, 116]))) (.seq .any .nil) .nil) (.seq (.asg 19 (.prim .ord (.cons (.lit (.str [63])) .nil))) .nil)) .nil) (.seq (.asg 22 (.bin .mod (.var 22) (.bin .add (.prim .len (.cons (.var 20) .nil)) (.lit (.int 1))))) (.seq (.asg 20 (.bin .add (.bin .add (.slice (.var 20) (.lit .none) (.var 22)) (.prim .chr (.cons (.var 19) .nil))) (.slice (.var 20) (.var 22) (.lit .none)))) (.seq (.asg 1 (.call .adapt (.cons (.var 6) (.cons (.cmp .eq (.var 15) (.lit (.int 0))) (.cons (.prim .len (.cons (.var 20) .nil)) .nil))))) (.seq (.asg 15 (.var 21)) .nil))))))))
structure IsoSt (env : Vars) (ext base : List Nat) (c ps b : Int) (p : Nat) : Prop where
  h14 : env 14 = some (.bytes ext)
  h16 : env 16 = some (.str strSx)
  h20 : env 20 = some (.str base)
  h19 : env 19 = some (.int c)
  h22 : env 22 = some (.int ps)
  h1 : env 1 = some (.int b)
  h15 : env 15 = some (.int p)
theorem iso_step {env : Vars} {ext base : List Nat} {c ps b : Int} {p q : Nat} {δ : Int} {w r : Nat} (m : Nat) (I : IsoSt env ext base c ps b p) (hl : ext.length ≤ 4096) (hb : base.length ≤ 1000)
    (hd : ∀ {K : PV → Prop}, K (.tup [.int q, .int δ]) → orac m .dec1 [.bytes ext, .int p, .int b, .str strSx] K) (hw : c + Int.fdiv (ps + (δ + 1)) (base.length + 1) = (128 + w : Nat)) (hw' : w < 1000) (hr : Int.fmod (ps + (δ + 1)) (base.length + 1) = r) (hr' : r ≤ base.length)
    {K : Fl → St → Prop} (B : Int → Prop) (ha : ∀ {K : PV → Prop}, (∀ b', B b' → K (.int b')) → orac m .adapt [.int δ, .bool (decide ((p : Int) = 0)), .int (base.length + 1 : Nat)] K) (k : ∀ env' b', B b' → IsoSt env' ext (laidL base w r) (128 + w : Nat) r b' q → K .next ⟨env', []⟩) :
    wS (orac m) 400 isortB ⟨env, []⟩ K := by
  obtain ⟨h14, h16, h20, h19, h22, h1, h15⟩ := I
  have g1 : base.length ≤ 4096 := by (first | lia | omega)
  have hL := laidL_len (w := w) hr'
  have l1 : (base.take r).length + 1 ≤ 4096 := by rw [List.length_take]; lia
  have l2 : (base.take r ++ [128 + w]).length + (base.drop r).length ≤ 4096 := by rw [List.length_append, List.length_take, List.length_drop, List.length_singleton]; (first | lia | omega)
  refine oW_eq h14 (oW_eq h15 (oW_eq h1 (oW_eq h16 (CallW.mk (hd (bW_f rfl (oW_eq h22 (oW_eq h19 (oW_eq h20 (op_is (len_str g1) (And.intro ⟨by (first | lia | omega), by (first | lia | omega)⟩ (val_is rfl ?_)))))))))))) 
  refine b_f (show ¬ (1114111 : Int) < c + Int.fdiv (ps + (δ + 1)) (base.length + 1) by rw [hw]; (first | lia | omega)) (oW_eq h20 (op_is (len_str g1) (And.intro (by (first | lia | omega)) (val_is hr ?_))))
  refine oW_eq h20 (op_is (slice_lo g1 hr') (op_is (chr_nat hw (by (first | lia | omega))) (oW_eq (adds l1) (oW_eq h20 (op_is (slice_hi g1 hr') (oW_eq (adds l2) ?_))))))
  refine oW_eq h15 (op_is (len_str (s := laidL base w r) (by (first | lia | omega))) ?_)
  rw [hL]
  exact CallW.mk (ha fun b' hb' => k _ b' hb' ⟨h14, h16, rfl, congrArg (fun i => some (PV.int i)) hw, rfl, rfl, rfl⟩)
end Mine
namespace Mine
open _root_.PySem

theorem Tf72_0 : Tf 0 72 = 1 := by decide
theorem Tf72_1 : Tf 1 72 = 1 := by decide
theorem Tf72_2 : Tf 2 72 = 26 := by decide
theorem Tf0_0 : Tf 0 0 = 26 := by decide
theorem Tf0_1 : Tf 1 0 = 26 := by decide
noncomputable def up (l : List Nat) : List Nat := l.map upSign
theorem oct97 : (97 : Nat) = oct 0 := rfl
theorem reads1 {d : Nat} (hd : d < 170) (rest : List Nat) (n : Nat) : Reads (up (num1 d) ++ rest) 72 0 0 1 0 (n + 3) (num1 d).length d := by
  unfold num1
  by_cases h0 : d = 0
  · rw [if_pos h0]
    subst h0
    have := Reads.last (ext := up [97] ++ rest) (b := 72) (p := 0) (r := 0) (w := 1) (j := 0) (x := 0) (n := n + 2) rfl (up_oct (x := 0) (by (first | lia | omega))) (by (first | lia | omega)) (by (first | lia | omega)) (by rw [Tf72_0]; (first | lia | omega))
    simpa using this
  · rw [if_neg h0]
    by_cases hu : 0 < (d - 1) / 35
    · rw [if_pos hu]
      have q1 : d - 35 * ((d - 1) / 35) < 36 := by (first | lia | omega)
      have q2 : (d - 1) / 35 < 36 := by (first | lia | omega)
      have q3 : 1 ≤ d - 35 * ((d - 1) / 35) := by (first | lia | omega)
      refine Reads.more (x := d - 35 * ((d - 1) / 35)) rfl (up_oct q1) (by (first | lia | omega)) (by (first | lia | omega)) (by rw [Tf72_0]; (first | lia | omega)) ?_
      rw [Tf72_0]
      refine Reads.more (x := (d - 1) / 35) rfl (up_oct q2) (by (first | lia | omega)) (by (first | lia | omega)) (by rw [show (0 : Int) + 1 = 1 from rfl, Tf72_1]; (first | lia | omega)) ?_
      rw [show (0 : Int) + 1 = 1 from rfl, Tf72_1]
      have := Reads.last (ext := up (oct (d - 35 * ((d - 1) / 35)) :: ([oct ((d - 1) / 35)] ++ [97])) ++ rest) (b := 72) (p := 2) (r := 0 + ((d - 35 * ((d - 1) / 35) : Nat) : Int) * 1 + (((d - 1) / 35 : Nat) : Int) * (1 * (36 - 1))) (w := 1 * (36 - 1) * (36 - 1)) (j := 2) (x := 0) (n := n) rfl (up_oct (x := 0) (by (first | lia | omega))) (by (first | lia | omega)) (by (first | lia | omega)) (by rw [Tf72_2]; (first | lia | omega))
      have e : 0 + ((d - 35 * ((d - 1) / 35) : Nat) : Int) * 1 + (((d - 1) / 35 : Nat) : Int) * (1 * (36 - 1)) + ((0 : Nat) : Int) * (1 * (36 - 1) * (36 - 1)) = d := by (first | lia | omega)
      rw [e] at this
      exact this
    · rw [if_neg hu]
      have q0 : (d - 1) / 35 = 0 := by lia
      rw [q0]
      have q1 : d - 35 * 0 < 36 := by (first | lia | omega)
      refine Reads.more (x := d - 35 * 0) rfl (up_oct q1) (by (first | lia | omega)) (by (first | lia | omega)) (by rw [Tf72_0]; lia) ?_
      rw [Tf72_0]
      have := Reads.last (ext := up (oct (d - 35 * 0) :: ([] ++ [97])) ++ rest) (b := 72) (p := 1) (r := 0 + ((d - 35 * 0 : Nat) : Int) * 1) (w := 1 * (36 - 1)) (j := 1) (x := 0) (n := n + 1) rfl (up_oct (x := 0) (by (first | lia | omega))) (by (first | lia | omega)) (by (first | lia | omega)) (by rw [Tf72_1]; (first | lia | omega))
      have e : 0 + ((d - 35 * 0 : Nat) : Int) * 1 + ((0 : Nat) : Int) * (1 * (36 - 1)) = d := by lia
      rw [e] at this
      exact this
theorem get_app {α : Type} {l m : List α} {k : Nat} : (l ++ m)[l.length + k]? = m[k]? := by
  rw [List.getElem?_append_right (by lia)]; congr 1; (first | lia | omega)
theorem reads2 {e : Nat} (he : e < 240) (pre : List Nat) (n : Nat) : Reads (pre ++ up (num2 e)) 0 pre.length 0 1 0 (n + 2) (pre.length + (num2 e).length) e := by
  unfold num2
  by_cases h0 : e < 26
  · rw [if_pos h0]
    have := Reads.last (ext := pre ++ up [oct e]) (b := 0) (p := pre.length) (r := 0) (w := 1) (j := 0) (x := e) (n := n + 1) (by simpa [up] using get_app (l := pre) (m := up [oct e]) (k := 0)) (up_oct (by (first | lia | omega))) (by (first | lia | omega)) (by (first | lia | omega)) (by rw [Tf0_0]; (first | lia | omega))
    have q : (0 : Int) + (e : Int) * 1 = e := by lia
    rw [q] at this
    exact this
  · rw [if_neg h0]
    have q1 : e - 10 * ((e - 26) / 10) < 36 := by (first | lia | omega)
    have q2 : (e - 26) / 10 < 26 := by (first | lia | omega)
    have q3 : 26 ≤ e - 10 * ((e - 26) / 10) := by (first | lia | omega)
    refine Reads.more (x := e - 10 * ((e - 26) / 10)) (by simpa [up] using get_app (l := pre) (m := up [oct (e - 10 * ((e - 26) / 10)), oct ((e - 26) / 10)]) (k := 0)) (up_oct q1) (by (first | lia | omega)) (by (first | lia | omega)) (by rw [Tf0_0]; (first | lia | omega)) ?_
    rw [Tf0_0]
    have := Reads.last (ext := pre ++ up [oct (e - 10 * ((e - 26) / 10)), oct ((e - 26) / 10)]) (b := 0) (p := pre.length + 1) (r := 0 + ((e - 10 * ((e - 26) / 10) : Nat) : Int) * 1) (w := 1 * (36 - 26)) (j := 1) (x := (e - 26) / 10) (n := n) (get_app (l := pre) (m := up [oct (e - 10 * ((e - 26) / 10)), oct ((e - 26) / 10)]) (k := 1)) (up_oct (by (first | lia | omega))) (by (first | lia | omega)) (by (first | lia | omega)) (by rw [Tf0_1]; (first | lia | omega))
    have q : 0 + ((e - 10 * ((e - 26) / 10) : Nat) : Int) * 1 + (((e - 26) / 10 : Nat) : Int) * (1 * (36 - 26)) = e := by (first | lia | omega)
    rw [q] at this
    exact this
theorem up_len (l : List Nat) : (up l).length = l.length := by unfold up; simp
theorem num1_pos (d : Nat) : 0 < (num1 d).length := by
  unfold num1; split <;> simp
theorem num2_pos (d : Nat) : 0 < (num2 d).length := by
  unfold num2; split <;> simp
theorem fdiv_is {a b : Int} {m n : Nat} (ea : a = m) (eb : b = n) : Int.fdiv a b = (m / n : Nat) := by rw [ea, eb]; exact fdivn m n
theorem fmod_is {a b : Int} {m n : Nat} (ea : a = m) (eb : b = n) : Int.fmod a b = (m % n : Nat) := by rw [ea, eb]; exact fmodn m n
theorem or_isort1 {base : List Nat} {d : Nat} (hd : d < 170) (hb : base.length ≤ 100) {K : PV → Prop} (k : K (.str (laidL base (d / (base.length + 1)) (d % (base.length + 1))))) : orac 4 .isort [.str base, .bytes (up (num1 d)), .str strSx] K := by
  have hn := num1_len d
  have hul := up_len (num1 d)
  have hm : d % (base.length + 1) < base.length + 1 := Nat.mod_lt _ (Nat.succ_pos _)
  have hw : d / (base.length + 1) ≤ d := Nat.div_le_self _ _
  have ez : (-1 : Int) + (d + 1) = d := by lia
  have hl : (up (num1 d)).length ≤ 4096 := by (first | lia | omega)
  have e1 := fdiv_is (b := (base.length : Int) + 1) (n := base.length + 1) ez rfl
  refine run (And.intro rfl (LoopW.mk (op_is (len_byt hl) (b_t (show (0 : Int) < (up (num1 d)).length by have := num1_pos d; (first | lia | omega)) (iso_step 3 (c := 128) (ps := -1) (b := 72) (p := 0) (q := (num1 d).length) (δ := d) (w := d / (base.length + 1)) (r := d % (base.length + 1)) ⟨rfl, rfl, rfl, rfl, rfl, rfl, rfl⟩ hl (by (first | lia | omega))
    (fun k => or_dec1 hl 1 (by simpa using reads1 hd [] 397) k) (by rw [e1]; (first | lia | omega)) (by (first | lia | omega)) (fmod_is ez rfl) (by (first | lia | omega)) (fun _ => True) (fun k => or_adapt 2 d _ (by (first | lia | omega)) (by (first | lia | omega)) (by (first | lia | omega)) (k _ trivial)) fun env' b' _ I => ?_)))))
  refine oW_eq I.h15 (oW_eq I.h14 (op_is (len_byt hl) (b_f (show ¬ ((num1 d).length : Int) < (up (num1 d)).length by (first | lia | omega)) (oW_eq I.h20 k))))
theorem or_isort2 {base : List Nat} {d e : Nat} (hd : d < 170) (he : e < 240) (hb : base.length ≤ 100) {w r : Nat} (hw : d / (base.length + 1) + (d % (base.length + 1) + e + 1) / (base.length + 2) = w) (hr : (d % (base.length + 1) + e + 1) % (base.length + 2) = r) {K : PV → Prop}
    (k : K (.str (laidL (laidL base (d / (base.length + 1)) (d % (base.length + 1))) w r))) : orac 4 .isort [.str base, .bytes (up (num1 d ++ num2 e)), .str strSx] K := by
  have hn := num1_len d
  have hn2 := num2_len e
  have hup : up (num1 d ++ num2 e) = up (num1 d) ++ up (num2 e) := List.map_append
  have hul : (up (num1 d) ++ up (num2 e)).length = (num1 d).length + (num2 e).length := by rw [List.length_append, up_len, up_len]
  rw [hup]
  have hl : (up (num1 d) ++ up (num2 e)).length ≤ 4096 := by (first | lia | omega)
  have hm : d % (base.length + 1) < base.length + 1 := Nat.mod_lt _ (Nat.succ_pos _)
  have hwd : d / (base.length + 1) ≤ d := Nat.div_le_self _ _
  have ez : (-1 : Int) + (d + 1) = d := by lia
  have e1 := fdiv_is (b := (base.length : Int) + 1) (n := base.length + 1) ez rfl
  have hL := laidL_len (base := base) (w := d / (base.length + 1)) (pl := d % (base.length + 1)) (by (first | lia | omega))
  have r2 := reads2 he (up (num1 d)) 398
  rw [up_len] at r2
  refine run (And.intro rfl (LoopW.mk (op_is (len_byt hl) (b_t (show (0 : Int) < (up (num1 d) ++ up (num2 e)).length by have := num1_pos d; (first | lia | omega)) (iso_step 3 (c := 128) (ps := -1) (b := 72) (p := 0) (q := (num1 d).length) (δ := d) (w := d / (base.length + 1)) (r := d % (base.length + 1)) ⟨rfl, rfl, rfl, rfl, rfl, rfl, rfl⟩ hl (by (first | lia | omega))
    (fun k => or_dec1 hl 1 (reads1 hd _ 397) k) (by rw [e1]; (first | lia | omega)) (by lia) (fmod_is ez rfl) (by (first | lia | omega)) (fun b => b = 0) (fun k => or_adapt 2 d _ (by (first | lia | omega)) (by lia) (by (first | lia | omega)) (k _ rfl)) fun env' b' hb0 I => ?_)))))
  subst hb0
  have hm2 : r < base.length + 2 := by rw [← hr]; exact Nat.mod_lt _ (Nat.succ_pos _)
  have hw2 : (d % (base.length + 1) + e + 1) / (base.length + 2) ≤ d % (base.length + 1) + e + 1 := Nat.div_le_self _ _
  have f1 := fdiv_is (a := (d % (base.length + 1) : Nat) + ((e : Int) + 1)) (m := d % (base.length + 1) + e + 1) (b := ((laidL base (d / (base.length + 1)) (d % (base.length + 1))).length : Int) + 1) (n := base.length + 2) (by (first | lia | omega)) (by (first | lia | omega))
  have f2 := fmod_is (a := (d % (base.length + 1) : Nat) + ((e : Int) + 1)) (m := d % (base.length + 1) + e + 1) (b := ((laidL base (d / (base.length + 1)) (d % (base.length + 1))).length : Int) + 1) (n := base.length + 2) (by (first | lia | omega)) (by (first | lia | omega))
  refine oW_eq I.h15 (oW_eq I.h14 (op_is (len_byt hl) (b_t (show ((num1 d).length : Int) < (up (num1 d) ++ up (num2 e)).length by have := num2_pos e; (first | lia | omega)) (iso_step 3 (q := (num1 d).length + (num2 e).length) (δ := e) (w := w) (r := r) I hl (by (first | lia | omega))
    (fun k => or_dec1 hl 1 r2 k) (by rw [f1]; (first | lia | omega)) (by lia) (f2.trans (by rw [hr])) (by lia) (fun _ => True) (fun k => ?_) fun env₂ b₂ _ I₂ => ?_))))
  · rw [hL, decide_eq_false (show ¬ ((num1 d).length : Int) = 0 by have := num1_pos d; lia)]
    exact or_adapt2 2 e _ (by (first | lia | omega)) (by lia) (by (first | lia | omega)) fun i => k i trivial
  · exact oW_eq I₂.h15 (oW_eq I₂.h14 (op_is (len_byt hl) (b_f (show ¬ (((num1 d).length + (num2 e).length : Nat) : Int) < (up (num1 d) ++ up (num2 e)).length by (first | lia | omega)) (oW_eq I₂.h20 k))))
end Mine
namespace Mine
open _root_.PySem

theorem lastIdx_not {c : Nat} : ∀ {l : List Nat} {i : Nat} {r : Int}, c ∉ l → lastIdx c l i r = r
  | [], _, _, _ => rfl
  | x :: l, i, r, h => by
    have h1 : x ≠ c := fun e => h (by simp [e])
    rw [lastIdx, if_neg h1]
    exact lastIdx_not (fun q => h (List.mem_cons_of_mem _ q))
theorem lastIdx_app {c : Nat} {m : List Nat} (hm : c ∉ m) : ∀ {l : List Nat} {i : Nat} {r : Int}, lastIdx c (l ++ c :: m) i r = (i + l.length : Nat)
  | [], i, r => by
    rw [List.nil_append, lastIdx, if_pos rfl, lastIdx_not hm]; simp
  | x :: l, i, r => by
    rw [List.cons_append, lastIdx, lastIdx_app hm, List.length_cons]; lia
noncomputable def hdL (base : List Nat) : List Nat := if base = [] then [] else base ++ [45]
theorem all_lt {l : List Nat} (h : ∀ c ∈ l, c < 128) : l.all (fun x => decide (x < 128)) = true := by
  rw [List.all_eq_true]; intro x hx; exact decide_eq_true (h x hx)
theorem p_rfind {led : List PObj} {b : List Nat} {c : Nat} (h : b.length ≤ 4096) : primEv led .rfind [.bytes b, .bytes [c]] = some (.int (lastIdx c b 0 (-1))) := if_pos h
theorem p_upper {led : List PObj} {b : List Nat} (h : b.length ≤ 4096) : primEv led .upper [.bytes b] = some (.bytes (up b)) := if_pos h
theorem p_ascii {led : List PObj} {b : List Nat} (h : b.length ≤ 4096) (hc : ∀ c ∈ b, c < 128) : primEv led .strAscii [.bytes b, .str [97, 115, 99, 105, 105], .str strSx] = some (.str b) := if_pos ⟨all_lt hc, h, rfl, rfl⟩
theorem or_pdec {base num z : List Nat} (hb : base.length ≤ 100) (hc : ∀ c ∈ base, c < 128) (hn : 45 ∉ num) (hl : num.length ≤ 10) (hz : ∀ {K : PV → Prop}, K (.str z) → orac 4 .isort [.str base, .bytes (up num), .str strSx] K) {K : PV → Prop} (k : K (.str z)) : orac 5 .pdec [.bytes (hdL base ++ num), .str strSx] K := by
  unfold hdL
  refine run (And.intro rfl (op_is (z := .bool false) rfl (bW_f rfl (op_is (z := .bool false) rfl (bW_f rfl ?_)))))
  by_cases h0 : base = []
  · rw [if_pos h0]
    subst h0
    have hle : num.length ≤ 4096 := by (first | lia | omega)
    exact op_is (p_rfind hle) (b_t (lastIdx_not hn) (op_is (p_upper hle) (CallW.mk (hz k))))
  · rw [if_neg h0]
    have e0 : base ++ [45] ++ num = base ++ 45 :: num := by rw [List.append_assoc]; rfl
    have e1 : lastIdx 45 (base ++ 45 :: num) 0 (-1) = (base.length : Int) := by rw [lastIdx_app hn, Nat.zero_add]
    have hle : (base ++ 45 :: num).length ≤ 4096 := by rw [List.length_append, List.length_cons]; lia
    have s1 := sliceb_lo (led := []) (s := base ++ 45 :: num) (k := base.length) hle (by rw [List.length_append]; lia)
    have s2 := sliceb_hi (led := []) (s := base ++ 45 :: num) (k := base.length + 1) hle (by rw [List.length_append, List.length_cons]; lia)
    rw [List.take_left] at s1
    rw [show (base ++ 45 :: num).drop (base.length + 1) = num by rw [List.drop_append]; simp] at s2
    rw [e0]
    refine op_is (z := .int base.length) ((p_rfind hle).trans (by rw [e1])) (b_f (show ¬ (base.length : Int) = -1 by (first | lia | omega)) ?_)
    exact op_is s1 (op_is (p_ascii (by (first | lia | omega)) hc) (op_is s2 (op_is (p_upper (by (first | lia | omega))) (CallW.mk (hz k)))))
theorem or_laid {base : List Nat} {w pl : Nat} (hb : base.length ≤ 1000) (hw : w < 1000) (hp : pl ≤ base.length) {K : PV → Prop} (k : K (.str (laidL base w pl))) : orac 5 .laid [.str base, .int w, .int pl] K := by
  have g1 : base.length ≤ 4096 := by (first | lia | omega)
  have l1 : (base.take pl).length + 1 ≤ 4096 := by rw [List.length_take]; (first | lia | omega)
  have l2 : (base.take pl ++ [128 + w]).length + (base.drop pl).length ≤ 4096 := by rw [List.length_append, List.length_take, List.length_drop, List.length_singleton]; (first | lia | omega)
  exact run (And.intro rfl (op_is (slice_lo g1 hp) (op_is (chr_nat (c := 128 + w) rfl (by (first | lia | omega))) (oW_eq (adds l1) (op_is (slice_hi g1 hp) (oW_eq (adds l2) k))))))
/-! members -/
noncomputable def mem1 (x : Nat) : List (Nat × Nat × Bool) := if x % 3 = 1 then [(x / 3 % 4, x / 3 % 4, false)] else if x % 3 = 2 then [(x / 3 % 4, x / 12 % 4, true)] else []
noncomputable def mPV (m : Nat × Nat × Bool) : PV := .tup [.int m.1, .int m.2.1, .bool m.2.2]
noncomputable def memL (ds : List Nat) : List (Nat × Nat × Bool) := if ds.flatMap mem1 = [] then [(2, 1, true)] else (ds.flatMap mem1).take 3
noncomputable def memB : PS := .seq (.iff (.cmp .eq (.bin .mod (.var 38) (.lit (.int 3))) (.lit (.int 1))) (.seq (.app 37 (.tup (.cons (.bin .mod (.bin .fdiv (.var 38) (.lit (.int 3))) (.lit (.int 4))) (.cons (.bin .mod (.bin .fdiv (.var 38) (.lit (.int 3))) (.lit (.int 4))) (.cons (.lit (.bool false)) .nil))))) .nil) (.seq (.iff (.cmp .eq (.bin .mod (.var 38) (.lit (.int 3))) (.lit (.int 2))) (.seq (.app 37 (.tup (.cons (.bin .mod (.bin .fdiv (.var 38) (.lit (.int 3))) (.lit (.int 4))) (.cons (.bin .mod (.bin .fdiv (.var 38) (.lit (.int 12))) (.lit (.int 4))) (.cons (.lit (.bool true)) .nil))))) .nil) .nil) .nil)) .nil
theorem mem1_len (x : Nat) : (mem1 x).length ≤ 1 := by
  unfold mem1; split
  · exact lb rfl
  · split <;> exact lb rfl
theorem mem_step {C : Orac} {x : Nat} {env : Vars} {ms : List (Nat × Nat × Bool)} {K : Fl → St → Prop} (h : env 37 = some (.ref 0)) (hl : ms.length ≤ 100) (k : K .next ⟨setV env 38 (.int x), [.list ((ms ++ mem1 x).map mPV)]⟩) : wS C 400 memB ⟨setV env 38 (.int x), [.list (ms.map mPV)]⟩ K := by
  have hlen : (ms.map mPV).length ≤ 4096 := by rw [List.length_map]; (first | lia | omega)
  refine And.intro (by decide) (mod_is (m := x) (n := 3) rfl ?_)
  unfold mem1 at k
  by_cases c1 : x % 3 = 1
  · rw [if_pos c1, List.map_append] at k
    exact b_t (show ((x % 3 : Nat) : Int) = 1 by (first | lia | omega)) (oW_eq h (And.intro ⟨by decide, by decide⟩ (div_is (m := x) (n := 3) rfl (And.intro (by decide) (mod_is (m := x / 3) (n := 4) rfl (And.intro ⟨by decide, by decide⟩ (div_is (m := x) (n := 3) rfl (And.intro (by decide) (mod_is (m := x / 3) (n := 4) rfl (And.intro hlen k)))))))))) 
  · rw [if_neg c1] at k
    refine b_f (show ¬ ((x % 3 : Nat) : Int) = 1 by (first | lia | omega)) (And.intro (by decide) (mod_is (m := x) (n := 3) rfl ?_))
    by_cases c2 : x % 3 = 2
    · rw [if_pos c2, List.map_append] at k
      exact b_t (show ((x % 3 : Nat) : Int) = 2 by (first | lia | omega)) (oW_eq h (And.intro ⟨by decide, by decide⟩ (div_is (m := x) (n := 3) rfl (And.intro (by decide) (mod_is (m := x / 3) (n := 4) rfl (And.intro ⟨by decide, by decide⟩ (div_is (m := x) (n := 12) rfl (And.intro (by decide) (mod_is (m := x / 12) (n := 4) rfl (And.intro hlen k)))))))))) 
    · rw [if_neg c2, List.append_nil] at k
      exact b_f (show ¬ ((x % 3 : Nat) : Int) = 2 by (first | lia | omega)) k
theorem members_loop (C : Orac) {K : Fl → St → Prop} : ∀ (ds : List Nat) (env : Vars) (ms : List (Nat × Nat × Bool)), env 37 = some (.ref 0) → ms.length + ds.length ≤ 100 → (∀ env', env' 37 = some (.ref 0) → K .next ⟨env', [.list ((ms ++ ds.flatMap mem1).map mPV)]⟩) →
    forW (put1 38) (wS C 400 memB) (ds.map fun (x : Nat) => .int x) ⟨env, [.list (ms.map mPV)]⟩ K
  | [], env, ms, h, _, k => by
    have := k env h
    rw [List.flatMap_nil, List.append_nil] at this
    exact this
  | x :: ds, env, ms, h, hl, k => by
    rw [List.length_cons] at hl
    refine mem_step h (by (first | lia | omega)) (And.intro rfl (members_loop C ds _ (ms ++ mem1 x) h (by have := mem1_len x; rw [List.length_append]; (first | lia | omega)) fun env' h' => ?_))
    rw [List.append_assoc]
    exact k env' h'
end Mine
namespace Mine
open _root_.PySem

theorem ne_nil_list {led : List PObj} {xs : List PV} (o : PV) (ho : listOf led o = some xs) (hn : ∀ i, o ≠ .int i) (hn2 : ∀ i, o ≠ .bool i) (hn3 : ∀ i, o ≠ .str i) (hn4 : ∀ i, o ≠ .bytes i) : cmpv led .ne o (.list []) = some (!xs.isEmpty) := by
  have e : cmpEq led o (.list []) = some xs.isEmpty := by
    have : cmpEq led o (.list []) = (listOf led o).bind fun xs => (listOf led (.list [])).bind fun ys =>
      if xs.length = ys.length then (if oneKind xs ys then some ((xs.zip ys).all fun p => pvEq p.1 p.2) else none) else some false := by
      cases o <;> first | rfl | (exfalso; first | exact hn _ rfl | exact hn2 _ rfl | exact hn3 _ rfl | exact hn4 _ rfl)
    rw [this, ho]
    cases xs with
    | nil => rfl
    | cons a r => rfl
  show (cmpEq led o (.list [])).map _ = _
  rw [e]; rfl
theorem flat_len {α : Type} {f : α → List Nat} {n : Nat} (h : ∀ x, (f x).length ≤ n) : ∀ l : List α, (l.flatMap f).length ≤ n * l.length
  | [] => lb rfl
  | x :: l => by
    have h1 := h x
    have h2 := flat_len h l
    rw [List.flatMap_cons, List.length_append, List.length_cons, Nat.mul_succ]; (first | lia | omega)
theorem mems_len : ∀ l : List Nat, (l.flatMap mem1).length ≤ l.length
  | [] => lb rfl
  | x :: l => by
    have h1 := mem1_len x
    have h2 := mems_len l
    rw [List.flatMap_cons, List.length_append, List.length_cons]; (first | lia | omega)
theorem or_members {ds : List Nat} (hl : ds.length ≤ 50) {K : PV → Prop} (k : K (.list ((memL ds).map mPV))) : orac 5 .members [.list (ds.map fun (x : Nat) => .int x)] K := by
  have hlen : (ds.map fun (x : Nat) => PV.int x).length ≤ 4096 := by rw [List.length_map]; (first | lia | omega)
  have hll := Nat.le_trans (mems_len ds) hl
  refine run (And.intro rfl (And.intro hlen (LoopW.mk (members_loop (orac 4) ds _ [] rfl (by rw [List.length_nil]; (first | lia | omega)) fun env' h37 => ?_))))
  rw [List.nil_append]
  have n1 := ne_nil_list (led := [.list ((ds.flatMap mem1).map mPV)]) (xs := (ds.flatMap mem1).map mPV) (.ref 0) rfl (fun _ => nofun) (fun _ => nofun) (fun _ => nofun) (fun _ => nofun)
  unfold memL at k
  by_cases h0 : ds.flatMap mem1 = []
  · rw [if_pos h0] at k
    rw [h0]
    exact oW_eq h37 (bW_f rfl k)
  · rw [if_neg h0] at k
    have n2 : ((ds.flatMap mem1).map mPV).isEmpty = false := by
      cases h : ds.flatMap mem1 with
      | nil => exact absurd h h0
      | cons a r => rfl
    rw [n2] at n1
    have s1 : slicev [.list ((ds.flatMap mem1).map mPV)] (.ref 0) .none (.int 3) = some (.list (((ds.flatMap mem1).take 3).map mPV)) := by
      have e : slicev [.list ((ds.flatMap mem1).map mPV)] (.ref 0) .none (.int 3) = if ((ds.flatMap mem1).map mPV).length ≤ big then some (PV.list (cut 0 (min 3 ((ds.flatMap mem1).map mPV).length) ((ds.flatMap mem1).map mPV))) else none := rfl
      rw [e, if_pos (by rw [List.length_map]; unfold big; (first | lia | omega))]
      unfold cut
      rw [List.drop_zero, List.map_take]
      congr 2
      rw [List.take_eq_take_iff]; lia
    exact oW_eq h37 (oW_eq n1 (bW_t rfl (oW_eq h37 (op_is s1 k))))
set_option tactic.hygienic true in
theorem memL_ok {ds : List Nat} : (memL ds).length ≤ 3 ∧ 0 < (memL ds).length ∧ ∀ m ∈ memL ds, m.1 < 4 ∧ m.2.1 < 4 := by
  unfold memL
  split
  · simp
  · rename_i h
    refine ⟨by simp; (first | lia | omega), ?_, fun m hm => ?_⟩
    · rw [List.length_take]
      cases h' : ds.flatMap mem1 with
      | nil => exact absurd h' h
      | cons a r => simp; (first | lia | omega)
    · obtain ⟨x, _, hx⟩ := List.mem_flatMap.mp (List.mem_of_mem_take hm)
      unfold mem1 at hx
      split at hx
      · simp at hx; subst hx; constructor <;> simp <;> (first | lia | omega)
      · split at hx
        · simp at hx; subst hx; constructor <;> simp <;> (first | lia | omega)
        · simp at hx

/-! the bracket's text -/
noncomputable def mTxt (low : Nat) (m : Nat × Nat × Bool) : List Nat := (low + m.1) :: (if m.2.2 then [45, low + m.2.1] else [])
noncomputable def brB : PS := .seq (.asg 23 (.bin .add (.var 23) (.prim .chr (.cons (.bin .add (.var 41) (.var 7)) .nil)))) (.seq (.iff (.var 43) (.seq (.asg 23 (.bin .add (.bin .add (.var 23) (.lit (.str [45]))) (.prim .chr (.cons (.bin .add (.var 41) (.var 42)) .nil)))) .nil) .nil) .nil)
theorem mTxt_len (low : Nat) (m : Nat × Nat × Bool) : (mTxt low m).length ≤ 3 := by unfold mTxt; split <;> exact lb rfl
theorem bracket_loop (C : Orac) {low : Nat} (hlow : low < 1000) {K : Fl → St → Prop} : ∀ (ms : List (Nat × Nat × Bool)) (env : Vars) (tx : List Nat), (∀ m ∈ ms, m.1 < 4 ∧ m.2.1 < 4) → env 23 = some (.str tx) → env 41 = some (.int low) → tx.length + 3 * ms.length ≤ 100 →
    (∀ env', env' 23 = some (.str (tx ++ ms.flatMap (mTxt low))) → K .next ⟨env', []⟩) → forW (put3 7 42 43) (wS C 400 brB) (ms.map mPV) ⟨env, []⟩ K
  | [], env, tx, _, h, _, _, k => k env (by rw [List.flatMap_nil, List.append_nil]; exact h)
  | (f, l, w) :: ms, env, tx, hm, h, h41, hl, k => by
    rw [List.length_cons] at hl
    have hf := (hm (f, l, w) List.mem_cons_self).1
    have hll := (hm (f, l, w) List.mem_cons_self).2
    dsimp only at hf hll
    refine oW_eq h (oW_eq h41 (op_is (chr_nat (c := low + f) rfl (by (first | lia | omega))) (oW_eq (adds (by rw [List.length_singleton]; (first | lia | omega))) ?_)))
    cases w with
    | false =>
      refine bW_f rfl (And.intro rfl (bracket_loop C hlow ms _ (tx ++ [low + f]) (fun m h => hm m (List.mem_cons_of_mem _ h)) rfl h41 (by rw [List.length_append, List.length_singleton]; (first | lia | omega)) fun env' h' => k env' ?_))
      rw [h', List.append_assoc]; rfl
    | true =>
      refine bW_t rfl (oW_eq (adds (by rw [List.length_append, List.length_singleton, List.length_singleton]; (first | lia | omega))) (oW_eq h41 (op_is (chr_nat (c := low + l) rfl (by (first | lia | omega))) (oW_eq (adds (by rw [List.length_append, List.length_append, List.length_singleton, List.length_singleton, List.length_singleton]; (first | lia | omega))) ?_))))
      refine And.intro rfl (bracket_loop C hlow ms _ (tx ++ [low + f] ++ [45] ++ [low + l]) (fun m h => hm m (List.mem_cons_of_mem _ h)) rfl h41 (by rw [List.length_append, List.length_append, List.length_append, List.length_singleton, List.length_singleton, List.length_singleton]; (first | lia | omega)) fun env' h' => k env' ?_)
      rw [h', List.append_assoc, List.append_assoc, List.append_assoc]; rfl
noncomputable def brTxt (low : Nat) (barred : Bool) (ms : List (Nat × Nat × Bool)) : List Nat := (if barred then [91, 33] else [91]) ++ ms.flatMap (mTxt low) ++ [93]
theorem or_bracket {ms : List (Nat × Nat × Bool)} {barred : Bool} {low : Nat} (hlow : low < 1000) (hm : ∀ m ∈ ms, m.1 < 4 ∧ m.2.1 < 4) (hl : ms.length ≤ 3) {K : PV → Prop} (k : K (.str (brTxt low barred ms))) : orac 5 .bracket [.list (ms.map mPV), .bool barred, .int low] K := by
  have hlen : (ms.map mPV).length ≤ 4096 := by rw [List.length_map]; (first | lia | omega)
  have hfm := flat_len (mTxt_len low) ms
  unfold brTxt at k
  cases barred with
  | true => exact run (And.intro rfl (bW_t rfl (And.intro hlen (LoopW.mk (bracket_loop (orac 4) hlow ms _ [91, 33] hm rfl rfl (by simp only [List.length_cons, List.length_nil]; (first | lia | omega)) fun env' h => oW_eq h (oW_eq (adds (by rw [List.length_append]; simp only [List.length_cons, List.length_nil]; (first | lia | omega))) k))))))
  | false => exact run (And.intro rfl (bW_f rfl (And.intro hlen (LoopW.mk (bracket_loop (orac 4) hlow ms _ [91] hm rfl rfl (by simp only [List.length_cons, List.length_nil]; (first | lia | omega)) fun env' h => oW_eq h (oW_eq (adds (by rw [List.length_append]; simp only [List.length_cons, List.length_nil]; (first | lia | omega))) k))))))
end Mine
namespace Mine
open _root_.PySem

/-- a comprehension over a list of things -/
theorem comp_eq {α : Type} {c : PV → (Bool → Prop) → Prop} {e : PV → (PV → Prop) → Prop} {p : α → Bool} {g mk : α → PV} : ∀ {l : List α} {K : List PV → Prop}, (∀ a ∈ l, ∀ K, K (p a) → c (mk a) K) → (∀ a ∈ l, p a = true → ∀ K, K (g a) → e (mk a) K) → (∀ a ∈ l, frozen (g a) = true) → K ((l.filter p).map g) → compW c e (l.map mk) K
  | [], K, _, _, _, k => k
  | a :: l, K, h1, h2, h3, k => by
    have ih : ∀ {K}, K ((l.filter p).map g) → compW c e (l.map mk) K := fun k => comp_eq (fun a h => h1 a (List.mem_cons_of_mem _ h)) (fun a h => h2 a (List.mem_cons_of_mem _ h)) (fun a h => h3 a (List.mem_cons_of_mem _ h)) k
    refine h1 a List.mem_cons_self _ ?_
    cases hp : p a with
    | true =>
      rw [List.filter_cons_of_pos hp] at k
      exact bW_t rfl (h2 a List.mem_cons_self hp _ (gd_i (h3 a List.mem_cons_self) (ih k)))
    | false =>
      rw [List.filter_cons_of_neg (by rw [hp]; exact Bool.false_ne_true)] at k
      exact bW_f rfl (ih k)
theorem comp_map {α : Type} {c : PV → (Bool → Prop) → Prop} {e : PV → (PV → Prop) → Prop} {g mk : α → PV} {l : List α} {K : List PV → Prop} (h1 : ∀ v K, K true → c v K) (h2 : ∀ a ∈ l, ∀ K, K (g a) → e (mk a) K) (h3 : ∀ a ∈ l, frozen (g a) = true) (k : K (l.map g)) : compW c e (l.map mk) K :=
  comp_eq (p := fun _ => true) (fun a _ K k => h1 _ K k) (fun a h _ => h2 a h) h3 (by rw [List.filter_eq_self.mpr fun _ _ => rfl]; exact k)
noncomputable def dress (c : Nat) : List Nat := if c = 42 ∨ c = 63 ∨ c = 91 then [91, c, 93] else [c]
theorem texts_map {α : Type} (f : α → List Nat) : ∀ l : List α, texts (l.map fun c => .str (f c)) = some (l.map f)
  | [] => rfl
  | a :: l => by
    rw [List.map_cons, texts, texts_map f l]; rfl
theorem joinSNx : ∀ l : List (List Nat), joinS [] l = l.flatten
  | [] => rfl
  | [x] => by simp [joinS]
  | x :: y :: r => by rw [joinS, joinSNx (y :: r)]; simp; simp
theorem dress_len (s : List Nat) : (s.flatMap dress).length ≤ 3 * s.length := by
  induction s with
  | nil => simp
  | cons x l ih =>
    rw [List.flatMap_cons, List.length_append, List.length_cons]
    have : (dress x).length ≤ 3 := by unfold dress; split <;> simp
    lia
theorem iter_str {s : List Nat} (hc : ∀ c ∈ s, c < 128) : iterOf (.str s) = some (s.map fun c => .str [c]) := if_pos (all_lt hc)
theorem p_join {led : List PObj} {α : Type} {f : α → List Nat} {l : List α} (h : (l.flatMap f).length ≤ 4096) (h2 : l.length ≤ 4096) : primEv led .join [.str [], .list (l.map fun c => .str (f c))] = some (.str (l.flatMap f)) := by
  have e : primEv led .join [.str [], .list (l.map fun c => .str (f c))] = (texts (l.map fun c => .str (f c))).bind fun l => if (joinS [] l).length ≤ big ∧ l.length ≤ big then some (PV.str (joinS [] l)) else none := rfl
  rw [e, texts_map, Option.bind_some, joinSNx, ← List.flatMap_def, List.length_map]
  exact if_pos ⟨h, h2⟩
theorem or_dressed {s : List Nat} (hs : s.length ≤ 10) (hc : ∀ c ∈ s, c < 128) {K : PV → Prop} (k : K (.str (s.flatMap dress))) : orac 5 .dressed [.str s] K := by
  have hd := dress_len s
  refine run (And.intro rfl (oW_eq (iter_str hc) (And.intro (by rw [List.length_map]; unfold big; (first | lia | omega)) (comp_map (g := fun c => .str (dress c)) (fun _ _ k => k) (fun c _ K k => ?_) (fun _ _ => rfl) (op_is (p_join (f := dress) (by (first | lia | omega)) (by (first | lia | omega))) k)))))
  unfold dress at k
  by_cases q : c = 42 ∨ c = 63 ∨ c = 91
  · rw [if_pos q] at k
    exact bW_t (show [42, 63, 91].contains c = true by rcases q with q | q | q <;> subst q <;> rfl) k
  · rw [if_neg q] at k
    exact bW_f (show [42, 63, 91].contains c = false by simp; lia) k
noncomputable def insB (ms : List (Nat × Nat × Bool)) (barred : Bool) (w : Int) : Bool := (ms.any fun m => decide ((m.1 : Int) ≤ w) && decide (w ≤ (m.2.1 : Int))) != barred
theorem any_map {ms : List (Nat × Nat × Bool)} {p : (Nat × Nat × Bool) → Bool} : (!((ms.filter p).map mPV).isEmpty) = ms.any p := by
  rw [List.isEmpty_map]
  induction ms with
  | nil => rfl
  | cons a r ih =>
    rw [List.filter_cons, List.any_cons]
    cases p a with
    | true => rfl
    | false => exact ih
theorem or_inside {ms : List (Nat × Nat × Bool)} {barred : Bool} {w : Int} (hl : ms.length ≤ 3) {K : PV → Prop} (k : K (.bool (insB ms barred w))) : orac 5 .inside [.list (ms.map mPV), .bool barred, .int w] K := by
  have n1 : ∀ xs : List PV, cmpv [] .ne (.list xs) (.list []) = some (!xs.isEmpty) := fun xs => ne_nil_list (.list xs) rfl (fun _ => nofun) (fun _ => nofun) (fun _ => nofun) (fun _ => nofun)
  refine run (And.intro rfl (And.intro (by rw [List.length_map]; unfold big; (first | lia | omega)) (comp_eq (p := fun m => decide ((m.1 : Int) ≤ w) && decide (w ≤ (m.2.1 : Int))) (g := mPV) (fun m _ K k => ?_) (fun m _ _ K k => k) (fun _ _ => rfl) (oW_eq ((n1 _).trans (by rw [any_map])) k))))
  refine op_is (z := .int m.1) rfl ?_
  by_cases q : (m.1 : Int) ≤ w
  · rw [decide_eq_true q, Bool.true_and] at k
    exact b_t q (op_is (z := .int m.2.1) rfl k)
  · rw [decide_eq_false q, Bool.false_and] at k
    exact b_f q k
end Mine
namespace Mine
open _root_.PySem

/-! the pieces of _translate (printed by trgen.py) -/
noncomputable def trJc : PE := .and (.cmp .lt (.var 0) (.var 29)) (.cmp .ne (.idx (.var 25) (.var 0)) (.lit (.str [93])))
noncomputable def trJ : PS := .seq (.asg 0 (.bin .add (.var 0) (.lit (.int 1)))) .nil
noncomputable def trFind : PS := .seq (.asg 34 (.meth .find (.var 25) (.cons (.lit (.str [45])) (.cons (.var 34) (.cons (.var 0) .nil))))) (.seq (.iff (.cmp .lt (.var 34) (.lit (.int 0))) (.seq .brk .nil) .nil) (.seq (.app 33 (.slice (.var 25) (.var 28) (.var 34))) (.seq (.asg 28 (.bin .add (.var 34) (.lit (.int 1)))) (.seq (.asg 34 (.bin .add (.var 34) (.lit (.int 3)))) .nil))))
noncomputable def trMerge : PS := .seq (.iff (.cmp .gt (.idx (.idx (.var 33) (.bin .sub (.var 34) (.lit (.int 1)))) (.lit (.int (-1)))) (.idx (.idx (.var 33) (.var 34)) (.lit (.int 0)))) (.seq (.setI 33 (.bin .sub (.var 34) (.lit (.int 1))) (.bin .add (.slice (.idx (.var 33) (.bin .sub (.var 34) (.lit (.int 1)))) (.lit .none) (.lit (.int (-1)))) (.slice (.idx (.var 33) (.var 34)) (.lit (.int 1)) (.lit .none)))) (.seq (.delI 33 (.var 34)) .nil)) .nil) .nil
noncomputable def trCh : PS := .seq (.newl 33) (.seq (.asg 34 (.ite (.cmp .eq (.idx (.var 25) (.var 28)) (.lit (.str [33]))) (.bin .add (.var 28) (.lit (.int 2))) (.bin .add (.var 28) (.lit (.int 1))))) (.seq (.whl (.lit (.bool true)) trFind) (.seq (.asg 35 (.slice (.var 25) (.var 28) (.var 0))) (.seq (.iff (.var 35) (.seq (.app 33 (.var 35)) .nil) (.seq (.augI 33 (-1) (.lit (.str [45]))) .nil)) (.seq (.forI 34 (.prim .range3 (.cons (.bin .sub (.prim .len (.cons (.var 33) .nil)) (.lit (.int 1))) (.cons (.lit (.int 0)) (.cons (.lit (.int (-1))) .nil)))) trMerge) (.seq (.asg 32 (.prim .joinEsc (.cons (.var 33) .nil))) .nil))))))
noncomputable def trTail : PS := .seq (.asg 32 (.prim .reSub (.cons (.var 32) .nil))) (.seq (.asg 28 (.bin .add (.var 0) (.lit (.int 1)))) (.seq (.iff (.not (.var 32)) (.seq (.appm 31 (.lit (.str [40, 63, 33, 41]))) .nil) (.seq (.iff (.cmp .eq (.var 32) (.lit (.str [33]))) (.seq (.appm 31 (.lit (.str [46]))) .nil) (.seq (.iff (.cmp .eq (.idx (.var 32) (.lit (.int 0))) (.lit (.str [33]))) (.seq (.asg 32 (.bin .add (.lit (.str [94])) (.slice (.var 32) (.lit (.int 1)) (.lit .none)))) .nil) (.seq (.iff (.cmp .isin (.idx (.var 32) (.lit (.int 0))) (.tup (.cons (.lit (.str [94])) (.cons (.lit (.str [91])) .nil)))) (.seq (.asg 32 (.bin .add (.lit (.str [92])) (.var 32))) .nil) .nil) .nil)) (.seq (.appm 31 (.fstr [91] (.var 32) [93])) .nil))) .nil)) .nil))
noncomputable def trEls : PS := .seq (.asg 32 (.slice (.var 25) (.var 28) (.var 0))) (.seq (.iff (.cmp .notin (.lit (.str [45])) (.var 32)) (.seq (.asg 32 (.meth .replace (.var 32) (.cons (.lit (.str [92])) (.cons (.lit (.str [92, 92])) .nil)))) .nil) trCh) trTail)
noncomputable def trBr : PS := .seq (.asg 0 (.var 28)) (.seq (.iff (.and (.cmp .lt (.var 0) (.var 29)) (.cmp .eq (.idx (.var 25) (.var 0)) (.lit (.str [33])))) trJ .nil) (.seq (.iff (.and (.cmp .lt (.var 0) (.var 29)) (.cmp .eq (.idx (.var 25) (.var 0)) (.lit (.str [93])))) trJ .nil) (.seq (.whl trJc trJ) (.seq (.iff (.cmp .ge (.var 0) (.var 29)) (.seq (.appm 31 (.lit (.str [92, 91]))) .nil) trEls) .nil))))
noncomputable def trB : PS := .seq (.asg 30 (.idx (.var 25) (.var 28))) (.seq (.asg 28 (.bin .add (.var 28) (.lit (.int 1)))) (.seq (.iff (.cmp .eq (.var 30) (.lit (.str [42]))) (.seq (.iff (.or (.not (.var 2)) .any) (.seq (.appm 31 (.var 26)) .nil) .nil) .nil) (.seq (.iff (.cmp .eq (.var 30) (.lit (.str [63]))) (.seq (.appm 31 (.var 27)) .nil) (.seq (.iff (.cmp .eq (.var 30) (.lit (.str [91]))) trBr (.seq (.appm 31 (.call .escape (.cons (.var 30) .nil))) .nil)) .nil)) .nil)) .nil))
structure TrSt (env : Vars) (pat : List Nat) (i : Nat) : Prop where
  h25 : env 25 = some (.str pat)
  h29 : env 29 = some (.int pat.length)
  h31 : env 31 = some (.meth 0)
  h2 : env 2 = some (.ref 0)
  h28 : env 28 = some (.int i)
noncomputable def escC (c : Nat) : List Nat := if specials.contains c then [92, c] else [c]
theorem p_transl {led : List PObj} {c : Nat} (h : c < 128) : primEv led .transl [.str [c]] = some (.str (escC c)) := if_pos h
theorem or_escape {c : Nat} (hc : c < 128) {K : PV → Prop} (k : K (.str (escC c))) : orac 4 .escape [.str [c]] K :=
  run (And.intro rfl (op_is (z := .bool true) rfl (bW_t rfl (op_is (p_transl hc) k))))
theorem get_pre {α : Type} {pre m : List α} {k n : Nat} (h : n = pre.length + k) : (pre ++ m)[n]? = m[k]? := by subst h; exact get_app
theorem one_ne {a b : Nat} (h : a ≠ b) : ¬ [a] = [b] := fun q => h (List.cons.inj q).1
theorem tr_plain {env : Vars} {pre post : List Nat} {c : Nat} {xs : List PV} {more : List PObj} {K : Fl → St → Prop} (hc : c < 128) (h1 : c ≠ 42) (h2 : c ≠ 63) (h3 : c ≠ 91) (hl : (pre ++ c :: post).length ≤ 4096) (hx : xs.length ≤ 4096) (T : TrSt env (pre ++ c :: post) pre.length)
    (k : ∀ env', TrSt env' (pre ++ c :: post) (pre.length + 1) → K .next ⟨env', .list (xs ++ [.str (escC c)]) :: more⟩) : wS (orac 4) 400 trB ⟨env, .list xs :: more⟩ K := by
  obtain ⟨h25, h29, h31, hr2, h28⟩ := T
  exact oW_eq h25 (oW_eq h28 (op_is (idx_str hl (get_pre (k := 0) rfl)) (oW_eq h28 (b_f (one_ne h1) (b_f (one_ne h2) (b_f (one_ne h3) (oW_eq h31 (CallW.mk (or_escape hc (And.intro hx (k _ ⟨h25, h29, h31, hr2, rfl⟩)))))))))))
/-- what follows the bracket's inner text -/
noncomputable def tailIn (st : List Nat) : List Nat := match st with
  | [] => []
  | a :: r => if a = 33 then 94 :: r else if a = 94 ∨ a = 91 then 92 :: a :: r else a :: r
noncomputable def tailOut (st : List Nat) : List Nat := if st = [] then [40, 63, 33, 41] else if st = [33] then [46] else [91] ++ tailIn st ++ [93]
theorem t_str {s : List Nat} (h : s.length ≤ 4096) : truth (.str s) = some (!s.isEmpty) := if_pos h
theorem p_sub {led : List PObj} {s : List Nat} (h : s.length ≤ 4096) (ha : s.all (fun c => decide (c ≠ 38 ∧ c ≠ 124 ∧ c ≠ 126)) = true) : primEv led .reSub [.str s] = some (.str s) := if_pos ⟨h, ha⟩
theorem c_two {a : Nat} {b : Bool} (h : decide (a = 94 ∨ a = 91) = b) : ([PV.str [94], PV.str [91]].any fun p => pvEq p (.str [a])) = b := by
  show (decide ([94] = [a]) || (decide ([91] = [a]) || false)) = _
  rw [← h]
  by_cases g1 : a = 94
  · subst g1; rfl
  · by_cases g2 : a = 91
    · subst g2; rfl
    · rw [decide_eq_false (one_ne (Ne.symm g1)), decide_eq_false (one_ne (Ne.symm g2)), decide_eq_false (not_or.mpr ⟨g1, g2⟩)]; rfl
theorem tr_tail {env : Vars} {pat st : List Nat} {i j : Nat} {xs : List PV} {more : List PObj} {K : Fl → St → Prop} (hx : xs.length ≤ 4096) (hs : st.length ≤ 1000) (ha : st.all (fun c => decide (c ≠ 38 ∧ c ≠ 124 ∧ c ≠ 126)) = true) (T : TrSt env pat i) (h32 : env 32 = some (.str st)) (h0 : env 0 = some (.int j))
    (k : ∀ env', TrSt env' pat (j + 1) → K .next ⟨env', .list (xs ++ [.str (tailOut st)]) :: more⟩) : wS (orac 4) 400 trTail ⟨env, .list xs :: more⟩ K := by
  obtain ⟨h25, h29, h31, hr2, h28⟩ := T
  have l1 : st.length ≤ 4096 := by (first | lia | omega)
  refine oW_eq h32 (op_is (p_sub l1 ha) (oW_eq h0 ?_))
  cases st with
  | nil => exact bW_t rfl (oW_eq h31 (And.intro hx (k _ ⟨h25, h29, h31, hr2, rfl⟩)))
  | cons a r =>
    unfold tailOut at k
    rw [if_neg (List.cons_ne_nil a r)] at k
    refine oW_eq (t_str l1) (bW_f rfl ?_)
    by_cases q2 : (a :: r) = [33]
    · rw [if_pos q2] at k
      exact b_t q2 (oW_eq h31 (And.intro hx (k _ ⟨h25, h29, h31, hr2, rfl⟩)))
    · rw [if_neg q2, tailIn] at k
      have i0 : ∀ {led : List PObj}, idxv led (.str (a :: r)) (.int 0) = some (.str [a]) := idx_str (p := 0) (c := a) l1 rfl
      rw [List.length_cons] at l1 hs
      refine b_f q2 (op_is i0 ?_)
      by_cases q3 : a = 33
      · subst q3
        rw [if_pos rfl] at k
        exact b_t rfl (op_is (show slicev _ (.str (33 :: r)) (.int 1) .none = some (.str r) from slice_hi (k := 1) (by rw [List.length_cons]; exact l1) (by rw [List.length_cons]; lia)) (oW_eq (adds (s := [94]) (r := r) (by rw [List.length_singleton]; (first | lia | omega))) (oW_eq h31 (And.intro (show (94 :: r).length ≤ 4096 from l1) (And.intro hx (k _ ⟨h25, h29, h31, hr2, rfl⟩))))))
      · rw [if_neg q3] at k
        refine b_f (one_ne q3) (op_is i0 ?_)
        by_cases q4 : a = 94 ∨ a = 91
        · rw [if_pos q4] at k
          exact bW_t (c_two (decide_eq_true q4)) (oW_eq (adds (s := [92]) (r := a :: r) (by rw [List.length_singleton, List.length_cons]; (first | lia | omega))) (oW_eq h31 (And.intro (show (92 :: a :: r).length ≤ 4096 by rw [List.length_cons, List.length_cons]; (first | lia | omega)) (And.intro hx (k _ ⟨h25, h29, h31, hr2, rfl⟩)))))
        · rw [if_neg q4] at k
          exact bW_f (c_two (decide_eq_false q4)) (oW_eq h31 (And.intro (show (a :: r).length ≤ 4096 from l1) (And.intro hx (k _ ⟨h25, h29, h31, hr2, rfl⟩))))
end Mine
namespace Mine
open _root_.PySem

theorem j_loop {C : Orac} {post : List Nat} {led : List PObj} {pat : List Nat} {K : Fl → St → Prop} (hl : pat.length ≤ 4096) : ∀ (x pre : List Nat) (env : Vars) (N : Nat), pat = pre ++ x ++ 93 :: post → 93 ∉ x → x.length < N → env 25 = some (.str pat) → env 29 = some (.int pat.length) → env 0 = some (.int pre.length) →
    (∀ env', env' 0 = some (.int (pre.length + x.length : Nat)) → (∀ y, y ≠ 0 → env' y = env y) → K .next ⟨env', led⟩) → whileW (wT C trJc) (wS C 400 trJ) N ⟨env, led⟩ K
  | [], pre, env, 0, _, _, hN, _, _, _, _ => absurd hN (Nat.not_lt_zero _)
  | [], pre, env, N + 1, hp, _, hN, h25, h29, h0, k => by
    have hi : ∀ {led : List PObj}, idxv led (.str pat) (.int pre.length) = some (.str [93]) := idx_str hl (by rw [hp, List.append_nil]; exact get_pre (k := 0) rfl)
    have hlt : (pre.length : Int) < pat.length := by rw [hp]; simp; (first | lia | omega)
    exact oW_eq h0 (oW_eq h29 (b_t hlt (oW_eq h25 (oW_eq h0 (op_is hi (bW_f rfl (k env h0 fun _ _ => rfl)))))))
  | a :: x, pre, env, 0, _, _, hN, _, _, _, _ => absurd hN (Nat.not_lt_zero _)
  | a :: x, pre, env, N + 1, hp, hx, hN, h25, h29, h0, k => by
    have hi : ∀ {led : List PObj}, idxv led (.str pat) (.int pre.length) = some (.str [a]) := idx_str hl (by rw [hp, List.append_assoc, List.cons_append]; exact get_pre (k := 0) rfl)
    have hlt : (pre.length : Int) < pat.length := by rw [hp]; simp; (first | lia | omega)
    have hne : a ≠ 93 := fun q => hx (q ▸ List.mem_cons_self)
    refine oW_eq h0 (oW_eq h29 (b_t hlt (oW_eq h25 (oW_eq h0 (op_is hi (bW_t (show (!decide ([a] = [93])) = true by rw [decide_eq_false (one_ne hne)]; rfl) (oW_eq h0 ?_)))))))
    refine j_loop (post := post) hl x (pre ++ [a]) _ N ?_ (fun q => hx (List.mem_cons_of_mem _ q)) (Nat.lt_of_succ_lt_succ hN) ?_ ?_ ?_ fun env' e1 e2 => k env' ?_ fun y hy => ?_
    · rw [hp, List.append_assoc pre [a]]; rfl
    · exact h25
    · exact h29
    · rw [List.length_append]; rfl
    · rw [e1, List.length_append, List.length_cons, List.length_cons, List.length_nil]; congr 2; lia
    · rw [e2 y hy]
      exact getV_setV.trans (if_neg hy)
theorem cut_mid {pre x post : List Nat} : cut pre.length (pre.length + x.length) (pre ++ x ++ post) = x := by
  unfold cut
  rw [← List.length_append, List.take_left, List.drop_left]
theorem slice_mid' {led : List PObj} {pre x post pat : List Nat} {a b : Nat} (hp : pat = pre ++ x ++ post) (hl : pat.length ≤ 4096) (ha : a = pre.length) (hb : b = pre.length + x.length) : slicev led (.str pat) (.int a) (.int b) = some (.str x) := by
  subst ha hb
  have hlen : pat.length = pre.length + x.length + post.length := by rw [hp, List.length_append, List.length_append]
  show (clip 0 pat.length (.int pre.length)).bind (fun a => (clip pat.length pat.length (.int (pre.length + x.length : Nat))).bind fun b => if pat.length ≤ big then some (PV.str (cut a b pat)) else none) = _
  rw [clip_nat (by (first | lia | omega)), clip_nat (by (first | lia | omega))]
  refine (if_pos hl).trans ?_
  rw [hp, cut_mid]
/-- the bracket, given what its inner text comes to -/
theorem tr_br {env : Vars} {pat pre x post st : List Nat} {xs : List PV} {more more₂ : List PObj} {K : Fl → St → Prop} (hp : pat = pre ++ 91 :: (x ++ 93 :: post)) (hl : pat.length ≤ 300) (h93 : 93 ∉ x) (hx0 : x ≠ []) (hx1 : x ≠ [33]) (hxs : xs.length ≤ 4096) (hs : st.length ≤ 1000) (ha : st.all (fun c => decide (c ≠ 38 ∧ c ≠ 124 ∧ c ≠ 126)) = true) (T : TrSt env pat pre.length)
    (mid : ∀ env₁ {K : Fl → St → Prop}, TrSt env₁ pat (pre.length + 1) → env₁ 0 = some (.int (pre.length + 1 + x.length : Nat)) → env₁ 32 = some (.str x) → (∀ env₂ i₂, TrSt env₂ pat i₂ → env₂ 0 = some (.int (pre.length + 1 + x.length : Nat)) → env₂ 32 = some (.str st) → K .next ⟨env₂, .list xs :: more₂⟩) →
      wS (orac 4) 400 (.iff (.cmp .notin (.lit (.str [45])) (.var 32)) (.seq (.asg 32 (.meth .replace (.var 32) (.cons (.lit (.str [92])) (.cons (.lit (.str [92, 92])) .nil)))) .nil) trCh) ⟨env₁, .list xs :: more⟩ K)
    (k : ∀ env', TrSt env' pat (pre.length + 1 + x.length + 1) → K .next ⟨env', .list (xs ++ [.str (tailOut st)]) :: more₂⟩) : wS (orac 4) 400 trB ⟨env, .list xs :: more⟩ K := by
  obtain ⟨h25, h29, h31, hr2, h28⟩ := T
  have hl' : pat.length ≤ 4096 := by (first | lia | omega)
  have hlen : pat.length = pre.length + 1 + x.length + 1 + post.length := by rw [hp]; simp; lia
  have i0 : ∀ {led : List PObj}, idxv led (.str pat) (.int pre.length) = some (.str [91]) := idx_str hl' (by rw [hp]; exact get_pre (k := 0) rfl)
  have hp1 : pat = (pre ++ [91]) ++ x ++ 93 :: post := by rw [hp]; simp
  have hlt1 : ((pre.length + 1 : Nat) : Int) < pat.length := by (first | lia | omega)
  have hpl : (pre ++ [91]).length = pre.length + 1 := List.length_append
  -- the end, once the closing bracket is found
  have fin : ∀ env₁, TrSt env₁ pat (pre.length + 1) → env₁ 0 = some (.int (pre.length + 1 + x.length : Nat)) → wS (orac 4) 400 (.seq (.iff (.cmp .ge (.var 0) (.var 29)) (.seq (.appm 31 (.lit (.str [92, 91]))) .nil) trEls) .nil) ⟨env₁, .list xs :: more⟩ K := by
    intro env₁ T₁ h0
    obtain ⟨g25, g29, g31, gr2, g28⟩ := T₁
    refine oW_eq h0 (oW_eq g29 (b_f (show ¬ ((pat.length : Int) ≤ (pre.length + 1 + x.length : Nat)) by (first | lia | omega)) (oW_eq g25 (oW_eq g28 (oW_eq h0 (op_is (slice_mid' hp1 hl' hpl.symm (by rw [hpl])) ?_))))))
    exact mid (setV env₁ 32 (.str x)) ⟨g25, g29, g31, gr2, g28⟩ h0 rfl fun env₂ i₂ T₂ m3 m4 => tr_tail (more := more₂) hxs hs ha T₂ m4 m3 fun env₃ T₃ => k env₃ T₃
  refine oW_eq h25 (oW_eq h28 (op_is i0 (oW_eq h28 (b_f (by decide) (b_f (by decide) (b_t rfl (oW_eq h29 (b_t hlt1 (oW_eq h25 ?_)))))))))
  cases x with
  | nil => exact absurd rfl hx0
  | cons a x' =>
    have i1 : ∀ {led : List PObj}, idxv led (.str pat) (.int (pre.length + 1 : Nat)) = some (.str [a]) := idx_str hl' (by rw [hp1, List.append_assoc]; exact get_pre (k := 0) (by rw [hpl]))
    refine op_is i1 ?_
    by_cases q33 : a = 33
    · subst q33
      cases x' with
      | nil => exact absurd rfl hx1
      | cons b x'' =>
        have i2 : ∀ {led : List PObj}, idxv led (.str pat) (.int (pre.length + 1 + 1 : Nat)) = some (.str [b]) := idx_str hl' (by rw [hp1, List.append_assoc]; exact get_pre (k := 1) (by rw [hpl]))
        have hlt2 : ((pre.length + 1 + 1 : Nat) : Int) < pat.length := by rw [List.length_cons, List.length_cons] at hlen; (first | lia | omega)
        refine b_t rfl (oW_eq h29 (b_t hlt2 (oW_eq h25 (op_is i2 (b_f (one_ne fun q => h93 (q ▸ List.mem_cons_of_mem _ List.mem_cons_self)) ?_)))))
        refine LoopW.mk (j_loop (post := post) hl' (b :: x'') (pre ++ [91, 33]) _ 400 ?_ (fun q => h93 (List.mem_cons_of_mem _ q)) ?_ ?_ ?_ ?_ ?_)
        · rw [hp]; simp
        · rw [List.length_cons, List.length_cons] at hlen; rw [List.length_cons]; lia
        · exact h25
        · exact h29
        · rw [List.length_append]; rfl
        · refine fun env₁ e2 e3 => fin env₁ ⟨by rw [e3 _ (by decide)]; exact h25, by rw [e3 _ (by decide)]; exact h29, by rw [e3 _ (by decide)]; exact h31, by rw [e3 _ (by decide)]; exact hr2, by rw [e3 _ (by decide)]; rfl⟩ ?_
          rw [e2, List.length_append, List.length_cons, List.length_cons, List.length_cons]; congr 2; simp only [List.length_cons, List.length_nil]; lia
    · refine b_f (one_ne q33) (oW_eq h29 (b_t hlt1 (oW_eq h25 (op_is i1 (b_f (one_ne fun q => h93 (q ▸ List.mem_cons_self)) ?_)))))
      refine LoopW.mk (j_loop (post := post) hl' (a :: x') (pre ++ [91]) _ 400 hp1 h93 ?_ ?_ ?_ ?_ ?_)
      · rw [List.length_cons] at hlen ⊢; lia
      · exact h25
      · exact h29
      · rw [hpl]; rfl
      · refine fun env₁ e2 e3 => fin env₁ ⟨by rw [e3 _ (by decide)]; exact h25, by rw [e3 _ (by decide)]; exact h29, by rw [e3 _ (by decide)]; exact h31, by rw [e3 _ (by decide)]; exact hr2, by rw [e3 _ (by decide)]; rfl⟩ ?_
        rw [e2, hpl]
end Mine
namespace Mine
open _root_.PySem

abbrev Mem := Nat × Nat × Bool
noncomputable def chunksP (low : Nat) : List Nat → List Mem → List (List Nat) × List Nat
  | cur, [] => ([], cur)
  | cur, (f, _, false) :: ms => chunksP low (cur ++ [low + f]) ms
  | cur, (f, l, true) :: ms => ((cur ++ [low + f]) :: (chunksP low [low + l] ms).1, (chunksP low [low + l] ms).2)
noncomputable def stT (low : Nat) (ms : List Mem) : List Nat := ms.flatMap (mTxt low)

theorem fs1 {c : Nat} {B : List Nat} {k j : Nat} : ∀ {A : List Nat} {i : Nat}, i + A.length ≤ k → firstIdx c (A ++ B) i k j = firstIdx c B (i + A.length) k j
  | [], i, _ => rfl
  | a :: A, i, h => by
    rw [List.length_cons] at h
    rw [List.cons_append, firstIdx, if_neg (by (first | lia | omega)), fs1 (A := A) (by (first | lia | omega)), List.length_cons]
    congr 1; (first | lia | omega)
theorem fs2 {c : Nat} {B : List Nat} {k j : Nat} : ∀ {A : List Nat} {i : Nat}, c ∉ A → firstIdx c (A ++ B) i k j = firstIdx c B (i + A.length) k j
  | [], i, _ => rfl
  | a :: A, i, h => by
    have h1 : a ≠ c := fun q => h (by simp [q])
    rw [List.cons_append, firstIdx, if_neg (fun q => h1 q.2.2), fs2 (A := A) (fun q => h (List.mem_cons_of_mem _ q)), List.length_cons]
    congr 1; lia
theorem fs3 {c : Nat} {B : List Nat} {i k j : Nat} (h1 : k ≤ i) (h2 : i < j) : firstIdx c (c :: B) i k j = i := by
  rw [firstIdx, if_pos ⟨h1, h2, rfl⟩]
theorem fs4 {c : Nat} {k j : Nat} : ∀ {B : List Nat} {i : Nat}, j ≤ i → firstIdx c B i k j = -1
  | [], i, _ => rfl
  | a :: A, i, h => by
    rw [firstIdx, if_neg (by (first | lia | omega)), fs4 (B := A) (by (first | lia | omega))]
theorem p_find {led : List PObj} {s : List Nat} {c : Nat} {k j : Int} : primEv led .find [.str s, .str [c], .int k, .int j] = if 0 ≤ k ∧ 0 ≤ j ∧ j < ibig ∧ k < ibig ∧ s.length ≤ big then some (.int (firstIdx c s 0 k.toNat j.toNat)) else none := rfl
theorem find_ok {led : List PObj} {s : List Nat} {c k j : Nat} {z : Int} (hk : k < 1000) (hj : j < 1000) (hs : s.length ≤ 4096) (e : firstIdx c s 0 k j = z) : primEv led .find [.str s, .str [c], .int k, .int j] = some (.int z) := by
  rw [p_find, if_pos ⟨by (first | lia | omega), by (first | lia | omega), by unfold ibig; (first | lia | omega), by unfold ibig; (first | lia | omega), hs⟩, Int.toNat_natCast, Int.toNat_natCast, e]
theorem stT_wide {low f l : Nat} {cur : List Nat} {ms : List Mem} : cur ++ stT low ((f, l, true) :: ms) = (cur ++ [low + f]) ++ 45 :: ([low + l] ++ stT low ms) := by simp [stT, mTxt]
theorem stT_one {low f l : Nat} {cur : List Nat} {ms : List Mem} : cur ++ stT low ((f, l, false) :: ms) = (cur ++ [low + f]) ++ stT low ms := by simp [stT, mTxt]
theorem find_loop {C : Orac} {low : Nat} (hlow : 128 ≤ low) {post : List Nat} {pat : List Nat} (hl : pat.length ≤ 300) {xs : List PV} {K : Fl → St → Prop} : ∀ (ms : List Mem) (pre cur : List Nat) (k : Nat) (env : Vars) (cs : List (List Nat)) (N : Nat), pat = pre ++ (cur ++ stT low ms) ++ 93 :: post → 45 ∉ cur → ms.length < N → cs.length + ms.length ≤ 50 → pre.length ≤ k → k ≤ pre.length + cur.length + 1 →
    env 25 = some (.str pat) → env 28 = some (.int pre.length) → env 34 = some (.int k) → env 0 = some (.int (pre.length + (cur ++ stT low ms).length : Nat)) → env 33 = some (.ref 1) →
    (∀ env' pre', pat = pre' ++ (chunksP low cur ms).2 ++ 93 :: post → env' 28 = some (.int (pre' : List Nat).length) → pre.length + (cur ++ stT low ms).length = pre'.length + (chunksP low cur ms).2.length → (∀ y, y ≠ 28 → y ≠ 34 → env' y = env y) → K .next ⟨env', [.list xs, .list ((cs ++ (chunksP low cur ms).1).map .str)]⟩) →
    whileW (wT C (.lit (.bool true))) (wS C 400 trFind) N ⟨env, [.list xs, .list (cs.map .str)]⟩ K
  | ms, pre, cur, k, env, cs, 0, hp, h45, hN, hcs, hk1, hk2, h25, h28, h34, h0, h33, kk => absurd hN (Nat.not_lt_zero _)
  | [], pre, cur, k, env, cs, N + 1, hp, h45, hN, hcs, hk1, hk2, h25, h28, h34, h0, h33, kk => by
    have hst : cur ++ stT low [] = cur := List.append_nil _
    rw [hst] at h0 hp kk
    have hp' : pat = pre ++ (cur ++ 93 :: post) := by rw [hp, List.append_assoc]
    have hlen : pat.length = pre.length + cur.length + 1 + post.length := by rw [hp']; simp; lia
    refine bW_t rfl (oW_eq h25 (oW_eq h34 (oW_eq h0 (op_is (find_ok (z := -1) (by (first | lia | omega)) (by (first | lia | omega)) (by (first | lia | omega)) ?_) (b_t (by decide) ?_)))))
    · rw [hp', fs1 (by (first | lia | omega)), fs2 h45, fs4 (by lia)]
    · rw [← List.append_nil cs]
      exact kk _ pre hp h28 rfl fun y hy hy' => getV_setV.trans (if_neg hy')
  | (f, l, false) :: ms, pre, cur, k, env, cs, N + 1, hp, h45, hN, hcs, hk1, hk2, h25, h28, h34, h0, h33, kk => by
    rw [stT_one] at h0 hp kk
    refine find_loop hlow hl ms pre (cur ++ [low + f]) k env cs (N + 1) hp ?_ (Nat.lt_of_succ_lt hN) (by rw [List.length_cons] at hcs; lia) hk1 (by rw [List.length_append]; lia) h25 h28 h34 h0 h33 kk
    exact fun q => (List.mem_append.mp q).elim h45 fun q => by rw [List.mem_singleton] at q; (first | lia | omega)
  | (f, l, true) :: ms, pre, cur, k, env, cs, N + 1, hp, h45, hN, hcs, hk1, hk2, h25, h28, h34, h0, h33, kk => by
    rw [stT_wide] at h0 hp kk
    have h45' : 45 ∉ cur ++ [low + f] := fun q => (List.mem_append.mp q).elim h45 fun q => by rw [List.mem_singleton] at q; (first | lia | omega)
    have hck : (chunksP low cur ((f, l, true) :: ms)) = ((cur ++ [low + f]) :: (chunksP low [low + l] ms).1, (chunksP low [low + l] ms).2) := rfl
    rw [hck] at kk
    have hc1l : (cur ++ [low + f]).length = cur.length + 1 := List.length_append
    generalize cur ++ [low + f] = c1 at h0 hp kk h45' hc1l
    have hp1 : pat = pre ++ (c1 ++ 45 :: ([low + l] ++ stT low ms ++ 93 :: post)) := by rw [hp]; simp
    have hP2 : pat = (pre ++ c1 ++ [45]) ++ ([low + l] ++ stT low ms) ++ 93 :: post := by rw [hp]; simp
    have hj : (c1 ++ 45 :: ([low + l] ++ stT low ms)).length = c1.length + 1 + ([low + l] ++ stT low ms).length := by rw [List.length_append, List.length_cons]; lia
    rw [hj] at h0 kk
    have hlen : pat.length = pre.length + (c1.length + 1 + ([low + l] ++ stT low ms).length) + 1 + post.length := by rw [hp, List.length_append, List.length_append, hj, List.length_cons]; lia
    have hP1l : (pre ++ c1 ++ [45]).length = pre.length + c1.length + 1 := by rw [List.length_append, List.length_append]; rfl
    have hll : 0 < ([low + l] ++ stT low ms).length := by rw [List.length_append]; exact Nat.lt_of_lt_of_le Nat.zero_lt_one (Nat.le_add_right 1 _)
    have hc45 : 45 ∉ [low + l] := by rw [List.mem_singleton]; (first | lia | omega)
    have hcl : (cs.map PV.str).length ≤ 4096 := by rw [List.length_map]; (first | lia | omega)
    refine bW_t rfl (oW_eq h25 (oW_eq h34 (oW_eq h0 (op_is (find_ok (z := (pre.length + c1.length : Nat)) (by lia) (by (first | lia | omega)) (by (first | lia | omega)) ?_) (b_f (show ¬ ((pre.length + c1.length : Nat) : Int) < 0 by lia) (refW_eq h33 (oW_eq rfl (oW_eq h25 (oW_eq h28 (op_is (slice_mid' (pre := pre) (x := c1) (post := 45 :: ([low + l] ++ stT low ms ++ 93 :: post)) (by rw [hp1, List.append_assoc pre c1]) (by (first | lia | omega)) rfl rfl) (And.intro hcl ?_)))))))))))
    · rw [hp1, fs1 (by lia), fs2 h45', fs3 (by lia) (by (first | lia | omega)), Nat.zero_add]
    · rw [show (cs.map PV.str) ++ [PV.str c1] = (cs ++ [c1]).map PV.str by rw [List.map_append]; rfl]
      refine find_loop hlow hl ms (pre ++ c1 ++ [45]) [low + l] (pre.length + c1.length + 3) _ (cs ++ [c1]) N hP2 hc45 (Nat.lt_of_succ_lt_succ hN) ?_ ?_ ?_ ?_ ?_ ?_ ?_ ?_ fun env' pre' w2 w3 w4 w5 => ?_
      · rw [List.length_append]; simp only [List.length_cons, List.length_nil] at hcs ⊢; lia
      · (first | lia | omega)
      · rw [hP1l, List.length_singleton]; lia
      · exact h25
      · rw [hP1l]; rfl
      · rfl
      · rw [hP1l, show pre.length + c1.length + 1 + ([low + l] ++ stT low ms).length = pre.length + (c1.length + 1 + ([low + l] ++ stT low ms).length) by lia]; exact h0
      · exact h33
      rw [List.append_assoc]
      refine kk env' pre' w2 w3 (by rw [← w4, hP1l]; lia) fun y hy hy' => (w5 y hy hy').trans ?_
      exact getV_setV.trans ((if_neg hy').trans (getV_setV.trans ((if_neg hy).trans (getV_setV.trans (if_neg hy')))))
end Mine
namespace Mine
open _root_.PySem

theorem idx_ref {led : List PObj} {k j : Nat} {xs : List PV} {v : PV} (h : led[k]? = some (.list xs)) (hv : xs[j]? = some v) (hl : xs.length ≤ 4096) : idxv led (.ref k) (.int j) = some v := by
  have hj : j < xs.length := by
    rcases Nat.lt_or_ge j xs.length with q | q
    · exact q
    · rw [List.getElem?_eq_none q] at hv; cases hv
  have e := listOf_at h
  show (listOf led (.ref k)).bind (fun xs => if xs.length ≤ big then (pyIdx j xs.length).bind fun k => xs[k]? else none) = _
  rw [e]
  show (if xs.length ≤ big then (pyIdx j xs.length).bind fun k => xs[k]? else none) = _
  rw [if_pos (show xs.length ≤ big from hl), pyIdx_nat hj]
  exact hv
theorem idx_last {led : List PObj} {a : List Nat} {c : Nat} (hl : a.length ≤ 4000) : idxv led (.str (a ++ [c])) (.int (-1)) = some (.str [c]) := by
  have e : pyIdx (-1) (a ++ [c]).length = some a.length := by
    unfold pyIdx
    rw [if_neg (by (first | lia | omega)), if_pos ⟨by (first | lia | omega), by simp; (first | lia | omega)⟩]
    congr 1; simp; (first | lia | omega)
  show (if (a ++ [c]).length ≤ big then (pyIdx (-1) (a ++ [c]).length).bind (fun k => ((a ++ [c])[k]?).map fun c => PV.str [c]) else none) = _
  rw [if_pos (by rw [List.length_append]; show a.length + 1 ≤ 4096; (first | lia | omega)), e]
  show ((a ++ [c])[a.length]?).map _ = _
  rw [List.getElem?_append_right (by (first | lia | omega))]; simp
theorem slice_last {led : List PObj} {a : List Nat} {c : Nat} (hl : a.length ≤ 4000) : slicev led (.str (a ++ [c])) .none (.int (-1)) = some (.str a) := by
  have e2 : clip (a ++ [c]).length (a ++ [c]).length (.int (-1)) = some a.length := by
    show some (if (-1 : Int) < 0 then (-1 + ((a ++ [c]).length : Int)).toNat else _) = _
    rw [if_pos (by (first | lia | omega))]; congr 1; simp; (first | lia | omega)
  show (clip 0 (a ++ [c]).length .none).bind (fun x => (clip (a ++ [c]).length (a ++ [c]).length (.int (-1))).bind fun b => if (a ++ [c]).length ≤ big then some (PV.str (cut x b (a ++ [c]))) else none) = _
  rw [e2]
  show (if (a ++ [c]).length ≤ big then some (PV.str (cut 0 a.length (a ++ [c]))) else none) = _
  rw [if_pos (by rw [List.length_append]; show a.length + 1 ≤ 4096; (first | lia | omega))]
  unfold cut
  rw [List.take_left, List.drop_zero]
theorem strLt1 (h c : Nat) : strLt [h] [c] = decide (h < c) := by
  unfold strLt
  by_cases q : h < c
  · simp [q]
  · simp [q, strLt]
noncomputable def mstep (c : List Nat) (M : List (List Nat)) : List (List Nat) := match M with
  | [] => [c]
  | h :: r => if h.headD 0 < c.getLastD 0 then (c.dropLast ++ h.tail) :: r else c :: h :: r
/-- the merging loop's good lists: each front chunk has a last sign, each head met has a first one -/
noncomputable def goodM : List (List Nat) → List (List Nat) → Prop
  | [], _ => True
  | c :: B, M => (∃ a x, c = a ++ [x] ∧ a.length ≤ 1000) ∧ (∃ h t r, M = (h :: t) :: r ∧ t.length ≤ 1000) ∧ goodM B (mstep c M)
theorem merge_loop {C : Orac} {xs : List PV} {K : Fl → St → Prop} : ∀ (B : List (List Nat)) (M : List (List Nat)) (env : Vars), goodM B M → B.length + M.length ≤ 100 → env 33 = some (.ref 1) →
    (∀ env', (∀ y, y ≠ 34 → env' y = env y) → K .next ⟨env', [.list xs, .list ((B.foldl (fun M c => mstep c M) M).map .str)]⟩) →
    forW (put1 34) (wS C 400 trMerge) ((downInts B.length B.length).map .int) ⟨env, [.list xs, .list ((B.reverse ++ M).map .str)]⟩ K
  | [], M, env, _, _, _, kk => kk env fun _ _ => rfl
  | c :: B, M, env, hg, hl, h33, kk => by
    refine nn fun no => ?_
    obtain ⟨⟨a, x, rfl, hal⟩, ⟨h, t, r, rfl, htl⟩, hg'⟩ := hg
    refine no ?_
    have e0 : downInts ((a ++ [x]) :: B).length ((a ++ [x]) :: B).length = ((B.length + 1 : Nat) : Int) :: downInts B.length B.length := by
      rw [List.length_cons, downInts, show ((B.length + 1 : Nat) : Int) - 1 = B.length by lia]
    have hlen : B.length + r.length + 2 ≤ 100 := by rw [List.length_cons, List.length_cons] at hl; lia
    rw [e0]
    have eL : (((a ++ [x]) :: B).reverse ++ (h :: t) :: r).map PV.str = (B.reverse.map PV.str) ++ PV.str (a ++ [x]) :: PV.str (h :: t) :: r.map PV.str := by rw [List.reverse_cons, List.append_assoc, List.map_append]; rfl
    rw [eL]
    have hB : (B.reverse.map PV.str).length = B.length := by rw [List.length_map, List.length_reverse]
    have hm : mstep (a ++ [x]) ((h :: t) :: r) = if h < x then (a ++ t) :: r else (a ++ [x]) :: (h :: t) :: r := by
      show (if (h :: t).headD 0 < (a ++ [x]).getLastD 0 then ((a ++ [x]).dropLast ++ (h :: t).tail) :: r else (a ++ [x]) :: (h :: t) :: r) = _
      rw [show (a ++ [x]).getLastD 0 = x by rw [List.getLastD_eq_getLast?, List.getLast?_concat]; rfl, List.dropLast_concat]; rfl
    have rec_ := fun hl => merge_loop (C := C) (xs := xs) (K := K) B (mstep (a ++ [x]) ((h :: t) :: r)) (setV env 34 (.int (B.length + 1 : Nat))) hg' hl h33 fun env' w => kk env' fun y hy => (w y hy).trans (getV_setV.trans (if_neg hy))
    rw [hm, List.map_append] at rec_
    generalize B.reverse.map PV.str = BR at hB rec_
    have hll : (BR ++ PV.str (a ++ [x]) :: PV.str (h :: t) :: r.map PV.str).length = B.length + (r.length + 2) := by rw [List.length_append, hB, List.length_cons, List.length_cons, List.length_map]
    have i1 : ∀ {led : List PObj}, led[1]? = some (.list (BR ++ PV.str (a ++ [x]) :: PV.str (h :: t) :: r.map PV.str)) → idxv led (.ref 1) (.int B.length) = some (.str (a ++ [x])) := fun e => idx_ref e (get_pre (k := 0) hB.symm) (by (first | lia | omega))
    have i2 : ∀ {led : List PObj}, led[1]? = some (.list (BR ++ PV.str (a ++ [x]) :: PV.str (h :: t) :: r.map PV.str)) → idxv led (.ref 1) (.int (B.length + 1 : Nat)) = some (.str (h :: t)) := fun e => idx_ref e (get_pre (k := 1) (by rw [hB])) (by (first | lia | omega))
    have hk : ((B.length + 1 : Nat) : Int) - 1 = B.length := by lia
    have htl' : (h :: t).length ≤ 4096 := by rw [List.length_cons]; (first | lia | omega)
    refine oW_eq h33 (val_is hk (op_is (i1 rfl) (op_is (idx_last (by (first | lia | omega))) (oW_eq h33 (op_is (i2 rfl) (op_is (idx_str (p := 0) (c := h) htl' rfl) ?_))))))
    by_cases q : h < x
    · rw [if_pos q] at rec_
      refine bW_t ((strLt1 h x).trans (decide_eq_true q)) (oW_eq h33 (val_is hk (op_is (i1 rfl) (op_is (slice_last (by (first | lia | omega))) (oW_eq h33 (op_is (i2 rfl) (op_is (show slicev _ (.str (h :: t)) (.int 1) .none = some (.str t) from slice_hi (k := 1) htl' (by rw [List.length_cons]; lia)) (oW_eq (adds (s := a) (r := t) (by lia)) (refW_eq h33 (val_is hk (And.intro ⟨by (first | lia | omega), by (first | lia | omega), by show _ ≤ 4096; (first | lia | omega)⟩ (refW_eq h33 (And.intro ⟨by (first | lia | omega), ?_, ?_⟩ (And.intro rfl ?_))))))))))))))
      · show _ < (((_ : List PV).length : Nat) : Int)
        rw [List.length_set]; (first | lia | omega)
      · show (_ : List PV).length ≤ 4096
        rw [List.length_set]; (first | lia | omega)
      · have := rec_ (by rw [List.length_cons]; lia)
        rw [← show ((BR ++ PV.str (a ++ [x]) :: PV.str (h :: t) :: r.map PV.str).set B.length (.str (a ++ t))).eraseIdx (B.length + 1) = BR ++ ((a ++ t) :: r).map PV.str by
          rw [← hB, List.set_append_right _ _ (Nat.le_refl _), List.eraseIdx_append_of_length_le (Nat.le_succ _), Nat.sub_self, show BR.length.succ - BR.length = 1 by lia]; rfl] at this
        exact this
    · rw [if_neg q] at rec_
      exact bW_f ((strLt1 h x).trans (decide_eq_false q)) (And.intro rfl (rec_ (by rw [List.length_cons, List.length_cons]; (first | lia | omega))))
end Mine
namespace Mine
open _root_.PySem

/-! what the bracket's inner text says -/
noncomputable def tk (s : Nat) : List Nat → Bool
  | a :: 45 :: c :: r => (decide (a ≤ s) && decide (s ≤ c)) || tk s r
  | a :: r => decide (a = s) || tk s r
  | [] => false
theorem tk_cons {s a : Nat} {t : List Nat} (h : t.head? ≠ some 45) : tk s (a :: t) = (decide (a = s) || tk s t) := by
  match t, h with
  | [], _ => rfl
  | [b], _ => rw [tk]; exact fun _ _ e => by simp at e
  | b :: c :: r, h =>
    rw [tk]
    intro c' r' e
    simp at e h
    exact h e.1
theorem tk_range {s a c : Nat} {r : List Nat} : tk s (a :: 45 :: c :: r) = ((decide (a ≤ s) && decide (s ≤ c)) || tk s r) := by rw [tk]
theorem tk_app {s : Nat} {rest : List Nat} (hr : rest.head? ≠ some 45) : ∀ {cs : List Nat}, 45 ∉ cs → tk s (cs ++ rest) = ((cs.any fun a => decide (a = s)) || tk s rest)
  | [], _ => by simp
  | a :: cs, h => by
    have h' : 45 ∉ cs := fun q => h (List.mem_cons_of_mem _ q)
    have hd : (cs ++ rest).head? ≠ some 45 := by
      cases cs with
      | nil => exact hr
      | cons b cs => intro e; simp at e; subst e; exact h' (by simp)
    rw [List.cons_append, tk_cons hd, tk_app hr h', List.any_cons, Bool.or_assoc]
theorem joinS_two {sep c y : List Nat} {r : List (List Nat)} : joinS sep (c :: y :: r) = c ++ sep ++ joinS sep (y :: r) := by
  rw [joinS]; simp
theorem joinS_app {sep a h : List Nat} {r : List (List Nat)} : joinS sep ((a ++ h) :: r) = a ++ joinS sep (h :: r) := by
  cases r with
  | nil => rfl
  | cons y r => rw [joinS_two, joinS_two]; simp
noncomputable def mergeF (F M : List (List Nat)) : List (List Nat) := F.foldr mstep M
noncomputable def goodF : List (List Nat) → List (List Nat) → Prop
  | [], _ => True
  | c :: F, M => (∃ a x, c = a ++ [x]) ∧ (∃ h t r, mergeF F M = (h :: t) :: r) ∧ goodF F M
noncomputable def inM (low s : Nat) (m : Mem) : Bool := decide (low + m.1 ≤ s) && decide (s ≤ low + m.2.1)
theorem mspec {low : Nat} (hlow : 128 ≤ low) : ∀ (ms : List Mem) (p cs : List Nat), 45 ∉ cs → (∀ m ∈ ms, m.2.2 = false → m.2.1 = m.1) →
    ∃ h r, mergeF (chunksP low (p ++ cs) ms).1 [(chunksP low (p ++ cs) ms).2] = (p ++ h) :: r ∧ (joinS [45] (h :: r)).head? ≠ some 45 ∧ (∀ s, tk s (joinS [45] (h :: r)) = ((cs.any fun a => decide (a = s)) || ms.any (inM low s))) ∧ goodF (chunksP low (p ++ cs) ms).1 [(chunksP low (p ++ cs) ms).2]
  | [], p, cs, h45, _ => by
    refine ⟨cs, [], rfl, ?_, fun s => ?_, trivial⟩
    · show cs.head? ≠ some 45
      intro e
      cases cs with
      | nil => simp at e
      | cons b cs => simp at e; subst e; exact h45 (by simp)
    · have := tk_app (s := s) (rest := []) (by simp) h45
      rw [List.append_nil] at this
      show tk s cs = _
      rw [this]; rfl
  | (f, l, false) :: ms, p, cs, h45, hw => by
    have hl : l = f := hw (f, l, false) (by simp) rfl
    subst hl
    have e : chunksP low (p ++ cs) ((l, l, false) :: ms) = chunksP low (p ++ (cs ++ [low + l])) ms := by rw [chunksP, List.append_assoc]
    rw [e]
    obtain ⟨h, r, e1, e2, e3, e4⟩ := mspec hlow ms p (cs ++ [low + l]) (by simp [h45]; (first | lia | omega)) (fun m hm => hw m (List.mem_cons_of_mem _ hm))
    refine ⟨h, r, e1, e2, fun s => ?_, e4⟩
    rw [e3 s, List.any_append, List.any_cons, List.any_cons, List.any_nil, Bool.or_false, Bool.or_assoc]
    congr 2
    unfold inM
    by_cases q : low + l = s
    · subst q; simp
    · rw [decide_eq_false q]
      symm
      rw [Bool.and_eq_false_iff]
      rcases Nat.lt_or_ge s (low + l) with g | g
      · left; exact decide_eq_false (by show ¬ low + l ≤ s; (first | lia | omega))
      · right; exact decide_eq_false (by show ¬ s ≤ low + l; lia)
  | (f, l, true) :: ms, p, cs, h45, hw => by
    obtain ⟨h, r, e1, e2, e3, e4⟩ := mspec hlow ms [low + l] [] (by simp) (fun m hm => hw m (List.mem_cons_of_mem _ hm))
    rw [List.append_nil] at e1 e4
    have c1 : (chunksP low (p ++ cs) ((f, l, true) :: ms)).1 = (p ++ cs ++ [low + f]) :: (chunksP low [low + l] ms).1 := rfl
    have c2 : (chunksP low (p ++ cs) ((f, l, true) :: ms)).2 = (chunksP low [low + l] ms).2 := rfl
    rw [c1, c2]
    have g : goodF ((p ++ cs ++ [low + f]) :: (chunksP low [low + l] ms).1) [(chunksP low [low + l] ms).2] := ⟨⟨_, _, rfl⟩, ⟨low + l, h, r, e1⟩, e4⟩
    have em : mergeF ((p ++ cs ++ [low + f]) :: (chunksP low [low + l] ms).1) [(chunksP low [low + l] ms).2] = mstep (p ++ cs ++ [low + f]) (([low + l] ++ h) :: r) := by
      show mstep _ (mergeF _ _) = _
      rw [e1]
    have es : mstep (p ++ cs ++ [low + f]) (([low + l] ++ h) :: r) = if low + l < low + f then (p ++ cs ++ h) :: r else (p ++ cs ++ [low + f]) :: ([low + l] ++ h) :: r := by
      show (if ([low + l] ++ h).headD 0 < (p ++ cs ++ [low + f]).getLastD 0 then ((p ++ cs ++ [low + f]).dropLast ++ ([low + l] ++ h).tail) :: r else _) = _
      have q1 : (p ++ cs ++ [low + f]).getLastD 0 = low + f := by simp [List.getLastD_eq_getLast?]
      rw [q1, List.dropLast_concat]; rfl
    rw [em, es]
    by_cases q : low + l < low + f
    · rw [if_pos q]
      refine ⟨cs ++ h, r, by rw [List.append_assoc], ?_, fun s => ?_, g⟩
      · rw [joinS_app]
        intro e
        cases cs with
        | nil => exact e2 e
        | cons b cs => simp at e; subst e; exact h45 (by simp)
      · rw [joinS_app, tk_app e2 h45, e3 s, List.any_cons]
        have : inM low s (f, l, true) = false := by
          unfold inM
          rw [Bool.and_eq_false_iff]
          rcases Nat.lt_or_ge s (low + f) with g | g
          · left; exact decide_eq_false (by show ¬ low + f ≤ s; (first | lia | omega))
          · right; exact decide_eq_false (by show ¬ s ≤ low + l; (first | lia | omega))
        rw [this]; rfl
    · rw [if_neg q]
      have hj : joinS [45] ((cs ++ [low + f]) :: ([low + l] ++ h) :: r) = cs ++ (low + f) :: 45 :: (low + l) :: joinS [45] (h :: r) := by
        rw [joinS_two, joinS_app]; simp
      refine ⟨cs ++ [low + f], ([low + l] ++ h) :: r, by rw [List.append_assoc], ?_, fun s => ?_, g⟩
      · rw [hj]
        intro e
        cases cs with
        | nil => simp at e; (first | lia | omega)
        | cons b cs => simp at e; subst e; exact h45 (by simp)
      · rw [hj, tk_app (by simp; (first | lia | omega)) h45, tk_range, e3 s, List.any_cons]
        rfl
/-! sizes and signs of the merged chunks -/
theorem mstep_len (c : List Nat) (M : List (List Nat)) : (mstep c M).flatten.length ≤ c.length + M.flatten.length ∧ (mstep c M).length ≤ 1 + M.length := by
  unfold mstep
  split
  · simp
  · split
    · simp; (first | lia | omega)
    · simp; lia
theorem mergeF_len : ∀ (F M : List (List Nat)), (mergeF F M).flatten.length ≤ F.flatten.length + M.flatten.length ∧ (mergeF F M).length ≤ F.length + M.length
  | [], M => by simp [mergeF]
  | c :: F, M => by
    have h1 := mstep_len c (mergeF F M)
    have h2 := mergeF_len F M
    have e : mergeF (c :: F) M = mstep c (mergeF F M) := rfl
    rw [e]
    simp only [List.flatten_cons, List.length_append, List.length_cons]
    lia
set_option tactic.hygienic true in
theorem mstep_mem {P : Nat → Prop} {c : List Nat} {M : List (List Nat)} (hc : ∀ x ∈ c, P x) (hM : ∀ l ∈ M, ∀ x ∈ l, P x) : ∀ l ∈ mstep c M, ∀ x ∈ l, P x := by
  unfold mstep
  split
  · intro l hl x hx
    rw [List.mem_singleton] at hl
    subst hl
    exact hc x hx
  · rename_i h r
    split
    · intro l hl x hx
      rcases List.mem_cons.mp hl with q | q
      · subst q
        rcases List.mem_append.mp hx with z | z
        · exact hc x (List.dropLast_subset _ z)
        · exact hM h (by simp) x (List.mem_of_mem_tail z)
      · exact hM l (List.mem_cons_of_mem _ q) x hx
    · intro l hl x hx
      rcases List.mem_cons.mp hl with q | q
      · subst q; exact hc x hx
      · exact hM l q x hx
theorem mergeF_mem {P : Nat → Prop} : ∀ {F M : List (List Nat)}, (∀ l ∈ F, ∀ x ∈ l, P x) → (∀ l ∈ M, ∀ x ∈ l, P x) → ∀ l ∈ mergeF F M, ∀ x ∈ l, P x
  | [], _, _, h => h
  | c :: F, M, hF, hM => mstep_mem (hF c (by simp)) (mergeF_mem (fun l hl => hF l (List.mem_cons_of_mem _ hl)) hM)
theorem chunksP_mem {P : Nat → Prop} {low : Nat} (hP : ∀ x, low ≤ x → P x) : ∀ {ms : List Mem} {cur : List Nat}, (∀ x ∈ cur, P x) → (∀ l ∈ (chunksP low cur ms).1, ∀ x ∈ l, P x) ∧ ∀ x ∈ (chunksP low cur ms).2, P x
  | [], cur, h => ⟨fun l hl => by simp [chunksP] at hl, h⟩
  | (f, l, false) :: ms, cur, h => chunksP_mem hP (ms := ms) (cur := cur ++ [low + f]) (fun x hx => by
      rcases List.mem_append.mp hx with q | q
      · exact h x q
      · rw [List.mem_singleton] at q; subst q; exact hP _ (by (first | lia | omega)))
  | (f, l, true) :: ms, cur, h => by
    have ih := chunksP_mem hP (ms := ms) (cur := [low + l]) (fun x hx => by rw [List.mem_singleton] at hx; subst hx; exact hP _ (by (first | lia | omega)))
    refine ⟨fun z hz x hx => ?_, ih.2⟩
    rcases List.mem_cons.mp (show z ∈ (cur ++ [low + f]) :: (chunksP low [low + l] ms).1 from hz) with q | q
    · subst q
      rcases List.mem_append.mp hx with q | q
      · exact h x q
      · rw [List.mem_singleton] at q; subst q; exact hP _ (by (first | lia | omega))
    · exact ih.1 z q x hx
theorem chunksP_len {low : Nat} : ∀ {ms : List Mem} {cur : List Nat}, (chunksP low cur ms).1.flatten.length + (chunksP low cur ms).2.length ≤ cur.length + 2 * ms.length ∧ (chunksP low cur ms).1.length ≤ ms.length
  | [], cur => by simp [chunksP]
  | (f, l, false) :: ms, cur => by
    have ih := chunksP_len (low := low) (ms := ms) (cur := cur ++ [low + f])
    have e : chunksP low cur ((f, l, false) :: ms) = chunksP low (cur ++ [low + f]) ms := rfl
    rw [e]
    simp only [List.length_append, List.length_cons, List.length_nil] at ih ⊢
    lia
  | (f, l, true) :: ms, cur => by
    have ih := chunksP_len (low := low) (ms := ms) (cur := [low + l])
    have c1 : (chunksP low cur ((f, l, true) :: ms)).1 = (cur ++ [low + f]) :: (chunksP low [low + l] ms).1 := rfl
    have c2 : (chunksP low cur ((f, l, true) :: ms)).2 = (chunksP low [low + l] ms).2 := rfl
    rw [c1, c2]
    simp only [List.flatten_cons, List.length_append, List.length_cons, List.length_nil] at ih ⊢
    lia
/-- from goodF to the loop's form -/
theorem goodM_snoc {c : List Nat} : ∀ {B M : List (List Nat)}, goodM B M → (∃ a x, c = a ++ [x] ∧ a.length ≤ 1000) → (∃ h t r, B.foldl (fun M c => mstep c M) M = (h :: t) :: r ∧ t.length ≤ 1000) → goodM (B ++ [c]) M
  | [], M, _, h1, h2 => ⟨h1, h2, trivial⟩
  | b :: B, M, hg, h1, h2 => ⟨hg.1, hg.2.1, goodM_snoc hg.2.2 h1 h2⟩
theorem foldl_merge (F M : List (List Nat)) : F.reverse.foldl (fun M c => mstep c M) M = mergeF F M := by
  rw [List.foldl_reverse]; rfl
theorem goodM_of {M : List (List Nat)} : ∀ {F : List (List Nat)}, F.flatten.length + M.flatten.length ≤ 500 → goodF F M → goodM F.reverse M
  | [], _, _ => trivial
  | c :: F, hl, hg => by
    refine nn fun no => ?_
    obtain ⟨⟨a, x, rfl⟩, ⟨h, t, r, e⟩, g⟩ := hg
    refine no ?_
    simp only [List.flatten_cons, List.length_append, List.length_cons, List.length_nil] at hl
    rw [List.reverse_cons]
    refine goodM_snoc (goodM_of (by (first | lia | omega)) g) ⟨a, x, rfl, by (first | lia | omega)⟩ ⟨h, t, r, by rw [foldl_merge, e], ?_⟩
    have := (mergeF_len F M).1
    rw [e] at this
    simp only [List.flatten_cons, List.length_append, List.length_cons] at this
    lia
end Mine
namespace Mine
open _root_.PySem

theorem p_r3 {led : List PObj} {a b c : Int} : primEv led .range3 [.int a, .int b, .int c] = if c = -1 ∧ -ibig < a ∧ a < ibig ∧ -ibig < b ∧ b < ibig then some (.range a b c) else none := rfl
theorem r3_ok {led : List PObj} {n : Nat} (h : n < 1000) : primEv led .range3 [.int n, .int 0, .int (-1)] = some (.range n 0 (-1)) := by
  rw [p_r3, if_pos ⟨rfl, by unfold ibig; (first | lia | omega), by unfold ibig; (first | lia | omega), by decide, by decide⟩]
theorem downInts_len (a : Int) : ∀ n : Nat, (downInts a n).length = n
  | 0 => rfl
  | n + 1 => by rw [downInts, List.length_cons, downInts_len (a - 1) n]
theorem iter_down {n : Nat} (h : n < 1000) : iterOf (.range n 0 (-1)) = some ((downInts n n).map .int) := by
  have e : rangeInts n 0 (-1) = some (downInts n n) := by
    unfold rangeInts
    rw [if_neg (by rw [Decidable.not_not]; exact ⟨by unfold ibig; (first | lia | omega), by unfold ibig; (first | lia | omega), by decide, by decide⟩), if_neg (by decide), if_pos rfl, if_pos (by unfold big; (first | lia | omega))]
    have : ((n : Int) - 0).toNat = n := by lia
    rw [this]
  have e2 : iterOf (.range n 0 (-1)) = (rangeInts n 0 (-1)).map (fun l => l.map PV.int) := rfl
  rw [e2, e]; rfl
theorem joinEsc_ok {led : List PObj} {k : Nat} {l : List (List Nat)} (h : led[k]? = some (.list (l.map .str))) (h1 : l.length ≤ 64) (h2 : ∀ s ∈ l, s.length ≤ 64 ∧ 92 ∉ s ∧ 45 ∉ s) : primEv led .joinEsc [.ref k] = some (.str (joinS [45] l)) := by
  have e := listOf_at h
  show (listOf led (.ref k)).bind (fun xs => (texts xs).bind fun l => if l.length ≤ 64 ∧ l.all (fun s => decide (s.length ≤ 64) && !s.contains 92 && !s.contains 45) then some (PV.str (joinS [45] l)) else none) = _
  rw [e]
  have ht : texts (l.map PV.str) = some l := by
    have := texts_map (fun x : List Nat => x) l
    simpa using this
  show (texts (l.map PV.str)).bind _ = _
  rw [ht]
  have hc : l.all (fun s => decide (s.length ≤ 64) && !s.contains 92 && !s.contains 45) = true := by
    rw [List.all_eq_true]
    intro s hs
    refine nn fun no => ?_
    obtain ⟨g1, g2, g3⟩ := h2 s hs
    refine no ?_
    simp [g1, g2, g3]
  exact if_pos ⟨h1, hc⟩
theorem r3_it {n : Nat} (h : n < 1000) : ∃ z, (∀ led, primEv led .range3 [.int n, .int 0, .int (-1)] = some z) ∧ iterOf z = some ((downInts n n).map .int) := ⟨_, fun _ => r3_ok h, iter_down h⟩
theorem last_ne {low : Nat} : ∀ {ms : List Mem} {cur : List Nat}, (cur ≠ [] ∨ ms ≠ []) → (chunksP low cur ms).2 ≠ []
  | [], cur, h => by rcases h with h | h; exact h; exact absurd rfl h
  | (f, l, false) :: ms, cur, _ => last_ne (ms := ms) (cur := cur ++ [low + f]) (.inl (by simp))
  | (f, l, true) :: ms, cur, _ => last_ne (ms := ms) (cur := [low + l]) (.inl (by simp))
noncomputable def chunkSt (low : Nat) (cur : List Nat) (ms : List Mem) : List Nat := joinS [45] (mergeF (chunksP low cur ms).1 [(chunksP low cur ms).2])
noncomputable def trCh2 : PS := match trCh with
  | .seq _ (.seq _ r) => r
  | _ => .nil
theorem merge_loop' {C : Orac} {xs : List PV} {K : Fl → St → Prop} {F M : List (List Nat)} {env : Vars} (hg : goodM F.reverse M) (hl : F.length + M.length ≤ 100) (h33 : env 33 = some (.ref 1))
    (k : ∀ env', (∀ y, y ≠ 34 → env' y = env y) → K .next ⟨env', [.list xs, .list ((mergeF F M).map .str)]⟩) :
    forW (put1 34) (wS C 400 trMerge) ((downInts F.length F.length).map .int) ⟨env, [.list xs, .list (F.map .str ++ M.map .str)]⟩ K := by
  have := merge_loop (C := C) (xs := xs) (K := K) F.reverse M env hg (by rw [List.length_reverse]; exact hl) h33 (by rw [foldl_merge]; exact k)
  rw [List.reverse_reverse, List.length_reverse, List.map_append] at this
  exact this
/-- the bracket's inner text, with a hyphen in it -/
theorem tr_ch {env : Vars} {pat pre x post cur : List Nat} {xs : List PV} {low : Nat} {ms : List Mem} {K : Fl → St → Prop} (hlow : 128 ≤ low) (hp : pat = pre ++ 91 :: (x ++ 93 :: post)) (hl : pat.length ≤ 300) (hx : x = cur ++ stT low ms) (hcur : cur = [33] ∨ cur = []) (hms : ms ≠ []) (hml : ms.length ≤ 3) (hw : ∀ m ∈ ms, m.2.2 = false → m.2.1 = m.1) (T : TrSt env pat (pre.length + 1)) (h0 : env 0 = some (.int (pre.length + 1 + x.length : Nat)))
    (k : ∀ env₂ i₂, TrSt env₂ pat i₂ → env₂ 0 = some (.int (pre.length + 1 + x.length : Nat)) → env₂ 32 = some (.str (chunkSt low cur ms)) → K .next ⟨env₂, [.list xs, .list ((mergeF (chunksP low cur ms).1 [(chunksP low cur ms).2]).map .str)]⟩) : wS (orac 4) 400 trCh ⟨env, [.list xs]⟩ K := by
  obtain ⟨h25, h29, h31, hr2, h28⟩ := T
  have hP1 : (pre ++ [91]).length = pre.length + 1 := List.length_append
  have hp1 : pat = (pre ++ [91]) ++ (cur ++ stT low ms) ++ 93 :: post := by rw [hp, hx]; simp
  have hxl : x.length = (cur ++ stT low ms).length := by rw [hx]
  have hcur1 : cur.length ≤ 1 := by rcases hcur with q | q <;> rw [q] <;> decide
  have h45 : 45 ∉ cur := by rcases hcur with q | q <;> rw [q] <;> decide
  have main : ∀ z : Int, z = (pre.length + 1 + cur.length + 1 : Nat) → wS (orac 4) 400 trCh2 ⟨setV (setV env 33 (.ref 1)) 34 (.int z), [.list xs, .list []]⟩ K := by
    rintro z rfl
    refine LoopW.mk (find_loop (C := orac 4) hlow (post := post) hl (xs := xs) ms (pre ++ [91]) cur (pre.length + 1 + cur.length + 1) _ [] 400 hp1 h45 (by (first | lia | omega)) (by rw [List.length_nil]; (first | lia | omega)) (by rw [hP1]; lia) (by rw [hP1]; lia)
      h25 (by rw [hP1]; exact h28) rfl (by rw [hP1, ← hxl]; exact h0) rfl fun env₁ pre' w2 w3 w4 w5 => ?_)
    rw [List.nil_append]
    have hLn := last_ne (low := low) (cur := cur) (.inr hms)
    have hcl := chunksP_len (low := low) (ms := ms) (cur := cur)
    refine nn fun no => ?_
    obtain ⟨hh, rr, m1, m2, m3, m4⟩ := mspec hlow ms cur [] (by decide) hw
    refine no ?_
    rw [List.append_nil] at m1 m4
    have hcm := chunksP_mem (P := fun y => y = 33 ∨ 128 ≤ y) (low := low) (fun y hy => .inr (by lia)) (ms := ms) (cur := cur) (by rcases hcur with q | q <;> rw [q] <;> simp)
    unfold chunkSt at k
    generalize (chunksP low cur ms).1 = F at *
    generalize (chunksP low cur ms).2 = L at *
    have hFl : F.length ≤ 3 := by (first | lia | omega)
    have hLl : L.length ≤ 4096 := by (first | lia | omega)
    have g25 : env₁ 25 = some (.str pat) := (w5 _ (by decide) (by decide)).trans h25
    have g29 : env₁ 29 = some (.int pat.length) := (w5 _ (by decide) (by decide)).trans h29
    have g31 : env₁ 31 = some (.meth 0) := (w5 _ (by decide) (by decide)).trans h31
    have g2 : env₁ 2 = some (.ref 0) := (w5 _ (by decide) (by decide)).trans hr2
    have g0 : env₁ 0 = some (.int (pre.length + 1 + x.length : Nat)) := (w5 _ (by decide) (by decide)).trans h0
    have g33 : env₁ 33 = some (.ref 1) := w5 _ (by decide) (by decide)
    have hFm : (F.map PV.str).length ≤ 4096 := by rw [List.length_map]; (first | lia | omega)
    have hgM := goodM_of (F := F) (M := [L]) (by simp only [List.flatten_cons, List.flatten_nil, List.append_nil]; (first | lia | omega)) m4
    have hml2 := mergeF_len F [L]
    simp only [List.length_cons, List.length_nil, List.flatten_cons, List.flatten_nil, List.append_nil] at hml2
    have hmem := mergeF_mem hcm.1 (M := [L]) (fun l hl => by rw [List.mem_singleton] at hl; subst hl; exact hcm.2)
    have hFL2 : (F.map PV.str ++ [PV.str L]).length = F.length + 1 := by rw [List.length_append, List.length_map]; rfl
    have hle : L.isEmpty = false := by
      cases L with
      | nil => exact absurd rfl hLn
      | cons _ _ => rfl
    obtain ⟨zr, hz1, hz2⟩ := r3_it (n := F.length) (by (first | lia | omega))
    refine oW_eq g25 (oW_eq w3 (oW_eq g0 (op_is (slice_mid' (pre := pre') (x := L) (post := 93 :: post) w2 (by (first | lia | omega)) rfl (by rw [← w4, hP1, hxl])) (oW_eq (t_str hLl) (bW_t (by rw [hle]; rfl) (refW_eq g33 (And.intro hFm (oW_eq g33 (op_is (z := .int (F.length + 1 : Nat)) ?_ (val_is (show ((F.length + 1 : Nat) : Int) - 1 = F.length by lia) (op_is (hz1 _) (oW_eq hz2 (And.intro (by rw [List.length_map, downInts_len]; exact Nat.le_trans hFl (by decide)) (LoopW.mk (merge_loop' hgM (by rw [List.length_singleton]; (first | lia | omega)) g33 fun env₃ l2 => ?_)))))))))))))))
    · show (if (F.map PV.str ++ [PV.str L]).length ≤ big then some (PV.int (F.map PV.str ++ [PV.str L]).length) else none) = _
      rw [hFL2]; exact if_pos (show _ ≤ 4096 by (first | lia | omega))
    refine oW_eq ((l2 33 (by decide)).trans g33) (op_is (joinEsc_ok rfl (by (first | lia | omega)) fun s hs => ⟨?_, fun q => ?_, fun q => ?_⟩) (k _ pre'.length ⟨(l2 25 (by decide)).trans g25, (l2 29 (by decide)).trans g29, (l2 31 (by decide)).trans g31, (l2 2 (by decide)).trans g2, (l2 28 (by decide)).trans w3⟩ ((l2 0 (by decide)).trans g0) rfl))
    · have : s.length ≤ (mergeF F [L]).flatten.length := (List.sublist_flatten_of_mem hs).length_le
      (first | lia | omega)
    · have := hmem s hs _ q; lia
    · have := hmem s hs _ q; lia
  have hfst : ∃ c, pat[pre.length + 1]? = some c ∧ ((c = 33 ∧ cur = [33]) ∨ (c ≠ 33 ∧ cur = [])) := by
    rcases hcur with q | q
    · exact ⟨33, by rw [hp1, q, List.append_assoc]; exact get_pre (k := 0) hP1.symm, .inl ⟨rfl, q⟩⟩
    · cases ms with
      | nil => exact absurd rfl hms
      | cons m ms =>
        refine nn fun no => ?_
        obtain ⟨f, l, b⟩ := m
        refine no ?_
        exact ⟨low + f, by rw [hp1, q, List.append_assoc]; exact (get_pre (k := 0) hP1.symm).trans (by cases b <;> rfl), .inr ⟨by lia, q⟩⟩
  obtain ⟨c, hc, hcc⟩ := hfst
  refine oW_eq h25 (oW_eq h28 (op_is (idx_str (by (first | lia | omega)) hc) ?_))
  rcases hcc with ⟨q1, q2⟩ | ⟨q1, q2⟩
  · subst q1
    refine b_t rfl (oW_eq h28 (main _ ?_))
    rw [q2, List.length_singleton]; (first | lia | omega)
  · refine b_f (one_ne q1) (oW_eq h28 (main _ ?_))
    rw [q2, List.length_nil]; (first | lia | omega)
end Mine
namespace Mine
open _root_.PySem

noncomputable def bang (barred : Bool) : List Nat := if barred then [33] else []
theorem bang_or (b : Bool) : bang b = [33] ∨ bang b = [] := by cases b <;> simp [bang]
theorem brTxt_eq (low : Nat) (b : Bool) (ms : List Mem) : brTxt low b ms = 91 :: ((bang b ++ stT low ms) ++ [93]) := by
  cases b <;> simp [brTxt, bang, stT]
theorem nowide {low : Nat} : ∀ {ms : List Mem} {cur : List Nat}, (45 ∉ cur ++ stT low ms) → chunksP low cur ms = ([], cur ++ stT low ms)
  | [], cur, _ => by simp [chunksP, stT]
  | (f, l, false) :: ms, cur, h => by
    have e : cur ++ stT low ((f, l, false) :: ms) = (cur ++ [low + f]) ++ stT low ms := by simp [stT, mTxt]
    rw [e] at h ⊢
    rw [← nowide h]; rfl
  | (f, l, true) :: ms, cur, h => by
    exfalso; apply h; simp [stT, mTxt]
noncomputable def brOut (low : Nat) (b : Bool) (ms : List Mem) : List Nat := tailOut (chunkSt low (bang b) ms)
theorem stT_len {low : Nat} : ∀ ms : List Mem, (stT low ms).length ≤ 3 * ms.length
  | [] => by simp [stT]
  | m :: ms => by
    have := stT_len (low := low) ms
    have h : (mTxt low m).length ≤ 3 := by unfold mTxt; split <;> simp
    have e : stT low (m :: ms) = mTxt low m ++ stT low ms := by simp [stT]
    rw [e, List.length_append, List.length_cons]; lia
theorem stT_mem {low : Nat} {ms : List Mem} {x : Nat} (h : x ∈ stT low ms) : x = 45 ∨ low ≤ x := by
  obtain ⟨m, _, hx⟩ := List.mem_flatMap.mp h
  unfold mTxt at hx
  split at hx
  · simp at hx; lia
  · simp at hx; (first | lia | omega)
theorem joinS_mem {x : Nat} : ∀ {l : List (List Nat)}, x ∈ joinS [45] l → x = 45 ∨ ∃ c ∈ l, x ∈ c
  | [], h => by simp [joinS] at h
  | [c], h => .inr ⟨c, by simp, h⟩
  | c :: d :: r, h => by
    rw [joinS_two] at h
    rcases List.mem_append.mp h with q | q
    · rcases List.mem_append.mp q with q | q
      · exact .inr ⟨c, by simp, q⟩
      · left; simpa using q
    · rcases joinS_mem q with z | ⟨e, he, hx⟩
      · exact .inl z
      · exact .inr ⟨e, List.mem_cons_of_mem _ he, hx⟩
theorem joinS_len : ∀ l : List (List Nat), (joinS [45] l).length ≤ l.flatten.length + l.length
  | [] => by simp [joinS]
  | [c] => by simp [joinS]
  | c :: d :: r => by
    have := joinS_len (d :: r)
    rw [joinS_two]
    simp only [List.length_append, List.flatten_cons, List.length_cons, List.length_nil] at this ⊢
    lia
theorem chunkSt_mem {low : Nat} (hlow : 128 ≤ low) {b : Bool} {ms : List Mem} {x : Nat} (h : x ∈ chunkSt low (bang b) ms) : x = 45 ∨ x = 33 ∨ 128 ≤ x := by
  rcases joinS_mem h with q | ⟨c, hc, hx⟩
  · exact .inl q
  · have := chunksP_mem (P := fun y => y = 33 ∨ 128 ≤ y) (low := low) (fun y hy => .inr (by (first | lia | omega))) (ms := ms) (cur := bang b) (by rcases bang_or b with q | q <;> rw [q] <;> simp)
    exact .inr (mergeF_mem this.1 (fun l hl => by rw [List.mem_singleton] at hl; subst hl; exact this.2) c hc x hx)
theorem chunkSt_len {low : Nat} {b : Bool} {ms : List Mem} (h : ms.length ≤ 3) : (chunkSt low (bang b) ms).length ≤ 20 := by
  have h1 := joinS_len (mergeF (chunksP low (bang b) ms).1 [(chunksP low (bang b) ms).2])
  have h2 := mergeF_len (chunksP low (bang b) ms).1 [(chunksP low (bang b) ms).2]
  have h3 := chunksP_len (low := low) (ms := ms) (cur := bang b)
  have h4 : (bang b).length ≤ 1 := by rcases bang_or b with q | q <;> rw [q] <;> simp
  simp only [List.flatten_cons, List.flatten_nil, List.append_nil, List.length_cons, List.length_nil] at h2
  unfold chunkSt
  lia
theorem p_rep {led : List PObj} {s : List Nat} (h : s.length ≤ 4096) (h92 : s.contains 92 = false) : primEv led .replace [.str s, .str [92], .str [92, 92]] = some (.str s) := if_pos ⟨h, h92⟩
theorem tr_bracket {env : Vars} {pat pre post : List Nat} {xs : List PV} {low : Nat} {b : Bool} {ms : List Mem} {K : Fl → St → Prop} (hlow : 128 ≤ low) (hp : pat = pre ++ brTxt low b ms ++ post) (hl : pat.length ≤ 300) (hms : ms ≠ []) (hml : ms.length ≤ 3) (hw : ∀ m ∈ ms, m.2.2 = false → m.2.1 = m.1) (hxs : xs.length ≤ 4096) (T : TrSt env pat pre.length)
    (k : ∀ env' more', TrSt env' pat (pre ++ brTxt low b ms).length → K .next ⟨env', .list (xs ++ [.str (brOut low b ms)]) :: more'⟩) : wS (orac 4) 400 trB ⟨env, [.list xs]⟩ K := by
  rw [brTxt_eq] at hp k
  have hp1 : pat = pre ++ 91 :: ((bang b ++ stT low ms) ++ 93 :: post) := by rw [hp]; simp
  have hb : ∀ x ∈ bang b, x = 33 := by cases b <;> simp [bang]
  have hmem : ∀ x ∈ bang b ++ stT low ms, x = 33 ∨ x = 45 ∨ 128 ≤ x := fun x hx => by
    rcases List.mem_append.mp hx with q | q
    · exact .inl (hb x q)
    · rcases stT_mem q with q | q
      · exact .inr (.inl q)
      · exact .inr (.inr (by (first | lia | omega)))
  have hxl : (bang b ++ stT low ms).length ≤ 10 := by
    have := stT_len (low := low) ms
    have h4 : (bang b).length ≤ 1 := by rcases bang_or b with q | q <;> rw [q] <;> simp
    rw [List.length_append]; lia
  have hstn : stT low ms ≠ [] := by
    cases ms with
    | nil => exact absurd rfl hms
    | cons m ms => simp [stT, mTxt]
  have h93 : 93 ∉ bang b ++ stT low ms := fun q => by have := hmem _ q; lia
  have h92 : (bang b ++ stT low ms).contains 92 = false := by
    rw [Bool.eq_false_iff]; intro q
    have := hmem _ (List.contains_iff_mem.mp q); lia
  have hx0 : bang b ++ stT low ms ≠ [] := by simp [hstn]
  have hx1 : bang b ++ stT low ms ≠ [33] := by
    intro q
    have h33 : ∀ x ∈ stT low ms, x ≠ 33 := fun x hx => by rcases stT_mem hx with z | z <;> lia
    rcases bang_or b with z | z
    · rw [z] at q
      simp at q
      exact hstn q
    · rw [z, List.nil_append] at q
      exact h33 33 (by rw [q]; simp) rfl
  have hall : (chunkSt low (bang b) ms).all (fun c => decide (c ≠ 38 ∧ c ≠ 124 ∧ c ≠ 126)) = true := by
    rw [List.all_eq_true]
    intro x hx
    have := chunkSt_mem hlow hx
    exact decide_eq_true ⟨by (first | lia | omega), by (first | lia | omega), by (first | lia | omega)⟩
  have hsl := chunkSt_len (low := low) (b := b) hml
  have hlenE : (pre ++ 91 :: (bang b ++ stT low ms ++ [93])).length = pre.length + 1 + (bang b ++ stT low ms).length + 1 := by simp; lia
  rw [hlenE] at k
  by_cases q45 : (bang b ++ stT low ms).contains 45 = true
  · exact tr_br (st := chunkSt low (bang b) ms) (more := []) hp1 hl h93 hx0 hx1 hxs (by (first | lia | omega)) hall T (fun env₁ K T₁ g0 g32 kk => oW_eq g32 (bW_f (by rw [q45]; rfl) (tr_ch hlow hp1 hl rfl (bang_or b) hms hml hw T₁ g0 kk))) fun env' => k env' _
  · rw [Bool.not_eq_true] at q45
    have hst : chunkSt low (bang b) ms = bang b ++ stT low ms := by
      have : 45 ∉ bang b ++ stT low ms := fun q => by rw [List.contains_iff_mem.mpr q] at q45; cases q45
      unfold chunkSt
      rw [nowide this]; rfl
    refine tr_br (st := chunkSt low (bang b) ms) (more := []) (more₂ := []) hp1 hl h93 hx0 hx1 hxs (by (first | lia | omega)) hall T (fun env₁ K T₁ g0 g32 kk => ?_) fun env' => k env' _
    rw [hst] at kk
    obtain ⟨t25, t29, t31, t2, t28⟩ := T₁
    exact oW_eq g32 (bW_t (by rw [q45]; rfl) (oW_eq g32 (op_is (p_rep (by lia) h92) (kk _ (pre.length + 1) ⟨t25, t29, t31, t2, t28⟩ g0 rfl))))
noncomputable def partC (c : Nat) : List Nat := if c = 42 ∨ c = 63 ∨ c = 91 then tailOut [c] else escC c
theorem tr_sign {env : Vars} {pat pre post : List Nat} {c : Nat} {xs : List PV} {more : List PObj} {K : Fl → St → Prop} (hc : c < 128) (hp : pat = pre ++ dress c ++ post) (hl : pat.length ≤ 300) (hxs : xs.length ≤ 4096) (T : TrSt env pat pre.length)
    (k : ∀ env', TrSt env' pat (pre ++ dress c).length → K .next ⟨env', .list (xs ++ [.str (partC c)]) :: more⟩) : wS (orac 4) 400 trB ⟨env, .list xs :: more⟩ K := by
  unfold dress at hp k
  unfold partC at k
  by_cases q : c = 42 ∨ c = 63 ∨ c = 91
  · rw [if_pos q] at hp k
    rw [if_pos q] at k
    have hp1 : pat = pre ++ 91 :: ([c] ++ 93 :: post) := by rw [hp, List.append_assoc]; rfl
    rw [show (pre ++ [91, c, 93]).length = pre.length + 1 + [c].length + 1 by rw [List.length_append]; rfl] at k
    refine tr_br (x := [c]) (st := [c]) (more := more) (more₂ := more) hp1 hl (by simp; (first | lia | omega)) (List.cons_ne_nil _ _) (one_ne (by (first | lia | omega))) hxs (lb rfl) (by simp; lia) T (fun env₁ K T₁ g0 g32 kk => ?_) k
    obtain ⟨t25, t29, t31, t2, t28⟩ := T₁
    exact oW_eq g32 (bW_t (show (![c].contains 45) = true by simp; (first | lia | omega)) (oW_eq g32 (op_is (p_rep (show [c].length ≤ 4096 from lb rfl) (by simp; (first | lia | omega))) (kk _ (pre.length + 1) ⟨t25, t29, t31, t2, t28⟩ g0 rfl))))
  · rw [if_neg q] at hp k
    rw [if_neg q, List.length_append] at k
    have hp1 : pat = pre ++ c :: post := by rw [hp, List.append_assoc]; rfl
    subst hp1
    exact tr_plain (more := more) hc (by lia) (by (first | lia | omega)) (by (first | lia | omega)) (by (first | lia | omega)) hxs T k
noncomputable def trC : PE := .cmp .lt (.var 28) (.var 29)
theorem tr_signs {pat post : List Nat} {more : List PObj} {K : Fl → St → Prop} {N : Nat} (hl : pat.length ≤ 300) : ∀ (s pre : List Nat) (env : Vars) (xs : List PV) (n : Nat), n = N + s.length → (∀ c ∈ s, c < 128) → pat = pre ++ s.flatMap dress ++ post → xs.length + s.length ≤ 100 → TrSt env pat pre.length →
    (∀ env', TrSt env' pat (pre ++ s.flatMap dress).length → whileW (wT (orac 4) trC) (wS (orac 4) 400 trB) N ⟨env', .list (xs ++ s.map fun c => .str (partC c)) :: more⟩ K) → whileW (wT (orac 4) trC) (wS (orac 4) 400 trB) n ⟨env, .list xs :: more⟩ K
  | [], pre, env, xs, n, hn, _, _, _, T, k => by
    have := k env (by rw [List.flatMap_nil, List.append_nil]; exact T)
    rw [List.map_nil, List.append_nil] at this
    subst hn
    exact this
  | c :: s, pre, env, xs, n, hn, hc, hp, hx, T, k => by
    rw [List.length_cons] at hx hn
    rw [List.flatMap_cons, ← List.append_assoc] at hp k
    subst hn
    have hp1 : pat = pre ++ dress c ++ (s.flatMap dress ++ post) := by rw [hp, List.append_assoc]
    have hdl : 0 < (dress c).length := by unfold dress; split <;> exact Nat.succ_pos _
    have hpl : pat.length = pre.length + (dress c).length + (s.flatMap dress ++ post).length := by rw [hp1, List.length_append, List.length_append]
    have hlt : (pre.length : Int) < pat.length := by (first | lia | omega)
    obtain ⟨t25, t29, t31, t2, t28⟩ := id T
    refine oW_eq t28 (oW_eq t29 (b_t hlt (tr_sign (more := more) (xs := xs) (hc c List.mem_cons_self) hp1 hl (by (first | lia | omega)) T fun env₁ T₁ => ?_)))
    show whileW (wT (orac 4) trC) (wS (orac 4) 400 trB) (N + s.length) _ K
    refine tr_signs (post := post) hl s (pre ++ dress c) env₁ (xs ++ [.str (partC c)]) (N + s.length) rfl (fun x h => hc x (List.mem_cons_of_mem _ h)) hp (by rw [List.length_append, List.length_singleton]; (first | lia | omega)) T₁ fun env₂ T₂ => ?_
    rw [List.append_assoc]
    exact k env₂ T₂
theorem or_transl {a b : List Nat} {low : Nat} {br : Bool} {ms : List Mem} {K : PV → Prop} (hlow : 128 ≤ low) (ha : a.length ≤ 3) (hb : b.length ≤ 3) (hca : ∀ c ∈ a, c < 128) (hcb : ∀ c ∈ b, c < 128) (hms : ms ≠ []) (hml : ms.length ≤ 3) (hw : ∀ m ∈ ms, m.2.2 = false → m.2.1 = m.1)
    (k : K (.list ((a.map partC ++ [brOut low br ms] ++ b.map partC).map .str))) : orac 5 .transl [.str (a.flatMap dress ++ brTxt low br ms ++ b.flatMap dress), .none, .none] K := by
  have l1 := dress_len a
  have l2 := dress_len b
  have l3 : (brTxt low br ms).length ≤ 20 := by
    have := stT_len (low := low) ms
    have h4 : (bang br).length ≤ 1 := by rcases bang_or br with q | q <;> rw [q] <;> simp
    rw [brTxt_eq]; simp only [List.length_cons, List.length_append, List.length_nil]; lia
  obtain ⟨pat, hp⟩ : ∃ pat, pat = a.flatMap dress ++ brTxt low br ms ++ b.flatMap dress := ⟨_, rfl⟩
  have hpl : pat.length = (a.flatMap dress).length + (brTxt low br ms).length + (b.flatMap dress).length := by rw [hp, List.length_append, List.length_append]
  rw [← hp]
  have hbl : 0 < (brTxt low br ms).length := by rw [brTxt_eq]; exact Nat.succ_pos _
  have hlt : ((a.flatMap dress).length : Int) < pat.length := by (first | lia | omega)
  refine run (And.intro rfl (op_is (len_str (by (first | lia | omega))) (LoopW.mk (tr_signs (post := brTxt low br ms ++ b.flatMap dress) (N := 398 - a.length - b.length + 1 + b.length + 1) (by (first | lia | omega)) a [] _ [] 400 (by lia) hca (by rw [hp, List.append_assoc]; rfl) (by rw [List.length_nil]; (first | lia | omega)) ⟨rfl, rfl, rfl, rfl, rfl⟩ fun env₁ T₁ => ?_))))
  rw [List.nil_append] at T₁
  obtain ⟨t25, t29, t31, t2, t28⟩ := id T₁
  refine oW_eq t28 (oW_eq t29 (b_t hlt (tr_bracket (pre := a.flatMap dress) (post := b.flatMap dress) (xs := a.map fun c => .str (partC c)) hlow hp (by (first | lia | omega)) hms hml hw (by rw [List.length_map]; (first | lia | omega)) T₁ fun env₂ more₂ T₂ => ?_)))
  show whileW (wT (orac 4) trC) (wS (orac 4) 400 trB) (398 - a.length - b.length + 1 + b.length) _ _
  refine tr_signs (post := []) (by (first | lia | omega)) b (a.flatMap dress ++ brTxt low br ms) env₂ ((a.map fun c => .str (partC c)) ++ [.str (brOut low br ms)]) (398 - a.length - b.length + 1 + b.length) rfl hcb (by rw [hp, List.append_nil]) (by rw [List.length_append, List.length_map, List.length_singleton]; (first | lia | omega)) T₂ fun env₃ T₃ => ?_
  rw [← hp] at T₃
  obtain ⟨t25, t29, t31, t2, t28⟩ := T₃
  refine oW_eq t28 (oW_eq t29 (b_f (Int.lt_irrefl _) (oW_eq t28 (oW_eq t29 (gd_i (decide_eq_true rfl) (oW_eq t2 (oW_eq (if_pos ?_) ?_)))))))
  · rw [List.all_eq_true]
    intro v hv
    simp only [List.mem_append, List.mem_map, List.mem_singleton] at hv
    rcases hv with (⟨c, _, rfl⟩ | rfl) | ⟨c, _, rfl⟩ <;> rfl
  · rw [List.map_append, List.map_append, List.map_map, List.map_map] at k
    exact k
end Mine
namespace Mine
open _root_.PySem

noncomputable def tkC : PE := .cmp .lt (.var 34) (.prim .len (.cons (.var 46) .nil))
noncomputable def tkB : PS := .seq (.iff (.cmp .eq (.idx (.var 46) (.var 34)) (.lit (.str [92]))) (.seq (.asg 34 (.bin .add (.var 34) (.lit (.int 1)))) .nil) .nil) (.seq (.iff (.and (.cmp .lt (.bin .add (.var 34) (.lit (.int 2))) (.prim .len (.cons (.var 46) .nil))) (.cmp .eq (.idx (.var 46) (.bin .add (.var 34) (.lit (.int 1)))) (.lit (.str [45])))) (.seq (.asg 45 (.or (.var 45) (.cmp2 .le .le (.idx (.var 46) (.var 34)) (.var 39) (.idx (.var 46) (.bin .add (.var 34) (.lit (.int 2))))))) (.seq (.asg 34 (.bin .add (.var 34) (.lit (.int 3)))) .nil)) (.seq (.asg 45 (.or (.var 45) (.cmp .eq (.idx (.var 46) (.var 34)) (.var 39)))) (.seq (.asg 34 (.bin .add (.var 34) (.lit (.int 1)))) .nil))) .nil)
noncomputable def tkS : PS := .seq (.asg 45 (.or (.var 45) (.cmp .eq (.idx (.var 46) (.var 34)) (.var 39)))) (.seq (.asg 34 (.bin .add (.var 34) (.lit (.int 1)))) .nil)
theorem one_eq {a s : Nat} : decide ([a] = [s]) = decide (a = s) := by
  by_cases h : a = s
  · rw [h, decide_eq_true rfl, decide_eq_true rfl]
  · rw [decide_eq_false h, decide_eq_false (one_ne h)]
theorem le1 (a c : Nat) : (!strLt [a] [c]) = decide (c ≤ a) := by
  rw [strLt1]
  by_cases q : c ≤ a
  · rw [decide_eq_true q, decide_eq_false (by (first | lia | omega))]; rfl
  · rw [decide_eq_false q, decide_eq_true (by (first | lia | omega))]; rfl
theorem tk_loop {C : Orac} {body : List Nat} {s : Nat} {K : Fl → St → Prop} (hbl : body.length ≤ 200) : ∀ (N : Nat) (y A : List Nat) (env : Vars) (f : Bool), body = A ++ y → 92 ∉ y → y.length < N → env 46 = some (.str body) → env 39 = some (.str [s]) → env 34 = some (.int A.length) → env 45 = some (.bool f) →
    (∀ env', env' 45 = some (.bool (f || tk s y)) → (∀ z, z ≠ 34 → z ≠ 45 → env' z = env z) → K .next ⟨env', []⟩) → whileW (wT C tkC) (wS C 400 tkB) N ⟨env, []⟩ K
  | 0, _, _, _, _, _, _, hN, _, _, _, _, _ => absurd hN (Nat.not_lt_zero _)
  | N + 1, [], A, env, f, hb, h92, hN, h46, h39, h34, h45, k => by
    rw [List.append_nil] at hb
    subst hb
    exact oW_eq h34 (oW_eq h46 (op_is (len_str (by (first | lia | omega))) (b_f (Int.lt_irrefl _) (k env (by rw [h45, tk, Bool.or_false]) fun _ _ _ => rfl))))
  | N + 1, a :: r, A, env, f, hb, h92, hN, h46, h39, h34, h45, k => by
    have hl : body.length ≤ 4096 := by (first | lia | omega)
    have hbl2 : body.length = A.length + r.length + 1 := by rw [hb, List.length_append]; rfl
    have i0 : ∀ {led : List PObj}, idxv led (.str body) (.int A.length) = some (.str [a]) := idx_str hl (by rw [hb]; exact get_pre (k := 0) rfl)
    have ha : a ≠ 92 := fun q => h92 (q ▸ List.mem_cons_self)
    have hlt : (A.length : Int) < body.length := by (first | lia | omega)
    rw [List.length_cons] at hN
    -- on to the next round
    have nx : ∀ (X : Bool) (d r' : List Nat), body = (A ++ d) ++ r' → (X || tk s r') = (f || tk s (a :: r)) → r'.length < N → 92 ∉ r' → whileW (wT C tkC) (wS C 400 tkB) N ⟨setV (setV env 45 (.bool X)) 34 (.int (A.length + d.length : Nat)), []⟩ K := fun X d r' e1 e2 e3 e4 =>
      tk_loop hbl N r' (A ++ d) _ X e1 e4 e3 h46 h39 (by rw [List.length_append]; rfl) rfl fun env' g1 g2 => k env' (by rw [g1, e2]) fun z hz hz' => (g2 z hz hz').trans (getV_setV.trans ((if_neg hz).trans (getV_setV.trans (if_neg hz'))))
    have sg : tk s (a :: r) = (decide (a = s) || tk s r) → ∀ {K' : Fl → St → Prop}, (∀ σ', whileW (wT C tkC) (wS C 400 tkB) N σ' K → K' .next σ') → wS C 400 tkS ⟨env, []⟩ K' := fun ht K' hK => by
      have e1 : body = A ++ [a] ++ r := by rw [hb, List.append_assoc]; rfl
      have e4 : 92 ∉ r := fun q => h92 (List.mem_cons_of_mem _ q)
      cases f with
      | true => exact oW_eq h45 (bW_t rfl (oW_eq h34 (hK _ (nx true [a] r e1 rfl (by (first | lia | omega)) e4))))
      | false => exact oW_eq h45 (bW_f rfl (oW_eq h46 (oW_eq h34 (op_is i0 (oW_eq h39 (oW_eq rfl (oW_eq h34 (hK _ (nx (decide ([a] = [s])) [a] r e1 (by rw [one_eq, ht, Bool.false_or]) (by (first | lia | omega)) e4)))))))))
    refine oW_eq h34 (oW_eq h46 (op_is (len_str hl) (b_t hlt (oW_eq h46 (oW_eq h34 (op_is i0 (b_f (one_ne ha) (oW_eq h34 (oW_eq h46 (op_is (len_str hl) ?_))))))))))
    match r, hb, h92, hN, hbl2, k, nx, sg with
    | [], hb, h92, hN, hbl2, k, nx, sg =>
      have g : ¬ ((A.length + 2 : Nat) : Int) < body.length := by rw [List.length_nil] at hbl2; (first | lia | omega)
      exact b_f g (b_f g (sg (by rw [tk]; exact nofun) fun _ h => h))
    | [b], hb, h92, hN, hbl2, k, nx, sg =>
      have g : ¬ ((A.length + 2 : Nat) : Int) < body.length := by rw [List.length_singleton] at hbl2; (first | lia | omega)
      exact b_f g (b_f g (sg (by rw [tk]; exact nofun) fun _ h => h))
    | b :: c :: r', hb, h92, hN, hbl2, k, nx, sg =>
      rw [List.length_cons, List.length_cons] at hbl2 hN
      have i1 : ∀ {led : List PObj}, idxv led (.str body) (.int (A.length + 1 : Nat)) = some (.str [b]) := idx_str hl (by rw [hb]; exact get_pre (k := 1) rfl)
      refine b_t (show ((A.length + 2 : Nat) : Int) < body.length by (first | lia | omega)) (oW_eq h46 (oW_eq h34 (op_is i1 ?_)))
      by_cases q : b = 45
      · subst q
        have i2 : ∀ {led : List PObj}, idxv led (.str body) (.int (A.length + 2 : Nat)) = some (.str [c]) := idx_str hl (by rw [hb]; exact get_pre (k := 2) rfl)
        have e1 : body = A ++ [a, 45, c] ++ r' := by rw [hb, List.append_assoc]; rfl
        have e4 : 92 ∉ r' := fun q => h92 (List.mem_cons_of_mem _ (List.mem_cons_of_mem _ (List.mem_cons_of_mem _ q)))
        rw [tk_range] at nx
        cases f with
        | true => exact b_t rfl (oW_eq h45 (bW_t rfl (oW_eq h34 (nx true [a, 45, c] r' e1 rfl (by (first | lia | omega)) e4))))
        | false =>
          refine b_t rfl (oW_eq h45 (bW_f rfl (oW_eq h46 (oW_eq h34 (op_is i0 (oW_eq h39 ?_))))))
          rw [Bool.false_or] at nx
          by_cases c1 : a ≤ s
          · exact bW_t ((le1 s a).trans (decide_eq_true c1)) (oW_eq h46 (oW_eq h34 (op_is i2 (oW_eq rfl (oW_eq h34 (nx (!strLt [c] [s]) [a, 45, c] r' e1 (by rw [le1, decide_eq_true c1, Bool.true_and]) (by (first | lia | omega)) e4))))))
          · exact bW_f ((le1 s a).trans (decide_eq_false c1)) (oW_eq h34 (nx false [a, 45, c] r' e1 (by rw [decide_eq_false c1, Bool.false_and]) (by (first | lia | omega)) e4))
      · exact b_f (one_ne q) (sg (by rw [tk]; intro c' r'' e; exact q (List.cons.inj e).1) fun _ h => h)
end Mine
namespace Mine
open _root_.PySem

/-- a bracket's part: its body, barred or bare -/
theorem takes_body {y : List Nat} {s : Nat} {b : Bool} (hy : y.length ≤ 100) (h92 : 92 ∉ y) (hne : b = false → ∃ a r, y = a :: r ∧ a ≠ 94) {K : PV → Prop} (k : K (.bool (tk s y != b))) : orac 4 .takes [.str ([91] ++ ((if b then [94] else []) ++ y) ++ [93]), .str [s]] K := by
  obtain ⟨body, hbd⟩ : ∃ body, body = (if b then [94] else []) ++ y := ⟨_, rfl⟩
  rw [← hbd]
  obtain ⟨c, r, hcr⟩ : ∃ c r, body = c :: r := by
    cases b with
    | true => exact ⟨94, y, by rw [hbd]; rfl⟩
    | false =>
      obtain ⟨a, r, e, _⟩ := hne rfl
      exact ⟨a, r, by rw [hbd, e]; rfl⟩
  have hbl : body.length ≤ 101 := by rw [hbd]; cases b <;> simp <;> (first | lia | omega)
  have hcb : [c] = [94] ↔ b = true := by
    cases b with
    | true =>
      have : c = 94 := by rw [hbd] at hcr; simp at hcr; exact hcr.1.symm
      simp [this]
    | false =>
      obtain ⟨a, r', e, h⟩ := hne rfl
      have : c = a := by rw [hbd, e] at hcr; simp at hcr; exact hcr.1.symm
      rw [this]; simp [h]
  have p1 : ¬ ([91] ++ body ++ [93]) = [40, 63, 33, 41] := by rw [List.append_assoc]; simp
  have p2 : ¬ ([91] ++ body ++ [93]) = [46] := by rw [List.append_assoc]; simp
  have hpl : ([91] ++ body ++ [93]).length ≤ 4096 := by simp; (first | lia | omega)
  have i0 : ∀ {led : List PObj}, idxv led (.str ([91] ++ body ++ [93])) (.int 0) = some (.str [91]) := idx_str (p := 0) hpl (by simp)
  have s1 : ∀ {led : List PObj}, slicev led (.str ([91] ++ body ++ [93])) (.int 1) (.int (-1)) = some (.str body) := by
    intro led
    have e1 : clip 0 ([91] ++ body ++ [93]).length (.int 1) = some 1 := by
      show some (if (1 : Int) < 0 then _ else min (1 : Int).toNat ([91] ++ body ++ [93]).length) = _
      rw [if_neg (by (first | lia | omega))]; congr 1
    have e2 : clip ([91] ++ body ++ [93]).length ([91] ++ body ++ [93]).length (.int (-1)) = some (body.length + 1) := by
      show some (if (-1 : Int) < 0 then (-1 + (([91] ++ body ++ [93]).length : Int)).toNat else _) = _
      rw [if_pos (by (first | lia | omega))]; congr 1; simp; lia
    show (clip 0 ([91] ++ body ++ [93]).length (.int 1)).bind (fun a => (clip ([91] ++ body ++ [93]).length ([91] ++ body ++ [93]).length (.int (-1))).bind fun b => if ([91] ++ body ++ [93]).length ≤ big then some (PV.str (cut a b ([91] ++ body ++ [93]))) else none) = _
    rw [e1, e2]
    show (if ([91] ++ body ++ [93]).length ≤ big then some (PV.str (cut 1 (body.length + 1) ([91] ++ body ++ [93]))) else none) = _
    rw [if_pos (show _ ≤ big from hpl)]
    unfold cut
    congr 2
    rw [show body.length + 1 = ([91] ++ body).length by simp, List.take_left]; rfl
  have i1 : ∀ {led : List PObj}, idxv led (.str body) (.int 0) = some (.str [c]) := idx_str (p := 0) (by (first | lia | omega)) (by rw [hcr]; rfl)
  generalize [91] ++ body ++ [93] = part at *
  have hd : decide ([c] = [94]) = b := by
    cases b with
    | true => exact decide_eq_true (hcb.mpr rfl)
    | false => exact decide_eq_false fun q => nomatch hcb.mp q
  refine run (And.intro rfl (b_f p1 (b_f p2 (op_is i0 (b_f (by decide) (op_is i0 (bW_f rfl (op_is s1 (op_is i1 ?_))))))))) 
  cases b with
  | true => exact bW_t hd (LoopW.mk (tk_loop (body := body) (s := s) (by (first | lia | omega)) 400 y [94] _ false hbd h92 (by (first | lia | omega)) rfl rfl rfl rfl fun env' w2 w3 => oW_eq w2 (oW_eq (w3 40 (by decide) (by decide)) (show K (.bool (tk s y != decide ([c] = [94]))) by rw [hd]; exact k))))
  | false => exact bW_f hd (LoopW.mk (tk_loop (body := body) (s := s) (by (first | lia | omega)) 400 y [] _ false hbd h92 (by (first | lia | omega)) rfl rfl rfl rfl fun env' w2 w3 => oW_eq w2 (oW_eq (w3 40 (by decide) (by decide)) (show K (.bool (tk s y != decide ([c] = [94]))) by rw [hd]; exact k))))
theorem takes_sign {c s : Nat} (hc : c < 128) {K : PV → Prop} (k : K (.bool (decide (c = s)))) : orac 4 .takes [.str (partC c), .str [s]] K := by
  have hd : ∀ a : Nat, (tk s [a] != false) = decide (a = s) := fun a => by
    show ((decide (a = s) || false) != false) = _
    cases decide (a = s) <;> rfl
  unfold partC
  by_cases q : c = 42 ∨ c = 63 ∨ c = 91
  · rw [if_pos q]
    rcases q with q | q | q
    · subst q
      exact takes_body (y := [42]) (s := s) (b := false) (lb rfl) (by decide) (fun _ => ⟨42, [], rfl, by decide⟩) (by rw [hd]; exact k)
    · subst q
      exact takes_body (y := [63]) (s := s) (b := false) (lb rfl) (by decide) (fun _ => ⟨63, [], rfl, by decide⟩) (by rw [hd]; exact k)
    · subst q
      rw [← one_eq] at k
      have L1 : ∀ {led : List PObj}, primEv led .len [.str [92, 91]] = some (.int 2) := rfl
      refine run (And.intro rfl (b_f (by decide) (b_f (by decide) (op_is (z := .str [91]) rfl (b_f (by decide) (op_is (z := .str [91]) rfl (bW_f rfl (op_is (z := .str [92, 91]) rfl (op_is (z := .str [92]) rfl (b_f (by decide) (LoopW.mk ?_)))))))))))
      refine op_is L1 (b_t (by decide) (op_is (z := .str [92]) rfl (b_t rfl (op_is L1 (b_f (by decide) (b_f (by decide) (bW_f rfl (op_is (z := .str [91]) rfl (op_is L1 (b_f (by decide) ?_))))))))))
      show K (.bool (decide ([91] = [s]) != false))
      rw [show (decide ([91] = [s]) != false) = decide ([91] = [s]) by cases decide ([91] = [s]) <;> rfl]; exact k
  · rw [if_neg q]
    rw [← one_eq] at k
    unfold escC
    by_cases hsp : specials.contains c = true
    · rw [if_pos hsp]
      exact run (And.intro rfl (b_f (fun e => nomatch (List.cons.inj e).1) (b_f (fun e => nomatch (List.cons.inj e).1) (op_is (z := .str [92]) rfl (b_t rfl (op_is (z := .str [c]) rfl k))))))
    · rw [if_neg hsp]
      have n40 : c ≠ 46 ∧ c ≠ 92 ∧ c ≠ 91 := ⟨fun e => hsp (by rw [e]; decide), fun e => hsp (by rw [e]; decide), fun e => hsp (by rw [e]; decide)⟩
      exact run (And.intro rfl (b_f (fun e => nomatch (List.cons.inj e).2) (b_f (one_ne n40.1) (op_is (z := .str [c]) rfl (b_f (one_ne n40.2.1) (op_is (z := .str [c]) rfl (bW_t (show (!decide ([c] = [91])) = true by rw [decide_eq_false (one_ne n40.2.2)]; rfl) k)))))))
theorem takes_br {low s : Nat} {b : Bool} {ms : List Mem} (hlow : 128 ≤ low) (hml : ms.length ≤ 3) (hw : ∀ m ∈ ms, m.2.2 = false → m.2.1 = m.1) {K : PV → Prop} (k : K (.bool ((ms.any (inM low s)) != b))) : orac 4 .takes [.str (brOut low b ms), .str [s]] K := by
  obtain ⟨h, r, e1, e2, e3, _⟩ := mspec hlow ms (bang b) [] (by simp) hw
  rw [List.append_nil] at e1
  have e3 := e3 s
  rw [List.any_nil, Bool.false_or] at e3
  rw [← e3] at k
  have hst : chunkSt low (bang b) ms = bang b ++ joinS [45] (h :: r) := by unfold chunkSt; rw [e1, joinS_app]
  have hlen := chunkSt_len (low := low) (b := b) hml
  have hmem : ∀ x ∈ joinS [45] (h :: r), x = 45 ∨ x = 33 ∨ 128 ≤ x := fun x hx => chunkSt_mem hlow (b := b) (ms := ms) (by rw [hst]; exact List.mem_append_right _ hx)
  unfold brOut
  rw [hst] at hlen ⊢
  generalize joinS [45] (h :: r) = y at *
  have hy : y.length ≤ 100 := by rw [List.length_append] at hlen; (first | lia | omega)
  have h92 : 92 ∉ y := fun q => by have := hmem _ q; lia
  cases b with
  | true =>
    have eb : bang true = [33] := rfl
    rw [eb]
    cases y with
    | nil =>
      have e : tailOut ([33] ++ []) = [46] := rfl
      rw [e]
      have p1 : ¬ ([46] : List Nat) = [40, 63, 33, 41] := by decide
      exact run (And.intro rfl (b_f p1 (b_t rfl k)))
    | cons a r =>
      have e : tailOut ([33] ++ a :: r) = [91] ++ ((if true then [94] else []) ++ a :: r) ++ [93] := by
        unfold tailOut
        rw [if_neg (by simp), if_neg (by simp)]
        rfl
      rw [e]
      exact takes_body (b := true) hy h92 nofun k
  | false =>
    have eb : bang false = [] := rfl
    rw [eb, List.nil_append]
    cases y with
    | nil =>
      have e : tailOut [] = [40, 63, 33, 41] := rfl
      rw [e]
      exact run (And.intro rfl (b_t rfl k))
    | cons a r =>
      have ha : a ≠ 33 := by
        -- no bang here: the signs are hyphens or members
        intro q
        have hm2 : ∀ x ∈ chunkSt low (bang false) ms, x = 45 ∨ 128 ≤ x := fun x hx => by
          rcases joinS_mem hx with z | ⟨c, hc, hx⟩
          · exact .inl z
          · have := chunksP_mem (P := fun y => 128 ≤ y) (low := low) (fun y hy => by lia) (ms := ms) (cur := bang false) (by simp [bang])
            exact .inr (mergeF_mem this.1 (fun l hl => by rw [List.mem_singleton] at hl; subst hl; exact this.2) c hc x hx)
        have := hm2 a (by rw [hst, eb]; simp)
        (first | lia | omega)
      have hma := hmem a (by simp)
      have e : tailOut (a :: r) = [91] ++ ((if false then [94] else []) ++ a :: r) ++ [93] := by
        unfold tailOut
        rw [if_neg (by simp), if_neg (by simp [ha])]
        show [91] ++ (if a = 33 then 94 :: r else if a = 94 ∨ a = 91 then 92 :: a :: r else a :: r) ++ [93] = _
        rw [if_neg ha, if_neg (by lia)]
        rfl
      rw [e]
      exact takes_body (b := false) hy h92 (fun _ => ⟨a, r, rfl, by (first | lia | omega)⟩) k
noncomputable def alB : PS := .seq (.iff (.not (.call .takes (.cons (.idx (.var 47) (.var 34)) (.cons (.idx (.var 48) (.var 34)) .nil)))) (.seq (.ret (.lit (.bool false))) .nil) .nil) .nil
theorem idx_list {led : List PObj} {xs : List PV} {j : Nat} {v : PV} (hl : xs.length ≤ 4096) (hv : xs[j]? = some v) : idxv led (.list xs) (.int j) = some v := by
  have hj : j < xs.length := by
    rcases Nat.lt_or_ge j xs.length with q | q
    · exact q
    · rw [List.getElem?_eq_none q] at hv; cases hv
  show (if xs.length ≤ big then (pyIdx j xs.length).bind fun k => xs[k]? else none) = _
  rw [if_pos (show xs.length ≤ big from hl), pyIdx_nat hj]
  exact hv
theorem all_loop {ps : List (List Nat)} {nm : List Nat} {K : Fl → St → Prop} (hp : ps.length ≤ 100) (hn : nm.length ≤ 100) : ∀ (ts : List Bool) (i : Nat) (env : Vars), env 47 = some (.list (ps.map .str)) → env 48 = some (.str nm) → (∀ k t, ts[k]? = some t → ∃ p c, ps[i + k]? = some p ∧ nm[i + k]? = some c ∧ ∀ {K : PV → Prop}, K (.bool t) → orac 4 .takes [.str p, .str [c]] K) →
    (∀ env', ts.all id = true → K .next ⟨env', []⟩) → (∀ env', ts.all id = false → K (.ret (.bool false)) ⟨env', []⟩) → forW (put1 34) (wS (orac 4) 400 alB) ((upInts i ts.length).map .int) ⟨env, []⟩ K
  | [], i, env, _, _, _, k1, _ => k1 env rfl
  | t :: ts, i, env, h47, h48, h, k1, k2 => by
    refine nn fun no => ?_
    obtain ⟨p, c, e1, e2, e3⟩ := h 0 t rfl
    refine no ?_
    rw [Nat.add_zero] at e1 e2
    refine oW_eq h47 (op_is (idx_list (j := i) (v := .str p) (by rw [List.length_map]; (first | lia | omega)) (by rw [List.getElem?_map, e1]; rfl)) (oW_eq h48 (op_is (idx_str (p := i) (c := c) (by (first | lia | omega)) e2) (CallW.mk (e3 ?_)))))
    cases t with
    | true =>
      refine bW_f rfl (And.intro rfl (all_loop hp hn ts (i + 1) _ h47 h48 (fun k t hk => ?_) k1 k2))
      refine nn fun no => ?_
      obtain ⟨p, c, z1, z2, z3⟩ := h (k + 1) t hk
      refine no ?_
      exact ⟨p, c, by rw [← z1]; congr 1; (first | lia | omega), by rw [← z2]; congr 1; (first | lia | omega), z3⟩
    | false => exact bW_t rfl (And.intro rfl (k2 _ rfl))
theorem upInts_len (a : Int) : ∀ n : Nat, (upInts a n).length = n
  | 0 => rfl
  | n + 1 => by rw [upInts, List.length_cons, upInts_len (a + 1) n]
theorem range_up {a b : Int} (h1 : -100000 ≤ a) (h2 : b ≤ 100000) (h3 : a ≤ b) (h4 : b - a ≤ 4096) : iterOf (.range a b 1) = some ((upInts a (b - a).toNat).map .int) := by
  have e : rangeInts a b 1 = some (upInts a (b - a).toNat) := by
    unfold rangeInts
    rw [if_neg (by rw [Decidable.not_not]; exact ⟨by unfold ibig; (first | lia | omega), by unfold ibig; (first | lia | omega), by unfold ibig; (first | lia | omega), by unfold ibig; (first | lia | omega)⟩), if_pos rfl, if_pos (by unfold big; (first | lia | omega))]
  have e2 : iterOf (.range a b 1) = (rangeInts a b 1).map (fun l => l.map PV.int) := rfl
  rw [e2, e]; rfl
theorem p_r1 {led : List PObj} {b : Int} : primEv led .range1 [.int b] = if -ibig < b ∧ b < ibig then some (.range 0 b 1) else none := rfl
theorem r1_it {n : Nat} (h : n ≤ 4096) : ∃ z, (∀ led, primEv led .range1 [.int n] = some z) ∧ iterOf z = some ((upInts 0 n).map .int) :=
  ⟨.range 0 n 1, fun _ => by rw [p_r1, if_pos ⟨by unfold ibig; (first | lia | omega), by unfold ibig; (first | lia | omega)⟩], by rw [range_up (a := 0) (b := n) (by lia) (by (first | lia | omega)) (by (first | lia | omega)) (by (first | lia | omega)), show ((n : Int) - 0).toNat = n by lia]⟩
theorem or_allTake {ps : List (List Nat)} {nm : List Nat} {ts : List Bool} {K : PV → Prop} (hp : ps.length ≤ 100) (hpn : ps.length = nm.length) (hts : ts.length = ps.length) (h : ∀ (k : Nat) (t : Bool), ts[k]? = some t → ∃ p c, ps[k]? = some p ∧ nm[k]? = some c ∧ ∀ {K : PV → Prop}, K (.bool t) → orac 4 .takes [.str p, .str [c]] K) (k : K (.bool (ts.all id))) : orac 5 .allTake [.list (ps.map .str), .str nm] K := by
  have hl : (ps.map PV.str).length = nm.length := by rw [List.length_map]; exact hpn
  obtain ⟨z, hz1, hz2⟩ := r1_it (n := ts.length) (by (first | lia | omega))
  have hlm : ∀ {led : List PObj}, primEv led .len [.list (ps.map .str)] = some (.int ts.length) := (len_list (by (first | lia | omega))).trans (by rw [hl, hts, hpn])
  refine run (And.intro rfl (op_is hlm (op_is (len_str (by (first | lia | omega))) (bW_f (show (!decide ((ts.length : Int) = nm.length)) = false by rw [decide_eq_true (by lia)]; rfl) (op_is hlm (op_is (hz1 _) (oW_eq hz2 (And.intro (by rw [List.length_map, upInts_len]; show _ ≤ 4096; (first | lia | omega)) (LoopW.mk (all_loop hp (by (first | lia | omega)) ts 0 _ rfl rfl (fun k t hk => by rw [Nat.zero_add]; exact h k t hk) (fun env' e => ?_) fun env' e => ?_))))))))))
  · rw [e] at k; exact k
  · rw [e] at k; exact k
end Mine
namespace Mine
open _root_.PySem

noncomputable def natUp (a : Nat) : Nat → List Nat
  | 0 => []
  | n + 1 => a :: natUp (a + 1) n
theorem natUp_len : ∀ (n a : Nat), (natUp a n).length = n
  | 0, _ => rfl
  | n + 1, a => by rw [natUp, List.length_cons, natUp_len n]
theorem natUp_mem : ∀ {n a x : Nat}, x ∈ natUp a n → a ≤ x ∧ x < a + n
  | 0, a, x, h => by simp [natUp] at h
  | n + 1, a, x, h => by
    rcases List.mem_cons.mp (show x ∈ a :: natUp (a + 1) n from h) with q | q
    · (first | lia | omega)
    · have := natUp_mem q; (first | lia | omega)
theorem upInts_nat : ∀ (n a : Nat), upInts a n = (natUp a n).map fun (x : Nat) => (x : Int)
  | 0, _ => rfl
  | n + 1, a => by
    rw [upInts, natUp, List.map_cons, ← upInts_nat n (a + 1)]
    rfl
abbrev intL (l : List Nat) : PV := .list (l.map fun (x : Nat) => .int x)
/-! the law's comprehensions -/
section
variable {env : Vars} {K : PV → Prop}
theorem comp_draws {src : List Int} {it : PE} (h : ∀ {K : PV → Prop}, K (.list (src.map .int)) → wE (orac 5) it ⟨env, []⟩ K) (hl : src.length ≤ 100) (k : K (intL (src.map fun x => (Int.fmod x 384).toNat))) :
    wE (orac 5) (.comp 38 [] (.bin .mod (.var 38) (.lit (.int 384))) it (.lit (.bool true))) ⟨env, []⟩ K := by
  refine h (And.intro (by rw [List.length_map]; show _ ≤ 4096; (first | lia | omega)) (comp_map (mk := .int) (g := fun x => .int ((Int.fmod x 384).toNat : Nat)) (fun _ _ k => k) (fun x _ K k => And.intro (by decide) (val_is (Int.toNat_of_nonneg (Int.fmod_nonneg_of_pos _ (by decide))).symm k)) (fun _ _ => rfl) ?_))
  unfold intL at k
  rw [List.map_map] at k
  exact k
noncomputable def baseL (ds : List Nat) : List Nat := ((ds.filter fun x => decide (x % 3 = 0)).map fun x => x / 3).take 2
theorem baseL_ok {ds : List Nat} (h : ∀ x ∈ ds, x < 384) : (baseL ds).length ≤ 2 ∧ ∀ c ∈ baseL ds, c < 128 := by
  unfold baseL
  refine ⟨by simp; (first | lia | omega), fun c hc => ?_⟩
  obtain ⟨x, hx, rfl⟩ := List.mem_map.mp (List.mem_of_mem_take hc)
  have := h x (List.mem_filter.mp hx).1
  (first | lia | omega)
theorem comp_chars {ds : List Nat} (h36 : env 36 = some (intL ds)) (hl : ds.length ≤ 100) (hd : ∀ x ∈ ds, x < 384) (k : K (.list ((ds.filter fun x => decide (x % 3 = 0)).map fun x => .str [x / 3]))) :
    wE (orac 5) (.comp 38 [] (.prim .chr (.cons (.bin .fdiv (.var 38) (.lit (.int 3))) .nil)) (.var 36) (.cmp .eq (.bin .mod (.var 38) (.lit (.int 3))) (.lit (.int 0)))) ⟨env, []⟩ K := by
  refine oW_eq h36 (And.intro (by rw [List.length_map]; show _ ≤ 4096; (first | lia | omega)) (comp_eq (p := fun x => decide (x % 3 = 0)) (mk := fun (x : Nat) => .int x) (g := fun x => .str [x / 3]) (fun x _ K k => And.intro (by decide) (mod_is (n := 3) rfl ?_)) (fun x hx _ K k => And.intro ⟨by decide, by decide⟩ (div_is (n := 3) rfl (op_is (chr_nat rfl (by have := hd x hx; (first | lia | omega))) k))) (fun _ _ => rfl) k))
  have e : decide (((x % 3 : Nat) : Int) = 0) = decide (x % 3 = 0) := by
    by_cases q : x % 3 = 0
    · rw [q]; rfl
    · rw [decide_eq_false q, decide_eq_false]; (first | lia | omega)
  show K (decide (((x % 3 : Nat) : Int) = 0))
  rw [e]; exact k
theorem slice_l {led : List PObj} {xs : List PV} {k : Nat} (hs : xs.length ≤ 4096) : slicev led (.list xs) .none (.int k) = some (.list (xs.take k)) := by
  have e2 : clip xs.length xs.length (.int k) = some (min k xs.length) := by
    show some (if (k : Int) < 0 then _ else _) = _
    rw [if_neg (by (first | lia | omega)), Int.toNat_natCast]
  show (clip 0 xs.length .none).bind (fun a => (clip xs.length xs.length (.int k)).bind fun b => if xs.length ≤ big then some (PV.list (cut a b xs)) else none) = _
  rw [e2]
  show (if xs.length ≤ big then some (PV.list (cut 0 (min k xs.length) xs)) else none) = _
  rw [if_pos (show xs.length ≤ big from hs)]
  unfold cut
  congr 2
  rw [List.drop_zero, List.take_eq_take_iff]; lia
theorem join_chars {led : List PObj} {l : List Nat} (hl : l.length ≤ 100) : primEv led .join [.str [], .list ((l.map fun x => PV.str [x / 3]).take 2)] = some (.str ((l.map fun x => x / 3).take 2)) := by
  have e2 : ∀ m : List Nat, (m.flatMap fun x => [x / 3]) = m.map fun x => x / 3 := fun m => by
    induction m with
    | nil => rfl
    | cons a r ih => rw [List.flatMap_cons, ih]; rfl
  rw [← List.map_take, ← List.map_take, p_join (f := fun x => [x / 3]) (by rw [e2, List.length_map, List.length_take]; (first | lia | omega)) (by rw [List.length_take]; (first | lia | omega)), e2]
theorem comp_head {it : PE} {bs : List Nat} (h : ∀ {K : PV → Prop}, K (.str bs) → wE (orac 5) it ⟨env, []⟩ K) (hb : ∀ c ∈ bs, c < 128) (hl : bs.length ≤ 100) (k : K (.bytes bs)) :
    wE (orac 5) (.prim .bytes (.cons (.comp 39 [] (.prim .ord (.cons (.var 39) .nil)) it (.lit (.bool true))) .nil)) ⟨env, []⟩ K :=
  h (oW_eq (iter_str hb) (And.intro (by rw [List.length_map]; show _ ≤ 4096; (first | lia | omega)) (comp_map (mk := fun c => .str [c]) (g := fun (c : Nat) => .int c) (fun _ _ k => k) (fun x _ K k => op_is (z := .int x) rfl k) (fun _ _ => rfl) (op_is (by_list (by (first | lia | omega)) fun x hx => by have := hb x hx; (first | lia | omega)) k))))
theorem comp_gens {nums base : List Nat} (h60 : env 60 = some (intL nums)) (h20 : env 20 = some (.str base)) (hn : nums.length ≤ 100) (hb : base.length ≤ 2) (hd : ∀ d ∈ nums, d < 170) (k : K (.list (nums.map fun d => .bytes (num1 d)))) :
    wE (orac 5) (.comp 51 [20] (.call .gens (.cons (.prim .len (.cons (.var 20) .nil)) (.cons (.list (.cons (.var 51) .nil)) .nil))) (.var 60) (.lit (.bool true))) ⟨env, []⟩ K :=
  oW_eq h60 (And.intro (by rw [List.length_map]; show _ ≤ 4096; (first | lia | omega)) (comp_map (mk := fun (d : Nat) => .int d) (g := fun d => .bytes (num1 d)) (fun _ _ k => k) (fun x hx K k => oW_eq h20 (op_is (len_str (by (first | lia | omega))) (CallW.mk (or_gens1 (hd x hx) (by (first | lia | omega)) k)))) (fun _ _ => rfl) k))
theorem comp_first {nums : List Nat} (h60 : env 60 = some (intL nums)) (hn : nums.length ≤ 100) (hd : ∀ d ∈ nums, d < 170) (k : K (.list (nums.map fun d => .bytes (num1 d)))) :
    wE (orac 5) (.comp 51 [] (.call .first (.cons (.var 51) .nil)) (.var 60) (.lit (.bool true))) ⟨env, []⟩ K :=
  oW_eq h60 (And.intro (by rw [List.length_map]; show _ ≤ 4096; (first | lia | omega)) (comp_map (mk := fun (d : Nat) => .int d) (g := fun d => .bytes (num1 d)) (fun _ _ k => k) (fun x hx K k => CallW.mk (or_first (hd x hx) k)) (fun _ _ => rfl) k))
theorem num1_no45 (d : Nat) : 45 ∉ num1 d := by
  have ho : ∀ x, 45 ≠ oct x := fun x => by unfold oct; split <;> (first | lia | omega)
  unfold num1
  split
  · decide
  · intro h
    rcases List.mem_cons.mp h with q | q
    · exact ho _ q
    · rcases List.mem_append.mp q with q | q
      · split at q
        · rw [List.mem_singleton] at q; exact ho _ q
        · cases q
      · revert q; decide
theorem num2_no45 (d : Nat) : 45 ∉ num2 d := by
  have ho : ∀ x, 45 ≠ oct x := fun x => by unfold oct; split <;> (first | lia | omega)
  unfold num2
  split
  · intro h; rw [List.mem_singleton] at h; exact ho _ h
  · intro h
    rcases List.mem_cons.mp h with q | q
    · exact ho _ q
    · rw [List.mem_singleton] at q; exact ho _ q
theorem hdL_len (base : List Nat) : (hdL base).length ≤ base.length + 1 := by
  unfold hdL; split <;> simp
theorem comp_names {nums base : List Nat} (h69 : env 69 = some (.list (nums.map fun d => .bytes (num1 d)))) (h62 : env 62 = some (.bytes (hdL base))) (hn : nums.length ≤ 100) (hb : base.length ≤ 2) (hc : ∀ c ∈ base, c < 128) (hd : ∀ d ∈ nums, d < 170) (k : K (.list (nums.map fun d => .str (laidL base (d / (base.length + 1)) (d % (base.length + 1)))))) :
    wE (orac 5) (.comp 70 [62] (.call .pdec (.cons (.bin .add (.var 62) (.var 70)) (.cons (.lit (.str [115, 116, 114, 105, 99, 116])) .nil))) (.var 69) (.lit (.bool true))) ⟨env, []⟩ K :=
  oW_eq h69 (And.intro (by rw [List.length_map]; show _ ≤ 4096; (first | lia | omega)) (comp_map (mk := fun d => .bytes (num1 d)) (g := fun d => .str (laidL base (d / (base.length + 1)) (d % (base.length + 1)))) (fun _ _ k => k) (fun x hx K k => oW_eq h62 (oW_eq rfl (oW_eq (addb (s := hdL base) (r := num1 x) (by have := num1_len x; have := hdL_len base; lia)) (CallW.mk (or_pdec (by (first | lia | omega)) hc (num1_no45 x) (by have := num1_len x; (first | lia | omega)) (or_isort1 (hd x hx) (by (first | lia | omega))) k))))) (fun _ _ => rfl) k))
theorem comp_laid {nums base : List Nat} (h60 : env 60 = some (intL nums)) (h20 : env 20 = some (.str base)) (h65 : env 65 = some (.int (base.length + 1 : Nat))) (hn : nums.length ≤ 100) (hb : base.length ≤ 2) (hd : ∀ d ∈ nums, d < 170) (k : K (.list (nums.map fun d => .str (laidL base (d / (base.length + 1)) (d % (base.length + 1)))))) :
    wE (orac 5) (.comp 51 [20, 65] (.call .laid (.cons (.var 20) (.cons (.bin .fdiv (.var 51) (.var 65)) (.cons (.bin .mod (.var 51) (.var 65)) .nil)))) (.var 60) (.lit (.bool true))) ⟨env, []⟩ K := by
  refine oW_eq h60 (And.intro (by rw [List.length_map]; show _ ≤ 4096; (first | lia | omega)) (comp_map (mk := fun (d : Nat) => .int d) (g := fun d => .str (laidL base (d / (base.length + 1)) (d % (base.length + 1)))) (fun _ _ k => k) (fun x hx K k => ?_) (fun _ _ => rfl) k))
  have hw : x / (base.length + 1) ≤ x := Nat.div_le_self _ _
  have hx2 := hd x hx
  have hm : x % (base.length + 1) < base.length + 1 := Nat.mod_lt _ (by lia)
  exact oW_eq h20 (oW_eq h65 (And.intro ⟨by (first | lia | omega), by (first | lia | omega)⟩ (div_is rfl (oW_eq h65 (And.intro (by (first | lia | omega)) (mod_is rfl (CallW.mk (or_laid (by (first | lia | omega)) (by (first | lia | omega)) (by (first | lia | omega)) k))))))))
theorem comp_due {nums : List Nat} {ms : List Mem} {b : Bool} {pl P A : Nat} (h60 : env 60 = some (intL nums)) (h37 : env 37 = some (.list (ms.map mPV))) (h40 : env 40 = some (.bool b)) (h56 : env 56 = some (.int pl)) (h65 : env 65 = some (.int P)) (h66 : env 66 = some (.int A)) (hn : nums.length ≤ 100) (hP : 0 < P) (hP2 : P < 1000) (hml : ms.length ≤ 3) (k : K (intL (nums.filter fun d => decide (d % P = pl) && insB ms b ((d / P : Nat) - (A : Int))))) :
    wE (orac 5) (.comp 51 [37, 40, 56, 65, 66] (.var 51) (.var 60) (.and (.cmp .eq (.bin .mod (.var 51) (.var 65)) (.var 56)) (.call .inside (.cons (.var 37) (.cons (.var 40) (.cons (.bin .sub (.bin .fdiv (.var 51) (.var 65)) (.var 66)) .nil)))))) ⟨env, []⟩ K := by
  refine oW_eq h60 (And.intro (by rw [List.length_map]; show _ ≤ 4096; (first | lia | omega)) (comp_eq (p := fun d => decide (d % P = pl) && insB ms b ((d / P : Nat) - (A : Int))) (mk := fun (d : Nat) => .int d) (g := fun (d : Nat) => .int d) (fun x _ K k => oW_eq h65 (And.intro (by (first | lia | omega)) (mod_is rfl (oW_eq h56 ?_)))) (fun x _ _ K k => k) (fun _ _ => rfl) k))
  by_cases q : x % P = pl
  · have k : K (insB ms b ((x / P : Nat) - (A : Int))) := by rw [decide_eq_true q, Bool.true_and] at k; exact k
    exact b_t (by (first | lia | omega)) (oW_eq h37 (oW_eq h40 (oW_eq h65 (And.intro ⟨by (first | lia | omega), by (first | lia | omega)⟩ (div_is rfl (oW_eq h66 (val_is rfl (CallW.mk (or_inside hml k)))))))))
  · have q' : ¬ ((x % P : Nat) : Int) = pl := by (first | lia | omega)
    refine b_f q' ?_
    show K (decide (((x % P : Nat) : Int) = pl))
    rw [decide_eq_false q, Bool.false_and] at k
    rw [decide_eq_false q']; exact k
end
end Mine
namespace Mine
open _root_.PySem

/-! which names the parts take -/
noncomputable def tkF (low : Nat) (b : Bool) (ms : List Mem) : Option Nat → Nat → Bool
  | some c, s => decide (c = s)
  | none, s => (ms.any (inM low s)) != b
noncomputable def ptF (low : Nat) (b : Bool) (ms : List Mem) : Option Nat → List Nat
  | some c => partC c
  | none => brOut low b ms
noncomputable def popt (base : List Nat) (pl : Nat) : List (Option Nat) := (base.take pl).map some ++ [none] ++ (base.drop pl).map some
theorem popt_parts {low : Nat} {b : Bool} {ms : List Mem} {base : List Nat} {pl : Nat} : (popt base pl).map (ptF low b ms) = (base.take pl).map partC ++ [brOut low b ms] ++ (base.drop pl).map partC := by
  unfold popt
  simp only [List.map_append, List.map_map, List.map_cons, List.map_nil]
  rfl
theorem popt_len {base : List Nat} {pl : Nat} (h : pl ≤ base.length) : (popt base pl).length = base.length + 1 := by
  unfold popt; simp; (first | lia | omega)
theorem popt_mem {base : List Nat} {pl c : Nat} (h : some c ∈ popt base pl) : c ∈ base := by
  unfold popt at h
  simp only [List.mem_append, List.mem_map, List.mem_singleton] at h
  rcases h with (⟨x, hx, e⟩ | h) | ⟨x, hx, e⟩
  · cases e; exact List.mem_of_mem_take hx
  · cases h
  · cases e; exact List.mem_of_mem_drop hx
theorem zipWith_get {α β γ : Type} (f : α → β → γ) : ∀ (l : List α) (m : List β) (k : Nat) (z : γ), (List.zipWith f l m)[k]? = some z → ∃ a b, l[k]? = some a ∧ m[k]? = some b ∧ z = f a b
  | [], _, k, z, h => by simp at h
  | _ :: _, [], k, z, h => by simp at h
  | a :: l, b :: m, 0, z, h => by simp at h; exact ⟨a, b, rfl, rfl, h.symm⟩
  | a :: l, b :: m, k + 1, z, h => by
    rw [List.zipWith_cons_cons, List.getElem?_cons_succ] at h
    exact zipWith_get f l m k z h
noncomputable def takesAll (low : Nat) (b : Bool) (ms : List Mem) (base : List Nat) (pl d : Nat) : Bool := (List.zipWith (tkF low b ms) (popt base pl) (laidL base (d / (base.length + 1)) (d % (base.length + 1)))).all id
theorem or_all {low : Nat} {b : Bool} {ms : List Mem} {base : List Nat} {pl d : Nat} (hlow : 128 ≤ low) (hml : ms.length ≤ 3) (hw : ∀ m ∈ ms, m.2.2 = false → m.2.1 = m.1) (hb : base.length ≤ 2) (hc : ∀ c ∈ base, c < 128) (hpl : pl ≤ base.length) {K : PV → Prop} (k : K (.bool (takesAll low b ms base pl d))) :
    orac 5 .allTake [.list ((popt base pl).map fun o => .str (ptF low b ms o)), .str (laidL base (d / (base.length + 1)) (d % (base.length + 1)))] K := by
  have hm : d % (base.length + 1) < base.length + 1 := Nat.mod_lt _ (by lia)
  have hl1 := popt_len hpl
  have hl2 := laidL_len (base := base) (w := d / (base.length + 1)) (pl := d % (base.length + 1)) (by lia)
  have := or_allTake (K := K) (ps := (popt base pl).map (ptF low b ms)) (nm := laidL base (d / (base.length + 1)) (d % (base.length + 1))) (ts := List.zipWith (tkF low b ms) (popt base pl) (laidL base (d / (base.length + 1)) (d % (base.length + 1)))) (by rw [List.length_map]; (first | lia | omega)) (by rw [List.length_map]; lia) (by rw [List.length_map, List.length_zipWith]; lia) (fun k t hk => by
    obtain ⟨o, s, e1, e2, e3⟩ := zipWith_get _ _ _ _ _ hk
    refine ⟨ptF low b ms o, s, by rw [List.getElem?_map, e1]; rfl, e2, ?_⟩
    subst e3
    cases o with
    | some c => exact takes_sign (hc c (popt_mem (List.mem_of_getElem? e1)))
    | none => exact takes_br hlow hml hw) k
  rw [List.map_map] at this
  exact this
theorem takesAll_eq {low A : Nat} {b : Bool} {ms : List Mem} {base : List Nat} {pl d : Nat} (hA : low = 128 + A) (hb : base.length ≤ 2) (hc : ∀ c ∈ base, c < 128) (hpl : pl ≤ base.length) : takesAll low b ms base pl d = (decide (d % (base.length + 1) = pl) && insB ms b ((d / (base.length + 1) : Nat) - (A : Int))) := by
  have hm : d % (base.length + 1) < base.length + 1 := Nat.mod_lt _ (by lia)
  unfold takesAll
  generalize d / (base.length + 1) = w at *
  generalize d % (base.length + 1) = q at *
  have hins : ((ms.any (inM low (128 + w))) != b) = insB ms b ((w : Nat) - (A : Int)) := by
    unfold insB
    congr 1
    have : ∀ m : Mem, inM low (128 + w) m = (decide ((m.1 : Int) ≤ (w : Int) - A) && decide ((w : Int) - A ≤ (m.2.1 : Int))) := by
      intro m
      unfold inM
      congr 1
      · exact decide_eq_decide.mpr (by (first | lia | omega))
      · exact decide_eq_decide.mpr (by (first | lia | omega))
    induction ms with
    | nil => rfl
    | cons m ms ih => rw [List.any_cons, List.any_cons, ih, this]
  have h128 : ∀ c ∈ base, ¬ c = 128 + w := fun c h e => by have := hc c h; (first | lia | omega)
  match base, hb with
  | [], _ =>
    have e1 : pl = 0 := by simp at hpl; exact hpl
    have e2 : q = 0 := by simp at hm; (first | lia | omega)
    subst e1 e2
    show (((ms.any (inM low (128 + w))) != b) && true) = _
    rw [hins]; simp
  | [x], _ =>
    have hx := h128 x (by simp)
    have hx' : ¬ 128 + w = x := fun e => hx e.symm
    have e1 : pl = 0 ∨ pl = 1 := by simp at hpl; lia
    have e2 : q = 0 ∨ q = 1 := by simp at hm; lia
    rcases e1 with rfl | rfl <;> rcases e2 with rfl | rfl <;> simp [popt, laidL, tkF, hins, hx, hx']
  | [x, y], _ =>
    have hx := h128 x (by simp)
    have hx' : ¬ 128 + w = x := fun e => hx e.symm
    have hy := h128 y (by simp)
    have hy' : ¬ 128 + w = y := fun e => hy e.symm
    have e1 : pl = 0 ∨ pl = 1 ∨ pl = 2 := by simp at hpl; lia
    have e2 : q = 0 ∨ q = 1 ∨ q = 2 := by simp at hm; lia
    rcases e1 with rfl | rfl | rfl <;> rcases e2 with rfl | rfl | rfl <;> simp [popt, laidL, tkF, hins, hx, hx', hy, hy']
theorem filter_idx {q : Nat → Bool} (nums : List Nat) : ((natUp 0 nums.length).filter fun k => q (nums.getD k 0)).map (fun k => nums.getD k 0) = nums.filter q := by
  have key : ∀ (l pre : List Nat), nums = pre ++ l → ((natUp pre.length l.length).filter fun k => q (nums.getD k 0)).map (fun k => nums.getD k 0) = l.filter q := by
    intro l
    induction l with
    | nil => intro pre _; rfl
    | cons a r ih =>
      intro pre h
      have e : nums.getD pre.length 0 = a := by
        rw [h, List.getD_eq_getElem?_getD, List.getElem?_append_right (Nat.le_refl _)]; simp
      have ih := ih (pre ++ [a]) (by rw [h]; simp)
      rw [List.length_append, List.length_cons, List.length_nil] at ih
      rw [List.length_cons, natUp, List.filter_cons, List.filter_cons, e]
      by_cases c : q a = true
      · rw [if_pos c, if_pos c, List.map_cons, e, ih]
      · rw [if_neg c, if_neg c, ih]
  exact key nums [] rfl
theorem natUp_get {n k a : Nat} (h : k ∈ natUp a n) : a ≤ k ∧ k < a + n := natUp_mem h
theorem comp_taken {env : Vars} {K : PV → Prop} {low A : Nat} {b : Bool} {ms : List Mem} {base nums : List Nat} {pl : Nat} (hA : low = 128 + A) (h47 : env 47 = some (.list ((popt base pl).map fun o => .str (ptF low b ms o)))) (h60 : env 60 = some (intL nums)) (h68 : env 68 = some (.list (nums.map fun d => .str (laidL base (d / (base.length + 1)) (d % (base.length + 1)))))) (hml : ms.length ≤ 3) (hw : ∀ m ∈ ms, m.2.2 = false → m.2.1 = m.1) (hb : base.length ≤ 2) (hc : ∀ c ∈ base, c < 128) (hpl : pl ≤ base.length) (hn : nums.length ≤ 100)
    (k : K (intL (nums.filter fun d => decide (d % (base.length + 1) = pl) && insB ms b ((d / (base.length + 1) : Nat) - (A : Int))))) :
    wE (orac 5) (.comp 34 [47, 60, 68] (.idx (.var 60) (.var 34)) (.prim .range1 (.cons (.prim .len (.cons (.var 60) .nil)) .nil)) (.call .allTake (.cons (.var 47) (.cons (.idx (.var 68) (.var 34)) .nil)))) ⟨env, []⟩ K := by
  have hnl : (nums.map fun (x : Nat) => PV.int x).length = nums.length := List.length_map ..
  obtain ⟨z, hz1, hz2⟩ := r1_it (n := nums.length) (by (first | lia | omega))
  rw [show (0 : Int) = ((0 : Nat) : Int) from rfl, upInts_nat, List.map_map] at hz2
  refine oW_eq h60 (op_is ((len_list (by (first | lia | omega))).trans (by rw [hnl])) (op_is (hz1 _) (oW_eq hz2 (And.intro (by rw [List.length_map, natUp_len]; show _ ≤ 4096; (first | lia | omega)) (comp_eq (mk := fun (k : Nat) => .int k) (p := fun k => decide (nums.getD k 0 % (base.length + 1) = pl) && insB ms b ((nums.getD k 0 / (base.length + 1) : Nat) - (A : Int))) (g := fun k => .int (nums.getD k 0 : Nat)) (l := natUp 0 nums.length) (fun k hk K kk => ?_) (fun k hk _ K kk => ?_) (fun _ _ => rfl) ?_)))))
  · have hk2 := natUp_get hk
    have hkl : k < nums.length := by (first | lia | omega)
    exact oW_eq h47 (oW_eq h68 (op_is (idx_list (j := k) (v := .str (laidL base (nums.getD k 0 / (base.length + 1)) (nums.getD k 0 % (base.length + 1)))) (by rw [List.length_map]; (first | lia | omega)) (by rw [List.getElem?_map, List.getD_eq_getElem?_getD, List.getElem?_eq_getElem hkl]; rfl)) (CallW.mk (or_all (show 128 ≤ low by (first | lia | omega)) hml hw hb hc hpl (by rw [takesAll_eq hA hb hc hpl]; exact kk)))))
  · have hk2 := natUp_get hk
    have hkl : k < nums.length := by (first | lia | omega)
    exact oW_eq h60 (op_is (idx_list (j := k) (v := .int (nums.getD k 0 : Nat)) (by rw [List.length_map]; (first | lia | omega)) (by rw [List.getElem?_map, List.getD_eq_getElem?_getD, List.getElem?_eq_getElem hkl]; rfl)) kk)
  · have := filter_idx (q := fun d => decide (d % (base.length + 1) = pl) && insB ms b ((d / (base.length + 1) : Nat) - (A : Int))) nums
    rw [← this] at k
    unfold intL at k
    rw [List.map_map] at k
    exact k
end Mine
namespace Mine
open _root_.PySem

noncomputable def lwB : PS := .seq (.asg 54 (.bin .sub (.bin .sub (.bin .add (.bin .mul (.bin .sub (.bin .add (.var 66) (.lit (.int 5))) (.bin .fdiv (.var 51) (.var 65))) (.bin .add (.var 65) (.lit (.int 1)))) (.var 67)) (.bin .mod (.var 51) (.var 65))) (.lit (.int 1)))) (.seq (.asg 63 (.call .gens (.cons (.prim .len (.cons (.var 20) .nil)) (.cons (.list (.cons (.var 51) (.cons (.var 54) .nil))) .nil)))) (.seq (.iff (.cmp .ne (.var 63) (.bin .add (.call .first (.cons (.var 51) .nil)) (.call .next (.cons (.var 54) .nil)))) (.seq (.ret (.lit (.bool false))) .nil) .nil) (.seq (.asg 64 (.call .laid (.cons (.call .laid (.cons (.var 20) (.cons (.bin .fdiv (.var 51) (.var 65)) (.cons (.bin .mod (.var 51) (.var 65)) .nil)))) (.cons (.bin .add (.var 66) (.lit (.int 5))) (.cons (.var 67) .nil))))) (.seq (.iff (.cmp .ne (.call .pdec (.cons (.bin .add (.var 62) (.var 63)) (.cons (.lit (.str [115, 116, 114, 105, 99, 116])) .nil))) (.var 64)) (.seq (.ret (.lit (.bool false))) .nil) .nil) .nil))))
theorem law_step {env : Vars} {base : List Nat} {A slot d : Nat} {K : Fl → St → Prop} (h66 : env 66 = some (.int A)) (h65 : env 65 = some (.int (base.length + 1 : Nat))) (h67 : env 67 = some (.int slot)) (h20 : env 20 = some (.str base)) (h62 : env 62 = some (.bytes (hdL base))) (h51 : env 51 = some (.int d))
    (hb : base.length ≤ 2) (hc : ∀ c ∈ base, c < 128) (hA : A < 50) (hs : slot < base.length + 2) (hd : d < 170) (hdA : d / (base.length + 1) ≤ A + 4)
    (k : ∀ env', (∀ y, y ≠ 54 → y ≠ 63 → y ≠ 64 → env' y = env y) → K .next ⟨env', []⟩) : wS (orac 5) 400 lwB ⟨env, []⟩ K := by
  have hm : d % (base.length + 1) < base.length + 1 := Nat.mod_lt _ (by lia)
  obtain ⟨X, hX⟩ : ∃ X, X = A + 5 - d / (base.length + 1) := ⟨_, rfl⟩
  have hX1 : 1 ≤ X := by (first | lia | omega)
  have hX2 : X ≤ 54 := by have := Nat.sub_le (A + 5) (d / (base.length + 1)); (first | lia | omega)
  have hXP : X * (base.length + 2) ≤ 54 * 4 := Nat.mul_le_mul hX2 (by lia)
  have hXP1 : 1 * (base.length + 2) ≤ X * (base.length + 2) := Nat.mul_le_mul_right _ hX1
  obtain ⟨e, he⟩ : ∃ e, e = X * (base.length + 2) + slot - d % (base.length + 1) - 1 := ⟨_, rfl⟩
  have he2 : d % (base.length + 1) + e + 1 = X * (base.length + 2) + slot := by (first | lia | omega)
  have he3 : e < 240 := by (first | lia | omega)
  have q1 : (d % (base.length + 1) + e + 1) / (base.length + 2) = X := by
    rw [he2, Nat.add_comm, Nat.add_mul_div_right _ _ (by lia), Nat.div_eq_of_lt hs]; lia
  have q2 : (d % (base.length + 1) + e + 1) % (base.length + 2) = slot := by
    rw [he2, Nat.add_comm, Nat.add_mul_mod_self_right, Nat.mod_eq_of_lt hs]
  have hL := laidL_len (base := base) (w := d / (base.length + 1)) (pl := d % (base.length + 1)) (by lia)
  have hdl : d / (base.length + 1) ≤ d := Nat.div_le_self _ _
  have n1 := num1_len d
  have n2 := num2_len e
  have hn45 : 45 ∉ num1 d ++ num2 e := fun q => (List.mem_append.mp q).elim (num1_no45 d) (num2_no45 e)
  have hhl := hdL_len base
  have g1 : (0 : Int) < (base.length + 1 : Nat) := by (first | lia | omega)
  have g2 : ((base.length + 1 : Nat) : Int) < 1073741824 := by (first | lia | omega)
  refine oW_eq h66 (oW_eq h51 (oW_eq h65 (And.intro ⟨g1, g2⟩ (div_is rfl (val_is (show ((A : Int) + 5) - (d / (base.length + 1) : Nat) = X by (first | lia | omega)) (oW_eq h65 (And.intro ⟨by unfold ibig; (first | lia | omega), by unfold ibig; (first | lia | omega)⟩ (val_is (show (X : Int) * ((base.length + 2 : Nat) : Int) = (X * (base.length + 2) : Nat) from (Int.natCast_mul ..).symm) (oW_eq h67 (oW_eq h51 (oW_eq h65 (And.intro g1 (mod_is rfl (val_is rfl (val_is (show ((X * (base.length + 2) : Nat) : Int) + slot - (d % (base.length + 1) : Nat) - 1 = e by (first | lia | omega)) ?_)))))))))))))))
  refine oW_eq h20 (op_is (len_str (by (first | lia | omega))) (oW_eq h51 (CallW.mk (or_gens2 hd he3 (by (first | lia | omega)) ?_))))
  refine oW_eq h51 (CallW.mk (or_first hd (CallW.mk (or_next he3 (oW_eq (addb (s := num1 d) (r := num2 e) (by (first | lia | omega))) (bW_f (show (!decide (_ = _)) = false by rw [decide_eq_true rfl]; rfl) ?_))))))
  refine oW_eq h20 (oW_eq h51 (oW_eq h65 (And.intro ⟨g1, g2⟩ (div_is rfl (oW_eq h51 (oW_eq h65 (And.intro g1 (mod_is rfl (CallW.mk (or_laid (by (first | lia | omega)) (by (first | lia | omega)) (by (first | lia | omega)) (oW_eq h66 (oW_eq h67 (CallW.mk (or_laid (w := A + 5) (by (first | lia | omega)) (by (first | lia | omega)) (by (first | lia | omega)) ?_))))))))))))))
  refine oW_eq h62 (oW_eq rfl (oW_eq (addb (s := hdL base) (r := num1 d ++ num2 e) (by rw [List.length_append]; lia)) (CallW.mk (or_pdec (by (first | lia | omega)) hc hn45 (by rw [List.length_append]; (first | lia | omega)) (or_isort2 (base := base) (d := d) (e := e) (w := A + 5) (r := slot) hd he3 (by (first | lia | omega)) (by (first | lia | omega)) q2) (bW_f (show (!decide (_ = _)) = false by rw [decide_eq_true rfl]; rfl) ?_)))))
  exact k _ fun y h1 h2 h3 => getV_setV.trans ((if_neg h3).trans (getV_setV.trans ((if_neg h2).trans (getV_setV.trans (if_neg h1)))))
theorem sumInts_ok : ∀ (l : List Nat) (z : Nat), sumInts (l.map fun (x : Nat) => PV.int x) z = some ((z + l.sum : Nat) : Int)
  | [], z => by simp [sumInts]
  | a :: l, z => by
    show sumInts (l.map fun (x : Nat) => PV.int x) ((z : Int) + (a : Int)) = _
    rw [show (z : Int) + (a : Int) = ((z + a : Nat) : Int) by lia, sumInts_ok l (z + a), List.sum_cons, Nat.add_assoc]
theorem cmpEq_self {led : List PObj} {xs : List PV} (h : xs.all isInt = true ∨ xs.all isStr = true ∨ xs.all isBytes = true) : cmpEq led (.list xs) (.list xs) = some true := by
  have hz : ∀ l : List PV, (∀ v ∈ l, isInt v = true ∨ isStr v = true ∨ isBytes v = true) → ((l.zip l).all fun p => pvEq p.1 p.2) = true := by
    intro l
    induction l with
    | nil => intro _; rfl
    | cons v r ih =>
      intro hv
      rw [List.zip_cons_cons, List.all_cons, ih (fun w hw => hv w (List.mem_cons_of_mem _ hw)), Bool.and_true]
      have := hv v (by simp)
      cases v <;> simp [isInt, isStr, isBytes] at this <;> simp [pvEq]
  have ho : oneKind xs xs = true := by
    unfold oneKind
    rcases h with h | h | h <;> rw [h] <;> simp
  show (if xs.length = xs.length then (if oneKind xs xs then some ((xs.zip xs).all fun p => pvEq p.1 p.2) else none) else some false) = _
  rw [if_pos rfl, if_pos ho, hz xs (fun v hv => by
    rcases h with h | h | h
    · exact .inl (List.all_eq_true.mp h v hv)
    · exact .inr (.inl (List.all_eq_true.mp h v hv))
    · exact .inr (.inr (List.all_eq_true.mp h v hv)))]
theorem c_neself {led : List PObj} {xs : List PV} (h : xs.all isInt = true ∨ xs.all isStr = true ∨ xs.all isBytes = true) : cmpv led .ne (.list xs) (.list xs) = some false := by
  show (cmpEq led (.list xs) (.list xs)).map _ = _
  rw [cmpEq_self h]; rfl
theorem comp_hd {env : Vars} {base : List Nat} {K : PV → Prop} (h20 : env 20 = some (.str base)) (hb : base.length ≤ 2) (hc : ∀ c ∈ base, c < 128) (k : K (.bytes (hdL base))) :
    wE (orac 5) (.ite (.cmp .ne (.var 20) (.lit (.str []))) (.prim .bytes (.cons (.comp 39 [] (.prim .ord (.cons (.var 39) .nil)) (.bin .add (.var 20) (.lit (.str [45]))) (.lit (.bool true))) .nil)) (.lit (.bytes []))) ⟨env, []⟩ K := by
  unfold hdL at k
  refine oW_eq h20 ?_
  by_cases h0 : base = []
  · rw [if_pos h0] at k
    exact bW_f (show (!decide (base = [])) = false by rw [decide_eq_true h0]; rfl) k
  · rw [if_neg h0] at k
    exact bW_t (show (!decide (base = [])) = true by rw [decide_eq_false h0]; rfl) (comp_head (bs := base ++ [45]) (fun k => oW_eq h20 (oW_eq (adds (s := base) (r := [45]) (by rw [List.length_singleton]; (first | lia | omega))) k)) (fun c hc' => by
      rcases List.mem_append.mp hc' with q | q
      · exact hc c q
      · rw [List.mem_singleton] at q; (first | lia | omega)) (by rw [List.length_append, List.length_singleton]; (first | lia | omega)) k)
end Mine
namespace Mine
open _root_.PySem

noncomputable def srcL (ns : List Int) : List Int := if 1 < ns.length then ns.take 8 else ns ++ [126, 41]
noncomputable def numsL (A P pl : Nat) : List Nat := [pl] ++ natUp (A * P) (4 * P) ++ [(A + 4) * P + pl]
theorem numsL_ok {A P pl d : Nat} (hA : A < 50) (hP : P = 1 ∨ P = 2 ∨ P = 3) (hpl : pl < P) (h : d ∈ numsL A P pl) : d < 170 ∧ d / P ≤ A + 4 := by
  unfold numsL at h
  have h' : d = pl ∨ (A * P ≤ d ∧ d < A * P + 4 * P) ∨ d = (A + 4) * P + pl := by
    rcases List.mem_append.mp h with h | h
    · rcases List.mem_append.mp h with h | h
      · left; simpa using h
      · exact .inr (.inl (natUp_mem h))
    · right; right; simpa using h
  rcases hP with rfl | rfl | rfl <;> lia
theorem numsL_len (A P pl : Nat) : (numsL A P pl).length = 4 * P + 2 := by
  unfold numsL; rw [List.length_append, List.length_append, natUp_len]; simp; lia
theorem draws_src {env : Vars} {ns : List Int} {K : PV → Prop} (h57 : env 57 = some (.list (ns.map .int))) (hl : ns.length ≤ 63) (k : K (.list ((srcL ns).map .int))) : wE (orac 5) (.ite (.cmp .gt (.prim .len (.cons (.var 57) .nil)) (.lit (.int 1))) (.slice (.var 57) (.lit .none) (.lit (.int 8))) (.bin .add (.var 57) (.list (.cons (.lit (.int 126)) (.cons (.lit (.int 41)) .nil))))) ⟨env, []⟩ K := by
  have hlen : (ns.map PV.int).length = ns.length := List.length_map ..
  unfold srcL at k
  refine oW_eq h57 (op_is ((len_list (by (first | lia | omega))).trans (by rw [hlen])) ?_)
  by_cases q : 1 < ns.length
  · rw [if_pos q, List.map_take] at k
    exact b_t (show (1 : Int) < ns.length by (first | lia | omega)) (oW_eq h57 (op_is (slice_l (k := 8) (by (first | lia | omega))) k))
  · rw [if_neg q, List.map_append] at k
    exact b_f (show ¬ (1 : Int) < ns.length by (first | lia | omega)) (oW_eq h57 (oW_eq (addl (s := ns.map PV.int) (r := [.int 126, .int 41]) (by rw [hlen]; show ns.length + 2 ≤ 4096; (first | lia | omega))) k))
noncomputable def drawsL (ns : List Int) : List Nat := (srcL ns).map fun x => (Int.fmod x 384).toNat
theorem drawsL_ok {ns : List Int} : (drawsL ns).length ≤ 8 ∧ ∀ x ∈ drawsL ns, x < 384 := by
  unfold drawsL srcL
  refine ⟨?_, fun x hx => ?_⟩
  · rw [List.length_map]
    split
    · simp; (first | lia | omega)
    · simp; (first | lia | omega)
  · obtain ⟨i, _, rfl⟩ := List.mem_map.mp hx
    have h1 := Int.fmod_nonneg_of_pos i (show (0 : Int) < 384 by decide)
    have h2 := Int.fmod_lt_of_pos i (show (0 : Int) < 384 by decide)
    (first | lia | omega)
theorem memL_w {ds : List Nat} : ∀ m ∈ memL ds, m.2.2 = false → m.2.1 = m.1 := by
  unfold memL
  split
  · intro m hm; simp at hm; subst hm; simp
  · intro m hm
    obtain ⟨x, _, hx⟩ := List.mem_flatMap.mp (List.mem_of_mem_take hm)
    unfold mem1 at hx
    split at hx
    · simp at hx; subst hx; simp
    · split at hx
      · simp at hx; subst hx; simp
      · simp at hx
theorem list_range {led : List PObj} {a b : Int} {l : List PV} (h : iterOf (.range a b 1) = some l) : primEv led .list [.range a b 1] = some (.list l) := by
  have e1 : iterOf (.range a b 1) = (rangeInts a b 1).map (fun l => l.map PV.int) := rfl
  have e2 : primEv led .list [.range a b 1] = (rangeInts a b 1).map (fun l => PV.list (l.map PV.int)) := rfl
  rw [e1] at h
  rw [e2]
  cases hr : rangeInts a b 1 with
  | none => rw [hr] at h; cases h
  | some r => rw [hr] at h; cases h; rfl
theorem range2_it {a b n : Nat} (h : b = a + n) (hb : b ≤ 1000) : ∃ z, (∀ led, primEv led .range2 [.int a, .int b] = some z) ∧ ∀ led, primEv led .list [z] = some (intL (natUp a n)) := by
  have e := range_up (a := a) (b := b) (by (first | lia | omega)) (by (first | lia | omega)) (by (first | lia | omega)) (by (first | lia | omega))
  refine ⟨.range a b 1, fun led => ?_, fun led => ?_⟩
  · have p_r2 : ∀ {a b : Int}, primEv led .range2 [.int a, .int b] = if -ibig < a ∧ a < ibig ∧ -ibig < b ∧ b < ibig then some (.range a b 1) else none := rfl
    rw [p_r2, if_pos ⟨by unfold ibig; (first | lia | omega), by unfold ibig; (first | lia | omega), by unfold ibig; (first | lia | omega), by unfold ibig; (first | lia | omega)⟩]
  · rw [list_range e, show ((b : Int) - (a : Int)).toNat = n by (first | lia | omega), upInts_nat, List.map_map]; rfl
section
variable {C : Orac} {N : Nat} {σ : St}
theorem seqA {x : Nat} {e : PE} {r : PS} {K : Fl → St → Prop} (h : wE C e σ fun v => gd (frozen v) (wS C N r (σ.set x v) K)) : wS C N (.seq (.asg x e) r) σ K := h
theorem forI1 {x : Nat} {b : PS} {i : Int} {vs : List PV} {K : Fl → St → Prop} (h : wS C N b (σ.set x (.int i)) fun f σ' => σ'.led.length = (σ.set x (.int i)).led.length ∧ lpK (fun σ' => forW (put1 x) (wS C N b) vs σ' K) K f σ') : forW (put1 x) (wS C N b) (.int i :: vs) σ K := h
theorem addI {i j : Int} {K : PV → Prop} (h : K (.int (i + j))) : binW .add (.int i) (.int j) K := h
theorem jsW {o : PE} {s : List Nat} {lo hi : PV} {K : PV → Prop} (h : wE C o σ fun x => OpW (slicev σ.led x lo hi) fun y => OpW (primEv σ.led .join [.str s, y]) K) : wE C (.meth .join (.lit (.str s)) (.cons (.slice o (.lit lo) (.lit hi)) .nil)) σ K := h
theorem cmpW {x : Nat} {e : PE} {o : COp} {t r : PS} {v : PV} {K : Fl → St → Prop} (hx : σ.env x = some v) (h : wE C e σ fun b => oW (cmpv σ.led o v b) fun z => BrW z (wS C N t σ (seqK (fun σ' => wS C N r σ' K) K)) (wS C N r σ K)) : wS C N (.seq (.iff (.cmp o (.var x) e) t .nil) r) σ K := oW_eq hx h
end
theorem nums_list {a n c pl : Nat} : ([PV.int (pl : Int)] ++ (natUp a n).map (fun (x : Nat) => PV.int x)) ++ [PV.int ((c : Int) + (pl : Int))] = ([pl] ++ natUp a n ++ [c + pl]).map fun (x : Nat) => PV.int x := by
  rw [List.map_append, List.map_append]; rfl
theorem nums_add {a n c pl : Nat} (h : n ≤ 1000) : addV (.list ([PV.int (pl : Int)] ++ (natUp a n).map (fun (x : Nat) => PV.int x))) (.list [PV.int ((c : Int) + (pl : Int))]) = some (intL ([pl] ++ natUp a n ++ [c + pl])) :=
  (addl (by rw [List.length_append, List.length_singleton, List.length_singleton, List.length_map, natUp_len]; (first | lia | omega))).trans (congrArg (fun l => some (PV.list l)) nums_list)
theorem comp_nums {env : Vars} {base : List Nat} {A pl : Nat} {K : PV → Prop} (h56 : env 56 = some (.int pl)) (h66 : env 66 = some (.int A)) (h65 : env 65 = some (.int (base.length + 1 : Nat))) (hA : A < 50) (hP : base.length + 1 = 1 ∨ base.length + 1 = 2 ∨ base.length + 1 = 3) (hpl : pl < base.length + 1) (k : K (intL (numsL A (base.length + 1) pl))) :
    wE (orac 5) (.bin .add (.bin .add (.list (.cons (.var 56) .nil)) (.prim .list (.cons (.prim .range2 (.cons (.bin .mul (.var 66) (.var 65)) (.cons (.bin .mul (.bin .add (.var 66) (.lit (.int 4))) (.var 65)) .nil))) .nil))) (.list (.cons (.bin .add (.bin .mul (.bin .add (.var 66) (.lit (.int 4))) (.var 65)) (.var 56)) .nil))) ⟨env, []⟩ K := by
  have hAP : A * (base.length + 1) ≤ 49 * 3 := Nat.mul_le_mul (by (first | lia | omega)) (by (first | lia | omega))
  have hAP4 : (A + 4) * (base.length + 1) = A * (base.length + 1) + 4 * (base.length + 1) := Nat.add_mul _ _ _
  obtain ⟨z, hz1, hz2⟩ := range2_it hAP4 (by lia)
  have hnl1 : (natUp (A * (base.length + 1)) (4 * (base.length + 1))).length = 4 * (base.length + 1) := natUp_len _ _
  have b1 : (A : Int) * ((base.length + 1 : Nat) : Int) = (A * (base.length + 1) : Nat) := (Int.natCast_mul ..).symm
  have b2 : ((A : Int) + 4) * ((base.length + 1 : Nat) : Int) = ((A + 4) * (base.length + 1) : Nat) := by rw [Int.natCast_mul, Int.natCast_add]; rfl
  have gA : -ibig < (A : Int) ∧ (A : Int) < ibig := ⟨by unfold ibig; (first | lia | omega), by unfold ibig; (first | lia | omega)⟩
  have gA4 : -ibig < (A : Int) + 4 ∧ (A : Int) + 4 < ibig := ⟨by unfold ibig; (first | lia | omega), by unfold ibig; (first | lia | omega)⟩
  exact oW_eq h56 (oW_eq h66 (oW_eq h65 (And.intro gA (val_is b1 (oW_eq h66 (oW_eq h65 (And.intro gA4 (val_is b2 (op_is (hz1 _) (op_is (hz2 _) (oW_eq (addl (s := [PV.int (pl : Int)]) (r := (natUp (A * (base.length + 1)) (4 * (base.length + 1))).map (fun (x : Nat) => PV.int x)) (by rw [List.length_singleton, List.length_map]; (first | lia | omega))) (oW_eq h66 (oW_eq h65 (And.intro gA4 (val_is b2 (oW_eq h56 (addI (oW_eq (nums_add (by (first | lia | omega))) k))))))))))))))))))
theorem or_law {ns : List Int} (hl : ns.length ≤ 63) {K : PV → Prop} (k : K (.bool true)) : orac 6 .law [.list (ns.map .int)] K := by
  obtain ⟨hdl, hd384⟩ := drawsL_ok (ns := ns)
  have hsl : (srcL ns).length ≤ 100 := by
    have : (drawsL ns).length = (srcL ns).length := by unfold drawsL; rw [List.length_map]
    (first | lia | omega)
  refine run (And.intro rfl (seqA (comp_draws (draws_src rfl hl) hsl ?_)))
  rw [show (srcL ns).map (fun x => (Int.fmod x 384).toNat) = drawsL ns from rfl]
  generalize drawsL ns = ds at *
  generalize (ns.map PV.int) = NS at *
  -- total
  have hsum : ∀ {led : List PObj}, primEv led .sum [intL ds] = some (.int (ds.sum : Nat)) := by
    intro led
    show (sumInts (ds.map fun (x : Nat) => PV.int x) 0).map PV.int = _
    rw [show (0 : Int) = ((0 : Nat) : Int) from rfl, sumInts_ok, Nat.zero_add]; rfl
  refine op_is hsum ?_
  generalize ds.sum = t at *
  -- base
  obtain ⟨hb2, hb128⟩ := baseL_ok hd384
  have hfl : ((ds.filter fun x => decide (x % 3 = 0))).length ≤ 8 := Nat.le_trans (List.length_filter_le _ _) hdl
  refine gd_i rfl (seqA (jsW (comp_chars (ds := ds) rfl (by (first | lia | omega)) hd384 (op_is (slice_l (k := 2) (by rw [List.length_map]; (first | lia | omega))) (op_is (join_chars (by (first | lia | omega))) ?_)))))
  rw [show ((ds.filter fun x => decide (x % 3 = 0)).map fun x => x / 3).take 2 = baseL ds from rfl]
  -- members
  refine nn fun no => ?_
  obtain ⟨hm3, hm0, hm4⟩ := memL_ok (ds := ds)
  refine no ?_
  have hmw := memL_w (ds := ds)
  have hmne : memL ds ≠ [] := fun e => by rw [e] at hm0; exact absurd hm0 (by decide)
  refine oW_eq rfl (CallW.mk (or_members (ds := ds) (by (first | lia | omega)) ?_))
  generalize baseL ds = base at *
  generalize memL ds = ms at *
  have hP : base.length + 1 = 1 ∨ base.length + 1 = 2 ∨ base.length + 1 = 3 := by lia
  have hpl : t % (base.length + 1) < base.length + 1 := Nat.mod_lt _ (by lia)
  have hslot : t % (base.length + 2) < base.length + 2 := Nat.mod_lt _ (by lia)
  have hA : t / 12 % 50 < 50 := Nat.mod_lt _ (by lia)
  obtain ⟨pl, hpl0⟩ : ∃ x, t % (base.length + 1) = x := ⟨_, rfl⟩
  obtain ⟨A, hA0⟩ : ∃ x, t / 12 % 50 = x := ⟨_, rfl⟩
  obtain ⟨slot, hs0⟩ : ∃ x, t % (base.length + 2) = x := ⟨_, rfl⟩
  rw [hpl0] at hpl
  rw [hA0] at hA
  rw [hs0] at hslot
  have hple : pl ≤ base.length := by lia
  refine op_is (len_str (by (first | lia | omega))) (And.intro (show (0 : Int) < (base.length + 1 : Nat) by (first | lia | omega)) (mod_is (n := base.length + 1) hpl0 ?_))
  refine And.intro ⟨by decide, by decide⟩ (div_is (n := 6) rfl (And.intro (by decide) (mod_is (n := 2) rfl ?_)))
  show wS (orac 5) 400 _ (St.set _ 40 (.bool (decide (((t / 6 % 2 : Nat) : Int) = 1)))) _
  generalize decide (((t / 6 % 2 : Nat) : Int) = 1) = b
  refine And.intro ⟨by decide, by decide⟩ (div_is (n := 12) rfl (And.intro (by decide) (mod_is (n := 50) hA0 ?_)))
  refine CallW.mk (or_bracket (ms := ms) (barred := b) (low := 128 + A) (by lia) hm4 hm3 ?_)
  have ht1 : ∀ c ∈ base.take pl, c < 128 := fun c h => hb128 c (List.mem_of_mem_take h)
  have ht2 : ∀ c ∈ base.drop pl, c < 128 := fun c h => hb128 c (List.mem_of_mem_drop h)
  have lt1 : (base.take pl).length ≤ 2 := by rw [List.length_take]; lia
  have lt2 : (base.drop pl).length ≤ 2 := by rw [List.length_drop]; (first | lia | omega)
  have dl1 := dress_len (base.take pl)
  have dl2 := dress_len (base.drop pl)
  have lbr : (brTxt (128 + A) b ms).length ≤ 20 := by
    have := stT_len (low := 128 + A) ms
    have h4 : (bang b).length ≤ 1 := by rcases bang_or b with q | q <;> rw [q] <;> decide
    rw [brTxt_eq]; simp only [List.length_cons, List.length_append, List.length_nil]; lia
  refine op_is (slice_lo (by (first | lia | omega)) hple) (CallW.mk (or_dressed (by (first | lia | omega)) ht1 (oW_eq (adds (s := (base.take pl).flatMap dress) (r := brTxt (128 + A) b ms) (by (first | lia | omega))) (op_is (slice_hi (by (first | lia | omega)) hple) (CallW.mk (or_dressed (by (first | lia | omega)) ht2 (oW_eq (adds (s := (base.take pl).flatMap dress ++ brTxt (128 + A) b ms) (r := (base.drop pl).flatMap dress) (by rw [List.length_append]; lia)) (CallW.mk (or_transl (low := 128 + A) (br := b) (ms := ms) (by lia) (by (first | lia | omega)) (by (first | lia | omega)) ht1 ht2 hmne hm3 hmw ?_)))))))))
  rw [← popt_parts, List.map_map]
  refine gd_i rfl (seqA (comp_hd rfl hb2 hb128 ?_))
  refine gd_i rfl (seqA (comp_nums (base := base) rfl rfl rfl hA hP hpl ?_))
  have hno : ∀ d ∈ numsL A (base.length + 1) pl, d < 170 ∧ d / (base.length + 1) ≤ A + 4 := fun d h => numsL_ok hA hP hpl h
  have hnlen := numsL_len A (base.length + 1) pl
  have hplm : pl ∈ numsL A (base.length + 1) pl := by unfold numsL; exact List.mem_append_left _ (List.mem_append_left _ (List.mem_singleton.mpr rfl))
  generalize numsL A (base.length + 1) pl = nums at *
  have hnle : nums.length ≤ 100 := by (first | lia | omega)
  have hd170 : ∀ d ∈ nums, d < 170 := fun d h => (hno d h).1
  have hn0 : 0 < nums.length := by (first | lia | omega)
  have hj : t / 2 % nums.length < nums.length := Nat.mod_lt _ hn0
  have hd2m : nums[t / 2 % nums.length]'hj ∈ nums := List.getElem_mem hj
  have hnil : (nums.map fun (x : Nat) => PV.int x).length = nums.length := List.length_map ..
  have hidx : ∀ {led : List PObj}, idxv led (intL nums) (.int (t / 2 % nums.length : Nat)) = some (.int (nums[t / 2 % nums.length]'hj : Nat)) := idx_list (by (first | lia | omega)) (by rw [List.getElem?_map, List.getElem?_eq_getElem hj]; rfl)
  generalize nums[t / 2 % nums.length]'hj = dB at *
  refine gd_i rfl (seqA (comp_gens rfl rfl hnle hb2 hd170 ?_))
  refine gd_i rfl (cmpW rfl (comp_first rfl hnle hd170 (oW_eq (c_neself (.inr (.inr (by rw [List.all_map]; exact List.all_eq_true.mpr fun _ _ => rfl)))) (bW_f rfl ?_))))
  refine seqA (comp_names rfl rfl hnle hb2 hb128 hd170 ?_)
  refine gd_i rfl (seqA (comp_taken (low := 128 + A) (A := A) (b := b) (ms := ms) (base := base) (pl := pl) rfl rfl rfl rfl hm3 hmw hb2 hb128 hple hnle ?_))
  refine gd_i rfl (seqA (comp_due (ms := ms) (b := b) (pl := pl) (P := base.length + 1) (A := A) rfl rfl rfl rfl rfl rfl hnle (by lia) (by (first | lia | omega)) hm3 ?_))
  generalize (nums.filter fun d => decide (d % (base.length + 1) = pl) && insB ms b ((d / (base.length + 1) : Nat) - (A : Int))) = TK
  refine op_is (z := .int (base.length + 1 : Nat)) ((len_list (by rw [List.length_map, popt_len hple]; (first | lia | omega))).trans (by rw [List.length_map, popt_len hple])) (oW_eq rfl (bW_f (show (!decide (((base.length + 1 : Nat) : Int) = (base.length + 1 : Nat))) = false by rw [decide_eq_true rfl]; rfl) ?_))
  show wS (orac 5) 400 _ _ _
  refine cmpW rfl (comp_laid rfl rfl rfl hnle hb2 hd170 (oW_eq (c_neself (.inr (.inl (by rw [List.all_map]; exact List.all_eq_true.mpr fun _ _ => rfl)))) (bW_f rfl ?_)))
  refine And.intro (show (0 : Int) < (base.length + 2 : Nat) by (first | lia | omega)) (mod_is (n := base.length + 2) hs0 ?_)
  refine And.intro ⟨by decide, by decide⟩ (div_is (n := 2) rfl (op_is (z := .int nums.length) ((len_list (by (first | lia | omega))).trans (by rw [hnil])) (And.intro (show (0 : Int) < (nums.length : Nat) by (first | lia | omega)) (mod_is (n := nums.length) rfl (op_is hidx (And.intro (lb rfl) (LoopW.mk ?_)))))))
  refine forI1 (law_step (base := base) (A := A) (slot := slot) (d := pl) rfl rfl rfl rfl rfl rfl hb2 hb128 hA hslot (hd170 _ hplm) (hno _ hplm).2 fun e1 k1 => ?_)
  refine And.intro rfl ?_
  refine forI1 (law_step (base := base) (A := A) (slot := slot) (d := dB) (k1 66 (by decide) (by decide) (by decide)) (k1 65 (by decide) (by decide) (by decide)) (k1 67 (by decide) (by decide) (by decide)) (k1 20 (by decide) (by decide) (by decide)) (k1 62 (by decide) (by decide) (by decide)) rfl hb2 hb128 hA hslot (hd170 _ hd2m) (hno _ hd2m).2 fun e2 k2 => ?_)
  refine And.intro rfl ?_
  exact oW_eq ((k2 58 (by decide) (by decide) (by decide)).trans (k1 58 (by decide) (by decide) (by decide))) (oW_eq ((k2 59 (by decide) (by decide) (by decide)).trans (k1 59 (by decide) (by decide) (by decide))) (oW_eq (cmpEq_self (.inl (by rw [List.all_map]; exact List.all_eq_true.mpr fun _ _ => rfl))) k))
end Mine
namespace Mine
open _root_.PySem _root_.PySem.Calls _root_.PySem.W _root_.PyProof.Rows

/-! ### bytearray -/
theorem ba_plain : PlainAttrs "bytearray" :=
  ⟨⟨"bytearray.__getattribute__", by rw [typeLookup_type, builtinLookup_eq_fast]; kernel_rfl, by decide +kernel⟩, by rw [typeLookup_type, builtinLookup_eq_fast]; kernel_rfl⟩
theorem ba_append : Slot "bytearray" "append" "bytearray.append" :=
  .of (owner := "bytearray") (n := "append") (by rw [typeLookup_type, builtinLookup_eq_fast]; kernel_rfl) (by decide +kernel) (by decide +kernel) (by decide +kernel)
    (by first | exact .inl (by decide +kernel) | exact .inr (by decide +kernel)) (by rw [isSubtype_type]; kernel_rfl)
theorem ba_append_ty : typeOf (.builtin "bytearray.append") = pure (.type "method_descriptor") := by show builtinType _ = _; rw [builtinType_eq_fast]; kernel_rfl
theorem ba_append_entry : entryFor table "bytearray.append" = some Builtin.«bytearray.append» := entryFor_of_tree (by kernel_rfl)
theorem ba_owner : Manifest.owners.lookup (String.ofList ['y', 'a', 'r', 'r', 'a', 'e', 't', 'y', 'b'].reverse) = some Manifest.sig_bytearray := by kernel_rfl
theorem ba_append_args (a b : Value) : argsOk "bytearray.append" ⟨[a, b], []⟩ := by
  unfold argsOk; rw [signature?_of (id := "bytearray.append") (n := ['d', 'n', 'e', 'p', 'p', 'a']) (o := ['y', 'a', 'r', 'r', 'a', 'e', 't', 'y', 'b']) (by kernel_rfl) ba_owner]; kernel_rfl
theorem ba_extend : Slot "bytearray" "extend" "bytearray.extend" :=
  .of (owner := "bytearray") (n := "extend") (by rw [typeLookup_type, builtinLookup_eq_fast]; kernel_rfl) (by decide +kernel) (by decide +kernel) (by decide +kernel)
    (by first | exact .inl (by decide +kernel) | exact .inr (by decide +kernel)) (by rw [isSubtype_type]; kernel_rfl)
theorem ba_extend_ty : typeOf (.builtin "bytearray.extend") = pure (.type "method_descriptor") := by show builtinType _ = _; rw [builtinType_eq_fast]; kernel_rfl
theorem ba_extend_entry : entryFor table "bytearray.extend" = some Builtin.«bytearray.extend» := entryFor_of_tree (by kernel_rfl)
theorem ba_extend_args (a b : Value) : argsOk "bytearray.extend" ⟨[a, b], []⟩ := by
  unfold argsOk; rw [signature?_of (id := "bytearray.extend") (n := ['d', 'n', 'e', 't', 'x', 'e']) (o := ['y', 'a', 'r', 'r', 'a', 'e', 't', 'y', 'b']) (by kernel_rfl) ba_owner]; kernel_rfl
theorem ba_init : Slot "bytearray" "__init__" "bytearray.__init__" :=
  .of (owner := "bytearray") (n := "__init__") (by rw [typeLookup_type, builtinLookup_eq_fast]; kernel_rfl) (by decide +kernel) (by decide +kernel) (by decide +kernel)
    (by first | exact .inl (by decide +kernel) | exact .inr (by decide +kernel)) (by rw [isSubtype_type]; kernel_rfl)
theorem ba_init_entry : entryFor table "bytearray.__init__" = some Builtin.«bytearray.__init__» := entryFor_of_tree (by kernel_rfl)
theorem ba_init_args (a : Value) : argsOk "bytearray.__init__" ⟨[a], []⟩ := by
  unfold argsOk; rw [signature?_of (id := "bytearray.__init__") (n := ['_', '_', 't', 'i', 'n', 'i', '_', '_']) (o := ['y', 'a', 'r', 'r', 'a', 'e', 't', 'y', 'b']) (by kernel_rfl) ba_owner]; kernel_rfl
theorem ba_mro : mroOf (.type "bytearray") = pure [.type "bytearray", .type "object"] := by rw [mroOf_type]; kernel_rfl
theorem ba_new : typeLookup (.type "bytearray") "__new__" = pure (some (.builtin "bytearray.__new__")) := by rw [typeLookup_type, builtinLookup_eq_fast]; kernel_rfl
theorem ba_called : TypeCalled "bytearray" "bytearray.__new__" "bytearray.__init__" :=
  ⟨by decide +kernel, by decide +kernel, ⟨_, _, ba_mro⟩, madeBy_type ba_mro ba_new (by decide +kernel), by decide +kernel, by rw [isSubtype_type]; kernel_rfl, ba_init⟩
theorem ba_typeCall : checkTypeCall "bytearray" ⟨[], []⟩ = pure () := by kernel_rfl
theorem ba_newCall : checkBuiltinCall "bytearray.__new__" ⟨[.type "bytearray"], []⟩ = pure () := by kernel_rfl

section
variable {prog : Program} {w : World} {A : Around} {s : Shared} {P : Addr}

theorem codeB_builtin {id : String} {args : Args} {b : Builtin} {R : Flow → Shared → Prop} (hb : entryFor table id = some b)
    (h : wpB (model prog w) (A.under (.builtin id args)) (b args) (fun fin s' => match fin with | .done f => R f s' | .again c' => c'.quiet = true ∧ cool c' ∧ codeB (model prog w) A c' R s') s) : codeB (model prog w) A (.builtin id args) R s := by
  refine codeB_of_tree ?_
  show wpB _ _ (match entryFor table id with | some b => b args | none => unsupported ((withoutEnding? id "#data").getD id)) _ s
  rw [hb]; exact h
theorem codeB_call_builtin {id : String} {args : Args} {b : Builtin} {R : Flow → Shared → Prop} (hp : plainId id = true) (hc : cool (.builtin id args)) (hb : entryFor table id = some b)
    (h : wpB (model prog w) A.in1 (checkBuiltinCall id args) (fun _ s₁ => wpB (model prog w) A.in1 (b args) (fun fin s' => match fin with | .done f => R f s' | .again c' => c'.quiet = true ∧ cool c' ∧ codeB (model prog w) A c' R s') s₁) s) :
    codeB (model prog w) A (.call (.builtin id) args) R s := by
  refine codeB_of_tree ?_
  show wpB _ A.in1 (do checkBuiltinCall id args; again (.builtin id args)) _ s
  refine wpB_bindm h fun _ s₁ h₁ => wpB_pure ⟨plainId_quiet hp args, hc, codeB_builtin hb ?_⟩
  rw [Around.under_plainId hp args]
  exact h₁
theorem wpB_call_slot {T id : String} {name : Str} {self : Value} {rest : List Value} {b : Builtin} {Q : Value → Shared → Prop} (slot : Slot T name id) (hT : s.TypeIs self T) (hc : cool (.builtin id ⟨self :: rest, []⟩)) (hb : entryFor table id = some b) (args : argsOk id ⟨self :: rest, []⟩)
    (h : wpB (model prog w) A.in1 (b ⟨self :: rest, []⟩) (fun fin s' => ∃ v, fin = .done (.ret v) ∧ Q v s') s) : wpB (model prog w) A (call (.builtin id) (self :: rest)) Q s := by
  refine wpB_call (codeB_call_builtin slot.plain hc hb (wpB_leaf (slot.check _ _ _ _ _ _ _ _ hT args ?_)))
  refine wpB_mono h fun fin s' ⟨v, e, hq⟩ => ?_
  subst e
  exact ⟨v, rfl, hq⟩

set_option tactic.hygienic true in
theorem exported_no {self : Value} {Q : Bool → Shared → Prop} (h : Q false s) : wpB (model prog w) A (Builtin.Bytes.exported self) Q s := by
  intro Γ p h1 h2
  unfold Builtin.Bytes.exported
  show Sem.wp _ Γ (Sem.bind stack _) _ _ p s
  unfold stack
  rw [Sem.wp_bind, Sem.wp_stack]
  have hany : (((Γ.code, p) :: Γ.below).any (held self)) = false := by
    rw [List.any_eq_false]
    intro x hx
    rcases List.mem_cons.mp hx with e | hx
    · rw [e, h2.code self p]; exact Bool.false_ne_true
    · rw [h2.below _ hx self x.2]; exact Bool.false_ne_true
  rw [← hany] at h
  exact h

theorem ba_resize {a : Addr} {arr : Array UInt8} {Q : Unit → Shared → Prop} (ho : s.heap.get? a = some { cls := .type "bytearray", data := .bytearray arr 0 }) (h : Q () s) : wpB (model prog w) A (Builtin.Bytes.checkResize (.ref a)) Q s := by
  unfold Builtin.Bytes.checkResize
  refine wpB_bind ?_
  show wpB _ _ (Builtin.Bytes.exported (.ref a) >>= fun b => match b with | true => pure b | false => (do let n ← Builtin.Bytes.exportsOf (.ref a); pure (decide (n > 0)))) _ _
  refine wpB_bind (exported_no ?_)
  refine wpB_bind (m := Builtin.Bytes.exportsOf (.ref a)) ?_
  unfold Builtin.Bytes.exportsOf
  refine wpB_bind (wpB_load ho (wpB_pure (wpB_pure ?_)))
  exact wpB_pure h
theorem ba_write {a : Addr} {arr : Array UInt8} {f : Array UInt8 → Array UInt8} {Q : Unit → Shared → Prop} (ho : s.heap.get? a = some { cls := .type "bytearray", data := .bytearray arr 0 }) (hz : (f arr).size ≤ sizeLine)
    (h : ∀ h', h'.get? a = some { cls := .type "bytearray", data := .bytearray (f arr) 0 } → Heap.SameBut a s.heap h' → Q () { s with heap := h' }) : wpB (model prog w) A (Builtin.Bytes.write (.ref a) f) Q s := by
  show wpB _ _ (updateBytearray a f) _ _
  unfold updateBytearray
  refine wpB_bind (wpB_load ho ?_)
  have ho' : (s.heap.update a (Obj.mapBytearray f)).get? a = some { cls := .type "bytearray", data := .bytearray (f arr) 0 } := Heap.get?_update_self _ ho rfl
  refine wpB_bind (m := update a (Obj.mapBytearray f)) (wpB_leaf (wpAny_update ho (wpB_leaf (wpAny_lookBehind ho' ?_ (h _ ho' (Heap.SameBut.update ..))))))
  show (if (f arr).size > sizeLine then some "bytearray:memory" else none) = none
  exact if_neg (Nat.not_lt.mpr hz)
theorem ba_append_ok {a : Addr} {arr : Array UInt8} {i : Int} {t : Tok} (T : TabIs P s.heap) (ho : s.heap.get? a = some { cls := .type "bytearray", data := .bytearray arr 0 }) (h0 : 0 ≤ i) (h1 : i < 256) (hz : arr.size ≤ big) :
    wpB (model prog w) A (call (.builtin "bytearray.append") [.ref a, .int i t]) (fun r s' => r = .none ∧ Upd P [a] s s' ∧ s'.heap.get? a = some { cls := .type "bytearray", data := .bytearray (arr.push (UInt8.ofNat i.toNat)) 0 }) s := by
  refine wpB_call_slot ba_append ⟨_, ho, rfl⟩ (cool_id fun _ _ => by kernel_rfl) ba_append_entry (ba_append_args _ _) ?_
  show wpB _ _ (do
    let c ← Builtin.Bytes.byteValue (.int i t)
    Builtin.Bytes.checkResize (.ref a)
    Builtin.Bytes.write (.ref a) (·.push c)
    ret .none) _ _
  have hb : wpB (model prog w) A.in1 (Builtin.Bytes.byteValue (.int i t)) (fun c s' => c = UInt8.ofNat i.toNat ∧ s' = s) s := by
    show wpB _ _ (if (decide (i < 0) || decide (i ≥ 256)) = true then _ else pure i.toNat.toUInt8) _ _
    rw [decide_eq_false (by (first | lia | omega)), decide_eq_false (by (first | lia | omega))]
    exact wpB_pure ⟨rfl, rfl⟩
  refine wpB_bindm hb fun c s' ⟨hc, hs⟩ => ?_
  subst hc hs
  refine wpB_bind (ba_resize ho (wpB_bind (ba_write ho (by rw [Array.size_push, sizeLine_eq]; unfold big at hz; (first | lia | omega)) fun h' hg hs => wpB_pure ⟨_, rfl, rfl, ?_, hg⟩)))
  exact Upd.one (t := s'.toks) T hs ho (.cls (by nofun))
end
end Mine
namespace Mine
open _root_.PySem _root_.PySem.Calls _root_.PySem.W _root_.PyProof.Rows

section
variable {prog : Program} {w : World} {A : Around} {s : Shared} {P : Addr}

theorem take_eq {id : String} {b : Array UInt8} {t : Tok} : Builtin.Bytes.takeBufferQuiet? id (.bytes b t) 0 = pure (some (b, none)) := by
  have h : Builtin.Bytes.takeBuffer? id (.bytes b t) 0 = pure (some (b, none)) := by
    unfold Builtin.Bytes.takeBuffer?
    rw [KBy.special_eq KBy.look_buffer, KBy.own_buffer]
    simp only [pure_bind]
    show (do let x ← Builtin.Bytes.buffer? id (.bytes b t) ((0 : Int) == Builtin.Bytes.fullReadOnly); return x.map (·, (none : Option Value))) = _
    have : ((0 : Int) == Builtin.Bytes.fullReadOnly) = false := by decide
    rw [this, KBy.buffer_eq]
    rfl
  unfold Builtin.Bytes.takeBufferQuiet?
  rw [h]
  rfl

theorem ba_extend_ok {a : Addr} {arr b : Array UInt8} {t : Tok} (T : TabIs P s.heap) (ho : s.heap.get? a = some { cls := .type "bytearray", data := .bytearray arr 0 }) (hb : b.size ≤ big) (hz : arr.size ≤ big) :
    wpB (model prog w) A (call (.builtin "bytearray.extend") [.ref a, .bytes b t]) (fun r s' => r = .none ∧ Upd P [a] s s' ∧ s'.heap.get? a = some { cls := .type "bytearray", data := .bytearray (arr ++ b) 0 }) s := by
  refine wpB_call_slot ba_extend ⟨_, ho, rfl⟩ (cool_id fun _ _ => by kernel_rfl) ba_extend_entry (ba_extend_args _ _) ?_
  show wpB _ _ (specialOf (.bytes b t) "__buffer__" >>= fun x => _) _ _
  rw [KBy.special_eq KBy.look_buffer]
  refine wpB_bind (wpB_pure (wpB_bind (wpB_pure ?_)))
  simp only [Option.isSome_some, if_true]
  refine wpB_bind (wpB_rule (wpB_bind ?_))
  have hp : wpB (model prog w) A.in1 (Builtin.Bytes.payload (.ref a)) (fun x s' => x = arr ∧ s' = s) s := by
    unfold Builtin.Bytes.payload Builtin.Bytes.payload?
    exact wpB_bind (wpB_bind (wpB_load ho (wpB_pure (wpB_pure ⟨rfl, rfl⟩))))
  refine wpB_mono hp fun x s' ⟨hx, hs⟩ => ?_
  subst hx hs
  rw [take_eq]
  refine wpB_bind (wpB_pure ?_)
  simp only [Option.isNone_none, if_true]
  have fin : wpB (model prog w) A.in1 (Builtin.Bytes.write (.ref a) (· ++ b) >>= fun _ => ret .none) (fun fin s'' => ∃ v, fin = .done (.ret v) ∧ v = .none ∧ Upd P [a] s' s'' ∧ s''.heap.get? a = some { cls := .type "bytearray", data := .bytearray (x ++ b) 0 }) s' :=
    wpB_bind (ba_write ho (by rw [Array.size_append, sizeLine_eq]; unfold big at hz hb; (first | lia | omega)) fun h' hg hs => wpB_pure ⟨_, rfl, rfl, Upd.one (t := s'.toks) T hs ho (.cls (by nofun)), hg⟩)
  show wpB _ _ (if (!b.isEmpty) = true then (Builtin.Bytes.checkResize (.ref a) >>= fun _ => Builtin.Bytes.write (.ref a) (· ++ b) >>= fun _ => ret .none) else (Builtin.Bytes.write (.ref a) (· ++ b) >>= fun _ => ret .none)) _ _
  split
  · exact wpB_bind (ba_resize ho fin)
  · exact fin
end
end Mine
namespace Mine
open _root_.PySem _root_.PySem.Calls _root_.PySem.W _root_.PyProof.Rows

theorem ba_new_entry : entryFor table "bytearray.__new__" = some Builtin.«list.__new__» :=
  entryFor_alias (id' := "list.__new__") (by kernel_rfl) (by first | rfl | decide +kernel | (unfold String.splitOn; simp +decide [String.splitOnAux])) (by decide +kernel) (by kernel_rfl)
theorem ba_new_plain : plainId "bytearray.__new__" = true := by decide +kernel
theorem ba_owner_new : ("bytearray.__new__".splitOn ".__new__").headD "" = "bytearray" := by simp +decide [String.splitOn, String.splitOnAux]
theorem ba_sub_self : isSubtype (.type "bytearray") (.type "bytearray") = pure true := by rw [isSubtype_type]; kernel_rfl

section
variable {prog : Program} {w : World} {A : Around} {E : Value → Shared → Prop} {s : Shared} {P : Addr}

theorem ba_code_new {Q₁ : Value → Shared → Prop}
    (h : Q₁ (.ref s.heap.objs.size) { s with heap := s.heap.push { cls := .type "bytearray", data := .bytearray #[] } }) :
    codeAny (model prog w) A (.call (.builtin "bytearray.__new__") ⟨[.type "bytearray"], []⟩) (wants Q₁ E) s := by
  refine codeAny_of_tree ?_
  show wpAny _ A.in1 (do checkBuiltinCall "bytearray.__new__" ⟨[.type "bytearray"], []⟩; again (.builtin "bytearray.__new__" ⟨[.type "bytearray"], []⟩)) _ _ s
  refine wpAny_bind (wpAny_of_eq ba_newCall (wpAny_pure ⟨plainId_quiet ba_new_plain _, codeAny_builtin_stack ba_new_entry rfl fun p st => ?_⟩))
  rw [Around.under_plainId ba_new_plain _]
  have hsub := ba_sub_self
  have hown := ba_owner_new
  obtain ⟨hp, g, d, tk, os⟩ := s
  simp only [hown]
  wp_walk
  exact h

theorem wpB_typeCall {T newId initId : String} {args : List Value} {Q : Value → Shared → Prop} (ft : TypeCalled T newId initId) (hct : checkTypeCall T ⟨args, []⟩ = pure ())
    (hnew : wpB (model prog w) A.in1 (call (.builtin newId) (.type T :: args)) (fun obj s₁ => s₁.TypeIs obj T ∧ wpB (model prog w) A.in1 (call (.builtin initId) (obj :: args)) (fun r s₂ => r = .none ∧ Q obj s₂) s₁) s) :
    wpB (model prog w) A (call (.type T) args) Q s := by
  obtain ⟨c, tl, hmro⟩ := ft.mro
  refine wpB_call (codeB_of_tree ?_)
  show wpB _ A.in1 (pure (_root_.PySem.Fin.again (.builtin "type.__call__" ⟨.type T :: args, []⟩))) _ _
  refine wpB_pure ⟨Code.quiet_builtin _ (by decide +kernel), (cool_id fun _ _ => by kernel_rfl), codeB_builtin F.entry_type_call ?_⟩
  rw [Around.under_plain (weight_type_call_type T args []) (units_type_call_type T args [])]
  unfold Builtin.«type.__call__»
  simp only [ft.notType, Bool.false_eq_true, if_false, ft.canCreate, hct, pure_bind, hmro, List.isEmpty_cons, ft.made]
  refine wpB_bind (wpB_holding (wpB_mono hnew fun obj s₁ ⟨hT, hi⟩ => ?_))
  refine wpB_bind (wpB_leaf (wpAny_isInstance hT ft.sub ?_))
  simp only [Bool.not_true, Bool.false_eq_true, if_false]
  refine wpB_bind (wpB_holding ?_)
  simp only [callSpecial?]
  refine wpB_bind (wpB_leaf (wpAny_specialOf hT ft.init.lookup ?_))
  simp only [List.map_nil, List.append_nil]
  refine wpB_holding ?_
  rw [ft.init.bind obj, pure_bind]
  refine wpB_bind (wpB_mono hi fun r s₂ ⟨hr, hq⟩ => wpB_pure ?_)
  subst hr
  exact wpB_pure ⟨_, rfl, hq⟩

theorem ba_make {Q : Value → Shared → Prop} (h : ∀ s', (∀ b o, s.heap.get? b = some o → s'.heap.get? b = some o) → s'.heap.get? s.heap.objs.size = some { cls := .type "bytearray", data := .bytearray #[] 0 } → (∃ h', s' = { s with heap := h' }) → Q (.ref s.heap.objs.size) s') :
    wpB (model prog w) A (call (.type "bytearray") []) Q s := by
  refine wpB_typeCall ba_called ba_typeCall (wpB_leaf (wpAny_call (ba_code_new ⟨⟨_, Heap.get?_push_size _ rfl, rfl⟩, ?_⟩)))
  have ho : (s.heap.push { cls := .type "bytearray", data := .bytearray #[] }).get? s.heap.objs.size = some { cls := .type "bytearray", data := .bytearray #[] 0 } := Heap.get?_push_size _ rfl
  refine wpB_call_slot ba_init ⟨_, ho, rfl⟩ (cool_id fun _ _ => by kernel_rfl) ba_init_entry (ba_init_args _) ?_
  have hT : ({ s with heap := s.heap.push { cls := .type "bytearray", data := .bytearray #[] } } : Shared).TypeIs (.ref s.heap.objs.size) "bytearray" := ⟨_, ho, rfl⟩
  have hrel : typeLookup (.type "bytearray") "__release_buffer__" = pure (some (.builtin "bytearray.__release_buffer__")) := by rw [typeLookup_type, builtinLookup_eq_fast]; kernel_rfl
  have e1 : ("bytearray.__release_buffer__" : String).endsWith ("." ++ "__release_buffer__") = true := by decide +kernel
  have e2 : ("bytearray.__release_buffer__" : String).dropRight ("__release_buffer__".length + 1) = "bytearray" := by decide +kernel
  have own : ∀ {Q : Bool → Shared → Prop}, Q false { s with heap := s.heap.push { cls := .type "bytearray", data := .bytearray #[] } } → wpB (model prog w) A.in1.in1 (Builtin.Bytes.ownRelease (.ref s.heap.objs.size)) Q { s with heap := s.heap.push { cls := .type "bytearray", data := .bytearray #[] } } := by
    intro Q hq
    unfold Builtin.Bytes.ownRelease Builtin.Bytes.slotIsOwn
    refine wpB_bind (wpB_bind (wpB_leaf (wpAny_specialOf hT hrel ?_)))
    dsimp only
    rw [e1, e2]
    exact wpB_leaf (wpAny_isInstance hT ba_sub_self (wpB_pure hq))
  have hb : Builtin.Bytes.bindOptional "bytearray.__init__" "bytearray" ["source", "encoding", "errors"] [] [] = pure [none, none, none] := by kernel_rfl
  unfold Builtin.«bytearray.__init__»
  refine wpB_bind (own ?_)
  show wpB _ _ (Builtin.Bytes.bindOptional "bytearray.__init__" "bytearray" ["source", "encoding", "errors"] [] [] >>= _) _ _
  rw [hb]
  refine wpB_bind (wpB_pure ?_)
  refine wpB_bind (m := Builtin.Bytes.checkCodecArg "bytearray.__init__" "bytearray" "encoding" none) (wpB_pure ?_)
  refine wpB_bind (m := Builtin.Bytes.checkCodecArg "bytearray.__init__" "bytearray" "errors" none) (wpB_pure ?_)
  refine wpB_bind ?_
  show wpB _ _ (Builtin.Bytes.exported (.ref s.heap.objs.size) >>= fun b => match b with | true => pure b | false => (do let n ← Builtin.Bytes.exportsOf (.ref s.heap.objs.size); pure (decide (n > 0)))) _ _
  refine wpB_bind (exported_no ?_)
  refine wpB_bind (m := Builtin.Bytes.exportsOf (.ref s.heap.objs.size)) ?_
  unfold Builtin.Bytes.exportsOf
  refine wpB_bind (wpB_load ho (wpB_pure (wpB_pure ?_)))
  refine wpB_bind (m := Builtin.Bytes.write (.ref s.heap.objs.size) _) (ba_write ho (by rw [sizeLine_eq]; decide) fun h' hg hs => ?_)
  refine wpB_pure ⟨_, rfl, rfl, h _ (fun b o e => ?_) hg ⟨h', rfl⟩⟩
  exact hs.extBut b o (Nat.ne_of_lt (Heap.lt_size e)) (Heap.get?_push_of_some _ e)
end
end Mine
namespace Mine
open _root_.PySem _root_.PySem.Calls _root_.PySem.W _root_.PyProof.Rows

theorem md_ty : typeOf (.builtin "list.append") = pure (.type "method_descriptor") := by show builtinType _ = _; rw [builtinType_eq_fast]; kernel_rfl
theorem md_get : Slot "method_descriptor" "__get__" "method_descriptor.__get__" :=
  .of (owner := "method_descriptor") (n := "__get__") (by rw [typeLookup_type, builtinLookup_eq_fast]; kernel_rfl) (by decide +kernel) (by decide +kernel) (by decide +kernel)
    (by first | exact .inl (by decide +kernel) | exact .inr (by decide +kernel)) (by rw [isSubtype_type]; kernel_rfl)
theorem md_noset : typeLookup (.type "method_descriptor") "__set__" = pure none := by rw [typeLookup_type, builtinLookup_eq_fast]; kernel_rfl
theorem md_nodel : typeLookup (.type "method_descriptor") "__delete__" = pure none := by rw [typeLookup_type, builtinLookup_eq_fast]; kernel_rfl
theorem md_entry : entryFor table "method_descriptor.__get__" = some Builtin.«method_descriptor.__get__» := entryFor_of_tree (by kernel_rfl)
theorem md_args (a b c : Value) : argsOk "method_descriptor.__get__" ⟨[a, b, c], []⟩ := by unfold argsOk; kernel_rfl
theorem lk_list_append : typeLookup (.type "list") "append" = pure (some (.builtin "list.append")) := PySem.F.slot_list_append.lookup

section
variable {prog : Program} {w : World} {A : Around} {E : Value → Shared → Prop} {h : Heap} {g : Array GenState} {d : Drawn} {t : Nat} {os : OsState} {a : Addr} {o : Obj}
theorem app_get {vs : Array Value} {n : Nat} {R : Result → Shared → Prop} (hx : h.get? a = some { cls := .type "list", data := .seq vs n })
    (hq : R (.ok (.ret (.ref h.objs.size))) ⟨h.push { cls := .type "builtin_function_or_method", data := .fields #[.builtin "list.append", .ref a] }, g, d, t, os⟩) :
    codeAny (model prog w) A (.call (.builtin "method_descriptor.__get__") ⟨[.builtin "list.append", .ref a, .type "list"], []⟩) R ⟨h, g, d, t, os⟩ := by
  have hT : (⟨h, g, d, t, os⟩ : Shared).TypeIs (.ref a) "list" := ⟨_, hx, rfl⟩
  have hT5 : (⟨h, g, d, t, os⟩ : Shared).TypeIs (.builtin "list.append") "method_descriptor" := md_ty
  have f8 : isSubtype (.type "list") (.type (".".intercalate ("list.append".cutAt '.').dropLast)) = pure true := by
    have e0 : (".".intercalate ("list.append".cutAt '.').dropLast) = "list" := by
      have e0 : "list.append".cutAt '.' = ["list", "append"] := by first | rfl | decide +kernel
      rw [e0]; decide +kernel
    rw [e0, isSubtype_type]; kernel_rfl
  have f9 : Manifest.toldItsClass.contains "list.append" = false := by decide +kernel
  refine codeAny_call_builtin md_get.plain md_entry (md_get.check _ _ _ _ _ _ _ _ hT5 (md_args _ _ _) ?_)
  repeat (any_goals (first | assumption | wp_step))
theorem app_entry_list {vs : Array Value} {n : Nat} {tk : Tok} {Q : _root_.PySem.Fin → Shared → Prop} (hx : h.get? a = some { cls := .type "list", data := .seq vs n })
    (hq : Q (.done (.ret (.ref h.objs.size))) ⟨h.push { cls := .type "builtin_function_or_method", data := .fields #[.builtin "list.append", .ref a] }, g, d, t, os⟩) :
    wpAny (model prog w) A (Builtin.«object.__getattribute__» ⟨[.ref a, .str "append" tk], []⟩) Q E ⟨h, g, d, t, os⟩ := by
  have hT : (⟨h, g, d, t, os⟩ : Shared).TypeIs (.ref a) "list" := ⟨_, hx, rfl⟩
  have hT5 : (⟨h, g, d, t, os⟩ : Shared).TypeIs (.builtin "list.append") "method_descriptor" := md_ty
  have f4 := lk_list_append
  have f5 := md_ty
  have f6 := md_get.lookup
  have f7 := md_noset
  have f8 := md_nodel
  repeat (any_goals (first | assumption | wp_step))
  refine app_get hx ?_
  repeat (any_goals (first | assumption | wp_step))
theorem app_call_list {vs : Array Value} {n : Nat} {tk : Tok} {R : Result → Shared → Prop} (hx : h.get? a = some { cls := .type "list", data := .seq vs n })
    (hq : R (.ok (.ret (.ref h.objs.size))) ⟨h.push { cls := .type "builtin_function_or_method", data := .fields #[.builtin "list.append", .ref a] }, g, d, t, os⟩) :
    codeAny (model prog w) A (.call (.builtin "list.__getattribute__") ⟨[.ref a, .str "append" tk], []⟩) R ⟨h, g, d, t, os⟩ :=
  codeAny_call_builtin PySem.F.slot_list_getattribute.plain PySem.F.entry_list_ga (PySem.F.slot_list_getattribute.check _ _ _ _ _ _ _ _ (show (⟨h, g, d, t, os⟩ : Shared).TypeIs (.ref a) "list" from ⟨_, hx, rfl⟩) (PySem.F.args_list_getattribute_2 _ _) (app_entry_list hx hq))
theorem app_by_list {vs : Array Value} {n : Nat} {tk : Tok} {Q : Value → Shared → Prop} (hx : h.get? a = some { cls := .type "list", data := .seq vs n })
    (hq : Q (.ref h.objs.size) ⟨h.push { cls := .type "builtin_function_or_method", data := .fields #[.builtin "list.append", .ref a] }, g, d, t, os⟩) : wpAny (model prog w) A (getAttrBy (.ref a) (.str "append" tk) true true) Q E ⟨h, g, d, t, os⟩ := by
  have hT : (⟨h, g, d, t, os⟩ : Shared).TypeIs (.ref a) "list" := ⟨_, hx, rfl⟩
  have f2 := PySem.F.slot_list_getattribute.lookup
  have f3 := PySem.F.slot_list_getattribute.bind (.ref a)
  repeat (any_goals (first | assumption | wp_step))
  refine app_call_list hx ?_
  repeat (any_goals (first | assumption | wp_step))
end
section
variable {prog : Program} {w : World} {A : Around} {s : Shared} {P : Addr}
theorem getapp_ok {a : Addr} {vs : Array Value} (hp : s.heap.PlainList a vs) : wpB (model prog w) A (getAttr (.ref a) "append" true) (fun v s' => ∃ q, v = .ref q ∧ Ext P s s' ∧ IsMeth s'.heap q a) s := by
  obtain ⟨n, hx⟩ := hp
  unfold getAttr
  obtain ⟨hp, g, d, t, os⟩ := s
  refine wpB_bind (wpB_leaf (wpAny_mkText (wpB_leaf (app_by_list hx ⟨_, rfl, ?_, _, _, Heap.get?_push_size _ rfl, rfl, rfl, rfl, rfl⟩))))
  exact (Ext.toks (t := t + 1)).trans (Ext.push (s := ⟨hp, g, d, t + 1, os⟩) (t := t + 1))
end
end Mine
namespace Mine
open _root_.PySem _root_.PySem.Calls _root_.PySem.W _root_.PyProof.Rows

theorem sub_list_module : isSubtype (.type "list") (.type "module") = pure false := by rw [isSubtype_type]; kernel_rfl
theorem sub_list_type : isSubtype (.type "list") (.type "type") = pure false := by rw [isSubtype_type]; kernel_rfl
section
variable {prog : Program} {w : World} {A : Around} {E : Value → Shared → Prop} {h : Heap} {g : Array GenState} {d : Drawn} {t : Nat} {os : OsState} {a q : Addr} {oq : Obj} {ws : Array Value}
theorem appm_any {vs : Array Value} {n : Nat} {v : Value} {Q : Value → Shared → Prop} (hx : h.get? a = some { cls := .type "list", data := .seq vs n }) (hz : vs.size ≤ sizeLine)
    (hq : h.get? q = some oq) (hc : oq.cls = .type "builtin_function_or_method") (hd : oq.data = .fields ws) (h0 : ws[0]? = some (.builtin "list.append")) (h1 : ws[1]? = some (.ref a))
    (hQ : ∀ h', h'.PlainList a (vs.push v) → Heap.SameBut a h h' → Q .none ⟨h', g, d, t, os⟩) :
    wpAny (model prog w) A (call (.ref q) [v]) Q E ⟨h, g, d, t, os⟩ := by
  have hT : (⟨h, g, d, t, os⟩ : Shared).TypeIs (.ref a) "list" := ⟨_, hx, rfl⟩
  refine wpAny_call (codeAny_of_tree ?_)
  show wpAny _ A.in1 (callAny (.ref q) ⟨[v], []⟩) _ _ _
  simp only [callAny]
  refine wpAny_bind (wpAny_load hq ?_)
  simp only [hd, hc, h0, h1]
  have fin : wpAny (model prog w) A.in1 (again (.builtin "list.append" ⟨[.ref a, v], []⟩)) (fun fin s' => match fin with
      | .done f => (match (Except.ok f : Result) with | .ok (.ret v) => Q v s' | .ok _ => False | .error e => E e s')
      | .again c' => c'.quiet = true ∧ codeAny (model prog w) A c' (fun r s' => match r with | .ok (.ret v) => Q v s' | .ok _ => False | .error e => E e s') s') (fun e s' => E e s') ⟨h, g, d, t, os⟩ := by
    refine wpAny_pure ⟨plainId_quiet (by decide +kernel) _, codeAny_builtin PySem.F.entry_list_append ?_⟩
    rw [Around.under_plainId (by decide +kernel) _]
    show wpAny _ _ (updateSeq a (·.push v) >>= fun _ => ret .none) _ _ _
    refine wpAny_bind (wpAny_updateSeq (s := ⟨h, g, d, t, os⟩) hx rfl (wpAny_pure (hQ _ ⟨n + 1, ?_⟩ (Heap.SameBut.update ..))) hz (by simp only [Array.size_push]; (first | lia | omega)))
    rw [Heap.get?_update_self _ hx (by rw [Obj.mapSeq_push_plain]; rfl), Obj.mapSeq_push_plain]
  have hm := sub_list_module
  have ht := sub_list_type
  refine wpAny_bind ?_
  unfold checkBoundCall
  repeat (any_goals (first | assumption | wp_step))
end
theorem ext_of_same {P : Addr} {s s' : Shared} {h' : Heap} (k : ∀ b o, s.heap.get? b = some o → s'.heap.get? b = some o) (e : s' = { s with heap := h' }) : Ext P s s' := by
  subst e
  exact Ext.of_keep (t := s.toks) k
theorem side2 (κ : Par) : Side2 κ where
  newb := fun hr => ba_make fun s' hk ho ⟨h', e⟩ => ⟨_, rfl, fresh_size _, ext_of_same hk e, ho⟩
  getapp := fun hr T hp => getapp_ok hp
  appm := fun {A s q a vs v} hr T hm hp hz => by
    obtain ⟨oq, ws, e, c, dd, h0, h1⟩ := hm
    obtain ⟨n, hx⟩ := hp
    obtain ⟨hp, g, dr, t, os⟩ := s
    refine wpB_leaf (appm_any hx (by rw [sizeLine_eq]; unfold big at hz; (first | lia | omega)) e c dd h0 h1 fun h' hp' hs => ⟨rfl, ?_, hp'⟩)
    exact Upd.one (s := ⟨hp, g, dr, t, os⟩) (t := t) T hs hx (.cls (by nofun))
  mapp := fun {s a vs} hp => by
    obtain ⟨n, hx⟩ := hp
    exact ⟨⟨"list", ⟨_, hx, rfl⟩, PySem.F.plainAttrs_list, PySem.F.slot_list_append⟩, md_ty, fun b e => by cases e; exact ⟨_, hx, rfl⟩⟩
  bapp := fun {s a arr} ho => ⟨⟨"bytearray", ⟨_, ho, rfl⟩, ba_plain, ba_append⟩, ba_append_ty, fun b e => by cases e; exact ⟨_, ho, rfl⟩⟩
  cbapp := fun hr T ho h0 h1 hz => ba_append_ok T ho h0 h1 hz
  bext := fun {s a arr} ho => ⟨⟨"bytearray", ⟨_, ho, rfl⟩, ba_plain, ba_extend⟩, ba_extend_ty, fun b e => by cases e; exact ⟨_, ho, rfl⟩⟩
  cbext := fun hr T ho hb hz => ba_extend_ok T ho hb hz
end Mine
namespace Mine
open _root_.PySem _root_.PySem.Calls _root_.PySem.W _root_.PyProof.Rows

theorem ints_are {h : Heap} {γ : List Addr} : ∀ {ns : List Int} {vs : List Value}, IsAll h γ vs (ns.map PV.int) → IntsAre vs ns
  | [], _, .nil => .nil
  | n :: ns, _, .cons hv hs => by
    cases hv with
    | int i t => exact .cons n t (ints_are hs)
set_option tactic.hygienic true in
theorem octets_ints : ∀ {xs : List PV} {bs : List Nat}, octets xs = some bs → ∃ ns : List Int, xs = ns.map PV.int ∧ (∀ n ∈ ns, 0 ≤ n ∧ n < 256) ∧ bs = ns.map Int.toNat
  | [], bs, e => by simp only [octets] at e; cases e; exact ⟨[], rfl, by simp, rfl⟩
  | x :: xs, bs, e => by
    cases x <;> simp only [octets] at e <;> try cases e
    rename_i i
    split at e
    · rename_i hi
      obtain ⟨r, hr, rfl⟩ := Option.map_eq_some_iff.mp e
      obtain ⟨ns, rfl, h1, rfl⟩ := octets_ints hr
      exact ⟨i :: ns, rfl, fun n hn => by rcases List.mem_cons.mp hn with q | q; exact q ▸ hi; exact h1 n q, rfl⟩
    · cases e
set_option tactic.hygienic true in
theorem sum_ints : ∀ {xs : List PV} {t r : Int}, sumInts xs t = some r → ∃ ns : List Int, xs = ns.map PV.int ∧ r = t + ns.sum
  | [], t, r, e => by simp only [sumInts] at e; cases e; exact ⟨[], rfl, by simp⟩
  | x :: xs, t, r, e => by
    cases x <;> simp only [sumInts] at e <;> try cases e
    obtain ⟨ns, rfl, h1⟩ := sum_ints e
    rename_i i
    exact ⟨i :: ns, rfl, by rw [h1, List.sum_cons]; (first | lia | omega)⟩
theorem upInts_get : ∀ (n : Nat) (a : Int) (j : Nat), j < n → (upInts a n)[j]? = some (a + j)
  | 0, _, _, h => by (first | lia | omega)
  | n + 1, a, 0, _ => by simp [upInts]
  | n + 1, a, j + 1, h => by
    rw [upInts, List.getElem?_cons_succ, upInts_get n (a + 1) j (by (first | lia | omega))]
    congr 1; (first | lia | omega)
theorem downInts_get : ∀ (n : Nat) (a : Int) (j : Nat), j < n → (downInts a n)[j]? = some (a - j)
  | 0, _, _, h => by (first | lia | omega)
  | n + 1, a, 0, _ => by simp [downInts]
  | n + 1, a, j + 1, h => by
    rw [downInts, List.getElem?_cons_succ, downInts_get n (a - 1) j (by (first | lia | omega))]
    congr 1; (first | lia | omega)
set_option tactic.hygienic true in
theorem rangeInts_get {a b c : Int} {l : List Int} (e : rangeInts a b c = some l) {j : Nat} (hj : j < l.length) : l[j]? = some (a + j * c) := by
  unfold rangeInts at e
  split at e
  · cases e
  · split at e
    · rename_i hc
      split at e
      · cases e
        rw [upInts_length] at hj
        rw [upInts_get _ _ _ hj, hc, Int.mul_one]
      · cases e
    · split at e
      · rename_i hc
        split at e
        · cases e
          rw [downInts_length] at hj
          rw [downInts_get _ _ _ hj, hc]
          congr 1; (first | lia | omega)
        · cases e
      · cases e
set_option tactic.hygienic true in
theorem rangeInts_big {a b c : Int} {l : List Int} (e : rangeInts a b c = some l) : l.length ≤ big := by
  unfold rangeInts at e
  split at e
  · cases e
  · split at e
    · split at e
      · rename_i h
        cases e
        rw [upInts_length]; (first | lia | omega)
      · cases e
    · split at e
      · split at e
        · rename_i h
          cases e
          rw [downInts_length]; (first | lia | omega)
        · cases e
      · cases e
theorem isAll_of {h : Heap} {γ : List Addr} : ∀ {vs : List Value} {xs : List PV}, vs.length = xs.length → (∀ (j : Nat) (v : Value) (x : PV), vs[j]? = some v → xs[j]? = some x → Is h γ v x) → IsAll h γ vs xs
  | [], [], _, _ => .nil
  | [], _ :: _, h, _ => by simp at h
  | _ :: _, [], h, _ => by simp at h
  | v :: vs, x :: xs, h, k => .cons (k 0 v x rfl rfl) (isAll_of (by simpa using h) fun j v x h1 h2 => k (j + 1) v x (by simpa using h1) (by simpa using h2))

section
variable {prog : Program} {w : World} {A : Around} {s : Shared} {P : Addr} {γ : List Addr} {led : List PObj} {vs : List Value} {xs : List PV} {z : PV}
theorem pr_len (e : primEv led .len xs = some z) (hx : IsAll s.heap γ vs xs) (L : LedIs s.heap γ led) : wpB (model prog w) A (call (.builtin "len") vs) (fun v s' => Ext P s s' ∧ Is s'.heap γ v z) s := by
  obtain ⟨x, e1, e⟩ := ob_inv (show (a1 xs).bind (lenV led) = some z from e)
  obtain ⟨v, rfl, hv⟩ := hx.of1 e1
  have lst : ((listOf led x).bind fun xs => if xs.length ≤ big then some (PV.int xs.length) else Option.none) = some z → wpB (model prog w) A (call (.builtin "len") [v]) (fun v s' => Ext P s s' ∧ Is s'.heap γ v z) s := by
    intro e
    obtain ⟨ys, e1, e⟩ := ob_inv e
    obtain ⟨l, ws, rfl, hl, hy, _⟩ := listOf_is L hv e1
    obtain ⟨hb, rfl⟩ := if_inv e
    have hn := hy.length
    rw [Array.length_toList] at hn
    unfold big at hb
    refine wpB_leaf (call_len_list hl.isList (by (first | lia | omega)) ⟨Ext.toks, ?_⟩)
    rw [hn]; exact .int _ _
  cases x with
  | str l =>
    obtain ⟨u, t, rfl, el⟩ := hv.str_inv
    obtain ⟨hb, rfl⟩ := if_inv e
    have hn : u.length = l.length := by rw [← el]; simp [Str.length]
    unfold big at hb
    refine wpB_leaf (PySem.P.len_str (by (first | lia | omega)) ⟨Ext.toks, ?_⟩)
    rw [hn]; exact .int _ _
  | bytes l =>
    obtain ⟨u, t, rfl, el⟩ := hv.bytes_inv
    obtain ⟨hb, rfl⟩ := if_inv e
    have hn : u.size = l.length := by rw [← el]; simp
    unfold big at hb
    refine wpB_leaf (len_bytes (by (first | lia | omega)) ⟨Ext.toks, ?_⟩)
    rw [hn]; exact .int _ _
  | _ => exact lst e
theorem pr_ord (e : primEv led .ord xs = some z) (hx : IsAll s.heap γ vs xs) : wpB (model prog w) A (call (.builtin "ord") vs) (fun v s' => Ext P s s' ∧ Is s'.heap γ v z) s := by
  obtain ⟨x, e1, e⟩ := ob_inv (show (a1 xs).bind _ = some z from e)
  obtain ⟨l, e2, e⟩ := ob_inv e
  obtain ⟨c, e3, e⟩ := ob_inv e
  cases e
  obtain ⟨v, rfl, hv⟩ := hx.of1 e1
  obtain ⟨u, t, rfl, el⟩ := hv.asStr e2
  have : u = ⟨#[c]⟩ := str_eq el (one1_inv e3).symm
  subst this
  exact wpB_leaf (PySem.P.ord_of_char ⟨Ext.toks, .int _ _⟩)
theorem pr_chr (e : primEv led .chr xs = some z) (hx : IsAll s.heap γ vs xs) : wpB (model prog w) A (call (.builtin "chr") vs) (fun v s' => Ext P s s' ∧ Is s'.heap γ v z) s := by
  obtain ⟨x, e1, e⟩ := ob_inv (show (a1 xs).bind _ = some z from e)
  obtain ⟨i, e2, e⟩ := ob_inv e
  obtain ⟨hi, rfl⟩ := if_inv e
  obtain ⟨v, rfl, hv⟩ := hx.of1 e1
  obtain ⟨t, rfl⟩ := hv.asInt e2
  exact wpB_leaf (PySem.P.chr_of_int (by rw [decide_eq_false (by (first | lia | omega)), decide_eq_false (by (first | lia | omega))]; rfl) ⟨Ext.toks, .str _ _ _ rfl⟩)
theorem pr_range1 (e : primEv led .range1 xs = some z) (hx : IsAll s.heap γ vs xs) : wpB (model prog w) A (call (.type "range") vs) (fun v s' => Ext P s s' ∧ Is s'.heap γ v z) s := by
  obtain ⟨x, e1, e⟩ := ob_inv (show (a1 xs).bind _ = some z from e)
  obtain ⟨i, e2, e⟩ := ob_inv e
  obtain ⟨_, rfl⟩ := if_inv e
  obtain ⟨v, rfl, hv⟩ := hx.of1 e1
  obtain ⟨t, rfl⟩ := hv.asInt e2
  exact wpB_leaf (call_range_1 ⟨Ext.push (t := s.toks + 1 + 1), .range _ _ _ _ ⟨_, _, _, Heap.get?_push_size _ rfl⟩⟩)
theorem pr_range2 (e : primEv led .range2 xs = some z) (hx : IsAll s.heap γ vs xs) : wpB (model prog w) A (call (.type "range") vs) (fun v s' => Ext P s s' ∧ Is s'.heap γ v z) s := by
  obtain ⟨⟨x, y⟩, e1, e⟩ := ob_inv (show (a2 xs).bind _ = some z from e)
  obtain ⟨a, e2, e⟩ := ob_inv e
  obtain ⟨b, e3, e⟩ := ob_inv e
  obtain ⟨_, rfl⟩ := if_inv e
  obtain ⟨v, u, rfl, hv, hu⟩ := hx.of2 e1
  obtain ⟨t, rfl⟩ := hv.asInt e2
  obtain ⟨t', rfl⟩ := hu.asInt e3
  exact wpB_leaf (call_range_2 ⟨Ext.push (t := s.toks + 1), .range _ _ _ _ ⟨_, _, _, Heap.get?_push_size _ rfl⟩⟩)
theorem pr_range3 (e : primEv led .range3 xs = some z) (hx : IsAll s.heap γ vs xs) : wpB (model prog w) A (call (.type "range") vs) (fun v s' => Ext P s s' ∧ Is s'.heap γ v z) s := by
  obtain ⟨⟨x, y, q⟩, e1, e⟩ := ob_inv (show (a3 xs).bind _ = some z from e)
  obtain ⟨a, e2, e⟩ := ob_inv e
  obtain ⟨b, e3, e⟩ := ob_inv e
  obtain ⟨c, e4, e⟩ := ob_inv e
  obtain ⟨hc, rfl⟩ := if_inv e
  obtain ⟨v, u, k, rfl, hv, hu, hk⟩ := hx.of3 e1
  obtain ⟨t, rfl⟩ := hv.asInt e2
  obtain ⟨t', rfl⟩ := hu.asInt e3
  obtain ⟨t'', rfl⟩ := hk.asInt e4
  obtain ⟨rfl, _⟩ := hc
  exact wpB_leaf (call_range_3 (by decide) ⟨Ext.push (t := s.toks), .range _ _ _ _ ⟨_, _, _, Heap.get?_push_size _ rfl⟩⟩ (.inl (PyProof.noPylong_of_log2 (by decide +kernel))))
theorem pr_list (hh : A.handled = none) (T : TabIs P s.heap) (L : LedIs s.heap γ led) (e : primEv led .list xs = some z) (hx : IsAll s.heap γ vs xs) : wpB (model prog w) A (call (.type "list") vs) (fun v s' => Ext P s s' ∧ Is s'.heap γ v z) s := by
  obtain ⟨x, e1, e⟩ := ob_inv (show (a1 xs).bind _ = some z from e)
  obtain ⟨⟨a, b, c⟩, e2, e⟩ := ob_inv e
  obtain ⟨l, hl, rfl⟩ := Option.map_eq_some_iff.mp e
  obtain ⟨v, rfl, hv⟩ := hx.of1 e1
  rw [asRng_inv e2] at hv
  obtain ⟨r, rfl, hr⟩ := hv.range_inv
  obtain ⟨hs, hz, _⟩ := range_ok hl
  have hb := rangeInts_big hl
  obtain ⟨t, u, w', hr⟩ := hr
  refine wpB_leaf (call_list_range (n := l.length) hh hr hs hz (by unfold big at hb; (first | lia | omega)) fun h' tk acc c' hk ho hi => ⟨Ext.of_keep hk, ?_⟩)
  refine .list _ acc _ (fresh_off L) ⟨c', ho⟩ (isAll_of ?_ fun j v x h1 h2 => ?_) (by simp [frozen])
  · rw [Array.length_toList, hi.1, List.length_map]
  · rw [Array.getElem?_toList] at h1
    obtain ⟨tk, rfl⟩ := hi.2 j v h1
    rw [List.getElem?_map] at h2
    obtain ⟨y, hy, rfl⟩ := Option.map_eq_some_iff.mp h2
    rw [rangeInts_get hl (List.getElem?_eq_some_iff.mp hy).1] at hy
    cases hy
    exact .int _ _
theorem pr_sum (hh : A.handled = none) (e : primEv led .sum xs = some z) (hx : IsAll s.heap γ vs xs) : wpB (model prog w) A (call (.builtin "sum") vs) (fun v s' => Ext P s s' ∧ Is s'.heap γ v z) s := by
  obtain ⟨x, e1, e⟩ := ob_inv (show (a1 xs).bind _ = some z from e)
  obtain ⟨ys, e2, e⟩ := ob_inv e
  obtain ⟨r, hr, rfl⟩ := Option.map_eq_some_iff.mp e
  obtain ⟨v, rfl, hv⟩ := hx.of1 e1
  obtain ⟨ns, rfl, rfl⟩ := sum_ints hr
  obtain ⟨l, ws, rfl, hn, hl, hx, hf⟩ := hv.asLst e2
  have hi := ints_are hx
  obtain ⟨qs, hq⟩ := hi.allInts.items
  have hq : ws = intItems qs := by rw [← hq]
  subst hq
  refine wpB_leaf (sum_intListG hh hl.isList fun h' tk t' hk => ⟨Ext.of_keep hk, ?_⟩)
  have e2 : preSum (numAt qs) qs.size = ns.sum := by
    rw [preSum_eq, List.take_of_length_le (by simp), ← nums_intItems, hi.numsOf]
  rw [e2, Int.zero_add]
  exact .int _ _
set_option tactic.hygienic true in
theorem pr_bytesL (hh : A.handled = none) {ys : List PV} {v : Value} (e : bytesV led (.list ys) = some z) (hv : Is s.heap γ v (.list ys)) : wpB (model prog w) A (call (.type "bytes") [v]) (fun v s' => Ext P s s' ∧ Is s'.heap γ v z) s := by
  have e : (if ys.length ≤ big then (octets ys).map PV.bytes else none) = some z := e
  split at e
  · rename_i hb
    obtain ⟨bs, hb2, rfl⟩ := Option.map_eq_some_iff.mp e
    obtain ⟨ns, rfl, h1, rfl⟩ := octets_ints hb2
    obtain ⟨l, ws, rfl, hn, hl, hx, hf⟩ := hv.list_inv
    have hi := ints_are hx
    have hl' : s.heap.IsList l ws.toList.toArray := by rw [Array.toArray_toList]; exact hl.isList
    refine wpB_leaf (call_bytes_ints hl' hi h1 (by rw [hx.length, sizeLine_eq]; unfold big at hb; (first | lia | omega)) hh fun h' t k hk => ⟨Ext.of_keep hk, .bytes _ _ _ ?_⟩)
    unfold byteArr
    rw [List.toList_toArray, List.map_map]
    refine List.map_congr_left fun n hn => ?_
    obtain ⟨h2, h3⟩ := h1 n hn
    show (UInt8.ofNat n.toNat).toNat = n.toNat
    rw [UInt8.toNat_ofNat']; (first | lia | omega)
  · cases e
end
end Mine
namespace Mine
open _root_.PySem _root_.PySem.Calls _root_.PySem.W _root_.PyProof.Rows

theorem ba_no_bytes : typeLookup (.type "bytearray") "__bytes__" = pure none := by rw [typeLookup_type, builtinLookup_eq_fast]; kernel_rfl
theorem ba_no_index : typeLookup (.type "bytearray") "__index__" = pure none := by rw [typeLookup_type, builtinLookup_eq_fast]; kernel_rfl
theorem ba_buffer : typeLookup (.type "bytearray") "__buffer__" = pure (some (.builtin "bytearray.__buffer__")) := by rw [typeLookup_type, builtinLookup_eq_fast]; kernel_rfl
theorem ba_release : typeLookup (.type "bytearray") "__release_buffer__" = pure (some (.builtin "bytearray.__release_buffer__")) := by rw [typeLookup_type, builtinLookup_eq_fast]; kernel_rfl
section
variable {prog : Program} {w : World} {A : Around} {E : Value → Shared → Prop} {s : Shared} {P : Addr}
theorem own_any {a : Addr} (hT : s.TypeIs (.ref a) "bytearray") {Q : Bool → Shared → Prop} (h : Q true s) : wpAny (model prog w) A (Builtin.Bytes.slotIsOwn (.ref a) "__release_buffer__") Q E s := by
  have e1 : ("bytearray.__release_buffer__" : String).endsWith ("." ++ "__release_buffer__") = true := by decide +kernel
  have key : ∀ x : String, x = "bytearray" → wpAny (model prog w) A (isInstance (.ref a) (.type x)) Q E s := fun x hx => by rw [hx]; exact wpAny_isInstance hT ba_sub_self h
  unfold Builtin.Bytes.slotIsOwn
  refine wpAny_bind (wpAny_specialOf hT ba_release ?_)
  dsimp only
  rw [e1]
  exact key _ (by decide +kernel)
theorem own_any2 {a : Addr} (hT : s.TypeIs (.ref a) "bytearray") {Q : Bool → Shared → Prop} (h : Q true s) : wpAny (model prog w) A (Builtin.Bytes.slotIsOwn (.ref a) "__buffer__") Q E s := by
  have e1 : ("bytearray.__buffer__" : String).endsWith ("." ++ "__buffer__") = true := by decide +kernel
  have key : ∀ x : String, x = "bytearray" → wpAny (model prog w) A (isInstance (.ref a) (.type x)) Q E s := fun x hx => by rw [hx]; exact wpAny_isInstance hT ba_sub_self h
  unfold Builtin.Bytes.slotIsOwn
  refine wpAny_bind (wpAny_specialOf hT ba_buffer ?_)
  dsimp only
  rw [e1]
  exact key _ (by decide +kernel)
theorem bb_new {a : Addr} {arr : Array UInt8} {Q : Value → Shared → Prop} (ho : s.heap.get? a = some { cls := .type "bytearray", data := .bytearray arr 0 }) (hz : arr.size ≤ sizeLine)
    (hQ : ∀ t k, Q (.bytes arr t) { s with toks := k }) :
    codeAny (model prog w) A (.call (.builtin "bytes.__new__") ⟨[.type "bytes", .ref a], []⟩) (wants Q E) s := by
  refine codeAny_of_tree ?_
  show wpAny _ A.in1 (do checkBuiltinCall "bytes.__new__" ⟨[.type "bytes", .ref a], []⟩; again (.builtin "bytes.__new__" ⟨[.type "bytes", .ref a], []⟩)) _ _ s
  refine wpAny_bind (wpAny_of_eq (PySem.F.bm_newCall _) (wpAny_pure ⟨plainId_quiet PySem.F.bm_plain _, codeAny_builtin PySem.F.bm_entry ?_⟩))
  rw [Around.under_plainId PySem.F.bm_plain _]
  have hT : s.TypeIs (.ref a) "bytearray" := ⟨_, ho, rfl⟩
  unfold Builtin.«bytes.__new__»
  refine wpAny_bind (wpAny_of_eq (a := true) rfl ?_)
  refine bm_if_false rfl ?_
  refine wpAny_bind (wpAny_of_eq PySem.F.bm_sub ?_)
  refine bm_if_false rfl ?_
  refine wpAny_bind (wpAny_of_eq (PySem.F.bm_bind _) ?_)
  refine wpAny_bind (wpAny_of_eq (a := ()) rfl ?_)
  refine wpAny_bind (wpAny_of_eq (a := ()) rfl ?_)
  refine bm_if_false rfl ?_
  refine wpAny_bind (wpAny_specialOf hT ba_no_bytes ?_)
  refine wpAny_bind (wpAny_bind ?_)
  show wpAny _ _ (load a >>= _) _ _ _
  refine wpAny_bind (wpAny_load ho ?_)
  refine wpAny_pure (wpAny_pure ?_)
  refine bm_if_false rfl ?_
  refine wpAny_bind (wpAny_specialOf hT ba_no_index ?_)
  refine bm_if_true rfl ?_
  first
    | show wpAny _ _ (Builtin.Bytes.buffer? "bytes.__new__" (.ref a) true >>= _) _ _ _
    | (refine wpAny_bind ?_; show wpAny _ _ (Builtin.Bytes.buffer? "bytes.__new__" (.ref a) true >>= _) _ _ _)
  refine wpAny_bind ?_
  unfold Builtin.Bytes.buffer?
  refine wpAny_bind (wpAny_specialOf hT ba_buffer ?_)
  refine wpAny_bind (own_any2 hT ?_)
  refine bm_if_false rfl ?_
  refine wpAny_bind (wpAny_specialOf hT ba_buffer ?_)
  refine wpAny_bind ?_
  unfold Builtin.Bytes.ownRelease
  refine wpAny_bind (own_any hT (wpAny_pure ?_))
  refine bm_if_false rfl ?_
  refine wpAny_bind ?_
  unfold Builtin.Bytes.payload Builtin.Bytes.payload?
  refine wpAny_bind (wpAny_bind (wpAny_load ho ?_))
  refine wpAny_pure (wpAny_pure (wpAny_pure ?_))
  refine wpAny_bind (wpAny_rule (wpAny_bind (wpAny_mkBytes ?_ hz)))
  show wpAny _ _ (if (Value.type "bytes" == Value.type "bytes") = true then _ else _) _ _ _
  refine bm_if_true (by decide) ?_
  first
    | exact wpAny_pure (hQ _ _)
    | exact wpAny_bind (wpAny_pure (wpAny_pure (hQ _ _)))
theorem bb_make {a : Addr} {arr : Array UInt8} {Q : Value → Shared → Prop} (ho : s.heap.get? a = some { cls := .type "bytearray", data := .bytearray arr 0 }) (hz : arr.size ≤ sizeLine)
    (hQ : ∀ t k, Q (.bytes arr t) { s with toks := k }) : wpAny (model prog w) A (call (.type "bytes") [.ref a]) Q E s := by
  refine callType_codes (Q₁ := fun obj s₁ => s₁.TypeIs obj "bytes" ∧ Q obj s₁) PySem.F.bm_called (PySem.F.bm_typeCall _) PySem.F.entry_object_init
    (bb_new ho hz fun t k => ⟨typeIs_bytes _ _ _, hQ t k⟩) fun obj s₁ h₁ => ?_
  exact ⟨h₁.1, PySem.F.args_object_init_2 obj _, object_init_meets PySem.F.bm_called.init.lookup PySem.F.bm_called.made (by decide) prog w A.in1 _ s₁ ⟨h₁.1, rfl, h₁.2⟩⟩
end
theorem sub_bytes_memoryview : isSubtype (.type "bytes") (.type "memoryview") = pure false := by rw [isSubtype_type]; kernel_rfl
theorem meta_memoryview : typeOf (.type "memoryview") = pure (.type "type") := by first | rfl | kernel_rfl
theorem isi_bytes_no {b : Array UInt8} {u : Tok} {T : String} (hne : (Value.type "bytes" == Value.type T) = false) (hty : typeOf (.type T) = pure (.type "type")) (hsub : isSubtype (.type "bytes") (.type T) = pure false) :
    Meets (Builtin.«isinstance» ⟨[.bytes b u, .type T], []⟩) (fun _ R s => R (.ok (.ret (.bool false))) { s with toks := s.toks + 1 }) :=
  fun _ _ _ _ s hs => by
    obtain ⟨h, g, d, t, os⟩ := s
    exact isinstance_outer (isinstance_nested_false_bytes hne hty hsub hs)
section
variable {prog : Program} {w : World} {A : Around} {s : Shared} {P : Addr} {γ : List Addr} {led : List PObj} {vs : List Value} {xs : List PV} {z : PV}
theorem pr_bytes (hh : A.handled = none) (L : LedIs s.heap γ led) (e : primEv led .bytes xs = some z) (hx : IsAll s.heap γ vs xs) : wpB (model prog w) A (call (.type "bytes") vs) (fun v s' => Ext P s s' ∧ Is s'.heap γ v z) s := by
  obtain ⟨x, e1, e⟩ := ob_inv (show (a1 xs).bind (bytesV led) = some z from e)
  obtain ⟨v, rfl, hv⟩ := hx.of1 e1
  cases x with
  | list ys => exact pr_bytesL hh e hv
  | ref k =>
    obtain ⟨bs, e2, e⟩ := ob_inv (show (barrAt led k).bind _ = some z from e)
    obtain ⟨hb, rfl⟩ := if_inv e
    have hk := barrAt_inv e2
    obtain ⟨a, rfl, ek⟩ := hv.ref_inv
    obtain ⟨a', e', arr, ho, hb2⟩ := L.at_ k _ hk
    rw [ek] at e'; cases e'
    have hn : arr.size = bs.length := by rw [← hb2]; simp
    exact wpB_leaf (bb_make ho (by rw [sizeLine_eq]; unfold big at hb; (first | lia | omega)) fun t k => ⟨Ext.toks, .bytes _ _ _ hb2⟩)
  | _ => cases e
theorem pr_isStr (e : primEv led .isStr xs = some z) {v : Value} (hx : IsAll s.heap γ [v] xs) : wpB (model prog w) A (call (.builtin "isinstance") [v, .type "str"]) (fun v s' => Ext P s s' ∧ Is s'.heap γ v z) s := by
  obtain ⟨x, e1, e⟩ := ob_inv (show (a1 xs).bind isStrV = some z from e)
  obtain ⟨v', hvv, hv⟩ := hx.of1 e1
  cases hvv
  cases x with
  | str l =>
    cases e
    obtain ⟨u, t, rfl, _⟩ := hv.str_inv
    exact wpB_leaf (IsiPair.str_str ⟨Ext.refl _, .bool _⟩)
  | bytes l =>
    cases e
    obtain ⟨u, t, rfl, _⟩ := hv.bytes_inv
    exact wpB_leaf (call_isinstance (isi_bytes_no (by decide) PySem.F.isi_meta_str PySem.F.sub_bytes_str) ⟨Ext.toks, .bool _⟩)
  | _ => cases e
theorem pr_isMem (e : primEv led .isMem xs = some z) {v : Value} (hx : IsAll s.heap γ [v] xs) : wpB (model prog w) A (call (.builtin "isinstance") [v, .type "memoryview"]) (fun v s' => Ext P s s' ∧ Is s'.heap γ v z) s := by
  obtain ⟨x, e1, e⟩ := ob_inv (show (a1 xs).bind _ = some z from e)
  obtain ⟨l, e2, e⟩ := ob_inv e
  cases e
  obtain ⟨v', hvv, hv⟩ := hx.of1 e1
  cases hvv
  obtain ⟨u, t, rfl, _⟩ := hv.asByt e2
  exact wpB_leaf (call_isinstance (isi_bytes_no (by decide) meta_memoryview sub_bytes_memoryview) ⟨Ext.toks, .bool _⟩)
end
end Mine
namespace Mine
open _root_.PySem _root_.PySem.Calls _root_.PySem.W _root_.PyProof.Rows

theorem by_owner : Manifest.owners.lookup (String.ofList ['s', 'e', 't', 'y', 'b'].reverse) = some Manifest.sig_bytes := by kernel_rfl
theorem by_upper : Slot "bytes" "upper" "bytes.upper" :=
  .of (owner := "bytes") (n := "upper") (by rw [typeLookup_type, builtinLookup_eq_fast]; kernel_rfl) (by decide +kernel) (by decide +kernel) (by decide +kernel)
    (by first | exact .inl (by decide +kernel) | exact .inr (by decide +kernel)) (by rw [isSubtype_type]; kernel_rfl)
theorem by_upper_ty : typeOf (.builtin "bytes.upper") = pure (.type "method_descriptor") := by show builtinType _ = _; rw [builtinType_eq_fast]; kernel_rfl
theorem by_upper_entry : entryFor table "bytes.upper" = some Builtin.«bytes.upper» := entryFor_of_tree (by kernel_rfl)
theorem by_upper_args (a : Value) : argsOk "bytes.upper" ⟨[a], []⟩ := by
  unfold argsOk; rw [signature?_of (id := "bytes.upper") (n := ['r', 'e', 'p', 'p', 'u']) (o := ['s', 'e', 't', 'y', 'b']) (by kernel_rfl) by_owner]; kernel_rfl
theorem by_rfind : Slot "bytes" "rfind" "bytes.rfind" :=
  .of (owner := "bytes") (n := "rfind") (by rw [typeLookup_type, builtinLookup_eq_fast]; kernel_rfl) (by decide +kernel) (by decide +kernel) (by decide +kernel)
    (by first | exact .inl (by decide +kernel) | exact .inr (by decide +kernel)) (by rw [isSubtype_type]; kernel_rfl)
theorem by_rfind_ty : typeOf (.builtin "bytes.rfind") = pure (.type "method_descriptor") := by show builtinType _ = _; rw [builtinType_eq_fast]; kernel_rfl
theorem by_rfind_entry : entryFor table "bytes.rfind" = some Builtin.«bytes.rfind» := entryFor_of_tree (by kernel_rfl)
theorem by_rfind_args (a b : Value) : argsOk "bytes.rfind" ⟨[a, b], []⟩ := by
  unfold argsOk; rw [signature?_of (id := "bytes.rfind") (n := ['d', 'n', 'i', 'f', 'r']) (o := ['s', 'e', 't', 'y', 'b']) (by kernel_rfl) by_owner]; kernel_rfl

theorem upper_nat (c : UInt8) : (Builtin.Bytes.toUpper c).toNat = upSign c.toNat := by
  unfold Builtin.Bytes.toUpper Builtin.Bytes.isLower upSign
  have h1 : (97 ≤ c) ↔ 97 ≤ c.toNat := UInt8.le_iff_toNat_le
  have h2 : (c ≤ 122) ↔ c.toNat ≤ 122 := UInt8.le_iff_toNat_le
  by_cases h : 97 ≤ c.toNat ∧ c.toNat ≤ 122
  · rw [if_pos h]
    have : (decide (97 ≤ c) && decide (c ≤ 122)) = true := by rw [decide_eq_true (h1.mpr h.1), decide_eq_true (h2.mpr h.2)]; rfl
    rw [if_pos this]
    have h3 : (32 : UInt8) ≤ c := UInt8.le_iff_toNat_le.mpr (by show 32 ≤ c.toNat; (first | lia | omega))
    rw [UInt8.toNat_sub_of_le _ _ h3]; rfl
  · rw [if_neg h]
    have : ¬ ((decide (97 ≤ c) && decide (c ≤ 122)) = true) := fun q => by
      rw [Bool.and_eq_true, decide_eq_true_eq, decide_eq_true_eq] at q
      exact h ⟨h1.mp q.1, h2.mp q.2⟩
    rw [if_neg this]
section
variable {prog : Program} {w : World} {A : Around} {s : Shared} {P : Addr} {γ : List Addr} {led : List PObj} {vs : List Value} {xs : List PV} {z : PV}
theorem c_upper {b : Array UInt8} {t : Tok} {l : List Nat} (hl : b.toList.map UInt8.toNat = l) (hz : b.size ≤ sizeLine) : wpB (model prog w) A (call (.builtin "bytes.upper") [.bytes b t]) (fun v s' => Ext P s s' ∧ Is s'.heap γ v (.bytes (l.map upSign))) s := by
  refine wpB_call_slot by_upper (typeIs_bytes s b t) (cool_id fun _ _ => by kernel_rfl) by_upper_entry (by_upper_args _) ?_
  show wpB _ _ (do ret (← mkBytes (b.toList.map Builtin.Bytes.toUpper).toArray)) _ _
  refine wpB_bind (wpB_leaf (wpAny_mkBytes (wpB_pure ⟨_, rfl, Ext.toks, .bytes _ _ _ ?_⟩) (by simpa using hz)))
  rw [List.toList_toArray, List.map_map, ← hl, List.map_map]
  exact List.map_congr_left fun c _ => upper_nat c
end
end Mine
namespace Mine
open _root_.PySem _root_.PySem.Calls _root_.PySem.W _root_.PyProof.Rows

theorem lastIdx_find (c : Nat) : ∀ (l : List Nat) (i : Nat) (r : Int), lastIdx c l i r = match (List.range l.length).reverse.find? (fun j => l[j]? == some c) with | some j => ((i + j : Nat) : Int) | none => r
  | [], i, r => rfl
  | x :: l, i, r => by
    rw [lastIdx, lastIdx_find c l (i + 1), List.length_cons, List.range_succ_eq_map, List.reverse_cons, List.find?_append, ← List.map_reverse, List.find?_map]
    have : ((fun j => (x :: l)[j]? == some c) ∘ Nat.succ) = fun j => l[j]? == some c := by funext j; simp
    rw [this]
    cases h : List.find? (fun j => l[j]? == some c) (List.range l.length).reverse with
    | some j =>
      show ((i + 1 + j : Nat) : Int) = ((i + (j + 1) : Nat) : Int)
      congr 1; (first | lia | omega)
    | none =>
      simp
      by_cases q : x = c <;> simp [q]
theorem find_congr {α : Type} {p q : α → Bool} : ∀ {l : List α}, (∀ x ∈ l, p x = q x) → l.find? p = l.find? q
  | [], _ => rfl
  | x :: l, h => by
    rw [List.find?_cons, List.find?_cons, h x (by simp), find_congr fun y hy => h y (by simp [hy])]
theorem rfind_is {b : Array UInt8} {x : UInt8} : Builtin.Bytes.rfind? b #[x] 0 b.size = (List.range b.size).reverse.find? fun j => (b.toList.map UInt8.toNat)[j]? == some x.toNat := by
  unfold Builtin.Bytes.rfind?
  have h1 : b.size + 1 - (0 + (#[x] : Array UInt8).size) = b.size := by show b.size + 1 - (0 + 1) = b.size; (first | lia | omega)
  rw [h1]
  have h2 : ((List.range b.size).map (· + 0)) = List.range b.size := by simp
  rw [h2]
  refine find_congr fun j hj => ?_
  rw [List.mem_reverse, List.mem_range] at hj
  have h3 : b.extract j (j + (#[x] : Array UInt8).size) = #[b[j]] := by
    show b.extract j (j + 1) = _
    apply Array.ext
    · simp; (first | lia | omega)
    · intro i h1 h2
      simp at h2
      subst h2
      simp
  rw [h3]
  rw [Bool.eq_iff_iff, beq_iff_eq, beq_iff_eq]
  simp [hj]
  constructor
  · intro q; rw [q]
  · intro q; exact UInt8.toNat_inj.mp q
section
variable {prog : Program} {w : World} {A : Around} {s : Shared} {P : Addr} {γ : List Addr} {led : List PObj} {vs : List Value} {xs : List PV} {z : PV}
theorem c_rfind {b : Array UInt8} {x : UInt8} {t u : Tok} {l : List Nat} (hl : b.toList.map UInt8.toNat = l) : wpB (model prog w) A (call (.builtin "bytes.rfind") [.bytes b t, .bytes #[x] u]) (fun v s' => Ext P s s' ∧ Is s'.heap γ v (.int (lastIdx x.toNat l 0 (-1)))) s := by
  refine wpB_call_slot by_rfind (typeIs_bytes s b t) (cool_id fun _ _ => by kernel_rfl) by_rfind_entry (by_rfind_args _ _) ?_
  have key : Builtin.Bytes.searchArgs .bytes "rfind" ⟨[.bytes b t, .bytes #[x] u], []⟩ = pure (b, #[x], if (b.size : Int) < 1 then none else some (0, b.size)) := by
    unfold Builtin.Bytes.searchArgs
    have h1 : selfAndSome s!"{Builtin.Bytes.Kind.bytes.name}.{"rfind"}" "rfind" 1 3 ⟨[.bytes b t, .bytes #[x] u], []⟩ = pure (.bytes b t, [.bytes #[x] u]) := rfl
    simp only [h1, pure_bind]
    have h2 : Builtin.Bytes.bound? ([Value.bytes #[x] u][1]?) = pure none := rfl
    have h3 : Builtin.Bytes.bound? ([Value.bytes #[x] u][2]?) = pure none := rfl
    rw [h2, h3]
    simp only [pure_bind, List.headD_cons, KBy.buffer_eq]
    have h4 : Builtin.Bytes.payload (.bytes b t) = pure b := rfl
    rw [h4]
    simp only [pure_bind]
    have h5 : Builtin.Bytes.window b.size none none = (0, (b.size : Int)) := by
      unfold Builtin.Bytes.window
      simp
      (first | lia | omega)
    rw [h5]
    simp
  show wpB _ _ (Builtin.Bytes.searchArgs .bytes "rfind" ⟨[.bytes b t, .bytes #[x] u], []⟩ >>= fun r => _) _ _
  refine wpB_bind (wpB_leaf (wpAny_of_eq key ?_))
  have fin : ∀ o : Option Nat, (match o with | some j => (j : Int) | none => -1) = lastIdx x.toNat l 0 (-1) → wpB (model prog w) A.in1 (match o with | some i => retInt i | none => (do rule "bytes.rfind.not-found"; retInt (-1)))
      (fun fin s' => ∃ v, fin = Fin.done (Flow.ret v) ∧ Ext P s s' ∧ Is s'.heap γ v (PV.int (lastIdx x.toNat l 0 (-1)))) s := by
    intro o ho
    rw [← ho]
    cases o with
    | none => exact wpB_bind (wpB_rule (wpB_bind (wpB_leaf (wpAny_mkInt (wpB_pure ⟨_, rfl, Ext.toks, .int _ _⟩)))))
    | some j => exact wpB_bind (wpB_leaf (wpAny_mkInt (wpB_pure ⟨_, rfl, Ext.toks, .int _ _⟩)))
  show wpB _ _ (match ((if (b.size : Int) < 1 then none else some (0, b.size)) : Option (Nat × Nat)).bind (fun q => Builtin.Bytes.rfind? b #[x] q.1 q.2) with | some i => retInt i | none => (do rule "bytes.rfind.not-found"; retInt (-1))) _ _
  refine fin _ ?_
  have hlen : l.length = b.size := by rw [← hl]; simp
  rw [lastIdx_find, hlen]
  by_cases h0 : (b.size : Int) < 1
  · have h1 : b.size = 0 := by (first | lia | omega)
    rw [if_pos h0, h1]; rfl
  · rw [if_neg h0]
    show (match Builtin.Bytes.rfind? b #[x] 0 b.size with | some j => (j : Int) | none => -1) = _
    rw [rfind_is, hl]
    cases List.find? (fun j => l[j]? == some x.toNat) (List.range b.size).reverse with
    | none => rfl
    | some j => show (j : Int) = ((0 + j : Nat) : Int); rw [Nat.zero_add]
end
end Mine
namespace Mine
open _root_.PySem _root_.PySem.Calls _root_.PySem.W _root_.PyProof.Rows

/-! ### str.find with both bounds, one sign sought -/
theorem occ_full (s sub : Str) (hi : Nat) : ∀ (l : List Nat) (st : Array Nat × Nat), 1 ≤ st.fst.size → (forIn l st (StrLaws.occBody s sub hi 1)).run.fst = st.fst
  | [], st, h => rfl
  | a :: l, st, h => by
    rw [List.forIn_cons]
    unfold StrLaws.occBody
    rw [if_neg (fun q => by have := q.1.1.1; (first | lia | omega))]
    exact occ_full s sub hi l _ h
theorem occ1 (s sub : Str) (hi : Nat) : ∀ (l : List Nat) (free : Nat), (∀ i ∈ l, free ≤ i) →
    (forIn l ((#[] : Array Nat), free) (StrLaws.occBody s sub hi 1)).run.fst.toList = (l.find? fun i => decide (i + sub.length ≤ hi ∧ Builtin.Str.subAt s sub i = true)).toList
  | [], free, _ => rfl
  | a :: l, free, hf => by
    rw [List.forIn_cons, List.find?_cons]
    unfold StrLaws.occBody
    have ha : free ≤ a := hf a List.mem_cons_self
    by_cases hc : a + sub.length ≤ hi ∧ Builtin.Str.subAt s sub a = true
    · rw [if_pos ⟨⟨⟨by simp, ha⟩, hc.1⟩, hc.2⟩, decide_eq_true hc]
      exact congrArg Array.toList (occ_full s sub hi l _ (by simp))
    · rw [if_neg (fun q => hc ⟨q.1.2, q.2⟩), decide_eq_false hc]
      exact occ1 s sub hi l free fun i h => hf i (List.mem_cons_of_mem _ h)
theorem firstIdx_spec (c : Nat) : ∀ (l : List Nat) (i k j : Nat), (firstIdx c l i k j = -1 ∧ ∀ m, k ≤ i + m → i + m < j → l[m]? ≠ some c) ∨
    (∃ m, firstIdx c l i k j = ((i + m : Nat) : Int) ∧ k ≤ i + m ∧ i + m < j ∧ l[m]? = some c ∧ ∀ m', m' < m → k ≤ i + m' → l[m']? ≠ some c)
  | [], i, k, j => .inl ⟨rfl, fun m _ _ => by simp⟩
  | x :: l, i, k, j => by
    rw [firstIdx]
    by_cases h : k ≤ i ∧ i < j ∧ x = c
    · rw [if_pos h]
      exact .inr ⟨0, rfl, h.1, h.2.1, by simp [h.2.2], fun m' hm => by (first | lia | omega)⟩
    · rw [if_neg h]
      rcases firstIdx_spec c l (i + 1) k j with ⟨h1, h2⟩ | ⟨m, h1, h2, h3, h4, h5⟩
      · refine .inl ⟨h1, fun m hk hj => ?_⟩
        cases m with
        | zero => simpa using fun q => h ⟨hk, hj, q⟩
        | succ m => rw [List.getElem?_cons_succ]; exact h2 m (by (first | lia | omega)) (by (first | lia | omega))
      · refine .inr ⟨m + 1, ?_, by (first | lia | omega), by (first | lia | omega), by rw [List.getElem?_cons_succ]; exact h4, fun m' hm hk => ?_⟩
        · rw [h1]; congr 1; (first | lia | omega)
        · cases m' with
          | zero => simpa using fun q => h ⟨hk, by (first | lia | omega), q⟩
          | succ m' => rw [List.getElem?_cons_succ]; exact h5 m' (by (first | lia | omega)) (by (first | lia | omega))
theorem one_at (x : Str) (c i hi : Nat) (h : hi ≤ x.length) : (i + (⟨#[c]⟩ : Str).length ≤ hi ∧ Builtin.Str.subAt x ⟨#[c]⟩ i = true) ↔ (i < hi ∧ x.cps.toList[i]? = some c) := by
  rw [← StrLaws.subAt_one x c i]
  show (i + 1 ≤ hi ∧ _) ↔ (i < hi ∧ (i + 1 ≤ x.length ∧ _))
  constructor
  · intro q; exact ⟨by (first | lia | omega), by (first | lia | omega), q.2⟩
  · intro q; exact ⟨by (first | lia | omega), q.2.2⟩
theorem occ_first (x : Str) (c k j : Nat) : (match Builtin.Str.occurrences x ⟨#[c]⟩ k (min j x.length) 1 with | i :: _ => (i : Int) | [] => -1) = firstIdx c x.cps.toList 0 k j := by
  rw [StrLaws.occ_eq, occ1 _ _ _ _ _ (fun i hi => by rw [List.mem_range'_1] at hi; exact hi.1)]
  have hp : (fun i => decide (i + (⟨#[c]⟩ : Str).length ≤ min j x.length ∧ Builtin.Str.subAt x ⟨#[c]⟩ i = true)) = fun i => decide (i < min j x.length ∧ x.cps.toList[i]? = some c) := by
    funext i
    rw [decide_eq_decide]
    exact one_at x c i _ (Nat.min_le_right _ _)
  rw [hp]
  have lt : ∀ m, x.cps.toList[m]? = some c → m < x.length := fun m hm => by
    obtain ⟨q, _⟩ := List.getElem?_eq_some_iff.mp hm
    exact q
  rcases firstIdx_spec c x.cps.toList 0 k j with ⟨h1, h2⟩ | ⟨m, h1, h2, h3, h4, h5⟩
  · rw [h1]
    have : List.find? (fun i => decide (i < min j x.length ∧ x.cps.toList[i]? = some c)) (List.range' k (min j x.length + 1 - k)) = none := by
      rw [List.find?_eq_none]
      intro i hi
      rw [List.mem_range'_1] at hi
      rw [decide_eq_true_eq]
      intro q
      exact h2 i (by (first | lia | omega)) (by (first | lia | omega)) q.2
    rw [this]; rfl
  · rw [h1]
    rw [Nat.zero_add] at h2 h3 ⊢
    have := lt m h4
    have : List.find? (fun i => decide (i < min j x.length ∧ x.cps.toList[i]? = some c)) (List.range' k (min j x.length + 1 - k)) = some m := by
      rw [List.find?_range'_eq_some]
      refine ⟨by rw [decide_eq_true_eq]; exact ⟨by (first | lia | omega), h4⟩, by rw [List.mem_range'_1]; (first | lia | omega), fun q h6 h7 => ?_⟩
      rw [Bool.not_eq_true', decide_eq_false_iff_not]
      intro h8
      exact h5 q h7 (by (first | lia | omega)) h8.2
    rw [this]; rfl
open Builtin Builtin.Str in
theorem gives_str_find4 (x y : Str) (i j : Int) (t u v k : Tok) (hi : 0 ≤ i) (hj : 0 ≤ j) : Gives («str.find» ⟨[.str x t, .str y u, .int i v, .int j k], []⟩) (.int (match occurrences x y i.toNat (min j.toNat x.length) 1 with | k :: _ => (k : Int) | [] => -1)) := by
  have h1 : (max 0 (if i < 0 then i + (x.length : Int) else i)).toNat = i.toNat := by rw [if_neg (by (first | lia | omega)), Int.max_eq_right hi]
  have h2 : (max 0 (if j < 0 then j + (x.length : Int) else j)).toNat = j.toNat := by rw [if_neg (by (first | lia | omega)), Int.max_eq_right hj]
  show Gives (match occurrences x y (max 0 (if i < 0 then i + (x.length : Int) else i)).toNat (min (max 0 (if j < 0 then j + (x.length : Int) else j)).toNat x.length) 1 with | k :: _ => retInt k | [] => (do rule "str.find.not-found"; retInt (-1))) _
  rw [h1, h2]
  cases occurrences x y i.toNat (min j.toNat x.length) 1 with
  | nil => exact .rule (.of_eq rfl)
  | cons k _ => exact .of_eq rfl
end Mine
namespace Mine
open _root_.PySem _root_.PySem.Calls _root_.PySem.W _root_.PyProof.Rows

theorem str_one {y : Str} {c : Nat} (h : y.cps.toList = [c]) : y = ⟨#[c]⟩ := by
  obtain ⟨a⟩ := y
  have : a = #[c] := Array.toList_inj.mp h
  rw [this]
theorem bytes_one {b : Array UInt8} {c : Nat} (h : b.toList.map UInt8.toNat = [c]) : ∃ x, b = #[x] ∧ x.toNat = c := by
  cases e : b.toList with
  | nil => rw [e] at h; cases h
  | cons x r =>
    rw [e] at h
    cases r with
    | nil => refine ⟨x, Array.toList_inj.mp e, ?_⟩; simpa using h
    | cons y r => simp at h
theorem texts_are {h : Heap} {γ : List Addr} : ∀ {xs : List PV} {ls : List (List Nat)} {vs : List Value}, IsAll h γ vs xs → texts xs = some ls → ∃ l : List (Str × Tok), vs = strValues l ∧ l.map (fun p => p.1.cps.toList) = ls
  | [], ls, _, .nil, e => by simp only [texts] at e; cases e; exact ⟨[], rfl, rfl⟩
  | x :: xs, ls, _, .cons hv hs, e => by
    cases x <;> simp only [texts] at e <;> try cases e
    obtain ⟨r, hr, rfl⟩ := Option.map_eq_some_iff.mp e
    obtain ⟨l, rfl, rfl⟩ := texts_are hs hr
    cases hv with
    | str y t _ q => exact ⟨(y, t) :: l, rfl, by simp [q]⟩
theorem joinS_nil : ∀ l : List (List Nat), joinS [] l = l.flatten
  | [] => rfl
  | [x] => by simp [joinS]
  | x :: y :: r => by rw [joinS, joinS_nil (y :: r)] <;> simp
theorem join_nil {e : Str} (he : e.cps.toList = []) : ∀ l : List Str, (Str.join e l).cps.toList = (l.map fun p => p.cps.toList).flatten
  | [] => rfl
  | [x] => by simp [Str.join]
  | x :: y :: r => by
    show ((x.cps ++ e.cps) ++ (Str.join e (y :: r)).cps).toList = _
    rw [Array.toList_append, Array.toList_append, he, join_nil he (y :: r)]
    simp
theorem plain_isList {h : Heap} {a : Addr} {vs : Array Value} (p : h.PlainList a vs) : h.IsList a vs := by
  obtain ⟨n, e⟩ := p
  exact ⟨_, e, rfl, n, rfl⟩

section
variable {prog : Program} {w : World} {A : Around} {s : Shared} {P : Addr} {γ : List Addr} {led : List PObj} {vs : List Value} {xs : List PV} {z : PV}
theorem c_replace {x y u : Str} {t t' t'' : Tok} {c : Nat} {l : List Nat} (hl : x.cps.toList = l) (hy : y.cps.toList = [c]) (hn : l.contains c = false) :
    wpB (model prog w) A (call (.builtin "str.replace") [.str x t, .str y t', .str u t'']) (fun v s' => Ext P s s' ∧ Is s'.heap γ v (.str l)) s := by
  have hy := str_one hy
  subst hy
  have ho : Builtin.Str.occurrences x ⟨#[c]⟩ 0 x.length (x.length + 1) = [] := by
    refine occ_nil_of_no _ _ _ fun i hi => ?_
    cases hs : Builtin.Str.subAt x ⟨#[c]⟩ i with
    | false => rfl
    | true =>
      have := (StrLaws.subAt_one x c i).mp ⟨hi, hs⟩
      rw [hl] at this
      have hm : c ∈ l := List.mem_of_getElem? this
      rw [List.contains_iff_mem.mpr hm] at hn
      cases hn
  have hc : ((Builtin.Str.occurrences x ⟨#[c]⟩ 0 x.length (x.length + 1)).isEmpty || ((⟨#[c]⟩ : Str).length == 0 && u.length == 0)) = true := by rw [ho]; rfl
  refine wpB_leaf (call_gives F.slot_str_replace (typeIs_str _ _ _) F.entry_str_replace (F.args_str_replace_3 _ _ _) (gives_str_replace x ⟨#[c]⟩ u t t' t'' fun q => by rw [hc] at q; cases q) ?_)
  rw [if_pos hc]
  exact ⟨Ext.refl _, .str _ _ _ hl⟩
theorem c_find {x y : Str} {t t' t1 t2 : Tok} {c : Nat} {l : List Nat} {i j : Int} (hl : x.cps.toList = l) (hy : y.cps.toList = [c]) (hi : 0 ≤ i) (hj : 0 ≤ j) :
    wpB (model prog w) A (call (.builtin "str.find") [.str x t, .str y t', .int i t1, .int j t2]) (fun v s' => Ext P s s' ∧ Is s'.heap γ v (.int (firstIdx c l 0 i.toNat j.toNat))) s := by
  have hy := str_one hy
  subst hy
  refine wpB_leaf (call_gives F.slot_str_find (typeIs_str _ _ _) F.entry_str_find (F.args_str_find_4 _ _ _ _) (gives_str_find4 x ⟨#[c]⟩ i j t t' t1 t2 hi hj) ?_)
  rw [occ_first, hl]
  exact ⟨Ext.toks, .int _ _⟩
theorem c_join {e : Str} {t : Tok} {a : Addr} {ws : Array Value} {ls : List (List Nat)} (he : e.cps.toList = []) (hp : s.heap.PlainList a ws) (hx : IsAll s.heap γ ws.toList xs) (ht : texts xs = some ls) (hb : (joinS [] ls).length ≤ big) :
    wpB (model prog w) A (call (.builtin "str.join") [.str e t, .ref a]) (fun v s' => Ext P s s' ∧ Is s'.heap γ v (.str (joinS [] ls))) s := by
  obtain ⟨l, hw, rfl⟩ := texts_are hx ht
  have hw : ws = (strValues l).toArray := by rw [← hw]
  subst hw
  have el : e.length = 0 := by show e.cps.size = 0; rw [← Array.length_toList, he]; rfl
  have key : (Str.join e (l.map (·.1))).cps.toList = joinS [] (l.map fun p => p.1.cps.toList) := by
    rw [join_nil he, joinS_nil, List.map_map]; rfl
  have hsum : ((l.map (·.1)).map (·.length)).sum = (joinS [] (l.map fun p => p.1.cps.toList)).length := by
    rw [joinS_nil, List.length_flatten, List.map_map, List.map_map]; rfl
  refine wpB_leaf (SC.join (plain_isList hp) rfl ?_ fun t' k => ?_)
  · unfold JoinOk
    rw [Bool.not_eq_true', StrLaws.joinTotal, hsum, el, Nat.mul_zero, Nat.add_zero]
    unfold Builtin.Str.tooLong sizeLine
    refine decide_eq_false ?_
    unfold big at hb
    (first | lia | omega)
  · refine ⟨Ext.toks, .str _ _ _ ?_⟩
    show (Builtin.Str.glued e (l.map (·.1))).cps.toList = _
    rw [StrLaws.glued_eq_join, key]
abbrev MethOk (prog : Program) (w : World) (P : Addr) (γ : List Addr) (led : List PObj) (s : Shared) (n : Str) (o : Value) (p : Prim) (x : PV) : Prop :=
  ∃ id, Meth s o n id ∧ ∀ {A : Around} {s' : Shared} {vs : List Value} {xs : List PV} {z : PV}, Ext P s s' → IsAll s'.heap γ vs xs → primEv led p (x :: xs) = some z → wpB (model prog w) A (call (.builtin id) (o :: vs)) (fun v s'' => Ext P s' s'' ∧ Is s''.heap γ v z) s'
theorem isBytes_el {G : PV → Prop} (H : ∀ l, G (.bytes l)) (x : PV) (h : isBytes x = true) : G x := by cases x <;> first | exact H _ | cases h
theorem isStr_el {G : PV → Prop} (H : ∀ l, G (.str l)) (x : PV) (h : isStr x = true) : G x := by cases x <;> first | exact H _ | cases h
theorem m_rfind {o : Value} {l : List Nat} (ho : Is s.heap γ o (.bytes l)) : MethOk prog w P γ led s "rfind" o .rfind (.bytes l) := by
  refine Is.bytes_el (G := fun o => MethOk prog w P γ led s "rfind" o .rfind (.bytes l)) (fun b t hl => ?_) o ho
  refine ⟨"bytes.rfind", ⟨⟨"bytes", typeIs_bytes s b t, FB.plainAttrs_bytes, by_rfind⟩, by_rfind_ty, fun a h => by cases h⟩, fun {A s' vs xs z} _ hx e => ?_⟩
  obtain ⟨⟨x', y⟩, e1, e⟩ := ob_inv (show (a2 (PV.bytes l :: xs)).bind _ = some z from e)
  cases a2_inv e1
  obtain ⟨d, e3, e⟩ := ob_inv (show (asByt y).bind _ = some z from e)
  obtain ⟨c, e4, e⟩ := ob_inv e
  obtain ⟨_, rfl⟩ := if_inv e
  obtain ⟨v, rfl, hv⟩ := hx.one
  obtain ⟨b2, t2, rfl, h2⟩ := hv.asByt e3
  rw [one1_inv e4] at h2
  obtain ⟨q, rfl, rfl⟩ := bytes_one h2
  exact c_rfind hl
theorem m_upper {o : Value} {l : List Nat} (ho : Is s.heap γ o (.bytes l)) : MethOk prog w P γ led s "upper" o .upper (.bytes l) := by
  refine Is.bytes_el (G := fun o => MethOk prog w P γ led s "upper" o .upper (.bytes l)) (fun b t hl => ?_) o ho
  refine ⟨"bytes.upper", ⟨⟨"bytes", typeIs_bytes s b t, FB.plainAttrs_bytes, by_upper⟩, by_upper_ty, fun a h => by cases h⟩, fun {A s' vs xs z} _ hx e => ?_⟩
  obtain ⟨x', e1, e⟩ := ob_inv (show (a1 (PV.bytes l :: xs)).bind _ = some z from e)
  cases a1_inv e1
  obtain ⟨hb, rfl⟩ := if_inv (show (if l.length ≤ big then _ else _) = some z from e)
  rw [hx.nil_inv]
  refine c_upper hl ?_
  rw [← hl, List.length_map, Array.length_toList] at hb
  rw [sizeLine_eq]; unfold big at hb; (first | lia | omega)
theorem m_replace {o : Value} {l : List Nat} (ho : Is s.heap γ o (.str l)) : MethOk prog w P γ led s "replace" o .replace (.str l) := by
  refine Is.str_el (G := fun o => MethOk prog w P γ led s "replace" o .replace (.str l)) (fun y1 t hl => ?_) o ho
  refine ⟨"str.replace", ⟨⟨"str", typeIs_str s y1 t, F.plainAttrs_str, F.slot_str_replace⟩, F.type_str_replace, fun a h => by cases h⟩, fun {A s' vs xs z} _ hx e => ?_⟩
  obtain ⟨⟨x', y, q⟩, e1, e⟩ := ob_inv (show (a3 (PV.str l :: xs)).bind _ = some z from e)
  cases a3_inv e1
  obtain ⟨d, e3, e⟩ := ob_inv (show (asStr y).bind _ = some z from e)
  obtain ⟨c, e4, e⟩ := ob_inv e
  obtain ⟨l2, e5, e⟩ := ob_inv e
  obtain ⟨hb, rfl⟩ := if_inv e
  obtain ⟨v, u, rfl, hv, hu⟩ := hx.of2 rfl
  obtain ⟨y2, t2, rfl, h2⟩ := hv.asStr e3
  obtain ⟨y3, t3, rfl, h3⟩ := hu.asStr e5
  rw [one1_inv e4] at h2
  exact c_replace hl h2 hb.2
theorem m_find {o : Value} {l : List Nat} (ho : Is s.heap γ o (.str l)) : MethOk prog w P γ led s "find" o .find (.str l) := by
  refine Is.str_el (G := fun o => MethOk prog w P γ led s "find" o .find (.str l)) (fun y1 t hl => ?_) o ho
  refine ⟨"str.find", ⟨⟨"str", typeIs_str s y1 t, F.plainAttrs_str, F.slot_str_find⟩, F.type_str_find, fun a h => by cases h⟩, fun {A s' vs xs z} _ hx e => ?_⟩
  obtain ⟨⟨x', y, q, r⟩, e1, e⟩ := ob_inv (show (a4 (PV.str l :: xs)).bind _ = some z from e)
  cases a4_inv e1
  obtain ⟨d, e3, e⟩ := ob_inv (show (asStr y).bind _ = some z from e)
  obtain ⟨c, e4, e⟩ := ob_inv e
  obtain ⟨i, e5, e⟩ := ob_inv e
  obtain ⟨j, e6, e⟩ := ob_inv e
  obtain ⟨hb, rfl⟩ := if_inv e
  obtain ⟨v, u, k, rfl, hv, hu, hk⟩ := hx.of3 rfl
  obtain ⟨y2, t2, rfl, h2⟩ := hv.asStr e3
  obtain ⟨t3, rfl⟩ := hu.asInt e5
  obtain ⟨t4, rfl⟩ := hk.asInt e6
  rw [one1_inv e4] at h2
  exact c_find hl h2 hb.1 hb.2.1
theorem m_join {o : Value} {l : List Nat} (ho : Is s.heap γ o (.str l)) : MethOk prog w P γ led s "join" o .join (.str l) := by
  refine Is.str_el (G := fun o => MethOk prog w P γ led s "join" o .join (.str l)) (fun y1 t hl => ?_) o ho
  refine ⟨"str.join", ⟨⟨"str", typeIs_str s y1 t, F.plainAttrs_str, F.slot_str_join⟩, F.type_str_join, fun a h => by cases h⟩, fun {A s' vs xs z} _ hx e => ?_⟩
  obtain ⟨⟨x', y⟩, e1, e⟩ := ob_inv (show (a2 (PV.str l :: xs)).bind _ = some z from e)
  cases a2_inv e1
  obtain ⟨ys, e3, e⟩ := ob_inv (show (asLst y).bind _ = some z from e)
  obtain ⟨h0, e'⟩ := ite_inv e
  obtain ⟨ls, hls, e'⟩ := ob_inv e'
  obtain ⟨hb, rfl⟩ := if_inv e'
  obtain ⟨v, rfl, hv⟩ := hx.one
  obtain ⟨a, ws, rfl, hn, hp, hx, hf⟩ := hv.asLst e3
  exact c_join (hl.trans h0) hp hx hls hb.1
theorem side_meth {p : Prim} {n : Str} {o : Value} {x : PV} (hp : methName p = some n) (hr : rcv p x = true) (ho : Is s.heap γ o x) : MethOk prog w P γ led s n o p x := by
  cases p <;> first | cases hp | skip
  · exact isBytes_el (G := fun x => Is s.heap γ o x → MethOk prog w P γ led s "rfind" o .rfind x) (fun _ => m_rfind) x hr ho
  · exact isBytes_el (G := fun x => Is s.heap γ o x → MethOk prog w P γ led s "upper" o .upper x) (fun _ => m_upper) x hr ho
  · exact isStr_el (G := fun x => Is s.heap γ o x → MethOk prog w P γ led s "replace" o .replace x) (fun _ => m_replace) x hr ho
  · exact isStr_el (G := fun x => Is s.heap γ o x → MethOk prog w P γ led s "find" o .find x) (fun _ => m_find) x hr ho
  · exact isStr_el (G := fun x => Is s.heap γ o x → MethOk prog w P γ led s "join" o .join x) (fun _ => m_join) x hr ho
end
end Mine
namespace Mine
open _root_.PySem _root_.PySem.Calls _root_.PySem.W _root_.PyProof.Rows

noncomputable def asciiS : Str := ⟨#[97, 115, 99, 105, 105]⟩
noncomputable def strictS : Str := ⟨#[115, 116, 114, 105, 99, 116]⟩
theorem sa_typeCall (a b c : Value) : checkTypeCall "str" ⟨[a, b, c], []⟩ = pure () := by kernel_rfl
theorem sa_newCall (a b c : Value) : checkBuiltinCall "str.__new__" ⟨[.type "str", a, b, c], []⟩ = pure () := by kernel_rfl
theorem sa_decCall (b : Array UInt8) (t t1 t2 : Tok) : checkBuiltinCall "bytes.decode" ⟨[.bytes b t], [("encoding", .str asciiS t1), ("errors", .str strictS t2)]⟩ = pure () := by
  first | kernel_rfl | skip
theorem sa_bind {b : Array UInt8} {t t1 t2 : Tok} : Builtin.Str.bindOptional "str.__new__" "str" 0 ["object", "encoding", "errors"] [.bytes b t, .str asciiS t1, .str strictS t2] [] = pure [some (.bytes b t), some (.str asciiS t1), some (.str strictS t2)] := by kernel_rfl
theorem sa_dec_cons {c : UInt8} {cs : List UInt8} {t t1 t2 : Tok} : Builtin.«bytes.decode» ⟨[.bytes (c :: cs).toArray t], [("encoding", .str asciiS t1), ("errors", .str strictS t2)]⟩ =
   (mkStr (PySem.Str.ofString "utf-8") >>= fun _ => mkStr asciiS >>= fun e => mkStr strictS >>= fun m => mkStr (PySem.Str.ofString "bytes.decode") >>= fun d => call (.builtin "_codecs.decode.text") [.bytes (c :: cs).toArray t, e, m, d] >>= fun v => ret v) := by kernel_rfl
theorem sa_dec_nil {t t1 t2 : Tok} : Builtin.«bytes.decode» ⟨[.bytes #[] t], [("encoding", .str asciiS t1), ("errors", .str strictS t2)]⟩ = (do rule "bytes.decode.empty"; retStr Str.empty) := by kernel_rfl
theorem sa_text {b : Array UInt8} {id : String} : Builtin._codecs.decodeRoad id b asciiS (some strictS) [] = (Builtin._codecs.runDecoder id Builtin._codecs.asciiDecoder (some strictS) true b 0 [] >>= fun r => mkStr ⟨r.1⟩) := by kernel_rfl
theorem sa_new {b : Array UInt8} {t t1 t2 : Tok} : Builtin.«str.__new__» ⟨[.type "str", .bytes b t, .str asciiS t1, .str strictS t2], []⟩ =
    (mkStr asciiS >>= fun e => mkStr strictS >>= fun m => rule "str.__new__.decode-bytes" >>= fun _ => call (.builtin "bytes.decode") [.bytes b t] [("encoding", e), ("errors", m)] >>= fun v => ret v) := by kernel_rfl
theorem loop_go {S : Type} {f : Nat → S → Sem (ForInStep S)} {g : Nat → S} {n : Nat} (h : ∀ k x, k < n → f x (g k) = pure (.yield (g (k + 1)))) : ∀ j a i, i + j = n → forIn (List.range' a j) (g i) f = pure (g n)
  | 0, a, i, e => by rw [← e]; rfl
  | j + 1, a, i, e => by
    rw [List.range'_succ, List.forIn_cons, h i a (by (first | lia | omega)), pure_bind]
    exact loop_go h j _ (i + 1) (by (first | lia | omega))
theorem sa_find {b : Array UInt8} (ha : (b.toList.map UInt8.toNat).all (· < 128) = true) {k : Nat} (hk : k < b.size) : Builtin._codecs.asciiDecoder.find true b k = .text [(b[k]).toNat] (k + 1) := by
  have h1 : (b[k]).toNat < 128 := by
    have := List.all_eq_true.mp ha (b[k]).toNat (List.mem_map_of_mem (by simp))
    exact of_decide_eq_true this
  show (if (b.getD k 0).toNat < 128 then Builtin._codecs.Found.text [(b.getD k 0).toNat] (k + 1) else _) = _
  have h2 : b.getD k 0 = b[k] := by simp [Array.getD, hk]
  rw [h2, if_pos h1]
noncomputable def runG (b : Array UInt8) (k : Nat) : Nat × Array Nat × Builtin._codecs.Faults := (k, ((b.toList.take k).map UInt8.toNat).toArray, { })
theorem sa_run {b : Array UInt8} {id : String} {e : Option Str} (ha : (b.toList.map UInt8.toNat).all (· < 128) = true) (hz : b.size ≤ sizeLine) :
    Builtin._codecs.runDecoder id Builtin._codecs.asciiDecoder e true b 0 [] = pure ((b.toList.map UInt8.toNat).toArray, b.size) := by
  unfold Builtin._codecs.runDecoder
  simp only [Std.Legacy.Range.forIn_eq_forIn_range', Std.Legacy.Range.size]
  have hn : (b.size - 0 + 1 - 1) / 1 = b.size := by rw [Nat.div_one]; (first | lia | omega)
  rw [hn]
  have g0 : ((0, #[], { }) : Nat × Array Nat × Builtin._codecs.Faults) = runG b 0 := rfl
  rw [g0, loop_go (g := runG b) (n := b.size) ?_ b.size 0 0 (by (first | lia | omega))]
  · simp only [pure_bind, runG]
    have : b.toList.take b.size = b.toList := List.take_of_length_le (by simp)
    rw [this]
  · intro k x hk
    have h1 : ¬ (((b.toList.take k).map UInt8.toNat).toArray.size > sizeLine) := by simp; (first | lia | omega)
    show (if ((b.toList.take k).map UInt8.toNat).toArray.size > sizeLine then _ else if k ≥ b.size then _ else _) = _
    rw [if_neg h1, if_neg (by (first | lia | omega))]
    show (match Builtin._codecs.asciiDecoder.find true b k with | .text cs next => _ | .refuse tag => _ | .bad stop reason mayGrow => _) = _
    rw [sa_find ha hk]
    unfold runG
    have h2 : b.toList.take (k + 1) = b.toList.take k ++ [b[k]] := by
      rw [List.take_succ_eq_append_getElem (by simpa using hk)]; simp
    rw [h2]
    simp
theorem sa_init4 (a b c d : Value) : argsOk "object.__init__" ⟨[a, b, c, d], []⟩ := by
  unfold argsOk; rw [signature?_of (id := "object.__init__") (n := ['_', '_', 't', 'i', 'n', 'i', '_', '_']) (o := ['t', 'c', 'e', 'j', 'b', 'o']) (by kernel_rfl) F.owner_object]; kernel_rfl
theorem sa_eqS {y : Str} (h : y.cps.toList = [97, 115, 99, 105, 105]) : y = asciiS := by
  obtain ⟨a⟩ := y
  have : a = #[97, 115, 99, 105, 105] := Array.toList_inj.mp h
  rw [this]; rfl
theorem sa_eqT {y : Str} (h : y.cps.toList = [115, 116, 114, 105, 99, 116]) : y = strictS := by
  obtain ⟨a⟩ := y
  have : a = #[115, 116, 114, 105, 99, 116] := Array.toList_inj.mp h
  rw [this]; rfl
noncomputable def saText (b : Array UInt8) : Str := ⟨(b.toList.map UInt8.toNat).toArray⟩
theorem sa_meets_text {b : Array UInt8} {t t1 t2 t3 : Tok} {d : Str} : Meets (Builtin.«_codecs.decode.text» ⟨[.bytes b t, .str asciiS t1, .str strictS t2, .str d t3], []⟩)
    (fun _ R s => ((b.toList.map UInt8.toNat).all (· < 128) = true ∧ b.size ≤ sizeLine) ∧ R (.ok (.ret (.str (saText b) s.toks))) { s with toks := s.toks + 1 }) := by
  refine .of_wp fun prog w A R s hS => ?_
  obtain ⟨⟨ha, hsz⟩, h⟩ := hS
  show wpAny _ _ (Builtin.Bytes.bytesLike _ (.bytes b t) >>= fun r => _) _ _ s
  refine wpAny_bind (wpAny_of_eq KBd.like_eq ?_)
  refine wpAny_bind (wpAny_of_eq KBd.held_eq ?_)
  show wpAny _ _ (Builtin._codecs.decodeRoad _ b asciiS (some strictS) [] >>= fun v => _) _ _ s
  rw [sa_text, sa_run ha hsz]
  refine wpAny_bind (wpAny_bind (wpAny_pure ?_))
  exact wpAny_mkStr (wpAny_pure ⟨_, rfl, h⟩) (by show ((b.toList.map UInt8.toNat).toArray).size ≤ sizeLine; simpa using hsz)
theorem sa_meets_dec {b : Array UInt8} {t t1 t2 : Tok} : Meets (Builtin.«bytes.decode» ⟨[.bytes b t], [("encoding", .str asciiS t1), ("errors", .str strictS t2)]⟩)
    (fun _ R s => ((b.toList.map UInt8.toNat).all (· < 128) = true ∧ b.size ≤ sizeLine) ∧ ∀ t' k, R (.ok (.ret (.str (saText b) t'))) { s with toks := k }) := by
  refine .of_wp fun prog w A R s hS => ?_
  obtain ⟨⟨ha, hsz⟩, h⟩ := hS
  obtain ⟨l⟩ := b
  cases l with
  | nil =>
    rw [sa_dec_nil]
    exact wpAny_bind (wpAny_rule (wpAny_bind (wpAny_mkStr (wpAny_pure ⟨_, rfl, h _ _⟩) (by decide))))
  | cons c cs =>
    have e : (Array.mk (c :: cs)) = (c :: cs).toArray := rfl
    rw [e, sa_dec_cons]
    refine wpAny_bind (wpAny_mkStr ?_ (by decide))
    refine wpAny_bind (wpAny_mkStr ?_ (by decide))
    refine wpAny_bind (wpAny_mkStr ?_ (by decide))
    refine wpAny_bind (wpAny_mkStr ?_ (by decide))
    exact wpAny_bind (call_function_meets KBd.kind_text KBd.plain_text KBd.entry_text (KBd.args_text _ _ _ _) sa_meets_text ⟨⟨ha, hsz⟩, wpAny_pure ⟨_, rfl, h _ _⟩⟩)
theorem sa_args (a e m : Value) : argsOk "bytes.decode" ⟨[a], [("encoding", e), ("errors", m)]⟩ := by
  unfold argsOk; rw [signature?_of (id := "bytes.decode") (n := ['e', 'd', 'o', 'c', 'e', 'd']) (o := ['s', 'e', 't', 'y', 'b']) (by kernel_rfl) by_owner]; kernel_rfl
theorem sa_meets_new {b : Array UInt8} {t t1 t2 : Tok} : Meets (Builtin.«str.__new__» ⟨[.type "str", .bytes b t, .str asciiS t1, .str strictS t2], []⟩)
    (fun _ R s => ((b.toList.map UInt8.toNat).all (· < 128) = true ∧ b.size ≤ sizeLine) ∧ ∀ t' k, R (.ok (.ret (.str (saText b) t'))) { s with toks := k }) := by
  refine .of_wp fun prog w A R s hS => ?_
  obtain ⟨ha, h⟩ := hS
  rw [sa_new]
  refine wpAny_bind (wpAny_mkStr ?_ (by decide))
  refine wpAny_bind (wpAny_mkStr ?_ (by decide))
  refine wpAny_bind (wpAny_rule ?_)
  refine wpAny_bind (wpAny_call (codeAny_call_builtin FB.slot_bytes_decode.plain FB.entry_bytes_decode (FB.slot_bytes_decode.check _ _ _ _ _ _ _ _ (typeIs_bytes _ b t) (sa_args _ _ _) ?_)))
  refine sa_meets_dec prog w A.in1 (fun r s' => match r with
      | Except.ok (Flow.ret v) => wpAny (model prog w) A.in1 (ret v) (fun fin s' => ∃ v, fin = _root_.PySem.Fin.done (Flow.ret v) ∧ R (Except.ok (Flow.ret v)) s') (fun e s' => R (Except.error e) s') s'
      | Except.ok a => False
      | Except.error e => R (Except.error e) s') _ ⟨ha, fun t' k => ?_⟩
  exact wpAny_pure ⟨_, rfl, h _ _⟩
section
variable {prog : Program} {w : World} {A : Around} {s : Shared} {P : Addr} {γ : List Addr} {led : List PObj} {vs : List Value} {xs : List PV} {z : PV}
theorem pr_strAscii (e : primEv led .strAscii xs = some z) (hx : IsAll s.heap γ vs xs) : wpB (model prog w) A (call (.type "str") vs) (fun v s' => Ext P s s' ∧ Is s'.heap γ v z) s := by
  obtain ⟨⟨x, y, q⟩, q1, e⟩ := ob_inv (show (a3 xs).bind _ = some z from e)
  obtain ⟨l, q2, e⟩ := ob_inv e
  obtain ⟨e1, q3, e⟩ := ob_inv e
  obtain ⟨e2, q4, e⟩ := ob_inv e
  obtain ⟨hc, rfl⟩ := if_inv e
  obtain ⟨v, u, k, rfl, hv, hu, hk⟩ := hx.of3 q1
  obtain ⟨b, t, rfl, hl⟩ := hv.asByt q2
  obtain ⟨y1, t1, rfl, h1⟩ := hu.asStr q3
  obtain ⟨y2, t2, rfl, h2⟩ := hk.asStr q4
  obtain ⟨ha, hb, rfl, rfl⟩ := hc
  have := sa_eqS h1; subst this
  have := sa_eqT h2; subst this
  have hz : b.size ≤ sizeLine := by
    have : l.length = b.size := by rw [← hl]; simp
    rw [sizeLine_eq]; unfold big at hb; (first | lia | omega)
  refine wpB_leaf (callType_new F.called_str (by decide) (sa_typeCall _ _ _) (sa_newCall _ _ _) (fun obj => sa_init4 obj _ _ _) F.entry_str_new sa_meets_new ⟨⟨by rw [hl]; exact ha, hz⟩, fun t' k => ⟨typeIs_str _ _ _, Ext.toks, .str _ _ _ ?_⟩⟩)
  exact hl
end
end Mine
namespace Mine
open _root_.PySem _root_.PySem.Calls _root_.PySem.W _root_.PyProof.Rows
section
variable {prog : Program} {w : World} {A : Around} {s : Shared} {P : Addr} {γ : List Addr} {led : List PObj} {vs : List Value} {xs : List PV} {z : PV}
theorem side_fn {p : Prim} {g : Str × Value} (hp : primName p = some g) (hh : A.handled = none) (T : TabIs P s.heap) (L : LedIs s.heap γ led) (hx : IsAll s.heap γ vs xs) (e : primEv led p xs = some z) :
    wpB (model prog w) A (call g.2 vs) (fun v s' => Ext P s s' ∧ Is s'.heap γ v z) s := by
  cases p <;> simp only [primName, reduceCtorEq] at hp <;> cases hp
  · exact pr_len e hx L
  · exact pr_ord e hx
  · exact pr_chr e hx
  · exact pr_bytes hh L e hx
  · exact pr_strAscii e hx
  · exact pr_range1 e hx
  · exact pr_range2 e hx
  · exact pr_range3 e hx
  · exact pr_list hh T L e hx
  · exact pr_sum hh e hx
theorem side_isa {p : Prim} {g : Str × String} {v : Value} (hp : isaName p = some g) (hx : IsAll s.heap γ [v] xs) (e : primEv led p xs = some z) :
    wpB (model prog w) A (call (.builtin "isinstance") [v, .type g.2]) (fun v s' => Ext P s s' ∧ Is s'.heap γ v z) s := by
  cases p <;> simp only [isaName, reduceCtorEq] at hp <;> cases hp
  · exact pr_isStr e hx
  · exact pr_isMem e hx
end
end Mine
namespace Mine
open _root_.PySem _root_.PySem.Calls _root_.PySem.W _root_.PyProof.Rows

section
variable {prog : Program} {w : World} {A : Around} {E : Value → Shared → Prop} {s : Shared} {P : Addr}
open Builtin Builtin.Str in
theorem tr_keep {c : Nat} {t : Tok} {tb : Value} {Q : PySem.Fin → Shared → Prop} (hc : c < 128)
    (h : wpAny (model prog w) A (tableLookup tb c) (fun m s' => m = .keep ∧ ∀ t' k, Q (.done (.ret (.str ⟨#[c]⟩ t'))) { s' with toks := k }) E s) :
    wpAny (model prog w) A («str.translate» ⟨[.str ⟨#[c]⟩ t, tb], []⟩) Q E s := by
  unfold «str.translate»
  have h1 : strOneArg "translate" ⟨[.str ⟨#[c]⟩ t, tb], []⟩ = pure (.str ⟨#[c]⟩ t, ⟨#[c]⟩, tb) := rfl
  have hall : (#[c].all fun x => decide (x < 128)) = true := by simp [hc]
  rw [h1]
  simp only [pure_bind]
  rw [hall]
  refine bm_if_false rfl ?_
  rw [← Array.forIn_toList]
  show wpAny _ _ (forIn [c] _ _ >>= _) _ _ _
  rw [List.forIn_cons]
  refine wpAny_bind (wpAny_bind ?_)
  refine bm_if_false rfl ?_
  refine bm_if_true rfl ?_
  show wpAny _ _ (tableLookup tb c >>= _) _ _ _
  refine wpAny_bind (wpAny_mono h (fun m s' hm => ?_) fun _ _ e => e)
  obtain ⟨rfl, hm⟩ := hm
  refine wpAny_pure ?_
  refine wpAny_pure ?_
  refine bm_if_false rfl ?_
  exact wpAny_bind (wpAny_mkStr (wpAny_pure (hm _ _)) (by show 1 ≤ sizeLine; decide))
open Builtin Builtin.Str in
theorem tr_text {c : Nat} {t : Tok} {tb : Value} {u : Str} {Q : PySem.Fin → Shared → Prop} (hc : c < 128) (hu : u.length = 2)
    (h : wpAny (model prog w) A (tableLookup tb c) (fun m s' => m = .text u ∧ wpAny (model prog w) A (tableLookup tb c) (fun m s'' => m = .text u ∧ ∀ t' k, Q (.done (.ret (.str u t'))) { s'' with toks := k }) E s') E s) :
    wpAny (model prog w) A («str.translate» ⟨[.str ⟨#[c]⟩ t, tb], []⟩) Q E s := by
  unfold «str.translate»
  have h1 : strOneArg "translate" ⟨[.str ⟨#[c]⟩ t, tb], []⟩ = pure (.str ⟨#[c]⟩ t, ⟨#[c]⟩, tb) := rfl
  have hall : (#[c].all fun x => decide (x < 128)) = true := by simp [hc]
  rw [h1]
  simp only [pure_bind]
  rw [hall]
  refine bm_if_false rfl ?_
  rw [← Array.forIn_toList]
  show wpAny _ _ (forIn [c] _ _ >>= _) _ _ _
  rw [List.forIn_cons]
  refine wpAny_bind (wpAny_bind ?_)
  refine bm_if_false rfl ?_
  refine bm_if_true rfl ?_
  show wpAny _ _ (tableLookup tb c >>= _) _ _ _
  refine wpAny_bind (wpAny_mono h (fun m s' hm => ?_) fun _ _ e => e)
  obtain ⟨rfl, hm⟩ := hm
  have h2 : (u.length == 1 && u.cps.all fun x => decide (x < 128)) = false := by rw [hu]; rfl
  have h3 : (if (u.length == 1 && u.cps.all fun x => decide (x < 128)) = true then some u.cps[0]? else none) = none := by rw [h2]; rfl
  simp only [h3]
  refine wpAny_bind (wpAny_rule ?_)
  refine bm_if_false rfl ?_
  refine wpAny_bind (wpAny_mono hm (fun m s' hm => ?_) fun _ _ e => e)
  obtain ⟨rfl, hm⟩ := hm
  refine wpAny_pure ?_
  refine wpAny_pure ?_
  simp only [hu]
  refine bm_if_false rfl ?_
  have e : (⟨[u].reverse.foldl (fun acc p => acc ++ p.cps) #[]⟩ : Str) = u := by
    obtain ⟨a⟩ := u
    simp
  show wpAny _ _ (retStr ⟨[u].reverse.foldl (fun acc p => acc ++ p.cps) #[]⟩) _ _ _
  rw [e]
  exact wpAny_bind (wpAny_mkStr (wpAny_pure (hm _ _)) (by rw [hu]; decide))
end
end Mine
namespace Mine
open _root_.PySem _root_.PySem.Calls _root_.PySem.W _root_.PyProof.Rows

theorem MapIs.map {prog : Program} {w : World} {h : Heap} {D : Addr} (m : MapIs h D) : ∃ f, h.MapOf (intKind prog w) D f ∧ ∀ c : Nat, c < 128 → match f (c : Int) with | some v => specials.contains c = true ∧ ∃ t, v = .str ⟨#[92, c]⟩ t | none => specials.contains c = false := by
  obtain ⟨o, es, ep, h1, h2, h3, h4, h5⟩ := m.at_
  exact ⟨fun k => findBy Value.isInt es k, ⟨o, es, ep, h1, h2, h3, h4, fun k => rfl⟩, h5⟩
theorem MapIs.keep {h h' : Heap} {P D : Addr} (m : MapIs h D) (k : KeepP P h h') (hD : D ≠ P) : MapIs h' D := by
  obtain ⟨o, es, ep, h1, h2⟩ := m.at_
  exact ⟨o, es, ep, k D o hD h1, h2⟩
theorem sub_key_lookup : isSubtype (.type "KeyError") (.type "LookupError") = pure true := by rw [isSubtype_type]; kernel_rfl
section
variable {prog : Program} {w : World} {A : Around} {E : Value → Shared → Prop} {s : Shared} {P : Addr}
theorem map_lookup {D : Addr} {c : Nat} (m : MapIs s.heap D) (hD : (D == sysModules) = false) (hc : c < 128) (hh : A.handled = none) :
    wpAny (model prog w) A (Builtin.Str.tableLookup (.ref D) c) (fun r s' => (Ext P s s' ∧ MapIs s'.heap D) ∧ r = if specials.contains c then .text ⟨#[92, c]⟩ else .keep) E s := by
  obtain ⟨f, hm, hf⟩ := m.map (prog := prog) (w := w)
  have hf := hf c hc
  unfold Builtin.Str.tableLookup
  refine wpAny_bind (wpAny_attempt ?_)
  refine wpAny_bind (wpAny_mkInt ?_)
  have hT : (Shared.TypeIs { s with toks := s.toks + 1 } (.ref D) "dict") := Heap.MapOf.typeIs hm
  refine wpAny_getItem_slot hT (by decide) F.slot_dict_getitem ?_
  cases hv : f (c : Int) with
  | some v =>
    rw [hv] at hf
    obtain ⟨h1, t, rfl⟩ := hf
    refine call_meetsIn F.slot_dict_getitem hT F.entry_dict_getitem (F.args_dict_getitem_2 _ _) (meets_dict_getitem (intKind prog w) D (k := (c : Int)) (beq_self_eq_true _)) ⟨f, _, hm, hv, ?_⟩
    refine wpAny_bind (wpAny_of_eq (a := none) rfl ?_)
    refine wpAny_bind (wpAny_of_eq (a := some _) rfl ?_)
    exact wpAny_pure ⟨⟨Ext.toks, m⟩, by rw [h1]; rfl⟩
  | none =>
    rw [hv] at hf
    refine call_meetsIn F.slot_dict_getitem hT F.entry_dict_getitem (F.args_dict_getitem_2 _ _) (meets_dict_getitem_missing (intKind prog w) D (k := (c : Int)) (beq_self_eq_true _) hD) ⟨hh, f, hm, hv, fun h' e hx => ?_⟩
    obtain ⟨ob, tt, h1, h2, h3⟩ := hx.there
    have hE : Shared.TypeIs { s with heap := h', toks := s.toks + 1 + 1 } (.ref e) "KeyError" := ⟨ob, h1, h2⟩
    refine wpAny_bind (wpAny_isInstance hE sub_key_lookup ?_)
    refine bm_if_true rfl ?_
    exact wpAny_bind (wpAny_rule (wpAny_pure ⟨⟨Ext.of_keep hx.keeps, m.at_.elim fun o ⟨es, ep, q1, q2⟩ => ⟨o, es, ep, hx.keeps _ _ q1, q2⟩⟩, by rw [hf]; rfl⟩))
end
end Mine
namespace Mine
open _root_.PySem _root_.PySem.Calls _root_.PySem.W _root_.PyProof.Rows
section
variable {prog : Program} {w : World} {A : Around} {s : Shared} {P : Addr} {γ : List Addr} {led : List PObj} {vs : List Value} {xs : List PV} {z : PV}
theorem tr_call {c : Nat} {t : Tok} (m : MapIs s.heap 87) (hc : c < 128) (hh : A.handled = none) :
    wpB (model prog w) A (call (.builtin "str.translate") [.str ⟨#[c]⟩ t, .ref 87]) (fun v s' => Ext P s s' ∧ Is s'.heap γ v (.str (if specials.contains c then [92, c] else [c]))) s := by
  refine wpB_leaf (wpAny_call (codeAny_call_builtin F.slot_str_translate.plain F.entry_str_translate (F.slot_str_translate.check _ _ _ _ _ _ _ _ (typeIs_str _ _ _) (F.args_str_translate_2 _ _) ?_)))
  cases hs : specials.contains c with
  | false =>
    refine tr_keep hc (wpAny_mono (map_lookup (P := P) m (by decide) hc hh) (fun r s' ⟨⟨E, _⟩, hr⟩ => ⟨?_, fun t' k => ?_⟩) fun _ _ e => e)
    · rw [hr, hs]; rfl
    · exact ⟨E.trans Ext.toks, .str _ _ _ rfl⟩
  | true =>
    refine tr_text (u := ⟨#[92, c]⟩) hc rfl (wpAny_mono (map_lookup (P := P) m (by decide) hc hh) (fun r s' ⟨⟨E, m'⟩, hr⟩ => ⟨?_, ?_⟩) fun _ _ e => e)
    · rw [hr, hs]; rfl
    · refine wpAny_mono (map_lookup (P := P) m' (by decide) hc hh) (fun r s'' ⟨⟨E', _⟩, hr⟩ => ⟨?_, fun t' k => ?_⟩) fun _ _ e => e
      · rw [hr, hs]; rfl
      · exact ⟨(E.trans E').trans Ext.toks, .str _ _ _ rfl⟩
theorem side_transl {ok : Fn → DefRec → Bool} {mg mb : Str → Option Value} {o : Value} {x : PV} (W : Wd ok P mg mb s.heap) (ho : Is s.heap γ o x) (e : primEv led .transl [x] = some z) :
    ∃ id mv, mg ("_special_chars_map" : Str) = some mv ∧ Meth s o ("translate" : Str) id ∧ ∀ {A : Around}, A.handled = none → wpB (model prog w) A (call (.builtin id) [o, mv]) (fun v s'' => Ext P s s'' ∧ Is s''.heap γ v z) s := by
  obtain ⟨l, e2, e⟩ := ob_inv (show (asStr x).bind _ = some z from e)
  obtain ⟨c, e3, e⟩ := ob_inv e
  obtain ⟨hc, rfl⟩ := if_inv e
  obtain ⟨y, t, rfl, hl⟩ := ho.asStr e2
  rw [one1_inv e3] at hl
  have := str_one hl; subst this
  exact ⟨"str.translate", .ref 87, W.mapN, ⟨⟨"str", typeIs_str s _ t, F.plainAttrs_str, F.slot_str_translate⟩, F.type_str_translate, fun a h => by cases h⟩, fun {A} hh => tr_call W.map hc hh⟩
end
end Mine
namespace Mine
open _root_.PySem _root_.PySem.Calls _root_.PySem.W _root_.PyProof.Rows

/-! ### The search for one of three signs finds none -/
noncomputable def calm (c : Nat) : Bool := decide (c ≠ 38 ∧ c ≠ 124 ∧ c ≠ 126)
theorem sre_bits : ∀ c : Fin 256, calm c.val = true → (sreW.getD (5 + (1 + c.val / 32)) 0).testBit (c.val % 32) = false := by decide +kernel
theorem sre_in {c : Nat} (h : calm c = true) (seen : Sre.Seen) : ∃ q, Sre.inSet sreW c 32 5 true seen = .ok (false, q) := by
  refine ⟨(seen.add 9).add 0, ?_⟩
  show (if (c < 256 && (sreW.getD (5 + (1 + c / 32)) 0).testBit (c % 32)) = true then _ else _) = _
  have : (decide (c < 256) && (sreW.getD (5 + (1 + c / 32)) 0).testBit (c % 32)) = false := by
    by_cases q : c < 256
    · rw [sre_bits ⟨c, q⟩ h, Bool.and_false]
    · rw [decide_eq_false q, Bool.false_and]
  rw [this]
  rfl
theorem sre_adm {m : Sre.M} (hc : m.code = sreW) (ht : ∀ i, i < m.lim → calm (m.text.getD i 0) = true) : ∀ (fuel s : Nat) (seen : Sre.Seen), ∃ q, m.admitted fuel s seen = .ok (none, q)
  | 0, _, seen => ⟨seen, rfl⟩
  | fuel + 1, s, seen => by
    unfold Sre.M.admitted
    by_cases h : s ≥ m.lim
    · exact ⟨seen, if_pos h⟩
    · rw [if_neg h, hc]
      obtain ⟨q, e⟩ := sre_in (ht s (by (first | lia | omega))) seen
      have e' : Sre.inSet sreW (m.text.getD s 0) sreW.size 5 true seen = .ok (false, q) := e
      rw [e']
      exact sre_adm hc ht fuel (s + 1) q
theorem sre_said {m : Sre.M} (ho : m.outcome = none) (hf : m.frames = []) : ((m.say false).runFor 4).outcome = some .failed := by
  obtain ⟨c, x, l, s, ls, wt, ma, pc, ps, hd, om, mk, lm, li, lo, inn, fr, we, an, se, oc⟩ := m
  simp only at ho hf
  subst ho hf
  rfl
theorem sre_from {m : Sre.M} (hc : m.code = sreW) (ho : m.outcome = none) (hf : m.frames = []) (ht : ∀ i, i < m.lim → calm (m.text.getD i 0) = true) : ((m.attemptFrom 0 true).runFor 4).outcome = some .failed := by
  unfold Sre.M.attemptFrom
  have h1 : (!m.hasFirstSet) = false := by unfold Sre.M.hasFirstSet; rw [hc]; rfl
  rw [h1, if_neg (by decide)]
  obtain ⟨q, e⟩ := sre_adm hc ht (m.lim + 1 - 0) 0 m.seen
  rw [e]
  exact sre_said ho hf
theorem sre_none {text : Array Nat} (ht : ∀ i, i < text.size → calm (text.getD i 0) = true) : ((Sre.forSearch sreW text 1 0 text.size false).runFor 4).outcome = some .failed := by
  unfold Sre.forSearch
  dsimp only
  split
  · exact sre_said rfl rfl
  · exact sre_from rfl rfl rfl ht
end Mine
namespace Mine
open _root_.PySem _root_.PySem.Calls _root_.PySem.W _root_.PyProof.Rows
section
variable {M : Model} {A : Around} {E : Value → Shared → Prop} {s : Shared}
open Builtin Builtin.Re
theorem drive_one {m : Sre.M} {o : Sre.Outcome} (h : (m.runFor 4).outcome = some o) : ∀ n, 0 < n → reDrive n m = pure (m.runFor 4)
  | n + 1, _ => by
    rw [reDrive]
    have e : m.runFor reTurnSteps = m.runFor 4 := rfl
    simp only [e, h, Option.isSome_some, if_true]
theorem rules_go {p : Nat → Bool} {t : Nat → String} : ∀ {l : List Nat} {s : Shared} {Q : PUnit → Shared → Prop}, Q () s →
    wpAny M A (forIn l PUnit.unit fun i _ => if p i = true then (do rule (t i); pure (ForInStep.yield PUnit.unit)) else pure (ForInStep.yield PUnit.unit)) Q E s
  | [], s, Q, h => wpAny_pure h
  | i :: l, s, Q, h => by
    rw [List.forIn_cons]
    refine wpAny_bind ?_
    by_cases hp : p i = true
    · rw [if_pos hp]
      exact wpAny_bind (wpAny_rule (wpAny_pure (rules_go h)))
    · rw [if_neg hp]
      exact wpAny_pure (rules_go h)
theorem run_none {m : Sre.M} {Q : Option Sre.M → Shared → Prop} (h : (m.runFor 4).outcome = some .failed) (hq : Q none s) : wpAny M A (reRunToEnd m) Q E s := by
  unfold reRunToEnd
  refine wpAny_bind (wpAny_of_eq (drive_one h _ (by decide)) ?_)
  refine wpAny_bind (rules_go ?_)
  rw [h]
  exact wpAny_pure hq
end
end Mine
namespace Mine
open _root_.PySem _root_.PySem.Calls _root_.PySem.W _root_.PyProof.Rows

section
variable {M : Model} {A : Around} {E : Value → Shared → Prop} {s : Shared}
open Builtin Builtin.Re
theorem whole_ok {x : Str} {t : Tok} {Q : ReTarget → Shared → Prop} (p : PatIs s.heap) (hq : Q ⟨.ref 85, .str x t, sreW, x.cps, 0, 1, 0, x.cps.size⟩ s) : wpAny M A (reWholeTarget (.ref 85) (.str x t)) Q E s := by
  obtain ⟨o, vs, h1, h2, h3, h4, h5, h6, h7⟩ := p.pat
  obtain ⟨o', ws, n, g1, g2, g3, g4⟩ := p.code
  unfold reWholeTarget fieldsOf
  refine wpAny_bind (wpAny_bind (wpAny_load h1 ?_))
  rw [h4]
  refine wpAny_pure ?_
  refine wpAny_bind (wpAny_of_eq (a := (x.cps, 0)) rfl ?_)
  dsimp only
  rw [h6, h7, h5]
  refine bm_if_false rfl ?_
  refine bm_if_false rfl ?_
  refine wpAny_bind (wpAny_of_eq (a := ()) rfl ?_)
  unfold reRawItems seqItems?
  refine wpAny_bind (wpAny_bind (wpAny_bind (wpAny_load g1 ?_)))
  rw [g3]
  refine wpAny_pure (wpAny_pure (wpAny_pure ?_))
  show Q ⟨.ref 85, .str x t, (ws.map reRawOf).map Int.toNat, x.cps, 0, 1, 0, x.cps.size⟩ s
  rw [g4]
  exact hq
end
end Mine
namespace Mine
open _root_.PySem _root_.PySem.Calls _root_.PySem.W _root_.PyProof.Rows

theorem fn_call : typeLookup (.type "function") "__call__" = pure (some (.builtin "function.__call__")) := by rw [typeLookup_type, builtinLookup_eq_fast]; kernel_rfl
theorem sub_named (r x : Value) : Builtin.Re.reNamed "re.Pattern.sub" "sub" ["repl", "string", "count"] 2 [r, x] [] = pure [some r, some x, none] := by kernel_rfl
section
variable {prog : Program} {w : World} {A : Around} {E : Value → Shared → Prop} {s : Shared}
open Builtin Builtin.Re
set_option tactic.hygienic true in
theorem sub_loop {x : Str} {t : Tok} {r D : Addr} {n : Nat} {Q : PySem.Fin → Shared → Prop} (p : PatIs s.heap) (hx : ∀ i, i < x.cps.size → calm (x.cps.getD i 0) = true) (hz : x.length ≤ sizeLine)
    (hD : s.heap.get? D = some { cls := .type "list", data := .seq #[] n }) (h84 : D ≠ 84) (h85 : D ≠ 85)
    (hq : ∀ h' t' k, (∀ b o, b ≠ D → s.heap.get? b = some o → h'.get? b = some o) → Q (.done (.ret (.str x t'))) { s with heap := h', toks := k }) :
    wpAny (model prog w) A («re.Pattern.sub.loop» ⟨[.ref 85, .str x t, .ref r, rawInt 1, rawInt 0, rawInt 0, rawInt 0, rawInt 0, .bool false, .ref D, .bool false], []⟩) Q E s := by
  unfold «re.Pattern.sub.loop»
  refine wpAny_bind (whole_ok p ?_)
  refine bm_if_false rfl ?_
  refine wpAny_bind (bm_if_false rfl (run_none (sre_none hx) ?_))
  dsimp only
  have hsub : x.cps.extract 0 x.cps.size = x.cps := by simp
  have hsz : x.cps.size ≤ sizeLine := hz
  have he : ∀ (tk : Tok), (⟨x.cps.extract 0 x.cps.size⟩ : Str) = x := fun _ => by rw [hsub]
  split
  · rename_i h0
    refine wpAny_bind (wpAny_mkStr ?_ (by show (x.cps.extract 0 x.cps.size).size ≤ sizeLine; rw [hsub]; exact hsz))
    refine wpAny_bind (wpAny_updateSeq hD rfl ?_ (by simp) (by simp [sizeLine]))
    refine wpAny_bind (wpAny_mkStr ?_ (by show (x.cps.extract 0 0).size ≤ sizeLine; simp))
    unfold seqItems?
    have hg := Heap.get?_update_self (Obj.mapSeq fun x_1 => x_1.push (.str ⟨x.cps.extract 0 x.cps.size⟩ s.toks)) hD rfl
    refine wpAny_bind (wpAny_bind (wpAny_load hg ?_))
    refine wpAny_pure ?_
    refine bm_if_false rfl ?_
    refine wpAny_bind (SC.join (D := D) (l := [(⟨x.cps.extract 0 x.cps.size⟩, s.toks)]) (texts := [⟨x.cps.extract 0 x.cps.size⟩]) ⟨_, hg, rfl, _, rfl⟩ rfl ?_ fun t' k => ?_)
    · unfold JoinOk
      rw [Bool.not_eq_true', StrLaws.joinTotal]
      unfold Builtin.Str.tooLong
      refine decide_eq_false ?_
      rw [hsub]
      simp [Str.length]
      exact hsz
    · refine bm_if_false rfl ?_
      refine wpAny_pure ?_
      have e2 : Txt.join ⟨x.cps.extract 0 0⟩ [⟨x.cps.extract 0 x.cps.size⟩] = x := by
        show Builtin.Str.glued _ _ = _
        rw [StrLaws.glued_eq_join, hsub]; rfl
      rw [e2]
      exact hq _ t' k fun b o hb e => (Heap.get?_update_other _ _ hb.symm).trans e
  · rename_i h0
    refine wpAny_bind (wpAny_mkStr ?_ (by show (x.cps.extract 0 0).size ≤ sizeLine; simp))
    unfold seqItems?
    refine wpAny_bind (wpAny_bind (wpAny_load hD ?_))
    refine wpAny_pure ?_
    refine bm_if_true rfl ?_
    refine wpAny_bind (wpAny_pure ?_)
    refine bm_if_false rfl ?_
    refine wpAny_pure ?_
    have e2 : (⟨x.cps.extract 0 0⟩ : Str) = x := by
      have : x.cps.size = 0 := by
        have h0' : ¬ (0 < x.cps.size) := h0
        (first | lia | omega)
      conv => rhs; rw [← he 0, this]
    rw [e2]
    exact hq _ _ _ fun b o hb e => e
end
end Mine
namespace Mine
open _root_.PySem _root_.PySem.Calls _root_.PySem.W _root_.PyProof.Rows

theorem rp_owner : Manifest.owners.lookup (String.ofList ['n', 'r', 'e', 't', 't', 'a', 'P', '.', 'e', 'r'].reverse) = some Manifest.sig_re_Pattern := by kernel_rfl
theorem rp_sub : Slot "re.Pattern" "sub" "re.Pattern.sub" :=
  .of (owner := "re.Pattern") (n := "sub") (by rw [typeLookup_type, builtinLookup_eq_fast]; kernel_rfl) (by decide +kernel) (by decide +kernel) (by decide +kernel)
    (by first | exact .inl (by decide +kernel) | exact .inr (by decide +kernel)) (by rw [isSubtype_type]; kernel_rfl)
theorem rp_sub_ty : typeOf (.builtin "re.Pattern.sub") = pure (.type "method_descriptor") := by show builtinType _ = _; rw [builtinType_eq_fast]; kernel_rfl
theorem rp_sub_entry : entryFor table "re.Pattern.sub" = some Builtin.«re.Pattern.sub» := entryFor_of_tree (by kernel_rfl)
theorem rp_loop_entry : entryFor table "re.Pattern.sub.loop" = some Builtin.«re.Pattern.sub.loop» := entryFor_of_tree (by kernel_rfl)
theorem rp_loop_plain : plainId "re.Pattern.sub.loop" = true := by decide +kernel
theorem rp_sub_args (a b c : Value) : argsOk "re.Pattern.sub" ⟨[a, b, c], []⟩ := by
  unfold argsOk; rw [signature?_of (id := "re.Pattern.sub") (n := ['b', 'u', 's']) (o := ['n', 'r', 'e', 't', 't', 'a', 'P', '.', 'e', 'r']) (by kernel_rfl) rp_owner]; kernel_rfl
theorem rp_plain : PlainAttrs "re.Pattern" :=
  ⟨⟨"object.__getattribute__", by rw [typeLookup_type, builtinLookup_eq_fast]; kernel_rfl, by decide +kernel⟩, by rw [typeLookup_type, builtinLookup_eq_fast]; kernel_rfl⟩
theorem str_no_bytearray : isSubtype (.type "str") (.type "bytearray") = pure false := by rw [isSubtype_type]; kernel_rfl
section
variable {prog : Program} {w : World} {A : Around} {E : Value → Shared → Prop} {s : Shared}
open Builtin Builtin.Re
theorem sub_call {x : Str} {t : Tok} {r : Addr} {Q : Value → Shared → Prop} (p : PatIs s.heap) (hx : ∀ i, i < x.cps.size → calm (x.cps.getD i 0) = true) (hz : x.length ≤ sizeLine)
    (hr : s.TypeIs (.ref r) "function") (hq : ∀ h' t' k, (∀ b o, s.heap.get? b = some o → h'.get? b = some o) → Q (.str x t') { s with heap := h', toks := k }) :
    wpAny (model prog w) A (call (.builtin "re.Pattern.sub") [.ref 85, .ref r, .str x t]) Q E s := by
  obtain ⟨o, vs, h1, h2, h3, h4, h5, h6, h7⟩ := id p.pat
  obtain ⟨o', ws, n, g1, g2, g3, g4⟩ := id p.code
  have hT : s.TypeIs (.ref 85) "re.Pattern" := ⟨o, h1, h2⟩
  refine wpAny_call (codeAny_call_builtin rp_sub.plain rp_sub_entry (rp_sub.check _ _ _ _ _ _ _ _ hT (rp_sub_args _ _ _) ?_))
  unfold «re.Pattern.sub» reSubstitute
  refine wpAny_bind (wpAny_of_eq (sub_named _ _) ?_)
  dsimp only
  refine wpAny_bind (wpAny_pure ?_)
  refine wpAny_bind (wpAny_specialOf hr fn_call ?_)
  refine wpAny_bind (wpAny_of_eq (a := false) rfl ?_)
  refine bm_if_true rfl ?_
  refine wpAny_bind (wpAny_pure ?_)
  refine wpAny_bind (wpAny_holding (whole_ok p ?_))
  refine bm_if_true rfl ?_
  refine wpAny_bind ?_
  unfold reNotHeld
  refine wpAny_bind (wpAny_isInstance (typeIs_str _ _ _) (T := "str") str_no_bytearray ?_)
  refine bm_if_false rfl ?_
  refine wpAny_pure ?_
  refine wpAny_bind (wpAny_newList ?_ (by simp))
  have hfr : s.heap.get? s.heap.objs.size = none := Heap.get?_none_of_le (Nat.le_refl _)
  have hnew : ∀ b o, s.heap.get? b = some o → (s.heap.push { cls := .type "list", data := .seq #[] }).get? b = some o := fun b o e => Heap.get?_push_of_some _ e
  have ne : ∀ b o, s.heap.get? b = some o → b ≠ s.heap.objs.size := fun b o e q => by rw [q, hfr] at e; cases e
  refine wpAny_pure ⟨plainId_quiet rp_loop_plain _, codeAny_builtin rp_loop_entry ?_⟩
  rw [Around.under_plainId rp_loop_plain _]
  refine sub_loop (D := s.heap.objs.size) (n := 0) (s := { s with heap := s.heap.push { cls := .type "list", data := .seq #[] } }) ⟨⟨o, vs, hnew _ _ h1, h2, h3, h4, h5, h6, h7⟩, ⟨o', ws, n, hnew _ _ g1, g2, g3, g4⟩⟩ hx hz (Heap.get?_push_size _ rfl) (ne _ _ g1).symm (ne _ _ h1).symm ?_
  intro h' t' k hk
  exact hq h' t' k fun b o e => hk b o (ne b o e) (hnew b o e)
end
end Mine
namespace Mine
open _root_.PySem _root_.PySem.Calls _root_.PySem.W _root_.PyProof.Rows

noncomputable def subF (ns : List (Str × NameKind)) (e : Expr) (k : Expr → Bool) : Bool := onCall e fun f es kw pos => on0 kw <| onAttribute f fun b m apos => onName b fun n _ => on2 es fun l x => onLambda l fun la _ ls _ =>
  n == ("_twin_re_1" : Str) && (isGlob ns n && (m == ("sub" : Str) && (apos.endLine == pos.line && (la.defaults.isEmpty && (la.kw_defaults.isEmpty && (ls.names.all (fun y => y.2 != .free) && (noStar [x] && k x)))))))
theorem closure_none (env : Env) : ∀ (l : List (Str × NameKind)) (cs : List (Str × Addr)), l.all (fun y => y.2 != .free) = true →
    (forIn l cs fun (x : Str × NameKind) r => if (x.2 == .free) = true then (do let c ← cellOf env x.1; pure (ForInStep.yield ((x.1, c) :: r))) else pure (ForInStep.yield r) : Sem (List (Str × Addr))) = pure cs
  | [], cs, _ => rfl
  | y :: l, cs, h => by
    rw [List.all_cons, Bool.and_eq_true] at h
    have : (y.2 == NameKind.free) = false := by
      have := h.1
      cases q : y.2 == NameKind.free with
      | false => rfl
      | true => rw [bne, q] at this; cases this
    rw [List.forIn_cons, this]
    exact closure_none env l cs h.2
theorem closureFor_none {env : Env} {scope : Scope} (h : scope.names.all (fun y => y.2 != .free) = true) : closureFor scope env = pure [] := by
  unfold closureFor
  have := closure_none env scope.names [] h
  first
    | (rw [this]; rfl)
    | (simp only [this]; rfl)
section
variable {prog : Program} {w : World} {ok : Fn → DefRec → Bool} {A : Around} {P : Addr} {mg mb : Str → Option Value} {γ : List Addr} {σ : St} {s : Shared} {env : Env} {ns : List (Str × NameKind)}
theorem lam_make {name qual : Str} {params : Arguments} {body : Expr} {scope : Scope} {pos : Pos} {fl : Nat} (h3 : scope.names.all (fun y => y.2 != .free) = true) (he : EnvOk true ns env) (W : Wd ok P mg mb s.heap) :
    wpAny (model prog w) A (makeFunction name qual params (.expr body) scope env [] [] [] pos fl) (fun v s' => Ext P s s' ∧ ∃ r, v = .ref r ∧ s'.TypeIs (.ref r) "function") (fun _ _ => False) s := by
  obtain ⟨ps, hP, ht⟩ := W.tab
  obtain ⟨bm, ob, hbm, hne0, _, hneP, hbo, hcls, hdict, hdata⟩ := W.bat
  have hgP : mainGlobals ≠ P := fun q => by
    obtain ⟨o, es, ep, e, hd, _⟩ := W.g
    rw [q, hP] at e; cases e; cases hd
  rw [makeFunction_eq]
  simp only [List.zip_nil_right, List.filterMap_nil, List.isEmpty_nil, if_true, pure_bind]
  unfold makeTail
  rw [closureFor_none h3, he.glob]
  refine wpAny_bind (wpAny_pure ?_)
  simp only [List.isEmpty_nil, if_true]
  refine wpAny_bind (wpAny_pure ?_)
  cases hc : codeAmong pos ps.toList with
  | some cv =>
    refine wpAny_bind (wpAny_functionCode_hit (he.code rfl) (W.chd.code hP ht) hc ?_)
    refine wpAny_bind (wpAny_builtinsFor W.g hbm hne0 hbo hcls hdict hdata (wpAny_bind (wpAny_nsGet W.g ?_)))
    exact wpAny_bind (wpAny_pure (wpAny_newObj_type ⟨Ext.push, _, rfl, _, Heap.get?_push_size _ rfl, rfl⟩ (by size_fits)))
  | none =>
    refine wpAny_bind (wpAny_functionCodeX (he.code rfl) (W.chd.code hP ht) (W.chd.tab hP) hc fun c' h' tk hx _ _ _ _ htb _ => ?_)
    refine wpAny_bind (wpAny_builtinsFor (W.g.extBut hx hgP) hbm hne0 (hx _ _ hneP hbo) hcls hdict hdata (wpAny_bind (wpAny_nsGet (W.g.extBut hx hgP) ?_)))
    refine wpAny_bind (wpAny_pure (wpAny_newObj_type ⟨⟨fun b o hb e => Heap.get?_push_of_some _ (hx b o hb e), fun vs e _ => ?_, rfl, id⟩, _, rfl, _, Heap.get?_push_size _ rfl, rfl⟩ (by size_fits)))
    have e' : s.heap.get? P = some (codeTab vs) := e
    rw [hP] at e'
    injection e' with e'
    injection e' with _ _ e'
    injection e' with e'
    subst e'
    exact ⟨_, Heap.get?_push_of_some _ htb.2, by rw [Array.toList_append]; exact TriplesOk_snoc _ _ _ _ ht⟩
theorem lam_ok {la : Arguments} {lb : Expr} {ls : Scope} {lp : Pos} (he : EnvOk true ns env) (W : Wd ok P mg mb s.heap) (h1 : la.defaults = []) (h2 : la.kw_defaults = []) (h3 : ls.names.all (fun y => y.2 != .free) = true) :
    wpB (model prog w) A (eval (.Lambda la lb ls lp) env) (fun v s' => Ext P s s' ∧ ∃ r, v = .ref r ∧ s'.TypeIs (.ref r) "function") s := by
  rw [arm_eval_Lambda]
  have hd : defaultsOf la env = ([], []) := by
    cases la
    simp only at h1 h2
    subst h1 h2
    rfl
  rw [hd]
  refine wpB_bind (wpB_pure ?_)
  refine wpB_bind (wpB_holding (wpB_pure ?_))
  exact wpB_leaf (lam_make h3 he W)
end
theorem side_sub {κ : Par} {ns : List (Str × NameKind)} {pe : PE} {kk : Expr → Bool} (ht : κ.tr = true) (ha : ∀ x, kk x = true → ArgOk κ ns pe [x]) : ∀ e, subF ns e kk = true → EvOk κ ns (.prim .reSub pe) e ∧ Plain e := by
  refine onCall_el fun f es kw pos => ?_
  revert kw
  refine on0_el ?_
  revert f
  refine onAttribute_el fun b m apos => ?_
  revert b
  refine onName_el fun n p1 => ?_
  revert es
  refine on2_el fun l x => ?_
  revert l
  refine onLambda_el fun la lb ls lp => ?_
  revert n
  refine eq_el (and_el fun c2 => ?_)
  revert m
  refine eq_el (and_el fun c4 => and_el fun c5 => and_el fun c6 => and_el fun c7 => and_el fun c8 c9 => ⟨fun {A env γ σ s K Q} c hz hQ => ?_, fun _ => rfl⟩)
  refine wpB_Call_method rfl c8 (show 2 < 20 by decide) c4 (Name_global c.eo c.rel c2 (.inl c.rel.wd.patN) ?_)
  obtain ⟨o, vs, q1, q2, q3, q4, q5⟩ := c.rel.wd.pat.pat
  refine ⟨"re.Pattern.sub", ⟨⟨"re.Pattern", ⟨o, q1, q2⟩, rp_plain, rp_sub⟩, rp_sub_ty, fun a ea => by cases ea; exact ⟨o, q1, q3⟩⟩, ?_⟩
  rw [backTo_plain (show noStar [Expr.Lambda la lb ls lp, x] = true from c8)]
  refine wpB_spliced_cons (wpB_mono (lam_ok (ht ▸ c.eo) c.rel.wd (List.isEmpty_iff.mp c5) (List.isEmpty_iff.mp c6) c7) fun v s₁ ⟨E₁, r, hv, hT⟩ => ?_)
  subst hv
  have c₁ := c.to E₁
  refine ArgB.spliced (es := [x]) (K := fun l => tupW (.tup l) fun l => OpW (primEv σ.led .reSub l) K) (ha x c9 c₁ hz) c₁.tab fun vs s₂ l k hn E₂ hvs => oW_el k.k fun z hz k => ?_
  obtain ⟨x0, e1, hz⟩ := ob_inv (show (a1 l).bind _ = some z from hz)
  obtain ⟨l0, e2, hz⟩ := ob_inv hz
  obtain ⟨hb, rfl⟩ := if_inv hz
  obtain ⟨v0, rfl, hv0⟩ := hvs.of1 e1
  obtain ⟨y, t, rfl, hl⟩ := hv0.asStr e2
  have hT₂ : s₂.TypeIs (.ref r) "function" := by
    obtain ⟨o, a1, a2⟩ := hT
    exact ⟨o, E₂.keep.get c₁.tab a1 (.cls (by rw [a2]; nofun)), a2⟩
  have hlen : l0.length = y.cps.size := by rw [← hl]; exact Array.length_toList
  refine wpB_leaf (sub_call (c₁.to E₂).rel.wd.pat (fun i hi => ?_) (by show y.cps.size ≤ sizeLine; rw [← hlen, sizeLine_eq]; have := hb.1; unfold big at this; (first | lia | omega)) hT₂ fun h' t' q hk => hQ _ _ _ k ((E₁.trans E₂).trans (Ext.of_keep hk)) (.str _ _ _ hl))
  have hm : y.cps.getD i 0 ∈ l0 := by
    rw [← hl, Array.getD_eq_getD_getElem?, Array.getElem?_eq_getElem hi]
    exact Array.mem_toList_iff.mpr (Array.getElem_mem hi)
  exact List.all_eq_true.mp hb.2 _ hm
end Mine
namespace Mine
open _root_.PySem _root_.PySem.Calls _root_.PySem.W _root_.PyProof.Rows

/-! ### '-'.join(s.replace(..).replace(..) for s in chunks) -/
noncomputable def isAnyStr : Const → Bool
  | .str _ => true
  | _ => false
theorem isAnyStr_el {G : Const → Prop} (H : ∀ s, G (.str s)) (c : Const) (h : isAnyStr c = true) : G c := by cases c <;> first | exact H _ | cases h
noncomputable def onRepl (e : Expr) (c : Nat) (k : Expr → Bool) : Bool := onCall e fun f es kw p => on0 kw <| onAttribute f fun o r ap => on2 es fun b u => onConstant b fun b _ _ => onConstant u fun u _ _ => isStrC [c] b && (isAnyStr u && (r == ("replace" : Str) && (ap.endLine == p.line && k o)))
theorem onRepl_el {c : Nat} {k : Expr → Bool} {G : Expr → Prop} (H : ∀ o b u q1 q2 k1 k2 ap p, b.cps.toList = [c] → (ap.endLine == p.line) = true → k o = true → G (.Call (.Attribute o "replace" ap) [.Constant (.str b) k1 q1, .Constant (.str u) k2 q2] [] p)) : ∀ e, onRepl e c k = true → G e := by
  refine onCall_el fun f es kw p => ?_
  revert kw
  refine on0_el ?_
  revert f
  refine onAttribute_el fun o r ap => ?_
  revert es
  refine on2_el fun b u => ?_
  revert b
  refine onConstant_el fun b k1 q1 => ?_
  revert u
  refine onConstant_el fun u k2 q2 => and_el fun hb => and_el fun hu => ?_
  revert r
  refine eq_el (and_el fun c4 c5 => ?_)
  exact isStrC_el (G := fun b => G (.Call (.Attribute o "replace" ap) [.Constant b k1 q1, .Constant u k2 q2] [] p)) (fun b hb => isAnyStr_el (G := fun u => G (.Call (.Attribute o "replace" ap) [.Constant (.str b) k1 q1, .Constant u k2 q2] [] p)) (fun u => H o b u q1 q2 k1 k2 ap p hb c4 c5) u hu) b hb
noncomputable def eltOk (x : Str) (e : Expr) : Bool := onRepl e 45 fun e => onRepl e 92 fun e => onName e fun n _ => n == x && n != ("__debug__" : Str)
noncomputable def joinF (_ns : List (Str × NameKind)) (e : Expr) (k : Expr → Bool) : Bool := onCall e fun f es kw pos => on0 kw <| onAttribute f fun d m apos => onConstant d fun d _ _ => on1 es fun g => onGeneratorExp g fun elt gs scope _ => on1 gs fun g => onName g.target fun x _ => on0 g.ifs <|
  g.is_async == 0 && (isStrC [45] d && (m == ("join" : Str) && (apos.endLine == pos.line && (!scope.isCoroutine && (scope.names.all (fun y => y.2 != .free && y.2 != .cell) && (scope.names.lookup (".0" : Str) == some .local && (scope.names.lookup x == some .local && (scope.kind == .function && (eltOk x elt && k g.iter)))))))))
section
variable {prog : Program} {w : World} {A : Around} {E : Value → Shared → Prop} {s : Shared} {env : Env}
theorem rep_any {x y u : Str} {t t' t'' : Tok} {c : Nat} {Q : Value → Shared → Prop} (hy : y.cps.toList = [c]) (hn : x.cps.toList.contains c = false) (h : Q (.str x t) s) :
    wpAny (model prog w) A (call (.builtin "str.replace") [.str x t, .str y t', .str u t'']) Q E s := by
  have hy := str_one hy
  subst hy
  have ho : Builtin.Str.occurrences x ⟨#[c]⟩ 0 x.length (x.length + 1) = [] := by
    refine occ_nil_of_no _ _ _ fun i hi => ?_
    cases hs : Builtin.Str.subAt x ⟨#[c]⟩ i with
    | false => rfl
    | true =>
      have := (StrLaws.subAt_one x c i).mp ⟨hi, hs⟩
      have hm : c ∈ x.cps.toList := List.mem_of_getElem? this
      rw [List.contains_iff_mem.mpr hm] at hn
      cases hn
  have hc : ((Builtin.Str.occurrences x ⟨#[c]⟩ 0 x.length (x.length + 1)).isEmpty || ((⟨#[c]⟩ : Str).length == 0 && u.length == 0)) = true := by rw [ho]; rfl
  refine call_gives F.slot_str_replace (typeIs_str _ _ _) F.entry_str_replace (F.args_str_replace_3 _ _ _) (gives_str_replace x ⟨#[c]⟩ u t t' t'' fun q => by rw [hc] at q; cases q) ?_
  rw [if_pos hc]
  exact h
theorem rep_meth {x b u : Str} {t : Tok} {k1 k2 : Nat} {q1 q2 pos : Pos} {c : Nat} {Q : Value → Shared → Prop} (hb : b.cps.toList = [c]) (hn : x.cps.toList.contains c = false) (h : Q (.str x t) { s with toks := s.toks + 1 + 1 }) :
    MethodOnS prog w A E ("replace" : Str) (.str x t) pos [(false, eval (.Constant (.str b) k1 q1) env), (false, eval (.Constant (.str u) k2 q2) env)] Q s :=
  ⟨"str", "str.replace", F.plainAttrs_str, F.slot_str_replace, F.type_str_replace, typeIs_str _ _ _, (fun _ e => nomatch e),
    callWith_builtin rfl (evalArgs_plain (spliced_cons (Constant_str (spliced_cons (Constant_str (spliced_nil (rep_any hb hn h)))))))⟩
theorem elt_any {elt : Expr} {x : Str} {m : Str → Option Value} {y : Str} {t : Tok} (hx : eltOk x elt = true) (hk : env.scope.kind = .function) (hl : env.kindOf x = some .local) (hn : s.heap.Ns env.locals m) (hv : m x = some (.str y t))
    (h92 : y.cps.toList.contains 92 = false) (h45 : y.cps.toList.contains 45 = false) : wpAny (model prog w) A (eval elt env) (fun r s' => r = .str y t ∧ Keeps s s') E s := by
  refine onRepl_el (G := fun elt => wpAny (model prog w) A (eval elt env) (fun r s' => r = .str y t ∧ Keeps s s') E s) (fun o d u2 q3 q4 k3 k4 ap2 p2 d45 c6 => ?_) elt hx
  revert o
  refine onRepl_el fun o b u q1 q2 k1 k2 ap1 p1 d92 c5 => ?_
  revert o
  refine onName_el fun n pn => ?_
  revert n
  refine eq_el fun c2 => ?_
  have hd : (x == ("__debug__" : Str)) = false := by simpa using c2
  refine Call_method2 (attributeBase_plain rfl) rfl c6 ?_
  refine Call_method2 (attributeBase_plain rfl) rfl c5 ?_
  refine wpAny_Name (wpAny_loadName_local hk hl hn hv ?_) hd
  refine rep_meth d92 h92 ?_
  refine rep_meth d45 h45 ?_
  exact ⟨rfl, s.heap, _, rfl, fun _ _ e => e⟩
theorem passing_all {n : Nat} : ∀ {i : Nat}, i ≤ n → passing (fun _ => true) n i = (List.range n).drop i := by
  intro i _
  unfold passing
  exact List.filter_eq_self.mpr fun _ _ => rfl
theorem joinS_str {e : Str} (he : e.cps.toList = [45]) : ∀ l : List Str, (Str.join e l).cps.toList = joinS [45] (l.map fun p => p.cps.toList)
  | [] => rfl
  | [x] => by simp [Str.join, joinS]
  | x :: y :: r => by
    show ((x.cps ++ e.cps) ++ (Str.join e (y :: r)).cps).toList = _
    rw [Array.toList_append, Array.toList_append, he, joinS_str he (y :: r)]
    simp [joinS]
end
section
variable {prog : Program} {w : World} {ok : Fn → DefRec → Bool} {A : Around} {P : Addr} {mg mb : Str → Option Value} {γ : List Addr} {σ : St} {s : Shared} {env : Env} {ns : List (Str × NameKind)}
/-- what a made generator is good for -/
noncomputable def MadeQ (prog : Program) (w : World) (A : Around) (P : Addr) (s : Shared) (l : List (Str × Tok)) (v : Value) (s' : Shared) : Prop :=
  ∃ b fp wr g St, v = .ref b ∧ Ext P s s' ∧ WalksS prog w A.in4 b fp wr (GenOnlyQ g) l.length (fun j y => ∃ i, (List.range l.length)[j]? = some i ∧ ∃ p t, l[i]? = some p ∧ y = .str p.1 t) St ∧ St 0 s' ∧ (∀ i s, St i s → s.TypeIs (.ref b) "generator") ∧ (∀ c ∈ fp, c < s'.heap.objs.size) ∧ b ∈ fp ∧ (∀ c ∈ wr, s.heap.objs.size ≤ c)
/-- what the rule of a generator expression asks behind its code object -/
noncomputable def GenQ (prog : Program) (w : World) (A : Around) (P : Addr) (s : Shared) (l : List (Str × Tok)) (elt : Expr) (x : Str) (scope : Scope) (env : Env) (code : Value) (bi : Addr) (s₄ : Shared) : Prop :=
        ∃ I fp wr n₀ P' St₀ pz F, (.ref s.heap.objs.size : Value) = .ref I ∧ (∀ A' : Around, A'.handled = none → Walks prog w A' I fp wr n₀ P' St₀) ∧ St₀ 0 s₄.heap ∧ (∀ b ∈ fp, b < s₄.heap.objs.size) ∧ s₄.heap.NoLimit ∧ cStatics ∉ wr ∧
          (∀ href : Heap, (∀ b o, s₄.heap.get? b = some o → href.get? b = some o) →
            QuietGenD prog w (genEnv scope [] s₄.heap.objs.size code bi env) x [] elt (List.range s₄.heap.objs.size) wr P' pz F href (A.depth + 1) (A.units + 8)) ∧
          (∀ b h₅ tk gs, gs.bare = true → s₄.heap.objs.size < b → h₅.objs.size = b + 1 → (∀ b o, s₄.heap.get? b = some o → h₅.get? b = some o) →
            WalksS prog w A.in4 b (b :: s₄.heap.objs.size :: List.range s₄.heap.objs.size) (s₄.heap.objs.size :: wr) (GenOnlyQ s₄.gens.size) (passing pz n₀ 0).length
              (fun j y => ∃ i, (passing pz n₀ 0)[j]? = some i ∧ F i y) (GenAt prog w A.in4 b s₄.gens.size s₄.heap.objs.size (List.range s₄.heap.objs.size) wr pz n₀ F) →
            GenAt prog w A.in4 b s₄.gens.size s₄.heap.objs.size (List.range s₄.heap.objs.size) wr pz n₀ F 0 { s₄ with gens := s₄.gens.push gs, toks := tk, heap := h₅ } →
            MadeQ prog w A P s l (.ref b) { s₄ with gens := s₄.gens.push gs, toks := tk, heap := h₅ })
/-- the generator, made and not yet begun -/
theorem gen_made {elt iter : Expr} {x : Str} {px : Pos} {scope : Scope} {pos : Pos} {a : Addr} {l : List (Str × Tok)} (hh : A.handled = none) (hroom : A.depth < recursionLimit) (he : EnvOk true ns env) (W : Wd ok P mg mb s.heap) (hco : scope.isCoroutine = false)
    (hnm : scope.names.all (fun y => y.2 != .free && y.2 != .cell) = true) (h0 : scope.names.lookup (".0" : Str) = some NameKind.local) (hx : scope.names.lookup x = some .local) (hkind : scope.kind = .function) (hs : ∀ x, genFold iter env x = pure x) (helt : eltOk x elt = true)
    (hlist : s.heap.IsList a (strValues l).toArray) (hit : ∀ {A : Around} {E : Value → Shared → Prop} {Q : Value → Shared → Prop}, Q (.ref a) s → wpAny (model prog w) A (eval iter env) Q E s)
    (hno : ∀ p ∈ l, p.1.cps.toList.contains 92 = false ∧ p.1.cps.toList.contains 45 = false) :
    wpB (model prog w) A (eval (.GeneratorExp elt [⟨.Name x px, iter, [], 0⟩] scope pos) env) (MadeQ prog w A P s l) s := by
  obtain ⟨ps, hP, ht⟩ := W.tab
  have hfree : ∀ y ∈ scope.names, y.2 ≠ .free := fun y hy q => by
    have := List.all_eq_true.mp hnm y hy
    rw [q] at this; simp at this
  have hcell : ∀ y ∈ scope.names, y.2 ≠ .cell := fun y hy q => by
    have := List.all_eq_true.mp hnm y hy
    rw [q] at this; simp at this
  have hlt : a < s.heap.objs.size := by obtain ⟨_, e, _⟩ := hlist; exact Heap.lt_size e
  have hPlt : P < s.heap.objs.size := Heap.lt_size hP
  have hlP : a ≠ P := fun e => by
    obtain ⟨o, ho, hc, _⟩ := hlist
    rw [e, hP] at ho; cases ho; exact absurd hc (by simp)
  refine wpB_leaf (wpAny_GeneratorExp_walksQD hh hco (PySem.closureFor_none hfree) hcell h0 hx hkind hroom (hit ?_) hs)
  refine wpAny_pyIter_list hlist ⟨W.nolimit.push _, ?_⟩
  -- the iterator lies at the heap's end
  have hP1 : (s.heap.push { cls := .type "list_iterator", data := .fields #[.ref a, .int 0 0] }).get? P = some (codeTab ps) := Heap.get?_push_of_some _ hP
  have hchd : CodeHd (s.heap.push { cls := .type "list_iterator", data := .fields #[.ref a, .int 0 0] }) 103 P := W.chd.keeps fun b o e => Heap.get?_push_of_some _ e
  have hbat : (s.heap.push { cls := .type "list_iterator", data := .fields #[.ref a, .int 0 0] }).BuiltinsAt mg P := by
    obtain ⟨bm, ob, hbm, hne0, g1, hneP, hbo, hcls, hdict, hdata⟩ := W.bat
    exact ⟨bm, ob, hbm, hne0, g1, hneP, Heap.get?_push_of_some _ hbo, hcls, hdict, hdata⟩
  have hg : (s.heap.push { cls := .type "list_iterator", data := .fields #[.ref a, .int 0 0] }).Ns mainGlobals mg := W.g.push _
  have hgP : mainGlobals ≠ P := fun q => by
    obtain ⟨o, es, ep, e, hd, _⟩ := W.g
    rw [q, hP] at e; cases e; cases hd
  have hcP : cStatics ≠ P := fun e => by
    obtain ⟨_, hns, _⟩ := W.nolimit
    obtain ⟨o, es, ep, ho, hd, _⟩ := hns
    rw [e, hP] at ho; cases ho; cases hd
  have hlim := W.nolimit.push { cls := .type "list_iterator", data := .fields #[.ref a, .int 0 0] }
  have hsz : (s.heap.push { cls := .type "list_iterator", data := .fields #[.ref a, .int 0 0] }).objs.size = s.heap.objs.size + 1 := Heap.size_push ..
  have hitr : (s.heap.push { cls := .type "list_iterator", data := .fields #[.ref a, .int 0 0] }).IsListIter s.heap.objs.size a 0 := ⟨_, Heap.get?_push_size _ rfl, rfl, rfl⟩
  have hlst := hlist.push { cls := .type "list_iterator", data := .fields #[.ref a, .int 0 0] }
  have hkp : ∀ b o, s.heap.get? b = some o → (s.heap.push { cls := .type "list_iterator", data := .fields #[.ref a, .int 0 0] }).get? b = some o := fun b o e => Heap.get?_push_of_some _ e
  generalize s.heap.push { cls := .type "list_iterator", data := .fields #[.ref a, .int 0 0] } = H at *
  -- behind the code object
  have rest : ∀ (code : Value) (h₃ : Heap) (tk : Nat), Heap.ExtBut P H h₃ → H.objs.size ≤ h₃.objs.size → (∃ more, h₃.get? P = some (codeTab (ps ++ more)) ∧ TriplesOk (ps ++ more).toList) →
      wpAny (model prog w) A (builtinsFor env.globals env.builtins) (GenQ prog w A P s l elt x scope env code) (fun _ _ => False) { s with heap := h₃, toks := tk } := by
    intro code h₃ tk hx₃ hsz₃ htab
    refine nn fun no => ?_
    obtain ⟨bm, ob, hbm, hne0, g1, hneP, hbo, hcls, hdict, hdata⟩ := hbat
    refine no ?_
    rw [he.glob]
    refine wpAny_builtinsFor (hg.extBut hx₃ hgP) hbm hne0 (hx₃ _ _ hneP hbo) hcls hdict hdata ?_
    have hIs : s.heap.objs.size < h₃.objs.size := by rw [hsz] at hsz₃; (first | lia | omega)
    have hAs : a < h₃.objs.size := Nat.lt_trans hlt hIs
    have hPI : s.heap.objs.size ≠ P := Nat.ne_of_gt hPlt
    refine ⟨s.heap.objs.size, [s.heap.objs.size, a], [s.heap.objs.size], (strValues l).toArray.size, fun i v => (strValues l).toArray[i]? = some v, fun i h => h.IsListIter s.heap.objs.size a i ∧ h.IsList a (strValues l).toArray, fun _ => true, fun i y => ∃ p t, l[i]? = some p ∧ y = .str p.1 t, rfl,
      (fun A' hA => Walks.list hA _ _ (Nat.ne_of_lt hlt) _), ⟨hitr.at fun o e => hx₃ _ o hPI e, hlst.at fun o e => hx₃ _ o hlP e⟩, ?_, hlim.extBut hx₃ hcP, ?_, ?_, ?_⟩
    · intro b hb
      show b < h₃.objs.size
      rcases List.mem_cons.mp hb with rfl | hb
      · exact hIs
      · rw [List.mem_singleton] at hb; subst hb; exact hAs
    · intro hm
      have hc : cStatics < s.heap.objs.size := let ⟨_, hn, _⟩ := W.nolimit; hn.lt
      rw [List.mem_singleton] at hm
      exact absurd (hm ▸ hc) (Nat.lt_irrefl _)
    · intro href hk
      refine ⟨fun A' E' i v s₂ m₂ hA _ _ hv hn hm _ => wpAny_pure ⟨rfl, s₂.heap, s₂.toks, rfl, fun _ _ e => e⟩, fun A' E' i v s₂ m₂ hA _ _ hv _ hn hm _ => ?_⟩
      have hv' : (strValues l)[i]? = some v := by simpa using hv
      obtain ⟨p, hp, rfl⟩ : ∃ p, l[i]? = some p ∧ Value.str p.1 p.2 = v := by
        unfold strValues at hv'
        rw [List.getElem?_map] at hv'
        cases q : l[i]? with
        | none => rw [q] at hv'; cases hv'
        | some p => rw [q] at hv'; cases hv'; exact ⟨p, rfl, rfl⟩
      obtain ⟨n1, n2⟩ := hno p (List.mem_of_getElem? hp)
      exact wpAny_mono (elt_any (env := genEnv scope [] h₃.objs.size code _ env) helt (by simp [genEnv, hkind]) hx hn hm n1 n2) (fun r s' ⟨e, k⟩ => ⟨⟨p, p.2, hp, e⟩, k⟩) fun _ _ e => e
    · intro b h₅ tk₅ gs hgb hag hsz₅ hk₅ W₅ hat
      have hlen : (strValues l).toArray.size = l.length := by simp [strValues]
      rw [passing_all (Nat.zero_le _), List.drop_zero, List.length_range, hlen] at W₅
      rw [hlen] at hat
      refine ⟨b, _, _, _, _, rfl, ?_, W₅, hat, (fun i s' st => st.1.typeIs), ?_, List.mem_cons_self, ?_⟩
      · refine ⟨fun c o hc e => hk₅ c o (hx₃ c o hc (hkp c o e)), fun vs e tr => ?_, rfl, fun hb y hy => ?_⟩
        · have e' : s.heap.get? P = some (codeTab vs) := e
          rw [hP] at e'
          injection e' with e'
          injection e' with _ _ e'
          injection e' with e'
          subst e'
          obtain ⟨more, q1, q2⟩ := htab
          exact ⟨more, hk₅ _ _ q1, q2⟩
        · rcases Array.mem_push.mp hy with q | q
          · exact hb y q
          · rw [q]; exact hgb
      · intro c hc
        show c < h₅.objs.size
        rw [hsz₅]
        rcases List.mem_cons.mp hc with rfl | hc
        · exact Nat.lt_succ_self _
        · rcases List.mem_cons.mp hc with rfl | hc
          · exact Nat.lt_succ_of_lt hag
          · exact Nat.lt_succ_of_lt (Nat.lt_trans (List.mem_range.mp hc) hag)
      · intro c hc
        rcases List.mem_cons.mp hc with rfl | hc
        · show s.heap.objs.size ≤ h₃.objs.size
          (first | lia | omega)
        · rw [List.mem_singleton] at hc; subst hc; exact Nat.le_refl _
  cases hcd : codeAmong pos ps.toList with
  | some cv => exact wpAny_genexprCode_hit (he.code rfl) (hchd.code hP1 ht) hcd (rest cv H _ (Heap.ExtBut.refl _ _) (Nat.le_refl _) ⟨#[], by simpa using hP1, by simpa using ht⟩)
  | none =>
    refine wpAny_genexprCodeX (he.code rfl) (hchd.code hP1 ht) (hchd.tab hP1) hcd fun c' h' tk hx hge hlt' _ _ htb _ => ?_
    exact rest _ h' tk hx (Nat.le_trans hge (Nat.le_of_lt hlt')) ⟨_, htb.2, by rw [Array.toList_append]; exact TriplesOk_snoc _ _ _ _ ht⟩
end
theorem listOf_el {h : Heap} {γ : List Addr} {led : List PObj} {v : PV} {xs : List PV} {G : Value → Prop} (L : LedIs h γ led) (e : listOf led v = some xs) (H : ∀ a vs, h.PlainList a vs → IsAll h γ vs.toList xs → G (.ref a)) : ∀ u, Is h γ u v → G u :=
  fun _ hu => listOf_k L hu e fun a vs hp hx _ => H a vs hp hx
theorem sum_le : ∀ m : List Str, (∀ x ∈ m, x.length ≤ 64) → (m.map (·.length)).sum ≤ 64 * m.length
  | [], _ => Nat.le_refl _
  | x :: r, h => by
    have h1 := h x List.mem_cons_self
    have h2 := sum_le r fun z hz => h z (List.mem_cons_of_mem _ hz)
    rw [List.map_cons, List.sum_cons, List.length_cons]; (first | lia | omega)
theorem side_join {κ : Par} {ns : List (Str × NameKind)} {y : Nat} (ht : κ.tr = true) : ∀ e, joinF ns e (isVarNm y) = true → EvOk κ ns (.prim .joinEsc (.cons (.var y) .nil)) e ∧ Plain e := by
  refine onCall_el fun f es kw pos => ?_
  revert kw
  refine on0_el ?_
  revert f
  refine onAttribute_el fun b m apos => ?_
  revert b
  refine onConstant_el fun dd kd pd => ?_
  revert es
  refine on1_el fun g => ?_
  revert g
  refine onGeneratorExp_el fun elt gs scope gpos => ?_
  revert gs
  refine on1_el fun g => ?_
  obtain ⟨tg, it, ifs, k⟩ := g
  dsimp only
  revert tg
  refine onName_el fun x pxx => ?_
  revert ifs
  refine on0_el ?_
  revert k
  refine eq_el (and_el fun c1 => ?_)
  revert m
  refine eq_el (and_el fun c3 => and_el fun c4 => and_el fun c5 => and_el fun c6 => and_el fun c7 => and_el fun c8 => and_el fun c9 => ?_)
  revert it
  refine onName_el fun n px => ?_
  revert n
  refine eq_el fun hd => ?_
  refine isStrC_el (G := fun dd => EvOk κ ns (.prim .joinEsc (.cons (.var y) .nil)) (.Call (.Attribute (.Constant dd kd pd) "join" apos) [.GeneratorExp elt [⟨.Name x pxx, .Name (nm y) px, [], 0⟩] scope gpos] [] pos) ∧ Plain _) (fun dd c1 => ⟨fun {A env γ σ s K Q} c hz hQ => ?_, fun _ => rfl⟩) dd c1
  replace hd : (nm y == ("__debug__" : Str)) = false := by simpa using hd
  refine oW_el hz fun v hv hz => oW_el hz.k fun z hz kk => ?_
  obtain ⟨xs, hxs, hz⟩ := ob_inv (show (listOf σ.led v).bind _ = some z from hz)
  obtain ⟨ls, hls, hz⟩ := ob_inv hz
  obtain ⟨⟨hg1, hg2⟩, rfl⟩ := if_inv hz
  obtain ⟨u, hu, hev⟩ : ∃ u, Is s.heap γ u v ∧ ∀ {A : Around} {E : Value → Shared → Prop} {Q : Value → Shared → Prop} {t : Nat}, Q u { s with toks := t } → wpAny (model κ.prog κ.w) A (eval (.Name (nm y) px) env) Q E { s with toks := t } := by
    cases (c.rel.var y v hv).2 with
    | loc hk m u hn hm hu => exact ⟨u, hu, fun h => wpAny_Name (wpAny_loadName_local c.eo.kind hk hn hm h) hd⟩
    | cell hk c' u hc hcu hu => exact ⟨u, hu, fun h => wpAny_Name (wpAny_loadName_cell c.eo.kind hk hc hcu h) hd⟩
  revert u
  intro u hu
  refine listOf_el (G := fun u => (∀ {A : Around} {E : Value → Shared → Prop} {Q : Value → Shared → Prop} {t : Nat}, Q u { s with toks := t } → wpAny (model κ.prog κ.w) A (eval (.Name (nm y) px) env) Q E { s with toks := t }) → wpB _ _ _ _ _) c.rel.led hxs (fun a vs hp hx hev => ?_) u hu
  obtain ⟨l, hl, hll⟩ := texts_are hx hls
  have hvs : vs = (strValues l).toArray := by rw [← hl]
  subst hvs
  clear hu hx hz hls hxs hl
  have hall : ∀ p ∈ l, p.1.cps.toList.length ≤ 64 ∧ p.1.cps.toList.contains 92 = false ∧ p.1.cps.toList.contains 45 = false := by
    intro p hp'
    have hm : p.1.cps.toList ∈ ls := by rw [← hll]; exact List.mem_map_of_mem (f := fun p : Str × Tok => p.1.cps.toList) hp'
    have := List.all_eq_true.mp hg2 _ hm
    simp only [Bool.and_eq_true, Bool.not_eq_true', decide_eq_true_eq] at this
    exact ⟨this.1.1, this.1.2, this.2⟩
  have hlen : l.length ≤ 64 := by rw [← List.length_map (f := fun p : Str × Tok => p.1.cps.toList), hll]; exact hg1
  refine wpB_Call_method rfl rfl (show 1 < 20 by decide) c3 (wpB_leaf (Constant_str ?_))
  refine ⟨"str.join", ⟨⟨"str", typeIs_str _ _ _, F.plainAttrs_str, F.slot_str_join⟩, F.type_str_join, fun a h => by cases h⟩, ?_⟩
  rw [backTo_plain rfl]
  have W1 : Wd κ.ok κ.P κ.mg κ.mb ({ s with toks := s.toks + 1 } : Shared).heap := c.rel.wd
  refine wpB_spliced_cons (wpB_mono (gen_made (a := a) (l := l) c.room.handled (by have := c.room.depth; unfold recursionLimit; (first | lia | omega)) (ht ▸ c.eo) W1 (by simpa using c4) c5 (eq_of_beq c6) (eq_of_beq c7) (eq_of_beq c8) (fun _ => rfl) c9 (plain_isList hp) (fun h => hev h) fun p h => (hall p h).2) fun v s₁ hm => ?_)
  refine nn fun no => ?_
  obtain ⟨b, fp, wr, g, St, hvb, E₁, W, hst, hT, hfp, hb, hwr⟩ := hm
  refine no ?_
  subst hvb
  refine wpB_leaf (spliced_nil ?_)
  refine wpB_leaf (SC.joinGen W.in4_2 hT hst hfp hb (fun j v hv => let ⟨i, _, p, t, _, e⟩ := hv; ⟨_, _, e⟩) (fun s' lt hm hacc => ?_) (by rw [sizeLine_eq]; (first | lia | omega)))
  have hlt : lt.map (·.1) = l.map (·.1) := by
    apply List.ext_getElem?
    intro j
    have hsz : lt.length = l.length := by simpa [strValues] using hacc.1
    by_cases hj : j < l.length
    · have hj' : j < lt.length := hsz ▸ hj
      obtain ⟨i, hi, p, t, hp', hv⟩ := hacc.2 j (.str lt[j].1 lt[j].2) (by simp [strValues, List.getElem?_eq_getElem hj'])
      rw [List.getElem?_range hj] at hi
      cases hi
      injection hv with h1 _
      rw [List.getElem?_map, List.getElem?_map, List.getElem?_eq_getElem hj', hp']
      simp [h1]
    · rw [List.getElem?_eq_none (by simpa [hsz] using Nat.le_of_not_lt hj), List.getElem?_eq_none (by simpa using Nat.le_of_not_lt hj)]
  rw [hlt]
  refine ⟨?_, fun t' k => hQ _ _ _ kk ?_ (.str _ _ _ ?_)⟩
  · have hs := sum_le (l.map (·.1)) fun x hx' => by
      obtain ⟨p, hp', rfl⟩ := List.mem_map.mp hx'
      exact (hall p hp').1
    have dl : dd.length = 1 := cps_len c1
    unfold JoinOk
    rw [Bool.not_eq_true', StrLaws.joinTotal, dl, Nat.mul_one]
    unfold Builtin.Str.tooLong sizeLine
    refine decide_eq_false ?_
    rw [List.length_map] at hs ⊢
    (first | lia | omega)
  · have hPs : κ.P < s.heap.objs.size := by
      obtain ⟨ps, hP, _⟩ := c.tab
      exact Heap.lt_size hP
    have mv : ∀ b o, b < s.heap.objs.size → s₁.heap.get? b = some o → s'.heap.get? b = some o := fun b o hlt' e => hm.heap b o (fun q => absurd (hwr b q) (Nat.not_le_of_lt hlt')) e
    refine ⟨fun b o hb' e => mv b o (Heap.lt_size e) (E₁.keep b o hb' e), fun ws e tr => ?_, hm.os.trans E₁.os, fun gb => ?_⟩
    · obtain ⟨more, q1, q2⟩ := E₁.tab ws e tr
      exact ⟨more, mv κ.P _ hPs q1, q2⟩
    · exact hm.gens.bare (E₁.gens gb)
  · show (Builtin.Str.glued dd (l.map (·.1))).cps.toList = _
    rw [StrLaws.glued_eq_join, joinS_str c1, List.map_map, ← hll]; rfl
end Mine
namespace Mine
open _root_.PySem _root_.PySem.Calls _root_.PySem.W _root_.PyProof.Rows

noncomputable def FF : Forms := ⟨subF, joinF⟩
section
variable {prog : Program} {w : World} {P : Addr} {mg mb : Str → Option Value}
theorem side_all (tr : Bool) (C : Orac) (d : Nat) (h : CallSpec prog w (chkF FF) P mg mb C d) : Side ⟨prog, w, chkF FF, P, mg, mb, C, d, FF, tr⟩ where
  cal := h
  fn := fun hp hr W L hx e => side_fn hp hr.handled W.tab L hx e
  isa := fun hp _ _ _ hx e => side_isa hp hx e
  meth := fun hp hr W L ho => let ⟨id, m, c⟩ := side_meth hp hr ho; ⟨id, m, fun hr E hx e => c E hx e⟩
  transl := fun W ho e => let ⟨id, mv, h1, h2, h3⟩ := side_transl W ho e; ⟨id, mv, h1, h2, fun hr => h3 hr.handled⟩
  sub := fun ht hf ha => side_sub ht ha _ hf
  join := fun ht hf => side_join ht _ hf
theorem call_all : ∀ n : Nat, CallSpec prog w (chkF FF) P mg mb (orac n) n := call_ok side_all fun _ _ _ => side2 _
end
end Mine
namespace Mine
open _root_.PySem _root_.PySem.Spec _root_.PySem.Calls _root_.PySem.W _root_.PyProof.Rows

/-! ### From what stands at the head -/
noncomputable def allFn : List Fn := [.T, .gen1, .adapt, .gens, .dec1, .isort, .pdec, .escape, .transl, .members, .dressed, .bracket, .takes, .allTake, .inside, .octet, .first, .next, .laid, .law]
theorem mem_allFn (f : Fn) : f ∈ allFn := by cases f <;> decide
/-- what a name of the main module holds, if its dict's keys are all of values -/
noncomputable def nameIn (h : Heap) (n : Str) : Option (Option Value) := match h.get? mainGlobals with
  | some ⟨_, _, .dict es _, _⟩ => (match es.toList.find? (·.key.isStr n) with
      | some e => some (some e.val)
      | none => if es.toList.any (·.refKey) then none else some none)
  | _ => none
noncomputable def isRefAt (h : Heap) (n : Str) (a : Addr) : Bool := match nameIn h n with
  | some (some (.ref b)) => b == a
  | _ => false
noncomputable def isNoAt (h : Heap) (n : Str) : Bool := match nameIn h n with
  | some none => true
  | _ => false
noncomputable def digAt (h : Heap) : Bool := match nameIn h "digits" with
  | some (some (.bytes arr _)) => arr.toList.map UInt8.toNat == digitsB
  | _ => false
noncomputable def codeOf (h : Heap) (a : Addr) : Option Addr := match h.get? a with
  | some ⟨_, _, .func fd, _⟩ => (match fd.code with
    | .ref c => some c
    | _ => none)
  | _ => none
noncomputable def mapAt (h : Heap) : Bool := match h.get? 87 with
  | some ⟨.type "dict", none, .dict es _, sl⟩ => sl.size == 0 && (es.all (fun e => match e.key with
      | .int k _ => e.hash == hashInt k
      | _ => false) && (List.range 128).all fun c => match findBy Value.isInt es (c : Int) with
        | some (.str s _) => specials.contains c && s.cps == #[92, c]
        | some _ => false
        | none => !specials.contains c)
  | _ => false
noncomputable def patAt (h : Heap) : Bool := (match h.get? 85 with
  | some ⟨.type "re.Pattern", none, .fields vs, _⟩ => (match vs.getD 5 .none with
      | .ref a => a == 84
      | _ => false) && Builtin.Re.reRawNat (vs.getD 6 .none) == 0 && Builtin.Re.reRawNat (vs.getD 2 .none) == 1
  | _ => false) && (match h.get? 84 with
  | some ⟨.type "tuple", _, .seq vs _, _⟩ => (vs.map Builtin.Re.reRawOf).map Int.toNat == sreW
  | _ => false)
noncomputable def wdK (h : Heap) : Bool := allFn.all (fun f => isRefAt h (fname f) (faddr f)) && biNames.all (isNoAt h) && digAt h && isRefAt h "_special_chars_map" 87 && isRefAt h "_twin_re_1" 85 && mapAt h && patAt h && codeOf h 104 == some 103
noncomputable def wdR (recs : List DefRec) : Bool := allFn.all fun f => recs.any fun d => d.name == fname f && chkF FF f d
/-- the observation: a look at the heap that the top leaves; what it says stays where the heap is only added to -/
noncomputable def lookHook : Hook where
  α := Bool
  obs := fun s => wdK s.heap
  val := fun _ => true
  says := fun _ h => ∃ h₀ : Heap, wdK h₀ = true ∧ ∀ b o, h₀.get? b = some o → h.get? b = some o
  of := fun _ s e => ⟨s.heap, e, fun _ _ e => e⟩
  keeps := fun _ _ _ ⟨h₀, e, k⟩ k' => ⟨h₀, e, fun b o x => k' b o (k b o x)⟩

section
variable {K : Heap} {p : Program} {loose : List Str} {mean : ExcName → Option Value} {mg mb : Str → Option Value} {h : Heap}
set_option tactic.hygienic true in
theorem nameIn_some (X : ∀ b o, K.get? b = some o → h.get? b = some o) (G : h.Ns mainGlobals mg) {n : Str} {v : Value} (e : nameIn K n = some (some v)) : mg n = some v := by
  obtain ⟨o, es, ep, ho, hd, _, hf⟩ := G
  unfold nameIn at e
  split at e
  · rename_i q
    have := X _ _ q
    rw [ho] at this
    cases this
    cases hd
    split at e
    · rename_i en he
      cases e
      rw [← hf]
      unfold nsFind findBy
      rw [← Array.find?_toList, he]
      rfl
    · split at e <;> cases e
  · cases e
set_option tactic.hygienic true in
theorem nameIn_none (X : ∀ b o, K.get? b = some o → h.get? b = some o) (G : h.Ns mainGlobals mg) {n : Str} (e : nameIn K n = some none) : mg n = none := by
  obtain ⟨o, es, ep, ho, hd, _, hf⟩ := G
  unfold nameIn at e
  split at e
  · rename_i q
    have := X _ _ q
    rw [ho] at this
    cases this
    cases hd
    split at e
    · cases e
    · rename_i he
      rw [← hf]
      unfold nsFind findBy
      rw [← Array.find?_toList, he]
      rfl
  · cases e
set_option tactic.hygienic true in
theorem isRefAt_ok (X : ∀ b o, K.get? b = some o → h.get? b = some o) (G : h.Ns mainGlobals mg) {n : Str} {a : Addr} (e : isRefAt K n a = true) : mg n = some (.ref a) := by
  unfold isRefAt at e
  split at e
  · rename_i b hb
    have := eq_of_beq e; subst this
    exact nameIn_some X G hb
  · cases e
set_option tactic.hygienic true in
theorem isNoAt_ok (X : ∀ b o, K.get? b = some o → h.get? b = some o) (G : h.Ns mainGlobals mg) {n : Str} (e : isNoAt K n = true) : mg n = none := by
  unfold isNoAt at e
  split at e
  · rename_i hb; exact nameIn_none X G hb
  · cases e
set_option tactic.hygienic true in
theorem mapAt_ok (X : ∀ b o, K.get? b = some o → h.get? b = some o) (e : mapAt K = true) : MapIs h 87 := by
  unfold mapAt at e
  split at e
  · rename_i es ep sl hk
    rw [Bool.and_eq_true, Bool.and_eq_true] at e
    obtain ⟨e0, e⟩ := e
    have e0 : sl = #[] := Array.eq_empty_of_size_eq_zero (eq_of_beq e0)
    subst e0
    refine ⟨_, es, ep, X _ _ hk, ⟨rfl, rfl, rfl⟩, rfl, fun en hen => ?_, fun c hc => ?_⟩
    · have := Array.all_eq_true'.mp e.1 en hen
      split at this
      · rename_i k t hkey
        exact ⟨k, by rw [hkey]; simp [Value.isInt], eq_of_beq this⟩
      · cases this
    · have := List.all_eq_true.mp e.2 c (List.mem_range.mpr hc)
      revert this
      cases findBy Value.isInt es (c : Int) with
      | none => intro this; simpa using this
      | some v =>
        cases v <;> simp only [Bool.false_eq_true, false_implies, Bool.and_eq_true]
        rename_i s t
        intro ⟨h1, h2⟩
        have h2 := eq_of_beq h2
        exact ⟨h1, t, by obtain ⟨cp⟩ := s; simp only at h2; rw [h2]⟩
  · cases e
set_option tactic.hygienic true in
theorem patAt_ok (X : ∀ b o, K.get? b = some o → h.get? b = some o) (e : patAt K = true) : PatIs h := by
  unfold patAt at e
  rw [Bool.and_eq_true] at e
  obtain ⟨e1, e2⟩ := e
  constructor
  · split at e1
    · rename_i vs sl hk
      simp only [Bool.and_eq_true] at e1
      obtain ⟨⟨a1, a2⟩, a3⟩ := e1
      refine ⟨_, vs, X _ _ hk, rfl, rfl, rfl, ?_, eq_of_beq a2, eq_of_beq a3⟩
      split at a1
      · rename_i a ha
        rw [ha, eq_of_beq a1]
      · cases a1
    · cases e1
  · split at e2
    · rename_i vs n sl hk
      exact ⟨_, vs, n, X _ _ hk, rfl, rfl, eq_of_beq e2⟩
    · cases e2
set_option tactic.hygienic true in
theorem wd_of (X : ∀ b o, K.get? b = some o → h.get? b = some o) (T : Top p loose mean mg mb h) (ek : wdK K = true) (er : wdR (recsOf p) = true) : mg (fname .law) = some (.ref 173) ∧ ∃ P, Wd (chkF FF) P mg mb h ∧ isCodeTable h P ∧ h.get? P = some (codeTab #[]) := by
  unfold wdK at ek
  simp only [Bool.and_eq_true] at ek
  obtain ⟨⟨⟨⟨⟨⟨⟨k1, k2⟩, k3⟩, k4⟩, k5⟩, k6⟩, k7⟩, k8⟩ := ek
  have gl : ∀ f, mg (fname f) = some (.ref (faddr f)) := fun f => isRefAt_ok X T.g (List.all_eq_true.mp k1 f (mem_allFn f))
  have rec_ : ∀ f, ∃ d ∈ recsOf p, d.name = fname f ∧ chkF FF f d = true := fun f => by
    have := List.all_eq_true.mp er f (mem_allFn f)
    obtain ⟨d, hd, hh⟩ := List.any_eq_true.mp this
    rw [Bool.and_eq_true] at hh
    exact ⟨d, hd, eq_of_beq hh.1, hh.2⟩
  -- the code tables
  have tabs : ∀ f, ∃ o fd c P, h.get? (faddr f) = some o ∧ o.data = .func fd ∧ fd.code = .ref c ∧ h.IsCode c P #[] ∧ h.TableAt c P #[] := fun f => by
    obtain ⟨d, hd, hn, _⟩ := rec_ f
    obtain ⟨a, o, fd, c, P, h1, h2, h3, h4, h5, h6⟩ := T.tab d hd
    rw [hn, gl f] at h1
    cases h1
    exact ⟨o, fd, c, P, h2, h3, h4, h5, h6⟩
  have t103 : ∀ {o : Obj} {fd : FuncData} {c : Addr}, h.get? 104 = some o → o.data = .func fd → fd.code = .ref c → c = 103 := fun {o fd c} h1 h2 h3 => by
    have k8 := eq_of_beq k8
    unfold codeOf at k8
    split at k8
    · rename_i c1 d1 fd' sl hk
      have := X _ _ hk
      rw [h1] at this
      cases this
      cases h2
      rw [h3] at k8
      simpa using k8
    · cases k8
  obtain ⟨o, fd, c, P, q1, q2, q3, q4, q5⟩ := tabs .transl
  have hc := t103 q1 q2 q3
  subst hc
  have hP : h.get? P = some (codeTab #[]) := q5.2
  refine ⟨gl .law, P, ⟨T.g, T.b, T.nolimit, ⟨#[], hP, trivial⟩, gl, fun f => ?_, fun x hx => ⟨isNoAt_ok X T.g (List.all_eq_true.mp k2 x hx), T.builtins x ?_⟩, ?_, isRefAt_ok X T.g k4, mapAt_ok X k6, isRefAt_ok X T.g k5, patAt_ok X k7, CodeHd.of q4 q5, ?_⟩, q5.isCodeTable, hP⟩
  · obtain ⟨d, hd, hn, hch⟩ := rec_ f
    obtain ⟨a, o, pm, code, doc, h1, h2, h3, h4⟩ := T.fn d hd
    rw [hn, gl f] at h1
    cases h1
    obtain ⟨o', fd', c', P', g1, g2, g3, _, g5⟩ := tabs f
    rw [h2] at g1; cases g1
    rw [h3] at g2; cases g2
    have g3 : code = .ref c' := g3
    subst g3
    obtain ⟨c2, oc, vs, t, hcq, hgo, hdt, hv1⟩ := h4
    cases hcq
    obtain ⟨⟨oc', vs', w1, w2, w3, w4⟩, _⟩ := g5
    rw [hgo] at w1; cases w1
    exact ⟨o, pm, c', doc, d, oc, vs, t, h2, h3, hgo, w2, hdt, hv1, hch, fun hf => by subst hf; exact t103 h2 h3 rfl⟩
  · intro e
    subst e
    revert hx; decide
  · unfold digAt at k3
    split at k3
    · rename_i arr t hb
      exact ⟨arr, t, nameIn_some X T.g hb, eq_of_beq k3⟩
    · cases k3
  · obtain ⟨bm, ob, b1, b2, b3, b4, b5, b6⟩ := T.bmain
    refine ⟨bm, ob, b1, b2, fun q => ?_, fun q => ?_, b3, b4, b5, b6⟩
    · obtain ⟨og, es, ep, e1, e2, _⟩ := T.g
      rw [q, e1] at b3; cases b3
      rw [e2] at b6; cases b6
    · rw [q, hP] at b3; cases b3
      cases b4
theorem ints_is {h : Heap} {γ : List Addr} : ∀ {vs : List Value} {ns : List Int}, IntsAre vs ns → IsAll h γ vs (ns.map .int)
  | _, _, .nil => .nil
  | _, _, .cons n t r => .cons (.int n t) (ints_is r)
theorem ints_frozen (ns : List Int) : (ns.map PV.int).all frozen = true := by
  rw [List.all_map]
  exact List.all_eq_true.mpr fun _ _ => rfl
theorem end_all {prog : Program} {w : World} {R : WRecords} {s₀ s₁ : Shared} {c : ClaimW} {cl : Str → Option Addr} {mean' : ExcName → Option Value} {ns : List Int} {vs : List Value} {as : List Addr} {args : List WData} {fa a : Addr}
    (Y : lookHook.says w s₁.heap) (T : Top p loose mean mg mb s₁.heap) (er : wdR (recsOf p) = true) (hmg : mg (fname .law) = some (.ref fa)) (L : Laid R w s₀ s₁ [ofPy (PyData.list (ns.map PyData.int))] [.ref a] as)
    (hl : s₁.heap.IsList a vs.toArray) (hi : IntsAre vs ns) (hns : ns.length ≤ 63) (hg : s₁.gens = #[]) (hr : ∀ cls, c.raises args cls = false) (hp : c.post args (.bool true) args = true) :
    wpB (model prog w) callerA (call (.ref fa) [.ref a]) (fun v s' => GoodWG c cl mean' args s₁ (.ok (.ret v)) s') s₁ := by
  obtain ⟨K, ek, X⟩ := Y
  obtain ⟨hlaw, P, W, hct, hP⟩ := wd_of X T ek er
  rw [hlaw] at hmg
  cases hmg
  have hnew : ∀ o, s₀.heap.get? a = some o → False := by
    intro o e
    obtain ⟨ord, _, hlay⟩ := L.laid
    obtain ⟨x, q, hx, hq, e2⟩ := layAllW_cons hlay
    have hnil : layAllW R (classAt s₀.heap) w.params ord [] x.2 = some q := hq
    rw [layAllW] at hnil
    cases hnil
    injection e2 with e3 e4
    injection e3 with e5 _
    have hx' : layW R (classAt s₀.heap) w.params ord (.list (ofPys (ns.map PyData.int))) s₀ = some x := hx
    obtain ⟨z, hz, rfl⟩ := layW_list hx'
    have hgr := layAllW_keeps _ _ _ hz a o e
    injection e5 with e5
    rw [e5] at hgr
    exact absurd (Heap.lt_size hgr) (Nat.lt_irrefl _)
  have hpl : s₁.heap.PlainList a vs.toArray := by
    obtain ⟨o, ho, hc, n, hd⟩ := hl
    obtain ⟨ord, _, hlay⟩ := L.laid
    rcases layAllW_plain _ _ _ hlay a o ho with q | q
    · exact (hnew o q).elim
    · exact ⟨0, by rw [ho, q _ _ hc hd]⟩
  have hx : IsAll s₁.heap [] [Value.ref a] [.list (ns.map .int)] := .cons (.list a vs.toArray _ (by simp) hpl (ints_is hi) (ints_frozen ns)) .nil
  have hroom : Room 6 callerA := ⟨rfl, by decide, by decide⟩
  refine call_all 6 (f := .law) (xs := [.list (ns.map .int)]) (K := fun z => z = .bool true) hroom W hx (or_law hns rfl) fun v s' z hz E hv => ?_
  subst hz
  cases hv
  have hold : OldK s₁.heap s'.heap := by
    refine ⟨fun b o e => ?_, fun b o e => ?_⟩
    · by_cases hb : b = P
      · subst hb
        rw [hP] at e; cases e
        obtain ⟨more, q, _⟩ := E.tab _ hP trivial
        exact .inr (.inl ⟨hct, rfl, #[], more, rfl, q⟩)
      · exact .inl (E.keep b o hb e)
    · by_cases hb : b = P
      · subst hb
        rw [hP] at e; cases e
        obtain ⟨more, q, _⟩ := E.tab _ hP trivial
        exact ⟨_, q⟩
      · exact ⟨o, E.keep b o hb e⟩
  exact ⟨.inl ⟨_, _, [], rfl, hr, ReadsW.bool true, hp, fun _ => ⟨List.nodup_nil, fun _ hm => (nomatch hm)⟩⟩, hold, E.os, E.gens (by rw [hg]; exact AllBare.empty)⟩
end
end Mine
namespace Mine
open _root_.PySem _root_.PySem.W PyProof.Rows
/-- the text without its names' settings: what stays to be seen of it -/
noncomputable def viewQ (p : Program) : Program := { p with main := { p.main with body := [0, 2, 3, 4, 5, 6, 7, 8, 9, 10, 12, 13, 15, 17, 18, 19, 20, 21, 22, 23, 24, 25, 26, 27].filterMap fun i => p.main.body[i]? } }
noncomputable abbrev Qp : Program := viewQ PySem.Challenge.pw_ij0111_01
theorem law_name : fname .law = ("law" : Str) := by decide +kernel
theorem recs_ok : wdR (recsOf Qp) = true := by decide +kernel
theorem rows4 (P : World → Prop) (a : ∀ w : World, P ((w.withFollow "special-get-raises" false).withFollow "comprehension-iter-twice" false)) (b : ∀ w : World, P ((w.withFollow "special-get-raises" true).withFollow "comprehension-iter-twice" false))
    (c : ∀ w : World, P ((w.withFollow "special-get-raises" false).withFollow "comprehension-iter-twice" true)) (d : ∀ w : World, P ((w.withFollow "special-get-raises" true).withFollow "comprehension-iter-twice" true)) : ∀ w, P w :=
  byRow2 "comprehension-iter-twice" (byRow2 "special-get-raises" (P := fun w => P (w.withFollow "comprehension-iter-twice" false)) a b) (byRow2 "special-get-raises" (P := fun w => P (w.withFollow "comprehension-iter-twice" true)) c d)
noncomputable abbrev rowR : OpenRow := PySem.Challenge.rw_ij0111_01.row
noncomputable abbrev looseQ : List Str := ["_twin_re_1", "_special_chars_map"]
noncomputable abbrev seenQ (s : Shared) : Bool := xlAt Qp [] s && recOk (RowW.records (OpenRow.toRowW rowR)) s
noncomputable def HeadEq (w : World) : Prop := (openEnds treeTable rowR.prog w 4156).map (fun s => (openSeen Qp looseQ (importedModules rowR.prog.main.body) seenQ true s, lookHook.obs s)) = some (openGood Qp looseQ, lookHook.val w)
theorem left1 (w : World) : HeadEq ((w.withFollow "special-get-raises" false).withFollow "comprehension-iter-twice" false) := by unfold HeadEq; kernel_rfl
theorem left2 (w : World) : HeadEq ((w.withFollow "special-get-raises" true).withFollow "comprehension-iter-twice" false) := by unfold HeadEq; kernel_rfl
theorem left3 (w : World) : HeadEq ((w.withFollow "special-get-raises" false).withFollow "comprehension-iter-twice" true) := by unfold HeadEq; kernel_rfl
theorem left4 (w : World) : HeadEq ((w.withFollow "special-get-raises" true).withFollow "comprehension-iter-twice" true) := by unfold HeadEq; kernel_rfl
end Mine
set_option maxHeartbeats 0 in
open Mine PySem PySem.W PyProof.Rows in
theorem Mine.law_holds : PySem.Challenge.rw_ij0111_01.Holds := by
  w_on; refine holds_law (by decide +kernel) fun said => ?_
  refine Mine.PySem.W.holds_open (q := Qp) (loose := looseQ) (Xt := seenQ) (XP := XL Qp []) (Yf := lookHook.obs) (Ya := lookHook.val) (YP := lookHook.says) (N := 4156) ?hl lookHook.of lookHook.keeps
    (fun s e => xl_of s (Bool.and_eq_true_iff.mp e).1) XL.keeps (by rfl) (by rfl) (by rfl) (fun s e => recFacts_of (Bool.and_eq_true_iff.mp e).2) (by rfl) (by first | assumption | decide +kernel) (by decide +kernel) ⟨rfl, rfl, rfl, rfl, rfl, by decide +kernel⟩ ?hw ?hc
  case hw => w_witness2
  case hl =>
    exact rows4 HeadEq left1 left2 left3 left4
  case hc =>
    intro w s₀ s₁ mg mb G Y fa o pm cd doc dV kV ho hd hcd hD hmg hg args vals as L hpre hlay hrd hwl hlo
    refine Ground.open G ?_
    intro T B D TE TW
    wrow_args hpre hlay hrd hwl hlo
    refine end_all Y T recs_ok (by rw [law_name]; exact hmg) L (by assumption) (by assumption) (by omega) hg (fun _ => rfl) (by first | rfl | wrow_post)

theorem PySem.Challenge.cw_ij0111_01_holds : PySem.Challenge.rw_ij0111_01.Holds := by
  exact Mine.law_holds
