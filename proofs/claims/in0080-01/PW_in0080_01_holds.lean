import PyProof.Rows.All
import Wide.All
import OpenK.AllK
import Wide.FinOn
import KE.KNestM
import KE.TopReadKeeps
import KE.RegLGe
import PyProof.Rows.GenRowsF
import KE.KTryDeep
import KE.KStopIter
import KE.KOwnIter
import KE.LcTurns
import KE.KCompText
import KE.KBytesWalk
import PyProof.IsiH_list
import PyProof.AttrMissHeap
import KE.KLam
import PyProof.FactsAll.str_8
import PyProof.DictTable
import KE.KCompIf
import KE.KRevSl
import PyProof.ListNew
import KE.BytesMake
import KE.BytesK
import KE.KSliceW
import KE.KIntText
import PyProof.InstFacts
import KE.KLcTest
import KE.KEqDat
import KE.LcSums
import PySem.Challenge.RW_in0080_01
set_option Elab.async false
set_option maxRecDepth 100000
set_option maxHeartbeats 0
set_option linter.all false
open PySem PySem.W PySem.Calls PyProof.Rows
theorem Mine.dps : (∀ (A : Around) (C : Addr) (vals : List Value), (A.under (.builtin "type.__call__" ⟨.ref C :: vals, []⟩)).depth = A.depth + 1) ∧ (∀ (A : Around) (C : Addr) (vals : List Value) (kw : List (Str × Value)), (A.under (.builtin "type.__call__" ⟨.ref C :: vals, kw⟩)).depth = A.depth + 1) ∧ (∀ A : Around, A.in1.depth = A.depth) ∧ (∀ (A : Around) (env : Env), (A.deeper env).depth = A.depth + 1) ∧ callerA.depth = 301 := ⟨depth_under_make, depth_under_kw, depth_in1, depth_deeper, depth_caller⟩
local macro_rules | `(tactic| k_extra "p") => `(tactic| (first | ((iterate 7 (try first | assumption | apply And.right)); done) | (apply And.left; (iterate 7 (try first | assumption | apply And.right)); done)))
local macro_rules | `(tactic| k_ne) => `(tactic| (apply neN; (try dsimp only); with_reducible first | k_extra "p" | (apply Ne.symm; k_extra "p") | (apply Nat.ne_of_lt; k_extra "p") | (apply Nat.ne_of_gt; k_extra "p")))
local macro_rules | `(tactic| k_room) => `(tactic| ((try simp only [Mine.dps]); omega))
section

namespace Mine
noncomputable def cleanCode : Code → Bool
  | .builtin id _ => !Builtin.Bytes.decodersThatHold.contains id && !["bytearray.__contains__", "bytearray.__mod__", "bytearray.__rmod__", "_struct.pack_into.held", "bytearray.find.held"].contains id
  | _ => true
noncomputable def Clean (Γ : Ctx) : Prop := cleanCode Γ.code = true ∧ ∀ x ∈ Γ.below, cleanCode x.1 = true
noncomputable def wpC {α : Type} (M : Model) (A : Around) (t : Sem α) (Q : α → Shared → Prop) (E : Value → Shared → Prop) (s : Shared) : Prop :=
  ∀ Γ p, Γ.In A → Clean Γ → Sem.wp M Γ t (fun a _ s' => Q a s') (fun e _ s' => E e s') p s
noncomputable def codeC (M : Model) (A : Around) (c : Code) (R : Result → Shared → Prop) (s : Shared) : Prop :=
  ∀ Γ p, Γ.code = c → Γ.Below A → Clean Γ → wpCode M Γ R p s
section
variable {α β : Type} {M : Model} {A : Around} {E : Value → Shared → Prop} {s : Shared}
theorem wpC_of {t : Sem α} {Q : α → Shared → Prop} (h : wpAny M A t Q E s) : wpC M A t Q E s := fun Γ p hΓ _ => h Γ p hΓ
theorem codeC_of {c : Code} {R : Result → Shared → Prop} (h : codeAny M A c R s) : codeC M A c R s := fun Γ p hc hΓ _ => h Γ p hc hΓ
theorem wpC_mono {t : Sem α} {Q Q' : α → Shared → Prop} {E' : Value → Shared → Prop} (h : wpC M A t Q E s) (hQ : ∀ a s, Q a s → Q' a s) (hE : ∀ e s, E e s → E' e s) : wpC M A t Q' E' s :=
  fun Γ p hΓ hc => Sem.wp_mono M Γ t (fun a _ s => hQ a s) (fun e _ s => hE e s) p s (h Γ p hΓ hc)
theorem wpC_bind {m : Sem α} {f : α → Sem β} {Q : β → Shared → Prop} (h : wpC M A m (fun a s' => wpC M A (f a) Q E s') E s) : wpC M A (m >>= f) Q E s := fun Γ p hΓ hc => by
  rw [Sem.wp_bind']
  exact Sem.wp_mono M Γ m (fun a p' s' h' => h' Γ p' hΓ hc) (fun _ _ _ h' => h') p s (h Γ p hΓ hc)
theorem wpC_onRaise {m : Sem α} {k : Value → Sem Unit} {Q : α → Shared → Prop} (h : wpC M A m Q (fun e s' => wpC M A (k e) (fun _ s'' => E e s'') E s') s) : wpC M A (m.onRaise k) Q E s := fun Γ p hΓ hc => by
  rw [Sem.wp_onRaise]
  exact Sem.wp_mono M Γ m (fun _ _ _ h' => h') (fun e p' s' h' => h' Γ p' hΓ hc) p s (h Γ p hΓ hc)
theorem wpC_holding {vs : List Value} {m : Sem α} {Q : α → Shared → Prop} (h : wpC M A m Q E s) : wpC M A (holding vs m) Q E s := fun Γ p hΓ hc => by rw [Sem.wp_holding]; exact h Γ p hΓ hc
theorem wpC_map {m : Sem α} {f : α → β} {Q : β → Shared → Prop} (h : wpC M A m (fun a s' => Q (f a) s') E s) : wpC M A (f <$> m) Q E s := fun Γ p hΓ hc => by rw [Sem.wp_map]; exact h Γ p hΓ hc
theorem Clean.enter {Γ : Ctx} (h : Clean Γ) {c : Code} (hc : cleanCode c = true) (hd : Option Value) (p : Pos) : Clean (Γ.enter c hd p) := by
  refine ⟨hc, fun x hx => ?_⟩
  rcases List.mem_cons.mp (show x ∈ (Γ.code, p) :: Γ.below from hx) with rfl | hx
  · exact h.1
  · exact h.2 x hx
theorem wpC_run {c : Code} {h : Option Value} {Q : Flow → Shared → Prop} (hk : cleanCode c = true)
    (hc : codeC M (A.mark h) c (fun r s' => match r with | .ok f => Q f s' | .error e => E e s') s) (hnb : h ≠ some byPass) : wpC M A (run c h) Q E s :=
  fun Γ p hΓ hcl => by rw [Sem.wp_run]; exact hc _ p rfl (hΓ.enter c h p hnb) (hcl.enter hk h p)
theorem wpC_runValue {c : Code} {Q : Value → Shared → Prop} (hk : cleanCode c = true)
    (hc : codeC M A c (fun r s' => match r with | .ok (.ret v) => Q v s' | .ok _ => False | .error e => E e s') s) : wpC M A (runValue c) Q E s :=
  fun Γ p hΓ hcl => by rw [Sem.wp_runValue]; exact hc _ p rfl (hΓ.enter c none p (by intro x; cases x)) (hcl.enter hk none p)
theorem wpC_call {f : Value} {pos : List Value} {kw : List (Str × Value)} {Q : Value → Shared → Prop}
    (hc : codeC M A (.call f ⟨pos, kw⟩) (fun r s' => match r with | .ok (.ret v) => Q v s' | .ok _ => False | .error e => E e s') s) : wpC M A (call f pos kw) Q E s := wpC_runValue rfl hc
theorem codeC_of_tree {c : Code} {R : Result → Shared → Prop}
    (h : wpC M (A.under c) (M.den c) (fun fin s' => match fin with | .done f => R (.ok f) s' | .again c' => c'.quiet = true ∧ cleanCode c' = true ∧ codeC M A c' R s')
      (fun e s' => R (.error e) s') s) : codeC M A c R s := fun Γ p hc hΓ hcl => by
  rw [wpCode_iff_wp, hc]
  refine Sem.wp_mono M Γ _ (fun fin p' s' h' => ?_) (fun _ _ _ h' => h') p s (h Γ p (hc ▸ hΓ.in) hcl)
  cases fin with
  | done f => exact h'
  | again c' => exact ⟨h'.1, h'.2.2 (Γ.goto c') p' rfl (hΓ.goto c') ⟨h'.2.1, hcl.2⟩⟩
theorem codeC_loop {c : Code} {R : Result → Shared → Prop} (hq : c.quiet = true) (hk : cleanCode c = true) (I : Nat → Shared → Prop)
    (turn : ∀ n s, I n s → wpC M (A.under c) (M.den c)
      (fun fin s' => match fin with
        | .done f => R (.ok f) s'
        | .again c' => (c' = c ∧ ∃ m, m < n ∧ I m s') ∨ (c'.quiet = true ∧ cleanCode c' = true ∧ codeC M A c' R s')) (fun e s' => R (.error e) s') s)
    (n : Nat) (h : I n s) : codeC M A c R s := by
  induction n using Nat.strongRecOn generalizing s with
  | ind n ih =>
    refine codeC_of_tree (wpC_mono (turn n s h) (fun fin s' hf => ?_) fun _ _ h' => h')
    cases fin with
    | done f => exact hf
    | again c' =>
      rcases hf with ⟨rfl, m, hm, hI⟩ | hf
      · exact ⟨hq, hk, ih m hm hI⟩
      · exact hf
theorem wp_of_wpC_done {Γ : Ctx} {t : Sem Fin} {R : Result → Shared → Prop} (hin : Γ.In A) (hcl : Clean Γ)
    (h : wpC M A t (fun fin s' => ∃ f, fin = .done f ∧ R (.ok f) s') (fun e s' => R (.error e) s') s) (p : Pos) :
    Sem.wp M Γ t (Sem.finPost M Γ R) (fun e _ s' => R (.error e) s') p s := by
  refine Sem.wp_mono M Γ t (fun fin p' s' h' => ?_) (fun _ _ _ h' => h') p s (h Γ p hin hcl)
  obtain ⟨f, rfl, hf⟩ := h'
  exact hf
end
theorem caller_clean : Clean (⟨.builtin "claim.caller" {}, none, none, [], none⟩ : Ctx) := ⟨by decide +kernel, fun _ h => nomatch h⟩
theorem thread_ends_C {prog : Program} {w : World} {t : Sem Fin} {s : Shared} {R : Result → Shared → Prop} (hreg : s.asleep)
    (h : wpC (model prog w) callerA t (fun fin s' => ∃ f, fin = .done f ∧ (R (.ok f) s' ∧ leftWithCleanup s'.gens = false)) (fun e s' => R (.error e) s' ∧ leftWithCleanup s'.gens = false) s) :
    ∃ n r s' s'', runN (denote table) prog w n s ⟨t, .builtin "claim.caller" {}, default, []⟩ = .halted (outcomeOf r) s' ∧
      schedN (denote table) prog w n (.single s ⟨t, .builtin "claim.caller" {}, default, []⟩) = .halted (outcomeOf r) s' ∧ s'.forget = s''.forget ∧ R r s'' := by
  obtain ⟨n, r, s₁, s₂, hs, hn, hfo, hR⟩ := wp_halts_full (M := model prog w) (R := R) hreg (wp_of_wpC_done (R := fun r s' => R r s' ∧ leftWithCleanup s'.gens = false) caller_in caller_clean h default)
  exact ⟨n, r, s₂, s₁, hn, hs, hfo, hR⟩
end Mine
end
section

namespace Mine
theorem callFrom_C {c : ClaimW} {tree : List Value → Sem Fin} {w : World} {s : Shared} {free : Addr → Prop} {gens : Prop} {kept : Heap → Prop} (hz : s.asleep) (hgens : s.gens = #[])
    (hspec : ∀ args, c.pre args = true → WData.layableAll args = true → ∀ ord : List DictEntry → List DictEntry, (∀ l, (ord l).Perm l) →
      ∃ vs s₁, layAllW c.records (classAt s.heap) w.params ord args s = some (vs, s₁) ∧
        wpC (model c.prog w) callerA (tree vs) (fun fin s' => ∃ f, fin = .done f ∧ (c.Ends s args vs s₁ (.ok f) s' ∧ s'.os = s.os ∧ AllBare s'.gens ∧ kept s'.heap))
          (fun e s' => c.Ends s args vs s₁ (.error e) s' ∧ s'.os = s.os ∧ AllBare s'.gens ∧ kept s'.heap) s₁) :
    c.CallFrom (fun vs => ⟨tree vs, .builtin "claim.caller" {}, default, []⟩) w free gens kept s := by
  intro args hpre hlay ord hord
  obtain ⟨vs, s₁, hlaid, hcode⟩ := hspec args hpre hlay ord hord
  have hal := layAllW_rest _ _ _ hlaid
  obtain ⟨k, r, s', s'', hrun, hsched, hfo, hcase, hos, hkp⟩ := thread_ends_C (prog := c.prog) (w := w) (t := tree vs) (s := s₁)
    (R := fun r s' => c.Ends s args vs s₁ r s' ∧ s'.os = s.os ∧ kept s'.heap) (Shared.asleep_of_life hal.2.2.2 hz)
    (wpC_mono hcode (fun fin s' x => by
      obtain ⟨f, e, h1, h2, h3, h4⟩ := x
      exact ⟨f, e, ⟨h1, h2, h4⟩, leftWithCleanup_false_of_bare h3⟩) (fun e s' x => by
      obtain ⟨h1, h2, h3, h4⟩ := x
      exact ⟨⟨h1, h2, h4⟩, leftWithCleanup_false_of_bare h3⟩))
  obtain ⟨eh, _, _, eo, _⟩ := Shared.forget_eq hfo
  have hcase := hcase.congr eh
  have hkp : kept s'.heap := by first | exact eh ▸ hkp | (rw [eh] at hkp; exact hkp) | (rw [← eh] at hkp; exact hkp)
  rw [← eo] at hos
  have hlife : s'.heap.life = s.heap.life := (runN_life _ _ _ hrun).trans hal.2.2.2
  refine ⟨vs, s₁, hlaid, k, _, s', hsched, ?_, (fun _ i x hx => by rw [hgens] at hx; simp at hx), hkp, by rw [hlife], Shared.rest_eq hos⟩
  rcases hcase with ⟨v, rfl, d1, d2, d3, d4, d5⟩ | ⟨e, ob, cls, rfl, d1, d2, d3, d4, d5⟩
  · exact .inl ⟨v, rfl, d1, d2, d3, fun b o y _ => d4 b o y, d5⟩
  · exact .inr ⟨e, ob, cls, rfl, d1, d2, d3, d4, fun b o y _ => d5 b o y⟩
noncomputable abbrev WalkC (q : Program) (loose : List Str) (XP : (Str → Option Value) → Heap → Prop) (YP : World → Heap → Prop) (r : RowW) (d : DefRec) (kwd : List (Str × Expr)) (run : Value → List Value → Sem Value) : Prop :=
  ∀ (w : World) (s₀ s₁ : Shared) (mg mb : Str → Option Value), Ground q loose r.records XP w s₀ mg mb s₁.heap → YP w s₁.heap → ∀ (a : Addr) (o : Obj) (pm cd doc dV kV : Value), s₁.heap.get? a = some o →
    o.data = .func { docDef d.name d.params d.body d.scope pm cd doc with defaults := dV, kwdefaults := kV } → s₁.heap.CodeRec cd d.name → Dflts mg s₁.heap d.params kwd dV kV → mg d.name = some (.ref a) → s₁.gens = #[] →
    ∀ (args : List WData) (vals : List Value) (as : List Addr), r.claim.pre args = true → WData.layableAll args = true → ReadsAllW r.records (classAt s₀.heap) s₁.heap vals args as → WellAll w.params s₁.heap vals args → (∀ a ∈ as, (a == sysModules) = false) →
      wpC (model r.prog w) callerA (run (.ref a) vals) (fun v s' => GoodWG r.claim (classAt s₀.heap) (ExcName.means s₀.heap) args s₁ (.ok (.ret v)) s')
        (fun e s' => GoodWG r.claim (classAt s₀.heap) (ExcName.means s₀.heap) args s₁ (.error e) s') s₁
theorem open_anyC {r : RowW} {tree : List Value → Sem Fin} {q : Program} {loose defs kps : List Str} {writes : Bool} {Xt : Shared → Bool} {XP : (Str → Option Value) → Heap → Prop} {α : Type} {Yf : Shared → α} {Ya : World → α} {YP : World → Heap → Prop} {N : Nat}
    (left : LeftO r.prog q loose Xt Yf Ya N) (hY : ∀ w s, Yf s = Ya w → YP w s.heap) (hYk : ∀ w h h', YP w h → (∀ b o, h.get? b = some o → h'.get? b = some o) → YP w h') (hX : ∀ s, Xt s = true → XP (s.heap.nsMap mainGlobals) s.heap) (hXk : ∀ mg h h', XP mg h → (∀ b o, h.get? b = some o → h'.get? b = some o) → XP mg h')
    (hRf : ∀ s, Xt s = true → RecFacts r.records s.heap) (hwr : (!writes || r.records.isEmpty) = true) (ok : (chainsOk q && opensWell r.prog && (frees r && r.within.isEmpty)) = true) (hb : r.prog.bare) (hw : r.promised)
    (pin : ∀ w s, s.heap.isNs mainGlobals = true → Ground q loose [] XP w s (s.heap.nsMap mainGlobals) (s.heap.nsMap builtinsNs) s.heap → ∀ n ∈ defs, isTheDefsW r.prog s.heap n)
    (call : ∀ (w : World) (s₀ s₁ : Shared) (mg mb : Str → Option Value), Ground q loose r.records XP w s₀ mg mb s₁.heap → YP w s₁.heap → ∀ (args : List WData) (vs : List Value) (as : List Addr),
      r.claim.pre args = true → WData.layableAll args = true → Laid r.records w s₀ s₁ args vs as → sysModules < s₀.heap.objs.size →
        wpC (model r.prog w) callerA (tree vs) (fun fin s' => ∃ v, fin = .done (.ret v) ∧ GoodWG r.claim (classAt s₀.heap) (ExcName.means s₀.heap) args s₁ (.ok (.ret v)) s')
          (fun e s' => GoodWG r.claim (classAt s₀.heap) (ExcName.means s₀.heap) args s₁ (.error e) s') s₁) : r.claim.HoldsOpenBy (fun vs => ⟨tree vs, .builtin "claim.caller" {}, default, []⟩) defs kps writes := by
  obtain ⟨ok, k5⟩ := Bool.and_eq_true_iff.mp ok
  obtain ⟨hch, o1⟩ := Bool.and_eq_true_iff.mp ok
  obtain ⟨k5, k6⟩ := Bool.and_eq_true_iff.mp k5
  obtain ⟨hsame, hu, ha, hap, hm⟩ := frees_parts k5
  refine ⟨⟨hb, o1, by show r.makers.map _ = []; rw [hm]; rfl⟩, hw.witness, fun w => ⟨(left.behind hX hch w).1, fun s' hs' => ?_⟩⟩
  obtain ⟨s₀, hf, hg0, s, hT, hz, hgens, hg, G00, y⟩ := (left.behind (XP := fun mg h => XP mg h ∧ RecFacts r.records h) (fun s hs => ⟨hX s hs, hRf s hs⟩) hch w).2 s' hs'
  have G0 : Ground q loose [] XP w s (s.heap.nsMap mainGlobals) (s.heap.nsMap builtinsNs) s.heap := ⟨G00.T, G00.B, G00.D, G00.TE, G00.TD, G00.W, G00.X.1, G00.cls, G00.has, G00.apart, G00.once, G00.K⟩
  have RF := G00.X.2
  have hT' := hT
  refine ⟨s₀, hf, hg0, s, hT, pin w s hg G0, RF.1, RF.2.1, ?_⟩
  have hgens : s.gens = #[] := Array.eq_empty_of_size_eq_zero (beq_iff_eq.mp hgens)
  have G : Ground q loose r.records XP w s _ _ s.heap := RF.ground G0
  refine callFrom_C (c := r.claim) hz hgens fun args hpre hlay ord hord => ?_
  obtain ⟨⟨vs, s₁⟩, hlaid⟩ := Option.isSome_iff_exists.mp (layAllW_isSome (P := w.params) (ord := ord) G.has args r.args s (pre_splitW hpre).1)
  have keeps := layAllW_keeps _ _ _ hlaid
  have hal := layAllW_rest _ _ _ hlaid
  obtain ⟨as, hrd, hin, hold⟩ := reads_layAllW hord _ _ _ hlaid hlay s₁.heap (fun _ _ e => e)
  have L : Laid r.records w s s₁ args vs as := ⟨⟨ord, hord, hlaid⟩, hrd, hin, hold, keeps, hal.1.trans hgens, hal.2.2.1⟩
  have G₁ := G.keeps hXk keeps
  have h := call w s s₁ _ _ G₁ (hYk _ _ _ (hY w s y) keeps) args vs as hpre hlay L G.low
  have hi := ident_freeW hu ha hap
  have hwi : r.claim.within = [] := List.isEmpty_iff.mp k6
  exact ⟨vs, s₁, hlaid, wpC_mono h (fun fin s' g => by
    obtain ⟨v, e, g⟩ := g
    have z := g.laid (c := r.claim) hsame hwi hi L
    exact ⟨_, e, z.1, z.2.1, z.2.2, fun q => ⟨namesKept_of hT' hg kps keeps g.2.1.old, noTable hwr q⟩⟩) fun e s' g => by
    have z := g.laid (c := r.claim) hsame hwi hi L
    exact ⟨z.1, z.2.1, z.2.2, fun q => ⟨namesKept_of hT' hg kps keeps g.2.1.old, noTable hwr q⟩⟩⟩
theorem holds_openC {r : OpenRow} {q : Program} {loose : List Str} {Xt : Shared → Bool} {XP : (Str → Option Value) → Heap → Prop} {α : Type} {Yf : Shared → α} {Ya : World → α} {YP : World → Heap → Prop} {d : DefRec} {kwd : List (Str × Expr)} {N : Nat}
    (left : LeftO r.prog q loose Xt Yf Ya N) (hY : ∀ w s, Yf s = Ya w → YP w s.heap) (hYk : ∀ w h h', YP w h → (∀ b o, h.get? b = some o → h'.get? b = some o) → YP w h')
    (hX : ∀ s, Xt s = true → XP (s.heap.nsMap mainGlobals) s.heap) (hXk : ∀ mg h h', XP mg h → (∀ b o, h.get? b = some o → h'.get? b = some o) → XP mg h')
    (hdef : defOf q r.name = some (d, kwd)) (hp : r.prog.theDef r.name = some (d.params, d.body, d.scope)) (hk : kwWritten? d.params.kwonlyargs d.params.kw_defaults = some kwd) (hRf : ∀ s, Xt s = true → RecFacts r.records s.heap) (hwr : (!r.writes || r.records.isEmpty) = true)
    (k1 : r.wellSaid = true) (ok : (chainsOk q && opensWell r.prog && (frees r.toRowW && r.within.isEmpty)) = true) (hb : r.prog.bare) (hw : r.toRowW.promised)
    (call : WalkC q loose XP YP r.toRowW d kwd fun f vs => PySem.call f vs) : r.Holds := by
  refine ⟨k1, hw, open_anyC (r := r.toRowW) (tree := fun vs => do match ← nsGet mainNs r.name with
      | some f => do ret (← PySem.call f vs)
      | none => unsupported "claim.caller:no-such-global") left hY hYk hX hXk hRf hwr ok hb hw
    (fun w s hg G n hn => ?_) fun w s₀ s₁ mg mb G Y args vs as hpre hlay L low => ?_⟩
  · obtain rfl : n = r.name := by split at hn <;> simp_all
    exact pinned_of_view hg G hdef hp hk
  · obtain ⟨a, o, pm, cd, doc, dV, kV, h1, h2, h3, h4, h5⟩ := G.fn hdef
    have h := call w s₀ s₁ mg mb G Y a o pm cd doc dV kV h2 h3 h4 h5 (defOf_name hdef ▸ h1) L.gens args vs as hpre hlay L.reads L.well (L.low low)
    exact wpC_bind (wpC_of (wpAny_nsGet G.T.g (by
      rw [h1]
      exact wpC_bind (wpC_mono h (fun v s' x => wpC_of (wpAny_pure ⟨v, rfl, x⟩)) fun _ _ x => x))))
end Mine
end
section

namespace Mine.hd
noncomputable abbrev tp (a : Array Value) : Obj := ⟨.type "tuple", none, .seq a 0, #[]⟩
noncomputable abbrev fl (a : Array Value) : Obj := ⟨.none, none, .fields a, #[]⟩
noncomputable abbrev cd (a : Array Value) : Obj := ⟨.type "code", none, .fields a, #[]⟩
noncomputable abbrev fu (f : FuncData) : Obj := ⟨.type "function", none, .func f, #[]⟩
noncomputable abbrev it (i : Int) : Value := .int i 0
noncomputable abbrev sv (s : String) (t : Nat) : Value := .str (.ofString s) t
noncomputable def inz (t : BT) (l : List (Nat × Obj)) : BT := l.foldl (fun t p => t.ins p.1 p.2) t
noncomputable abbrev nl : BT := .nil
noncomputable abbrev nd (v : Obj) (l r : BT) : BT := .node v l r
noncomputable abbrev lf (v : Obj) : BT := .node v .nil .nil
noncomputable abbrev pw : Program := PySem.Challenge.pw_in0080_01
noncomputable def bod : List Stmt := behindTheImports pw
noncomputable def fnS (s : Option Stmt) (f : Arguments → List Stmt → Scope → FuncData) : FuncData := match s with
  | some (.FunctionDef _ a b _ _ _ sc _ _ _) => f a b sc
  | _ => default
noncomputable def fnD (i : Nat) (f : Arguments → List Stmt → Scope → FuncData) : FuncData := fnS bod[i]? f
noncomputable def fnE (i j : Nat) (f : Arguments → List Stmt → Scope → FuncData) : FuncData := match bod[i]? with
  | some (.ClassDef _ _ _ b _ _ _ _ _ _ _) => fnS b[j]? f
  | _ => default
noncomputable def en (P : Params) (x : String) (t : Tok) (v : Value) : DictEntry := ⟨PyData.keyHash P (Str.ofString x), .str (Str.ofString x) t, v⟩
noncomputable def env : Env := { scope := pw.main.scope, locals := mainNs, globals := mainNs, cells := [], code := (.ref 36), frame := some 37 }
noncomputable def cE : Code := .body bod env
noncomputable abbrev qP : Pos := ⟨0, 0, 0, 0⟩
noncomputable abbrev BF : List Frame := [topFrame qP]
noncomputable abbrev ann : Option Value := (some (.ref 6))
noncomputable def sts (i n : Nat) : List Stmt := (bod.drop i).take n
theorem tTab : @treeTable = @PySem.W.Fast.tw14364793385576792824 := PySem.W.Fast.te14364793385576792824
noncomputable def o0 (P : Params) : Obj := ⟨(.type "dict"), none, (.dict #[en P "__name__" 1 (.str (.ofString "builtins") 160), en P "__doc__" 2 (.builtin "builtins.__doc__:str#opaque"), en P "__package__" 3 (.builtin "builtins.__package__:str#opaque"), en P "__loader__" 4 (.builtin "builtins.__loader__:shared#opaque"), en P "__spec__" 5 (.builtin "builtins.__spec__#opaque"), en P "__build_class__" 6 (.builtin "__build_class__"), en P "__import__" 7 (.builtin "__import__"), en P "abs" 8 (.builtin "abs"), en P "all" 9 (.builtin "all"), en P "any" 10 (.builtin "any"), en P "ascii" 11 (.builtin "ascii"), en P "bin" 12 (.builtin "bin"), en P "breakpoint" 13 (.builtin "breakpoint"), en P "callable" 14 (.builtin "callable"), en P "chr" 15 (.builtin "chr"), en P "compile" 16 (.builtin "compile"), en P "delattr" 17 (.builtin "delattr"), en P "dir" 18 (.builtin "dir"), en P "divmod" 19 (.builtin "divmod"), en P "eval" 20 (.builtin "eval"), en P "exec" 21 (.builtin "exec"), en P "format" 22 (.builtin "format"), en P "getattr" 23 (.builtin "getattr"), en P "globals" 24 (.builtin "globals"), en P "hasattr" 25 (.builtin "hasattr"), en P "hash" 26 (.builtin "hash"), en P "hex" 27 (.builtin "hex"), en P "id" 28 (.builtin "id"), en P "input" 29 (.builtin "input"), en P "isinstance" 30 (.builtin "isinstance"), en P "issubclass" 31 (.builtin "issubclass"), en P "iter" 32 (.builtin "iter"), en P "aiter" 33 (.builtin "aiter"), en P "len" 34 (.builtin "len"), en P "locals" 35 (.builtin "locals"), en P "max" 36 (.builtin "max"), en P "min" 37 (.builtin "min"), en P "next" 38 (.builtin "next"), en P "anext" 39 (.builtin "anext"), en P "oct" 40 (.builtin "oct"), en P "ord" 41 (.builtin "ord"), en P "pow" 42 (.builtin "pow"), en P "print" 43 (.builtin "print"), en P "repr" 44 (.builtin "repr"), en P "round" 45 (.builtin "round"), en P "setattr" 46 (.builtin "setattr"), en P "sorted" 47 (.builtin "sorted"), en P "sum" 48 (.builtin "sum"), en P "vars" 49 (.builtin "vars"), en P "None" 50 .none, en P "Ellipsis" 51 .ellipsis, en P "NotImplemented" 52 .notImplemented, en P "False" 53 (.bool false), en P "True" 54 (.bool true), en P "bool" 55 (.type "bool"), en P "memoryview" 56 (.type "memoryview"), en P "bytearray" 57 (.type "bytearray"), en P "bytes" 58 (.type "bytes"), en P "classmethod" 59 (.type "classmethod"), en P "complex" 60 (.type "complex"), en P "dict" 61 (.type "dict"), en P "enumerate" 62 (.type "enumerate"), en P "filter" 63 (.type "filter"), en P "float" 64 (.type "float"), en P "frozenset" 65 (.type "frozenset"), en P "property" 66 (.type "property"), en P "int" 67 (.type "int"), en P "list" 68 (.type "list"), en P "map" 69 (.type "map"), en P "object" 70 (.type "object"), en P "range" 71 (.type "range"), en P "reversed" 72 (.type "reversed"), en P "set" 73 (.type "set"), en P "slice" 74 (.type "slice"), en P "staticmethod" 75 (.type "staticmethod"), en P "str" 76 (.type "str"), en P "super" 77 (.type "super"), en P "tuple" 78 (.type "tuple"), en P "type" 79 (.type "type"), en P "zip" 80 (.type "zip"), en P "__debug__" 81 (.bool true), en P "BaseException" 82 (.type "BaseException"), en P "BaseExceptionGroup" 83 (.type "BaseExceptionGroup"), en P "Exception" 84 (.type "Exception"), en P "GeneratorExit" 85 (.type "GeneratorExit"), en P "KeyboardInterrupt" 86 (.type "KeyboardInterrupt"), en P "SystemExit" 87 (.type "SystemExit"), en P "ArithmeticError" 88 (.type "ArithmeticError"), en P "AssertionError" 89 (.type "AssertionError"), en P "AttributeError" 90 (.type "AttributeError"), en P "BufferError" 91 (.type "BufferError"), en P "EOFError" 92 (.type "EOFError"), en P "ImportError" 93 (.type "ImportError"), en P "LookupError" 94 (.type "LookupError"), en P "MemoryError" 95 (.type "MemoryError"), en P "NameError" 96 (.type "NameError"), en P "OSError" 97 (.type "OSError"), en P "ReferenceError" 98 (.type "ReferenceError"), en P "RuntimeError" 99 (.type "RuntimeError"), en P "StopAsyncIteration" 100 (.type "StopAsyncIteration"), en P "StopIteration" 101 (.type "StopIteration"), en P "SyntaxError" 102 (.type "SyntaxError"), en P "SystemError" 103 (.type "SystemError"), en P "TypeError" 104 (.type "TypeError"), en P "ValueError" 105 (.type "ValueError"), en P "Warning" 106 (.type "Warning"), en P "FloatingPointError" 107 (.type "FloatingPointError"), en P "OverflowError" 108 (.type "OverflowError"), en P "ZeroDivisionError" 109 (.type "ZeroDivisionError"), en P "BytesWarning" 110 (.type "BytesWarning"), en P "DeprecationWarning" 111 (.type "DeprecationWarning"), en P "EncodingWarning" 112 (.type "EncodingWarning"), en P "FutureWarning" 113 (.type "FutureWarning"), en P "ImportWarning" 114 (.type "ImportWarning"), en P "PendingDeprecationWarning" 115 (.type "PendingDeprecationWarning"), en P "ResourceWarning" 116 (.type "ResourceWarning"), en P "RuntimeWarning" 117 (.type "RuntimeWarning"), en P "SyntaxWarning" 118 (.type "SyntaxWarning"), en P "UnicodeWarning" 119 (.type "UnicodeWarning"), en P "UserWarning" 120 (.type "UserWarning"), en P "BlockingIOError" 121 (.type "BlockingIOError"), en P "ChildProcessError" 122 (.type "ChildProcessError"), en P "ConnectionError" 123 (.type "ConnectionError"), en P "FileExistsError" 124 (.type "FileExistsError"), en P "FileNotFoundError" 125 (.type "FileNotFoundError"), en P "InterruptedError" 126 (.type "InterruptedError"), en P "IsADirectoryError" 127 (.type "IsADirectoryError"), en P "NotADirectoryError" 128 (.type "NotADirectoryError"), en P "PermissionError" 129 (.type "PermissionError"), en P "ProcessLookupError" 130 (.type "ProcessLookupError"), en P "TimeoutError" 131 (.type "TimeoutError"), en P "IndentationError" 132 (.type "IndentationError"), en P "_IncompleteInputError" 133 (.type "_IncompleteInputError"), en P "IndexError" 134 (.type "IndexError"), en P "KeyError" 135 (.type "KeyError"), en P "ModuleNotFoundError" 136 (.type "ModuleNotFoundError"), en P "NotImplementedError" 137 (.type "NotImplementedError"), en P "PythonFinalizationError" 138 (.type "PythonFinalizationError"), en P "RecursionError" 139 (.type "RecursionError"), en P "UnboundLocalError" 140 (.type "UnboundLocalError"), en P "UnicodeError" 141 (.type "UnicodeError"), en P "BrokenPipeError" 142 (.type "BrokenPipeError"), en P "ConnectionAbortedError" 143 (.type "ConnectionAbortedError"), en P "ConnectionRefusedError" 144 (.type "ConnectionRefusedError"), en P "ConnectionResetError" 145 (.type "ConnectionResetError"), en P "TabError" 146 (.type "TabError"), en P "UnicodeDecodeError" 147 (.type "UnicodeDecodeError"), en P "UnicodeEncodeError" 148 (.type "UnicodeEncodeError"), en P "UnicodeTranslateError" 149 (.type "UnicodeTranslateError"), en P "ExceptionGroup" 150 (.type "ExceptionGroup"), en P "EnvironmentError" 151 (.type "OSError"), en P "IOError" 152 (.type "OSError"), en P "open" 153 (.builtin "open"), en P "quit" 154 (.builtin "builtins.quit#opaque"), en P "exit" 155 (.builtin "builtins.exit#opaque"), en P "copyright" 156 (.builtin "builtins.copyright#opaque"), en P "credits" 157 (.builtin "builtins.credits#opaque"), en P "license" 158 (.builtin "builtins.license#opaque"), en P "help" 159 (.builtin "builtins.help#opaque")] 159), #[]⟩
noncomputable def o1 (P : Params) : Obj := ⟨(.type "dict"), none, (.dict #[en P "builtins" 162 (.ref 4), en P "__main__" 163 (.ref 5), en P "_sre" 244 (.ref 12), en P "_collections" 292 (.ref 30)] 4), #[]⟩
noncomputable def o2 (P : Params) : Obj := ⟨.none, none, (.dict #[en P "\x69mport.loaded._sre" 183 (.bool true), en P "class._frozen_importlib.BuiltinImporter" 185 (.ref 14), en P "watched.\x69mport" 206 (.ref 18), en P "class._frozen_importlib.ModuleSpec" 216 (.ref 22), en P "sys.modules.booked-epoch" 245 (.int 4 0), en P "\x69mport.later-laid._sre" 270 (.bool true), en P "watched.library" 272 (.ref 27), en P "watched.library-objects" 0 (.str ⟨#[12, 30]⟩ 0), en P "watched.library-deep._sre" 273 (.str ⟨#[4, 0, 0, 11, 4, 0, 0, 11, 4, 0, 0, 3, 4, 0, 0, 11, 8, 4, 100, 105, 99, 116, 2]⟩ 0), en P "\x69mport.loaded._collections" 280 (.bool true), en P "sys.modules.landed._collections" 294 (.bool true), en P "\x69mport.later-laid._collections" 309 (.bool true), en P "watched.library-deep._collections" 311 (.str ⟨#[4, 0, 0, 29, 4, 0, 0, 29, 4, 0, 0, 3, 4, 0, 0, 29, 8, 4, 100, 105, 99, 116, 2]⟩ 0)] 13), #[]⟩
noncomputable def o3 (P : Params) : Obj := ⟨(.type "dict"), none, (.dict #[en P "__name__" 165 (.str (.ofString "__main__") 164), en P "__doc__" 166 .none, en P "__package__" 167 .none, en P "__loader__" 168 (.builtin "__main__.__loader__#opaque"), en P "__spec__" 169 .none, en P "__annotations__" 170 (.ref 6), en P "__builtins__" 171 (.ref 4), en P "__file__" 173 (.str (.ofString "/claim/cut.py") 172), en P "__cached__" 174 .none, en P "_sre" 275 (.ref 12), en P "deque" 317 (.type "collections.deque")] 11), #[]⟩
noncomputable def o4 (P : Params) : Obj := ⟨(.type "module"), (some 0), .plain, #[]⟩
noncomputable def o5 (P : Params) : Obj := ⟨(.type "module"), (some 3), .plain, #[]⟩
noncomputable def o6 (P : Params) : Obj := ⟨(.type "dict"), none, (.dict #[] 0), #[]⟩
noncomputable def o7 (P : Params) := tp #[]
noncomputable def o8 (P : Params) := fl #[]
noncomputable def o9 (P : Params) := cd #[(sv "<module>" 176), (sv "<module>" 177), (sv "/claim/cut.py" 178), (it 1), (it 0), (it 0), (it 0), (it 0), (.ref 7), (.bool false), (it 175), (.ref 8), .none, .none, .none, .none, (it 179), (it 1), (sv "/claim/cut.py" 180)]
noncomputable def o10 (P : Params) : Obj := ⟨(.type "frame"), none, .plain, #[(some (.ref 9)), (some (.ref 3)), (some (.ref 3)), none, (some (.str (.ofString "__main__") 164)), none, (some (.ref 0))]⟩
noncomputable def o11 (P : Params) : Obj := ⟨(.type "dict"), none, (.dict #[en P "__name__" 247 (.str (.ofString "_sre") 246), en P "__doc__" 248 .none, en P "__package__" 250 (.str (.ofString "") 249), en P "__loader__" 251 (.ref 14), en P "__spec__" 252 (.ref 26), en P "compile" 253 (.builtin "_sre.compile"), en P "template" 254 (.builtin "_sre.template"), en P "getcodesize" 255 (.builtin "_sre.getcodesize"), en P "ascii_iscased" 256 (.builtin "_sre.ascii_iscased"), en P "unicode_iscased" 257 (.builtin "_sre.unicode_iscased"), en P "ascii_tolower" 258 (.builtin "_sre.ascii_tolower"), en P "unicode_tolower" 259 (.builtin "_sre.unicode_tolower"), en P "MAGIC" 261 (.int 20230612 260), en P "CODESIZE" 263 (.int 4 262), en P "MAXREPEAT" 265 (.int 4294967295 264), en P "MAXGROUPS" 267 (.int 1073741823 266), en P "copyright" 269 (.str (.ofString " SRE 2.2.2 Copyright (c) 1997-2002 by Secret Labs AB ") 268)] 17), #[]⟩
noncomputable def o12 (P : Params) : Obj := ⟨(.type "module"), (some 11), .plain, #[]⟩
noncomputable def o13 (P : Params) : Obj := ⟨(.type "dict"), none, (.dict #[en P "__module__" 189 (.str (.ofString "_frozen_importlib") 186), en P "__firstlineno__" 190 (.int 971 187), en P "__doc__" 191 (.builtin "_frozen_importlib.BuiltinImporter.__doc__:str#opaque"), en P "_ORIGIN" 192 (.str (.ofString "built-in") 188), en P "find_spec" 193 (.builtin "_frozen_importlib.BuiltinImporter.find_spec#opaque"), en P "create_module" 194 (.builtin "_frozen_importlib.BuiltinImporter.create_module#opaque"), en P "exec_module" 195 (.builtin "_frozen_importlib.BuiltinImporter.exec_module#opaque"), en P "get_code" 196 (.builtin "_frozen_importlib.BuiltinImporter.get_code#opaque"), en P "get_source" 197 (.builtin "_frozen_importlib.BuiltinImporter.get_source#opaque"), en P "is_package" 198 (.builtin "_frozen_importlib.BuiltinImporter.is_package#opaque"), en P "load_module" 199 (.builtin "_frozen_importlib.BuiltinImporter.load_module#opaque"), en P "__static_attributes__" 200 (.ref 15), en P "__dict__" 202 (.ref 16), en P "__weakref__" 204 (.ref 17)] 14), #[]⟩
noncomputable def o14 (P : Params) : Obj := ⟨(.type "type"), none, (.cls (.mk (.ofString "BuiltinImporter") [(.type "object")] [(.ref 14), (.type "object")] 13 (.ofString "BuiltinImporter") true [] [] false none false)), #[]⟩
noncomputable def o15 (P : Params) := tp #[]
noncomputable def o16 (P : Params) : Obj := ⟨(.type "getset_descriptor"), none, (.fields #[(.str (.ofString "__dict__") 201), (.ref 14), (.builtin "function.__dict__"), (.builtin "function.__dict__#set")]), #[]⟩
noncomputable def o17 (P : Params) : Obj := ⟨(.type "getset_descriptor"), none, (.fields #[(.str (.ofString "__weakref__") 203), (.ref 14), (.builtin "ExceptionGroup.__weakref__"), .none]), #[]⟩
noncomputable def o18 (P : Params) : Obj := ⟨.none, none, (.seq #[(.int 13 0), (.str ⟨#[6, 189, 10, 95, 95, 109, 111, 100, 117, 108, 101, 95, 95, 6, 186, 17, 95, 102, 114, 111, 122, 101, 110, 95, 105, 109, 112, 111, 114, 116, 108, 105, 98, 6, 190, 15, 95, 95, 102, 105, 114, 115, 116, 108, 105, 110, 101, 110, 111, 95, 95, 4, 187, 0, 971, 6, 191, 7, 95, 95, 100, 111, 99, 95, 95, 9, 52, 95, 102, 114, 111, 122, 101, 110, 95, 105, 109, 112, 111, 114, 116, 108, 105, 98, 46, 66, 117, 105, 108, 116, 105, 110, 73, 109, 112, 111, 114, 116, 101, 114, 46, 95, 95, 100, 111, 99, 95, 95, 58, 115, 116, 114, 35, 111, 112, 97, 113, 117, 101, 6, 192, 7, 95, 79, 82, 73, 71, 73, 78, 6, 188, 8, 98, 117, 105, 108, 116, 45, 105, 110, 6, 193, 9, 102, 105, 110, 100, 95, 115, 112, 101, 99, 9, 50, 95, 102, 114, 111, 122, 101, 110, 95, 105, 109, 112, 111, 114, 116, 108, 105, 98, 46, 66, 117, 105, 108, 116, 105, 110, 73, 109, 112, 111, 114, 116, 101, 114, 46, 102, 105, 110, 100, 95, 115, 112, 101, 99, 35, 111, 112, 97, 113, 117, 101, 6, 194, 13, 99, 114, 101, 97, 116, 101, 95, 109, 111, 100, 117, 108, 101, 9, 54, 95, 102, 114, 111, 122, 101, 110, 95, 105, 109, 112, 111, 114, 116, 108, 105, 98, 46, 66, 117, 105, 108, 116, 105, 110, 73, 109, 112, 111, 114, 116, 101, 114, 46, 99, 114, 101, 97, 116, 101, 95, 109, 111, 100, 117, 108, 101, 35, 111, 112, 97, 113, 117, 101, 6, 195, 11, 101, 120, 101, 99, 95, 109, 111, 100, 117, 108, 101, 9, 52, 95, 102, 114, 111, 122, 101, 110, 95, 105, 109, 112, 111, 114, 116, 108, 105, 98, 46, 66, 117, 105, 108, 116, 105, 110, 73, 109, 112, 111, 114, 116, 101, 114, 46, 101, 120, 101, 99, 95, 109, 111, 100, 117, 108, 101, 35, 111, 112, 97, 113, 117, 101, 6, 196, 8, 103, 101, 116, 95, 99, 111, 100, 101, 9, 49, 95, 102, 114, 111, 122, 101, 110, 95, 105, 109, 112, 111, 114, 116, 108, 105, 98, 46, 66, 117, 105, 108, 116, 105, 110, 73, 109, 112, 111, 114, 116, 101, 114, 46, 103, 101, 116, 95, 99, 111, 100, 101, 35, 111, 112, 97, 113, 117, 101, 6, 197, 10, 103, 101, 116, 95, 115, 111, 117, 114, 99, 101, 9, 51, 95, 102, 114, 111, 122, 101, 110, 95, 105, 109, 112, 111, 114, 116, 108, 105, 98, 46, 66, 117, 105, 108, 116, 105, 110, 73, 109, 112, 111, 114, 116, 101, 114, 46, 103, 101, 116, 95, 115, 111, 117, 114, 99, 101, 35, 111, 112, 97, 113, 117, 101, 6, 198, 10, 105, 115, 95, 112, 97, 99, 107, 97, 103, 101, 9, 51, 95, 102, 114, 111, 122, 101, 110, 95, 105, 109, 112, 111, 114, 116, 108, 105, 98, 46, 66, 117, 105, 108, 116, 105, 110, 73, 109, 112, 111, 114, 116, 101, 114, 46, 105, 115, 95, 112, 97, 99, 107, 97, 103, 101, 35, 111, 112, 97, 113, 117, 101, 6, 199, 11, 108, 111, 97, 100, 95, 109, 111, 100, 117, 108, 101, 9, 52, 95, 102, 114, 111, 122, 101, 110, 95, 105, 109, 112, 111, 114, 116, 108, 105, 98, 46, 66, 117, 105, 108, 116, 105, 110, 73, 109, 112, 111, 114, 116, 101, 114, 46, 108, 111, 97, 100, 95, 109, 111, 100, 117, 108, 101, 35, 111, 112, 97, 113, 117, 101, 6, 200, 21, 95, 95, 115, 116, 97, 116, 105, 99, 95, 97, 116, 116, 114, 105, 98, 117, 116, 101, 115, 95, 95, 4, 0, 0, 15, 6, 202, 8, 95, 95, 100, 105, 99, 116, 95, 95, 4, 0, 0, 16, 6, 204, 11, 95, 95, 119, 101, 97, 107, 114, 101, 102, 95, 95, 4, 0, 0, 17]⟩ 0), (.bool true), (.bool true), (.str (.ofString "") 205), (.int 21 0), (.str ⟨#[6, 227, 10, 95, 95, 109, 111, 100, 117, 108, 101, 95, 95, 6, 217, 17, 95, 102, 114, 111, 122, 101, 110, 95, 105, 109, 112, 111, 114, 116, 108, 105, 98, 6, 228, 15, 95, 95, 102, 105, 114, 115, 116, 108, 105, 110, 101, 110, 111, 95, 95, 4, 218, 0, 562, 6, 229, 7, 95, 95, 100, 111, 99, 95, 95, 9, 47, 95, 102, 114, 111, 122, 101, 110, 95, 105, 109, 112, 111, 114, 116, 108, 105, 98, 46, 77, 111, 100, 117, 108, 101, 83, 112, 101, 99, 46, 95, 95, 100, 111, 99, 95, 95, 58, 115, 116, 114, 35, 111, 112, 97, 113, 117, 101, 6, 230, 8, 95, 95, 105, 110, 105, 116, 95, 95, 9, 44, 95, 102, 114, 111, 122, 101, 110, 95, 105, 109, 112, 111, 114, 116, 108, 105, 98, 46, 77, 111, 100, 117, 108, 101, 83, 112, 101, 99, 46, 95, 95, 105, 110, 105, 116, 95, 95, 35, 111, 112, 97, 113, 117, 101, 6, 231, 8, 95, 95, 114, 101, 112, 114, 95, 95, 9, 44, 95, 102, 114, 111, 122, 101, 110, 95, 105, 109, 112, 111, 114, 116, 108, 105, 98, 46, 77, 111, 100, 117, 108, 101, 83, 112, 101, 99, 46, 95, 95, 114, 101, 112, 114, 95, 95, 35, 111, 112, 97, 113, 117, 101, 6, 232, 6, 95, 95, 101, 113, 95, 95, 9, 42, 95, 102, 114, 111, 122, 101, 110, 95, 105, 109, 112, 111, 114, 116, 108, 105, 98, 46, 77, 111, 100, 117, 108, 101, 83, 112, 101, 99, 46, 95, 95, 101, 113, 95, 95, 35, 111, 112, 97, 113, 117, 101, 6, 233, 6, 99, 97, 99, 104, 101, 100, 9, 42, 95, 102, 114, 111, 122, 101, 110, 95, 105, 109, 112, 111, 114, 116, 108, 105, 98, 46, 77, 111, 100, 117, 108, 101, 83, 112, 101, 99, 46, 99, 97, 99, 104, 101, 100, 35, 111, 112, 97, 113, 117, 101, 6, 234, 6, 112, 97, 114, 101, 110, 116, 9, 42, 95, 102, 114, 111, 122, 101, 110, 95, 105, 109, 112, 111, 114, 116, 108, 105, 98, 46, 77, 111, 100, 117, 108, 101, 83, 112, 101, 99, 46, 112, 97, 114, 101, 110, 116, 35, 111, 112, 97, 113, 117, 101, 6, 235, 12, 104, 97, 115, 95, 108, 111, 99, 97, 116, 105, 111, 110, 9, 48, 95, 102, 114, 111, 122, 101, 110, 95, 105, 109, 112, 111, 114, 116, 108, 105, 98, 46, 77, 111, 100, 117, 108, 101, 83, 112, 101, 99, 46, 104, 97, 115, 95, 108, 111, 99, 97, 116, 105, 111, 110, 35, 111, 112, 97, 113, 117, 101, 6, 236, 21, 95, 95, 115, 116, 97, 116, 105, 99, 95, 97, 116, 116, 114, 105, 98, 117, 116, 101, 115, 95, 95, 4, 0, 0, 23, 6, 238, 8, 95, 95, 100, 105, 99, 116, 95, 95, 4, 0, 0, 24, 6, 240, 11, 95, 95, 119, 101, 97, 107, 114, 101, 102, 95, 95, 4, 0, 0, 25, 6, 241, 8, 95, 95, 104, 97, 115, 104, 95, 95, 0]⟩ 0), (.bool true), (.bool true), (.str (.ofString "") 242)] 1), #[]⟩
noncomputable def o19 (P : Params) : Obj := ⟨(.type "list"), none, (.seq #[] 0), #[]⟩
noncomputable def o20 (P : Params) : Obj := ⟨(.type "dict"), none, (.dict #[en P "name" 208 (.str (.ofString "_sre") 207), en P "loader" 209 (.ref 14), en P "origin" 210 (.str (.ofString "built-in") 184), en P "loader_state" 211 .none, en P "submodule_search_locations" 212 .none, en P "_uninitialized_submodules" 213 (.ref 19), en P "_set_fileattr" 214 (.bool false), en P "_cached" 215 .none, en P "_initializing" 243 (.bool false)] 9), #[]⟩
noncomputable def o21 (P : Params) : Obj := ⟨(.type "dict"), none, (.dict #[en P "__module__" 227 (.str (.ofString "_frozen_importlib") 217), en P "__firstlineno__" 228 (.int 562 218), en P "__doc__" 229 (.builtin "_frozen_importlib.ModuleSpec.__doc__:str#opaque"), en P "__init__" 230 (.builtin "_frozen_importlib.ModuleSpec.__init__#opaque"), en P "__repr__" 231 (.builtin "_frozen_importlib.ModuleSpec.__repr__#opaque"), en P "__eq__" 232 (.builtin "_frozen_importlib.ModuleSpec.__eq__#opaque"), en P "cached" 233 (.builtin "_frozen_importlib.ModuleSpec.cached#opaque"), en P "parent" 234 (.builtin "_frozen_importlib.ModuleSpec.parent#opaque"), en P "has_location" 235 (.builtin "_frozen_importlib.ModuleSpec.has_location#opaque"), en P "__static_attributes__" 236 (.ref 23), en P "__dict__" 238 (.ref 24), en P "__weakref__" 240 (.ref 25), en P "__hash__" 241 .none] 13), #[]⟩
noncomputable def o22 (P : Params) : Obj := ⟨(.type "type"), none, (.cls (.mk (.ofString "ModuleSpec") [(.type "object")] [(.ref 22), (.type "object")] 21 (.ofString "ModuleSpec") true [] [] false none false)), #[]⟩
noncomputable def o23 (P : Params) := tp #[(sv "_cached" 219), (sv "_set_fileattr" 220), (sv "_uninitialized_submodules" 221), (sv "loader" 222), (sv "loader_state" 223), (sv "name" 224), (sv "origin" 225), (sv "submodule_search_locations" 226)]
noncomputable def o24 (P : Params) : Obj := ⟨(.type "getset_descriptor"), none, (.fields #[(.str (.ofString "__dict__") 237), (.ref 22), (.builtin "function.__dict__"), (.builtin "function.__dict__#set")]), #[]⟩
noncomputable def o25 (P : Params) : Obj := ⟨(.type "getset_descriptor"), none, (.fields #[(.str (.ofString "__weakref__") 239), (.ref 22), (.builtin "ExceptionGroup.__weakref__"), .none]), #[]⟩
noncomputable def o26 (P : Params) : Obj := ⟨(.ref 22), (some 20), .plain, #[]⟩
noncomputable def o27 (P : Params) : Obj := ⟨.none, none, (.seq #[(.int 11 0), (.str ⟨#[6, 247, 8, 95, 95, 110, 97, 109, 101, 95, 95, 6, 246, 4, 95, 115, 114, 101, 6, 248, 7, 95, 95, 100, 111, 99, 95, 95, 0, 6, 250, 11, 95, 95, 112, 97, 99, 107, 97, 103, 101, 95, 95, 6, 249, 0, 6, 251, 10, 95, 95, 108, 111, 97, 100, 101, 114, 95, 95, 4, 0, 0, 14, 6, 252, 8, 95, 95, 115, 112, 101, 99, 95, 95, 4, 0, 0, 26, 6, 253, 7, 99, 111, 109, 112, 105, 108, 101, 9, 12, 95, 115, 114, 101, 46, 99, 111, 109, 112, 105, 108, 101, 6, 254, 8, 116, 101, 109, 112, 108, 97, 116, 101, 9, 13, 95, 115, 114, 101, 46, 116, 101, 109, 112, 108, 97, 116, 101, 6, 255, 11, 103, 101, 116, 99, 111, 100, 101, 115, 105, 122, 101, 9, 16, 95, 115, 114, 101, 46, 103, 101, 116, 99, 111, 100, 101, 115, 105, 122, 101, 6, 256, 13, 97, 115, 99, 105, 105, 95, 105, 115, 99, 97, 115, 101, 100, 9, 18, 95, 115, 114, 101, 46, 97, 115, 99, 105, 105, 95, 105, 115, 99, 97, 115, 101, 100, 6, 257, 15, 117, 110, 105, 99, 111, 100, 101, 95, 105, 115, 99, 97, 115, 101, 100, 9, 20, 95, 115, 114, 101, 46, 117, 110, 105, 99, 111, 100, 101, 95, 105, 115, 99, 97, 115, 101, 100, 6, 258, 13, 97, 115, 99, 105, 105, 95, 116, 111, 108, 111, 119, 101, 114, 9, 18, 95, 115, 114, 101, 46, 97, 115, 99, 105, 105, 95, 116, 111, 108, 111, 119, 101, 114, 6, 259, 15, 117, 110, 105, 99, 111, 100, 101, 95, 116, 111, 108, 111, 119, 101, 114, 9, 20, 95, 115, 114, 101, 46, 117, 110, 105, 99, 111, 100, 101, 95, 116, 111, 108, 111, 119, 101, 114, 6, 261, 5, 77, 65, 71, 73, 67, 4, 260, 0, 20230612, 6, 263, 8, 67, 79, 68, 69, 83, 73, 90, 69, 4, 262, 0, 4, 6, 265, 9, 77, 65, 88, 82, 69, 80, 69, 65, 84, 4, 264, 0, 4294967295, 6, 267, 9, 77, 65, 88, 71, 82, 79, 85, 80, 83, 4, 266, 0, 1073741823, 6, 269, 9, 99, 111, 112, 121, 114, 105, 103, 104, 116, 6, 268, 53, 32, 83, 82, 69, 32, 50, 46, 50, 46, 50, 32, 67, 111, 112, 121, 114, 105, 103, 104, 116, 32, 40, 99, 41, 32, 49, 57, 57, 55, 45, 50, 48, 48, 50, 32, 98, 121, 32, 83, 101, 99, 114, 101, 116, 32, 76, 97, 98, 115, 32, 65, 66, 32]⟩ 0), (.bool true), (.bool false), (.str (.ofString "_sre") 271), (.int 29 0), (.str ⟨#[6, 296, 8, 95, 95, 110, 97, 109, 101, 95, 95, 6, 295, 12, 95, 99, 111, 108, 108, 101, 99, 116, 105, 111, 110, 115, 6, 297, 7, 95, 95, 100, 111, 99, 95, 95, 9, 31, 95, 99, 111, 108, 108, 101, 99, 116, 105, 111, 110, 115, 46, 95, 95, 100, 111, 99, 95, 95, 58, 115, 116, 114, 35, 111, 112, 97, 113, 117, 101, 6, 299, 11, 95, 95, 112, 97, 99, 107, 97, 103, 101, 95, 95, 6, 298, 0, 6, 300, 10, 95, 95, 108, 111, 97, 100, 101, 114, 95, 95, 4, 0, 0, 14, 6, 301, 8, 95, 95, 115, 112, 101, 99, 95, 95, 4, 0, 0, 33, 6, 302, 15, 95, 99, 111, 117, 110, 116, 95, 101, 108, 101, 109, 101, 110, 116, 115, 9, 28, 95, 99, 111, 108, 108, 101, 99, 116, 105, 111, 110, 115, 46, 95, 99, 111, 117, 110, 116, 95, 101, 108, 101, 109, 101, 110, 116, 115, 6, 303, 5, 100, 101, 113, 117, 101, 8, 17, 99, 111, 108, 108, 101, 99, 116, 105, 111, 110, 115, 46, 100, 101, 113, 117, 101, 6, 304, 11, 100, 101, 102, 97, 117, 108, 116, 100, 105, 99, 116, 8, 23, 99, 111, 108, 108, 101, 99, 116, 105, 111, 110, 115, 46, 100, 101, 102, 97, 117, 108, 116, 100, 105, 99, 116, 6, 305, 15, 95, 100, 101, 113, 117, 101, 95, 105, 116, 101, 114, 97, 116, 111, 114, 8, 27, 99, 111, 108, 108, 101, 99, 116, 105, 111, 110, 115, 46, 95, 100, 101, 113, 117, 101, 95, 105, 116, 101, 114, 97, 116, 111, 114, 6, 306, 23, 95, 100, 101, 113, 117, 101, 95, 114, 101, 118, 101, 114, 115, 101, 95, 105, 116, 101, 114, 97, 116, 111, 114, 8, 35, 99, 111, 108, 108, 101, 99, 116, 105, 111, 110, 115, 46, 95, 100, 101, 113, 117, 101, 95, 114, 101, 118, 101, 114, 115, 101, 95, 105, 116, 101, 114, 97, 116, 111, 114, 6, 307, 12, 95, 116, 117, 112, 108, 101, 103, 101, 116, 116, 101, 114, 8, 24, 99, 111, 108, 108, 101, 99, 116, 105, 111, 110, 115, 46, 95, 116, 117, 112, 108, 101, 103, 101, 116, 116, 101, 114, 6, 308, 11, 79, 114, 100, 101, 114, 101, 100, 68, 105, 99, 116, 8, 23, 99, 111, 108, 108, 101, 99, 116, 105, 111, 110, 115, 46, 79, 114, 100, 101, 114, 101, 100, 68, 105, 99, 116]⟩ 0), (.bool true), (.bool false), (.str (.ofString "_collections") 310)] 1), #[]⟩
noncomputable def o28 (P : Params) := tp #[(sv "deque" 277)]
noncomputable def o29 (P : Params) : Obj := ⟨(.type "dict"), none, (.dict #[en P "__name__" 296 (.str (.ofString "_collections") 295), en P "__doc__" 297 (.builtin "_collections.__doc__:str#opaque"), en P "__package__" 299 (.str (.ofString "") 298), en P "__loader__" 300 (.ref 14), en P "__spec__" 301 (.ref 33), en P "_count_elements" 302 (.builtin "_collections._count_elements"), en P "deque" 303 (.type "collections.deque"), en P "defaultdict" 304 (.type "collections.defaultdict"), en P "_deque_iterator" 305 (.type "collections._deque_iterator"), en P "_deque_reverse_iterator" 306 (.type "collections._deque_reverse_iterator"), en P "_tuplegetter" 307 (.type "collections._tuplegetter"), en P "OrderedDict" 308 (.type "collections.OrderedDict")] 12), #[]⟩
noncomputable def o30 (P : Params) : Obj := ⟨(.type "module"), (some 29), .plain, #[]⟩
noncomputable def o31 (P : Params) : Obj := ⟨(.type "list"), none, (.seq #[] 0), #[]⟩
noncomputable def o32 (P : Params) : Obj := ⟨(.type "dict"), none, (.dict #[en P "name" 283 (.str (.ofString "_collections") 282), en P "loader" 284 (.ref 14), en P "origin" 285 (.str (.ofString "built-in") 281), en P "loader_state" 286 .none, en P "submodule_search_locations" 287 .none, en P "_uninitialized_submodules" 288 (.ref 31), en P "_set_fileattr" 289 (.bool false), en P "_cached" 290 .none, en P "_initializing" 291 (.bool false)] 9), #[]⟩
noncomputable def o33 (P : Params) : Obj := ⟨(.ref 22), (some 32), .plain, #[]⟩
noncomputable def He (P : Params) : Heap := ⟨#[o0 P, o1 P, o2 P, o3 P, o4 P, o5 P, o6 P, o7 P, o8 P, o9 P, o10 P, o11 P, o12 P, o13 P, o14 P, o15 P, o16 P, o17 P, o18 P, o19 P, o20 P, o21 P, o22 P, o23 P, o24 P, o25 P, o26 P, o27 P, o28 P, o29 P, o30 P, o31 P, o32 P, o33 P], {}⟩
noncomputable def Se (w : World) (os : OsState) : Shared := ⟨He w.params, #[], ⟨0, 0, 0, 0⟩, 318, os⟩
noncomputable def o7v40 (P : Params) := tp #[]
noncomputable def o11v43 (P : Params) : Obj := ⟨(.type "dict"), none, (.dict #[en P "__name__" 247 (.str (.ofString "_sre") 246), en P "__doc__" 248 .none, en P "__package__" 250 (.str (.ofString "") 249), en P "__loader__" 251 (.builtin "off-the-table:_sre.__loader__:shared#opaque"), en P "__spec__" 252 (.builtin "off-the-table:_sre.__spec__:shared#opaque"), en P "compile" 253 (.builtin "_sre.compile"), en P "template" 254 (.builtin "off-the-table:_sre.template:shared#opaque"), en P "getcodesize" 255 (.builtin "off-the-table:_sre.getcodesize:shared#opaque"), en P "ascii_iscased" 256 (.builtin "off-the-table:_sre.ascii_iscased:shared#opaque"), en P "unicode_iscased" 257 (.builtin "off-the-table:_sre.unicode_iscased:shared#opaque"), en P "ascii_tolower" 258 (.builtin "off-the-table:_sre.ascii_tolower:shared#opaque"), en P "unicode_tolower" 259 (.builtin "off-the-table:_sre.unicode_tolower:shared#opaque"), en P "MAGIC" 261 (.int 20230612 260), en P "CODESIZE" 263 (.int 4 262), en P "MAXREPEAT" 265 (.int 4294967295 264), en P "MAXGROUPS" 267 (.int 1073741823 266), en P "copyright" 269 (.str (.ofString " SRE 2.2.2 Copyright (c) 1997-2002 by Secret Labs AB ") 268)] 17), #[]⟩
noncomputable def o15v47 (P : Params) := tp #[]
noncomputable def o28v59 (P : Params) := tp #[(sv "deque" 277)]
noncomputable def o29v60 (P : Params) : Obj := ⟨(.type "dict"), none, (.dict #[en P "__name__" 296 (.str (.ofString "_collections") 295), en P "__doc__" 297 (.builtin "off-the-table:_collections.__doc__:shared#opaque"), en P "__package__" 299 (.str (.ofString "") 298), en P "__loader__" 300 (.builtin "off-the-table:_collections.__loader__:shared#opaque"), en P "__spec__" 301 (.builtin "off-the-table:_collections.__spec__:shared#opaque"), en P "_count_elements" 302 (.builtin "_collections._count_elements"), en P "deque" 303 (.type "collections.deque"), en P "defaultdict" 304 (.type "collections.defaultdict"), en P "_deque_iterator" 305 (.builtin "off-the-table:_collections._deque_iterator:shared#opaque"), en P "_deque_reverse_iterator" 306 (.builtin "off-the-table:_collections._deque_reverse_iterator:shared#opaque"), en P "_tuplegetter" 307 (.type "collections._tuplegetter"), en P "OrderedDict" 308 (.type "collections.OrderedDict")] 12), #[]⟩
noncomputable def H0 (P : Params) : Heap := ⟨#[o0 P, o1 P, o2 P, o3 P, o4 P, o5 P, o6 P, o7v40 P, o8 P, o9 P, o10 P, o11v43 P, o12 P, o13 P, o14 P, o15v47 P, o16 P, o17 P, o18 P, o19 P, o20 P, o21 P, o22 P, o23 P, o24 P, o25 P, o26 P, o27 P, o28v59 P, o29v60 P, o30 P, o31 P, o32 P, o33 P], {}⟩
noncomputable def S0 (w : World) (os : OsState) : Shared := ⟨H0 w.params, #[], ⟨0, 0, 0, 0⟩, 318, os⟩
noncomputable def o34 (P : Params) := tp #[]
noncomputable def o35 (P : Params) := fl #[]
noncomputable def o36 (P : Params) := cd #[(sv "<module>" 319), (sv "<module>" 320), (sv "/claim/cut.py" 321), (it 1), (it 0), (it 0), (it 0), (it 0), (.ref 34), (.bool false), (it 318), (.ref 35), .none, .none, .none, .none, (it 322), (it 1), (sv "/claim/cut.py" 323)]
noncomputable def o37 (P : Params) : Obj := ⟨(.type "frame"), none, .plain, #[(some (.ref 36)), (some (.ref 3)), (some (.ref 3)), none, (some (.str (.ofString "__main__") 164)), none, (some (.ref 0))]⟩
noncomputable def Ha (P : Params) : Heap := ⟨#[o0 P, o1 P, o2 P, o3 P, o4 P, o5 P, o6 P, o7v40 P, o8 P, o9 P, o10 P, o11v43 P, o12 P, o13 P, o14 P, o15v47 P, o16 P, o17 P, o18 P, o19 P, o20 P, o21 P, o22 P, o23 P, o24 P, o25 P, o26 P, o27 P, o28v59 P, o29v60 P, o30 P, o31 P, o32 P, o33 P, o34 P, o35 P, o36 P, o37 P], {}⟩
noncomputable def Sa (w : World) (os : OsState) : Shared := ⟨Ha w.params, #[], ⟨0, 0, 0, 0⟩, 324, os⟩
noncomputable def trb (P : Params) : BT := (nd (o0 P) (nd (o1 P) (nd (o3 P) (nd (o7v40 P) (nd (o15v47 P) (lf (o31 P)) nl) (lf (o23 P))) (nd (o11v43 P) (nd (o19 P) (lf (o35 P)) nl) (lf (o27 P)))) (nd (o5 P) (nd (o9 P) (nd (o17 P) (lf (o33 P)) nl) (lf (o25 P))) (nd (o13 P) (nd (o21 P) (lf (o37 P)) nl) (lf (o29v60 P))))) (nd (o2 P) (nd (o4 P) (nd (o8 P) (nd (o16 P) (lf (o32 P)) nl) (lf (o24 P))) (nd (o12 P) (nd (o20 P) (lf (o36 P)) nl) (lf (o28v59 P)))) (nd (o6 P) (nd (o10 P) (nd (o18 P) (lf (o34 P)) nl) (lf (o26 P))) (nd (o14 P) (lf (o22 P)) (lf (o30 P))))))
noncomputable def Sb (w : World) (os : OsState) : SharedT := ⟨trb w.params, 38, {}, #[], ⟨0, 0, 0, 0⟩, 324, os⟩
noncomputable def o3v68 (P : Params) : Obj := ⟨(.type "dict"), none, (.dict #[en P "__name__" 165 (.str (.ofString "re") 382), en P "__doc__" 166 .none, en P "__package__" 167 .none, en P "__loader__" 168 (.builtin "__main__.__loader__#opaque"), en P "__spec__" 169 .none, en P "__annotations__" 170 (.ref 6), en P "__builtins__" 171 (.ref 4), en P "__file__" 173 (.str (.ofString "/claim/cut.py") 172), en P "__cached__" 174 .none, en P "_sre" 275 (.ref 12), en P "deque" 317 (.type "collections.deque"), en P "_wall" 330 (.ref 44), en P "_byteswap" 343 (.ref 51), en P "twin_re_1_fnmatch" 381 (.ref 56)] 14), #[]⟩
noncomputable def o35v69 (P : Params) := fl #[(it 3), (it 0), (.ref 43), (it 7), (it 0), (.ref 50)]
noncomputable def o38 (P : Params) := tp #[]
noncomputable def o39 (P : Params) := fl #[]
noncomputable def o40 (P : Params) := tp #[(sv "k" 327)]
noncomputable def o41 (P : Params) := tp #[]
noncomputable def o42 (P : Params) : Obj := ⟨.none, none, (.func (fnD 0 fun a b sc => .mk (.ofString "_wall") (.ofString "_wall") a (.stmts b) sc 0 [] .none .none .none .none none .none .none 0)), #[]⟩
noncomputable def o43 (P : Params) := cd #[(sv "_wall" 324), (sv "_wall" 325), (sv "/claim/cut.py" 326), (it 3), (it 1), (it 0), (it 0), (it 3), (.ref 38), (.bool true), (it 318), (.ref 39), .none, (.ref 40), (.ref 41), (.ref 42), (it 328), (it 3), (sv "/claim/cut.py" 329)]
noncomputable def o44 (P : Params) := fu (fnD 0 fun a b sc => .mk (.ofString "_wall") (.ofString "_wall") a (.stmts b) sc 3 [] .none .none .none (.str (.ofString "__main__") 164) none (.ref 43) .none 0)
noncomputable def o45 (P : Params) := tp #[]
noncomputable def o46 (P : Params) := fl #[]
noncomputable def o47 (P : Params) := tp #[(sv "data" 336), (sv "width" 337), (sv "swapped_data" 338), (sv "i" 339), (sv "j" 340)]
noncomputable def o48 (P : Params) := tp #[]
noncomputable def o49 (P : Params) : Obj := ⟨.none, none, (.func (fnD 2 fun a b sc => .mk (.ofString "_byteswap") (.ofString "_byteswap") a (.stmts b) sc 0 [] .none .none .none .none none .none .none 0)), #[]⟩
noncomputable def o50 (P : Params) := cd #[(sv "_byteswap" 333), (sv "_byteswap" 334), (sv "/claim/cut.py" 335), (it 7), (it 2), (it 0), (it 0), (it 3), (.ref 45), (.bool true), (it 318), (.ref 46), .none, (.ref 47), (.ref 48), (.ref 49), (it 341), (it 7), (sv "/claim/cut.py" 342)]
noncomputable def o51 (P : Params) := fu (fnD 2 fun a b sc => .mk (.ofString "_byteswap") (.ofString "_byteswap") a (.stmts b) sc 3 [] .none .none .none (.str (.ofString "cpy313.wave") 331) none (.ref 50) .none 0)
noncomputable def o52 (P : Params) : Obj := ⟨(.type "list"), none, (.seq #[(.int 14 347), (.int 14 348), (.int 4 349), (.int 1 350), (.int 1 351), (.int 9 352), (.int 0 353), (.int 64 354), (.int 0 355), (.int 1342177280 356), (.int 0 357), (.int 0 358), (.int 0 359), (.int 0 360), (.int 0 361), (.int 17 362), (.int 0 363), (.int 13 364), (.int 11 365), (.int 9 366), (.int 0 367), (.int 64 368), (.int 0 369), (.int 1342177280 370), (.int 0 371), (.int 0 372), (.int 0 373), (.int 0 374), (.int 0 375), (.int 17 376), (.int 1 377), (.int 1 378)] 0), #[]⟩
noncomputable def o53 (P : Params) : Obj := ⟨(.type "dict"), none, (.dict #[] 0), #[]⟩
noncomputable def o54 (P : Params) := tp #[.none, .none]
noncomputable def o55 (P : Params) := tp #[(.int 14 0), (.int 14 0), (.int 4 0), (.int 1 0), (.int 1 0), (.int 9 0), (.int 0 0), (.int 64 0), (.int 0 0), (.int 1342177280 0), (.int 0 0), (.int 0 0), (.int 0 0), (.int 0 0), (.int 0 0), (.int 17 0), (.int 0 0), (.int 13 0), (.int 11 0), (.int 9 0), (.int 0 0), (.int 64 0), (.int 0 0), (.int 1342177280 0), (.int 0 0), (.int 0 0), (.int 0 0), (.int 0 0), (.int 0 0), (.int 17 0), (.int 1 0), (.int 1 0)]
noncomputable def o56 (P : Params) : Obj := ⟨(.type "re.Pattern"), none, (.fields #[(.str (.ofString "([&~|])") 345), (.int 32 380), (.int 1 0), .none, .none, (.ref 55), (.int 0 0)]), #[]⟩
noncomputable def trp0 (P : Params) : BT := inz (trb P) [(3, o3v68 P), (35, o35v69 P), (38, o38 P), (39, o39 P), (40, o40 P), (41, o41 P), (42, o42 P), (43, o43 P), (44, o44 P), (45, o45 P), (46, o46 P), (47, o47 P), (48, o48 P), (49, o49 P), (50, o50 P), (51, o51 P), (52, o52 P), (53, o53 P), (54, o54 P), (55, o55 P), (56, o56 P)]
noncomputable def Sp0 (w : World) (os : OsState) : SharedT := ⟨trp0 w.params, 57, {}, #[], ⟨0, 0, 0, 0⟩, 384, os⟩
noncomputable def o3v89 (P : Params) : Obj := ⟨(.type "dict"), none, (.dict #[en P "__name__" 165 (.str (.ofString "re") 382), en P "__doc__" 166 .none, en P "__package__" 167 .none, en P "__loader__" 168 (.builtin "__main__.__loader__#opaque"), en P "__spec__" 169 .none, en P "__annotations__" 170 (.ref 6), en P "__builtins__" 171 (.ref 4), en P "__file__" 173 (.str (.ofString "/claim/cut.py") 172), en P "__cached__" 174 .none, en P "_sre" 275 (.ref 12), en P "deque" 317 (.type "collections.deque"), en P "_wall" 330 (.ref 44), en P "_byteswap" 343 (.ref 51), en P "twin_re_1_fnmatch" 381 (.ref 56), en P "_special_chars_map" 529 (.ref 58)] 15), #[]⟩
noncomputable def o57 (P : Params) : Obj := ⟨(.type "bytes_iterator"), none, (.fields #[.none, (.int 24 0)]), #[]⟩
noncomputable def o58 (P : Params) : Obj := ⟨(.type "dict"), none, (.dict #[⟨40, (.int 40 385), (.str ⟨#[92, 40]⟩ 389)⟩, ⟨41, (.int 41 391), (.str ⟨#[92, 41]⟩ 395)⟩, ⟨91, (.int 91 397), (.str ⟨#[92, 91]⟩ 401)⟩, ⟨93, (.int 93 403), (.str ⟨#[92, 93]⟩ 407)⟩, ⟨123, (.int 123 409), (.str ⟨#[92, 123]⟩ 413)⟩, ⟨125, (.int 125 415), (.str ⟨#[92, 125]⟩ 419)⟩, ⟨63, (.int 63 421), (.str ⟨#[92, 63]⟩ 425)⟩, ⟨42, (.int 42 427), (.str ⟨#[92, 42]⟩ 431)⟩, ⟨43, (.int 43 433), (.str ⟨#[92, 43]⟩ 437)⟩, ⟨45, (.int 45 439), (.str ⟨#[92, 45]⟩ 443)⟩, ⟨124, (.int 124 445), (.str ⟨#[92, 124]⟩ 449)⟩, ⟨94, (.int 94 451), (.str ⟨#[92, 94]⟩ 455)⟩, ⟨36, (.int 36 457), (.str ⟨#[92, 36]⟩ 461)⟩, ⟨92, (.int 92 463), (.str ⟨#[92, 92]⟩ 467)⟩, ⟨46, (.int 46 469), (.str ⟨#[92, 46]⟩ 473)⟩, ⟨38, (.int 38 475), (.str ⟨#[92, 38]⟩ 479)⟩, ⟨126, (.int 126 481), (.str ⟨#[92, 126]⟩ 485)⟩, ⟨35, (.int 35 487), (.str ⟨#[92, 35]⟩ 491)⟩, ⟨32, (.int 32 493), (.str ⟨#[92, 32]⟩ 497)⟩, ⟨9, (.int 9 499), (.str ⟨#[92, 9]⟩ 503)⟩, ⟨10, (.int 10 505), (.str ⟨#[92, 10]⟩ 509)⟩, ⟨13, (.int 13 511), (.str ⟨#[92, 13]⟩ 515)⟩, ⟨11, (.int 11 517), (.str ⟨#[92, 11]⟩ 521)⟩, ⟨12, (.int 12 523), (.str ⟨#[92, 12]⟩ 527)⟩] 24), #[]⟩
noncomputable def o59 (P : Params) : Obj := ⟨(.type "dict"), none, (.dict #[] 2), #[]⟩
noncomputable def o60 (P : Params) := tp #[]
noncomputable def o61 (P : Params) : Obj := ⟨(.type "StopIteration"), none, (.fields #[(.ref 60), .none, .none, .none, (.bool false), .none]), #[]⟩
noncomputable def trp1 (P : Params) : BT := inz (trp0 P) [(3, o3v89 P), (57, o57 P), (58, o58 P), (59, o59 P), (60, o60 P), (61, o61 P)]
noncomputable def Sp1 (w : World) (os : OsState) : SharedT := ⟨trp1 w.params, 62, {}, #[], ⟨0, 0, 0, 0⟩, 530, os⟩
noncomputable def o3v95 (P : Params) : Obj := ⟨(.type "dict"), none, (.dict #[en P "__name__" 165 (.str (.ofString "io") 598), en P "__doc__" 166 .none, en P "__package__" 167 .none, en P "__loader__" 168 (.builtin "__main__.__loader__#opaque"), en P "__spec__" 169 .none, en P "__annotations__" 170 (.ref 6), en P "__builtins__" 171 (.ref 4), en P "__file__" 173 (.str (.ofString "/claim/cut.py") 172), en P "__cached__" 174 .none, en P "_sre" 275 (.ref 12), en P "deque" 317 (.type "collections.deque"), en P "_wall" 330 (.ref 44), en P "_byteswap" 343 (.ref 51), en P "twin_re_1_fnmatch" 381 (.ref 56), en P "_special_chars_map" 529 (.ref 58), en P "escape" 536 (.ref 68), en P "_translate" 557 (.ref 75), en P "twin_re_1_shlex" 597 (.ref 80), en P "_whence" 607 (.ref 87), en P "_index" 615 (.ref 94)] 20), #[]⟩
noncomputable def o35v96 (P : Params) := fl #[(it 3), (it 0), (.ref 43), (it 7), (it 0), (.ref 50), (it 16), (it 0), (.ref 67), (it 23), (it 0), (.ref 74), (it 87), (it 0), (.ref 86), (it 92), (it 0), (.ref 93)]
noncomputable def o62 (P : Params) := tp #[]
noncomputable def o63 (P : Params) := fl #[]
noncomputable def o64 (P : Params) := tp #[(sv "pattern" 533)]
noncomputable def o65 (P : Params) := tp #[]
noncomputable def o66 (P : Params) : Obj := ⟨.none, none, (.func (fnD 6 fun a b sc => .mk (.ofString "escape") (.ofString "escape") a (.stmts b) sc 0 [] .none .none .none .none none .none .none 0)), #[]⟩
noncomputable def o67 (P : Params) := cd #[(sv "escape" 530), (sv "escape" 531), (sv "/claim/cut.py" 532), (it 16), (it 1), (it 0), (it 0), (it 3), (.ref 62), (.bool true), (it 318), (.ref 63), .none, (.ref 64), (.ref 65), (.ref 66), (it 534), (it 16), (sv "/claim/cut.py" 535)]
noncomputable def o68 (P : Params) := fu (fnD 6 fun a b sc => .mk (.ofString "escape") (.ofString "escape") a (.stmts b) sc 3 [] .none .none .none (.str (.ofString "re") 382) none (.ref 67) .none 0)
noncomputable def o69 (P : Params) := tp #[]
noncomputable def o70 (P : Params) := fl #[]
noncomputable def o71 (P : Params) := tp #[(sv "pat" 542), (sv "STAR" 543), (sv "QUESTION_MARK" 544), (sv "res" 545), (sv "add" 546), (sv "i" 547), (sv "n" 548), (sv "c" 549), (sv "j" 550), (sv "stuff" 551), (sv "chunks" 552), (sv "k" 553), (sv "chunk" 554)]
noncomputable def o72 (P : Params) := tp #[]
noncomputable def o73 (P : Params) : Obj := ⟨.none, none, (.func (fnD 8 fun a b sc => .mk (.ofString "_translate") (.ofString "_translate") a (.stmts b) sc 0 [] .none .none .none .none none .none .none 0)), #[]⟩
noncomputable def o74 (P : Params) := cd #[(sv "_translate" 539), (sv "_translate" 540), (sv "/claim/cut.py" 541), (it 23), (it 3), (it 0), (it 0), (it 3), (.ref 69), (.bool true), (it 318), (.ref 70), .none, (.ref 71), (.ref 72), (.ref 73), (it 555), (it 23), (sv "/claim/cut.py" 556)]
noncomputable def o75 (P : Params) := fu (fnD 8 fun a b sc => .mk (.ofString "_translate") (.ofString "_translate") a (.stmts b) sc 3 [] .none .none .none (.str (.ofString "cpy313.fnmatch") 537) none (.ref 74) .none 0)
noncomputable def o76 (P : Params) : Obj := ⟨(.type "list"), none, (.seq #[(.int 14 561), (.int 17 562), (.int 4 563), (.int 1 564), (.int 1 565), (.int 21 566), (.int 9 567), (.int 0 568), (.int 604043296 569), (.int 1 570), (.int 0 571), (.int 0 572), (.int 0 573), (.int 0 574), (.int 0 575), (.int 8 576), (.int 4 577), (.int 0 578), (.int 13 579), (.int 14 580), (.int 21 581), (.int 9 582), (.int 0 583), (.int 604043296 584), (.int 1 585), (.int 0 586), (.int 0 587), (.int 0 588), (.int 0 589), (.int 0 590), (.int 8 591), (.int 4 592), (.int 0 593), (.int 1 594)] 0), #[]⟩
noncomputable def o77 (P : Params) : Obj := ⟨(.type "dict"), none, (.dict #[] 0), #[]⟩
noncomputable def o78 (P : Params) := tp #[.none]
noncomputable def o79 (P : Params) := tp #[(.int 14 0), (.int 17 0), (.int 4 0), (.int 1 0), (.int 1 0), (.int 21 0), (.int 9 0), (.int 0 0), (.int 604043296 0), (.int 1 0), (.int 0 0), (.int 0 0), (.int 0 0), (.int 0 0), (.int 0 0), (.int 8 0), (.int 4 0), (.int 0 0), (.int 13 0), (.int 14 0), (.int 21 0), (.int 9 0), (.int 0 0), (.int 604043296 0), (.int 1 0), (.int 0 0), (.int 0 0), (.int 0 0), (.int 0 0), (.int 0 0), (.int 8 0), (.int 4 0), (.int 0 0), (.int 1 0)]
noncomputable def o80 (P : Params) : Obj := ⟨(.type "re.Pattern"), none, (.fields #[(.str ⟨#[91, 94, 92, 119, 64, 37, 43, 61, 58, 44, 46, 47, 45, 93]⟩ 559), (.int 256 596), (.int 0 0), .none, .none, (.ref 79), (.int 0 0)]), #[]⟩
noncomputable def o81 (P : Params) := tp #[]
noncomputable def o82 (P : Params) := fl #[]
noncomputable def o83 (P : Params) := tp #[(sv "n" 603), (sv "what" 604)]
noncomputable def o84 (P : Params) := tp #[]
noncomputable def o85 (P : Params) : Obj := ⟨.none, none, (.func (fnD 11 fun a b sc => .mk (.ofString "_whence") (.ofString "_whence") a (.stmts b) sc 0 [] .none .none .none .none none .none .none 0)), #[]⟩
noncomputable def o86 (P : Params) := cd #[(sv "_whence" 600), (sv "_whence" 601), (sv "/claim/cut.py" 602), (it 87), (it 2), (it 0), (it 0), (it 3), (.ref 81), (.bool true), (it 318), (.ref 82), .none, (.ref 83), (.ref 84), (.ref 85), (it 605), (it 87), (sv "/claim/cut.py" 606)]
noncomputable def o87 (P : Params) := fu (fnD 11 fun a b sc => .mk (.ofString "_whence") (.ofString "_whence") a (.stmts b) sc 3 [] .none .none .none (.str (.ofString "io") 598) none (.ref 86) .none 0)
noncomputable def o88 (P : Params) := tp #[]
noncomputable def o89 (P : Params) := fl #[]
noncomputable def o90 (P : Params) := tp #[(sv "n" 611), (sv "what" 612)]
noncomputable def o91 (P : Params) := tp #[]
noncomputable def o92 (P : Params) : Obj := ⟨.none, none, (.func (fnD 12 fun a b sc => .mk (.ofString "_index") (.ofString "_index") a (.stmts b) sc 0 [] .none .none .none .none none .none .none 0)), #[]⟩
noncomputable def o93 (P : Params) := cd #[(sv "_index" 608), (sv "_index" 609), (sv "/claim/cut.py" 610), (it 92), (it 2), (it 0), (it 0), (it 3), (.ref 88), (.bool true), (it 318), (.ref 89), .none, (.ref 90), (.ref 91), (.ref 92), (it 613), (it 92), (sv "/claim/cut.py" 614)]
noncomputable def o94 (P : Params) := fu (fnD 12 fun a b sc => .mk (.ofString "_index") (.ofString "_index") a (.stmts b) sc 3 [] .none .none .none (.str (.ofString "io") 598) none (.ref 93) .none 0)
noncomputable def trp2 (P : Params) : BT := inz (trp1 P) [(3, o3v95 P), (35, o35v96 P), (62, o62 P), (63, o63 P), (64, o64 P), (65, o65 P), (66, o66 P), (67, o67 P), (68, o68 P), (69, o69 P), (70, o70 P), (71, o71 P), (72, o72 P), (73, o73 P), (74, o74 P), (75, o75 P), (76, o76 P), (77, o77 P), (78, o78 P), (79, o79 P), (80, o80 P), (81, o81 P), (82, o82 P), (83, o83 P), (84, o84 P), (85, o85 P), (86, o86 P), (87, o87 P), (88, o88 P), (89, o89 P), (90, o90 P), (91, o91 P), (92, o92 P), (93, o93 P), (94, o94 P)]
noncomputable def Sp2 (w : World) (os : OsState) : SharedT := ⟨trp2 w.params, 95, {}, #[], ⟨0, 0, 0, 0⟩, 616, os⟩
noncomputable def o2v130 (P : Params) : Obj := ⟨.none, none, (.dict #[en P "\x69mport.loaded._sre" 183 (.bool true), en P "class._frozen_importlib.BuiltinImporter" 185 (.ref 14), en P "watched.\x69mport" 206 (.ref 18), en P "class._frozen_importlib.ModuleSpec" 216 (.ref 22), en P "sys.modules.booked-epoch" 245 (.int 4 0), en P "\x69mport.later-laid._sre" 270 (.bool true), en P "watched.library" 272 (.ref 27), en P "watched.library-objects" 0 (.str ⟨#[12, 30]⟩ 0), en P "watched.library-deep._sre" 273 (.str ⟨#[4, 0, 0, 11, 4, 0, 0, 11, 4, 0, 0, 3, 4, 0, 0, 11, 8, 4, 100, 105, 99, 116, 2]⟩ 0), en P "\x69mport.loaded._collections" 280 (.bool true), en P "sys.modules.landed._collections" 294 (.bool true), en P "\x69mport.later-laid._collections" 309 (.bool true), en P "watched.library-deep._collections" 311 (.str ⟨#[4, 0, 0, 29, 4, 0, 0, 29, 4, 0, 0, 3, 4, 0, 0, 29, 8, 4, 100, 105, 99, 116, 2]⟩ 0), en P "type.__subclasses__.OSError.0" 634 (.int 104 0), en P "type.__subclasses__.OSError.n" 635 (.int 1 0)] 15), #[]⟩
noncomputable def o3v131 (P : Params) : Obj := ⟨(.type "dict"), none, (.dict #[en P "__name__" 165 (.str (.ofString "io") 598), en P "__doc__" 166 .none, en P "__package__" 167 .none, en P "__loader__" 168 (.builtin "__main__.__loader__#opaque"), en P "__spec__" 169 .none, en P "__annotations__" 170 (.ref 6), en P "__builtins__" 171 (.ref 4), en P "__file__" 173 (.str (.ofString "/claim/cut.py") 172), en P "__cached__" 174 .none, en P "_sre" 275 (.ref 12), en P "deque" 317 (.type "collections.deque"), en P "_wall" 330 (.ref 44), en P "_byteswap" 343 (.ref 51), en P "twin_re_1_fnmatch" 381 (.ref 56), en P "_special_chars_map" 529 (.ref 58), en P "escape" 536 (.ref 68), en P "_translate" 557 (.ref 75), en P "twin_re_1_shlex" 597 (.ref 80), en P "_whence" 607 (.ref 87), en P "_index" 615 (.ref 94), en P "UnsupportedOperation" 637 (.ref 104), en P "IOBase" 669 (.ref 124), en P "BufferedIOBase" 687 (.ref 139), en P "TextIOBase" 705 (.ref 151)] 24), #[]⟩
noncomputable def o35v132 (P : Params) := fl #[(it 3), (it 0), (.ref 43), (it 7), (it 0), (.ref 50), (it 16), (it 0), (.ref 67), (it 23), (it 0), (.ref 74), (it 87), (it 0), (.ref 86), (it 92), (it 0), (.ref 93), (it 99), (it 0), (.ref 100), (it 101), (it 0), (.ref 113), (it 108), (it 0), (.ref 135), (it 110), (it 0), (.ref 147)]
noncomputable def o95 (P : Params) := tp #[(.type "OSError"), (.type "ValueError")]
noncomputable def o96 (P : Params) : Obj := ⟨(.type "builtin_function_or_method"), none, (.fields #[(.builtin "type.__prepare__"), (.type "type")]), #[]⟩
noncomputable def o97 (P : Params) : Obj := ⟨(.type "dict"), none, (.dict #[en P "__module__" 623 (.str (.ofString "io") 628), en P "__qualname__" 625 (.str (.ofString "UnsupportedOperation") 624), en P "__firstlineno__" 627 (.int 99 626), en P "__static_attributes__" 630 (.ref 102)] 4), #[]⟩
noncomputable def o98 (P : Params) := tp #[]
noncomputable def o99 (P : Params) := fl #[]
noncomputable def o100 (P : Params) := cd #[(sv "UnsupportedOperation" 618), (sv "UnsupportedOperation" 619), (sv "/claim/cut.py" 620), (it 99), (it 0), (it 0), (it 0), (it 0), (.ref 98), (.bool false), (it 318), (.ref 99), .none, .none, .none, .none, (it 621), (it 99), (sv "/claim/cut.py" 622)]
noncomputable def o101 (P : Params) : Obj := ⟨(.type "frame"), none, .plain, #[(some (.ref 100)), (some (.ref 3)), (some (.ref 97)), none, (some (.str (.ofString "io") 598)), none, (some (.ref 0))]⟩
noncomputable def o102 (P : Params) := tp #[]
noncomputable def o103 (P : Params) : Obj := ⟨(.type "dict"), none, (.dict #[en P "__module__" 623 (.str (.ofString "io") 628), en P "__firstlineno__" 627 (.int 99 626), en P "__static_attributes__" 630 (.ref 102), en P "__weakref__" 632 (.ref 105), en P "__doc__" 633 .none] 3), #[]⟩
noncomputable def o104 (P : Params) : Obj := ⟨(.type "type"), none, (.cls (.mk (.ofString "UnsupportedOperation") [(.type "OSError"), (.type "ValueError")] [(.ref 104), (.type "OSError"), (.type "ValueError"), (.type "Exception"), (.type "BaseException"), (.type "object")] 103 (.ofString "UnsupportedOperation") true [] [] false none false)), #[(some (.ref 95)), none, (some (.str (.ofString "UnsupportedOperation") 616)), (some (.str (.ofString "UnsupportedOperation") 624)), (some (.builtin "OSError.__new__")), (some (.bool true))]⟩
noncomputable def o105 (P : Params) : Obj := ⟨(.type "getset_descriptor"), none, (.fields #[(.str (.ofString "__weakref__") 631), (.ref 104), (.builtin "ExceptionGroup.__weakref__"), .none]), #[]⟩
noncomputable def o106 (P : Params) : Obj := ⟨(.type "super"), none, (.fields #[(.ref 104), (.ref 104), (.ref 104)]), #[]⟩
noncomputable def o107 (P : Params) : Obj := ⟨(.type "builtin_function_or_method"), none, (.fields #[(.builtin "object.__init_subclass__"), (.ref 104)]), #[]⟩
noncomputable def o108 (P : Params) := tp #[]
noncomputable def o109 (P : Params) : Obj := ⟨(.type "builtin_function_or_method"), none, (.fields #[(.builtin "type.__prepare__"), (.type "type")]), #[]⟩
noncomputable def o110 (P : Params) : Obj := ⟨(.type "dict"), none, (.dict #[en P "__module__" 645 (.str (.ofString "io") 650), en P "__qualname__" 647 (.str (.ofString "IOBase") 646), en P "__firstlineno__" 649 (.int 101 648), en P "__new__" 660 (.ref 121), en P "__static_attributes__" 661 (.ref 122)] 5), #[]⟩
noncomputable def o111 (P : Params) := tp #[]
noncomputable def o112 (P : Params) := fl #[(it 104), (it 4), (.ref 120)]
noncomputable def o113 (P : Params) := cd #[(sv "IOBase" 640), (sv "IOBase" 641), (sv "/claim/cut.py" 642), (it 101), (it 0), (it 0), (it 0), (it 0), (.ref 111), (.bool false), (it 318), (.ref 112), .none, .none, .none, .none, (it 643), (it 101), (sv "/claim/cut.py" 644)]
noncomputable def o114 (P : Params) : Obj := ⟨(.type "frame"), none, .plain, #[(some (.ref 113)), (some (.ref 3)), (some (.ref 110)), none, (some (.str (.ofString "io") 598)), none, (some (.ref 0))]⟩
noncomputable def o115 (P : Params) := tp #[]
noncomputable def o116 (P : Params) := fl #[]
noncomputable def o117 (P : Params) := tp #[(sv "cls" 655), (sv "args" 656), (sv "kwargs" 657)]
noncomputable def o118 (P : Params) := tp #[]
noncomputable def o119 (P : Params) : Obj := ⟨.none, none, (.func (fnE 14 1 fun a b sc => .mk (.ofString "__new__") (.ofString "IOBase.__new__") a (.stmts b) sc 0 [] .none .none .none .none none .none .none 0)), #[]⟩
noncomputable def o120 (P : Params) := cd #[(sv "__new__" 652), (sv "IOBase.__new__" 653), (sv "/claim/cut.py" 654), (it 104), (it 1), (it 1), (it 0), (it 15), (.ref 115), (.bool true), (it 318), (.ref 116), .none, (.ref 117), (.ref 118), (.ref 119), (it 658), (it 104), (sv "/claim/cut.py" 659)]
noncomputable def o121 (P : Params) := fu (fnE 14 1 fun a b sc => .mk (.ofString "__new__") (.ofString "IOBase.__new__") a (.stmts b) sc 3 [] .none .none .none (.str (.ofString "io") 598) none (.ref 120) .none 0)
noncomputable def o122 (P : Params) := tp #[]
noncomputable def o123 (P : Params) : Obj := ⟨(.type "dict"), none, (.dict #[en P "__module__" 645 (.str (.ofString "io") 650), en P "__firstlineno__" 649 (.int 101 648), en P "__new__" 660 (.ref 125), en P "__static_attributes__" 661 (.ref 122), en P "__dict__" 664 (.ref 126), en P "__weakref__" 666 (.ref 127), en P "__doc__" 667 .none] 4), #[]⟩
noncomputable def o124 (P : Params) : Obj := ⟨(.type "type"), none, (.cls (.mk (.ofString "IOBase") [(.type "object")] [(.ref 124), (.type "object")] 123 (.ofString "IOBase") true [] [(.ref 139), (.ref 151)] false none false)), #[none, none, (some (.str (.ofString "IOBase") 638)), (some (.str (.ofString "IOBase") 646)), (some .none), (some (.bool true))]⟩
noncomputable def o125 (P : Params) : Obj := ⟨(.type "staticmethod"), none, (.fields #[(.ref 121)]), #[]⟩
noncomputable def o126 (P : Params) : Obj := ⟨(.type "getset_descriptor"), none, (.fields #[(.str (.ofString "__dict__") 663), (.ref 124), (.builtin "function.__dict__"), (.builtin "function.__dict__#set")]), #[]⟩
noncomputable def o127 (P : Params) : Obj := ⟨(.type "getset_descriptor"), none, (.fields #[(.str (.ofString "__weakref__") 665), (.ref 124), (.builtin "ExceptionGroup.__weakref__"), .none]), #[]⟩
noncomputable def o128 (P : Params) : Obj := ⟨(.type "super"), none, (.fields #[(.ref 124), (.ref 124), (.ref 124)]), #[]⟩
noncomputable def o129 (P : Params) : Obj := ⟨(.type "builtin_function_or_method"), none, (.fields #[(.builtin "object.__init_subclass__"), (.ref 124)]), #[]⟩
noncomputable def o130 (P : Params) := tp #[(.ref 124)]
noncomputable def o131 (P : Params) : Obj := ⟨(.type "builtin_function_or_method"), none, (.fields #[(.builtin "type.__prepare__"), (.type "type")]), #[]⟩
noncomputable def o132 (P : Params) : Obj := ⟨(.type "dict"), none, (.dict #[en P "__module__" 677 (.str (.ofString "io") 682), en P "__qualname__" 679 (.str (.ofString "BufferedIOBase") 678), en P "__firstlineno__" 681 (.int 108 680), en P "__static_attributes__" 684 (.ref 137)] 4), #[]⟩
noncomputable def o133 (P : Params) := tp #[]
noncomputable def o134 (P : Params) := fl #[]
noncomputable def o135 (P : Params) := cd #[(sv "BufferedIOBase" 672), (sv "BufferedIOBase" 673), (sv "/claim/cut.py" 674), (it 108), (it 0), (it 0), (it 0), (it 0), (.ref 133), (.bool false), (it 318), (.ref 134), .none, .none, .none, .none, (it 675), (it 108), (sv "/claim/cut.py" 676)]
noncomputable def o136 (P : Params) : Obj := ⟨(.type "frame"), none, .plain, #[(some (.ref 135)), (some (.ref 3)), (some (.ref 132)), none, (some (.str (.ofString "io") 598)), none, (some (.ref 0))]⟩
noncomputable def o137 (P : Params) := tp #[]
noncomputable def o138 (P : Params) : Obj := ⟨(.type "dict"), none, (.dict #[en P "__module__" 677 (.str (.ofString "io") 682), en P "__firstlineno__" 681 (.int 108 680), en P "__static_attributes__" 684 (.ref 137), en P "__doc__" 685 .none] 2), #[]⟩
noncomputable def o139 (P : Params) : Obj := ⟨(.type "type"), none, (.cls (.mk (.ofString "BufferedIOBase") [(.ref 124)] [(.ref 139), (.ref 124), (.type "object")] 138 (.ofString "BufferedIOBase") true [] [] false none false)), #[(some (.ref 130)), none, (some (.str (.ofString "BufferedIOBase") 670)), (some (.str (.ofString "BufferedIOBase") 678)), (some .none), (some (.bool true))]⟩
noncomputable def o140 (P : Params) : Obj := ⟨(.type "super"), none, (.fields #[(.ref 139), (.ref 139), (.ref 139)]), #[]⟩
noncomputable def o141 (P : Params) : Obj := ⟨(.type "builtin_function_or_method"), none, (.fields #[(.builtin "object.__init_subclass__"), (.ref 139)]), #[]⟩
noncomputable def o142 (P : Params) := tp #[(.ref 124)]
noncomputable def o143 (P : Params) : Obj := ⟨(.type "builtin_function_or_method"), none, (.fields #[(.builtin "type.__prepare__"), (.type "type")]), #[]⟩
noncomputable def o144 (P : Params) : Obj := ⟨(.type "dict"), none, (.dict #[en P "__module__" 695 (.str (.ofString "io") 700), en P "__qualname__" 697 (.str (.ofString "TextIOBase") 696), en P "__firstlineno__" 699 (.int 110 698), en P "__static_attributes__" 702 (.ref 149)] 4), #[]⟩
noncomputable def o145 (P : Params) := tp #[]
noncomputable def o146 (P : Params) := fl #[]
noncomputable def o147 (P : Params) := cd #[(sv "TextIOBase" 690), (sv "TextIOBase" 691), (sv "/claim/cut.py" 692), (it 110), (it 0), (it 0), (it 0), (it 0), (.ref 145), (.bool false), (it 318), (.ref 146), .none, .none, .none, .none, (it 693), (it 110), (sv "/claim/cut.py" 694)]
noncomputable def o148 (P : Params) : Obj := ⟨(.type "frame"), none, .plain, #[(some (.ref 147)), (some (.ref 3)), (some (.ref 144)), none, (some (.str (.ofString "io") 598)), none, (some (.ref 0))]⟩
noncomputable def o149 (P : Params) := tp #[]
noncomputable def o150 (P : Params) : Obj := ⟨(.type "dict"), none, (.dict #[en P "__module__" 695 (.str (.ofString "io") 700), en P "__firstlineno__" 699 (.int 110 698), en P "__static_attributes__" 702 (.ref 149), en P "__doc__" 703 .none] 2), #[]⟩
noncomputable def o151 (P : Params) : Obj := ⟨(.type "type"), none, (.cls (.mk (.ofString "TextIOBase") [(.ref 124)] [(.ref 151), (.ref 124), (.type "object")] 150 (.ofString "TextIOBase") true [] [] false none false)), #[(some (.ref 142)), none, (some (.str (.ofString "TextIOBase") 688)), (some (.str (.ofString "TextIOBase") 696)), (some .none), (some (.bool true))]⟩
noncomputable def o152 (P : Params) : Obj := ⟨(.type "super"), none, (.fields #[(.ref 151), (.ref 151), (.ref 151)]), #[]⟩
noncomputable def o153 (P : Params) : Obj := ⟨(.type "builtin_function_or_method"), none, (.fields #[(.builtin "object.__init_subclass__"), (.ref 151)]), #[]⟩
noncomputable def trp3 (P : Params) : BT := inz (trp2 P) [(2, o2v130 P), (3, o3v131 P), (35, o35v132 P), (95, o95 P), (96, o96 P), (97, o97 P), (98, o98 P), (99, o99 P), (100, o100 P), (101, o101 P), (102, o102 P), (103, o103 P), (104, o104 P), (105, o105 P), (106, o106 P), (107, o107 P), (108, o108 P), (109, o109 P), (110, o110 P), (111, o111 P), (112, o112 P), (113, o113 P), (114, o114 P), (115, o115 P), (116, o116 P), (117, o117 P), (118, o118 P), (119, o119 P), (120, o120 P), (121, o121 P), (122, o122 P), (123, o123 P), (124, o124 P), (125, o125 P), (126, o126 P), (127, o127 P), (128, o128 P), (129, o129 P), (130, o130 P), (131, o131 P), (132, o132 P), (133, o133 P), (134, o134 P), (135, o135 P), (136, o136 P), (137, o137 P), (138, o138 P), (139, o139 P), (140, o140 P), (141, o141 P), (142, o142 P), (143, o143 P), (144, o144 P), (145, o145 P), (146, o146 P), (147, o147 P), (148, o148 P), (149, o149 P), (150, o150 P), (151, o151 P), (152, o152 P), (153, o153 P)]
noncomputable def Sp3 (w : World) (os : OsState) : SharedT := ⟨trp3 w.params, 154, {}, #[], ⟨0, 0, 0, 0⟩, 706, os⟩
noncomputable def o3v192 (P : Params) : Obj := ⟨(.type "dict"), none, (.dict #[en P "__name__" 165 (.str (.ofString "io") 598), en P "__doc__" 166 .none, en P "__package__" 167 .none, en P "__loader__" 168 (.builtin "__main__.__loader__#opaque"), en P "__spec__" 169 .none, en P "__annotations__" 170 (.ref 6), en P "__builtins__" 171 (.ref 4), en P "__file__" 173 (.str (.ofString "/claim/cut.py") 172), en P "__cached__" 174 .none, en P "_sre" 275 (.ref 12), en P "deque" 317 (.type "collections.deque"), en P "_wall" 330 (.ref 44), en P "_byteswap" 343 (.ref 51), en P "twin_re_1_fnmatch" 381 (.ref 56), en P "_special_chars_map" 529 (.ref 58), en P "escape" 536 (.ref 68), en P "_translate" 557 (.ref 75), en P "twin_re_1_shlex" 597 (.ref 80), en P "_whence" 607 (.ref 87), en P "_index" 615 (.ref 94), en P "UnsupportedOperation" 637 (.ref 104), en P "IOBase" 669 (.ref 124), en P "BufferedIOBase" 687 (.ref 139), en P "TextIOBase" 705 (.ref 151), en P "BytesIO" 967 (.ref 381)] 25), #[]⟩
noncomputable def o35v193 (P : Params) := fl #[(it 3), (it 0), (.ref 43), (it 7), (it 0), (.ref 50), (it 16), (it 0), (.ref 67), (it 23), (it 0), (.ref 74), (it 87), (it 0), (.ref 86), (it 92), (it 0), (.ref 93), (it 99), (it 0), (.ref 100), (it 101), (it 0), (.ref 113), (it 108), (it 0), (.ref 135), (it 110), (it 0), (.ref 147), (it 112), (it 0), (.ref 159)]
noncomputable def o139v194 (P : Params) : Obj := ⟨(.type "type"), none, (.cls (.mk (.ofString "BufferedIOBase") [(.ref 124)] [(.ref 139), (.ref 124), (.type "object")] 138 (.ofString "BufferedIOBase") true [] [(.ref 381)] false none false)), #[(some (.ref 130)), none, (some (.str (.ofString "BufferedIOBase") 670)), (some (.str (.ofString "BufferedIOBase") 678)), (some .none), (some (.bool true))]⟩
noncomputable def o154 (P : Params) := tp #[(.ref 139)]
noncomputable def o155 (P : Params) : Obj := ⟨(.type "builtin_function_or_method"), none, (.fields #[(.builtin "type.__prepare__"), (.type "type")]), #[]⟩
noncomputable def o156 (P : Params) : Obj := ⟨(.type "dict"), none, (.dict #[en P "__module__" 713 (.str (.ofString "_io") 718), en P "__qualname__" 715 (.str (.ofString "BytesIO") 714), en P "__firstlineno__" 717 (.int 112 716), en P "__init__" 727 (.ref 168), en P "_BytesIO__check" 734 (.ref 175), en P "_BytesIO__line" 745 (.ref 182), en P "closed" 753 (.ref 190), en P "close" 760 (.ref 197), en P "__enter__" 767 (.ref 204), en P "__exit__" 775 (.ref 211), en P "readable" 782 (.ref 218), en P "writable" 789 (.ref 225), en P "seekable" 796 (.ref 232), en P "isatty" 803 (.ref 239), en P "flush" 810 (.ref 246), en P "fileno" 817 (.ref 253), en P "detach" 824 (.ref 260), en P "getvalue" 831 (.ref 267), en P "getbuffer" 838 (.ref 274), en P "tell" 845 (.ref 281), en P "seek" 855 (.ref 289), en P "truncate" 863 (.ref 297), en P "read" 875 (.ref 305), en P "read1" 885 (.ref 313), en P "readinto" 895 (.ref 320), en P "readinto1" 903 (.ref 327), en P "readline" 913 (.ref 335), en P "readlines" 921 (.ref 343), en P "__iter__" 928 (.ref 350), en P "__next__" 936 (.ref 357), en P "write" 946 (.ref 364), en P "writelines" 954 (.ref 371), en P "__repr__" 961 (.ref 378), en P "__static_attributes__" 964 (.ref 379)] 34), #[]⟩
noncomputable def o157 (P : Params) := tp #[]
noncomputable def o158 (P : Params) := fl #[(it 115), (it 4), (.ref 167), (it 121), (it 4), (.ref 174), (it 125), (it 4), (.ref 181), (it 139), (it 4), (.ref 188), (it 142), (it 4), (.ref 196), (it 145), (it 4), (.ref 203), (it 149), (it 4), (.ref 210), (it 152), (it 4), (.ref 217), (it 156), (it 4), (.ref 224), (it 160), (it 4), (.ref 231), (it 164), (it 4), (.ref 238), (it 168), (it 4), (.ref 245), (it 171), (it 4), (.ref 252), (it 174), (it 4), (.ref 259), (it 177), (it 4), (.ref 266), (it 180), (it 4), (.ref 273), (it 183), (it 4), (.ref 280), (it 187), (it 4), (.ref 288), (it 204), (it 4), (.ref 296), (it 207), (it 4), (.ref 304), (it 221), (it 4), (.ref 312), (it 224), (it 4), (.ref 319), (it 238), (it 4), (.ref 326), (it 241), (it 4), (.ref 334), (it 248), (it 4), (.ref 342), (it 251), (it 4), (.ref 349), (it 254), (it 4), (.ref 356), (it 261), (it 4), (.ref 363), (it 277), (it 4), (.ref 370), (it 280), (it 4), (.ref 377)]
noncomputable def o159 (P : Params) := cd #[(sv "BytesIO" 708), (sv "BytesIO" 709), (sv "/claim/cut.py" 710), (it 112), (it 0), (it 0), (it 0), (it 0), (.ref 157), (.bool false), (it 318), (.ref 158), .none, .none, .none, .none, (it 711), (it 112), (sv "/claim/cut.py" 712)]
noncomputable def o160 (P : Params) : Obj := ⟨(.type "frame"), none, .plain, #[(some (.ref 159)), (some (.ref 3)), (some (.ref 156)), none, (some (.str (.ofString "io") 598)), none, (some (.ref 0))]⟩
noncomputable def o161 (P : Params) := tp #[.none]
noncomputable def o162 (P : Params) := tp #[]
noncomputable def o163 (P : Params) := fl #[]
noncomputable def o164 (P : Params) := tp #[(sv "self" 723), (sv "initial_bytes" 724)]
noncomputable def o165 (P : Params) := tp #[]
noncomputable def o166 (P : Params) : Obj := ⟨.none, none, (.func (fnE 17 1 fun a b sc => .mk (.ofString "__init__") (.ofString "BytesIO.__init__") a (.stmts b) sc 0 [] .none .none .none .none none .none .none 0)), #[]⟩
noncomputable def o167 (P : Params) := cd #[(sv "__init__" 720), (sv "BytesIO.__init__" 721), (sv "/claim/cut.py" 722), (it 115), (it 2), (it 0), (it 0), (it 3), (.ref 162), (.bool true), (it 318), (.ref 163), .none, (.ref 164), (.ref 165), (.ref 166), (it 725), (it 115), (sv "/claim/cut.py" 726)]
noncomputable def o168 (P : Params) := fu (fnE 17 1 fun a b sc => .mk (.ofString "__init__") (.ofString "BytesIO.__init__") a (.stmts b) sc 3 [] (.ref 161) .none .none (.str (.ofString "io") 598) none (.ref 167) .none 0)
noncomputable def o169 (P : Params) := tp #[]
noncomputable def o170 (P : Params) := fl #[]
noncomputable def o171 (P : Params) := tp #[(sv "self" 731)]
noncomputable def o172 (P : Params) := tp #[]
noncomputable def o173 (P : Params) : Obj := ⟨.none, none, (.func (fnE 17 2 fun a b sc => .mk (.ofString "__check") (.ofString "BytesIO.__check") a (.stmts b) sc 0 [] .none .none .none .none none .none .none 0)), #[]⟩
noncomputable def o174 (P : Params) := cd #[(sv "__check" 728), (sv "BytesIO.__check" 729), (sv "/claim/cut.py" 730), (it 121), (it 1), (it 0), (it 0), (it 3), (.ref 169), (.bool true), (it 318), (.ref 170), .none, (.ref 171), (.ref 172), (.ref 173), (it 732), (it 121), (sv "/claim/cut.py" 733)]
noncomputable def o175 (P : Params) := fu (fnE 17 2 fun a b sc => .mk (.ofString "__check") (.ofString "BytesIO.__check") a (.stmts b) sc 3 [] .none .none .none (.str (.ofString "io") 598) none (.ref 174) .none 0)
noncomputable def o176 (P : Params) := tp #[]
noncomputable def o177 (P : Params) := fl #[]
noncomputable def o178 (P : Params) := tp #[(sv "self" 738), (sv "limit" 739), (sv "start" 740), (sv "stop" 741), (sv "i" 742)]
noncomputable def o179 (P : Params) := tp #[]
noncomputable def o180 (P : Params) : Obj := ⟨.none, none, (.func (fnE 17 3 fun a b sc => .mk (.ofString "__line") (.ofString "BytesIO.__line") a (.stmts b) sc 0 [] .none .none .none .none none .none .none 0)), #[]⟩
noncomputable def o181 (P : Params) := cd #[(sv "__line" 735), (sv "BytesIO.__line" 736), (sv "/claim/cut.py" 737), (it 125), (it 2), (it 0), (it 0), (it 3), (.ref 176), (.bool true), (it 318), (.ref 177), .none, (.ref 178), (.ref 179), (.ref 180), (it 743), (it 125), (sv "/claim/cut.py" 744)]
noncomputable def o182 (P : Params) := fu (fnE 17 3 fun a b sc => .mk (.ofString "__line") (.ofString "BytesIO.__line") a (.stmts b) sc 3 [] .none .none .none (.str (.ofString "io") 598) none (.ref 181) .none 0)
noncomputable def o183 (P : Params) := tp #[]
noncomputable def o184 (P : Params) := fl #[]
noncomputable def o185 (P : Params) := tp #[(sv "self" 749)]
noncomputable def o186 (P : Params) := tp #[]
noncomputable def o187 (P : Params) : Obj := ⟨.none, none, (.func (fnE 17 4 fun a b sc => .mk (.ofString "closed") (.ofString "BytesIO.closed") a (.stmts b) sc 0 [] .none .none .none .none none .none .none 0)), #[]⟩
noncomputable def o188 (P : Params) := cd #[(sv "closed" 746), (sv "BytesIO.closed" 747), (sv "/claim/cut.py" 748), (it 138), (it 1), (it 0), (it 0), (it 3), (.ref 183), (.bool true), (it 318), (.ref 184), .none, (.ref 185), (.ref 186), (.ref 187), (it 750), (it 138), (sv "/claim/cut.py" 751)]
noncomputable def o189 (P : Params) := fu (fnE 17 4 fun a b sc => .mk (.ofString "closed") (.ofString "BytesIO.closed") a (.stmts b) sc 3 [] .none .none .none (.str (.ofString "io") 598) none (.ref 188) .none 0)
noncomputable def o190 (P : Params) : Obj := ⟨(.type "property"), none, (.fields #[(.ref 189), .none, .none, .none, (.str (.ofString "closed") 753), (.bool false)]), #[]⟩
noncomputable def o191 (P : Params) := tp #[]
noncomputable def o192 (P : Params) := fl #[]
noncomputable def o193 (P : Params) := tp #[(sv "self" 757)]
noncomputable def o194 (P : Params) := tp #[]
noncomputable def o195 (P : Params) : Obj := ⟨.none, none, (.func (fnE 17 5 fun a b sc => .mk (.ofString "close") (.ofString "BytesIO.close") a (.stmts b) sc 0 [] .none .none .none .none none .none .none 0)), #[]⟩
noncomputable def o196 (P : Params) := cd #[(sv "close" 754), (sv "BytesIO.close" 755), (sv "/claim/cut.py" 756), (it 142), (it 1), (it 0), (it 0), (it 3), (.ref 191), (.bool true), (it 318), (.ref 192), .none, (.ref 193), (.ref 194), (.ref 195), (it 758), (it 142), (sv "/claim/cut.py" 759)]
noncomputable def o197 (P : Params) := fu (fnE 17 5 fun a b sc => .mk (.ofString "close") (.ofString "BytesIO.close") a (.stmts b) sc 3 [] .none .none .none (.str (.ofString "io") 598) none (.ref 196) .none 0)
noncomputable def o198 (P : Params) := tp #[]
noncomputable def o199 (P : Params) := fl #[]
noncomputable def o200 (P : Params) := tp #[(sv "self" 764)]
noncomputable def o201 (P : Params) := tp #[]
noncomputable def o202 (P : Params) : Obj := ⟨.none, none, (.func (fnE 17 6 fun a b sc => .mk (.ofString "__enter__") (.ofString "BytesIO.__enter__") a (.stmts b) sc 0 [] .none .none .none .none none .none .none 0)), #[]⟩
noncomputable def o203 (P : Params) := cd #[(sv "__enter__" 761), (sv "BytesIO.__enter__" 762), (sv "/claim/cut.py" 763), (it 145), (it 1), (it 0), (it 0), (it 3), (.ref 198), (.bool true), (it 318), (.ref 199), .none, (.ref 200), (.ref 201), (.ref 202), (it 765), (it 145), (sv "/claim/cut.py" 766)]
noncomputable def o204 (P : Params) := fu (fnE 17 6 fun a b sc => .mk (.ofString "__enter__") (.ofString "BytesIO.__enter__") a (.stmts b) sc 3 [] .none .none .none (.str (.ofString "io") 598) none (.ref 203) .none 0)
noncomputable def o205 (P : Params) := tp #[]
noncomputable def o206 (P : Params) := fl #[]
noncomputable def o207 (P : Params) := tp #[(sv "self" 771), (sv "args" 772)]
noncomputable def o208 (P : Params) := tp #[]
noncomputable def o209 (P : Params) : Obj := ⟨.none, none, (.func (fnE 17 7 fun a b sc => .mk (.ofString "__exit__") (.ofString "BytesIO.__exit__") a (.stmts b) sc 0 [] .none .none .none .none none .none .none 0)), #[]⟩
noncomputable def o210 (P : Params) := cd #[(sv "__exit__" 768), (sv "BytesIO.__exit__" 769), (sv "/claim/cut.py" 770), (it 149), (it 1), (it 0), (it 0), (it 7), (.ref 205), (.bool true), (it 318), (.ref 206), .none, (.ref 207), (.ref 208), (.ref 209), (it 773), (it 149), (sv "/claim/cut.py" 774)]
noncomputable def o211 (P : Params) := fu (fnE 17 7 fun a b sc => .mk (.ofString "__exit__") (.ofString "BytesIO.__exit__") a (.stmts b) sc 3 [] .none .none .none (.str (.ofString "io") 598) none (.ref 210) .none 0)
noncomputable def o212 (P : Params) := tp #[]
noncomputable def o213 (P : Params) := fl #[]
noncomputable def o214 (P : Params) := tp #[(sv "self" 779)]
noncomputable def o215 (P : Params) := tp #[]
noncomputable def o216 (P : Params) : Obj := ⟨.none, none, (.func (fnE 17 8 fun a b sc => .mk (.ofString "readable") (.ofString "BytesIO.readable") a (.stmts b) sc 0 [] .none .none .none .none none .none .none 0)), #[]⟩
noncomputable def o217 (P : Params) := cd #[(sv "readable" 776), (sv "BytesIO.readable" 777), (sv "/claim/cut.py" 778), (it 152), (it 1), (it 0), (it 0), (it 3), (.ref 212), (.bool true), (it 318), (.ref 213), .none, (.ref 214), (.ref 215), (.ref 216), (it 780), (it 152), (sv "/claim/cut.py" 781)]
noncomputable def o218 (P : Params) := fu (fnE 17 8 fun a b sc => .mk (.ofString "readable") (.ofString "BytesIO.readable") a (.stmts b) sc 3 [] .none .none .none (.str (.ofString "io") 598) none (.ref 217) .none 0)
noncomputable def o219 (P : Params) := tp #[]
noncomputable def o220 (P : Params) := fl #[]
noncomputable def o221 (P : Params) := tp #[(sv "self" 786)]
noncomputable def o222 (P : Params) := tp #[]
noncomputable def o223 (P : Params) : Obj := ⟨.none, none, (.func (fnE 17 9 fun a b sc => .mk (.ofString "writable") (.ofString "BytesIO.writable") a (.stmts b) sc 0 [] .none .none .none .none none .none .none 0)), #[]⟩
noncomputable def o224 (P : Params) := cd #[(sv "writable" 783), (sv "BytesIO.writable" 784), (sv "/claim/cut.py" 785), (it 156), (it 1), (it 0), (it 0), (it 3), (.ref 219), (.bool true), (it 318), (.ref 220), .none, (.ref 221), (.ref 222), (.ref 223), (it 787), (it 156), (sv "/claim/cut.py" 788)]
noncomputable def o225 (P : Params) := fu (fnE 17 9 fun a b sc => .mk (.ofString "writable") (.ofString "BytesIO.writable") a (.stmts b) sc 3 [] .none .none .none (.str (.ofString "io") 598) none (.ref 224) .none 0)
noncomputable def o226 (P : Params) := tp #[]
noncomputable def o227 (P : Params) := fl #[]
noncomputable def o228 (P : Params) := tp #[(sv "self" 793)]
noncomputable def o229 (P : Params) := tp #[]
noncomputable def o230 (P : Params) : Obj := ⟨.none, none, (.func (fnE 17 10 fun a b sc => .mk (.ofString "seekable") (.ofString "BytesIO.seekable") a (.stmts b) sc 0 [] .none .none .none .none none .none .none 0)), #[]⟩
noncomputable def o231 (P : Params) := cd #[(sv "seekable" 790), (sv "BytesIO.seekable" 791), (sv "/claim/cut.py" 792), (it 160), (it 1), (it 0), (it 0), (it 3), (.ref 226), (.bool true), (it 318), (.ref 227), .none, (.ref 228), (.ref 229), (.ref 230), (it 794), (it 160), (sv "/claim/cut.py" 795)]
noncomputable def o232 (P : Params) := fu (fnE 17 10 fun a b sc => .mk (.ofString "seekable") (.ofString "BytesIO.seekable") a (.stmts b) sc 3 [] .none .none .none (.str (.ofString "io") 598) none (.ref 231) .none 0)
noncomputable def o233 (P : Params) := tp #[]
noncomputable def o234 (P : Params) := fl #[]
noncomputable def o235 (P : Params) := tp #[(sv "self" 800)]
noncomputable def o236 (P : Params) := tp #[]
noncomputable def o237 (P : Params) : Obj := ⟨.none, none, (.func (fnE 17 11 fun a b sc => .mk (.ofString "isatty") (.ofString "BytesIO.isatty") a (.stmts b) sc 0 [] .none .none .none .none none .none .none 0)), #[]⟩
noncomputable def o238 (P : Params) := cd #[(sv "isatty" 797), (sv "BytesIO.isatty" 798), (sv "/claim/cut.py" 799), (it 164), (it 1), (it 0), (it 0), (it 3), (.ref 233), (.bool true), (it 318), (.ref 234), .none, (.ref 235), (.ref 236), (.ref 237), (it 801), (it 164), (sv "/claim/cut.py" 802)]
noncomputable def o239 (P : Params) := fu (fnE 17 11 fun a b sc => .mk (.ofString "isatty") (.ofString "BytesIO.isatty") a (.stmts b) sc 3 [] .none .none .none (.str (.ofString "io") 598) none (.ref 238) .none 0)
noncomputable def o240 (P : Params) := tp #[]
noncomputable def o241 (P : Params) := fl #[]
noncomputable def o242 (P : Params) := tp #[(sv "self" 807)]
noncomputable def o243 (P : Params) := tp #[]
noncomputable def o244 (P : Params) : Obj := ⟨.none, none, (.func (fnE 17 12 fun a b sc => .mk (.ofString "flush") (.ofString "BytesIO.flush") a (.stmts b) sc 0 [] .none .none .none .none none .none .none 0)), #[]⟩
noncomputable def o245 (P : Params) := cd #[(sv "flush" 804), (sv "BytesIO.flush" 805), (sv "/claim/cut.py" 806), (it 168), (it 1), (it 0), (it 0), (it 3), (.ref 240), (.bool true), (it 318), (.ref 241), .none, (.ref 242), (.ref 243), (.ref 244), (it 808), (it 168), (sv "/claim/cut.py" 809)]
noncomputable def o246 (P : Params) := fu (fnE 17 12 fun a b sc => .mk (.ofString "flush") (.ofString "BytesIO.flush") a (.stmts b) sc 3 [] .none .none .none (.str (.ofString "io") 598) none (.ref 245) .none 0)
noncomputable def o247 (P : Params) := tp #[]
noncomputable def o248 (P : Params) := fl #[]
noncomputable def o249 (P : Params) := tp #[(sv "self" 814)]
noncomputable def o250 (P : Params) := tp #[]
noncomputable def o251 (P : Params) : Obj := ⟨.none, none, (.func (fnE 17 13 fun a b sc => .mk (.ofString "fileno") (.ofString "BytesIO.fileno") a (.stmts b) sc 0 [] .none .none .none .none none .none .none 0)), #[]⟩
noncomputable def o252 (P : Params) := cd #[(sv "fileno" 811), (sv "BytesIO.fileno" 812), (sv "/claim/cut.py" 813), (it 171), (it 1), (it 0), (it 0), (it 3), (.ref 247), (.bool true), (it 318), (.ref 248), .none, (.ref 249), (.ref 250), (.ref 251), (it 815), (it 171), (sv "/claim/cut.py" 816)]
noncomputable def o253 (P : Params) := fu (fnE 17 13 fun a b sc => .mk (.ofString "fileno") (.ofString "BytesIO.fileno") a (.stmts b) sc 3 [] .none .none .none (.str (.ofString "io") 598) none (.ref 252) .none 0)
noncomputable def o254 (P : Params) := tp #[]
noncomputable def o255 (P : Params) := fl #[]
noncomputable def o256 (P : Params) := tp #[(sv "self" 821)]
noncomputable def o257 (P : Params) := tp #[]
noncomputable def o258 (P : Params) : Obj := ⟨.none, none, (.func (fnE 17 14 fun a b sc => .mk (.ofString "detach") (.ofString "BytesIO.detach") a (.stmts b) sc 0 [] .none .none .none .none none .none .none 0)), #[]⟩
noncomputable def o259 (P : Params) := cd #[(sv "detach" 818), (sv "BytesIO.detach" 819), (sv "/claim/cut.py" 820), (it 174), (it 1), (it 0), (it 0), (it 3), (.ref 254), (.bool true), (it 318), (.ref 255), .none, (.ref 256), (.ref 257), (.ref 258), (it 822), (it 174), (sv "/claim/cut.py" 823)]
noncomputable def o260 (P : Params) := fu (fnE 17 14 fun a b sc => .mk (.ofString "detach") (.ofString "BytesIO.detach") a (.stmts b) sc 3 [] .none .none .none (.str (.ofString "io") 598) none (.ref 259) .none 0)
noncomputable def o261 (P : Params) := tp #[]
noncomputable def o262 (P : Params) := fl #[]
noncomputable def o263 (P : Params) := tp #[(sv "self" 828)]
noncomputable def o264 (P : Params) := tp #[]
noncomputable def o265 (P : Params) : Obj := ⟨.none, none, (.func (fnE 17 15 fun a b sc => .mk (.ofString "getvalue") (.ofString "BytesIO.getvalue") a (.stmts b) sc 0 [] .none .none .none .none none .none .none 0)), #[]⟩
noncomputable def o266 (P : Params) := cd #[(sv "getvalue" 825), (sv "BytesIO.getvalue" 826), (sv "/claim/cut.py" 827), (it 177), (it 1), (it 0), (it 0), (it 3), (.ref 261), (.bool true), (it 318), (.ref 262), .none, (.ref 263), (.ref 264), (.ref 265), (it 829), (it 177), (sv "/claim/cut.py" 830)]
noncomputable def o267 (P : Params) := fu (fnE 17 15 fun a b sc => .mk (.ofString "getvalue") (.ofString "BytesIO.getvalue") a (.stmts b) sc 3 [] .none .none .none (.str (.ofString "io") 598) none (.ref 266) .none 0)
noncomputable def o268 (P : Params) := tp #[]
noncomputable def o269 (P : Params) := fl #[]
noncomputable def o270 (P : Params) := tp #[(sv "self" 835)]
noncomputable def o271 (P : Params) := tp #[]
noncomputable def o272 (P : Params) : Obj := ⟨.none, none, (.func (fnE 17 16 fun a b sc => .mk (.ofString "getbuffer") (.ofString "BytesIO.getbuffer") a (.stmts b) sc 0 [] .none .none .none .none none .none .none 0)), #[]⟩
noncomputable def o273 (P : Params) := cd #[(sv "getbuffer" 832), (sv "BytesIO.getbuffer" 833), (sv "/claim/cut.py" 834), (it 180), (it 1), (it 0), (it 0), (it 3), (.ref 268), (.bool true), (it 318), (.ref 269), .none, (.ref 270), (.ref 271), (.ref 272), (it 836), (it 180), (sv "/claim/cut.py" 837)]
noncomputable def o274 (P : Params) := fu (fnE 17 16 fun a b sc => .mk (.ofString "getbuffer") (.ofString "BytesIO.getbuffer") a (.stmts b) sc 3 [] .none .none .none (.str (.ofString "io") 598) none (.ref 273) .none 0)
noncomputable def o275 (P : Params) := tp #[]
noncomputable def o276 (P : Params) := fl #[]
noncomputable def o277 (P : Params) := tp #[(sv "self" 842)]
noncomputable def o278 (P : Params) := tp #[]
noncomputable def o279 (P : Params) : Obj := ⟨.none, none, (.func (fnE 17 17 fun a b sc => .mk (.ofString "tell") (.ofString "BytesIO.tell") a (.stmts b) sc 0 [] .none .none .none .none none .none .none 0)), #[]⟩
noncomputable def o280 (P : Params) := cd #[(sv "tell" 839), (sv "BytesIO.tell" 840), (sv "/claim/cut.py" 841), (it 183), (it 1), (it 0), (it 0), (it 3), (.ref 275), (.bool true), (it 318), (.ref 276), .none, (.ref 277), (.ref 278), (.ref 279), (it 843), (it 183), (sv "/claim/cut.py" 844)]
noncomputable def o281 (P : Params) := fu (fnE 17 17 fun a b sc => .mk (.ofString "tell") (.ofString "BytesIO.tell") a (.stmts b) sc 3 [] .none .none .none (.str (.ofString "io") 598) none (.ref 280) .none 0)
noncomputable def o282 (P : Params) := tp #[(.int 0 846)]
noncomputable def o283 (P : Params) := tp #[]
noncomputable def o284 (P : Params) := fl #[]
noncomputable def o285 (P : Params) := tp #[(sv "self" 850), (sv "pos" 851), (sv "whence" 852)]
noncomputable def o286 (P : Params) := tp #[]
noncomputable def o287 (P : Params) : Obj := ⟨.none, none, (.func (fnE 17 18 fun a b sc => .mk (.ofString "seek") (.ofString "BytesIO.seek") a (.stmts b) sc 0 [] .none .none .none .none none .none .none 0)), #[]⟩
noncomputable def o288 (P : Params) := cd #[(sv "seek" 847), (sv "BytesIO.seek" 848), (sv "/claim/cut.py" 849), (it 187), (it 3), (it 3), (it 0), (it 3), (.ref 283), (.bool true), (it 318), (.ref 284), .none, (.ref 285), (.ref 286), (.ref 287), (it 853), (it 187), (sv "/claim/cut.py" 854)]
noncomputable def o289 (P : Params) := fu (fnE 17 18 fun a b sc => .mk (.ofString "seek") (.ofString "BytesIO.seek") a (.stmts b) sc 3 [] (.ref 282) .none .none (.str (.ofString "io") 598) none (.ref 288) .none 0)
noncomputable def o290 (P : Params) := tp #[.none]
noncomputable def o291 (P : Params) := tp #[]
noncomputable def o292 (P : Params) := fl #[]
noncomputable def o293 (P : Params) := tp #[(sv "self" 859), (sv "size" 860)]
noncomputable def o294 (P : Params) := tp #[]
noncomputable def o295 (P : Params) : Obj := ⟨.none, none, (.func (fnE 17 19 fun a b sc => .mk (.ofString "truncate") (.ofString "BytesIO.truncate") a (.stmts b) sc 0 [] .none .none .none .none none .none .none 0)), #[]⟩
noncomputable def o296 (P : Params) := cd #[(sv "truncate" 856), (sv "BytesIO.truncate" 857), (sv "/claim/cut.py" 858), (it 204), (it 2), (it 2), (it 0), (it 3), (.ref 291), (.bool true), (it 318), (.ref 292), .none, (.ref 293), (.ref 294), (.ref 295), (it 861), (it 204), (sv "/claim/cut.py" 862)]
noncomputable def o297 (P : Params) := fu (fnE 17 19 fun a b sc => .mk (.ofString "truncate") (.ofString "BytesIO.truncate") a (.stmts b) sc 3 [] (.ref 290) .none .none (.str (.ofString "io") 598) none (.ref 296) .none 0)
noncomputable def o298 (P : Params) := tp #[(.int (-1) 865)]
noncomputable def o299 (P : Params) := tp #[]
noncomputable def o300 (P : Params) := fl #[]
noncomputable def o301 (P : Params) := tp #[(sv "self" 869), (sv "size" 870), (sv "start" 871), (sv "stop" 872)]
noncomputable def o302 (P : Params) := tp #[]
noncomputable def o303 (P : Params) : Obj := ⟨.none, none, (.func (fnE 17 20 fun a b sc => .mk (.ofString "read") (.ofString "BytesIO.read") a (.stmts b) sc 0 [] .none .none .none .none none .none .none 0)), #[]⟩
noncomputable def o304 (P : Params) := cd #[(sv "read" 866), (sv "BytesIO.read" 867), (sv "/claim/cut.py" 868), (it 207), (it 2), (it 2), (it 0), (it 3), (.ref 299), (.bool true), (it 318), (.ref 300), .none, (.ref 301), (.ref 302), (.ref 303), (it 873), (it 207), (sv "/claim/cut.py" 874)]
noncomputable def o305 (P : Params) := fu (fnE 17 20 fun a b sc => .mk (.ofString "read") (.ofString "BytesIO.read") a (.stmts b) sc 3 [] (.ref 298) .none .none (.str (.ofString "io") 598) none (.ref 304) .none 0)
noncomputable def o306 (P : Params) := tp #[(.int (-1) 877)]
noncomputable def o307 (P : Params) := tp #[]
noncomputable def o308 (P : Params) := fl #[]
noncomputable def o309 (P : Params) := tp #[(sv "self" 881), (sv "size" 882)]
noncomputable def o310 (P : Params) := tp #[]
noncomputable def o311 (P : Params) : Obj := ⟨.none, none, (.func (fnE 17 21 fun a b sc => .mk (.ofString "read1") (.ofString "BytesIO.read1") a (.stmts b) sc 0 [] .none .none .none .none none .none .none 0)), #[]⟩
noncomputable def o312 (P : Params) := cd #[(sv "read1" 878), (sv "BytesIO.read1" 879), (sv "/claim/cut.py" 880), (it 221), (it 2), (it 2), (it 0), (it 3), (.ref 307), (.bool true), (it 318), (.ref 308), .none, (.ref 309), (.ref 310), (.ref 311), (it 883), (it 221), (sv "/claim/cut.py" 884)]
noncomputable def o313 (P : Params) := fu (fnE 17 21 fun a b sc => .mk (.ofString "read1") (.ofString "BytesIO.read1") a (.stmts b) sc 3 [] (.ref 306) .none .none (.str (.ofString "io") 598) none (.ref 312) .none 0)
noncomputable def o314 (P : Params) := tp #[]
noncomputable def o315 (P : Params) := fl #[]
noncomputable def o316 (P : Params) := tp #[(sv "self" 889), (sv "buffer" 890), (sv "start" 891), (sv "n" 892)]
noncomputable def o317 (P : Params) := tp #[]
noncomputable def o318 (P : Params) : Obj := ⟨.none, none, (.func (fnE 17 22 fun a b sc => .mk (.ofString "readinto") (.ofString "BytesIO.readinto") a (.stmts b) sc 0 [] .none .none .none .none none .none .none 0)), #[]⟩
noncomputable def o319 (P : Params) := cd #[(sv "readinto" 886), (sv "BytesIO.readinto" 887), (sv "/claim/cut.py" 888), (it 224), (it 2), (it 2), (it 0), (it 3), (.ref 314), (.bool true), (it 318), (.ref 315), .none, (.ref 316), (.ref 317), (.ref 318), (it 893), (it 224), (sv "/claim/cut.py" 894)]
noncomputable def o320 (P : Params) := fu (fnE 17 22 fun a b sc => .mk (.ofString "readinto") (.ofString "BytesIO.readinto") a (.stmts b) sc 3 [] .none .none .none (.str (.ofString "io") 598) none (.ref 319) .none 0)
noncomputable def o321 (P : Params) := tp #[]
noncomputable def o322 (P : Params) := fl #[]
noncomputable def o323 (P : Params) := tp #[(sv "self" 899), (sv "buffer" 900)]
noncomputable def o324 (P : Params) := tp #[]
noncomputable def o325 (P : Params) : Obj := ⟨.none, none, (.func (fnE 17 23 fun a b sc => .mk (.ofString "readinto1") (.ofString "BytesIO.readinto1") a (.stmts b) sc 0 [] .none .none .none .none none .none .none 0)), #[]⟩
noncomputable def o326 (P : Params) := cd #[(sv "readinto1" 896), (sv "BytesIO.readinto1" 897), (sv "/claim/cut.py" 898), (it 238), (it 2), (it 2), (it 0), (it 3), (.ref 321), (.bool true), (it 318), (.ref 322), .none, (.ref 323), (.ref 324), (.ref 325), (it 901), (it 238), (sv "/claim/cut.py" 902)]
noncomputable def o327 (P : Params) := fu (fnE 17 23 fun a b sc => .mk (.ofString "readinto1") (.ofString "BytesIO.readinto1") a (.stmts b) sc 3 [] .none .none .none (.str (.ofString "io") 598) none (.ref 326) .none 0)
noncomputable def o328 (P : Params) := tp #[(.int (-1) 905)]
noncomputable def o329 (P : Params) := tp #[]
noncomputable def o330 (P : Params) := fl #[]
noncomputable def o331 (P : Params) := tp #[(sv "self" 909), (sv "size" 910)]
noncomputable def o332 (P : Params) := tp #[]
noncomputable def o333 (P : Params) : Obj := ⟨.none, none, (.func (fnE 17 24 fun a b sc => .mk (.ofString "readline") (.ofString "BytesIO.readline") a (.stmts b) sc 0 [] .none .none .none .none none .none .none 0)), #[]⟩
noncomputable def o334 (P : Params) := cd #[(sv "readline" 906), (sv "BytesIO.readline" 907), (sv "/claim/cut.py" 908), (it 241), (it 2), (it 2), (it 0), (it 3), (.ref 329), (.bool true), (it 318), (.ref 330), .none, (.ref 331), (.ref 332), (.ref 333), (it 911), (it 241), (sv "/claim/cut.py" 912)]
noncomputable def o335 (P : Params) := fu (fnE 17 24 fun a b sc => .mk (.ofString "readline") (.ofString "BytesIO.readline") a (.stmts b) sc 3 [] (.ref 328) .none .none (.str (.ofString "io") 598) none (.ref 334) .none 0)
noncomputable def o336 (P : Params) := tp #[.none]
noncomputable def o337 (P : Params) := tp #[]
noncomputable def o338 (P : Params) := fl #[]
noncomputable def o339 (P : Params) := tp #[(sv "self" 917), (sv "size" 918)]
noncomputable def o340 (P : Params) := tp #[]
noncomputable def o341 (P : Params) : Obj := ⟨.none, none, (.func (fnE 17 25 fun a b sc => .mk (.ofString "readlines") (.ofString "BytesIO.readlines") a (.stmts b) sc 0 [] .none .none .none .none none .none .none 0)), #[]⟩
noncomputable def o342 (P : Params) := cd #[(sv "readlines" 914), (sv "BytesIO.readlines" 915), (sv "/claim/cut.py" 916), (it 248), (it 2), (it 2), (it 0), (it 3), (.ref 337), (.bool true), (it 318), (.ref 338), .none, (.ref 339), (.ref 340), (.ref 341), (it 919), (it 248), (sv "/claim/cut.py" 920)]
noncomputable def o343 (P : Params) := fu (fnE 17 25 fun a b sc => .mk (.ofString "readlines") (.ofString "BytesIO.readlines") a (.stmts b) sc 3 [] (.ref 336) .none .none (.str (.ofString "io") 598) none (.ref 342) .none 0)
noncomputable def o344 (P : Params) := tp #[]
noncomputable def o345 (P : Params) := fl #[]
noncomputable def o346 (P : Params) := tp #[(sv "self" 925)]
noncomputable def o347 (P : Params) := tp #[]
noncomputable def o348 (P : Params) : Obj := ⟨.none, none, (.func (fnE 17 26 fun a b sc => .mk (.ofString "__iter__") (.ofString "BytesIO.__iter__") a (.stmts b) sc 0 [] .none .none .none .none none .none .none 0)), #[]⟩
noncomputable def o349 (P : Params) := cd #[(sv "__iter__" 922), (sv "BytesIO.__iter__" 923), (sv "/claim/cut.py" 924), (it 251), (it 1), (it 0), (it 0), (it 3), (.ref 344), (.bool true), (it 318), (.ref 345), .none, (.ref 346), (.ref 347), (.ref 348), (it 926), (it 251), (sv "/claim/cut.py" 927)]
noncomputable def o350 (P : Params) := fu (fnE 17 26 fun a b sc => .mk (.ofString "__iter__") (.ofString "BytesIO.__iter__") a (.stmts b) sc 3 [] .none .none .none (.str (.ofString "io") 598) none (.ref 349) .none 0)
noncomputable def o351 (P : Params) := tp #[]
noncomputable def o352 (P : Params) := fl #[]
noncomputable def o353 (P : Params) := tp #[(sv "self" 932), (sv "line" 933)]
noncomputable def o354 (P : Params) := tp #[]
noncomputable def o355 (P : Params) : Obj := ⟨.none, none, (.func (fnE 17 27 fun a b sc => .mk (.ofString "__next__") (.ofString "BytesIO.__next__") a (.stmts b) sc 0 [] .none .none .none .none none .none .none 0)), #[]⟩
noncomputable def o356 (P : Params) := cd #[(sv "__next__" 929), (sv "BytesIO.__next__" 930), (sv "/claim/cut.py" 931), (it 254), (it 1), (it 0), (it 0), (it 3), (.ref 351), (.bool true), (it 318), (.ref 352), .none, (.ref 353), (.ref 354), (.ref 355), (it 934), (it 254), (sv "/claim/cut.py" 935)]
noncomputable def o357 (P : Params) := fu (fnE 17 27 fun a b sc => .mk (.ofString "__next__") (.ofString "BytesIO.__next__") a (.stmts b) sc 3 [] .none .none .none (.str (.ofString "io") 598) none (.ref 356) .none 0)
noncomputable def o358 (P : Params) := tp #[]
noncomputable def o359 (P : Params) := fl #[]
noncomputable def o360 (P : Params) := tp #[(sv "self" 940), (sv "b" 941), (sv "n" 942), (sv "start" 943)]
noncomputable def o361 (P : Params) := tp #[]
noncomputable def o362 (P : Params) : Obj := ⟨.none, none, (.func (fnE 17 28 fun a b sc => .mk (.ofString "write") (.ofString "BytesIO.write") a (.stmts b) sc 0 [] .none .none .none .none none .none .none 0)), #[]⟩
noncomputable def o363 (P : Params) := cd #[(sv "write" 937), (sv "BytesIO.write" 938), (sv "/claim/cut.py" 939), (it 261), (it 2), (it 2), (it 0), (it 3), (.ref 358), (.bool true), (it 318), (.ref 359), .none, (.ref 360), (.ref 361), (.ref 362), (it 944), (it 261), (sv "/claim/cut.py" 945)]
noncomputable def o364 (P : Params) := fu (fnE 17 28 fun a b sc => .mk (.ofString "write") (.ofString "BytesIO.write") a (.stmts b) sc 3 [] .none .none .none (.str (.ofString "io") 598) none (.ref 363) .none 0)
noncomputable def o365 (P : Params) := tp #[]
noncomputable def o366 (P : Params) := fl #[]
noncomputable def o367 (P : Params) := tp #[(sv "self" 950), (sv "lines" 951)]
noncomputable def o368 (P : Params) := tp #[]
noncomputable def o369 (P : Params) : Obj := ⟨.none, none, (.func (fnE 17 29 fun a b sc => .mk (.ofString "writelines") (.ofString "BytesIO.writelines") a (.stmts b) sc 0 [] .none .none .none .none none .none .none 0)), #[]⟩
noncomputable def o370 (P : Params) := cd #[(sv "writelines" 947), (sv "BytesIO.writelines" 948), (sv "/claim/cut.py" 949), (it 277), (it 2), (it 2), (it 0), (it 3), (.ref 365), (.bool true), (it 318), (.ref 366), .none, (.ref 367), (.ref 368), (.ref 369), (it 952), (it 277), (sv "/claim/cut.py" 953)]
noncomputable def o371 (P : Params) := fu (fnE 17 29 fun a b sc => .mk (.ofString "writelines") (.ofString "BytesIO.writelines") a (.stmts b) sc 3 [] .none .none .none (.str (.ofString "io") 598) none (.ref 370) .none 0)
noncomputable def o372 (P : Params) := tp #[]
noncomputable def o373 (P : Params) := fl #[]
noncomputable def o374 (P : Params) := tp #[(sv "self" 958)]
noncomputable def o375 (P : Params) := tp #[]
noncomputable def o376 (P : Params) : Obj := ⟨.none, none, (.func (fnE 17 30 fun a b sc => .mk (.ofString "__repr__") (.ofString "BytesIO.__repr__") a (.stmts b) sc 0 [] .none .none .none .none none .none .none 0)), #[]⟩
noncomputable def o377 (P : Params) := cd #[(sv "__repr__" 955), (sv "BytesIO.__repr__" 956), (sv "/claim/cut.py" 957), (it 280), (it 1), (it 0), (it 0), (it 3), (.ref 372), (.bool true), (it 318), (.ref 373), .none, (.ref 374), (.ref 375), (.ref 376), (it 959), (it 280), (sv "/claim/cut.py" 960)]
noncomputable def o378 (P : Params) := fu (fnE 17 30 fun a b sc => .mk (.ofString "__repr__") (.ofString "BytesIO.__repr__") a (.stmts b) sc 3 [] .none .none .none (.str (.ofString "io") 598) none (.ref 377) .none 0)
noncomputable def o379 (P : Params) := tp #[(sv "__buf" 962), (sv "__pos" 963)]
noncomputable def o380 (P : Params) : Obj := ⟨(.type "dict"), none, (.dict #[en P "__module__" 713 (.str (.ofString "_io") 718), en P "__firstlineno__" 717 (.int 112 716), en P "__init__" 727 (.ref 168), en P "_BytesIO__check" 734 (.ref 175), en P "_BytesIO__line" 745 (.ref 182), en P "closed" 753 (.ref 190), en P "close" 760 (.ref 197), en P "__enter__" 767 (.ref 204), en P "__exit__" 775 (.ref 211), en P "readable" 782 (.ref 218), en P "writable" 789 (.ref 225), en P "seekable" 796 (.ref 232), en P "isatty" 803 (.ref 239), en P "flush" 810 (.ref 246), en P "fileno" 817 (.ref 253), en P "detach" 824 (.ref 260), en P "getvalue" 831 (.ref 267), en P "getbuffer" 838 (.ref 274), en P "tell" 845 (.ref 281), en P "seek" 855 (.ref 289), en P "truncate" 863 (.ref 297), en P "read" 875 (.ref 305), en P "read1" 885 (.ref 313), en P "readinto" 895 (.ref 320), en P "readinto1" 903 (.ref 327), en P "readline" 913 (.ref 335), en P "readlines" 921 (.ref 343), en P "__iter__" 928 (.ref 350), en P "__next__" 936 (.ref 357), en P "write" 946 (.ref 364), en P "writelines" 954 (.ref 371), en P "__repr__" 961 (.ref 378), en P "__static_attributes__" 964 (.ref 379), en P "__doc__" 965 .none] 2), #[]⟩
noncomputable def o381 (P : Params) : Obj := ⟨(.type "type"), none, (.cls (.mk (.ofString "BytesIO") [(.ref 139)] [(.ref 381), (.ref 139), (.ref 124), (.type "object")] 380 (.ofString "BytesIO") true [] [] false none false)), #[(some (.ref 154)), none, (some (.str (.ofString "BytesIO") 706)), (some (.str (.ofString "BytesIO") 714)), (some .none), (some (.bool true))]⟩
noncomputable def o382 (P : Params) : Obj := ⟨(.type "super"), none, (.fields #[(.ref 381), (.ref 381), (.ref 381)]), #[]⟩
noncomputable def o383 (P : Params) : Obj := ⟨(.type "builtin_function_or_method"), none, (.fields #[(.builtin "object.__init_subclass__"), (.ref 381)]), #[]⟩
noncomputable def trp4 (P : Params) : BT := inz (trp3 P) [(3, o3v192 P), (35, o35v193 P), (139, o139v194 P), (154, o154 P), (155, o155 P), (156, o156 P), (157, o157 P), (158, o158 P), (159, o159 P), (160, o160 P), (161, o161 P), (162, o162 P), (163, o163 P), (164, o164 P), (165, o165 P), (166, o166 P), (167, o167 P), (168, o168 P), (169, o169 P), (170, o170 P), (171, o171 P), (172, o172 P), (173, o173 P), (174, o174 P), (175, o175 P), (176, o176 P), (177, o177 P), (178, o178 P), (179, o179 P), (180, o180 P), (181, o181 P), (182, o182 P), (183, o183 P), (184, o184 P), (185, o185 P), (186, o186 P), (187, o187 P), (188, o188 P), (189, o189 P), (190, o190 P), (191, o191 P), (192, o192 P), (193, o193 P), (194, o194 P), (195, o195 P), (196, o196 P), (197, o197 P), (198, o198 P), (199, o199 P), (200, o200 P), (201, o201 P), (202, o202 P), (203, o203 P), (204, o204 P), (205, o205 P), (206, o206 P), (207, o207 P), (208, o208 P), (209, o209 P), (210, o210 P), (211, o211 P), (212, o212 P), (213, o213 P), (214, o214 P), (215, o215 P), (216, o216 P), (217, o217 P), (218, o218 P), (219, o219 P), (220, o220 P), (221, o221 P), (222, o222 P), (223, o223 P), (224, o224 P), (225, o225 P), (226, o226 P), (227, o227 P), (228, o228 P), (229, o229 P), (230, o230 P), (231, o231 P), (232, o232 P), (233, o233 P), (234, o234 P), (235, o235 P), (236, o236 P), (237, o237 P), (238, o238 P), (239, o239 P), (240, o240 P), (241, o241 P), (242, o242 P), (243, o243 P), (244, o244 P), (245, o245 P), (246, o246 P), (247, o247 P), (248, o248 P), (249, o249 P), (250, o250 P), (251, o251 P), (252, o252 P), (253, o253 P), (254, o254 P), (255, o255 P), (256, o256 P), (257, o257 P), (258, o258 P), (259, o259 P), (260, o260 P), (261, o261 P), (262, o262 P), (263, o263 P), (264, o264 P), (265, o265 P), (266, o266 P), (267, o267 P), (268, o268 P), (269, o269 P), (270, o270 P), (271, o271 P), (272, o272 P), (273, o273 P), (274, o274 P), (275, o275 P), (276, o276 P), (277, o277 P), (278, o278 P), (279, o279 P), (280, o280 P), (281, o281 P), (282, o282 P), (283, o283 P), (284, o284 P), (285, o285 P), (286, o286 P), (287, o287 P), (288, o288 P), (289, o289 P), (290, o290 P), (291, o291 P), (292, o292 P), (293, o293 P), (294, o294 P), (295, o295 P), (296, o296 P), (297, o297 P), (298, o298 P), (299, o299 P), (300, o300 P), (301, o301 P), (302, o302 P), (303, o303 P), (304, o304 P), (305, o305 P), (306, o306 P), (307, o307 P), (308, o308 P), (309, o309 P), (310, o310 P), (311, o311 P), (312, o312 P), (313, o313 P), (314, o314 P), (315, o315 P), (316, o316 P), (317, o317 P), (318, o318 P), (319, o319 P), (320, o320 P), (321, o321 P), (322, o322 P), (323, o323 P), (324, o324 P), (325, o325 P), (326, o326 P), (327, o327 P), (328, o328 P), (329, o329 P), (330, o330 P), (331, o331 P), (332, o332 P), (333, o333 P), (334, o334 P), (335, o335 P), (336, o336 P), (337, o337 P), (338, o338 P), (339, o339 P), (340, o340 P), (341, o341 P), (342, o342 P), (343, o343 P), (344, o344 P), (345, o345 P), (346, o346 P), (347, o347 P), (348, o348 P), (349, o349 P), (350, o350 P), (351, o351 P), (352, o352 P), (353, o353 P), (354, o354 P), (355, o355 P), (356, o356 P), (357, o357 P), (358, o358 P), (359, o359 P), (360, o360 P), (361, o361 P), (362, o362 P), (363, o363 P), (364, o364 P), (365, o365 P), (366, o366 P), (367, o367 P), (368, o368 P), (369, o369 P), (370, o370 P), (371, o371 P), (372, o372 P), (373, o373 P), (374, o374 P), (375, o375 P), (376, o376 P), (377, o377 P), (378, o378 P), (379, o379 P), (380, o380 P), (381, o381 P), (382, o382 P), (383, o383 P)]
noncomputable def Sp4 (w : World) (os : OsState) : SharedT := ⟨trp4 w.params, 384, {}, #[], ⟨0, 0, 0, 0⟩, 968, os⟩
noncomputable def o3v425 (P : Params) : Obj := ⟨(.type "dict"), none, (.dict #[en P "__name__" 165 (.str (.ofString "io") 598), en P "__doc__" 166 .none, en P "__package__" 167 .none, en P "__loader__" 168 (.builtin "__main__.__loader__#opaque"), en P "__spec__" 169 .none, en P "__annotations__" 170 (.ref 6), en P "__builtins__" 171 (.ref 4), en P "__file__" 173 (.str (.ofString "/claim/cut.py") 172), en P "__cached__" 174 .none, en P "_sre" 275 (.ref 12), en P "deque" 317 (.type "collections.deque"), en P "_wall" 330 (.ref 44), en P "_byteswap" 343 (.ref 51), en P "twin_re_1_fnmatch" 381 (.ref 56), en P "_special_chars_map" 529 (.ref 58), en P "escape" 536 (.ref 68), en P "_translate" 557 (.ref 75), en P "twin_re_1_shlex" 597 (.ref 80), en P "_whence" 607 (.ref 87), en P "_index" 615 (.ref 94), en P "UnsupportedOperation" 637 (.ref 104), en P "IOBase" 669 (.ref 124), en P "BufferedIOBase" 687 (.ref 139), en P "TextIOBase" 705 (.ref 151), en P "BytesIO" 967 (.ref 381), en P "StringIO" 1254 (.ref 628)] 26), #[]⟩
noncomputable def o35v426 (P : Params) := fl #[(it 3), (it 0), (.ref 43), (it 7), (it 0), (.ref 50), (it 16), (it 0), (.ref 67), (it 23), (it 0), (.ref 74), (it 87), (it 0), (.ref 86), (it 92), (it 0), (.ref 93), (it 99), (it 0), (.ref 100), (it 101), (it 0), (.ref 113), (it 108), (it 0), (.ref 135), (it 110), (it 0), (.ref 147), (it 112), (it 0), (.ref 159), (it 282), (it 0), (.ref 389)]
noncomputable def o151v427 (P : Params) : Obj := ⟨(.type "type"), none, (.cls (.mk (.ofString "TextIOBase") [(.ref 124)] [(.ref 151), (.ref 124), (.type "object")] 150 (.ofString "TextIOBase") true [] [(.ref 628)] false none false)), #[(some (.ref 142)), none, (some (.str (.ofString "TextIOBase") 688)), (some (.str (.ofString "TextIOBase") 696)), (some .none), (some (.bool true))]⟩
noncomputable def o384 (P : Params) := tp #[(.ref 151)]
noncomputable def o385 (P : Params) : Obj := ⟨(.type "builtin_function_or_method"), none, (.fields #[(.builtin "type.__prepare__"), (.type "type")]), #[]⟩
noncomputable def o386 (P : Params) : Obj := ⟨(.type "dict"), none, (.dict #[en P "__module__" 975 (.str (.ofString "_io") 980), en P "__qualname__" 977 (.str (.ofString "StringIO") 976), en P "__firstlineno__" 979 (.int 282 978), en P "__init__" 992 (.ref 398), en P "_StringIO__translated" 1001 (.ref 405), en P "_StringIO__check" 1008 (.ref 412), en P "_StringIO__check_dot" 1015 (.ref 419), en P "_StringIO__line" 1030 (.ref 426), en P "closed" 1038 (.ref 434), en P "line_buffering" 1046 (.ref 442), en P "newlines" 1054 (.ref 450), en P "encoding" 1062 (.ref 458), en P "errors" 1070 (.ref 466), en P "close" 1077 (.ref 473), en P "__enter__" 1084 (.ref 480), en P "__exit__" 1092 (.ref 487), en P "readable" 1099 (.ref 494), en P "writable" 1106 (.ref 501), en P "seekable" 1113 (.ref 508), en P "isatty" 1120 (.ref 515), en P "flush" 1127 (.ref 522), en P "fileno" 1134 (.ref 529), en P "detach" 1141 (.ref 536), en P "getvalue" 1148 (.ref 543), en P "tell" 1155 (.ref 550), en P "seek" 1165 (.ref 558), en P "truncate" 1173 (.ref 566), en P "read" 1185 (.ref 574), en P "readline" 1195 (.ref 582), en P "readlines" 1205 (.ref 590), en P "__iter__" 1212 (.ref 597), en P "__next__" 1220 (.ref 604), en P "write" 1232 (.ref 611), en P "writelines" 1240 (.ref 618), en P "__repr__" 1247 (.ref 625), en P "__static_attributes__" 1251 (.ref 626)] 36), #[]⟩
noncomputable def o387 (P : Params) := tp #[]
noncomputable def o388 (P : Params) := fl #[(it 285), (it 4), (.ref 397), (it 298), (it 4), (.ref 404), (it 306), (it 4), (.ref 411), (it 310), (it 4), (.ref 418), (it 314), (it 4), (.ref 425), (it 347), (it 4), (.ref 432), (it 351), (it 4), (.ref 440), (it 355), (it 4), (.ref 448), (it 359), (it 4), (.ref 456), (it 363), (it 4), (.ref 464), (it 366), (it 4), (.ref 472), (it 369), (it 4), (.ref 479), (it 373), (it 4), (.ref 486), (it 376), (it 4), (.ref 493), (it 380), (it 4), (.ref 500), (it 384), (it 4), (.ref 507), (it 388), (it 4), (.ref 514), (it 392), (it 4), (.ref 521), (it 395), (it 4), (.ref 528), (it 398), (it 4), (.ref 535), (it 401), (it 4), (.ref 542), (it 404), (it 4), (.ref 549), (it 408), (it 4), (.ref 557), (it 425), (it 4), (.ref 565), (it 428), (it 4), (.ref 573), (it 442), (it 4), (.ref 581), (it 449), (it 4), (.ref 589), (it 452), (it 4), (.ref 596), (it 456), (it 4), (.ref 603), (it 463), (it 4), (.ref 610), (it 482), (it 4), (.ref 617), (it 485), (it 4), (.ref 624)]
noncomputable def o389 (P : Params) := cd #[(sv "StringIO" 970), (sv "StringIO" 971), (sv "/claim/cut.py" 972), (it 282), (it 0), (it 0), (it 0), (it 0), (.ref 387), (.bool false), (it 318), (.ref 388), .none, .none, .none, .none, (it 973), (it 282), (sv "/claim/cut.py" 974)]
noncomputable def o390 (P : Params) : Obj := ⟨(.type "frame"), none, .plain, #[(some (.ref 389)), (some (.ref 3)), (some (.ref 386)), none, (some (.str (.ofString "io") 598)), none, (some (.ref 0))]⟩
noncomputable def o391 (P : Params) := tp #[(sv "" 982), (.str ⟨#[10]⟩ 983)]
noncomputable def o392 (P : Params) := tp #[]
noncomputable def o393 (P : Params) := fl #[]
noncomputable def o394 (P : Params) := tp #[(sv "self" 987), (sv "initial_value" 988), (sv "newline" 989)]
noncomputable def o395 (P : Params) := tp #[]
noncomputable def o396 (P : Params) : Obj := ⟨.none, none, (.func (fnE 18 1 fun a b sc => .mk (.ofString "__init__") (.ofString "StringIO.__init__") a (.stmts b) sc 0 [] .none .none .none .none none .none .none 0)), #[]⟩
noncomputable def o397 (P : Params) := cd #[(sv "__init__" 984), (sv "StringIO.__init__" 985), (sv "/claim/cut.py" 986), (it 285), (it 3), (it 0), (it 0), (it 3), (.ref 392), (.bool true), (it 318), (.ref 393), .none, (.ref 394), (.ref 395), (.ref 396), (it 990), (it 285), (sv "/claim/cut.py" 991)]
noncomputable def o398 (P : Params) := fu (fnE 18 1 fun a b sc => .mk (.ofString "__init__") (.ofString "StringIO.__init__") a (.stmts b) sc 3 [] (.ref 391) .none .none (.str (.ofString "io") 598) none (.ref 397) .none 0)
noncomputable def o399 (P : Params) := tp #[]
noncomputable def o400 (P : Params) := fl #[]
noncomputable def o401 (P : Params) := tp #[(sv "self" 996), (sv "s" 997), (sv "newline" 998)]
noncomputable def o402 (P : Params) := tp #[]
noncomputable def o403 (P : Params) : Obj := ⟨.none, none, (.func (fnE 18 2 fun a b sc => .mk (.ofString "__translated") (.ofString "StringIO.__translated") a (.stmts b) sc 0 [] .none .none .none .none none .none .none 0)), #[]⟩
noncomputable def o404 (P : Params) := cd #[(sv "__translated" 993), (sv "StringIO.__translated" 994), (sv "/claim/cut.py" 995), (it 298), (it 2), (it 0), (it 0), (it 3), (.ref 399), (.bool true), (it 318), (.ref 400), .none, (.ref 401), (.ref 402), (.ref 403), (it 999), (it 298), (sv "/claim/cut.py" 1000)]
noncomputable def o405 (P : Params) := fu (fnE 18 2 fun a b sc => .mk (.ofString "__translated") (.ofString "StringIO.__translated") a (.stmts b) sc 3 [] .none .none .none (.str (.ofString "io") 598) none (.ref 404) .none 0)
noncomputable def o406 (P : Params) := tp #[]
noncomputable def o407 (P : Params) := fl #[]
noncomputable def o408 (P : Params) := tp #[(sv "self" 1005)]
noncomputable def o409 (P : Params) := tp #[]
noncomputable def o410 (P : Params) : Obj := ⟨.none, none, (.func (fnE 18 3 fun a b sc => .mk (.ofString "__check") (.ofString "StringIO.__check") a (.stmts b) sc 0 [] .none .none .none .none none .none .none 0)), #[]⟩
noncomputable def o411 (P : Params) := cd #[(sv "__check" 1002), (sv "StringIO.__check" 1003), (sv "/claim/cut.py" 1004), (it 306), (it 1), (it 0), (it 0), (it 3), (.ref 406), (.bool true), (it 318), (.ref 407), .none, (.ref 408), (.ref 409), (.ref 410), (it 1006), (it 306), (sv "/claim/cut.py" 1007)]
noncomputable def o412 (P : Params) := fu (fnE 18 3 fun a b sc => .mk (.ofString "__check") (.ofString "StringIO.__check") a (.stmts b) sc 3 [] .none .none .none (.str (.ofString "io") 598) none (.ref 411) .none 0)
noncomputable def o413 (P : Params) := tp #[]
noncomputable def o414 (P : Params) := fl #[]
noncomputable def o415 (P : Params) := tp #[(sv "self" 1012)]
noncomputable def o416 (P : Params) := tp #[]
noncomputable def o417 (P : Params) : Obj := ⟨.none, none, (.func (fnE 18 4 fun a b sc => .mk (.ofString "__check_dot") (.ofString "StringIO.__check_dot") a (.stmts b) sc 0 [] .none .none .none .none none .none .none 0)), #[]⟩
noncomputable def o418 (P : Params) := cd #[(sv "__check_dot" 1009), (sv "StringIO.__check_dot" 1010), (sv "/claim/cut.py" 1011), (it 310), (it 1), (it 0), (it 0), (it 3), (.ref 413), (.bool true), (it 318), (.ref 414), .none, (.ref 415), (.ref 416), (.ref 417), (it 1013), (it 310), (sv "/claim/cut.py" 1014)]
noncomputable def o419 (P : Params) := fu (fnE 18 4 fun a b sc => .mk (.ofString "__check_dot") (.ofString "StringIO.__check_dot") a (.stmts b) sc 3 [] .none .none .none (.str (.ofString "io") 598) none (.ref 418) .none 0)
noncomputable def o420 (P : Params) := tp #[]
noncomputable def o421 (P : Params) := fl #[]
noncomputable def o422 (P : Params) := tp #[(sv "self" 1019), (sv "limit" 1020), (sv "start" 1021), (sv "stop" 1022), (sv "cut" 1023), (sv "newline" 1024), (sv "i" 1025), (sv "j" 1026), (sv "end" 1027)]
noncomputable def o423 (P : Params) := tp #[]
noncomputable def o424 (P : Params) : Obj := ⟨.none, none, (.func (fnE 18 5 fun a b sc => .mk (.ofString "__line") (.ofString "StringIO.__line") a (.stmts b) sc 0 [] .none .none .none .none none .none .none 0)), #[]⟩
noncomputable def o425 (P : Params) := cd #[(sv "__line" 1016), (sv "StringIO.__line" 1017), (sv "/claim/cut.py" 1018), (it 314), (it 2), (it 0), (it 0), (it 3), (.ref 420), (.bool true), (it 318), (.ref 421), .none, (.ref 422), (.ref 423), (.ref 424), (it 1028), (it 314), (sv "/claim/cut.py" 1029)]
noncomputable def o426 (P : Params) := fu (fnE 18 5 fun a b sc => .mk (.ofString "__line") (.ofString "StringIO.__line") a (.stmts b) sc 3 [] .none .none .none (.str (.ofString "io") 598) none (.ref 425) .none 0)
noncomputable def o427 (P : Params) := tp #[]
noncomputable def o428 (P : Params) := fl #[]
noncomputable def o429 (P : Params) := tp #[(sv "self" 1034)]
noncomputable def o430 (P : Params) := tp #[]
noncomputable def o431 (P : Params) : Obj := ⟨.none, none, (.func (fnE 18 6 fun a b sc => .mk (.ofString "closed") (.ofString "StringIO.closed") a (.stmts b) sc 0 [] .none .none .none .none none .none .none 0)), #[]⟩
noncomputable def o432 (P : Params) := cd #[(sv "closed" 1031), (sv "StringIO.closed" 1032), (sv "/claim/cut.py" 1033), (it 346), (it 1), (it 0), (it 0), (it 3), (.ref 427), (.bool true), (it 318), (.ref 428), .none, (.ref 429), (.ref 430), (.ref 431), (it 1035), (it 346), (sv "/claim/cut.py" 1036)]
noncomputable def o433 (P : Params) := fu (fnE 18 6 fun a b sc => .mk (.ofString "closed") (.ofString "StringIO.closed") a (.stmts b) sc 3 [] .none .none .none (.str (.ofString "io") 598) none (.ref 432) .none 0)
noncomputable def o434 (P : Params) : Obj := ⟨(.type "property"), none, (.fields #[(.ref 433), .none, .none, .none, (.str (.ofString "closed") 1038), (.bool false)]), #[]⟩
noncomputable def o435 (P : Params) := tp #[]
noncomputable def o436 (P : Params) := fl #[]
noncomputable def o437 (P : Params) := tp #[(sv "self" 1042)]
noncomputable def o438 (P : Params) := tp #[]
noncomputable def o439 (P : Params) : Obj := ⟨.none, none, (.func (fnE 18 7 fun a b sc => .mk (.ofString "line_buffering") (.ofString "StringIO.line_buffering") a (.stmts b) sc 0 [] .none .none .none .none none .none .none 0)), #[]⟩
noncomputable def o440 (P : Params) := cd #[(sv "line_buffering" 1039), (sv "StringIO.line_buffering" 1040), (sv "/claim/cut.py" 1041), (it 350), (it 1), (it 0), (it 0), (it 3), (.ref 435), (.bool true), (it 318), (.ref 436), .none, (.ref 437), (.ref 438), (.ref 439), (it 1043), (it 350), (sv "/claim/cut.py" 1044)]
noncomputable def o441 (P : Params) := fu (fnE 18 7 fun a b sc => .mk (.ofString "line_buffering") (.ofString "StringIO.line_buffering") a (.stmts b) sc 3 [] .none .none .none (.str (.ofString "io") 598) none (.ref 440) .none 0)
noncomputable def o442 (P : Params) : Obj := ⟨(.type "property"), none, (.fields #[(.ref 441), .none, .none, .none, (.str (.ofString "line_buffering") 1046), (.bool false)]), #[]⟩
noncomputable def o443 (P : Params) := tp #[]
noncomputable def o444 (P : Params) := fl #[]
noncomputable def o445 (P : Params) := tp #[(sv "self" 1050)]
noncomputable def o446 (P : Params) := tp #[]
noncomputable def o447 (P : Params) : Obj := ⟨.none, none, (.func (fnE 18 8 fun a b sc => .mk (.ofString "newlines") (.ofString "StringIO.newlines") a (.stmts b) sc 0 [] .none .none .none .none none .none .none 0)), #[]⟩
noncomputable def o448 (P : Params) := cd #[(sv "newlines" 1047), (sv "StringIO.newlines" 1048), (sv "/claim/cut.py" 1049), (it 354), (it 1), (it 0), (it 0), (it 3), (.ref 443), (.bool true), (it 318), (.ref 444), .none, (.ref 445), (.ref 446), (.ref 447), (it 1051), (it 354), (sv "/claim/cut.py" 1052)]
noncomputable def o449 (P : Params) := fu (fnE 18 8 fun a b sc => .mk (.ofString "newlines") (.ofString "StringIO.newlines") a (.stmts b) sc 3 [] .none .none .none (.str (.ofString "io") 598) none (.ref 448) .none 0)
noncomputable def o450 (P : Params) : Obj := ⟨(.type "property"), none, (.fields #[(.ref 449), .none, .none, .none, (.str (.ofString "newlines") 1054), (.bool false)]), #[]⟩
noncomputable def o451 (P : Params) := tp #[]
noncomputable def o452 (P : Params) := fl #[]
noncomputable def o453 (P : Params) := tp #[(sv "self" 1058)]
noncomputable def o454 (P : Params) := tp #[]
noncomputable def o455 (P : Params) : Obj := ⟨.none, none, (.func (fnE 18 9 fun a b sc => .mk (.ofString "encoding") (.ofString "StringIO.encoding") a (.stmts b) sc 0 [] .none .none .none .none none .none .none 0)), #[]⟩
noncomputable def o456 (P : Params) := cd #[(sv "encoding" 1055), (sv "StringIO.encoding" 1056), (sv "/claim/cut.py" 1057), (it 358), (it 1), (it 0), (it 0), (it 3), (.ref 451), (.bool true), (it 318), (.ref 452), .none, (.ref 453), (.ref 454), (.ref 455), (it 1059), (it 358), (sv "/claim/cut.py" 1060)]
noncomputable def o457 (P : Params) := fu (fnE 18 9 fun a b sc => .mk (.ofString "encoding") (.ofString "StringIO.encoding") a (.stmts b) sc 3 [] .none .none .none (.str (.ofString "io") 598) none (.ref 456) .none 0)
noncomputable def o458 (P : Params) : Obj := ⟨(.type "property"), none, (.fields #[(.ref 457), .none, .none, .none, (.str (.ofString "encoding") 1062), (.bool false)]), #[]⟩
noncomputable def o459 (P : Params) := tp #[]
noncomputable def o460 (P : Params) := fl #[]
noncomputable def o461 (P : Params) := tp #[(sv "self" 1066)]
noncomputable def o462 (P : Params) := tp #[]
noncomputable def o463 (P : Params) : Obj := ⟨.none, none, (.func (fnE 18 10 fun a b sc => .mk (.ofString "errors") (.ofString "StringIO.errors") a (.stmts b) sc 0 [] .none .none .none .none none .none .none 0)), #[]⟩
noncomputable def o464 (P : Params) := cd #[(sv "errors" 1063), (sv "StringIO.errors" 1064), (sv "/claim/cut.py" 1065), (it 362), (it 1), (it 0), (it 0), (it 3), (.ref 459), (.bool true), (it 318), (.ref 460), .none, (.ref 461), (.ref 462), (.ref 463), (it 1067), (it 362), (sv "/claim/cut.py" 1068)]
noncomputable def o465 (P : Params) := fu (fnE 18 10 fun a b sc => .mk (.ofString "errors") (.ofString "StringIO.errors") a (.stmts b) sc 3 [] .none .none .none (.str (.ofString "io") 598) none (.ref 464) .none 0)
noncomputable def o466 (P : Params) : Obj := ⟨(.type "property"), none, (.fields #[(.ref 465), .none, .none, .none, (.str (.ofString "errors") 1070), (.bool false)]), #[]⟩
noncomputable def o467 (P : Params) := tp #[]
noncomputable def o468 (P : Params) := fl #[]
noncomputable def o469 (P : Params) := tp #[(sv "self" 1074)]
noncomputable def o470 (P : Params) := tp #[]
noncomputable def o471 (P : Params) : Obj := ⟨.none, none, (.func (fnE 18 11 fun a b sc => .mk (.ofString "close") (.ofString "StringIO.close") a (.stmts b) sc 0 [] .none .none .none .none none .none .none 0)), #[]⟩
noncomputable def o472 (P : Params) := cd #[(sv "close" 1071), (sv "StringIO.close" 1072), (sv "/claim/cut.py" 1073), (it 366), (it 1), (it 0), (it 0), (it 3), (.ref 467), (.bool true), (it 318), (.ref 468), .none, (.ref 469), (.ref 470), (.ref 471), (it 1075), (it 366), (sv "/claim/cut.py" 1076)]
noncomputable def o473 (P : Params) := fu (fnE 18 11 fun a b sc => .mk (.ofString "close") (.ofString "StringIO.close") a (.stmts b) sc 3 [] .none .none .none (.str (.ofString "io") 598) none (.ref 472) .none 0)
noncomputable def o474 (P : Params) := tp #[]
noncomputable def o475 (P : Params) := fl #[]
noncomputable def o476 (P : Params) := tp #[(sv "self" 1081)]
noncomputable def o477 (P : Params) := tp #[]
noncomputable def o478 (P : Params) : Obj := ⟨.none, none, (.func (fnE 18 12 fun a b sc => .mk (.ofString "__enter__") (.ofString "StringIO.__enter__") a (.stmts b) sc 0 [] .none .none .none .none none .none .none 0)), #[]⟩
noncomputable def o479 (P : Params) := cd #[(sv "__enter__" 1078), (sv "StringIO.__enter__" 1079), (sv "/claim/cut.py" 1080), (it 369), (it 1), (it 0), (it 0), (it 3), (.ref 474), (.bool true), (it 318), (.ref 475), .none, (.ref 476), (.ref 477), (.ref 478), (it 1082), (it 369), (sv "/claim/cut.py" 1083)]
noncomputable def o480 (P : Params) := fu (fnE 18 12 fun a b sc => .mk (.ofString "__enter__") (.ofString "StringIO.__enter__") a (.stmts b) sc 3 [] .none .none .none (.str (.ofString "io") 598) none (.ref 479) .none 0)
noncomputable def o481 (P : Params) := tp #[]
noncomputable def o482 (P : Params) := fl #[]
noncomputable def o483 (P : Params) := tp #[(sv "self" 1088), (sv "args" 1089)]
noncomputable def o484 (P : Params) := tp #[]
noncomputable def o485 (P : Params) : Obj := ⟨.none, none, (.func (fnE 18 13 fun a b sc => .mk (.ofString "__exit__") (.ofString "StringIO.__exit__") a (.stmts b) sc 0 [] .none .none .none .none none .none .none 0)), #[]⟩
noncomputable def o486 (P : Params) := cd #[(sv "__exit__" 1085), (sv "StringIO.__exit__" 1086), (sv "/claim/cut.py" 1087), (it 373), (it 1), (it 0), (it 0), (it 7), (.ref 481), (.bool true), (it 318), (.ref 482), .none, (.ref 483), (.ref 484), (.ref 485), (it 1090), (it 373), (sv "/claim/cut.py" 1091)]
noncomputable def o487 (P : Params) := fu (fnE 18 13 fun a b sc => .mk (.ofString "__exit__") (.ofString "StringIO.__exit__") a (.stmts b) sc 3 [] .none .none .none (.str (.ofString "io") 598) none (.ref 486) .none 0)
noncomputable def o488 (P : Params) := tp #[]
noncomputable def o489 (P : Params) := fl #[]
noncomputable def o490 (P : Params) := tp #[(sv "self" 1096)]
noncomputable def o491 (P : Params) := tp #[]
noncomputable def o492 (P : Params) : Obj := ⟨.none, none, (.func (fnE 18 14 fun a b sc => .mk (.ofString "readable") (.ofString "StringIO.readable") a (.stmts b) sc 0 [] .none .none .none .none none .none .none 0)), #[]⟩
noncomputable def o493 (P : Params) := cd #[(sv "readable" 1093), (sv "StringIO.readable" 1094), (sv "/claim/cut.py" 1095), (it 376), (it 1), (it 0), (it 0), (it 3), (.ref 488), (.bool true), (it 318), (.ref 489), .none, (.ref 490), (.ref 491), (.ref 492), (it 1097), (it 376), (sv "/claim/cut.py" 1098)]
noncomputable def o494 (P : Params) := fu (fnE 18 14 fun a b sc => .mk (.ofString "readable") (.ofString "StringIO.readable") a (.stmts b) sc 3 [] .none .none .none (.str (.ofString "io") 598) none (.ref 493) .none 0)
noncomputable def o495 (P : Params) := tp #[]
noncomputable def o496 (P : Params) := fl #[]
noncomputable def o497 (P : Params) := tp #[(sv "self" 1103)]
noncomputable def o498 (P : Params) := tp #[]
noncomputable def o499 (P : Params) : Obj := ⟨.none, none, (.func (fnE 18 15 fun a b sc => .mk (.ofString "writable") (.ofString "StringIO.writable") a (.stmts b) sc 0 [] .none .none .none .none none .none .none 0)), #[]⟩
noncomputable def o500 (P : Params) := cd #[(sv "writable" 1100), (sv "StringIO.writable" 1101), (sv "/claim/cut.py" 1102), (it 380), (it 1), (it 0), (it 0), (it 3), (.ref 495), (.bool true), (it 318), (.ref 496), .none, (.ref 497), (.ref 498), (.ref 499), (it 1104), (it 380), (sv "/claim/cut.py" 1105)]
noncomputable def o501 (P : Params) := fu (fnE 18 15 fun a b sc => .mk (.ofString "writable") (.ofString "StringIO.writable") a (.stmts b) sc 3 [] .none .none .none (.str (.ofString "io") 598) none (.ref 500) .none 0)
noncomputable def o502 (P : Params) := tp #[]
noncomputable def o503 (P : Params) := fl #[]
noncomputable def o504 (P : Params) := tp #[(sv "self" 1110)]
noncomputable def o505 (P : Params) := tp #[]
noncomputable def o506 (P : Params) : Obj := ⟨.none, none, (.func (fnE 18 16 fun a b sc => .mk (.ofString "seekable") (.ofString "StringIO.seekable") a (.stmts b) sc 0 [] .none .none .none .none none .none .none 0)), #[]⟩
noncomputable def o507 (P : Params) := cd #[(sv "seekable" 1107), (sv "StringIO.seekable" 1108), (sv "/claim/cut.py" 1109), (it 384), (it 1), (it 0), (it 0), (it 3), (.ref 502), (.bool true), (it 318), (.ref 503), .none, (.ref 504), (.ref 505), (.ref 506), (it 1111), (it 384), (sv "/claim/cut.py" 1112)]
noncomputable def o508 (P : Params) := fu (fnE 18 16 fun a b sc => .mk (.ofString "seekable") (.ofString "StringIO.seekable") a (.stmts b) sc 3 [] .none .none .none (.str (.ofString "io") 598) none (.ref 507) .none 0)
noncomputable def o509 (P : Params) := tp #[]
noncomputable def o510 (P : Params) := fl #[]
noncomputable def o511 (P : Params) := tp #[(sv "self" 1117)]
noncomputable def o512 (P : Params) := tp #[]
noncomputable def o513 (P : Params) : Obj := ⟨.none, none, (.func (fnE 18 17 fun a b sc => .mk (.ofString "isatty") (.ofString "StringIO.isatty") a (.stmts b) sc 0 [] .none .none .none .none none .none .none 0)), #[]⟩
noncomputable def o514 (P : Params) := cd #[(sv "isatty" 1114), (sv "StringIO.isatty" 1115), (sv "/claim/cut.py" 1116), (it 388), (it 1), (it 0), (it 0), (it 3), (.ref 509), (.bool true), (it 318), (.ref 510), .none, (.ref 511), (.ref 512), (.ref 513), (it 1118), (it 388), (sv "/claim/cut.py" 1119)]
noncomputable def o515 (P : Params) := fu (fnE 18 17 fun a b sc => .mk (.ofString "isatty") (.ofString "StringIO.isatty") a (.stmts b) sc 3 [] .none .none .none (.str (.ofString "io") 598) none (.ref 514) .none 0)
noncomputable def o516 (P : Params) := tp #[]
noncomputable def o517 (P : Params) := fl #[]
noncomputable def o518 (P : Params) := tp #[(sv "self" 1124)]
noncomputable def o519 (P : Params) := tp #[]
noncomputable def o520 (P : Params) : Obj := ⟨.none, none, (.func (fnE 18 18 fun a b sc => .mk (.ofString "flush") (.ofString "StringIO.flush") a (.stmts b) sc 0 [] .none .none .none .none none .none .none 0)), #[]⟩
noncomputable def o521 (P : Params) := cd #[(sv "flush" 1121), (sv "StringIO.flush" 1122), (sv "/claim/cut.py" 1123), (it 392), (it 1), (it 0), (it 0), (it 3), (.ref 516), (.bool true), (it 318), (.ref 517), .none, (.ref 518), (.ref 519), (.ref 520), (it 1125), (it 392), (sv "/claim/cut.py" 1126)]
noncomputable def o522 (P : Params) := fu (fnE 18 18 fun a b sc => .mk (.ofString "flush") (.ofString "StringIO.flush") a (.stmts b) sc 3 [] .none .none .none (.str (.ofString "io") 598) none (.ref 521) .none 0)
noncomputable def o523 (P : Params) := tp #[]
noncomputable def o524 (P : Params) := fl #[]
noncomputable def o525 (P : Params) := tp #[(sv "self" 1131)]
noncomputable def o526 (P : Params) := tp #[]
noncomputable def o527 (P : Params) : Obj := ⟨.none, none, (.func (fnE 18 19 fun a b sc => .mk (.ofString "fileno") (.ofString "StringIO.fileno") a (.stmts b) sc 0 [] .none .none .none .none none .none .none 0)), #[]⟩
noncomputable def o528 (P : Params) := cd #[(sv "fileno" 1128), (sv "StringIO.fileno" 1129), (sv "/claim/cut.py" 1130), (it 395), (it 1), (it 0), (it 0), (it 3), (.ref 523), (.bool true), (it 318), (.ref 524), .none, (.ref 525), (.ref 526), (.ref 527), (it 1132), (it 395), (sv "/claim/cut.py" 1133)]
noncomputable def o529 (P : Params) := fu (fnE 18 19 fun a b sc => .mk (.ofString "fileno") (.ofString "StringIO.fileno") a (.stmts b) sc 3 [] .none .none .none (.str (.ofString "io") 598) none (.ref 528) .none 0)
noncomputable def o530 (P : Params) := tp #[]
noncomputable def o531 (P : Params) := fl #[]
noncomputable def o532 (P : Params) := tp #[(sv "self" 1138)]
noncomputable def o533 (P : Params) := tp #[]
noncomputable def o534 (P : Params) : Obj := ⟨.none, none, (.func (fnE 18 20 fun a b sc => .mk (.ofString "detach") (.ofString "StringIO.detach") a (.stmts b) sc 0 [] .none .none .none .none none .none .none 0)), #[]⟩
noncomputable def o535 (P : Params) := cd #[(sv "detach" 1135), (sv "StringIO.detach" 1136), (sv "/claim/cut.py" 1137), (it 398), (it 1), (it 0), (it 0), (it 3), (.ref 530), (.bool true), (it 318), (.ref 531), .none, (.ref 532), (.ref 533), (.ref 534), (it 1139), (it 398), (sv "/claim/cut.py" 1140)]
noncomputable def o536 (P : Params) := fu (fnE 18 20 fun a b sc => .mk (.ofString "detach") (.ofString "StringIO.detach") a (.stmts b) sc 3 [] .none .none .none (.str (.ofString "io") 598) none (.ref 535) .none 0)
noncomputable def o537 (P : Params) := tp #[]
noncomputable def o538 (P : Params) := fl #[]
noncomputable def o539 (P : Params) := tp #[(sv "self" 1145)]
noncomputable def o540 (P : Params) := tp #[]
noncomputable def o541 (P : Params) : Obj := ⟨.none, none, (.func (fnE 18 21 fun a b sc => .mk (.ofString "getvalue") (.ofString "StringIO.getvalue") a (.stmts b) sc 0 [] .none .none .none .none none .none .none 0)), #[]⟩
noncomputable def o542 (P : Params) := cd #[(sv "getvalue" 1142), (sv "StringIO.getvalue" 1143), (sv "/claim/cut.py" 1144), (it 401), (it 1), (it 0), (it 0), (it 3), (.ref 537), (.bool true), (it 318), (.ref 538), .none, (.ref 539), (.ref 540), (.ref 541), (it 1146), (it 401), (sv "/claim/cut.py" 1147)]
noncomputable def o543 (P : Params) := fu (fnE 18 21 fun a b sc => .mk (.ofString "getvalue") (.ofString "StringIO.getvalue") a (.stmts b) sc 3 [] .none .none .none (.str (.ofString "io") 598) none (.ref 542) .none 0)
noncomputable def o544 (P : Params) := tp #[]
noncomputable def o545 (P : Params) := fl #[]
noncomputable def o546 (P : Params) := tp #[(sv "self" 1152)]
noncomputable def o547 (P : Params) := tp #[]
noncomputable def o548 (P : Params) : Obj := ⟨.none, none, (.func (fnE 18 22 fun a b sc => .mk (.ofString "tell") (.ofString "StringIO.tell") a (.stmts b) sc 0 [] .none .none .none .none none .none .none 0)), #[]⟩
noncomputable def o549 (P : Params) := cd #[(sv "tell" 1149), (sv "StringIO.tell" 1150), (sv "/claim/cut.py" 1151), (it 404), (it 1), (it 0), (it 0), (it 3), (.ref 544), (.bool true), (it 318), (.ref 545), .none, (.ref 546), (.ref 547), (.ref 548), (it 1153), (it 404), (sv "/claim/cut.py" 1154)]
noncomputable def o550 (P : Params) := fu (fnE 18 22 fun a b sc => .mk (.ofString "tell") (.ofString "StringIO.tell") a (.stmts b) sc 3 [] .none .none .none (.str (.ofString "io") 598) none (.ref 549) .none 0)
noncomputable def o551 (P : Params) := tp #[(.int 0 1156)]
noncomputable def o552 (P : Params) := tp #[]
noncomputable def o553 (P : Params) := fl #[]
noncomputable def o554 (P : Params) := tp #[(sv "self" 1160), (sv "pos" 1161), (sv "whence" 1162)]
noncomputable def o555 (P : Params) := tp #[]
noncomputable def o556 (P : Params) : Obj := ⟨.none, none, (.func (fnE 18 23 fun a b sc => .mk (.ofString "seek") (.ofString "StringIO.seek") a (.stmts b) sc 0 [] .none .none .none .none none .none .none 0)), #[]⟩
noncomputable def o557 (P : Params) := cd #[(sv "seek" 1157), (sv "StringIO.seek" 1158), (sv "/claim/cut.py" 1159), (it 408), (it 3), (it 3), (it 0), (it 3), (.ref 552), (.bool true), (it 318), (.ref 553), .none, (.ref 554), (.ref 555), (.ref 556), (it 1163), (it 408), (sv "/claim/cut.py" 1164)]
noncomputable def o558 (P : Params) := fu (fnE 18 23 fun a b sc => .mk (.ofString "seek") (.ofString "StringIO.seek") a (.stmts b) sc 3 [] (.ref 551) .none .none (.str (.ofString "io") 598) none (.ref 557) .none 0)
noncomputable def o559 (P : Params) := tp #[.none]
noncomputable def o560 (P : Params) := tp #[]
noncomputable def o561 (P : Params) := fl #[]
noncomputable def o562 (P : Params) := tp #[(sv "self" 1169), (sv "pos" 1170)]
noncomputable def o563 (P : Params) := tp #[]
noncomputable def o564 (P : Params) : Obj := ⟨.none, none, (.func (fnE 18 24 fun a b sc => .mk (.ofString "truncate") (.ofString "StringIO.truncate") a (.stmts b) sc 0 [] .none .none .none .none none .none .none 0)), #[]⟩
noncomputable def o565 (P : Params) := cd #[(sv "truncate" 1166), (sv "StringIO.truncate" 1167), (sv "/claim/cut.py" 1168), (it 425), (it 2), (it 2), (it 0), (it 3), (.ref 560), (.bool true), (it 318), (.ref 561), .none, (.ref 562), (.ref 563), (.ref 564), (it 1171), (it 425), (sv "/claim/cut.py" 1172)]
noncomputable def o566 (P : Params) := fu (fnE 18 24 fun a b sc => .mk (.ofString "truncate") (.ofString "StringIO.truncate") a (.stmts b) sc 3 [] (.ref 559) .none .none (.str (.ofString "io") 598) none (.ref 565) .none 0)
noncomputable def o567 (P : Params) := tp #[(.int (-1) 1175)]
noncomputable def o568 (P : Params) := tp #[]
noncomputable def o569 (P : Params) := fl #[]
noncomputable def o570 (P : Params) := tp #[(sv "self" 1179), (sv "size" 1180), (sv "start" 1181), (sv "stop" 1182)]
noncomputable def o571 (P : Params) := tp #[]
noncomputable def o572 (P : Params) : Obj := ⟨.none, none, (.func (fnE 18 25 fun a b sc => .mk (.ofString "read") (.ofString "StringIO.read") a (.stmts b) sc 0 [] .none .none .none .none none .none .none 0)), #[]⟩
noncomputable def o573 (P : Params) := cd #[(sv "read" 1176), (sv "StringIO.read" 1177), (sv "/claim/cut.py" 1178), (it 428), (it 2), (it 2), (it 0), (it 3), (.ref 568), (.bool true), (it 318), (.ref 569), .none, (.ref 570), (.ref 571), (.ref 572), (it 1183), (it 428), (sv "/claim/cut.py" 1184)]
noncomputable def o574 (P : Params) := fu (fnE 18 25 fun a b sc => .mk (.ofString "read") (.ofString "StringIO.read") a (.stmts b) sc 3 [] (.ref 567) .none .none (.str (.ofString "io") 598) none (.ref 573) .none 0)
noncomputable def o575 (P : Params) := tp #[(.int (-1) 1187)]
noncomputable def o576 (P : Params) := tp #[]
noncomputable def o577 (P : Params) := fl #[]
noncomputable def o578 (P : Params) := tp #[(sv "self" 1191), (sv "size" 1192)]
noncomputable def o579 (P : Params) := tp #[]
noncomputable def o580 (P : Params) : Obj := ⟨.none, none, (.func (fnE 18 26 fun a b sc => .mk (.ofString "readline") (.ofString "StringIO.readline") a (.stmts b) sc 0 [] .none .none .none .none none .none .none 0)), #[]⟩
noncomputable def o581 (P : Params) := cd #[(sv "readline" 1188), (sv "StringIO.readline" 1189), (sv "/claim/cut.py" 1190), (it 442), (it 2), (it 2), (it 0), (it 3), (.ref 576), (.bool true), (it 318), (.ref 577), .none, (.ref 578), (.ref 579), (.ref 580), (it 1193), (it 442), (sv "/claim/cut.py" 1194)]
noncomputable def o582 (P : Params) := fu (fnE 18 26 fun a b sc => .mk (.ofString "readline") (.ofString "StringIO.readline") a (.stmts b) sc 3 [] (.ref 575) .none .none (.str (.ofString "io") 598) none (.ref 581) .none 0)
noncomputable def o583 (P : Params) := tp #[(.int (-1) 1197)]
noncomputable def o584 (P : Params) := tp #[]
noncomputable def o585 (P : Params) := fl #[]
noncomputable def o586 (P : Params) := tp #[(sv "self" 1201), (sv "hint" 1202)]
noncomputable def o587 (P : Params) := tp #[]
noncomputable def o588 (P : Params) : Obj := ⟨.none, none, (.func (fnE 18 27 fun a b sc => .mk (.ofString "readlines") (.ofString "StringIO.readlines") a (.stmts b) sc 0 [] .none .none .none .none none .none .none 0)), #[]⟩
noncomputable def o589 (P : Params) := cd #[(sv "readlines" 1198), (sv "StringIO.readlines" 1199), (sv "/claim/cut.py" 1200), (it 449), (it 2), (it 2), (it 0), (it 3), (.ref 584), (.bool true), (it 318), (.ref 585), .none, (.ref 586), (.ref 587), (.ref 588), (it 1203), (it 449), (sv "/claim/cut.py" 1204)]
noncomputable def o590 (P : Params) := fu (fnE 18 27 fun a b sc => .mk (.ofString "readlines") (.ofString "StringIO.readlines") a (.stmts b) sc 3 [] (.ref 583) .none .none (.str (.ofString "io") 598) none (.ref 589) .none 0)
noncomputable def o591 (P : Params) := tp #[]
noncomputable def o592 (P : Params) := fl #[]
noncomputable def o593 (P : Params) := tp #[(sv "self" 1209)]
noncomputable def o594 (P : Params) := tp #[]
noncomputable def o595 (P : Params) : Obj := ⟨.none, none, (.func (fnE 18 28 fun a b sc => .mk (.ofString "__iter__") (.ofString "StringIO.__iter__") a (.stmts b) sc 0 [] .none .none .none .none none .none .none 0)), #[]⟩
noncomputable def o596 (P : Params) := cd #[(sv "__iter__" 1206), (sv "StringIO.__iter__" 1207), (sv "/claim/cut.py" 1208), (it 452), (it 1), (it 0), (it 0), (it 3), (.ref 591), (.bool true), (it 318), (.ref 592), .none, (.ref 593), (.ref 594), (.ref 595), (it 1210), (it 452), (sv "/claim/cut.py" 1211)]
noncomputable def o597 (P : Params) := fu (fnE 18 28 fun a b sc => .mk (.ofString "__iter__") (.ofString "StringIO.__iter__") a (.stmts b) sc 3 [] .none .none .none (.str (.ofString "io") 598) none (.ref 596) .none 0)
noncomputable def o598 (P : Params) := tp #[]
noncomputable def o599 (P : Params) := fl #[]
noncomputable def o600 (P : Params) := tp #[(sv "self" 1216), (sv "line" 1217)]
noncomputable def o601 (P : Params) := tp #[]
noncomputable def o602 (P : Params) : Obj := ⟨.none, none, (.func (fnE 18 29 fun a b sc => .mk (.ofString "__next__") (.ofString "StringIO.__next__") a (.stmts b) sc 0 [] .none .none .none .none none .none .none 0)), #[]⟩
noncomputable def o603 (P : Params) := cd #[(sv "__next__" 1213), (sv "StringIO.__next__" 1214), (sv "/claim/cut.py" 1215), (it 456), (it 1), (it 0), (it 0), (it 3), (.ref 598), (.bool true), (it 318), (.ref 599), .none, (.ref 600), (.ref 601), (.ref 602), (it 1218), (it 456), (sv "/claim/cut.py" 1219)]
noncomputable def o604 (P : Params) := fu (fnE 18 29 fun a b sc => .mk (.ofString "__next__") (.ofString "StringIO.__next__") a (.stmts b) sc 3 [] .none .none .none (.str (.ofString "io") 598) none (.ref 603) .none 0)
noncomputable def o605 (P : Params) := tp #[]
noncomputable def o606 (P : Params) := fl #[]
noncomputable def o607 (P : Params) := tp #[(sv "self" 1224), (sv "s" 1225), (sv "n" 1226), (sv "m" 1227), (sv "start" 1228), (sv "buf" 1229)]
noncomputable def o608 (P : Params) := tp #[]
noncomputable def o609 (P : Params) : Obj := ⟨.none, none, (.func (fnE 18 30 fun a b sc => .mk (.ofString "write") (.ofString "StringIO.write") a (.stmts b) sc 0 [] .none .none .none .none none .none .none 0)), #[]⟩
noncomputable def o610 (P : Params) := cd #[(sv "write" 1221), (sv "StringIO.write" 1222), (sv "/claim/cut.py" 1223), (it 463), (it 2), (it 2), (it 0), (it 3), (.ref 605), (.bool true), (it 318), (.ref 606), .none, (.ref 607), (.ref 608), (.ref 609), (it 1230), (it 463), (sv "/claim/cut.py" 1231)]
noncomputable def o611 (P : Params) := fu (fnE 18 30 fun a b sc => .mk (.ofString "write") (.ofString "StringIO.write") a (.stmts b) sc 3 [] .none .none .none (.str (.ofString "io") 598) none (.ref 610) .none 0)
noncomputable def o612 (P : Params) := tp #[]
noncomputable def o613 (P : Params) := fl #[]
noncomputable def o614 (P : Params) := tp #[(sv "self" 1236), (sv "lines" 1237)]
noncomputable def o615 (P : Params) := tp #[]
noncomputable def o616 (P : Params) : Obj := ⟨.none, none, (.func (fnE 18 31 fun a b sc => .mk (.ofString "writelines") (.ofString "StringIO.writelines") a (.stmts b) sc 0 [] .none .none .none .none none .none .none 0)), #[]⟩
noncomputable def o617 (P : Params) := cd #[(sv "writelines" 1233), (sv "StringIO.writelines" 1234), (sv "/claim/cut.py" 1235), (it 482), (it 2), (it 2), (it 0), (it 3), (.ref 612), (.bool true), (it 318), (.ref 613), .none, (.ref 614), (.ref 615), (.ref 616), (it 1238), (it 482), (sv "/claim/cut.py" 1239)]
noncomputable def o618 (P : Params) := fu (fnE 18 31 fun a b sc => .mk (.ofString "writelines") (.ofString "StringIO.writelines") a (.stmts b) sc 3 [] .none .none .none (.str (.ofString "io") 598) none (.ref 617) .none 0)
noncomputable def o619 (P : Params) := tp #[]
noncomputable def o620 (P : Params) := fl #[]
noncomputable def o621 (P : Params) := tp #[(sv "self" 1244)]
noncomputable def o622 (P : Params) := tp #[]
noncomputable def o623 (P : Params) : Obj := ⟨.none, none, (.func (fnE 18 32 fun a b sc => .mk (.ofString "__repr__") (.ofString "StringIO.__repr__") a (.stmts b) sc 0 [] .none .none .none .none none .none .none 0)), #[]⟩
noncomputable def o624 (P : Params) := cd #[(sv "__repr__" 1241), (sv "StringIO.__repr__" 1242), (sv "/claim/cut.py" 1243), (it 485), (it 1), (it 0), (it 0), (it 3), (.ref 619), (.bool true), (it 318), (.ref 620), .none, (.ref 621), (.ref 622), (.ref 623), (it 1245), (it 485), (sv "/claim/cut.py" 1246)]
noncomputable def o625 (P : Params) := fu (fnE 18 32 fun a b sc => .mk (.ofString "__repr__") (.ofString "StringIO.__repr__") a (.stmts b) sc 3 [] .none .none .none (.str (.ofString "io") 598) none (.ref 624) .none 0)
noncomputable def o626 (P : Params) := tp #[(sv "__buf" 1248), (sv "__newline" 1249), (sv "__pos" 1250)]
noncomputable def o627 (P : Params) : Obj := ⟨(.type "dict"), none, (.dict #[en P "__module__" 975 (.str (.ofString "_io") 980), en P "__firstlineno__" 979 (.int 282 978), en P "__init__" 992 (.ref 398), en P "_StringIO__translated" 1001 (.ref 405), en P "_StringIO__check" 1008 (.ref 412), en P "_StringIO__check_dot" 1015 (.ref 419), en P "_StringIO__line" 1030 (.ref 426), en P "closed" 1038 (.ref 434), en P "line_buffering" 1046 (.ref 442), en P "newlines" 1054 (.ref 450), en P "encoding" 1062 (.ref 458), en P "errors" 1070 (.ref 466), en P "close" 1077 (.ref 473), en P "__enter__" 1084 (.ref 480), en P "__exit__" 1092 (.ref 487), en P "readable" 1099 (.ref 494), en P "writable" 1106 (.ref 501), en P "seekable" 1113 (.ref 508), en P "isatty" 1120 (.ref 515), en P "flush" 1127 (.ref 522), en P "fileno" 1134 (.ref 529), en P "detach" 1141 (.ref 536), en P "getvalue" 1148 (.ref 543), en P "tell" 1155 (.ref 550), en P "seek" 1165 (.ref 558), en P "truncate" 1173 (.ref 566), en P "read" 1185 (.ref 574), en P "readline" 1195 (.ref 582), en P "readlines" 1205 (.ref 590), en P "__iter__" 1212 (.ref 597), en P "__next__" 1220 (.ref 604), en P "write" 1232 (.ref 611), en P "writelines" 1240 (.ref 618), en P "__repr__" 1247 (.ref 625), en P "__static_attributes__" 1251 (.ref 626), en P "__doc__" 1252 .none] 2), #[]⟩
noncomputable def o628 (P : Params) : Obj := ⟨(.type "type"), none, (.cls (.mk (.ofString "StringIO") [(.ref 151)] [(.ref 628), (.ref 151), (.ref 124), (.type "object")] 627 (.ofString "StringIO") true [] [] false none false)), #[(some (.ref 384)), none, (some (.str (.ofString "StringIO") 968)), (some (.str (.ofString "StringIO") 976)), (some .none), (some (.bool true))]⟩
noncomputable def o629 (P : Params) : Obj := ⟨(.type "super"), none, (.fields #[(.ref 628), (.ref 628), (.ref 628)]), #[]⟩
noncomputable def o630 (P : Params) : Obj := ⟨(.type "builtin_function_or_method"), none, (.fields #[(.builtin "object.__init_subclass__"), (.ref 628)]), #[]⟩
noncomputable def trp5 (P : Params) : BT := inz (trp4 P) [(3, o3v425 P), (35, o35v426 P), (151, o151v427 P), (384, o384 P), (385, o385 P), (386, o386 P), (387, o387 P), (388, o388 P), (389, o389 P), (390, o390 P), (391, o391 P), (392, o392 P), (393, o393 P), (394, o394 P), (395, o395 P), (396, o396 P), (397, o397 P), (398, o398 P), (399, o399 P), (400, o400 P), (401, o401 P), (402, o402 P), (403, o403 P), (404, o404 P), (405, o405 P), (406, o406 P), (407, o407 P), (408, o408 P), (409, o409 P), (410, o410 P), (411, o411 P), (412, o412 P), (413, o413 P), (414, o414 P), (415, o415 P), (416, o416 P), (417, o417 P), (418, o418 P), (419, o419 P), (420, o420 P), (421, o421 P), (422, o422 P), (423, o423 P), (424, o424 P), (425, o425 P), (426, o426 P), (427, o427 P), (428, o428 P), (429, o429 P), (430, o430 P), (431, o431 P), (432, o432 P), (433, o433 P), (434, o434 P), (435, o435 P), (436, o436 P), (437, o437 P), (438, o438 P), (439, o439 P), (440, o440 P), (441, o441 P), (442, o442 P), (443, o443 P), (444, o444 P), (445, o445 P), (446, o446 P), (447, o447 P), (448, o448 P), (449, o449 P), (450, o450 P), (451, o451 P), (452, o452 P), (453, o453 P), (454, o454 P), (455, o455 P), (456, o456 P), (457, o457 P), (458, o458 P), (459, o459 P), (460, o460 P), (461, o461 P), (462, o462 P), (463, o463 P), (464, o464 P), (465, o465 P), (466, o466 P), (467, o467 P), (468, o468 P), (469, o469 P), (470, o470 P), (471, o471 P), (472, o472 P), (473, o473 P), (474, o474 P), (475, o475 P), (476, o476 P), (477, o477 P), (478, o478 P), (479, o479 P), (480, o480 P), (481, o481 P), (482, o482 P), (483, o483 P), (484, o484 P), (485, o485 P), (486, o486 P), (487, o487 P), (488, o488 P), (489, o489 P), (490, o490 P), (491, o491 P), (492, o492 P), (493, o493 P), (494, o494 P), (495, o495 P), (496, o496 P), (497, o497 P), (498, o498 P), (499, o499 P), (500, o500 P), (501, o501 P), (502, o502 P), (503, o503 P), (504, o504 P), (505, o505 P), (506, o506 P), (507, o507 P), (508, o508 P), (509, o509 P), (510, o510 P), (511, o511 P), (512, o512 P), (513, o513 P), (514, o514 P), (515, o515 P), (516, o516 P), (517, o517 P), (518, o518 P), (519, o519 P), (520, o520 P), (521, o521 P), (522, o522 P), (523, o523 P), (524, o524 P), (525, o525 P), (526, o526 P), (527, o527 P), (528, o528 P), (529, o529 P), (530, o530 P), (531, o531 P), (532, o532 P), (533, o533 P), (534, o534 P), (535, o535 P), (536, o536 P), (537, o537 P), (538, o538 P), (539, o539 P), (540, o540 P), (541, o541 P), (542, o542 P), (543, o543 P), (544, o544 P), (545, o545 P), (546, o546 P), (547, o547 P), (548, o548 P), (549, o549 P), (550, o550 P), (551, o551 P), (552, o552 P), (553, o553 P), (554, o554 P), (555, o555 P), (556, o556 P), (557, o557 P), (558, o558 P), (559, o559 P), (560, o560 P), (561, o561 P), (562, o562 P), (563, o563 P), (564, o564 P), (565, o565 P), (566, o566 P), (567, o567 P), (568, o568 P), (569, o569 P), (570, o570 P), (571, o571 P), (572, o572 P), (573, o573 P), (574, o574 P), (575, o575 P), (576, o576 P), (577, o577 P), (578, o578 P), (579, o579 P), (580, o580 P), (581, o581 P), (582, o582 P), (583, o583 P), (584, o584 P), (585, o585 P), (586, o586 P), (587, o587 P), (588, o588 P), (589, o589 P), (590, o590 P), (591, o591 P), (592, o592 P), (593, o593 P), (594, o594 P), (595, o595 P), (596, o596 P), (597, o597 P), (598, o598 P), (599, o599 P), (600, o600 P), (601, o601 P), (602, o602 P), (603, o603 P), (604, o604 P), (605, o605 P), (606, o606 P), (607, o607 P), (608, o608 P), (609, o609 P), (610, o610 P), (611, o611 P), (612, o612 P), (613, o613 P), (614, o614 P), (615, o615 P), (616, o616 P), (617, o617 P), (618, o618 P), (619, o619 P), (620, o620 P), (621, o621 P), (622, o622 P), (623, o623 P), (624, o624 P), (625, o625 P), (626, o626 P), (627, o627 P), (628, o628 P), (629, o629 P), (630, o630 P)]
noncomputable def Sp5 (w : World) (os : OsState) : SharedT := ⟨trp5 w.params, 631, {}, #[], ⟨0, 0, 0, 0⟩, 1255, os⟩
noncomputable def o3v675 (P : Params) : Obj := ⟨(.type "dict"), none, (.dict #[en P "__name__" 165 (.str (.ofString "cpy313.shlex") 1314), en P "__doc__" 166 .none, en P "__package__" 167 .none, en P "__loader__" 168 (.builtin "__main__.__loader__#opaque"), en P "__spec__" 169 .none, en P "__annotations__" 170 (.ref 6), en P "__builtins__" 171 (.ref 4), en P "__file__" 173 (.str (.ofString "/claim/cut.py") 172), en P "__cached__" 174 .none, en P "_sre" 275 (.ref 12), en P "deque" 317 (.type "collections.deque"), en P "_wall" 330 (.ref 44), en P "_byteswap" 343 (.ref 51), en P "twin_re_1_fnmatch" 381 (.ref 56), en P "_special_chars_map" 529 (.ref 58), en P "escape" 536 (.ref 68), en P "_translate" 557 (.ref 75), en P "twin_re_1_shlex" 597 (.ref 80), en P "_whence" 607 (.ref 87), en P "_index" 615 (.ref 94), en P "UnsupportedOperation" 637 (.ref 104), en P "IOBase" 669 (.ref 124), en P "BufferedIOBase" 687 (.ref 139), en P "TextIOBase" 705 (.ref 151), en P "BytesIO" 967 (.ref 381), en P "StringIO" 1254 (.ref 628), en P "_kind" 1265 (.ref 637), en P "_fspath" 1274 (.ref 644), en P "_check_arg_types" 1284 (.ref 651), en P "isabs" 1291 (.ref 658), en P "join" 1302 (.ref 665), en P "join_path" 1303 (.ref 665), en P "dirname" 1313 (.ref 672)] 33), #[]⟩
noncomputable def o35v676 (P : Params) := fl #[(it 3), (it 0), (.ref 43), (it 7), (it 0), (.ref 50), (it 16), (it 0), (.ref 67), (it 23), (it 0), (.ref 74), (it 87), (it 0), (.ref 86), (it 92), (it 0), (.ref 93), (it 99), (it 0), (.ref 100), (it 101), (it 0), (.ref 113), (it 108), (it 0), (.ref 135), (it 110), (it 0), (.ref 147), (it 112), (it 0), (.ref 159), (it 282), (it 0), (.ref 389), (it 488), (it 0), (.ref 636), (it 509), (it 0), (.ref 643), (it 514), (it 0), (.ref 650), (it 519), (it 0), (.ref 657), (it 522), (it 0), (.ref 664), (it 543), (it 0), (.ref 671)]
noncomputable def o631 (P : Params) := tp #[]
noncomputable def o632 (P : Params) := fl #[]
noncomputable def o633 (P : Params) := tp #[(sv "name" 1260), (sv "x" 1261), (sv "t" 1262)]
noncomputable def o634 (P : Params) := tp #[]
noncomputable def o635 (P : Params) : Obj := ⟨.none, none, (.func (fnD 20 fun a b sc => .mk (.ofString "_kind") (.ofString "_kind") a (.stmts b) sc 0 [] .none .none .none .none none .none .none 0)), #[]⟩
noncomputable def o636 (P : Params) := cd #[(sv "_kind" 1257), (sv "_kind" 1258), (sv "/claim/cut.py" 1259), (it 488), (it 2), (it 0), (it 0), (it 3), (.ref 631), (.bool true), (it 318), (.ref 632), .none, (.ref 633), (.ref 634), (.ref 635), (it 1263), (it 488), (sv "/claim/cut.py" 1264)]
noncomputable def o637 (P : Params) := fu (fnD 20 fun a b sc => .mk (.ofString "_kind") (.ofString "_kind") a (.stmts b) sc 3 [] .none .none .none (.str (.ofString "os.path") 1255) none (.ref 636) .none 0)
noncomputable def o638 (P : Params) := tp #[]
noncomputable def o639 (P : Params) := fl #[]
noncomputable def o640 (P : Params) := tp #[(sv "name" 1269), (sv "x" 1270), (sv "k" 1271)]
noncomputable def o641 (P : Params) := tp #[]
noncomputable def o642 (P : Params) : Obj := ⟨.none, none, (.func (fnD 21 fun a b sc => .mk (.ofString "_fspath") (.ofString "_fspath") a (.stmts b) sc 0 [] .none .none .none .none none .none .none 0)), #[]⟩
noncomputable def o643 (P : Params) := cd #[(sv "_fspath" 1266), (sv "_fspath" 1267), (sv "/claim/cut.py" 1268), (it 509), (it 2), (it 0), (it 0), (it 3), (.ref 638), (.bool true), (it 318), (.ref 639), .none, (.ref 640), (.ref 641), (.ref 642), (it 1272), (it 509), (sv "/claim/cut.py" 1273)]
noncomputable def o644 (P : Params) := fu (fnD 21 fun a b sc => .mk (.ofString "_fspath") (.ofString "_fspath") a (.stmts b) sc 3 [] .none .none .none (.str (.ofString "os.path") 1255) none (.ref 643) .none 0)
noncomputable def o645 (P : Params) := tp #[]
noncomputable def o646 (P : Params) := fl #[]
noncomputable def o647 (P : Params) := tp #[(sv "funcname" 1278), (sv "args" 1279), (sv "s" 1280), (sv "k" 1281)]
noncomputable def o648 (P : Params) := tp #[]
noncomputable def o649 (P : Params) : Obj := ⟨.none, none, (.func (fnD 22 fun a b sc => .mk (.ofString "_check_arg_types") (.ofString "_check_arg_types") a (.stmts b) sc 0 [] .none .none .none .none none .none .none 0)), #[]⟩
noncomputable def o650 (P : Params) := cd #[(sv "_check_arg_types" 1275), (sv "_check_arg_types" 1276), (sv "/claim/cut.py" 1277), (it 514), (it 1), (it 0), (it 0), (it 7), (.ref 645), (.bool true), (it 318), (.ref 646), .none, (.ref 647), (.ref 648), (.ref 649), (it 1282), (it 514), (sv "/claim/cut.py" 1283)]
noncomputable def o651 (P : Params) := fu (fnD 22 fun a b sc => .mk (.ofString "_check_arg_types") (.ofString "_check_arg_types") a (.stmts b) sc 3 [] .none .none .none (.str (.ofString "os.path") 1255) none (.ref 650) .none 0)
noncomputable def o652 (P : Params) := tp #[]
noncomputable def o653 (P : Params) := fl #[]
noncomputable def o654 (P : Params) := tp #[(sv "s" 1288)]
noncomputable def o655 (P : Params) := tp #[]
noncomputable def o656 (P : Params) : Obj := ⟨.none, none, (.func (fnD 23 fun a b sc => .mk (.ofString "isabs") (.ofString "isabs") a (.stmts b) sc 0 [] .none .none .none .none none .none .none 0)), #[]⟩
noncomputable def o657 (P : Params) := cd #[(sv "isabs" 1285), (sv "isabs" 1286), (sv "/claim/cut.py" 1287), (it 519), (it 1), (it 0), (it 0), (it 3), (.ref 652), (.bool true), (it 318), (.ref 653), .none, (.ref 654), (.ref 655), (.ref 656), (it 1289), (it 519), (sv "/claim/cut.py" 1290)]
noncomputable def o658 (P : Params) := fu (fnD 23 fun a b sc => .mk (.ofString "isabs") (.ofString "isabs") a (.stmts b) sc 3 [] .none .none .none (.str (.ofString "os.path") 1255) none (.ref 657) .none 0)
noncomputable def o659 (P : Params) := tp #[]
noncomputable def o660 (P : Params) := fl #[]
noncomputable def o661 (P : Params) := tp #[(sv "a" 1295), (sv "p" 1296), (sv "b" 1297), (sv "sep" 1298), (sv "path" 1299)]
noncomputable def o662 (P : Params) := tp #[]
noncomputable def o663 (P : Params) : Obj := ⟨.none, none, (.func (fnD 24 fun a b sc => .mk (.ofString "join") (.ofString "join") a (.stmts b) sc 0 [] .none .none .none .none none .none .none 0)), #[]⟩
noncomputable def o664 (P : Params) := cd #[(sv "join" 1292), (sv "join" 1293), (sv "/claim/cut.py" 1294), (it 522), (it 1), (it 0), (it 0), (it 7), (.ref 659), (.bool true), (it 318), (.ref 660), .none, (.ref 661), (.ref 662), (.ref 663), (it 1300), (it 522), (sv "/claim/cut.py" 1301)]
noncomputable def o665 (P : Params) := fu (fnD 24 fun a b sc => .mk (.ofString "join") (.ofString "join") a (.stmts b) sc 3 [] .none .none .none (.str (.ofString "os.path") 1255) none (.ref 664) .none 0)
noncomputable def o666 (P : Params) := tp #[]
noncomputable def o667 (P : Params) := fl #[]
noncomputable def o668 (P : Params) := tp #[(sv "p" 1307), (sv "sep" 1308), (sv "i" 1309), (sv "head" 1310)]
noncomputable def o669 (P : Params) := tp #[]
noncomputable def o670 (P : Params) : Obj := ⟨.none, none, (.func (fnD 26 fun a b sc => .mk (.ofString "dirname") (.ofString "dirname") a (.stmts b) sc 0 [] .none .none .none .none none .none .none 0)), #[]⟩
noncomputable def o671 (P : Params) := cd #[(sv "dirname" 1304), (sv "dirname" 1305), (sv "/claim/cut.py" 1306), (it 543), (it 1), (it 0), (it 0), (it 3), (.ref 666), (.bool true), (it 318), (.ref 667), .none, (.ref 668), (.ref 669), (.ref 670), (it 1311), (it 543), (sv "/claim/cut.py" 1312)]
noncomputable def o672 (P : Params) := fu (fnD 26 fun a b sc => .mk (.ofString "dirname") (.ofString "dirname") a (.stmts b) sc 3 [] .none .none .none (.str (.ofString "os.path") 1255) none (.ref 671) .none 0)
noncomputable def trp6 (P : Params) : BT := inz (trp5 P) [(3, o3v675 P), (35, o35v676 P), (631, o631 P), (632, o632 P), (633, o633 P), (634, o634 P), (635, o635 P), (636, o636 P), (637, o637 P), (638, o638 P), (639, o639 P), (640, o640 P), (641, o641 P), (642, o642 P), (643, o643 P), (644, o644 P), (645, o645 P), (646, o646 P), (647, o647 P), (648, o648 P), (649, o649 P), (650, o650 P), (651, o651 P), (652, o652 P), (653, o653 P), (654, o654 P), (655, o655 P), (656, o656 P), (657, o657 P), (658, o658 P), (659, o659 P), (660, o660 P), (661, o661 P), (662, o662 P), (663, o663 P), (664, o664 P), (665, o665 P), (666, o666 P), (667, o667 P), (668, o668 P), (669, o669 P), (670, o670 P), (671, o671 P), (672, o672 P)]
noncomputable def Sp6 (w : World) (os : OsState) : SharedT := ⟨trp6 w.params, 673, {}, #[], ⟨0, 0, 0, 0⟩, 1316, os⟩
noncomputable def o3v719 (P : Params) : Obj := ⟨(.type "dict"), none, (.dict #[en P "__name__" 165 (.str (.ofString "cpy313.shlex") 1314), en P "__doc__" 166 .none, en P "__package__" 167 .none, en P "__loader__" 168 (.builtin "__main__.__loader__#opaque"), en P "__spec__" 169 .none, en P "__annotations__" 170 (.ref 6), en P "__builtins__" 171 (.ref 4), en P "__file__" 173 (.str (.ofString "/claim/cut.py") 172), en P "__cached__" 174 .none, en P "_sre" 275 (.ref 12), en P "deque" 317 (.type "collections.deque"), en P "_wall" 330 (.ref 44), en P "_byteswap" 343 (.ref 51), en P "twin_re_1_fnmatch" 381 (.ref 56), en P "_special_chars_map" 529 (.ref 58), en P "escape" 536 (.ref 68), en P "_translate" 557 (.ref 75), en P "twin_re_1_shlex" 597 (.ref 80), en P "_whence" 607 (.ref 87), en P "_index" 615 (.ref 94), en P "UnsupportedOperation" 637 (.ref 104), en P "IOBase" 669 (.ref 124), en P "BufferedIOBase" 687 (.ref 139), en P "TextIOBase" 705 (.ref 151), en P "BytesIO" 967 (.ref 381), en P "StringIO" 1254 (.ref 628), en P "_kind" 1265 (.ref 637), en P "_fspath" 1274 (.ref 644), en P "_check_arg_types" 1284 (.ref 651), en P "isabs" 1291 (.ref 658), en P "join" 1302 (.ref 665), en P "join_path" 1303 (.ref 665), en P "dirname" 1313 (.ref 672), en P "shlex" 1454 (.ref 763)] 34), #[]⟩
noncomputable def o35v720 (P : Params) := fl #[(it 3), (it 0), (.ref 43), (it 7), (it 0), (.ref 50), (it 16), (it 0), (.ref 67), (it 23), (it 0), (.ref 74), (it 87), (it 0), (.ref 86), (it 92), (it 0), (.ref 93), (it 99), (it 0), (.ref 100), (it 101), (it 0), (.ref 113), (it 108), (it 0), (.ref 135), (it 110), (it 0), (.ref 147), (it 112), (it 0), (.ref 159), (it 282), (it 0), (.ref 389), (it 488), (it 0), (.ref 636), (it 509), (it 0), (.ref 643), (it 514), (it 0), (.ref 650), (it 519), (it 0), (.ref 657), (it 522), (it 0), (.ref 664), (it 543), (it 0), (.ref 671), (it 552), (it 0), (.ref 678)]
noncomputable def o673 (P : Params) := tp #[]
noncomputable def o674 (P : Params) : Obj := ⟨(.type "builtin_function_or_method"), none, (.fields #[(.builtin "type.__prepare__"), (.type "type")]), #[]⟩
noncomputable def o675 (P : Params) : Obj := ⟨(.type "dict"), none, (.dict #[en P "__module__" 1323 (.str (.ofString "cpy313.shlex") 1314), en P "__qualname__" 1325 (.str (.ofString "shlex") 1324), en P "__firstlineno__" 1327 (.int 552 1326), en P "__init__" 1339 (.ref 687), en P "punctuation_chars" 1347 (.ref 695), en P "push_token" 1355 (.ref 702), en P "push_source" 1364 (.ref 710), en P "pop_source" 1371 (.ref 717), en P "get_token" 1383 (.ref 724), en P "read_token" 1394 (.ref 731), en P "sourcehook" 1402 (.ref 738), en P "error_leader" 1411 (.ref 746), en P "__iter__" 1418 (.ref 753), en P "__next__" 1426 (.ref 760), en P "__static_attributes__" 1447 (.ref 761)] 15), #[]⟩
noncomputable def o676 (P : Params) := tp #[]
noncomputable def o677 (P : Params) := fl #[(it 554), (it 4), (.ref 686), (it 596), (it 4), (.ref 693), (it 599), (it 4), (.ref 701), (it 602), (it 4), (.ref 709), (it 615), (it 4), (.ref 716), (it 622), (it 4), (.ref 723), (it 649), (it 4), (.ref 730), (it 786), (it 4), (.ref 737), (it 793), (it 4), (.ref 745), (it 796), (it 4), (.ref 752), (it 799), (it 4), (.ref 759)]
noncomputable def o678 (P : Params) := cd #[(sv "shlex" 1318), (sv "shlex" 1319), (sv "/claim/cut.py" 1320), (it 552), (it 0), (it 0), (it 0), (it 0), (.ref 676), (.bool false), (it 318), (.ref 677), .none, .none, .none, .none, (it 1321), (it 552), (sv "/claim/cut.py" 1322)]
noncomputable def o679 (P : Params) : Obj := ⟨(.type "frame"), none, .plain, #[(some (.ref 678)), (some (.ref 3)), (some (.ref 675)), none, (some (.str (.ofString "cpy313.shlex") 1314)), none, (some (.ref 0))]⟩
noncomputable def o680 (P : Params) := tp #[.none, .none, (.bool false), (.bool false)]
noncomputable def o681 (P : Params) := tp #[]
noncomputable def o682 (P : Params) := fl #[]
noncomputable def o683 (P : Params) := tp #[(sv "self" 1331), (sv "instream" 1332), (sv "infile" 1333), (sv "posix" 1334), (sv "punctuation_chars" 1335), (sv "t" 1336)]
noncomputable def o684 (P : Params) := tp #[]
noncomputable def o685 (P : Params) : Obj := ⟨.none, none, (.func (fnE 28 0 fun a b sc => .mk (.ofString "__init__") (.ofString "shlex.__init__") a (.stmts b) sc 0 [] .none .none .none .none none .none .none 0)), #[]⟩
noncomputable def o686 (P : Params) := cd #[(sv "__init__" 1328), (sv "shlex.__init__" 1329), (sv "/claim/cut.py" 1330), (it 554), (it 5), (it 0), (it 0), (it 3), (.ref 681), (.bool true), (it 318), (.ref 682), .none, (.ref 683), (.ref 684), (.ref 685), (it 1337), (it 554), (sv "/claim/cut.py" 1338)]
noncomputable def o687 (P : Params) := fu (fnE 28 0 fun a b sc => .mk (.ofString "__init__") (.ofString "shlex.__init__") a (.stmts b) sc 3 [] (.ref 680) .none .none (.str (.ofString "cpy313.shlex") 1314) none (.ref 686) .none 0)
noncomputable def o688 (P : Params) := tp #[]
noncomputable def o689 (P : Params) := fl #[]
noncomputable def o690 (P : Params) := tp #[(sv "self" 1343)]
noncomputable def o691 (P : Params) := tp #[]
noncomputable def o692 (P : Params) : Obj := ⟨.none, none, (.func (fnE 28 1 fun a b sc => .mk (.ofString "punctuation_chars") (.ofString "shlex.punctuation_chars") a (.stmts b) sc 0 [] .none .none .none .none none .none .none 0)), #[]⟩
noncomputable def o693 (P : Params) := cd #[(sv "punctuation_chars" 1340), (sv "shlex.punctuation_chars" 1341), (sv "/claim/cut.py" 1342), (it 595), (it 1), (it 0), (it 0), (it 3), (.ref 688), (.bool true), (it 318), (.ref 689), .none, (.ref 690), (.ref 691), (.ref 692), (it 1344), (it 595), (sv "/claim/cut.py" 1345)]
noncomputable def o694 (P : Params) := fu (fnE 28 1 fun a b sc => .mk (.ofString "punctuation_chars") (.ofString "shlex.punctuation_chars") a (.stmts b) sc 3 [] .none .none .none (.str (.ofString "cpy313.shlex") 1314) none (.ref 693) .none 0)
noncomputable def o695 (P : Params) : Obj := ⟨(.type "property"), none, (.fields #[(.ref 694), .none, .none, .none, (.str (.ofString "punctuation_chars") 1347), (.bool false)]), #[]⟩
noncomputable def o696 (P : Params) := tp #[]
noncomputable def o697 (P : Params) := fl #[]
noncomputable def o698 (P : Params) := tp #[(sv "self" 1351), (sv "tok" 1352)]
noncomputable def o699 (P : Params) := tp #[]
noncomputable def o700 (P : Params) : Obj := ⟨.none, none, (.func (fnE 28 2 fun a b sc => .mk (.ofString "push_token") (.ofString "shlex.push_token") a (.stmts b) sc 0 [] .none .none .none .none none .none .none 0)), #[]⟩
noncomputable def o701 (P : Params) := cd #[(sv "push_token" 1348), (sv "shlex.push_token" 1349), (sv "/claim/cut.py" 1350), (it 599), (it 2), (it 0), (it 0), (it 3), (.ref 696), (.bool true), (it 318), (.ref 697), .none, (.ref 698), (.ref 699), (.ref 700), (it 1353), (it 599), (sv "/claim/cut.py" 1354)]
noncomputable def o702 (P : Params) := fu (fnE 28 2 fun a b sc => .mk (.ofString "push_token") (.ofString "shlex.push_token") a (.stmts b) sc 3 [] .none .none .none (.str (.ofString "cpy313.shlex") 1314) none (.ref 701) .none 0)
noncomputable def o703 (P : Params) := tp #[.none]
noncomputable def o704 (P : Params) := tp #[]
noncomputable def o705 (P : Params) := fl #[]
noncomputable def o706 (P : Params) := tp #[(sv "self" 1359), (sv "newstream" 1360), (sv "newfile" 1361)]
noncomputable def o707 (P : Params) := tp #[]
noncomputable def o708 (P : Params) : Obj := ⟨.none, none, (.func (fnE 28 3 fun a b sc => .mk (.ofString "push_source") (.ofString "shlex.push_source") a (.stmts b) sc 0 [] .none .none .none .none none .none .none 0)), #[]⟩
noncomputable def o709 (P : Params) := cd #[(sv "push_source" 1356), (sv "shlex.push_source" 1357), (sv "/claim/cut.py" 1358), (it 602), (it 3), (it 0), (it 0), (it 3), (.ref 704), (.bool true), (it 318), (.ref 705), .none, (.ref 706), (.ref 707), (.ref 708), (it 1362), (it 602), (sv "/claim/cut.py" 1363)]
noncomputable def o710 (P : Params) := fu (fnE 28 3 fun a b sc => .mk (.ofString "push_source") (.ofString "shlex.push_source") a (.stmts b) sc 3 [] (.ref 703) .none .none (.str (.ofString "cpy313.shlex") 1314) none (.ref 709) .none 0)
noncomputable def o711 (P : Params) := tp #[]
noncomputable def o712 (P : Params) := fl #[]
noncomputable def o713 (P : Params) := tp #[(sv "self" 1368)]
noncomputable def o714 (P : Params) := tp #[]
noncomputable def o715 (P : Params) : Obj := ⟨.none, none, (.func (fnE 28 4 fun a b sc => .mk (.ofString "pop_source") (.ofString "shlex.pop_source") a (.stmts b) sc 0 [] .none .none .none .none none .none .none 0)), #[]⟩
noncomputable def o716 (P : Params) := cd #[(sv "pop_source" 1365), (sv "shlex.pop_source" 1366), (sv "/claim/cut.py" 1367), (it 615), (it 1), (it 0), (it 0), (it 3), (.ref 711), (.bool true), (it 318), (.ref 712), .none, (.ref 713), (.ref 714), (.ref 715), (it 1369), (it 615), (sv "/claim/cut.py" 1370)]
noncomputable def o717 (P : Params) := fu (fnE 28 4 fun a b sc => .mk (.ofString "pop_source") (.ofString "shlex.pop_source") a (.stmts b) sc 3 [] .none .none .none (.str (.ofString "cpy313.shlex") 1314) none (.ref 716) .none 0)
noncomputable def o718 (P : Params) := tp #[]
noncomputable def o719 (P : Params) := fl #[]
noncomputable def o720 (P : Params) := tp #[(sv "self" 1375), (sv "tok" 1376), (sv "raw" 1377), (sv "spec" 1378), (sv "newfile" 1379), (sv "newstream" 1380)]
noncomputable def o721 (P : Params) := tp #[]
noncomputable def o722 (P : Params) : Obj := ⟨.none, none, (.func (fnE 28 5 fun a b sc => .mk (.ofString "get_token") (.ofString "shlex.get_token") a (.stmts b) sc 0 [] .none .none .none .none none .none .none 0)), #[]⟩
noncomputable def o723 (P : Params) := cd #[(sv "get_token" 1372), (sv "shlex.get_token" 1373), (sv "/claim/cut.py" 1374), (it 622), (it 1), (it 0), (it 0), (it 3), (.ref 718), (.bool true), (it 318), (.ref 719), .none, (.ref 720), (.ref 721), (.ref 722), (it 1381), (it 622), (sv "/claim/cut.py" 1382)]
noncomputable def o724 (P : Params) := fu (fnE 28 5 fun a b sc => .mk (.ofString "get_token") (.ofString "shlex.get_token") a (.stmts b) sc 3 [] .none .none .none (.str (.ofString "cpy313.shlex") 1314) none (.ref 723) .none 0)
noncomputable def o725 (P : Params) := tp #[]
noncomputable def o726 (P : Params) := fl #[]
noncomputable def o727 (P : Params) := tp #[(sv "self" 1387), (sv "quoted" 1388), (sv "escapedstate" 1389), (sv "nextchar" 1390), (sv "result" 1391)]
noncomputable def o728 (P : Params) := tp #[]
noncomputable def o729 (P : Params) : Obj := ⟨.none, none, (.func (fnE 28 6 fun a b sc => .mk (.ofString "read_token") (.ofString "shlex.read_token") a (.stmts b) sc 0 [] .none .none .none .none none .none .none 0)), #[]⟩
noncomputable def o730 (P : Params) := cd #[(sv "read_token" 1384), (sv "shlex.read_token" 1385), (sv "/claim/cut.py" 1386), (it 649), (it 1), (it 0), (it 0), (it 3), (.ref 725), (.bool true), (it 318), (.ref 726), .none, (.ref 727), (.ref 728), (.ref 729), (it 1392), (it 649), (sv "/claim/cut.py" 1393)]
noncomputable def o731 (P : Params) := fu (fnE 28 6 fun a b sc => .mk (.ofString "read_token") (.ofString "shlex.read_token") a (.stmts b) sc 3 [] .none .none .none (.str (.ofString "cpy313.shlex") 1314) none (.ref 730) .none 0)
noncomputable def o732 (P : Params) := tp #[]
noncomputable def o733 (P : Params) := fl #[]
noncomputable def o734 (P : Params) := tp #[(sv "self" 1398), (sv "newfile" 1399)]
noncomputable def o735 (P : Params) := tp #[]
noncomputable def o736 (P : Params) : Obj := ⟨.none, none, (.func (fnE 28 7 fun a b sc => .mk (.ofString "sourcehook") (.ofString "shlex.sourcehook") a (.stmts b) sc 0 [] .none .none .none .none none .none .none 0)), #[]⟩
noncomputable def o737 (P : Params) := cd #[(sv "sourcehook" 1395), (sv "shlex.sourcehook" 1396), (sv "/claim/cut.py" 1397), (it 786), (it 2), (it 0), (it 0), (it 3), (.ref 732), (.bool true), (it 318), (.ref 733), .none, (.ref 734), (.ref 735), (.ref 736), (it 1400), (it 786), (sv "/claim/cut.py" 1401)]
noncomputable def o738 (P : Params) := fu (fnE 28 7 fun a b sc => .mk (.ofString "sourcehook") (.ofString "shlex.sourcehook") a (.stmts b) sc 3 [] .none .none .none (.str (.ofString "cpy313.shlex") 1314) none (.ref 737) .none 0)
noncomputable def o739 (P : Params) := tp #[.none, .none]
noncomputable def o740 (P : Params) := tp #[]
noncomputable def o741 (P : Params) := fl #[]
noncomputable def o742 (P : Params) := tp #[(sv "self" 1406), (sv "infile" 1407), (sv "lineno" 1408)]
noncomputable def o743 (P : Params) := tp #[]
noncomputable def o744 (P : Params) : Obj := ⟨.none, none, (.func (fnE 28 8 fun a b sc => .mk (.ofString "error_leader") (.ofString "shlex.error_leader") a (.stmts b) sc 0 [] .none .none .none .none none .none .none 0)), #[]⟩
noncomputable def o745 (P : Params) := cd #[(sv "error_leader" 1403), (sv "shlex.error_leader" 1404), (sv "/claim/cut.py" 1405), (it 793), (it 3), (it 0), (it 0), (it 3), (.ref 740), (.bool true), (it 318), (.ref 741), .none, (.ref 742), (.ref 743), (.ref 744), (it 1409), (it 793), (sv "/claim/cut.py" 1410)]
noncomputable def o746 (P : Params) := fu (fnE 28 8 fun a b sc => .mk (.ofString "error_leader") (.ofString "shlex.error_leader") a (.stmts b) sc 3 [] (.ref 739) .none .none (.str (.ofString "cpy313.shlex") 1314) none (.ref 745) .none 0)
noncomputable def o747 (P : Params) := tp #[]
noncomputable def o748 (P : Params) := fl #[]
noncomputable def o749 (P : Params) := tp #[(sv "self" 1415)]
noncomputable def o750 (P : Params) := tp #[]
noncomputable def o751 (P : Params) : Obj := ⟨.none, none, (.func (fnE 28 9 fun a b sc => .mk (.ofString "__iter__") (.ofString "shlex.__iter__") a (.stmts b) sc 0 [] .none .none .none .none none .none .none 0)), #[]⟩
noncomputable def o752 (P : Params) := cd #[(sv "__iter__" 1412), (sv "shlex.__iter__" 1413), (sv "/claim/cut.py" 1414), (it 796), (it 1), (it 0), (it 0), (it 3), (.ref 747), (.bool true), (it 318), (.ref 748), .none, (.ref 749), (.ref 750), (.ref 751), (it 1416), (it 796), (sv "/claim/cut.py" 1417)]
noncomputable def o753 (P : Params) := fu (fnE 28 9 fun a b sc => .mk (.ofString "__iter__") (.ofString "shlex.__iter__") a (.stmts b) sc 3 [] .none .none .none (.str (.ofString "cpy313.shlex") 1314) none (.ref 752) .none 0)
noncomputable def o754 (P : Params) := tp #[]
noncomputable def o755 (P : Params) := fl #[]
noncomputable def o756 (P : Params) := tp #[(sv "self" 1422), (sv "token" 1423)]
noncomputable def o757 (P : Params) := tp #[]
noncomputable def o758 (P : Params) : Obj := ⟨.none, none, (.func (fnE 28 10 fun a b sc => .mk (.ofString "__next__") (.ofString "shlex.__next__") a (.stmts b) sc 0 [] .none .none .none .none none .none .none 0)), #[]⟩
noncomputable def o759 (P : Params) := cd #[(sv "__next__" 1419), (sv "shlex.__next__" 1420), (sv "/claim/cut.py" 1421), (it 799), (it 1), (it 0), (it 0), (it 3), (.ref 754), (.bool true), (it 318), (.ref 755), .none, (.ref 756), (.ref 757), (.ref 758), (it 1424), (it 799), (sv "/claim/cut.py" 1425)]
noncomputable def o760 (P : Params) := fu (fnE 28 10 fun a b sc => .mk (.ofString "__next__") (.ofString "shlex.__next__") a (.stmts b) sc 3 [] .none .none .none (.str (.ofString "cpy313.shlex") 1314) none (.ref 759) .none 0)
noncomputable def o761 (P : Params) := tp #[(sv "_punctuation_chars" 1427), (sv "_pushback_chars" 1428), (sv "commenters" 1429), (sv "debug" 1430), (sv "eof" 1431), (sv "escape" 1432), (sv "escapedquotes" 1433), (sv "filestack" 1434), (sv "infile" 1435), (sv "instream" 1436), (sv "lineno" 1437), (sv "posix" 1438), (sv "pushback" 1439), (sv "quotes" 1440), (sv "source" 1441), (sv "state" 1442), (sv "token" 1443), (sv "whitespace" 1444), (sv "whitespace_split" 1445), (sv "wordchars" 1446)]
noncomputable def o762 (P : Params) : Obj := ⟨(.type "dict"), none, (.dict #[en P "__module__" 1323 (.str (.ofString "cpy313.shlex") 1314), en P "__firstlineno__" 1327 (.int 552 1326), en P "__init__" 1339 (.ref 687), en P "punctuation_chars" 1347 (.ref 695), en P "push_token" 1355 (.ref 702), en P "push_source" 1364 (.ref 710), en P "pop_source" 1371 (.ref 717), en P "get_token" 1383 (.ref 724), en P "read_token" 1394 (.ref 731), en P "sourcehook" 1402 (.ref 738), en P "error_leader" 1411 (.ref 746), en P "__iter__" 1418 (.ref 753), en P "__next__" 1426 (.ref 760), en P "__static_attributes__" 1447 (.ref 761), en P "__dict__" 1449 (.ref 764), en P "__weakref__" 1451 (.ref 765), en P "__doc__" 1452 .none] 4), #[]⟩
noncomputable def o763 (P : Params) : Obj := ⟨(.type "type"), none, (.cls (.mk (.ofString "shlex") [(.type "object")] [(.ref 763), (.type "object")] 762 (.ofString "shlex") true [] [] false none false)), #[none, none, (some (.str (.ofString "shlex") 1316)), (some (.str (.ofString "shlex") 1324)), (some (.builtin "object.__new__")), (some (.bool true))]⟩
noncomputable def o764 (P : Params) : Obj := ⟨(.type "getset_descriptor"), none, (.fields #[(.str (.ofString "__dict__") 1448), (.ref 763), (.builtin "function.__dict__"), (.builtin "function.__dict__#set")]), #[]⟩
noncomputable def o765 (P : Params) : Obj := ⟨(.type "getset_descriptor"), none, (.fields #[(.str (.ofString "__weakref__") 1450), (.ref 763), (.builtin "ExceptionGroup.__weakref__"), .none]), #[]⟩
noncomputable def o766 (P : Params) : Obj := ⟨(.type "super"), none, (.fields #[(.ref 763), (.ref 763), (.ref 763)]), #[]⟩
noncomputable def o767 (P : Params) : Obj := ⟨(.type "builtin_function_or_method"), none, (.fields #[(.builtin "object.__init_subclass__"), (.ref 763)]), #[]⟩
noncomputable def trp7 (P : Params) : BT := inz (trp6 P) [(3, o3v719 P), (35, o35v720 P), (673, o673 P), (674, o674 P), (675, o675 P), (676, o676 P), (677, o677 P), (678, o678 P), (679, o679 P), (680, o680 P), (681, o681 P), (682, o682 P), (683, o683 P), (684, o684 P), (685, o685 P), (686, o686 P), (687, o687 P), (688, o688 P), (689, o689 P), (690, o690 P), (691, o691 P), (692, o692 P), (693, o693 P), (694, o694 P), (695, o695 P), (696, o696 P), (697, o697 P), (698, o698 P), (699, o699 P), (700, o700 P), (701, o701 P), (702, o702 P), (703, o703 P), (704, o704 P), (705, o705 P), (706, o706 P), (707, o707 P), (708, o708 P), (709, o709 P), (710, o710 P), (711, o711 P), (712, o712 P), (713, o713 P), (714, o714 P), (715, o715 P), (716, o716 P), (717, o717 P), (718, o718 P), (719, o719 P), (720, o720 P), (721, o721 P), (722, o722 P), (723, o723 P), (724, o724 P), (725, o725 P), (726, o726 P), (727, o727 P), (728, o728 P), (729, o729 P), (730, o730 P), (731, o731 P), (732, o732 P), (733, o733 P), (734, o734 P), (735, o735 P), (736, o736 P), (737, o737 P), (738, o738 P), (739, o739 P), (740, o740 P), (741, o741 P), (742, o742 P), (743, o743 P), (744, o744 P), (745, o745 P), (746, o746 P), (747, o747 P), (748, o748 P), (749, o749 P), (750, o750 P), (751, o751 P), (752, o752 P), (753, o753 P), (754, o754 P), (755, o755 P), (756, o756 P), (757, o757 P), (758, o758 P), (759, o759 P), (760, o760 P), (761, o761 P), (762, o762 P), (763, o763 P), (764, o764 P), (765, o765 P), (766, o766 P), (767, o767 P)]
noncomputable def Sp7 (w : World) (os : OsState) : SharedT := ⟨trp7 w.params, 768, {}, #[], ⟨0, 0, 0, 0⟩, 1455, os⟩
noncomputable def o3v816 (P : Params) : Obj := ⟨(.type "dict"), none, (.dict #[en P "__name__" 165 (.str (.ofString "law_in0080_01") 1482), en P "__doc__" 166 .none, en P "__package__" 167 .none, en P "__loader__" 168 (.builtin "__main__.__loader__#opaque"), en P "__spec__" 169 .none, en P "__annotations__" 170 (.ref 6), en P "__builtins__" 171 (.ref 4), en P "__file__" 173 (.str (.ofString "/claim/cut.py") 172), en P "__cached__" 174 .none, en P "_sre" 275 (.ref 12), en P "deque" 317 (.type "collections.deque"), en P "_wall" 330 (.ref 44), en P "_byteswap" 343 (.ref 51), en P "twin_re_1_fnmatch" 381 (.ref 56), en P "_special_chars_map" 529 (.ref 58), en P "escape" 536 (.ref 68), en P "_translate" 557 (.ref 75), en P "twin_re_1_shlex" 597 (.ref 80), en P "_whence" 607 (.ref 87), en P "_index" 615 (.ref 94), en P "UnsupportedOperation" 637 (.ref 104), en P "IOBase" 669 (.ref 124), en P "BufferedIOBase" 687 (.ref 139), en P "TextIOBase" 705 (.ref 151), en P "BytesIO" 967 (.ref 381), en P "StringIO" 1254 (.ref 628), en P "_kind" 1265 (.ref 637), en P "_fspath" 1274 (.ref 644), en P "_check_arg_types" 1284 (.ref 651), en P "isabs" 1291 (.ref 658), en P "join" 1302 (.ref 782), en P "join_path" 1303 (.ref 665), en P "dirname" 1313 (.ref 672), en P "shlex" 1454 (.ref 763), en P "split" 1464 (.ref 775), en P "join_shlex" 1472 (.ref 782), en P "_find_unsafe" 1474 (.ref 783), en P "quote" 1481 (.ref 790), en P "_law_spelled" 1489 (.ref 795), en P "_law_orders" 1501 (.ref 802), en P "_law_hex" 1507 (.ref 807), en P "_law_takes" 1513 (.ref 812), en P "_law_done" 1524 (.ref 819), en P "_law_fits" 1530 (.ref 824), en P "_law_walked" 1536 (.ref 829), en P "law" 1542 (.ref 834)] 46), #[]⟩
noncomputable def o35v817 (P : Params) := fl #[(it 3), (it 0), (.ref 43), (it 7), (it 0), (.ref 50), (it 16), (it 0), (.ref 67), (it 23), (it 0), (.ref 74), (it 87), (it 0), (.ref 86), (it 92), (it 0), (.ref 93), (it 99), (it 0), (.ref 100), (it 101), (it 0), (.ref 113), (it 108), (it 0), (.ref 135), (it 110), (it 0), (.ref 147), (it 112), (it 0), (.ref 159), (it 282), (it 0), (.ref 389), (it 488), (it 0), (.ref 636), (it 509), (it 0), (.ref 643), (it 514), (it 0), (.ref 650), (it 519), (it 0), (.ref 657), (it 522), (it 0), (.ref 664), (it 543), (it 0), (.ref 671), (it 552), (it 0), (.ref 678), (it 804), (it 0), (.ref 774), (it 812), (it 0), (.ref 781), (it 816), (it 0), (.ref 789), (it 823), (it 0), (.ref 794), (it 825), (it 0), (.ref 801), (it 841), (it 0), (.ref 806), (it 843), (it 0), (.ref 811), (it 855), (it 0), (.ref 818), (it 865), (it 0), (.ref 823), (it 874), (it 0), (.ref 828), (it 884), (it 0), (.ref 833)]
noncomputable def o768 (P : Params) := tp #[(.bool false), (.bool true)]
noncomputable def o769 (P : Params) := tp #[]
noncomputable def o770 (P : Params) := fl #[]
noncomputable def o771 (P : Params) := tp #[(sv "s" 1458), (sv "comments" 1459), (sv "posix" 1460), (sv "lex" 1461)]
noncomputable def o772 (P : Params) := tp #[]
noncomputable def o773 (P : Params) : Obj := ⟨.none, none, (.func (fnD 29 fun a b sc => .mk (.ofString "split") (.ofString "split") a (.stmts b) sc 0 [] .none .none .none .none none .none .none 0)), #[]⟩
noncomputable def o774 (P : Params) := cd #[(sv "split" 1455), (sv "split" 1456), (sv "/claim/cut.py" 1457), (it 804), (it 3), (it 0), (it 0), (it 3), (.ref 769), (.bool true), (it 318), (.ref 770), .none, (.ref 771), (.ref 772), (.ref 773), (it 1462), (it 804), (sv "/claim/cut.py" 1463)]
noncomputable def o775 (P : Params) := fu (fnD 29 fun a b sc => .mk (.ofString "split") (.ofString "split") a (.stmts b) sc 3 [] (.ref 768) .none .none (.str (.ofString "cpy313.shlex") 1314) none (.ref 774) .none 0)
noncomputable def o776 (P : Params) := tp #[]
noncomputable def o777 (P : Params) := fl #[]
noncomputable def o778 (P : Params) := tp #[(sv "split_command" 1468)]
noncomputable def o779 (P : Params) := tp #[]
noncomputable def o780 (P : Params) : Obj := ⟨.none, none, (.func (fnD 30 fun a b sc => .mk (.ofString "join") (.ofString "join") a (.stmts b) sc 0 [] .none .none .none .none none .none .none 0)), #[]⟩
noncomputable def o781 (P : Params) := cd #[(sv "join" 1465), (sv "join" 1466), (sv "/claim/cut.py" 1467), (it 812), (it 1), (it 0), (it 0), (it 3), (.ref 776), (.bool true), (it 318), (.ref 777), .none, (.ref 778), (.ref 779), (.ref 780), (it 1469), (it 812), (sv "/claim/cut.py" 1470)]
noncomputable def o782 (P : Params) := fu (fnD 30 fun a b sc => .mk (.ofString "join") (.ofString "join") a (.stmts b) sc 3 [] .none .none .none (.str (.ofString "cpy313.shlex") 1314) none (.ref 781) .none 0)
noncomputable def o783 (P : Params) : Obj := ⟨(.type "builtin_function_or_method"), none, (.fields #[(.builtin "re.Pattern.search"), (.ref 80)]), #[]⟩
noncomputable def o784 (P : Params) := tp #[]
noncomputable def o785 (P : Params) := fl #[]
noncomputable def o786 (P : Params) := tp #[(sv "s" 1478)]
noncomputable def o787 (P : Params) := tp #[]
noncomputable def o788 (P : Params) : Obj := ⟨.none, none, (.func (fnD 33 fun a b sc => .mk (.ofString "quote") (.ofString "quote") a (.stmts b) sc 0 [] .none .none .none .none none .none .none 0)), #[]⟩
noncomputable def o789 (P : Params) := cd #[(sv "quote" 1475), (sv "quote" 1476), (sv "/claim/cut.py" 1477), (it 816), (it 1), (it 0), (it 0), (it 3), (.ref 784), (.bool true), (it 318), (.ref 785), .none, (.ref 786), (.ref 787), (.ref 788), (it 1479), (it 816), (sv "/claim/cut.py" 1480)]
noncomputable def o790 (P : Params) := fu (fnD 33 fun a b sc => .mk (.ofString "quote") (.ofString "quote") a (.stmts b) sc 3 [] .none .none .none (.str (.ofString "cpy313.shlex") 1314) none (.ref 789) .none 0)
noncomputable def o791 (P : Params) := tp #[]
noncomputable def o792 (P : Params) := fl #[]
noncomputable def o793 (P : Params) : Obj := ⟨.none, none, (.func (fnD 35 fun a b sc => .mk (.ofString "_law_spelled") (.ofString "_law_spelled") a (.stmts b) sc 0 [] .none .none .none .none none .none .none 0)), #[]⟩
noncomputable def o794 (P : Params) := cd #[(sv "_law_spelled" 1484), (sv "_law_spelled" 1485), (sv "/claim/cut.py" 1486), (it 823), (it 1), (it 0), (it 0), (it 3), (.ref 791), (.bool true), (it 318), (.ref 792), .none, .none, .none, (.ref 793), (it 1487), (it 823), (sv "/claim/cut.py" 1488)]
noncomputable def o795 (P : Params) := fu (fnD 35 fun a b sc => .mk (.ofString "_law_spelled") (.ofString "_law_spelled") a (.stmts b) sc 3 [] .none .none .none (.str (.ofString "law_in0080_01") 1482) none (.ref 794) .none 0)
noncomputable def o796 (P : Params) := tp #[]
noncomputable def o797 (P : Params) := fl #[]
noncomputable def o798 (P : Params) := tp #[(sv "numbers" 1493), (sv "pieces" 1494), (sv "orders" 1495), (sv "x" 1496), (sv "half" 1497), (sv "row" 1498)]
noncomputable def o799 (P : Params) := tp #[]
noncomputable def o800 (P : Params) : Obj := ⟨.none, none, (.func (fnD 36 fun a b sc => .mk (.ofString "_law_orders") (.ofString "_law_orders") a (.stmts b) sc 0 [] .none .none .none .none none .none .none 0)), #[]⟩
noncomputable def o801 (P : Params) := cd #[(sv "_law_orders" 1490), (sv "_law_orders" 1491), (sv "/claim/cut.py" 1492), (it 825), (it 1), (it 0), (it 0), (it 3), (.ref 796), (.bool true), (it 318), (.ref 797), .none, (.ref 798), (.ref 799), (.ref 800), (it 1499), (it 825), (sv "/claim/cut.py" 1500)]
noncomputable def o802 (P : Params) := fu (fnD 36 fun a b sc => .mk (.ofString "_law_orders") (.ofString "_law_orders") a (.stmts b) sc 3 [] .none .none .none (.str (.ofString "law_in0080_01") 1482) none (.ref 801) .none 0)
noncomputable def o803 (P : Params) := tp #[]
noncomputable def o804 (P : Params) := fl #[]
noncomputable def o805 (P : Params) : Obj := ⟨.none, none, (.func (fnD 37 fun a b sc => .mk (.ofString "_law_hex") (.ofString "_law_hex") a (.stmts b) sc 0 [] .none .none .none .none none .none .none 0)), #[]⟩
noncomputable def o806 (P : Params) := cd #[(sv "_law_hex" 1502), (sv "_law_hex" 1503), (sv "/claim/cut.py" 1504), (it 841), (it 1), (it 0), (it 0), (it 3), (.ref 803), (.bool true), (it 318), (.ref 804), .none, .none, .none, (.ref 805), (it 1505), (it 841), (sv "/claim/cut.py" 1506)]
noncomputable def o807 (P : Params) := fu (fnD 37 fun a b sc => .mk (.ofString "_law_hex") (.ofString "_law_hex") a (.stmts b) sc 3 [] .none .none .none (.str (.ofString "law_in0080_01") 1482) none (.ref 806) .none 0)
noncomputable def o808 (P : Params) := tp #[]
noncomputable def o809 (P : Params) := fl #[]
noncomputable def o810 (P : Params) : Obj := ⟨.none, none, (.func (fnD 38 fun a b sc => .mk (.ofString "_law_takes") (.ofString "_law_takes") a (.stmts b) sc 0 [] .none .none .none .none none .none .none 0)), #[]⟩
noncomputable def o811 (P : Params) := cd #[(sv "_law_takes" 1508), (sv "_law_takes" 1509), (sv "/claim/cut.py" 1510), (it 843), (it 3), (it 0), (it 0), (it 3), (.ref 808), (.bool true), (it 318), (.ref 809), .none, .none, .none, (.ref 810), (it 1511), (it 843), (sv "/claim/cut.py" 1512)]
noncomputable def o812 (P : Params) := fu (fnD 38 fun a b sc => .mk (.ofString "_law_takes") (.ofString "_law_takes") a (.stmts b) sc 3 [] .none .none .none (.str (.ofString "law_in0080_01") 1482) none (.ref 811) .none 0)
noncomputable def o813 (P : Params) := tp #[]
noncomputable def o814 (P : Params) := fl #[]
noncomputable def o815 (P : Params) := tp #[(sv "words" 1517), (sv "row" 1518), (sv "star" 1519), (sv "told" 1520), (sv "k" 1521)]
noncomputable def o816 (P : Params) := tp #[]
noncomputable def o817 (P : Params) : Obj := ⟨.none, none, (.func (fnD 39 fun a b sc => .mk (.ofString "_law_done") (.ofString "_law_done") a (.stmts b) sc 0 [] .none .none .none .none none .none .none 0)), #[]⟩
noncomputable def o818 (P : Params) := cd #[(sv "_law_done" 1514), (sv "_law_done" 1515), (sv "/claim/cut.py" 1516), (it 855), (it 2), (it 0), (it 0), (it 3), (.ref 813), (.bool true), (it 318), (.ref 814), .none, (.ref 815), (.ref 816), (.ref 817), (it 1522), (it 855), (sv "/claim/cut.py" 1523)]
noncomputable def o819 (P : Params) := fu (fnD 39 fun a b sc => .mk (.ofString "_law_done") (.ofString "_law_done") a (.stmts b) sc 3 [] .none .none .none (.str (.ofString "law_in0080_01") 1482) none (.ref 818) .none 0)
noncomputable def o820 (P : Params) := tp #[]
noncomputable def o821 (P : Params) := fl #[]
noncomputable def o822 (P : Params) : Obj := ⟨.none, none, (.func (fnD 40 fun a b sc => .mk (.ofString "_law_fits") (.ofString "_law_fits") a (.stmts b) sc 0 [] .none .none .none .none none .none .none 0)), #[]⟩
noncomputable def o823 (P : Params) := cd #[(sv "_law_fits" 1525), (sv "_law_fits" 1526), (sv "/claim/cut.py" 1527), (it 865), (it 2), (it 0), (it 0), (it 3), (.ref 820), (.bool true), (it 318), (.ref 821), .none, .none, .none, (.ref 822), (it 1528), (it 865), (sv "/claim/cut.py" 1529)]
noncomputable def o824 (P : Params) := fu (fnD 40 fun a b sc => .mk (.ofString "_law_fits") (.ofString "_law_fits") a (.stmts b) sc 3 [] .none .none .none (.str (.ofString "law_in0080_01") 1482) none (.ref 823) .none 0)
noncomputable def o825 (P : Params) := tp #[]
noncomputable def o826 (P : Params) := fl #[]
noncomputable def o827 (P : Params) : Obj := ⟨.none, none, (.func (fnD 41 fun a b sc => .mk (.ofString "_law_walked") (.ofString "_law_walked") a (.stmts b) sc 0 [] .none .none .none .none none .none .none 0)), #[]⟩
noncomputable def o828 (P : Params) := cd #[(sv "_law_walked" 1531), (sv "_law_walked" 1532), (sv "/claim/cut.py" 1533), (it 874), (it 2), (it 0), (it 0), (it 3), (.ref 825), (.bool true), (it 318), (.ref 826), .none, .none, .none, (.ref 827), (it 1534), (it 874), (sv "/claim/cut.py" 1535)]
noncomputable def o829 (P : Params) := fu (fnD 41 fun a b sc => .mk (.ofString "_law_walked") (.ofString "_law_walked") a (.stmts b) sc 3 [] .none .none .none (.str (.ofString "law_in0080_01") 1482) none (.ref 828) .none 0)
noncomputable def o830 (P : Params) := tp #[]
noncomputable def o831 (P : Params) := fl #[]
noncomputable def o832 (P : Params) : Obj := ⟨.none, none, (.func (fnD 42 fun a b sc => .mk (.ofString "law") (.ofString "law") a (.stmts b) sc 0 [] .none .none .none .none none .none .none 0)), #[]⟩
noncomputable def o833 (P : Params) := cd #[(sv "law" 1537), (sv "law" 1538), (sv "/claim/cut.py" 1539), (it 884), (it 1), (it 0), (it 0), (it 3), (.ref 830), (.bool true), (it 318), (.ref 831), .none, .none, .none, (.ref 832), (it 1540), (it 884), (sv "/claim/cut.py" 1541)]
noncomputable def o834 (P : Params) := fu (fnD 42 fun a b sc => .mk (.ofString "law") (.ofString "law") a (.stmts b) sc 3 [] .none .none .none (.str (.ofString "law_in0080_01") 1482) none (.ref 833) .none 0)
noncomputable def trp8 (P : Params) : BT := inz (trp7 P) [(3, o3v816 P), (35, o35v817 P), (768, o768 P), (769, o769 P), (770, o770 P), (771, o771 P), (772, o772 P), (773, o773 P), (774, o774 P), (775, o775 P), (776, o776 P), (777, o777 P), (778, o778 P), (779, o779 P), (780, o780 P), (781, o781 P), (782, o782 P), (783, o783 P), (784, o784 P), (785, o785 P), (786, o786 P), (787, o787 P), (788, o788 P), (789, o789 P), (790, o790 P), (791, o791 P), (792, o792 P), (793, o793 P), (794, o794 P), (795, o795 P), (796, o796 P), (797, o797 P), (798, o798 P), (799, o799 P), (800, o800 P), (801, o801 P), (802, o802 P), (803, o803 P), (804, o804 P), (805, o805 P), (806, o806 P), (807, o807 P), (808, o808 P), (809, o809 P), (810, o810 P), (811, o811 P), (812, o812 P), (813, o813 P), (814, o814 P), (815, o815 P), (816, o816 P), (817, o817 P), (818, o818 P), (819, o819 P), (820, o820 P), (821, o821 P), (822, o822 P), (823, o823 P), (824, o824 P), (825, o825 P), (826, o826 P), (827, o827 P), (828, o828 P), (829, o829 P), (830, o830 P), (831, o831 P), (832, o832 P), (833, o833 P), (834, o834 P)]
noncomputable def Sp8 (w : World) (os : OsState) : SharedT := ⟨trp8 w.params, 835, {}, #[], ⟨0, 0, 0, 0⟩, 1543, os⟩
noncomputable def Hf (P : Params) : Heap := absHeap (trp8 P) 835 {}
noncomputable def Sf (w : World) (os : OsState) : Shared := ⟨Hf w.params, #[], ⟨0, 0, 0, 0⟩, 1543, os⟩
noncomputable def heap_39 : Params → Frag := fun P => (nat_lit 2, o2v130 P) :: (nat_lit 3, o3v816 P) :: (nat_lit 38, o38 P) :: (nat_lit 40, o40 P) :: (nat_lit 41, o41 P) :: (nat_lit 43, o43 P) :: (nat_lit 44, o44 P) :: (nat_lit 45, o45 P) :: (nat_lit 47, o47 P) :: (nat_lit 48, o48 P) :: (nat_lit 50, o50 P) :: (nat_lit 51, o51 P) :: (nat_lit 55, o55 P) :: (nat_lit 56, o56 P) :: (nat_lit 58, o58 P) :: (nat_lit 62, o62 P) :: (nat_lit 64, o64 P) :: (nat_lit 65, o65 P) :: (nat_lit 67, o67 P) :: (nat_lit 68, o68 P) :: (nat_lit 69, o69 P) :: (nat_lit 71, o71 P) :: (nat_lit 72, o72 P) :: (nat_lit 74, o74 P) :: (nat_lit 75, o75 P) :: (nat_lit 79, o79 P) :: (nat_lit 80, o80 P) :: (nat_lit 81, o81 P) :: (nat_lit 83, o83 P) :: (nat_lit 84, o84 P) :: (nat_lit 86, o86 P) :: (nat_lit 87, o87 P) :: (nat_lit 88, o88 P) :: (nat_lit 90, o90 P) :: (nat_lit 91, o91 P) :: (nat_lit 93, o93 P) :: (nat_lit 94, o94 P) :: (nat_lit 95, o95 P) :: (nat_lit 102, o102 P) :: (nat_lit 103, o103 P) :: (nat_lit 104, o104 P) :: (nat_lit 105, o105 P) :: (nat_lit 115, o115 P) :: (nat_lit 117, o117 P) :: (nat_lit 118, o118 P) :: (nat_lit 120, o120 P) :: (nat_lit 121, o121 P) :: (nat_lit 122, o122 P) :: (nat_lit 123, o123 P) :: (nat_lit 124, o124 P) :: (nat_lit 125, o125 P) :: (nat_lit 126, o126 P) :: (nat_lit 127, o127 P) :: (nat_lit 130, o130 P) :: (nat_lit 137, o137 P) :: (nat_lit 138, o138 P) :: (nat_lit 139, o139v194 P) :: (nat_lit 142, o142 P) :: (nat_lit 149, o149 P) :: (nat_lit 150, o150 P) :: (nat_lit 151, o151v427 P) :: (nat_lit 154, o154 P) :: (nat_lit 161, o161 P) :: (nat_lit 162, o162 P) :: (nat_lit 164, o164 P) :: (nat_lit 165, o165 P) :: (nat_lit 167, o167 P) :: (nat_lit 168, o168 P) :: (nat_lit 169, o169 P) :: (nat_lit 171, o171 P) :: (nat_lit 172, o172 P) :: (nat_lit 174, o174 P) :: (nat_lit 175, o175 P) :: (nat_lit 176, o176 P) :: (nat_lit 178, o178 P) :: (nat_lit 179, o179 P) :: (nat_lit 181, o181 P) :: (nat_lit 182, o182 P) :: (nat_lit 183, o183 P) :: (nat_lit 185, o185 P) :: (nat_lit 186, o186 P) :: (nat_lit 188, o188 P) :: (nat_lit 189, o189 P) :: (nat_lit 190, o190 P) :: (nat_lit 191, o191 P) :: (nat_lit 193, o193 P) :: (nat_lit 194, o194 P) :: (nat_lit 196, o196 P) :: (nat_lit 197, o197 P) :: (nat_lit 198, o198 P) :: (nat_lit 200, o200 P) :: (nat_lit 201, o201 P) :: (nat_lit 203, o203 P) :: (nat_lit 204, o204 P) :: (nat_lit 205, o205 P) :: (nat_lit 207, o207 P) :: (nat_lit 208, o208 P) :: (nat_lit 210, o210 P) :: (nat_lit 211, o211 P) :: (nat_lit 212, o212 P) :: (nat_lit 214, o214 P) :: (nat_lit 215, o215 P) :: (nat_lit 217, o217 P) :: (nat_lit 218, o218 P) :: (nat_lit 219, o219 P) :: (nat_lit 221, o221 P) :: (nat_lit 222, o222 P) :: (nat_lit 224, o224 P) :: (nat_lit 225, o225 P) :: (nat_lit 226, o226 P) :: (nat_lit 228, o228 P) :: (nat_lit 229, o229 P) :: (nat_lit 231, o231 P) :: (nat_lit 232, o232 P) :: (nat_lit 233, o233 P) :: (nat_lit 235, o235 P) :: (nat_lit 236, o236 P) :: (nat_lit 238, o238 P) :: (nat_lit 239, o239 P) :: (nat_lit 240, o240 P) :: (nat_lit 242, o242 P) :: (nat_lit 243, o243 P) :: (nat_lit 245, o245 P) :: (nat_lit 246, o246 P) :: (nat_lit 247, o247 P) :: (nat_lit 249, o249 P) :: (nat_lit 250, o250 P) :: (nat_lit 252, o252 P) :: (nat_lit 253, o253 P) :: (nat_lit 254, o254 P) :: (nat_lit 256, o256 P) :: (nat_lit 257, o257 P) :: (nat_lit 259, o259 P) :: (nat_lit 260, o260 P) :: (nat_lit 261, o261 P) :: (nat_lit 263, o263 P) :: (nat_lit 264, o264 P) :: (nat_lit 266, o266 P) :: (nat_lit 267, o267 P) :: (nat_lit 268, o268 P) :: (nat_lit 270, o270 P) :: (nat_lit 271, o271 P) :: (nat_lit 273, o273 P) :: (nat_lit 274, o274 P) :: (nat_lit 275, o275 P) :: (nat_lit 277, o277 P) :: (nat_lit 278, o278 P) :: (nat_lit 280, o280 P) :: (nat_lit 281, o281 P) :: (nat_lit 282, o282 P) :: (nat_lit 283, o283 P) :: (nat_lit 285, o285 P) :: (nat_lit 286, o286 P) :: (nat_lit 288, o288 P) :: (nat_lit 289, o289 P) :: (nat_lit 290, o290 P) :: (nat_lit 291, o291 P) :: (nat_lit 293, o293 P) :: (nat_lit 294, o294 P) :: (nat_lit 296, o296 P) :: (nat_lit 297, o297 P) :: (nat_lit 298, o298 P) :: (nat_lit 299, o299 P) :: (nat_lit 301, o301 P) :: (nat_lit 302, o302 P) :: (nat_lit 304, o304 P) :: (nat_lit 305, o305 P) :: (nat_lit 306, o306 P) :: (nat_lit 307, o307 P) :: (nat_lit 309, o309 P) :: (nat_lit 310, o310 P) :: (nat_lit 312, o312 P) :: (nat_lit 313, o313 P) :: (nat_lit 314, o314 P) :: (nat_lit 316, o316 P) :: (nat_lit 317, o317 P) :: (nat_lit 319, o319 P) :: (nat_lit 320, o320 P) :: (nat_lit 321, o321 P) :: (nat_lit 323, o323 P) :: (nat_lit 324, o324 P) :: (nat_lit 326, o326 P) :: (nat_lit 327, o327 P) :: (nat_lit 328, o328 P) :: (nat_lit 329, o329 P) :: (nat_lit 331, o331 P) :: (nat_lit 332, o332 P) :: (nat_lit 334, o334 P) :: (nat_lit 335, o335 P) :: (nat_lit 336, o336 P) :: (nat_lit 337, o337 P) :: (nat_lit 339, o339 P) :: (nat_lit 340, o340 P) :: (nat_lit 342, o342 P) :: (nat_lit 343, o343 P) :: (nat_lit 344, o344 P) :: (nat_lit 346, o346 P) :: (nat_lit 347, o347 P) :: (nat_lit 349, o349 P) :: (nat_lit 350, o350 P) :: (nat_lit 351, o351 P) :: (nat_lit 353, o353 P) :: (nat_lit 354, o354 P) :: (nat_lit 356, o356 P) :: (nat_lit 357, o357 P) :: (nat_lit 358, o358 P) :: (nat_lit 360, o360 P) :: (nat_lit 361, o361 P) :: (nat_lit 363, o363 P) :: (nat_lit 364, o364 P) :: (nat_lit 365, o365 P) :: (nat_lit 367, o367 P) :: (nat_lit 368, o368 P) :: (nat_lit 370, o370 P) :: (nat_lit 371, o371 P) :: (nat_lit 372, o372 P) :: (nat_lit 374, o374 P) :: (nat_lit 375, o375 P) :: (nat_lit 377, o377 P) :: (nat_lit 378, o378 P) :: (nat_lit 379, o379 P) :: (nat_lit 380, o380 P) :: (nat_lit 381, o381 P) :: (nat_lit 384, o384 P) :: (nat_lit 391, o391 P) :: (nat_lit 392, o392 P) :: (nat_lit 394, o394 P) :: (nat_lit 395, o395 P) :: (nat_lit 397, o397 P) :: (nat_lit 398, o398 P) :: (nat_lit 399, o399 P) :: (nat_lit 401, o401 P) :: (nat_lit 402, o402 P) :: (nat_lit 404, o404 P) :: (nat_lit 405, o405 P) :: (nat_lit 406, o406 P) :: (nat_lit 408, o408 P) :: (nat_lit 409, o409 P) :: (nat_lit 411, o411 P) :: (nat_lit 412, o412 P) :: (nat_lit 413, o413 P) :: (nat_lit 415, o415 P) :: (nat_lit 416, o416 P) :: (nat_lit 418, o418 P) :: (nat_lit 419, o419 P) :: (nat_lit 420, o420 P) :: (nat_lit 422, o422 P) :: (nat_lit 423, o423 P) :: (nat_lit 425, o425 P) :: (nat_lit 426, o426 P) :: (nat_lit 427, o427 P) :: (nat_lit 429, o429 P) :: (nat_lit 430, o430 P) :: (nat_lit 432, o432 P) :: (nat_lit 433, o433 P) :: (nat_lit 434, o434 P) :: (nat_lit 435, o435 P) :: (nat_lit 437, o437 P) :: (nat_lit 438, o438 P) :: (nat_lit 440, o440 P) :: (nat_lit 441, o441 P) :: (nat_lit 442, o442 P) :: (nat_lit 443, o443 P) :: (nat_lit 445, o445 P) :: (nat_lit 446, o446 P) :: (nat_lit 448, o448 P) :: (nat_lit 449, o449 P) :: (nat_lit 450, o450 P) :: (nat_lit 451, o451 P) :: (nat_lit 453, o453 P) :: (nat_lit 454, o454 P) :: (nat_lit 456, o456 P) :: (nat_lit 457, o457 P) :: (nat_lit 458, o458 P) :: (nat_lit 459, o459 P) :: (nat_lit 461, o461 P) :: (nat_lit 462, o462 P) :: (nat_lit 464, o464 P) :: (nat_lit 465, o465 P) :: (nat_lit 466, o466 P) :: (nat_lit 467, o467 P) :: (nat_lit 469, o469 P) :: (nat_lit 470, o470 P) :: (nat_lit 472, o472 P) :: (nat_lit 473, o473 P) :: (nat_lit 474, o474 P) :: (nat_lit 476, o476 P) :: (nat_lit 477, o477 P) :: (nat_lit 479, o479 P) :: (nat_lit 480, o480 P) :: (nat_lit 481, o481 P) :: (nat_lit 483, o483 P) :: (nat_lit 484, o484 P) :: (nat_lit 486, o486 P) :: (nat_lit 487, o487 P) :: (nat_lit 488, o488 P) :: (nat_lit 490, o490 P) :: (nat_lit 491, o491 P) :: (nat_lit 493, o493 P) :: (nat_lit 494, o494 P) :: (nat_lit 495, o495 P) :: (nat_lit 497, o497 P) :: (nat_lit 498, o498 P) :: (nat_lit 500, o500 P) :: (nat_lit 501, o501 P) :: (nat_lit 502, o502 P) :: (nat_lit 504, o504 P) :: (nat_lit 505, o505 P) :: (nat_lit 507, o507 P) :: (nat_lit 508, o508 P) :: (nat_lit 509, o509 P) :: (nat_lit 511, o511 P) :: (nat_lit 512, o512 P) :: (nat_lit 514, o514 P) :: (nat_lit 515, o515 P) :: (nat_lit 516, o516 P) :: (nat_lit 518, o518 P) :: (nat_lit 519, o519 P) :: (nat_lit 521, o521 P) :: (nat_lit 522, o522 P) :: (nat_lit 523, o523 P) :: (nat_lit 525, o525 P) :: (nat_lit 526, o526 P) :: (nat_lit 528, o528 P) :: (nat_lit 529, o529 P) :: (nat_lit 530, o530 P) :: (nat_lit 532, o532 P) :: (nat_lit 533, o533 P) :: (nat_lit 535, o535 P) :: (nat_lit 536, o536 P) :: (nat_lit 537, o537 P) :: (nat_lit 539, o539 P) :: (nat_lit 540, o540 P) :: (nat_lit 542, o542 P) :: (nat_lit 543, o543 P) :: (nat_lit 544, o544 P) :: (nat_lit 546, o546 P) :: (nat_lit 547, o547 P) :: (nat_lit 549, o549 P) :: (nat_lit 550, o550 P) :: (nat_lit 551, o551 P) :: (nat_lit 552, o552 P) :: (nat_lit 554, o554 P) :: (nat_lit 555, o555 P) :: (nat_lit 557, o557 P) :: (nat_lit 558, o558 P) :: (nat_lit 559, o559 P) :: (nat_lit 560, o560 P) :: (nat_lit 562, o562 P) :: (nat_lit 563, o563 P) :: (nat_lit 565, o565 P) :: (nat_lit 566, o566 P) :: (nat_lit 567, o567 P) :: (nat_lit 568, o568 P) :: (nat_lit 570, o570 P) :: (nat_lit 571, o571 P) :: (nat_lit 573, o573 P) :: (nat_lit 574, o574 P) :: (nat_lit 575, o575 P) :: (nat_lit 576, o576 P) :: (nat_lit 578, o578 P) :: (nat_lit 579, o579 P) :: (nat_lit 581, o581 P) :: (nat_lit 582, o582 P) :: (nat_lit 583, o583 P) :: (nat_lit 584, o584 P) :: (nat_lit 586, o586 P) :: (nat_lit 587, o587 P) :: (nat_lit 589, o589 P) :: (nat_lit 590, o590 P) :: (nat_lit 591, o591 P) :: (nat_lit 593, o593 P) :: (nat_lit 594, o594 P) :: (nat_lit 596, o596 P) :: (nat_lit 597, o597 P) :: (nat_lit 598, o598 P) :: (nat_lit 600, o600 P) :: (nat_lit 601, o601 P) :: (nat_lit 603, o603 P) :: (nat_lit 604, o604 P) :: (nat_lit 605, o605 P) :: (nat_lit 607, o607 P) :: (nat_lit 608, o608 P) :: (nat_lit 610, o610 P) :: (nat_lit 611, o611 P) :: (nat_lit 612, o612 P) :: (nat_lit 614, o614 P) :: (nat_lit 615, o615 P) :: (nat_lit 617, o617 P) :: (nat_lit 618, o618 P) :: (nat_lit 619, o619 P) :: (nat_lit 621, o621 P) :: (nat_lit 622, o622 P) :: (nat_lit 624, o624 P) :: (nat_lit 625, o625 P) :: (nat_lit 626, o626 P) :: (nat_lit 627, o627 P) :: (nat_lit 628, o628 P) :: (nat_lit 631, o631 P) :: (nat_lit 633, o633 P) :: (nat_lit 634, o634 P) :: (nat_lit 636, o636 P) :: (nat_lit 637, o637 P) :: (nat_lit 638, o638 P) :: (nat_lit 640, o640 P) :: (nat_lit 641, o641 P) :: (nat_lit 643, o643 P) :: (nat_lit 644, o644 P) :: (nat_lit 645, o645 P) :: (nat_lit 647, o647 P) :: (nat_lit 648, o648 P) :: (nat_lit 650, o650 P) :: (nat_lit 651, o651 P) :: (nat_lit 652, o652 P) :: (nat_lit 654, o654 P) :: (nat_lit 655, o655 P) :: (nat_lit 657, o657 P) :: (nat_lit 658, o658 P) :: (nat_lit 659, o659 P) :: (nat_lit 661, o661 P) :: (nat_lit 662, o662 P) :: (nat_lit 664, o664 P) :: (nat_lit 665, o665 P) :: (nat_lit 666, o666 P) :: (nat_lit 668, o668 P) :: (nat_lit 669, o669 P) :: (nat_lit 671, o671 P) :: (nat_lit 672, o672 P) :: (nat_lit 680, o680 P) :: (nat_lit 681, o681 P) :: (nat_lit 683, o683 P) :: (nat_lit 684, o684 P) :: (nat_lit 686, o686 P) :: (nat_lit 687, o687 P) :: (nat_lit 688, o688 P) :: (nat_lit 690, o690 P) :: (nat_lit 691, o691 P) :: (nat_lit 693, o693 P) :: (nat_lit 694, o694 P) :: (nat_lit 695, o695 P) :: (nat_lit 696, o696 P) :: (nat_lit 698, o698 P) :: (nat_lit 699, o699 P) :: (nat_lit 701, o701 P) :: (nat_lit 702, o702 P) :: (nat_lit 703, o703 P) :: (nat_lit 704, o704 P) :: (nat_lit 706, o706 P) :: (nat_lit 707, o707 P) :: (nat_lit 709, o709 P) :: (nat_lit 710, o710 P) :: (nat_lit 711, o711 P) :: (nat_lit 713, o713 P) :: (nat_lit 714, o714 P) :: (nat_lit 716, o716 P) :: (nat_lit 717, o717 P) :: (nat_lit 718, o718 P) :: (nat_lit 720, o720 P) :: (nat_lit 721, o721 P) :: (nat_lit 723, o723 P) :: (nat_lit 724, o724 P) :: (nat_lit 725, o725 P) :: (nat_lit 727, o727 P) :: (nat_lit 728, o728 P) :: (nat_lit 730, o730 P) :: (nat_lit 731, o731 P) :: (nat_lit 732, o732 P) :: (nat_lit 734, o734 P) :: (nat_lit 735, o735 P) :: (nat_lit 737, o737 P) :: (nat_lit 738, o738 P) :: (nat_lit 739, o739 P) :: (nat_lit 740, o740 P) :: (nat_lit 742, o742 P) :: (nat_lit 743, o743 P) :: (nat_lit 745, o745 P) :: (nat_lit 746, o746 P) :: (nat_lit 747, o747 P) :: (nat_lit 749, o749 P) :: (nat_lit 750, o750 P) :: (nat_lit 752, o752 P) :: (nat_lit 753, o753 P) :: (nat_lit 754, o754 P) :: (nat_lit 756, o756 P) :: (nat_lit 757, o757 P) :: (nat_lit 759, o759 P) :: (nat_lit 760, o760 P) :: (nat_lit 761, o761 P) :: (nat_lit 762, o762 P) :: (nat_lit 763, o763 P) :: (nat_lit 764, o764 P) :: (nat_lit 765, o765 P) :: (nat_lit 768, o768 P) :: (nat_lit 769, o769 P) :: (nat_lit 771, o771 P) :: (nat_lit 772, o772 P) :: (nat_lit 774, o774 P) :: (nat_lit 775, o775 P) :: (nat_lit 776, o776 P) :: (nat_lit 778, o778 P) :: (nat_lit 779, o779 P) :: (nat_lit 781, o781 P) :: (nat_lit 782, o782 P) :: (nat_lit 783, o783 P) :: (nat_lit 784, o784 P) :: (nat_lit 786, o786 P) :: (nat_lit 787, o787 P) :: (nat_lit 789, o789 P) :: (nat_lit 790, o790 P) :: (nat_lit 791, o791 P) :: (nat_lit 794, o794 P) :: (nat_lit 795, o795 P) :: (nat_lit 796, o796 P) :: (nat_lit 798, o798 P) :: (nat_lit 799, o799 P) :: (nat_lit 801, o801 P) :: (nat_lit 802, o802 P) :: (nat_lit 803, o803 P) :: (nat_lit 806, o806 P) :: (nat_lit 807, o807 P) :: (nat_lit 808, o808 P) :: (nat_lit 811, o811 P) :: (nat_lit 812, o812 P) :: (nat_lit 813, o813 P) :: (nat_lit 815, o815 P) :: (nat_lit 816, o816 P) :: (nat_lit 818, o818 P) :: (nat_lit 819, o819 P) :: (nat_lit 820, o820 P) :: (nat_lit 823, o823 P) :: (nat_lit 824, o824 P) :: (nat_lit 825, o825 P) :: (nat_lit 828, o828 P) :: (nat_lit 829, o829 P) :: (nat_lit 830, o830 P) :: (nat_lit 833, o833 P) :: (nat_lit 834, o834 P) :: []
noncomputable abbrev asK : List Addr := [2, 3, 38, 40, 41, 43, 44, 45, 47, 48, 50, 51, 55, 56, 58, 62, 64, 65, 67, 68, 69, 71, 72, 74, 75, 79, 80, 81, 83, 84, 86, 87, 88, 90, 91, 93, 94, 95, 102, 103, 104, 105, 115, 117, 118, 120, 121, 122, 123, 124, 125, 126, 127, 130, 137, 138, 139, 142, 149, 150, 151, 154, 161, 162, 164, 165, 167, 168, 169, 171, 172, 174, 175, 176, 178, 179, 181, 182, 183, 185, 186, 188, 189, 190, 191, 193, 194, 196, 197, 198, 200, 201, 203, 204, 205, 207, 208, 210, 211, 212, 214, 215, 217, 218, 219, 221, 222, 224, 225, 226, 228, 229, 231, 232, 233, 235, 236, 238, 239, 240, 242, 243, 245, 246, 247, 249, 250, 252, 253, 254, 256, 257, 259, 260, 261, 263, 264, 266, 267, 268, 270, 271, 273, 274, 275, 277, 278, 280, 281, 282, 283, 285, 286, 288, 289, 290, 291, 293, 294, 296, 297, 298, 299, 301, 302, 304, 305, 306, 307, 309, 310, 312, 313, 314, 316, 317, 319, 320, 321, 323, 324, 326, 327, 328, 329, 331, 332, 334, 335, 336, 337, 339, 340, 342, 343, 344, 346, 347, 349, 350, 351, 353, 354, 356, 357, 358, 360, 361, 363, 364, 365, 367, 368, 370, 371, 372, 374, 375, 377, 378, 379, 380, 381, 384, 391, 392, 394, 395, 397, 398, 399, 401, 402, 404, 405, 406, 408, 409, 411, 412, 413, 415, 416, 418, 419, 420, 422, 423, 425, 426, 427, 429, 430, 432, 433, 434, 435, 437, 438, 440, 441, 442, 443, 445, 446, 448, 449, 450, 451, 453, 454, 456, 457, 458, 459, 461, 462, 464, 465, 466, 467, 469, 470, 472, 473, 474, 476, 477, 479, 480, 481, 483, 484, 486, 487, 488, 490, 491, 493, 494, 495, 497, 498, 500, 501, 502, 504, 505, 507, 508, 509, 511, 512, 514, 515, 516, 518, 519, 521, 522, 523, 525, 526, 528, 529, 530, 532, 533, 535, 536, 537, 539, 540, 542, 543, 544, 546, 547, 549, 550, 551, 552, 554, 555, 557, 558, 559, 560, 562, 563, 565, 566, 567, 568, 570, 571, 573, 574, 575, 576, 578, 579, 581, 582, 583, 584, 586, 587, 589, 590, 591, 593, 594, 596, 597, 598, 600, 601, 603, 604, 605, 607, 608, 610, 611, 612, 614, 615, 617, 618, 619, 621, 622, 624, 625, 626, 627, 628, 631, 633, 634, 636, 637, 638, 640, 641, 643, 644, 645, 647, 648, 650, 651, 652, 654, 655, 657, 658, 659, 661, 662, 664, 665, 666, 668, 669, 671, 672, 680, 681, 683, 684, 686, 687, 688, 690, 691, 693, 694, 695, 696, 698, 699, 701, 702, 703, 704, 706, 707, 709, 710, 711, 713, 714, 716, 717, 718, 720, 721, 723, 724, 725, 727, 728, 730, 731, 732, 734, 735, 737, 738, 739, 740, 742, 743, 745, 746, 747, 749, 750, 752, 753, 754, 756, 757, 759, 760, 761, 762, 763, 764, 765, 768, 769, 771, 772, 774, 775, 776, 778, 779, 781, 782, 783, 784, 786, 787, 789, 790, 791, 794, 795, 796, 798, 799, 801, 802, 803, 806, 807, 808, 811, 812, 813, 815, 816, 818, 819, 820, 823, 824, 825, 828, 829, 830, 833, 834]
noncomputable def view_39 : Program := { pw with main := { pw.main with body := ([0, 1, 2, 4, 5, 7, 8, 10, 11, 13, 14, 15, 16, 17, 18, 19, 20, 22, 23, 24, 25, 27, 28, 30, 32, 33, 34, 35, 37, 38, 39, 40, 41, 42, 43, 44] : List Nat).filterMap fun i => pw.main.body[i]? } }
noncomputable abbrev loose : List Str := [Str.ofString "twin_re_1_fnmatch", Str.ofString "_special_chars_map", Str.ofString "twin_re_1_shlex", Str.ofString "UnsupportedOperation", Str.ofString "IOBase", Str.ofString "BufferedIOBase", Str.ofString "TextIOBase", Str.ofString "BytesIO", Str.ofString "StringIO", Str.ofString "join_path", Str.ofString "shlex", Str.ofString "split", Str.ofString "join_shlex", Str.ofString "_find_unsafe"]
end Mine.hd
end
section

namespace Mine.hd
theorem oq (w : World) : PySem.W.Fast.tw10274390034422433532 PySem.W.Fast.tw14364793385576792824 (opening pw) w 1086 (PySem.W.Fast.tw1435165496053646825 (opening pw)).1 (PySem.W.Fast.tw1435165496053646825 (opening pw)).2 = some (Se w (PySem.W.Fast.tw1435165496053646825 (opening pw)).1.os) := by kernel_rfl
theorem oL (w : World) : importEnds treeTable (opening pw) w 1086 (start (opening pw)).1 (start (opening pw)).2 = some (Se w (start (opening pw)).1.os) := by
  rw [PySem.W.Fast.te10274390034422433532, tTab, PySem.W.Fast.te1435165496053646825]; exact oq w
theorem fq (w : World) : (fun os => (PySem.W.Fast.tw14289696077712309145 pw (Se w os)).map (fun s => (s.heap, s.gens, s.drawn, s.toks))) = fun os => some ((S0 w os).heap, (S0 w os).gens, (S0 w os).drawn, (S0 w os).toks) := by kernel_rfl
theorem fL (w : World) : (fun os => (fenceModules? pw (Se w os)).map (fun s => (s.heap, s.gens, s.drawn, s.toks))) = fun os => some ((S0 w os).heap, (S0 w os).gens, (S0 w os).drawn, (S0 w os).toks) := by
  rw [PySem.W.Fast.te14289696077712309145]; exact fq w
theorem sizeL (w : World) : ((H0 w.params).isNs mainGlobals && (#[] : Array GenState).size == 0, (H0 w.params).objs.size, (H0 w.params).nsMap mainGlobals "__annotations__") = (true, 34, ann) := by kernel_rfl
theorem liftR {w : World} {n : Nat} {s s' : SharedT} {t : Thread} {f : Flow} {c : Code} {p : Pos} (h : PySem.W.Fast.tw10110043849684766642 PySem.W.Fast.tw14364793385576792824 pw w 34 ann 1 n s t = some (f, s', c, p)) : segRun treeTable pw w 34 ann 1 n s.abs t = some (f, s'.abs, c, p) :=
  segRun_of (by rw [PySem.W.Fast.te10110043849684766642, tTab]; exact h)
theorem preq (w : World) (os : OsState) : PySem.W.Fast.tw15667345088766844465 PySem.W.Fast.tw14364793385576792824 pw w 34 ann 12 (S0 w os) (topStub pw) = some (Sa w os, ⟨PySem.W.Fast.tw11892475500146522536 PySem.W.Fast.tw14364793385576792824 cE, cE, ⟨0, 0, 0, 0⟩, BF⟩) := by kernel_rfl
theorem preL (w : World) (os : OsState) : topGo treeTable pw w 34 ann 12 (S0 w os) (topStub pw) = some (Sa w os, ⟨denote treeTable cE, cE, ⟨0, 0, 0, 0⟩, BF⟩) := by
  rw [PySem.W.Fast.te15667345088766844465, PySem.W.Fast.te11892475500146522536, tTab]; exact preq w os
theorem blockq (w : World) (os : OsState) : PySem.W.Fast.tw14374325043358763698 PySem.W.Fast.tw14364793385576792824 pw w 34 ann 1 1 (Sa w os) (blockOf bod env cE ⟨0, 0, 0, 0⟩ BF) = some (.next, (Sb w os).abs, cE, ⟨0, 0, 0, 0⟩) := by kernel_rfl
theorem blockL (w : World) (os : OsState) : segRun treeTable pw w 34 ann 1 1 (Sa w os) (blockOf bod env cE ⟨0, 0, 0, 0⟩ BF) = some (.next, (Sb w os).abs, cE, ⟨0, 0, 0, 0⟩) := by
  rw [PySem.W.Fast.te14374325043358763698, tTab]; exact blockq w os
theorem pq0 (w : World) (os : OsState) : PySem.W.Fast.tw10110043849684766642 PySem.W.Fast.tw14364793385576792824 pw w 34 ann 1 162 (Sb w os) (piecesOf (sts 0 5) env cE ⟨0, 0, 0, 0⟩ BF) = some (.next, Sp0 w os, cE, ⟨14, 0, 14, 8⟩) := by kernel_rfl
theorem pq1_false_false (w : World) (os : OsState) : PySem.W.Fast.tw10110043849684766642 PySem.W.Fast.tw14364793385576792824 pw ((w.withFollow "special-get-raises" false).withFollow "comprehension-iter-twice" false) 34 ann 1 1253 (Sp0 ((w.withFollow "special-get-raises" false).withFollow "comprehension-iter-twice" false) os) (piecesOf (sts 5 1) env cE ⟨14, 0, 14, 8⟩ BF) = some (.next, Sp1 ((w.withFollow "special-get-raises" false).withFollow "comprehension-iter-twice" false) os, cE, ⟨15, 0, 15, 18⟩) := by kernel_rfl
theorem pq1_false_true (w : World) (os : OsState) : PySem.W.Fast.tw10110043849684766642 PySem.W.Fast.tw14364793385576792824 pw ((w.withFollow "special-get-raises" true).withFollow "comprehension-iter-twice" false) 34 ann 1 1253 (Sp0 ((w.withFollow "special-get-raises" true).withFollow "comprehension-iter-twice" false) os) (piecesOf (sts 5 1) env cE ⟨14, 0, 14, 8⟩ BF) = some (.next, Sp1 ((w.withFollow "special-get-raises" true).withFollow "comprehension-iter-twice" false) os, cE, ⟨15, 0, 15, 18⟩) := by kernel_rfl
theorem pq1_true_false (w : World) (os : OsState) : PySem.W.Fast.tw10110043849684766642 PySem.W.Fast.tw14364793385576792824 pw ((w.withFollow "special-get-raises" false).withFollow "comprehension-iter-twice" true) 34 ann 1 1253 (Sp0 ((w.withFollow "special-get-raises" false).withFollow "comprehension-iter-twice" true) os) (piecesOf (sts 5 1) env cE ⟨14, 0, 14, 8⟩ BF) = some (.next, Sp1 ((w.withFollow "special-get-raises" false).withFollow "comprehension-iter-twice" true) os, cE, ⟨15, 0, 15, 18⟩) := by kernel_rfl
theorem pq1_true_true (w : World) (os : OsState) : PySem.W.Fast.tw10110043849684766642 PySem.W.Fast.tw14364793385576792824 pw ((w.withFollow "special-get-raises" true).withFollow "comprehension-iter-twice" true) 34 ann 1 1253 (Sp0 ((w.withFollow "special-get-raises" true).withFollow "comprehension-iter-twice" true) os) (piecesOf (sts 5 1) env cE ⟨14, 0, 14, 8⟩ BF) = some (.next, Sp1 ((w.withFollow "special-get-raises" true).withFollow "comprehension-iter-twice" true) os, cE, ⟨15, 0, 15, 18⟩) := by kernel_rfl
theorem pq1 (w : World) (os : OsState) : PySem.W.Fast.tw10110043849684766642 PySem.W.Fast.tw14364793385576792824 pw w 34 ann 1 1253 (Sp0 w os) (piecesOf (sts 5 1) env cE ⟨14, 0, 14, 8⟩ BF) = some (.next, Sp1 w os, cE, ⟨15, 0, 15, 18⟩) :=
  byRow2 "comprehension-iter-twice" (P := fun w => ∀ os, PySem.W.Fast.tw10110043849684766642 PySem.W.Fast.tw14364793385576792824 pw w 34 ann 1 1253 (Sp0 w os) (piecesOf (sts 5 1) env cE ⟨14, 0, 14, 8⟩ BF) = some (.next, Sp1 w os, cE, ⟨15, 0, 15, 18⟩))
    (byRow2 "special-get-raises" (P := fun w => (fun w => ∀ os, PySem.W.Fast.tw10110043849684766642 PySem.W.Fast.tw14364793385576792824 pw w 34 ann 1 1253 (Sp0 w os) (piecesOf (sts 5 1) env cE ⟨14, 0, 14, 8⟩ BF) = some (.next, Sp1 w os, cE, ⟨15, 0, 15, 18⟩)) (w.withFollow "comprehension-iter-twice" false)) (fun w os => pq1_false_false w os) (fun w os => pq1_false_true w os))
    (byRow2 "special-get-raises" (P := fun w => (fun w => ∀ os, PySem.W.Fast.tw10110043849684766642 PySem.W.Fast.tw14364793385576792824 pw w 34 ann 1 1253 (Sp0 w os) (piecesOf (sts 5 1) env cE ⟨14, 0, 14, 8⟩ BF) = some (.next, Sp1 w os, cE, ⟨15, 0, 15, 18⟩)) (w.withFollow "comprehension-iter-twice" true)) (fun w os => pq1_true_false w os) (fun w os => pq1_true_true w os)) w os
theorem pq2 (w : World) (os : OsState) : PySem.W.Fast.tw10110043849684766642 PySem.W.Fast.tw14364793385576792824 pw w 34 ann 1 232 (Sp1 w os) (piecesOf (sts 6 7) env cE ⟨15, 0, 15, 18⟩ BF) = some (.next, Sp2 w os, cE, ⟨92, 0, 98, 12⟩) := by kernel_rfl
theorem pq3 (w : World) (os : OsState) : PySem.W.Fast.tw10110043849684766642 PySem.W.Fast.tw14364793385576792824 pw w 34 ann 1 894 (Sp2 w os) (piecesOf (sts 13 4) env cE ⟨92, 0, 98, 12⟩ BF) = some (.next, Sp3 w os, cE, ⟨110, 0, 111, 21⟩) := by kernel_rfl
theorem pq4 (w : World) (os : OsState) : PySem.W.Fast.tw10110043849684766642 PySem.W.Fast.tw14364793385576792824 pw w 34 ann 1 1278 (Sp3 w os) (piecesOf (sts 17 1) env cE ⟨110, 0, 111, 21⟩ BF) = some (.next, Sp4 w os, cE, ⟨112, 0, 281, 17⟩) := by kernel_rfl
theorem pq5 (w : World) (os : OsState) : PySem.W.Fast.tw10110043849684766642 PySem.W.Fast.tw14364793385576792824 pw w 34 ann 1 1578 (Sp4 w os) (piecesOf (sts 18 1) env cE ⟨112, 0, 281, 17⟩ BF) = some (.next, Sp5 w os, cE, ⟨282, 0, 486, 17⟩) := by kernel_rfl
theorem pq6 (w : World) (os : OsState) : PySem.W.Fast.tw10110043849684766642 PySem.W.Fast.tw14364793385576792824 pw w 34 ann 1 217 (Sp5 w os) (piecesOf (sts 19 9) env cE ⟨282, 0, 486, 17⟩ BF) = some (.next, Sp6 w os, cE, ⟨551, 0, 551, 8⟩) := by kernel_rfl
theorem pq7 (w : World) (os : OsState) : PySem.W.Fast.tw10110043849684766642 PySem.W.Fast.tw14364793385576792824 pw w 34 ann 1 633 (Sp6 w os) (piecesOf (sts 28 1) env cE ⟨551, 0, 551, 8⟩ BF) = some (.next, Sp7 w os, cE, ⟨552, 0, 803, 20⟩) := by kernel_rfl
theorem pq8 (w : World) (os : OsState) : PySem.W.Fast.tw10110043849684766642 PySem.W.Fast.tw14364793385576792824 pw w 34 ann 1 361 (Sp7 w os) (piecesOf (sts 29 14) env cE ⟨552, 0, 803, 20⟩ BF) = some (.next, Sp8 w os, cE, ⟨884, 0, 895, 88⟩) := by kernel_rfl
theorem finq (w : World) (os : OsState) : PySem.W.Fast.tw14082659384304107361 PySem.W.Fast.tw14364793385576792824 pw w 34 ann 2 ((Sp8 w os).abs) ⟨doneF .next, cE, ⟨884, 0, 895, 88⟩, BF⟩ = some (Sf w os) := by kernel_rfl
theorem finL (w : World) (os : OsState) : topRun treeTable pw w 34 ann 2 ((Sp8 w os).abs) ⟨doneF .next, cE, ⟨884, 0, 895, 88⟩, BF⟩ = some (Sf w os) := by
  rw [PySem.W.Fast.te14082659384304107361, tTab]; exact finq w os
theorem bodE : bod = sts 0 5 ++ (sts 5 1 ++ (sts 6 7 ++ (sts 13 4 ++ (sts 17 1 ++ (sts 18 1 ++ (sts 19 9 ++ (sts 28 1 ++ (sts 29 14 ++ [])))))))) := by kernel_rfl
theorem runL (w : World) (os : OsState) : topRun treeTable pw w 34 ann (12 + (1 + (162 + (1253 + (232 + (894 + (1278 + (1578 + (217 + (633 + (361 + 2))))))))))) (S0 w os) (topStub pw) = some (Sf w os) :=
  go_top (preL w os) (piece_block (b := bod) (blockL w os) (by rw [bodE]; exact (piece_app (liftR (pq0 w os)) (piece_app (liftR (pq1 w os)) (piece_app (liftR (pq2 w os)) (piece_app (liftR (pq3 w os)) (piece_app (liftR (pq4 w os)) (piece_app (liftR (pq5 w os)) (piece_app (liftR (pq6 w os)) (piece_app (liftR (pq7 w os)) (piece_app (liftR (pq8 w os)) (piece_nil (finL w os)))))))))))))
noncomputable def hook : Hook := kmHook heap_39 asK (fun _ => by kernel_rfl) [70, 777]
abbrev rowW : RowW := PySem.Challenge.rw_in0080_01.row.toRowW
noncomputable abbrev Xt : Shared → Bool := fun s => xlAt view_39 [] s && recOk (RowW.records rowW) s
theorem lookA (w : World) : (fun os => staticsOk (importedModules pw.main.body) (H0 w.params) (Hf w.params) && namesBound pw (Hf w.params) && gensDone (Sf w os) && laidKept (H0 w.params) (Hf w.params)) = fun _ => true := by kernel_rfl
theorem lookBq (w : World) : (fun os => PySem.W.Fast.tw4187177175401517315 view_39 loose (importedModules pw.main.body) Xt true (Sf w os)) = fun _ => openGood view_39 loose := by kernel_rfl
theorem lookB (w : World) : (fun os => openSeen view_39 loose (importedModules pw.main.body) Xt true (Sf w os)) = fun _ => openGood view_39 loose := by
  rw [PySem.W.Fast.te4187177175401517315]; exact lookBq w
theorem HfE (P : Params) : Hf P = absHeap (trp8 P) 835 {} := by kernel_rfl
theorem map_get (tr : BT) (n : Nat) (l : Life) : ∀ (as : List Addr), (as.all fun a => Nat.blt a n && (tr.get a).isSome) = true → as.map (absHeap tr n l).get? = as.map fun a => (tr.get a).bind alive
  | [], _ => rfl
  | a :: r, h => by
    rw [List.all_cons, Bool.and_eq_true, Bool.and_eq_true] at h
    obtain ⟨o, ho⟩ := Option.isSome_iff_exists.mp h.1.2
    rw [List.map_cons, List.map_cons, map_get tr n l r h.2, abs_get (Nat.le_of_ble_eq_true h.1.1) ho, ho]; rfl
theorem asOk (P : Params) : (asK.all fun a => Nat.blt a 835 && ((trp8 P).get a).isSome) = true := by kernel_rfl
theorem asIs (P : Params) : (asK.map fun a => ((trp8 P).get a).bind alive) = (heap_39 P).map fun p => some p.2 := by kernel_rfl
theorem tsIs (P : Params) : (([70, 777] : List Addr).map (Hf P).get?) = [some (tabObj #[]), some (tabObj #[])] := by kernel_rfl
theorem lookC (w : World) : (fun os => hook.obs (Sf w os)) = fun _ => hook.val w := by
  funext os
  show (asK.map (Hf w.params).get?, ([70, 777] : List Addr).map (Hf w.params).get?) = ((heap_39 w.params).map fun p => some p.2, [some (tabObj #[]), some (tabObj #[])])
  rw [tsIs, HfE, map_get _ _ _ _ (asOk w.params), asIs]
theorem leftL : LeftO pw view_39 loose Xt hook.obs hook.val 13324 true :=
  LeftO.of_pieces (g0 := true) (H₀ := H0) (H₁ := Hf) (gs₀ := #[]) (gs₁ := #[]) (d₀ := (⟨0, 0, 0, 0⟩ : Drawn)) (d₁ := (⟨0, 0, 0, 0⟩ : Drawn)) (k₀ := 318) (k₁ := 1543) (open_cut (He := He) (H₀ := H0) (ge := #[]) (g₀ := #[]) (de := (⟨0, 0, 0, 0⟩ : Drawn)) (d₀ := (⟨0, 0, 0, 0⟩ : Drawn)) (ke := 318) (k₀ := 318) oL (by decide) fL) sizeL runL (by decide +kernel) fun w => funext fun os =>
    Prod.ext (congrFun (lookA w) os) (Prod.ext (congrFun (lookB w) os) (congrFun (lookC w) os))
theorem and2 {a b : Bool} (h : a = true) (k : b = true) : (a && b) = true := by rw [h, k]; rfl
noncomputable abbrev lw : OpenLaw := PySem.Challenge.rw_in0080_01
noncomputable abbrev lp : Program := lw.row.prog
noncomputable abbrev lkB : Look := { strict := !(importedModules lp.main.body).all cThrough.contains, foot := none, bare := (["vars", "dir", "locals"] : List Str).filter (readsOut lp lp.main.body) }
theorem sa1 : sreFenced lp.main = true := by kernel_rfl
theorem sa2 : ((moduleNames lp.main.body).isEmpty || lookedIntoSs (moduleNames lp.main.body) lp.main.body) = true := by kernel_rfl
theorem sa3 : namesResolve lp = true := by kernel_rfl
theorem sa4 : lp.boundNames.all (fun n => !worldNames.contains n) = true := by kernel_rfl
theorem sa6 : (namesMeet lp lp.main.body fun _ n => attrL n) = true := by kernel_rfl
theorem nrs (n : Nat) {k : Look} : ∀ {l : List Stmt}, noRoadLSs k (l.take n) = true → noRoadLSs k (l.drop n) = true → noRoadLSs k l = true := by
  induction n with
  | zero => intro l _ h; exact h
  | succ n ih =>
    intro l a b
    cases l with
    | nil => rfl
    | cons s r =>
      have a : (noRoadLS k s && noRoadLSs k (r.take n)) = true := a
      rw [Bool.and_eq_true] at a
      exact and2 a.1 (ih a.2 b)
noncomputable abbrev bd : List Stmt := lp.main.body
noncomputable abbrev lkC : Look := { strict := false, foot := none }
theorem lkE : lkB = lkC := by kernel_rfl
theorem sa7a : noRoadLSs lkC (bd.take 19) = true := by kernel_rfl
theorem sa7b : noRoadLSs lkC ((bd.drop 19).take 2) = true := by kernel_rfl
theorem sa7c : noRoadLSs lkC ((bd.drop 21).take 11) = true := by kernel_rfl
theorem sa7d : noRoadLSs lkC (bd.drop 32) = true := by kernel_rfl
theorem sa7 : noRoadLSs lkB lp.main.body = true := (congrArg (fun k => noRoadLSs k bd) lkE).trans (nrs 19 sa7a (nrs 2 sa7b (nrs 11 sa7c sa7d)))
theorem sb1 : lw.row.wellSaid = true := by
  unfold OpenRow.wellSaid OpenRow.partSaid looksOpen
  repeat' (with_reducible refine and2 ?_ ?_)
  all_goals first | with_reducible exact sa1 | with_reducible exact sa2 | with_reducible exact sa3 | with_reducible exact sa4 | with_reducible exact sa7 | with_reducible exact sa6 | kernel_rfl
theorem sb3 : (noRoadLSs { strict := true, foot := some lw.bound', writes := lw.writes, may := lw.may } lw.footing) = true := by kernel_rfl
theorem sb7 : (namesMeet lw.prog lw.footing (fun sc n => (!(["type", "isinstance", "issubclass", "getattr", "hasattr"] : List Str).contains n || sc.names.lookup n == some .globalImplicit) &&
    (lw.may != some n || sc.kind == .module || sc.names.lookup n == some .globalImplicit))) = true := by kernel_rfl
theorem sb9 : (namesMeet lw.prog lw.above (fun _ n => !lw.own.contains n)) = true := by kernel_rfl
theorem sb10 : (namesMeet lw.prog lw.footing fun sc n => sc.kind == .module || sc.names.lookup n != some .globalExplicit) = true := by kernel_rfl
theorem said : PySem.Challenge.rw_in0080_01.wellSaid = true := by
  unfold OpenLaw.wellSaid
  repeat' (with_reducible refine and2 ?_ ?_)
  all_goals first | with_reducible exact sb1 | with_reducible exact sb3 | with_reducible exact sb7 | with_reducible exact sb9 | with_reducible exact sb10 | kernel_rfl
end Mine.hd
end
section

namespace Mine
namespace hd
noncomputable def lawR : DefRec × List (Str × PySem.Expr) := (defOf view_39 (Str.ofString "law")).getD (⟨default, default, [], default, default⟩, [])
theorem defL : defOf view_39 rowW.name = some (lawR.1, lawR.2) := by kernel_rfl
theorem theL : rowW.prog.theDef rowW.name = some (lawR.1.params, lawR.1.body, lawR.1.scope) := by kernel_rfl
theorem kwL : kwWritten? lawR.1.params.kwonlyargs lawR.1.params.kw_defaults = some lawR.2 := by kernel_rfl
theorem okL : (chainsOk view_39 && opensWell rowW.prog && (frees rowW && rowW.within.isEmpty)) = true := by kernel_rfl
theorem witL : rowW.promised := by w_witness2
theorem bareL : rowW.prog.bare := ⟨rfl, rfl, rfl, rfl, rfl, by decide +kernel⟩
end hd
theorem hd (walk : WalkC hd.view_39 hd.loose (XL hd.view_39 []) hd.hook.says hd.rowW hd.lawR.1 hd.lawR.2 (fun f vs => call f vs)) : PySem.Challenge.rw_in0080_01.Holds :=
  holds_law hd.said fun said => holds_openC (r := PySem.Challenge.rw_in0080_01.row) (Xt := hd.Xt) hd.leftL hd.hook.of hd.hook.keeps (fun s e => xl_of s (Bool.and_eq_true_iff.mp e).1) XL.keeps hd.defL hd.theL hd.kwL
    (fun s e => recFacts_of (Bool.and_eq_true_iff.mp e).2) (by rfl) said hd.okL hd.bareL hd.witL walk
end Mine
end
section

namespace Mine
noncomputable abbrev Ar (dp un : Nat) (gd : Option (List Code)) (outer : List Env) : Around := { handled := none, depth := dp, frames := some outer, guards := gd, units := un }
section
variable {prog : Program} {w : World} {A : Around} {s : Shared} {g : Heap} {news : List (Addr × Obj)} {K : Frag} {p : Program} {loose : List Str} {mean : ExcName → Option Value} {mg mb : Str → Option Value}
  {R : Result → Shared → Prop} {name qual : Str} {params : Arguments} {body : List Stmt} {scope : Scope} {dV kV doc pm cdv ct oc : Value} {an od : Option Addr} {osl : Array (Option Value)} {f : Addr} {args : Args} {binds : List (Str × Value)}
theorem enter (X : K.In g) (T : Top p loose mean mg mb g) (G : g.StaysIn s.heap) (Gz : g.objs.size ≤ s.heap.objs.size) (N : ∀ p ∈ news, s.heap.get? p.1 = some p.2 ∧ g.get? p.1 = none)
    (ho : K.lookup f = some ⟨oc, od, .func (fnOf name qual params body scope dV kV doc pm an cdv ct), osl⟩) (hcd : codeIn K cdv qual = true) (hroom : A.depth < recursionLimit)
    (hbind : BindsTo s (fnOf name qual params body scope dV kV doc pm an cdv ct) args binds) (hloc : ∀ y ∈ binds, scope.names.lookup y.1 = some .local)
    (h : ∀ L' h₁, L' = s.heap.objs.size → Fr g L' h₁ (fun y => binds.reverse.lookup y) → News g L' h₁ news → (∀ p ∈ news, p.1 < L') → s.heap.StaysIn h₁ →
      wpAny (model prog w) (A.deeper (envOf qual scope L' f cdv)) (execs body (envOf qual scope L' f cdv))
        (fun fl s' => R (.ok (.ret (match fl with | .ret v => v | _ => .none))) s') (fun _ _ => False)
        { s with heap := h₁, toks := s.toks + binds.length })
    (hco : scope.isCoroutine = false) (hgen : scope.isGenerator = false) (hk : scope.kind = .function)
    (hcell : ∀ x ∈ scope.names, x.2 ≠ .cell) : codeAny (model prog w) A (.call (.ref f) args) R s := by
  refine codeAny_call_def (fd := fnOf name qual params body scope dV kV doc pm an cdv ct) (body := body) (binds := binds) hroom (G _ _ (X _ _ ho)) rfl (T.nolimit.keeps G) ((codeRec_of X hcd).keeps G) rfl hbind hcell hloc (fun h₁ hns hk₁ => ?_) hco hgen hk
  refine wpAny_mono (h s.heap.objs.size h₁ rfl ⟨hns, fun b o e => hk₁ b o (G b o e), Gz⟩ (fun p hp => ⟨hk₁ _ _ (N p hp).1, Nat.ne_of_lt (Heap.lt_size (N p hp).1), (N p hp).2⟩)
    (fun p hp => Heap.lt_size (N p hp).1) hk₁) (fun _ _ y => y) fun _ _ y => y.elim
theorem enterC (X : K.In g) (T : Top p loose mean mg mb g) (G : g.StaysIn s.heap) (Gz : g.objs.size ≤ s.heap.objs.size) (N : ∀ p ∈ news, s.heap.get? p.1 = some p.2 ∧ g.get? p.1 = none)
    (ho : K.lookup f = some ⟨oc, od, .func (fnOf name qual params body scope dV kV doc pm an cdv ct), osl⟩) (hcd : codeIn K cdv qual = true) (hroom : A.depth < recursionLimit)
    (hbind : BindsTo s (fnOf name qual params body scope dV kV doc pm an cdv ct) args binds)
    (hkind : (binds.all fun y => scope.names.lookup y.1 == some .local || scope.names.lookup y.1 == some .cell) = true)
    (hnd : ((cellsFrom 0 scope.names []).map (·.1)).Nodup)
    (h : ∀ L' h₁ tk cells, L' = s.heap.objs.size → Fr g L' h₁ (bindL (envOfC qual scope L' f cdv).kindOf binds fun _ => none) → News g L' h₁ (cells ++ news) →
      CellsAre (bindC (envOfC qual scope L' f cdv).kindOf binds fun _ => none) (cellsFrom (L' + 1) scope.names []) cells → (∀ p ∈ news, p.1 < L') → s.heap.StaysIn h₁ →
      wpAny (model prog w) (A.deeper (envOfC qual scope L' f cdv)) (execs body (envOfC qual scope L' f cdv))
        (fun fl s' => R (.ok (.ret (match fl with | .ret v => v | _ => .none))) s') (fun _ _ => False)
        { s with heap := h₁, toks := tk })
    (hco : scope.isCoroutine = false) (hgen : scope.isGenerator = false) (hk : scope.kind = .function) : codeAny (model prog w) A (.call (.ref f) args) R s := by
  refine codeAny_call_function hroom (G _ _ (X _ _ ho)) rfl hco hgen rfl ((codeRec_of X hcd).keeps G) (hbind _ _ _ _ ?_)
  refine wpAny_newFunctionEnv_cells hk (kindsX hkind _) fun env' he s' x => ?_
  subst he
  refine ⟨(T.nolimit.keeps G).keeps x.toInCall.keep, codeAny_func ?_⟩
  obtain ⟨h₁, tk, rfl, _⟩ := x.done
  have hk₁ := x.toInCall.keep
  obtain ⟨cells, NC, Y⟩ := Cl.news (h₀ := s.heap) (Nat.le_refl _) fun n c hm => ⟨x.cell n c (lookup_of_mem_nodup (cellsFrom_names scope.names 0 (s.heap.objs.size + 1) [] [] rfl ▸ hnd) hm), x.above n c hm⟩
  refine wpAny_mono (h s.heap.objs.size h₁ tk cells rfl ⟨x.toInCall.ns, fun b o e => hk₁ b o (G b o e), Gz⟩ (fun p hp => ?_) Y (fun p hp => Heap.lt_size (N p hp).1) hk₁) (fun _ _ y => y) fun _ _ y => y.elim
  rcases List.mem_append.mp hp with hp | hp
  · refine ⟨(NC p hp).1, (NC p hp).2.1, ?_⟩
    cases q : g.get? p.1 with
    | none => rfl
    | some o => have := G _ _ q; rw [(NC p hp).2.2] at this; cases this
  · exact ⟨hk₁ _ _ (N p hp).1, Nat.ne_of_lt (Heap.lt_size (N p hp).1), (N p hp).2⟩
end
end Mine
end
section

namespace Mine
noncomputable abbrev PG : Program := PySem.Challenge.rw_in0080_01.row.prog
structure Cx (w : World) (p : Program) (loose : List Str) (mean : ExcName → Option Value) (mg mb : Str → Option Value) (base : Heap) (dp un : Nat) (gd : Option (List Code)) (outer : List Env) (g : Heap) (s : Shared) : Prop where
  X : (hd.heap_39 w.params).In g
  T : Top p loose mean mg mb g
  B : Below (Ar dp un gd outer) base outer g
  G : g.StaysIn s.heap
  Gz : g.objs.size ≤ s.heap.objs.size
section
variable {w : World} {p : Program} {loose : List Str} {mean : ExcName → Option Value} {mg mb : Str → Option Value} {base h₀ g : Heap} {dp un : Nat} {gd : Option (List Code)} {outer : List Env} {s : Shared} {env : Env} {L : Addr} {m : Str → Option Value} {news hid : List (Addr × Obj)} {h' : Heap}
theorem fr_stays {h : Heap} (F : Fr h₀ L h m) (st : h.StaysIn h') : Fr h₀ L h' m := ⟨F.ns.keeps st, fun b o e => st b o (F.keep b o e), F.above⟩
theorem news_stays {h : Heap} (N : News h₀ L h news) (st : h.StaysIn h') : News h₀ L h' news := fun p hp => ⟨st _ _ (N p hp).1, (N p hp).2⟩
theorem stays_refl (h : Heap) : h.StaysIn h := fun _ _ e => e
theorem stays_trans {a b c : Heap} (x : a.StaysIn b) (y : b.StaysIn c) : a.StaysIn c := fun d o e => y d o (x d o e)
theorem Cx.call {A₀ : Around} (X : (hd.heap_39 w.params).In h₀) (T : Top p loose mean mg mb h₀) (B : Below A₀ base outer h₀) (F : Fr h₀ L s.heap m) (hA : A₀.deeper env = Ar dp un gd (env :: outer)) (hf : env.frame = some L) (hk : env.scope.kind = .function) :
    Cx w p loose mean mg mb base dp un gd (env :: outer) s.heap s :=
  ⟨X.keeps F.keep, T.keeps F.keep, hA ▸ pushX B F hf hk, stays_refl _, Nat.le_refl _⟩
theorem Cx.hide {A₀ : Around} (X : (hd.heap_39 w.params).In h₀) (T : Top p loose mean mg mb h₀) (B : Below A₀ base outer h₀) (F : Fr h₀ L s.heap m) (N : News h₀ L s.heap hid) (hA : A₀.deeper env = Ar dp un gd (env :: outer)) (hA' : (A₀.deeper env).frames = some (env :: outer)) (hf : env.frame = some L) (hk : env.scope.kind = .function) :
    Cx w p loose mean mg mb base dp un gd (env :: outer) (hideAll s.heap (hid.map (·.1))) s ∧ Fr h₀ L (hideAll s.heap (hid.map (·.1))) m := by
  obtain ⟨FG, BG, st, _⟩ := groundX (A := A₀.deeper env) (R := fun _ _ => True) B F N hA' hf hk
  exact ⟨⟨X.keeps st, T.keeps st, hA ▸ BG, fun b o e => of_hideAll _ e, Nat.le_of_eq (hideAll_size _ _)⟩, FG⟩
theorem hide_none {h : Heap} {l : List Addr} {a : Addr} (hm : a ∈ l) : (hideAll h l).get? a = none := hideAll_none _ hm
theorem news_unhid {h : Heap} (N : News h₀ L h news) (hn : ∀ q ∈ news, q.1 ∉ hid.map (·.1)) (st : (hideAll h (hid.map (·.1))).StaysIn h') : News h₀ L h' news :=
  fun q hq => ⟨st _ _ (hideAll_get _ (N q hq).1 (hn q hq)), (N q hq).2⟩
end
end Mine
end
section

namespace Mine
noncomputable def cex {D : Type} (j : D) (P : D → Prop) : D := @Classical.epsilon D ⟨j⟩ fun d => ¬ P d
theorem all_of {D : Type} (j : D) (P : D → Prop) (h : P (cex j P)) (d : D) : P d := Classical.byContradiction fun n => @Classical.epsilon_spec_aux D ⟨j⟩ (fun d => ¬ P d) ⟨d, n⟩ h
noncomputable def jW : World := { draws := fun _ _ => 0, params := { strHash := fun _ => 0, shareClass := id, mergeTok := id, idOf := fun _ => 0, idOfShared := fun _ _ => 0, followText := fun _ => false, idOfImm := fun _ => 0 } }
noncomputable def jS : Shared := {}
noncomputable def jA : Around := {}
noncomputable def jD : Drawn := {}
end Mine
end
section

namespace Mine
theorem fillK : PySem.Challenge.rw_in0080_01 = PySem.Challenge.rw_in0080_01 ∧ hd.heap_39 = hd.heap_39 := by k_fill; exact ⟨rfl, rfl⟩
theorem lk_obj {K : Frag} {h : Heap} {a : Addr} {o : Obj} {P : Prop} (X : K.In h) (e : K.lookup a = some o) (k : h.get? a = some o → P) : P := k (X _ _ e)
theorem sio_madeBy {w : World} {h : Heap} {M : Model} (X : (hd.heap_39 w.params).In h) : Looks M h (Bind.madeBy (.ref 628)) none := by
  refine' lk_obj X (a := 628) ?e ?_; (case e => k_is); intro h628
  intro A Q E s k q
  have h628' := k _ _ h628
  unfold Bind.madeBy
  repeat lk
  exact q
theorem sio_static {w : World} {h : Heap} {M : Model} (X : (hd.heap_39 w.params).In h) : Looks M h (Bind.staticBase (.ref 628)) (.type "object") := by
  refine' lk_obj X (a := 628) ?e ?_; (case e => k_is); intro h628
  refine' lk_obj X (a := 151) ?e ?_; (case e => k_is); intro h151
  refine' lk_obj X (a := 124) ?e ?_; (case e => k_is); intro h124
  intro A Q E s k q
  have h628' := k _ _ h628
  have h151' := k _ _ h151
  have h124' := k _ _ h124
  unfold Bind.staticBase Bind.madeBy
  repeat (first | lk | rw [if_neg (by decide +kernel)])
  exact q
theorem sio_madeObj {h : Heap} {M : Model} : Looks M h (Bind.madeBy (.type "object")) (some "object.__new__") := by
  intro A Q E s k q
  unfold Bind.madeBy
  repeat (first | lk | rw [if_neg (by decide +kernel)])
  exact q
theorem sio_getnew {w : World} {A : Around} {s : Shared} {Q E : Value → Shared → Prop} {e : Bool} (X : (hd.heap_39 w.params).In s.heap) (h : Q (.ref 121) { s with toks := s.toks + 1 }) :
    wpAny (model PG w) A (getAttr (.ref 628) (Str.ofString "__new__") e) Q E s := by
  refine' cls_bind (mc := .type "type") X ?hr ?e (wpAny_call (sm_get (s := { s with toks := s.toks + 1 }) X ?hp (handed_on ?hv h)))
  case hr => k_is
  case e => k_is
  case hp => k_is
  case hv => k_handed
theorem sio_new {w : World} {A : Around} {h : Heap} {g : Array GenState} {d : Drawn} {t : Nat} {os : OsState} {R : Result → Shared → Prop} (X : (hd.heap_39 w.params).In h)
    (hq : R (.ok (.ret (.ref (h.objs.size + 1)))) ⟨(h.push emptyDict).push (instObj 628 h.objs.size), g, d, t, os⟩) :
    codeAny (model PG w) A (.call (.builtin "object.__new__") ⟨[.ref 628], []⟩) R ⟨h, g, d, t, os⟩ := by
  refine' lk_obj X (a := 628) ?e ?_; (case e => k_is); intro hC
  have typ : Looks (model PG w) h (isInstance (.ref 628) (.type "type")) true := looks_instIn X (by k_is)
  have top : Looks (model PG w) h (isSubtype (.ref 628) (.type "object")) true := looks_mroIn X (by k_is)
  have base := sio_static (M := model PG w) X
  have made := sio_madeObj (M := model PG w) (h := h)
  have here : Looks (model PG w) h (Bind.madeHere "object.__new__" (.ref 628)) () := base.andThen (made.andThen (Looks.of_pure (by simp only [Option.map_some, bne_self_eq_false, Bool.false_eq_true, if_false])))
  have F := PySem.F.objNew
  refine codeAny_call_builtin_code (Code.quiet_builtin _ F.quiet) ?_
  simp only [checkBuiltinCall, F.kind, F.split, F.row]
  have args : Bind.checkArgs "object.__new__" ⟨.hand, "object.__new__", "__new__", .cls, []⟩ ⟨[.ref 628], []⟩ = pure () := by kernel_rfl
  rw [args]
  repeat lk
  refine codeAny_builtin F.entry ?_
  unfold Builtin.«object.__new__»
  have fin : ∀ A', wpAny (model PG w) A' (do
      let d ← if typeHasDict (.ref 628) then some <$> alloc { cls := .type "dict", data := .dict #[] } else pure none
      ret (← newObj (.ref 628) .plain d)) (fun fin s' => match fin with | .done f => R (.ok f) s' | .again c' => c'.quiet = true ∧ codeAny (model PG w) A c' R s') (fun e s' => R (.error e) s') ⟨h, g, d, t, os⟩ := by
    intro A'
    show wpAny _ _ ((alloc emptyDict >>= fun x => pure (some x)) >>= _) _ _ _
    refine wpAny_bind (wpAny_bind (wpAny_alloc (wpAny_pure (wpAny_bind ?_))))
    show wpAny _ _ (newObjAsIs _ _ _) _ _ _
    unfold newObjAsIs classHasDel
    refine wpAny_bind (wpAny_alloc (wpAny_bind (wpAny_bind (wpAny_load (Heap.get?_push_of_some _ (Heap.get?_push_of_some _ hC)) (wpAny_pure ?_)))))
    refine wpAny_pure (wpAny_pure ?_)
    show R _ _
    rw [Heap.size_push]
    exact hq
  repeat (first | exact fin _ | lk)
theorem sio_env {M : Model} {A : Around} {E : Value → Shared → Prop} {s : Shared} {scope : Scope} {globals : Addr} {closure : List (Str × Addr)} {binds : List (Str × Value)} {qual : Str}
    {func : Option Addr} {code : Value} {around : Option Env} {builtins : Addr} {Q : Env → Shared → Prop}
    (hQ : (∀ x ∈ scope.names, x.2 ≠ .cell) ∧ (∀ x ∈ binds, scope.names.lookup x.1 = some .local) ∧ scope.kind = .function ∧ ∀ H h', H = s.heap → Fr H H.objs.size h' (fun x => binds.reverse.lookup x) →
      Q (newEnv scope H.objs.size globals closure qual func code around builtins) { s with heap := h', toks := s.toks + binds.length }) :
    wpAny M A (newFunctionEnv scope globals closure binds qual func code around builtins) Q E s := by
  obtain ⟨h1, h2, h3, h4⟩ := hQ
  refine wpAny_newFunctionEnv h1 h2 (fun h' hn hs => h4 _ h' rfl ⟨hn, fun b o e => hs.extBut b o (Nat.ne_of_lt (Heap.lt_size e)) (Heap.get?_push_of_some _ e), Nat.le_refl _⟩) h3
end Mine
end
section

namespace Mine
theorem fillK2 : PySem.Challenge.rw_in0080_01 = PySem.Challenge.rw_in0080_01 ∧ hd.heap_39 = hd.heap_39 := by k_fill; exact ⟨rfl, rfl⟩
noncomputable def sioList (P : Params) (x : Str) (pos : Value) (ks : Nat → Tok) : List DictEntry :=
  [⟨PyData.keyHash P (Str.ofString "_StringIO__newline"), .str (Str.ofString "_StringIO__newline") (ks 1), .str (Str.ofString "\n") 983⟩,
   ⟨PyData.keyHash P (Str.ofString "_StringIO__buf"), .str (Str.ofString "_StringIO__buf") (ks 2), .str x (ks 3)⟩,
   ⟨PyData.keyHash P (Str.ofString "_StringIO__pos"), .str (Str.ofString "_StringIO__pos") (ks 4), pos⟩]
noncomputable def SioD (P : Params) (x : Str) (pos : Int) (o : Obj) : Prop := ∃ (ks : Nat → Tok) (t : Tok), o = dictOf (sioList P x (.int pos t) ks) 3
theorem sioD_of {P : Params} {x : Str} {pos : Int} {t1 t2 t3 t4 t5 : Tok} : SioD P x pos (dictOf
  [⟨PyData.keyHash P (Str.ofString "_StringIO__newline"), .str (Str.ofString "_StringIO__newline") t1, .str (Str.ofString "\n") 983⟩,
   ⟨PyData.keyHash P (Str.ofString "_StringIO__buf"), .str (Str.ofString "_StringIO__buf") t2, .str x t3⟩,
   ⟨PyData.keyHash P (Str.ofString "_StringIO__pos"), .str (Str.ofString "_StringIO__pos") t4, .int pos t5⟩] 3) := ⟨fun i => match i with | 1 => t1 | 2 => t2 | 3 => t3 | _ => t4, t5, rfl⟩
namespace sio_callN
noncomputable def S (w : World) (p : Program) (loose : List Str) (mean : ExcName → Option Value) (mg mb : Str → Option Value) (base g : Heap) (dp un : Nat) (gd : Option (List Code)) (outer : List Env) (R : Result → Shared → Prop) (x : Str) (t : Tok) : Prop := ∀ (s : Shared) (C : Cx w p loose mean mg mb base dp un gd outer g s) (hroom : dp + 5 < recursionLimit) (h : ∀ (x0 d0 : Addr) (h' : Heap) (tk : Nat) (o : Obj), s.heap.StaysIn h' → h'.get? x0 = some (instObj 628 d0) → h'.get? d0 = some o → SioD w.params x 0 o → s.heap.objs.size ≤ d0 → d0 < x0 → R (.ok (.ret (.ref x0))) { s with heap := h', toks := tk }), codeAny (model PG w) (Ar dp un gd outer) (.call (.ref 628) ⟨[.str x t], []⟩) R s
noncomputable def zD : World × Program × List Str × (ExcName → Option Value) × (Str → Option Value) × (Str → Option Value) × Heap × Heap × Nat × Nat × Option (List Code) × List Env × (Result → Shared → Prop) × Str × Tok := cex (jW, default, [], (fun _ => none), (fun _ => none), (fun _ => none), default, default, 0, 0, none, [], (fun _ _ => True), default, 0) fun d => S d.1 d.2.1 d.2.2.1 d.2.2.2.1 d.2.2.2.2.1 d.2.2.2.2.2.1 d.2.2.2.2.2.2.1 d.2.2.2.2.2.2.2.1 d.2.2.2.2.2.2.2.2.1 d.2.2.2.2.2.2.2.2.2.1 d.2.2.2.2.2.2.2.2.2.2.1 d.2.2.2.2.2.2.2.2.2.2.2.1 d.2.2.2.2.2.2.2.2.2.2.2.2.1 d.2.2.2.2.2.2.2.2.2.2.2.2.2.1 d.2.2.2.2.2.2.2.2.2.2.2.2.2.2
@[irreducible] noncomputable def w : World := zD.1
@[irreducible] noncomputable def p : Program := zD.2.1
@[irreducible] noncomputable def loose : List Str := zD.2.2.1
@[irreducible] noncomputable def mean : ExcName → Option Value := zD.2.2.2.1
@[irreducible] noncomputable def mg : Str → Option Value := zD.2.2.2.2.1
@[irreducible] noncomputable def mb : Str → Option Value := zD.2.2.2.2.2.1
@[irreducible] noncomputable def base : Heap := zD.2.2.2.2.2.2.1
@[irreducible] noncomputable def g : Heap := zD.2.2.2.2.2.2.2.1
@[irreducible] noncomputable def dp : Nat := zD.2.2.2.2.2.2.2.2.1
@[irreducible] noncomputable def un : Nat := zD.2.2.2.2.2.2.2.2.2.1
@[irreducible] noncomputable def gd : Option (List Code) := zD.2.2.2.2.2.2.2.2.2.2.1
@[irreducible] noncomputable def outer : List Env := zD.2.2.2.2.2.2.2.2.2.2.2.1
@[irreducible] noncomputable def R : Result → Shared → Prop := zD.2.2.2.2.2.2.2.2.2.2.2.2.1
@[irreducible] noncomputable def x : Str := zD.2.2.2.2.2.2.2.2.2.2.2.2.2.1
@[irreducible] noncomputable def t : Tok := zD.2.2.2.2.2.2.2.2.2.2.2.2.2.2
theorem core : S w p loose mean mg mb base g dp un gd outer R x t := by
  intro s C hroom h
  have X := C.X.keeps C.G
  refine' lk_obj X (a := 628) ?e ?_; (case e => k_is); intro hC
  obtain ⟨hh, gg, dd, tt, oo⟩ := s
  dsimp only at X hC ⊢
  have typ : Looks (model PG w) hh (isInstance (.ref 628) (.type "type")) true := looks_instIn X (by k_is)
  have made := sio_madeBy (M := model PG w) X
  refine codeAny_of_tree ?_
  show wpAny _ _ (callAny (.ref 628) _) _ _ _
  refine nd_load hC ?_
  show wpAny _ _ (callAny.viaDunder (.ref 628) _) _ _ _
  have call : Looks (model PG w) hh (specialOf (.ref 628) "__call__") (some (.builtin "type.__call__")) := looks_specialIn X (by k_is)
  unfold callAny.viaDunder
  refine wpAny_bind (call.at ?_)
  dsimp only
  rw [tc_bind]
  refine wpAny_bind (wpAny_pure (wpAny_bind (wpAny_pure ?_)))
  refine wpAny_pure (a := Fin.again (.call (.builtin "type.__call__") ⟨.ref 628 :: [.str x t], []⟩)) (And.intro rfl ?_)
  refine codeAny_call_builtin_at (Code.quiet_builtin _ (by decide +kernel)) entry_typeCall (check_slot tc_kind tc_split typ (tc_args _ _ _) ?_)
  unfold Builtin.«type.__call__»
  have hm : Looks (model PG w) hh (mroOf (.ref 628)) _ := ((Looks.ld (part := none) hC).andThen .now).andThen .now
  repeat (first | (with_reducible refine sio_getnew X ?_) | (with_reducible refine wpAny_call ?_) | lk)
  refine' lk_obj X (a := 121) ?e ?_; (case e => k_is); intro h121
  change hh.get? 121 = some ⟨_, _, .func ⟨_, _, _, _, _, _, _, _, _, _, _, _, _, _, _⟩, _⟩ at h121
  refine codeAny_call_function (show dp + 1 < recursionLimit by omega) h121 rfl rfl rfl rfl (codeRec_of X (by k_is)) ?_
  repeat (first | (with_reducible refine sio_env ?_) | lk)
  refine ⟨by decide, locs rfl, rfl, ?_⟩
  intro H3 h₁ hH3 F
  have st3 : hh.StaysIn H3 := fun b o e => by rw [hH3]; exact Heap.get?_push_of_some _ (Heap.get?_push_of_some _ e)
  have hz3 : hh.objs.size ≤ H3.objs.size := by rw [hH3]; simp only [Heap.size_push]; exact Nat.le_add_right _ 2
  clear hH3
  dsimp only at F ⊢
  have st1 : hh.StaysIn h₁ := fun b o e => F.keep b o (st3 b o e)
  have X3 := X.keeps st3
  have T3 := (C.T.keeps C.G).keeps st3
  have B3 : Below ((Ar dp un gd outer).under (Code.builtin "type.__call__" ⟨.ref 628 :: [.str x t], []⟩)) base outer H3 := ⟨C.B.stack, stays_trans C.B.stays (stays_trans C.G st3), C.B.frames.of_keeps fun b o e _ => ⟨o, stays_trans C.G st3 b o e, rfl⟩⟩
  refine ⟨(C.T.nolimit.keeps C.G).keeps st1, codeAny_func ?_⟩
  have N : News H3 H3.objs.size h₁ [] := News.nil
  (try dsimp only)
  (show wpAny _ (Around.deeper _ (envOf (Str.ofString "IOBase.__new__") _ H3.objs.size 121 _)) (execs _ (envOf (Str.ofString "IOBase.__new__") _ H3.objs.size 121 _)) _ _ _)
  k_fold
  repeat' ((first | (k_unfold; (try dsimp only)) | (k_end; wrow_close) | walk1 | (dsimp only; walk1) | (leave1; walk_say "STEP leave1"; try dsimp only) | fail "no step") <;> (try dsimp only))
  have X1 := X.keeps st1
  refine wpAny_call (sio_new X1 ?_)
  (try dsimp only); k_unfold; (try dsimp only)
  have k4 : h₁.StaysIn ((h₁.push emptyDict).push (instObj 628 h₁.objs.size)) := fun b o e => Heap.get?_push_of_some _ (Heap.get?_push_of_some _ e)
  have hx : ((h₁.push emptyDict).push (instObj 628 h₁.objs.size)).get? (h₁.objs.size + 1) = some (instObj 628 h₁.objs.size) := by heap_get
  have hdx : ((h₁.push emptyDict).push (instObj 628 h₁.objs.size)).get? (h₁.objs.size) = some emptyDict := by heap_get
  have t1 : Looks (model PG w) ((h₁.push emptyDict).push (instObj 628 h₁.objs.size)) (typeOf (.ref (h₁.objs.size + 1))) (.ref 628) := (Looks.ld hx).andThen .now
  have s1 : Looks (model PG w) ((h₁.push emptyDict).push (instObj 628 h₁.objs.size)) (isSubtype (.ref 628) (.ref 628)) true := (looks_mroIn X1 (by k_is)).keeps k4
  have i1 : Looks (model PG w) ((h₁.push emptyDict).push (instObj 628 h₁.objs.size)) (typeLookup (.ref 628) "__init__") (some (.ref 398)) := (looks_findIn X1 (by k_is)).keeps k4
  have b1 : Looks (model PG w) ((h₁.push emptyDict).push (instObj 628 h₁.objs.size)) (bindSpecial (.ref 398) (.ref (h₁.objs.size + 1))) (.ref 398, [.ref (h₁.objs.size + 1)]) := (bind_fn X1 (.ref (h₁.objs.size + 1)) (by k_is)).keeps k4
  unfold isInstance callSpecial? specialOf
  repeat (first | with_reducible refine wpAny_call ?_ | lk)
  generalize hH4 : (h₁.push emptyDict).push (instObj 628 h₁.objs.size) = H4 at *
  have st4 := stays_trans st1 k4
  have f1 : hh.get? h₁.objs.size = none := by
    cases q : hh.get? h₁.objs.size with
    | none => rfl
    | some o => exact absurd (Heap.lt_size (st1 _ _ q)) (Nat.lt_irrefl _)
  have f2 : hh.get? (h₁.objs.size + 1) = none := by
    cases q : hh.get? (h₁.objs.size + 1) with
    | none => rfl
    | some o => exact absurd (Nat.lt_of_succ_lt (Heap.lt_size (st1 _ _ q))) (Nat.lt_irrefl _)
  have hsz : hh.objs.size ≤ H4.objs.size := by
    rw [← hH4, Heap.size_push, Heap.size_push]
    exact Nat.le_trans hz3 (Nat.le_trans (Nat.le_of_lt F.ns.lt) (Nat.le_add_right _ 2))
  have hd1 : hh.objs.size ≤ h₁.objs.size := Nat.le_trans hz3 (Nat.le_of_lt F.ns.lt)
  have lt1 : h₁.objs.size < h₁.objs.size + 1 := Nat.lt_succ_self _
  generalize hd0 : h₁.objs.size = d0 at *
  generalize hx0 : d0 + 1 = x0 at *
  have B4 : Below ((Ar dp un gd outer).under (Code.builtin "type.__call__" ⟨.ref 628 :: [.str x t], []⟩)) base outer hh := ⟨C.B.stack, stays_trans C.B.stays C.G, C.B.frames.of_keeps fun b o e _ => ⟨o, C.G b o e, rfl⟩⟩
  have T4 := C.T.keeps C.G
  clear F N B3 X3 T3 st3 hz3 hH4 qk ek made call hm typ h121 hC
  k_dflt (refine' enter (news := [(x0, instObj 628 d0), (d0, dictOf [] 0)]) X T4 st4 hsz ?k5 ?k6 ?k7 ?k8 ?k9 ?kB ?_ ?c2 ?c3 ?c4 ?c5; (case k5 => (intro p hp; rcases List.mem_cons.mp hp with rfl | hp; exact ⟨hx, f2⟩; rcases List.mem_cons.mp hp with rfl | hp; exact ⟨hdx, f1⟩; cases hp)); (case k6 => k_is); (case k7 => k_is); (case k8 => k_room); (case k9 => first | exact BindsTo.of_eq rfl | exact binds_K (X.keeps st4) rfl (by k_is) rfl rfl rfl);(case c5 => decide); (case kB => exact locs rfl); (case c2 => exact rfl); (case c3 => exact rfl); (case c4 => exact rfl))
  intro L' h₂ _ F N l1 G1
  (try k_lt l1)
  (try dsimp only); (try k_fold)
  repeat' ((first | (k_unfold; (try dsimp only)) | (k_end; wrow_close) | walk1 | (dsimp only; walk1) | (leave1; walk_say "STEP leave1"; try dsimp only) | fail "no step") <;> (try dsimp only))
  refine wpAny_pure (wpAny_pure ?_)
  have F9 := ‹Fr hh _ _ _›
  have N9 := ‹News hh _ _ _›
  exact h x0 d0 _ _ _ F9.keep (N9 _ (.head _)).1 (N9 _ (.tail _ (.head _))).1 sioD_of hd1 (hx0 ▸ Nat.lt_succ_self _)
end sio_callN
theorem sio_call {w : World} {p : Program} {loose : List Str} {mean : ExcName → Option Value} {mg mb : Str → Option Value} {base g : Heap} {dp un : Nat} {gd : Option (List Code)} {outer : List Env} {s : Shared} {R : Result → Shared → Prop}
  (C : Cx w p loose mean mg mb base dp un gd outer g s) (hroom : dp + 5 < recursionLimit) (x : Str) (t : Tok)
  (h : ∀ (x0 d0 : Addr) (h' : Heap) (tk : Nat) (o : Obj), s.heap.StaysIn h' → h'.get? x0 = some (instObj 628 d0) → h'.get? d0 = some o → SioD w.params x 0 o → s.heap.objs.size ≤ d0 → d0 < x0 → R (.ok (.ret (.ref x0))) { s with heap := h', toks := tk }) : codeAny (model PG w) (Ar dp un gd outer) (.call (.ref 628) ⟨[.str x t], []⟩) R s := all_of _ (fun d => sio_callN.S d.1 d.2.1 d.2.2.1 d.2.2.2.1 d.2.2.2.2.1 d.2.2.2.2.2.1 d.2.2.2.2.2.2.1 d.2.2.2.2.2.2.2.1 d.2.2.2.2.2.2.2.2.1 d.2.2.2.2.2.2.2.2.2.1 d.2.2.2.2.2.2.2.2.2.2.1 d.2.2.2.2.2.2.2.2.2.2.2.1 d.2.2.2.2.2.2.2.2.2.2.2.2.1 d.2.2.2.2.2.2.2.2.2.2.2.2.2.1 d.2.2.2.2.2.2.2.2.2.2.2.2.2.2) (by with_unfolding_all exact sio_callN.core) (w, p, loose, mean, mg, mb, base, g, dp, un, gd, outer, R, x, t) s C hroom h
end Mine
end
section

namespace Mine
theorem nd_update {α : Type} {M : Model} {A : Around} {E : Value → Shared → Prop} {s : Shared} {Q : α → Shared → Prop} {a : Addr} {p : Option Value} {f : Obj → Obj} {k : Unit → Sem α} {o : Obj} (ho : s.heap.get? a = some o) (h : wpAny M A (k ()) Q E { s with heap := s.heap.update a f }) : wpAny M A (.update a p f k) Q E s :=
  wpAny_bind (m := updatePart a p f) (f := k) (wpAny_updatePart ho h)
end Mine
end
section

namespace Mine
noncomputable abbrev dqObj : Obj := { cls := .type "collections.deque", data := .fields #[.none, .int 0 0] }
theorem dq_made {h : Heap} {M : Model} : Looks M h (Bind.madeBy (.type "collections.deque")) (some "collections.deque.__new__") := by
  intro A Q E s k q
  unfold Bind.madeBy
  repeat (first | lk | rw [if_neg (by decide +kernel)])
  exact q
theorem dq_static {h : Heap} {M : Model} : Looks M h (Bind.staticBase (.type "collections.deque")) (.type "collections.deque") := by
  intro A Q E s k q
  have made := dq_made (M := M) (h := s.heap)
  obtain ⟨hh, gg, dd, tt, oo⟩ := s
  unfold Bind.staticBase
  repeat lk
  exact q
theorem dq_entry_new : entryFor table "collections.deque.__new__" = some Builtin.«collections.deque.__new__» := entryFor_of_tree (by kernel_rfl)
theorem dq_entry_init : entryFor table "collections.deque.__init__" = some Builtin.«collections.deque.__init__» := entryFor_of_tree (by kernel_rfl)
theorem dq_slot_init : Slot "collections.deque" "__init__" "collections.deque.__init__" :=
  .of (owner := "collections.deque") (n := "__init__") (by rw [typeLookup_type, builtinLookup_eq_fast]; kernel_rfl) (by decide +kernel) (by decide +kernel) (by decide +kernel)
    (by first | exact .inl (by decide +kernel) | exact .inr (by decide +kernel)) (by rw [isSubtype_type]; kernel_rfl)
theorem dq_sub : isSubtype (.type "collections.deque") (.type "collections.deque") = pure true := by rw [isSubtype_type]; kernel_rfl
theorem dq_args_init (a : Value) : argsOk "collections.deque.__init__" ⟨[a], []⟩ := by unfold argsOk; kernel_rfl
namespace deque_newN
noncomputable def S (w : World) (A : Around) (hh : Heap) (tt : Nat) (Q E : Value → Shared → Prop) : Prop := ∀ (gg : Array GenState) (dd : Drawn) (oo : OsState) (h : ∀ d h', hh.StaysIn h' → h'.get? d = some dqObj → hh.objs.size ≤ d → Q (.ref d) ⟨h', gg, dd, tt, oo⟩), wpAny (model PG w) A (call (.type "collections.deque") []) Q E ⟨hh, gg, dd, tt, oo⟩
noncomputable def zD : World × Around × Heap × Nat × (Value → Shared → Prop) × (Value → Shared → Prop) := cex (jW, jA, default, 0, (fun _ _ => True), (fun _ _ => True)) fun d => S d.1 d.2.1 d.2.2.1 d.2.2.2.1 d.2.2.2.2.1 d.2.2.2.2.2
@[irreducible] noncomputable def w : World := zD.1
@[irreducible] noncomputable def A : Around := zD.2.1
@[irreducible] noncomputable def hh : Heap := zD.2.2.1
@[irreducible] noncomputable def tt : Nat := zD.2.2.2.1
@[irreducible] noncomputable def Q : Value → Shared → Prop := zD.2.2.2.2.1
@[irreducible] noncomputable def E : Value → Shared → Prop := zD.2.2.2.2.2
theorem core : S w A hh tt Q E := by
  intro gg dd oo h
  refine wpAny_call ?_
  refine codeAny_of_tree ?_
  show wpAny _ _ (callAny (.type "collections.deque") _) _ _ _
  repeat lk
  refine ⟨Code.quiet_builtin _ (by decide +kernel), codeAny_builtin entry_typeCall ?_⟩
  unfold Builtin.«type.__call__»
  have made := dq_made (M := model PG w) (h := hh)
  have base := dq_static (M := model PG w) (h := hh)
  repeat (first | (with_reducible refine wpAny_call ?_) | lk)
  refine codeAny_call_builtin_code (Code.quiet_builtin _ (by decide +kernel)) ?_
  unfold checkBuiltinCall
  repeat lk
  refine codeAny_builtin dq_entry_new ?_
  unfold Builtin.«collections.deque.__new__»
  have sub : Looks (model PG w) hh (isSubtype (.type "collections.deque") (.type "collections.deque")) true := Looks.of_pure dq_sub
  repeat lk
  have sub2 : ∀ h, Looks (model PG w) h (isSubtype (.type "collections.deque") (.type "collections.deque")) true := fun h => Looks.of_pure dq_sub
  repeat (first | (with_reducible refine wpAny_call ?_) | (with_reducible refine (sub2 _).at ?_) | lk | (refine nd_load (Heap.get?_push_size _ rfl) ?_; try dsimp only))
  refine codeAny_call_builtin dq_slot_init.plain dq_entry_init (dq_slot_init.check _ _ _ _ _ _ _ _ ⟨_, (Heap.get?_push_size _ rfl), rfl⟩ (dq_args_init _) ?_)
  unfold Builtin.«collections.deque.__init__»
  repeat (first | lk | (refine nd_load (Heap.get?_push_size _ rfl) ?_; try dsimp only))
  refine nd_update (Heap.get?_push_size _ rfl) ?_
  have hu : ((hh.push { cls := .type "collections.deque", data := .fields (#[.none, rawInt 0] ++ #[]) }).update hh.objs.size (Obj.mapFields fun x => x.setIfInBounds 0 Value.none)).get? hh.objs.size = some dqObj :=
    Heap.get?_update_self _ (Heap.get?_push_size _ rfl) rfl
  repeat (first | lk | (refine nd_load hu ?_; try dsimp only))
  refine h hh.objs.size _ (fun b o e => ?_) hu (Nat.le_refl _)
  exact (Heap.get?_update_other _ _ (Nat.ne_of_gt (Heap.lt_size e))).trans (Heap.get?_push_of_some _ e)
end deque_newN
theorem deque_new {w : World} {A : Around} {hh : Heap} {gg : Array GenState} {dd : Drawn} {tt : Nat} {oo : OsState} {Q E : Value → Shared → Prop}
    (h : ∀ d h', hh.StaysIn h' → h'.get? d = some dqObj → hh.objs.size ≤ d → Q (.ref d) ⟨h', gg, dd, tt, oo⟩) :
    wpAny (model PG w) A (call (.type "collections.deque") []) Q E ⟨hh, gg, dd, tt, oo⟩ := all_of _ (fun d => deque_newN.S d.1 d.2.1 d.2.2.1 d.2.2.2.1 d.2.2.2.2.1 d.2.2.2.2.2) (by with_unfolding_all exact deque_newN.core) (w, A, hh, tt, Q, E) gg dd oo h
end Mine
end
section

namespace Mine
noncomputable def pieceT (i : Nat) : Str := match i with | 0 => Str.ofString "0" | 1 => Str.ofString "a" | 2 => Str.ofString "?" | 3 => Str.ofString "*" | 4 => Str.ofString "[0a]" | _ => Str.ofString "[!0]"
noncomputable def widthN (i : Nat) : Nat := match i with | 0 => 2 | 1 => 3 | 2 => 4 | 3 => 6 | 4 => 12 | _ => 1
noncomputable def widthT (i : Nat) : Str := match i with | 0 => Str.ofString "2" | 1 => Str.ofString "3" | 2 => Str.ofString "4" | 3 => Str.ofString "6" | 4 => Str.ofString "12" | _ => Str.ofString "1"
noncomputable def halfOf (x : Int) : Nat := (Int.fdiv x 2).natAbs % 216
noncomputable def figs (h : Nat) : List Nat := if h < 6 then [h] else if h < 36 then [h % 6, h / 6] else [h % 6, h / 6 % 6, h / 36]
noncomputable def rowOf (h : Nat) : List Nat := if (figs h).contains 3 then figs h else figs h ++ [3]
inductive Ord
  | swap (i : Nat)
  | fits (ps : List Nat)
noncomputable def ordOf (x : Int) : Ord := if Int.fmod x 2 = 0 then .swap (halfOf x % 6) else .fits (rowOf (halfOf x))
noncomputable def Ord.texts : Ord → List Str
  | .swap i => [Str.ofString "swap", widthT i]
  | .fits ps => Str.ofString "fits" :: ps.map pieceT
noncomputable def datS (ws : List Str) : Dat := Dat.list (ws.map Dat.str)
noncomputable def ordD (x : Int) : Dat := datS (ordOf x).texts
end Mine
namespace Mine
noncomputable def Oct (n : Int) : Prop := n = 0 ∨ n = 10 ∨ n = 160 ∨ n = 170
noncomputable def hexI (n : Int) : Str := if n = 0 then Str.ofString "00" else if n = 10 then Str.ofString "0a" else if n = 160 then Str.ofString "a0" else Str.ofString "aa"
noncomputable def hexT (row : List Int) : Str := Txt.join (Str.ofString "") (row.map hexI)
end Mine
namespace Mine
noncomputable def signT (i : Nat) : Str := match i with | 0 => Str.ofString "0" | 1 => Str.ofString "a" | 2 => Str.ofString "0a" | 4 => Str.ofString "0a" | _ => Str.ofString "a"
noncomputable def backG (pl : List Int) (l : List Int) (k : Int) : List Int := if pl.any (fun a => decide (k ≤ a)) = true then l ++ [k] else l
noncomputable def backH (T : Str) (p : Nat) (l : List Int) (k : Int) : List Int := if 0 < k ∧ Txt.contains (signT p) (Txt.item T (k - 1)) = true then l ++ [k - 1] else l
noncomputable def backS (T : Str) (pl : List Int) (p : Nat) : List Int := if p = 3 then (rangeKs 0 (T.length + 1)).foldl (backG pl) [] else pl.foldl (backH T p) []
end Mine
namespace Mine
noncomputable def fitsP (T : Str) (ps : List Nat) : Bool := (ps.reverse.foldl (backS T) [(T.length : Int)]).any (fun x => x == 0)
end Mine
namespace Mine
noncomputable def partT (i : Nat) : Str := match i with | 0 => Str.ofString "0" | 1 => Str.ofString "a" | 2 => Str.ofString "." | 4 => Str.ofString "[0a]" | _ => Str.ofString "[^0]"
noncomputable def PartIs (star : Addr) (v : Value) (q : Nat) : Prop := (q = 3 ∧ v = .ref star) ∨ (¬ q = 3 ∧ ∃ t, v = .str (partT q) t)
noncomputable def okC (q : Nat) (c : Str) : Bool := match q with
  | 0 => partT 0 == c
  | 1 => partT 1 == c
  | 2 => true
  | 4 => Txt.contains (partT 4) c
  | _ => !Txt.contains (partT 5) c
noncomputable def takeG (pl : List Int) (l : List Int) (k : Int) : List Int := if pl.any (fun a => decide (a ≤ k)) = true then l ++ [k] else l
noncomputable def takeH (T : Str) (q : Nat) (l : List Int) (k : Int) : List Int := if k < (T.length : Int) ∧ okC q (Txt.item T k) = true then l ++ [k + 1] else l
noncomputable def takeS (T : Str) (pl : List Int) (q : Nat) : List Int := if q = 3 then (rangeKs 0 (T.length + 1)).foldl (takeG pl) [] else pl.foldl (takeH T q) []
noncomputable def takesP (T : Str) (qs : List Nat) : Bool := (qs.foldl (takeS T) [0]).any (fun x => x == (T.length : Int))
end Mine
end
section
open PySem PySem.W PySem.Calls PyProof.Rows PySem.Builtin.Re
namespace Mine
noncomputable def adv : Nat → Sre.M → Option Sre.M
  | 0, _ => none
  | k + 1, m => if (m.runFor 4).outcome.isSome then some (m.runFor 4) else adv k (m.runFor 4)
section
variable {M : Model} {A : Around} {E : Value → Shared → Prop} {s : Shared}
theorem drive {Q : Sre.M → Shared → Prop} {m' : Sre.M} (h : Q m' s) : ∀ (k j : Nat) (m : Sre.M), adv k m = some m' → wpAny M A (reDrive (k + j) m) Q E s
  | 0, _, _, e => nomatch e
  | k + 1, j, m, e => by
    rw [Nat.add_right_comm]
    unfold adv at e
    show wpAny M A (if (m.runFor 4).outcome.isSome then pure (m.runFor 4) else do rule "sre.turn"; reDrive (k + j) (m.runFor 4)) Q E s
    split at e
    · rename_i hc
      rw [if_pos hc]
      cases e
      exact wpAny_pure h
    · rename_i hc
      rw [if_neg hc]
      exact wpAny_bind (wpAny_rule (drive h k j _ e))
theorem drive64 {Q : Sre.M → Shared → Prop} {m m' : Sre.M} {k : Nat} (hk : k ≤ 2 ^ 64) (e : adv k m = some m') (h : Q m' s) : wpAny M A (reDrive (2 ^ 64) m) Q E s := by
  have := drive (M := M) (A := A) (E := E) h k (2 ^ 64 - k) m e
  rwa [Nat.add_sub_cancel' hk] at this
theorem run_end {Q : Option Sre.M → Shared → Prop} {m m' : Sre.M} {k : Nat} (hk : k ≤ 2 ^ 64) (e : adv k m = some m') (ho : (m'.outcome = some .matched ∧ Q (some m') s) ∨ (m'.outcome = some .failed ∧ Q none s)) : wpAny M A (reRunToEnd m) Q E s := by
  unfold reRunToEnd
  refine wpAny_bind (drive64 hk e ?_)
  generalize List.range Sre.names.size = l
  refine wpAny_bind ?_
  have loop : ∀ (l : List Nat) (Q : PUnit → Shared → Prop), Q ⟨⟩ s → wpAny M A (forIn l PUnit.unit fun i _ => do
      if m'.seen.has i then do rule (Sre.names.getD i ""); pure (ForInStep.yield PUnit.unit) else pure (ForInStep.yield PUnit.unit)) Q E s := by
    intro l
    induction l with
    | nil => intro Q h; exact wpAny_pure h
    | cons a r ih =>
      intro Q h
      rw [List.forIn_cons]
      refine wpAny_bind ?_
      split
      · exact wpAny_bind (wpAny_rule (wpAny_pure (ih Q h)))
      · exact wpAny_pure (ih Q h)
  refine loop l _ ?_
  rcases ho with ⟨h1, h2⟩ | ⟨h1, h2⟩
  · rw [h1]; exact wpAny_pure h2
  · rw [h1]; exact wpAny_pure h2
end
end Mine
end
section
open PySem PySem.W PySem.Calls PyProof.Rows PySem.Builtin.Re
namespace Mine
theorem fillQ3 : PySem.Challenge.rw_in0080_01 = PySem.Challenge.rw_in0080_01 ∧ hd.heap_39 = hd.heap_39 := by k_fill; exact ⟨rfl, rfl⟩
theorem entry_search : entryFor table "re.Pattern.search" = some Builtin.«re.Pattern.search» := entryFor_of_tree (by kernel_rfl)
noncomputable def codeU : Array Nat := #[14, 17, 4, 1, 1, 21, 9, 0, 604043296, 1, 0, 0, 0, 0, 0, 8, 4, 0, 13, 14, 21, 9, 0, 604043296, 1, 0, 0, 0, 0, 0, 8, 4, 0, 1]
noncomputable def foundU (x : Str) : Option Bool := match adv 400 (Sre.forSearch codeU x.cps 0 0 x.cps.size false) with
  | some m => (match m.outcome with | some .matched => some true | some .failed => some false | _ => none)
  | none => none
theorem target_U {w : World} {A : Around} {s : Shared} {Q : ReTarget → Shared → Prop} {E : Value → Shared → Prop} (X : (hd.heap_39 w.params).In s.heap) {x : Str} {t : Tok} (hx : x.cps.size ≤ 1000)
    (h : Q { pattern := .ref 80, string := .str x t, code := codeU, text := x.cps, kind := 0, groups := 0, pos := 0, lim := x.cps.size } s) :
    wpAny (model PG w) A (reTarget "re.Pattern.search" "search" ⟨[.ref 80, .str x t], []⟩) Q E s := by
  have z80 := X 80 _ rfl
  have z79 := X 79 _ rfl
  obtain ⟨hh, gg, dd, tt, oo⟩ := s
  unfold reTarget reNamed
  repeat lk
  refine Eq.mp (congrArg (fun z => Q z _) ?_) h
  refine (ReTarget.mk.injEq ..).mpr ⟨rfl, rfl, by decide +kernel, rfl, rfl, rfl, (Nat.zero_min _).symm, (Nat.min_eq_right ?_).symm⟩
  exact Nat.le_trans hx (by decide +kernel)
theorem search_U {w : World} {A : Around} {s : Shared} {Q E : Value → Shared → Prop} (X : (hd.heap_39 w.params).In s.heap) {x : Str} {t : Tok} (hx : x.cps.size ≤ 1000) {b : Bool} (hf : foundU x = some b)
    (h : ∀ h' v, s.heap.StaysIn h' → (b = false → v = .none) → (b = true → ∃ a, v = .ref a ∧ ∃ o, h'.get? a = some o ∧ o.cls = .type "re.Match") → Q v { s with heap := h' }) :
    wpAny (model PG w) A (call (.ref 783) [.str x t]) Q E s := by
  refine wpAny_call ?_
  have z783 := X 783 _ rfl
  have z80 := X 80 _ rfl
  have X0 := X
  obtain ⟨hh, gg, dd, tt, oo⟩ := s
  refine codeAny_of_tree ?_
  show wpAny _ _ (callAny (.ref 783) _) _ _ _
  repeat lk
  refine ⟨Code.quiet_builtin _ (by decide +kernel), codeAny_builtin entry_search ?_⟩
  show wpAny _ _ (reTarget "re.Pattern.search" "search" ⟨[.ref 80, .str x t], []⟩ >>= fun t => reAnswer t (Sre.forSearch t.code t.text t.groups t.pos t.lim false)) _ _ _
  refine wpAny_bind (target_U X0 hx ?_)
  unfold reAnswer
  unfold foundU at hf
  cases ea : adv 400 (Sre.forSearch codeU x.cps 0 0 x.cps.size false) with
  | none => rw [ea] at hf; cases hf
  | some m =>
    rw [ea] at hf
    dsimp only at hf
    refine wpAny_bind (run_end (k := 400) (by decide) ea ?_)
    cases eo : m.outcome with
    | none => rw [eo] at hf; cases hf
    | some oc =>
      rw [eo] at hf
      cases oc with
      | matched =>
        cases hf
        refine .inl ⟨rfl, ?_⟩
        dsimp only
        unfold reNewMatch
        repeat lk
        exact h _ _ (fun b o e => Heap.get?_push_of_some _ (Heap.get?_push_of_some _ e)) (fun e => nomatch e) (fun _ => ⟨_, rfl, _, Heap.get?_push_size _ rfl, rfl⟩)
      | failed =>
        cases hf
        exact .inr ⟨rfl, wpAny_pure (h _ _ (fun _ _ e => e) (fun _ => rfl) (fun e => nomatch e))⟩
      | stuck why => cases hf
end Mine
end
section

namespace Mine
theorem slice_one {x : Str} {q : Nat} (hq : q < x.length) : Txt.slice (Txt.slice x (some (q : Int)) (some ((q : Int) + 1)) ++ Str.ofString " ") none (some (-1)) = ⟨#[x.cps.getD q 0]⟩ := by
  have a : Txt.slice x (some (q : Int)) (some ((q : Int) + 1)) = ⟨#[x.cps.getD q 0]⟩ := by
    show StrLaws.sliceText x (some ((q : Nat) : Int)) (some (((q + 1 : Nat)) : Int)) = _
    rw [StrLaws.sliceText_nat x (Nat.le_succ q) hq]
    have hq' : q < x.cps.toList.length := by rw [Array.length_toList]; exact hq
    have hz : q < x.cps.size := hq
    rw [List.drop_eq_getElem_cons hq', show q + 1 - q = 1 by omega]
    simp [Array.getD, hz]
  rw [a]
  have b : (⟨#[x.cps.getD q 0]⟩ ++ Str.ofString " " : Str) = ⟨#[x.cps.getD q 0, 32]⟩ := by
    show (⟨#[x.cps.getD q 0] ++ (Str.ofString " ").cps⟩ : Str) = _
    rw [show (Str.ofString " ").cps = #[32] by decide +kernel]
    rfl
  rw [b]
  show StrLaws.sliceText _ none (some (-1)) = _
  rw [StrLaws.sliceText_to_neg (by decide) (by show -((2 : Nat) : Int) ≤ -1; decide)]
  rfl
end Mine
end
section

namespace Mine
noncomputable def isWb (c : Nat) : Bool := (48 ≤ c && c ≤ 57) || (97 ≤ c && c ≤ 122)
noncomputable def isQb (c : Nat) : Bool := c != 39 && c != 92 && c != 10
section
variable {prog : Program} {w : World} {A : Around} {E : Value → Shared → Prop} {s : Shared} {x y : Str} {t u : Tok} {b : Bool}
theorem eqS {Q : Value → Shared → Prop} (e : (x == y) = b) (h : Q (.bool b) s) : wpAny (model prog w) A (compareOp .Eq (.str x t) (.str y u)) Q E s := PyProof.Rows.eq_str (e ▸ h)
theorem inS {Q : Value → Shared → Prop} (e : Txt.contains x y = b) (h : Q (.bool b) s) : wpAny (model prog w) A (compareOp .In (.str y u) (.str x t)) Q E s := SB.contains (e ▸ h)
end
theorem str_beq_false {x y : Str} (h : x ≠ y) : (x == y) = false := by
  cases e : x == y with
  | false => rfl
  | true => exact absurd (eq_of_beq e) h
theorem one_ne {c : Nat} {y : Str} (k : Nat) (hk : y = ⟨#[k]⟩) (h : c ≠ k) : ((⟨#[c]⟩ : Str) == y) = false := str_beq_false fun e => h (by rw [hk] at e; injection e with e; simpa using e)
noncomputable def offW (f : Nat → Bool) (y : Str) : Bool := match y.cps.toList with | [k] => !f k | _ => true
theorem off_ne {f : Nat → Bool} {c : Nat} {y : Str} (hW : f c = true) (hy : offW f y = true) : ((⟨#[c]⟩ : Str) == y) = false := str_beq_false fun e => by
  rw [← e] at hy
  unfold offW at hy
  simp only [hW, Bool.not_true] at hy
  cases hy
theorem w_ne {c : Nat} {y : Str} (hW : isWb c = true) (hy : offW isWb y = true) : ((⟨#[c]⟩ : Str) == y) = false := off_ne hW hy
theorem q_ne {c : Nat} {y : Str} (hW : isQb c = true) (hy : offW isQb y = true) : ((⟨#[c]⟩ : Str) == y) = false := off_ne hW hy
theorem contains_one {x : Str} {c : Nat} : Txt.contains x ⟨#[c]⟩ = x.cps.toList.contains c := by
  (show (!(Builtin.Str.occurrences x ⟨#[c]⟩ 0 x.length 1).isEmpty) = _)
  rw [StrLaws.found_one, List.contains_eq_mem]
theorem w_notin {x : Str} {c : Nat} (hW : isWb c = true) (hx : (x.cps.toList.all fun k => !isWb k) = true) : Txt.contains x ⟨#[c]⟩ = false := by
  rw [contains_one]
  cases e : x.cps.toList.contains c with
  | false => rfl
  | true =>
    have := List.all_eq_true.mp hx c (List.contains_iff_mem.mp e)
    rw [hW] at this; cases this
theorem q_notin {x : Str} {c : Nat} (hW : isQb c = true) (hx : (x.cps.toList.all fun k => !isQb k) = true) : Txt.contains x ⟨#[c]⟩ = false := by
  rw [contains_one]
  cases e : x.cps.toList.contains c with
  | false => rfl
  | true =>
    have := List.all_eq_true.mp hx c (List.contains_iff_mem.mp e)
    rw [hW] at this; cases this
theorem isWb_lt {c : Nat} (h : isWb c = true) : c < 123 := by
  unfold isWb at h
  simp only [Bool.or_eq_true, Bool.and_eq_true, decide_eq_true_eq] at h
  omega
theorem w_in {x : Str} {c : Nat} (hW : isWb c = true) (hx : ((List.range 123).all fun k => !isWb k || x.cps.toList.contains k) = true) : Txt.contains x ⟨#[c]⟩ = true := by
  rw [contains_one]
  have := List.all_eq_true.mp hx c (List.mem_range.mpr (isWb_lt hW))
  rw [hW] at this
  simpa using this
end Mine
end
section

namespace Mine
theorem fillQ6 : PySem.Challenge.rw_in0080_01 = PySem.Challenge.rw_in0080_01 ∧ hd.heap_39 = hd.heap_39 := by k_fill; exact ⟨rfl, rfl⟩
theorem search_K {w : World} {h₀ : Heap} {s : Shared} {L : Addr} {m : Str → Option Value} {news : List (Addr × Obj)} {A : Around} {Q E : Value → Shared → Prop} (X : (hd.heap_39 w.params).In h₀) (F : Fr h₀ L s.heap m) (N : News h₀ L s.heap news)
    {x : Str} {t : Tok} (hx : x.cps.size ≤ 1000) {b : Bool} (hf : foundU x = some b) (h0 : b = false → ∀ h', Fr h₀ L h' m → News h₀ L h' news → Q .none { s with heap := h' }) (h1 : b = true → ∀ h' a, Fr h₀ L h' m → News h₀ L h' news → Q (.ref a) { s with heap := h' }) :
    wpAny (model PG w) A (call (.ref 783) [.str x t]) Q E s := by
  refine search_U (X.keeps F.keep) hx hf fun h' v st e0 e1 => ?_
  cases b with
  | false => rw [e0 rfl]; exact h0 rfl h' (fr_stays F st) (news_stays N st)
  | true =>
    obtain ⟨a, e, _⟩ := e1 rfl
    rw [e]
    exact h1 rfl h' a (fr_stays F st) (news_stays N st)
noncomputable abbrev O783 : Obj := { cls := .type "builtin_function_or_method", data := .fields #[.builtin "re.Pattern.search", .ref 80] }
theorem at783 {w : World} {h₀ h : Heap} {L : Addr} {m : Str → Option Value} (X : (hd.heap_39 w.params).In h₀) (F : Fr h₀ L h m) : h.get? 783 = some O783 := F.keep _ _ (X 783 _ rfl)
theorem callWith_783' {M : Model} {A : Around} {E : Value → Shared → Prop} {s : Shared} {pos : Pos} {first : List Value} {args : List (Bool × Sem Value)} {Q : Value → Shared → Prop} (hplain : args.any (·.1) = false)
    (h : wpAny M A (evalArgs (.ref 783) true args []) (fun x s₁ => s₁.heap.get? 783 = some O783 ∧ wpAny M A (call (.ref 783) (first ++ x.pos) x.kw) Q E s₁) E s) : wpAny M A (callWith pos (.ref 783) first args []) Q E s := by
  unfold callWith
  refine wpAny_bind (wpAny_holding (wpAny_mono h (fun x s₁ h₁ => wpAny_bind (wpAny_standAt ?_)) fun _ _ x => x))
  obtain ⟨ho, hcall⟩ := h₁
  simp only [hplain, List.any_nil, Bool.or_false]
  refine wpAny_bind (m := keeperOf (.ref 783)) ?_
  unfold keeperOf
  refine wpAny_bind (wpAny_load ho ?_)
  simp only [show (Value.type "builtin_function_or_method" != Value.type "method") = true by decide, show (Value.type "builtin_function_or_method" == Value.type "builtin_function_or_method" || Value.type "builtin_function_or_method" == Value.type "method-wrapper") = true by decide, if_true]
  refine wpAny_pure ?_
  exact wpAny_bind (wpAny_mono hcall (fun r s₂ hr => wpAny_bind (wpAny_holding (wpAny_point (wpAny_pure hr)))) fun _ _ x => x)
theorem callWith_783 {M : Model} {A : Around} {E : Value → Shared → Prop} {s : Shared} {pos : Pos} {first : List Value} {env : Env} {e : PySem.Expr} {rest : List PySem.Expr} {Q : Value → Shared → Prop}
    (h : wpAny M A (spliced (backTo pos (starEach (e :: rest) env))) (fun vs s₁ => s₁.heap.get? 783 = some O783 ∧ wpAny M A (call (.ref 783) (first ++ vs)) Q E s₁) E s)
    (he : starEach (e :: rest) env = (false, eval e env) :: starEach rest env := by rfl) (hplain : (backTo pos (starEach rest env)).any (·.1) = false := by rfl) :
    wpAny M A (callWith pos (.ref 783) first (backTo pos (starEach (e :: rest) env)) []) Q E s := by
  rw [he] at h ⊢
  refine callWith_783' (by show (false || (backTo pos (starEach rest env)).any (·.1)) = false; rw [hplain]; rfl) ?_
  exact evalArgs_plain h
noncomputable def quoteT (x : Str) (b : Bool) : Str := if b = true then (Str.ofString "'" ++ x) ++ Str.ofString "'" else x
theorem quoteT_len {x : Str} {b : Bool} (h : x.length ≤ 30) : (quoteT x b).length ≤ 32 := by
  have z : (Str.ofString "'").length = 1 := by decide +kernel
  unfold quoteT
  split
  · rw [Str.length_append, Str.length_append]; omega
  · omega
theorem sz1 {x : Str} (h : x.length ≤ 30) : (Str.ofString "'").length + x.length ≤ sizeLine := by
  have : (Str.ofString "'").length = 1 := by decide +kernel
  rw [sizeLine_eq]; omega
theorem sz2 {x : Str} (h : x.length ≤ 30) : (Str.ofString "'" ++ x).length + (Str.ofString "'").length ≤ sizeLine := by
  have : (Str.ofString "'").length = 1 := by decide +kernel
  rw [sizeLine_eq, Str.length_append]; omega
theorem quote_any {w : World} {A : Around} {s : Shared} {p : Program} {loose : List Str} {mean : ExcName → Option Value} {mg mb : Str → Option Value} {Q E : Value → Shared → Prop}
    (X : (hd.heap_39 w.params).In s.heap) (T : Top p loose mean mg mb s.heap) (hA : A.handled = none) (hroom : A.depth + 30 < recursionLimit) {x : Str} {t : Tok} (hx : 0 < x.length ∧ x.length ≤ 30) {b : Bool} (hf : foundU x = some b) (hq : b = true → Txt.replace x (Str.ofString "'") (Str.ofString "'\"'\"'") = x)
    (k : ∀ h' tk t', s.heap.StaysIn h' → Q (.str (quoteT x b) t') { s with heap := h', toks := tk }) :
    wpAny (model PG w) A (call (.ref 790) [.str x t]) Q E s := by
  refine wpAny_call ?_
  k_dflt (refine' enter (news := []) X T (fun _ _ e => e) (Nat.le_refl _) (fun _ h => nomatch h) ?k6 ?k7 ?k8 ?k9 ?kB ?_ ?c2 ?c3 ?c4 ?c5; (case k6 => k_is); (case k7 => k_is); (case k8 => omega); (case k9 => first | exact BindsTo.of_eq rfl | exact binds_K (by k_in) rfl (by k_is) rfl rfl rfl);(case c5 => decide); (case kB => exact locs rfl); (case c2 => exact rfl); (case c3 => exact rfl); (case c4 => exact rfl))
  intro L' h₁ _ F N l1 G1
  (try dsimp only); (try k_fold)
  repeat' ((first | ((fail_if_success (with_reducible show wpAny _ _ (call (Value.ref 783) _) _ _ _)); first | ((with_reducible show And _ _); (k_dflt (refine And.intro (at783 (by k_asm) (by k_asm)) ?_))) | ((with_reducible show wpAny _ _ (callWith _ (Value.ref _) _ _ _) _ _ _); (k_dflt (refine callWith_783 ?_))) | (k_unfold; (try dsimp only)) | walk1 | (dsimp only; walk1)) | fail "no step") <;> (try dsimp only))
  · k_dflt (refine search_K (by k_asm) (by k_asm) (by k_asm) (Nat.le_trans hx.2 (by decide)) hf (fun hb h' F' N' => ?_) (fun hb h' a F' N' => ?_))
    · repeat' ((first | ((with_reducible show And _ _); (k_dflt (refine And.intro (at783 (by k_asm) (by k_asm)) ?_))) | ((with_reducible show wpAny _ _ (callWith _ (Value.ref _) _ _ _) _ _ _); (k_dflt (refine callWith_783 ?_))) | (k_unfold; (try dsimp only)) | walk1 | (dsimp only; walk1) | fail "no step") <;> (try dsimp only))
      subst hb
      exact k _ _ _ F'.keep
    · repeat' ((first | ((with_reducible show And _ _); (k_dflt (refine And.intro (at783 (by k_asm) (by k_asm)) ?_))) | ((with_reducible show wpAny _ _ (callWith _ (Value.ref _) _ _ _) _ _ _); (k_dflt (refine callWith_783 ?_))) | (k_unfold; (try dsimp only)) | walk1 | (dsimp only; walk1) | fail "no step") <;> (try dsimp only))
      rw [hq hb]
      refine SBL.add (hsz := sz1 hx.2) ?_
      intro _ _ _
      repeat' ((first | ((fail_if_success (with_reducible show wpAny _ _ (binaryOp Operator.Add _ _) _ _ _)); first | ((with_reducible show And _ _); (k_dflt (refine And.intro (at783 (by k_asm) (by k_asm)) ?_))) | ((with_reducible show wpAny _ _ (callWith _ (Value.ref _) _ _ _) _ _ _); (k_dflt (refine callWith_783 ?_))) | (k_unfold; (try dsimp only)) | walk1 | (dsimp only; walk1)) | fail "no step") <;> (try dsimp only))
      refine SBL.add (hsz := sz2 hx.2) ?_
      intro _ _ _
      repeat' ((first | ((with_reducible show And _ _); (k_dflt (refine And.intro (at783 (by k_asm) (by k_asm)) ?_))) | ((with_reducible show wpAny _ _ (callWith _ (Value.ref _) _ _ _) _ _ _); (k_dflt (refine callWith_783 ?_))) | (k_unfold; (try dsimp only)) | walk1 | (dsimp only; walk1) | fail "no step") <;> (try dsimp only))
      subst hb
      exact k _ _ _ F'.keep
  · exfalso
    have e : ((x.length : Nat) : Int) = 0 := by assumption
    omega
end Mine
end
section

namespace Mine
noncomputable def P0 : Program := { PG with main := { PG.main with body := [.Import [{ name := Str.ofString "sys", asname := none, pos := { line := 0, col := 0, endLine := 0, endCol := 0 } }] { line := 0, col := 0, endLine := 0, endCol := 0 }] } }
noncomputable def loose0 (p : Program) (loose : List Str) : List Str := loose ++ ((recsOf p).map (·.name) ++ ((litsOf p).map (·.1) ++ (clssOf p loose).map (·.name)))
section
variable {p : Program} {loose : List Str} {mean : ExcName → Option Value} {mg mb : Str → Option Value} {h h₁ h₀ : Heap} {c P : Addr} {ps ps' : Array Value}
theorem top0 (T : Top p loose mean mg mb h) : Top P0 (loose0 p loose) mean mg mb h where
  g := T.g
  b := T.b
  nolimit := T.nolimit
  nodigits := T.nodigits
  fn := fun d hd => nomatch (show d ∈ ([] : List DefRec) from hd)
  own := fun o ho => nomatch (show o ∈ ([] : List OwnSpec) from ho)
  const := fun x d e => nomatch (show (none : Option PyData) = some d from e)
  free := fun x h1 h2 _ _ _ => T.free x h1 (fun m => h2 (List.mem_append.mpr (.inl m))) (fun m => h2 (List.mem_append.mpr (.inr (List.mem_append.mpr (.inl m)))))
    (fun m => h2 (List.mem_append.mpr (.inr (List.mem_append.mpr (.inr (List.mem_append.mpr (.inl m))))))) (fun m => h2 (List.mem_append.mpr (.inr (List.mem_append.mpr (.inr (List.mem_append.mpr (.inr m)))))))
  builtins := T.builtins
  tab := fun d hd => nomatch (show d ∈ ([] : List DefRec) from hd)
  bmain := T.bmain
  seer := fun e => absurd (show false = true from (show importsNone P0 = false by decide +kernel) ▸ e) Bool.false_ne_true
theorem top0_regrown {loose' : List Str} (T : Top P0 loose' mean mg mb h₀) (B : Based h₁ h₀ c P ps) : Top P0 loose' mean mg mb (PyProof.Rows.regrown h₀ P ps') where
  g := LGe.ns_regrown B T.g
  b := LGe.ns_regrown B T.b
  nolimit := let ⟨mc, h1, h2⟩ := T.nolimit; ⟨mc, LGe.ns_regrown B h1, h2⟩
  nodigits := let ⟨mc, h1, h2⟩ := T.nodigits; ⟨mc, LGe.ns_regrown B h1, h2⟩
  fn := fun d hd => nomatch (show d ∈ ([] : List DefRec) from hd)
  own := fun o ho => nomatch (show o ∈ ([] : List OwnSpec) from ho)
  const := fun x d e => nomatch (show (none : Option PyData) = some d from e)
  free := T.free
  builtins := T.builtins
  tab := fun d hd => nomatch (show d ∈ ([] : List DefRec) from hd)
  bmain := by
    obtain ⟨bm, ob, h1, h2, h3, h4, h5, h6⟩ := T.bmain
    refine ⟨bm, ob, h1, h2, (Heap.get?_update_other _ _ (fun e => ?_)).trans h3, h4, h5, h6⟩
    have z := B.tab.2
    rw [e, h3] at z
    cases z
    cases h6
  seer := fun e => absurd (show false = true from (show importsNone P0 = false by decide +kernel) ▸ e) Bool.false_ne_true
end
end Mine
end
section

namespace Mine
theorem fillJ2 : PySem.Challenge.rw_in0080_01 = PySem.Challenge.rw_in0080_01 ∧ hd.heap_39 = hd.heap_39 := by k_fill; exact ⟨rfl, rfl⟩
noncomputable abbrev gScope : Scope := { kind := .function, names := [(Str.ofString ".0", .local), (Str.ofString "arg", .local), (Str.ofString "quote", .globalImplicit)], isGenerator := true, isCoroutine := false }
theorem quote_elt {w : World} {A : Around} {s : Shared} {p : Program} {loose : List Str} {mean : ExcName → Option Value} {mg mb m : Str → Option Value} {E : Value → Shared → Prop} {env : Env} {C c' : Addr} {cl : List (Str × Addr)} {p1 p2 p3 : Pos} {x : Str} {u : Tok} {b : Bool}
    (X : (hd.heap_39 w.params).In s.heap) (T : Top p loose mean mg mb s.heap) (hA : A.handled = none) (hroom : A.depth + 30 < recursionLimit) (hg : env.globals = mainGlobals)
    (hn : s.heap.Ns C m) (hm : m (Str.ofString "arg") = some (.str x u)) (hx : 0 < x.length ∧ x.length ≤ 30) (hf : foundU x = some b) (hq : b = true → Txt.replace x (Str.ofString "'") (Str.ofString "'\"'\"'") = x) :
    wpAny (model PG w) A (eval (.Call (.Name (Str.ofString "quote") p1) [.Name (Str.ofString "arg") p2] [] p3) (genEnv gScope cl C (.ref c') builtinsNs env)) (fun y s₃ => (∃ t', y = .str (quoteT x b) t') ∧ Keeps s s₃) E s := by
  refine Call_ ?_
  refine Name_function_global rfl rfl (loadGlobal_global (env := genEnv gScope cl C (.ref c') builtinsNs env) (show s.heap.Ns env.globals mg from hg ▸ T.g) (mg_of X T.g (v := .ref 790) (by k_is)) ?_) (by decide)
  refine callWith_K X (by k_is) ?_
  walk1
  refine wpAny_Name (wpAny_loadName_local rfl rfl hn hm ?_) (by decide)
  repeat walk1
  refine quote_any X T hA hroom hx hf hq fun h' tk t' st => ⟨⟨t', rfl⟩, h', tk, rfl, st⟩
end Mine
end
section

namespace Mine
theorem fillJ1 : PySem.Challenge.rw_in0080_01 = PySem.Challenge.rw_in0080_01 ∧ hd.heap_39 = hd.heap_39 := by k_fill; exact ⟨rfl, rfl⟩
noncomputable abbrev psJ (c' : Addr) : Array Value := #[] ++ #[rawInt ((813 : Nat) : Int), rawInt ((20 : Nat) : Int), .ref c']
theorem pass_map (ws : List Str) (g : Str → Str) : (List.range (passing (fun _ => true) ws.length 0).length).map (fun j => g (ws.getD ((passing (fun _ => true) ws.length 0).getD j 0) "")) = ws.map g := by
  rw [map_range (passing (fun _ => true) ws.length 0) (fun i => g (ws.getD i ""))]
  have := passOnS_map ws (fun _ => true)
  rw [List.filter_eq_self.mpr (fun _ _ => rfl)] at this
  have e : (passing (fun _ => true) ws.length 0).map (fun i => g (ws.getD i "")) = ((passing (fun _ => true) ws.length 0).map (fun i => ws.getD i "")).map g := by rw [List.map_map]; rfl
  rw [e]
  exact congrArg _ this
theorem join_first {w : World} {dp un : Nat} {gd : Option (List Code)} {s : Shared} {loose : List Str} {mean : ExcName → Option Value} {mg mb : Str → Option Value} {base : Heap} {outer : List Env} {Q E : Value → Shared → Prop}
    (X : (hd.heap_39 w.params).In s.heap) (T : Top P0 loose mean mg mb s.heap) (B : Below (Ar dp un gd outer) base outer s.heap) (hroom : dp + 60 < recursionLimit) (hg : AllBare s.gens) (TB : Based s.heap s.heap 781 777 #[])
    {al : Addr} {vs : List Value} {ws : List Str} (hal : s.heap.IsList al vs.toArray) (hvs : StrsAre vs ws) {q : Str → Bool} (hq : ∀ x ∈ ws, (0 < x.length ∧ x.length ≤ 30) ∧ foundU x = some (q x) ∧ (q x = true → Txt.replace x (Str.ofString "'") (Str.ofString "'\"'\"'") = x)) (hlen : ws.length ≤ 18)
    (k : ∀ s' t' c', Based s.heap (regrown s.heap 777 (psJ c')) 781 777 (psJ c') → (regrown s.heap 777 (psJ c')).StaysIn s'.heap → AllBare s'.gens → s'.os = s.os → Q (.str (Txt.join (Str.ofString " ") (ws.map fun x => quoteT x (q x))) t') s') :
    wpAny (model PG w) (Ar dp un gd outer) (call (.ref 782) [.ref al]) Q E s := by
  refine wpAny_call ?_
  k_dflt (refine' enter (news := []) X T (fun _ _ e => e) (Nat.le_refl _) (fun _ h => nomatch h) ?k6 ?k7 ?k8 ?k9 ?kB ?_ ?c2 ?c3 ?c4 ?c5; (case k6 => k_is); (case k7 => k_is); (case k8 => (show dp < _; omega)); (case k9 => first | exact BindsTo.of_eq rfl | exact binds_K (by k_in) rfl (by k_is) rfl rfl rfl);(case c5 => decide); (case kB => exact locs rfl); (case c2 => exact rfl); (case c3 => exact rfl); (case c4 => exact rfl))
  intro L' h₁ _ F N l1 G1
  (try dsimp only); (try k_fold)
  repeat' ((first | ((fail_if_success (with_reducible show wpAny _ _ (eval (Expr.GeneratorExp _ _ _ _) _) _ _ _)); first | (k_unfold; (try dsimp only)) | walk1 | (dsimp only; walk1)) | fail "no step") <;> (try dsimp only))
  obtain ⟨bm, ob, M⟩ := bmod_of_top T
  refine LGe.GeneratorExp_K F TB M rfl rfl rfl rfl rfl (by decide) rfl rfl rfl (show dp + 1 < _ by omega) ?_ (by intro _; rfl)
  walk1
  refine src_list (K := L') (pz := fun _ => true) (F := fun i y => ∃ x t, ws[i]? = some x ∧ y = .str (quoteT x (q x)) t) TB (hal.at fun o e => F.keep _ o e) F hg (T.nolimit.keeps F.keep) (Nat.le_refl _) F.ns.lt ?_ ?_ ?_
  · intro c' C A' E' i v t m₂ hA hd hu hi F' hm hL hk
    exact wpAny_pure ⟨rfl, t.heap, t.toks, rfl, fun _ _ e => e⟩
  · intro c' C A' E' i v t m₂ hA hdp hu hi hp F' hm hL hk
    have X' := (LGeL.in_regrown F' X (topRead_of T) TB (by kernel_rfl)).keeps F'.keep
    have T' := (top0_regrown (ps' := #[] ++ #[rawInt ((813 : Nat) : Int), rawInt ((20 : Nat) : Int), .ref c']) T TB).keeps F'.keep
    have hi' : vs[i]? = some v := by simpa using hi
    have hlt : i < ws.length := by rw [← hvs.length]; exact (List.getElem?_eq_some_iff.mp hi').1
    obtain ⟨t0, e0⟩ := hvs.get i ws[i] (List.getElem?_eq_getElem hlt)
    rw [hi'] at e0
    obtain rfl := Option.some.inj e0
    obtain ⟨q1, q2, q3⟩ := hq _ (List.getElem_mem hlt)
    have hroom' : A'.depth + 30 < recursionLimit := by
      have : A'.depth ≤ dp + 1 + 1 := hdp
      omega
    exact wpAny_mono (quote_elt X' T' hA hroom' rfl F'.ns hm q1 q2 q3) (fun y s₃ h => by
      obtain ⟨⟨t', e⟩, hk⟩ := h
      exact ⟨⟨_, t', List.getElem?_eq_getElem hlt, e⟩, hk⟩) fun _ _ e => e
  · intro c' a s₅ B' F' g5 hos hk X5
    walk1
    have hsz : vs.toArray.size = ws.length := by rw [List.size_toArray, hvs.length]
    rw [hsz] at X5
    refine join_rows F' g5 X5 (fun j => quoteT (ws.getD ((passing (fun _ => true) ws.length 0).getD j 0) "") (q (ws.getD ((passing (fun _ => true) ws.length 0).getD j 0) ""))) ?_ ?_ ?_ ?_
    · rintro j v ⟨i, h1, x, t, h2, rfl⟩
      refine ⟨t, ?_⟩
      have e1 : (passing (fun _ => true) ws.length 0).getD j 0 = i := by rw [List.getD_eq_getElem?_getD, h1]; rfl
      have e2 : ws.getD i "" = x := by rw [List.getD_eq_getElem?_getD, h2]; rfl
      rw [e1, e2]
    · rw [pass_map ws (fun x => quoteT x (q x))]
      refine joinOk_of_weight ?_ (by decide)
      have := StrLaws.sumLen_le (B := 32) (ws.map fun x => quoteT x (q x)) (fun y hy => by
        obtain ⟨x, hx, rfl⟩ := List.mem_map.mp hy
        exact quoteT_len (hq x hx).1.2)
      rw [List.length_map] at this ⊢
      omega
    · intro s' t' F'' g' os'
      rw [pass_map ws (fun x => quoteT x (q x))]
      exact k s' t' c' B' F''.keep g' (os'.trans hos)
    · have e := congrArg List.length (pass_map ws (fun x => x))
      rw [List.length_map, List.length_range, List.length_map] at e
      rw [e, sizeLine_eq]
      omega
end Mine
end
section

namespace Mine
section
variable {prog : Program} {w : World} {A : Around} {E : Value → Shared → Prop} {s : Shared} {h₀ : Heap} {c P L : Addr} {ps : Array Value} {m mg : Str → Option Value} {bm : Addr} {ob : Obj}
theorem gen_hit {env : Env} {elt iter : PySem.Expr} {x : Str} {px : Pos} {scope : Scope} {cl : List (Str × Addr)} {pos : Pos} {Q : Value → Shared → Prop} {cv : Value}
    (_F : Fr h₀ L s.heap m) (M : BMod h₀ env.globals mg bm ob) (hcode : env.code = .ref c) (hok : h₀.IsCode c P ps) (hf : codeAmong pos ps.toList = some cv)
    (hh : A.handled = none) (hco : scope.isCoroutine = false) (hclos : closureFor scope env = pure cl) (hcell : ∀ y ∈ scope.names, y.2 ≠ .cell) (h0 : scope.names.lookup (".0" : Str) = some NameKind.local)
    (hx : scope.names.lookup x = some .local) (hkind : scope.kind = .function) (hroom : A.depth < recursionLimit)
    (h : wpAny (model prog w) A (eval iter env) (fun xv s₁ => ∃ l items, xv = .ref l ∧ s₁.heap.IsList l items ∧ Fr h₀ L s₁.heap m ∧ AllBare s₁.gens ∧ s₁.heap.NoLimit ∧ ∃ (F : Nat → Value → Prop),
        (∀ (C : Addr) (A' : Around) E' i v (t : Shared) m₂, A'.handled = none → A'.depth ≤ A.depth + 1 → A'.units ≤ A.units + 8 → items[i]? = some v → Fr h₀ C t.heap m₂ → m₂ x = some v →
          wpAny (model prog w) A' (eval elt (genEnv scope cl C cv builtinsNs env)) (fun y s₃ => F i y ∧ Keeps t s₃) E' t) ∧
        (∀ (a : Addr) (s₅ : Shared), Fr h₀ L s₅.heap m → AllBare s₅.gens → s₅.os = s₁.os →
          Gen prog w A L a (passing (fun _ => true) items.size 0).length (fun j y => ∃ i, (passing (fun _ => true) items.size 0)[j]? = some i ∧ F i y) s₅ → Q (.ref a) s₅)) E s)
    (hs : ∀ x, genFold iter env x = pure x) :
    wpAny (model prog w) A (eval (.GeneratorExp elt [⟨.Name x px, iter, [], 0⟩] scope pos) env) Q E s := by
  refine wpAny_GeneratorExp_walksQD hh hco hclos hcell h0 hx hkind hroom (wpAny_mono h (fun xv s₁ h₁' => ?_) fun _ _ e => e) hs
  obtain ⟨l, items, rfl, hl, F₁, G₁, hlim, F, hq2, hQ⟩ := h₁'
  have hlt : l < s₁.heap.objs.size := by obtain ⟨_, e, _⟩ := hl; exact Heap.lt_size e
  refine wpAny_pyIter_list hl ?_
  have F₂ := F₁.push { cls := .type "list_iterator", data := .fields #[.ref l, .int 0 0] }
  have hL₁ : L < s₁.heap.objs.size := F₁.ns.lt
  generalize hI : s₁.heap.objs.size = I at *
  refine ⟨hlim.push _, wpAny_genexprCode_hit hcode (hok.keeps F₂.keep) hf ?_⟩
  have M₃ := M.keeps F₂.keep
  refine wpAny_builtinsFor M₃.ns M₃.name M₃.ne M₃.obj M₃.cls M₃.dict M₃.data ?_
  have W₀ : ∀ A' : Around, A'.handled = none → Walks prog w A' I [I, l] [I] items.size _ _ := fun A' hA => Walks.list hA _ _ (Nat.ne_of_lt hlt) items
  refine ⟨I, [I, l], [I], items.size, _, _, fun _ => true, F, rfl, W₀, ⟨⟨_, by rw [← hI]; exact Heap.get?_push_size _ rfl, rfl, rfl⟩, hl.push _⟩, ?_, hlim.push _, ?_, (fun href hhref => ?_), fun a h₅ tk gs hgb hag hsz₅ hk₅ W hat => ?_⟩
  · intro b hb
    show b < (s₁.heap.push _).objs.size
    rw [Heap.size_push, hI]
    rcases List.mem_cons.mp hb with rfl | hb
    · exact Nat.lt_succ_self _
    · rw [List.mem_singleton.mp hb]
      exact Nat.lt_succ_of_lt hlt
  · intro hm
    have h1 : L < cStatics := by rw [List.mem_singleton.mp hm]; exact hL₁
    have hL : L ≤ 1 := Nat.le_of_lt_succ h1
    have hb : bm < 1 := Nat.lt_of_lt_of_le (Heap.lt_size M.obj) (Nat.le_trans F₂.above hL)
    exact M.ne (Nat.lt_one_iff.mp hb)
  · have inB : ∀ (t : Shared) m₂, t.heap.Ns (s₁.heap.push { cls := .type "list_iterator", data := .fields #[.ref l, .int 0 0] }).objs.size m₂ → (∀ b ∈ List.range (s₁.heap.push { cls := .type "list_iterator", data := .fields #[.ref l, .int 0 0] }).objs.size, b ∉ [I] → ∀ o, href.get? b = some o → t.heap.get? b = some o) →
        Fr h₀ (s₁.heap.push { cls := .type "list_iterator", data := .fields #[.ref l, .int 0 0] }).objs.size t.heap m₂ := fun t m₂ hn hkp =>
      ⟨hn, fun b o e => hkp b (List.mem_range.mpr (Heap.lt_size (F₂.keep b o e))) (fun hm => by
        have z := Nat.lt_of_lt_of_le (Heap.lt_size e) F₂.above
        rw [List.mem_singleton.mp hm] at z
        exact Nat.lt_irrefl _ (Nat.lt_trans z hL₁)) o (hhref b o (F₂.keep b o e)), Nat.le_trans F₂.above (Nat.le_of_lt F₂.ns.lt)⟩
    exact ⟨fun A' E' i v t m₂ hA hD hU hP hn hm hkp => wpAny_pure ⟨rfl, t.heap, t.toks, rfl, fun _ _ e => e⟩,
      fun A' E' i v t m₂ hA hD hU hP hp hn hm hkp => hq2 _ A' E' i v t m₂ hA hD hU hP (inB t m₂ hn hkp) hm⟩
  · refine hQ a _ (F₂.keeps hk₅) (G₁.push hgb) rfl ⟨_, _, _, _, W, hat, (fun i s' st => st.1.typeIs), List.mem_cons_self, ?_, ?_⟩
    · intro b hb
      show b < h₅.objs.size
      rw [hsz₅]
      rcases List.mem_cons.mp hb with rfl | hb
      · exact Nat.lt_succ_self _
      · rcases List.mem_cons.mp hb with rfl | hb
        · exact Nat.lt_succ_of_lt hag
        · exact Nat.lt_succ_of_lt (Nat.lt_trans (List.mem_range.mp hb) hag)
    · intro b hb
      rcases List.mem_cons.mp hb with rfl | hb
      · exact F₂.ns.lt
      · rw [List.mem_singleton.mp hb]
        exact hL₁
end
end Mine
end
section

namespace Mine
theorem fillJ4 : PySem.Challenge.rw_in0080_01 = PySem.Challenge.rw_in0080_01 ∧ hd.heap_39 = hd.heap_39 := by k_fill; exact ⟨rfl, rfl⟩
theorem join_again {w : World} {dp un : Nat} {gd : Option (List Code)} {s : Shared} {loose : List Str} {mean : ExcName → Option Value} {mg mb : Str → Option Value} {base : Heap} {outer : List Env} {Q E : Value → Shared → Prop}
    (X : (hd.heap_39 w.params).In s.heap) (T : Top P0 loose mean mg mb s.heap) (B : Below (Ar dp un gd outer) base outer s.heap) (hroom : dp + 60 < recursionLimit) (hg : AllBare s.gens) {c' : Addr} {hb : Heap} (TB : Based hb s.heap 781 777 (psJ c'))
    {al : Addr} {vs : List Value} {ws : List Str} (hal : s.heap.IsList al vs.toArray) (hvs : StrsAre vs ws) {q : Str → Bool} (hq : ∀ x ∈ ws, (0 < x.length ∧ x.length ≤ 30) ∧ foundU x = some (q x) ∧ (q x = true → Txt.replace x (Str.ofString "'") (Str.ofString "'\"'\"'") = x)) (hlen : ws.length ≤ 18)
    (k : ∀ s' t', s.heap.StaysIn s'.heap → AllBare s'.gens → s'.os = s.os → Q (.str (Txt.join (Str.ofString " ") (ws.map fun x => quoteT x (q x))) t') s') :
    wpAny (model PG w) (Ar dp un gd outer) (call (.ref 782) [.ref al]) Q E s := by
  refine wpAny_call ?_
  k_dflt (refine' enter (news := []) X T (fun _ _ e => e) (Nat.le_refl _) (fun _ h => nomatch h) ?k6 ?k7 ?k8 ?k9 ?kB ?_ ?c2 ?c3 ?c4 ?c5; (case k6 => k_is); (case k7 => k_is); (case k8 => (show dp < _; omega)); (case k9 => first | exact BindsTo.of_eq rfl | exact binds_K (by k_in) rfl (by k_is) rfl rfl rfl);(case c5 => decide); (case kB => exact locs rfl); (case c2 => exact rfl); (case c3 => exact rfl); (case c4 => exact rfl))
  intro L' h₁ _ F N l1 G1
  (try dsimp only); (try k_fold)
  repeat' ((first | ((fail_if_success (with_reducible show wpAny _ _ (eval (Expr.GeneratorExp _ _ _ _) _) _ _ _)); first | (k_unfold; (try dsimp only)) | walk1 | (dsimp only; walk1)) | fail "no step") <;> (try dsimp only))
  obtain ⟨bm, ob, M⟩ := bmod_of_top T
  refine gen_hit (cv := .ref c') F M rfl TB.code (by kernel_rfl) rfl rfl rfl (by decide) rfl rfl rfl (show dp + 1 < _ by omega) ?_ (by intro _; rfl)
  walk1
  refine ⟨al, vs.toArray, rfl, hal.at fun o e => F.keep _ o e, F, hg, T.nolimit.keeps F.keep, fun i y => ∃ x t, ws[i]? = some x ∧ y = .str (quoteT x (q x)) t, ?_, ?_⟩
  · intro C A' E' i v t m₂ hA hdp hu hi F' hm
    have X' := X.keeps F'.keep
    have T' := T.keeps F'.keep
    have hi' : vs[i]? = some v := by simpa using hi
    have hlt : i < ws.length := by rw [← hvs.length]; exact (List.getElem?_eq_some_iff.mp hi').1
    obtain ⟨t0, e0⟩ := hvs.get i ws[i] (List.getElem?_eq_getElem hlt)
    rw [hi'] at e0
    obtain rfl := Option.some.inj e0
    obtain ⟨q1, q2, q3⟩ := hq _ (List.getElem_mem hlt)
    have hroom' : A'.depth + 30 < recursionLimit := by
      have : A'.depth ≤ dp + 1 + 1 := hdp
      omega
    exact wpAny_mono (quote_elt X' T' hA hroom' rfl F'.ns hm q1 q2 q3) (fun y s₃ h => by
      obtain ⟨⟨t', e⟩, hk⟩ := h
      exact ⟨⟨_, t', List.getElem?_eq_getElem hlt, e⟩, hk⟩) fun _ _ e => e
  · intro a s₅ F' g5 hos X5
    walk1
    have hsz : vs.toArray.size = ws.length := by rw [List.size_toArray, hvs.length]
    rw [hsz] at X5
    refine join_rows F' g5 X5 (fun j => quoteT (ws.getD ((passing (fun _ => true) ws.length 0).getD j 0) "") (q (ws.getD ((passing (fun _ => true) ws.length 0).getD j 0) ""))) ?_ ?_ ?_ ?_
    · rintro j v ⟨i, h1, x, t, h2, rfl⟩
      refine ⟨t, ?_⟩
      have e1 : (passing (fun _ => true) ws.length 0).getD j 0 = i := by rw [List.getD_eq_getElem?_getD, h1]; rfl
      have e2 : ws.getD i "" = x := by rw [List.getD_eq_getElem?_getD, h2]; rfl
      rw [e1, e2]
    · rw [pass_map ws (fun x => quoteT x (q x))]
      refine joinOk_of_weight ?_ (by decide)
      have := StrLaws.sumLen_le (B := 32) (ws.map fun x => quoteT x (q x)) (fun y hy => by
        obtain ⟨x, hx, rfl⟩ := List.mem_map.mp hy
        exact quoteT_len (hq x hx).1.2)
      rw [List.length_map] at this ⊢
      omega
    · intro s' t' F'' g' os'
      rw [pass_map ws (fun x => quoteT x (q x))]
      exact k s' t' F''.keep g' (os'.trans hos)
    · have e := congrArg List.length (pass_map ws (fun x => x))
      rw [List.length_map, List.length_range, List.length_map] at e
      rw [e, sizeLine_eq]
      omega
end Mine
end
section

namespace Mine
noncomputable abbrev hidT : List Addr := [70, 777]
theorem in_hide {P : Params} {h : Heap} (X : (hd.heap_39 P).In h) : (hd.heap_39 P).In (hideAll h hidT) := fun a o e => by
  refine hideAll_get _ (X a o e) fun hm => ?_
  rcases List.mem_cons.mp hm with rfl | hm
  · have z : (hd.heap_39 P).lookup 70 = none := by kernel_rfl
    rw [z] at e; cases e
  · rcases List.mem_cons.mp hm with rfl | hm
    · have z : (hd.heap_39 P).lookup 777 = none := by kernel_rfl
      rw [z] at e; cases e
    · cases hm
theorem hid_ne {h : Heap} (hT : ∀ P ∈ hidT, ∃ ps, h.get? P = some (tabObj ps)) {b : Addr} {o : Obj} (e : h.get? b = some o) (hd : ∀ ps, o ≠ tabObj ps) : (hideAll h hidT).get? b = some o :=
  hideAll_get _ e fun hm => by
    obtain ⟨ps, e'⟩ := hT b hm
    rw [e] at e'
    cases e'
    exact hd ps rfl
theorem ns_hide {h : Heap} (hT : ∀ P ∈ hidT, ∃ ps, h.get? P = some (tabObj ps)) {a : Addr} {m : Str → Option Value} (n : h.Ns a m) : (hideAll h hidT).Ns a m := by
  obtain ⟨o, es, ep, e, hd, r⟩ := n
  exact ⟨o, es, ep, hid_ne hT e (fun ps q => by rw [q] at hd; cases hd), hd, r⟩
theorem top0_hide {loose' : List Str} {mean : ExcName → Option Value} {mg mb : Str → Option Value} {h : Heap} (T : Top P0 loose' mean mg mb h) (hT : ∀ P ∈ hidT, ∃ ps, h.get? P = some (tabObj ps)) : Top P0 loose' mean mg mb (hideAll h hidT) where
  g := ns_hide hT T.g
  b := ns_hide hT T.b
  nolimit := let ⟨mc, h1, h2⟩ := T.nolimit; ⟨mc, ns_hide hT h1, h2⟩
  nodigits := let ⟨mc, h1, h2⟩ := T.nodigits; ⟨mc, ns_hide hT h1, h2⟩
  fn := fun d hd => nomatch (show d ∈ ([] : List DefRec) from hd)
  own := fun o ho => nomatch (show o ∈ ([] : List OwnSpec) from ho)
  const := fun x d e => nomatch (show (none : Option PyData) = some d from e)
  free := T.free
  builtins := T.builtins
  tab := fun d hd => nomatch (show d ∈ ([] : List DefRec) from hd)
  bmain := by
    obtain ⟨bm, ob, h1, h2, h3, h4, h5, h6⟩ := T.bmain
    exact ⟨bm, ob, h1, h2, hid_ne hT h3 (fun ps q => by rw [q] at h6; cases h6), h4, h5, h6⟩
  seer := fun e => absurd (show false = true from (show importsNone P0 = false by decide +kernel) ▸ e) Bool.false_ne_true
end Mine
end
section

namespace Mine
theorem code781 {P : Params} : codeHdIn (hd.heap_39 P) 781 777 = true := by kernel_rfl
theorem based_at {P : Params} {h : Heap} {ps : Array Value} (X : (hd.heap_39 P).In h) (h7 : h.get? 777 = some (tabObj ps)) (tri : TriplesOk ps.toList) : Based h h 781 777 ps := by
  obtain ⟨o, vs, f, tf, fl, tg, b, n, tt, e, hc, hd', h11, h11', h18, h7', h9, h10, hne⟩ := codeHd_of_K X code781
  exact Based.start ⟨o, vs, f, tf, fl, tg, b, n, tt, tabObj ps, e, hd', h11', h18, h7', h9, h10, h7, rfl, tri, hne⟩ ⟨⟨o, vs, e, hc, hd', h11⟩, h7⟩ (by decide)
section
variable {w : World} {loose : List Str} {mean : ExcName → Option Value} {mg mb : Str → Option Value} {base h₀ : Heap} {dp un : Nat} {gd : Option (List Code)} {outer : List Env} {s : Shared} {env : Env} {L : Addr} {m : Str → Option Value} {pre : List (Addr × Obj)} {o70 : Obj} {A₀ : Around} {Q E : Value → Shared → Prop}
theorem regrown_ne {h : Heap} {ps : Array Value} {b : Addr} (hb : b ≠ 777) : (regrown h 777 ps).get? b = h.get? b := Heap.get?_update_other _ _ (Ne.symm hb)
theorem joinA_K (X : (hd.heap_39 w.params).In h₀) (T : Top P0 loose mean mg mb h₀) (B : Below A₀ base outer h₀) (F : Fr h₀ L s.heap m) (N : News h₀ L s.heap (pre ++ [(777, tabObj #[])])) (hn : ∀ q ∈ pre, q.1 ≠ 777) (hA : A₀.deeper env = Ar dp un gd (env :: outer)) (hf : env.frame = some L) (hk : env.scope.kind = .function) (hroom : dp + 60 < recursionLimit) (hg : AllBare s.gens)
    {al : Addr} {vs : List Value} {ws : List Str} (hal : s.heap.IsList al vs.toArray) (hvs : StrsAre vs ws) {q : Str → Bool} (hq : ∀ x ∈ ws, (0 < x.length ∧ x.length ≤ 30) ∧ foundU x = some (q x) ∧ (q x = true → Txt.replace x (Str.ofString "'") (Str.ofString "'\"'\"'") = x)) (hlen : ws.length ≤ 18)
    (k : ∀ s' t' c', Fr h₀ L s'.heap m → News h₀ L s'.heap (pre ++ [(777, tabObj (psJ c'))]) → AllBare s'.gens → s'.os = s.os → Q (.str (Txt.join (Str.ofString " ") (ws.map fun x => quoteT x (q x))) t') s') :
    wpAny (model PG w) (A₀.deeper env) (call (.ref 782) [.ref al]) Q E s := by
  have C := Cx.call (dp := dp) (un := un) (gd := gd) X T B F hA hf hk
  have N7 := N _ (List.mem_append_right _ (.head _))
  rw [hA]
  refine join_first C.X C.T C.B hroom hg (based_at C.X N7.1 trivial) hal hvs hq hlen fun s' t' c' b st hb ho => ?_
  have up : ∀ b o, b ≠ 777 → s.heap.get? b = some o → s'.heap.get? b = some o := fun b o hne e => st b o ((regrown_ne hne).trans e)
  refine k s' t' c' ⟨?_, fun b o e => up b o (fun q => ?_) (F.keep b o e), F.above⟩ (fun q hq => ?_) hb ho
  · obtain ⟨oL, a1, a2, hoL, a3⟩ := F.ns
    exact ⟨oL, a1, a2, up _ _ (Ne.symm N7.2.1) hoL, a3⟩
  · subst q
    have := N7.2.2
    rw [show h₀.get? 777 = _ from e] at this; cases this
  · rcases List.mem_append.mp hq with hq | hq
    · exact ⟨up _ _ (hn q hq) (N q (List.mem_append_left _ hq)).1, (N q (List.mem_append_left _ hq)).2⟩
    · rw [List.mem_singleton.mp hq]
      exact ⟨st _ _ b.tab.2, N7.2⟩
theorem joinB_K (X : (hd.heap_39 w.params).In h₀) (T : Top P0 loose mean mg mb h₀) (B : Below A₀ base outer h₀) (F : Fr h₀ L s.heap m) {c' : Addr} (N : News h₀ L s.heap (pre ++ [(777, tabObj (psJ c'))])) (hA : A₀.deeper env = Ar dp un gd (env :: outer)) (hf : env.frame = some L) (hk : env.scope.kind = .function) (hroom : dp + 60 < recursionLimit) (hg : AllBare s.gens)
    {al : Addr} {vs : List Value} {ws : List Str} (hal : s.heap.IsList al vs.toArray) (hvs : StrsAre vs ws) {q : Str → Bool} (hq : ∀ x ∈ ws, (0 < x.length ∧ x.length ≤ 30) ∧ foundU x = some (q x) ∧ (q x = true → Txt.replace x (Str.ofString "'") (Str.ofString "'\"'\"'") = x)) (hlen : ws.length ≤ 18)
    (k : ∀ s' t', Fr h₀ L s'.heap m → News h₀ L s'.heap (pre ++ [(777, tabObj (psJ c'))]) → AllBare s'.gens → s'.os = s.os → Q (.str (Txt.join (Str.ofString " ") (ws.map fun x => quoteT x (q x))) t') s') :
    wpAny (model PG w) (A₀.deeper env) (call (.ref 782) [.ref al]) Q E s := by
  have C := Cx.call (dp := dp) (un := un) (gd := gd) X T B F hA hf hk
  have N7 := N _ (List.mem_append_right _ (.head _))
  rw [hA]
  exact join_again C.X C.T C.B hroom hg (based_at C.X N7.1 trivial) hal hvs hq hlen fun s' t' st hb ho => k s' t' (fr_stays F st) (news_stays N st) hb ho
end
end Mine
end
section

namespace Mine
theorem cur10 {A0 A1 A2 A3 A4 A5 A6 A7 A8 A9 : Type} {G : A0 → A1 → A2 → A3 → A4 → A5 → A6 → A7 → A8 → A9 → Prop} (h : ∀ d : (((((((((A0 × A1) × A2) × A3) × A4) × A5) × A6) × A7) × A8) × A9), G d.1.1.1.1.1.1.1.1.1 d.1.1.1.1.1.1.1.1.2 d.1.1.1.1.1.1.1.2 d.1.1.1.1.1.1.2 d.1.1.1.1.1.2 d.1.1.1.1.2 d.1.1.1.2 d.1.1.2 d.1.2 d.2) : ∀ a0 a1 a2 a3 a4 a5 a6 a7 a8 a9, G a0 a1 a2 a3 a4 a5 a6 a7 a8 a9 := fun a0 a1 a2 a3 a4 a5 a6 a7 a8 a9 => h (((((((((a0, a1), a2), a3), a4), a5), a6), a7), a8), a9)
theorem cur14 {A0 A1 A2 A3 A4 A5 A6 A7 A8 A9 A10 A11 A12 A13 : Type} {G : A0 → A1 → A2 → A3 → A4 → A5 → A6 → A7 → A8 → A9 → A10 → A11 → A12 → A13 → Prop} (h : ∀ d : (((((((((((((A0 × A1) × A2) × A3) × A4) × A5) × A6) × A7) × A8) × A9) × A10) × A11) × A12) × A13), G d.1.1.1.1.1.1.1.1.1.1.1.1.1 d.1.1.1.1.1.1.1.1.1.1.1.1.2 d.1.1.1.1.1.1.1.1.1.1.1.2 d.1.1.1.1.1.1.1.1.1.1.2 d.1.1.1.1.1.1.1.1.1.2 d.1.1.1.1.1.1.1.1.2 d.1.1.1.1.1.1.1.2 d.1.1.1.1.1.1.2 d.1.1.1.1.1.2 d.1.1.1.1.2 d.1.1.1.2 d.1.1.2 d.1.2 d.2) : ∀ a0 a1 a2 a3 a4 a5 a6 a7 a8 a9 a10 a11 a12 a13, G a0 a1 a2 a3 a4 a5 a6 a7 a8 a9 a10 a11 a12 a13 := fun a0 a1 a2 a3 a4 a5 a6 a7 a8 a9 a10 a11 a12 a13 => h (((((((((((((a0, a1), a2), a3), a4), a5), a6), a7), a8), a9), a10), a11), a12), a13)
theorem cur23 {A0 A1 A2 A3 A4 A5 A6 A7 A8 A9 A10 A11 A12 A13 A14 A15 A16 A17 A18 A19 A20 A21 A22 : Type} {G : A0 → A1 → A2 → A3 → A4 → A5 → A6 → A7 → A8 → A9 → A10 → A11 → A12 → A13 → A14 → A15 → A16 → A17 → A18 → A19 → A20 → A21 → A22 → Prop} (h : ∀ d : ((((((((((((((((((((((A0 × A1) × A2) × A3) × A4) × A5) × A6) × A7) × A8) × A9) × A10) × A11) × A12) × A13) × A14) × A15) × A16) × A17) × A18) × A19) × A20) × A21) × A22), G d.1.1.1.1.1.1.1.1.1.1.1.1.1.1.1.1.1.1.1.1.1.1 d.1.1.1.1.1.1.1.1.1.1.1.1.1.1.1.1.1.1.1.1.1.2 d.1.1.1.1.1.1.1.1.1.1.1.1.1.1.1.1.1.1.1.1.2 d.1.1.1.1.1.1.1.1.1.1.1.1.1.1.1.1.1.1.1.2 d.1.1.1.1.1.1.1.1.1.1.1.1.1.1.1.1.1.1.2 d.1.1.1.1.1.1.1.1.1.1.1.1.1.1.1.1.1.2 d.1.1.1.1.1.1.1.1.1.1.1.1.1.1.1.1.2 d.1.1.1.1.1.1.1.1.1.1.1.1.1.1.1.2 d.1.1.1.1.1.1.1.1.1.1.1.1.1.1.2 d.1.1.1.1.1.1.1.1.1.1.1.1.1.2 d.1.1.1.1.1.1.1.1.1.1.1.1.2 d.1.1.1.1.1.1.1.1.1.1.1.2 d.1.1.1.1.1.1.1.1.1.1.2 d.1.1.1.1.1.1.1.1.1.2 d.1.1.1.1.1.1.1.1.2 d.1.1.1.1.1.1.1.2 d.1.1.1.1.1.1.2 d.1.1.1.1.1.2 d.1.1.1.1.2 d.1.1.1.2 d.1.1.2 d.1.2 d.2) : ∀ a0 a1 a2 a3 a4 a5 a6 a7 a8 a9 a10 a11 a12 a13 a14 a15 a16 a17 a18 a19 a20 a21 a22, G a0 a1 a2 a3 a4 a5 a6 a7 a8 a9 a10 a11 a12 a13 a14 a15 a16 a17 a18 a19 a20 a21 a22 := fun a0 a1 a2 a3 a4 a5 a6 a7 a8 a9 a10 a11 a12 a13 a14 a15 a16 a17 a18 a19 a20 a21 a22 => h ((((((((((((((((((((((a0, a1), a2), a3), a4), a5), a6), a7), a8), a9), a10), a11), a12), a13), a14), a15), a16), a17), a18), a19), a20), a21), a22)
theorem cur15 {A0 A1 A2 A3 A4 A5 A6 A7 A8 A9 A10 A11 A12 A13 A14 : Type} {G : A0 → A1 → A2 → A3 → A4 → A5 → A6 → A7 → A8 → A9 → A10 → A11 → A12 → A13 → A14 → Prop} (h : ∀ d : ((((((((((((((A0 × A1) × A2) × A3) × A4) × A5) × A6) × A7) × A8) × A9) × A10) × A11) × A12) × A13) × A14), G d.1.1.1.1.1.1.1.1.1.1.1.1.1.1 d.1.1.1.1.1.1.1.1.1.1.1.1.1.2 d.1.1.1.1.1.1.1.1.1.1.1.1.2 d.1.1.1.1.1.1.1.1.1.1.1.2 d.1.1.1.1.1.1.1.1.1.1.2 d.1.1.1.1.1.1.1.1.1.2 d.1.1.1.1.1.1.1.1.2 d.1.1.1.1.1.1.1.2 d.1.1.1.1.1.1.2 d.1.1.1.1.1.2 d.1.1.1.1.2 d.1.1.1.2 d.1.1.2 d.1.2 d.2) : ∀ a0 a1 a2 a3 a4 a5 a6 a7 a8 a9 a10 a11 a12 a13 a14, G a0 a1 a2 a3 a4 a5 a6 a7 a8 a9 a10 a11 a12 a13 a14 := fun a0 a1 a2 a3 a4 a5 a6 a7 a8 a9 a10 a11 a12 a13 a14 => h ((((((((((((((a0, a1), a2), a3), a4), a5), a6), a7), a8), a9), a10), a11), a12), a13), a14)
theorem cur16 {A0 A1 A2 A3 A4 A5 A6 A7 A8 A9 A10 A11 A12 A13 A14 A15 : Type} {G : A0 → A1 → A2 → A3 → A4 → A5 → A6 → A7 → A8 → A9 → A10 → A11 → A12 → A13 → A14 → A15 → Prop} (h : ∀ d : (((((((((((((((A0 × A1) × A2) × A3) × A4) × A5) × A6) × A7) × A8) × A9) × A10) × A11) × A12) × A13) × A14) × A15), G d.1.1.1.1.1.1.1.1.1.1.1.1.1.1.1 d.1.1.1.1.1.1.1.1.1.1.1.1.1.1.2 d.1.1.1.1.1.1.1.1.1.1.1.1.1.2 d.1.1.1.1.1.1.1.1.1.1.1.1.2 d.1.1.1.1.1.1.1.1.1.1.1.2 d.1.1.1.1.1.1.1.1.1.1.2 d.1.1.1.1.1.1.1.1.1.2 d.1.1.1.1.1.1.1.1.2 d.1.1.1.1.1.1.1.2 d.1.1.1.1.1.1.2 d.1.1.1.1.1.2 d.1.1.1.1.2 d.1.1.1.2 d.1.1.2 d.1.2 d.2) : ∀ a0 a1 a2 a3 a4 a5 a6 a7 a8 a9 a10 a11 a12 a13 a14 a15, G a0 a1 a2 a3 a4 a5 a6 a7 a8 a9 a10 a11 a12 a13 a14 a15 := fun a0 a1 a2 a3 a4 a5 a6 a7 a8 a9 a10 a11 a12 a13 a14 a15 => h (((((((((((((((a0, a1), a2), a3), a4), a5), a6), a7), a8), a9), a10), a11), a12), a13), a14), a15)
theorem cur9 {A0 A1 A2 A3 A4 A5 A6 A7 A8 : Type} {G : A0 → A1 → A2 → A3 → A4 → A5 → A6 → A7 → A8 → Prop} (h : ∀ d : ((((((((A0 × A1) × A2) × A3) × A4) × A5) × A6) × A7) × A8), G d.1.1.1.1.1.1.1.1 d.1.1.1.1.1.1.1.2 d.1.1.1.1.1.1.2 d.1.1.1.1.1.2 d.1.1.1.1.2 d.1.1.1.2 d.1.1.2 d.1.2 d.2) : ∀ a0 a1 a2 a3 a4 a5 a6 a7 a8, G a0 a1 a2 a3 a4 a5 a6 a7 a8 := fun a0 a1 a2 a3 a4 a5 a6 a7 a8 => h ((((((((a0, a1), a2), a3), a4), a5), a6), a7), a8)
theorem cur11 {A0 A1 A2 A3 A4 A5 A6 A7 A8 A9 A10 : Type} {G : A0 → A1 → A2 → A3 → A4 → A5 → A6 → A7 → A8 → A9 → A10 → Prop} (h : ∀ d : ((((((((((A0 × A1) × A2) × A3) × A4) × A5) × A6) × A7) × A8) × A9) × A10), G d.1.1.1.1.1.1.1.1.1.1 d.1.1.1.1.1.1.1.1.1.2 d.1.1.1.1.1.1.1.1.2 d.1.1.1.1.1.1.1.2 d.1.1.1.1.1.1.2 d.1.1.1.1.1.2 d.1.1.1.1.2 d.1.1.1.2 d.1.1.2 d.1.2 d.2) : ∀ a0 a1 a2 a3 a4 a5 a6 a7 a8 a9 a10, G a0 a1 a2 a3 a4 a5 a6 a7 a8 a9 a10 := fun a0 a1 a2 a3 a4 a5 a6 a7 a8 a9 a10 => h ((((((((((a0, a1), a2), a3), a4), a5), a6), a7), a8), a9), a10)
theorem cur12 {A0 A1 A2 A3 A4 A5 A6 A7 A8 A9 A10 A11 : Type} {G : A0 → A1 → A2 → A3 → A4 → A5 → A6 → A7 → A8 → A9 → A10 → A11 → Prop} (h : ∀ d : (((((((((((A0 × A1) × A2) × A3) × A4) × A5) × A6) × A7) × A8) × A9) × A10) × A11), G d.1.1.1.1.1.1.1.1.1.1.1 d.1.1.1.1.1.1.1.1.1.1.2 d.1.1.1.1.1.1.1.1.1.2 d.1.1.1.1.1.1.1.1.2 d.1.1.1.1.1.1.1.2 d.1.1.1.1.1.1.2 d.1.1.1.1.1.2 d.1.1.1.1.2 d.1.1.1.2 d.1.1.2 d.1.2 d.2) : ∀ a0 a1 a2 a3 a4 a5 a6 a7 a8 a9 a10 a11, G a0 a1 a2 a3 a4 a5 a6 a7 a8 a9 a10 a11 := fun a0 a1 a2 a3 a4 a5 a6 a7 a8 a9 a10 a11 => h (((((((((((a0, a1), a2), a3), a4), a5), a6), a7), a8), a9), a10), a11)
theorem cur13 {A0 A1 A2 A3 A4 A5 A6 A7 A8 A9 A10 A11 A12 : Type} {G : A0 → A1 → A2 → A3 → A4 → A5 → A6 → A7 → A8 → A9 → A10 → A11 → A12 → Prop} (h : ∀ d : ((((((((((((A0 × A1) × A2) × A3) × A4) × A5) × A6) × A7) × A8) × A9) × A10) × A11) × A12), G d.1.1.1.1.1.1.1.1.1.1.1.1 d.1.1.1.1.1.1.1.1.1.1.1.2 d.1.1.1.1.1.1.1.1.1.1.2 d.1.1.1.1.1.1.1.1.1.2 d.1.1.1.1.1.1.1.1.2 d.1.1.1.1.1.1.1.2 d.1.1.1.1.1.1.2 d.1.1.1.1.1.2 d.1.1.1.1.2 d.1.1.1.2 d.1.1.2 d.1.2 d.2) : ∀ a0 a1 a2 a3 a4 a5 a6 a7 a8 a9 a10 a11 a12, G a0 a1 a2 a3 a4 a5 a6 a7 a8 a9 a10 a11 a12 := fun a0 a1 a2 a3 a4 a5 a6 a7 a8 a9 a10 a11 a12 => h ((((((((((((a0, a1), a2), a3), a4), a5), a6), a7), a8), a9), a10), a11), a12)
structure Sp {D : Type} (R : D → Prop) : Prop where h : ∀ d, R d
noncomputable def domP {D : Type} {R : D → Prop} {S : Prop} (_ : Sp R → S) : D → Prop := R
noncomputable def pk {D : Type} [Inhabited D] {R : D → Prop} {S : Prop} (_ : Sp R → S) : D := cex default R
theorem pk_all {D : Type} [Inhabited D] {R : D → Prop} {S : Prop} (f : Sp R → S) (h : domP f (pk f)) : S := f ⟨all_of default R h⟩
end Mine
end
section

namespace Mine
noncomputable abbrev wordChars : Str := Str.ofString "abcdfeghijklmnopqrstuvwxyzABCDEFGHIJKLMNOPQRSTUVWXYZ0123456789_" ++ Str.ofString "ßàáâãäåæçèéêëìíîïðñòóôõöøùúûüýþÿÀÁÂÃÄÅÆÇÈÉÊËÌÍÎÏÐÑÒÓÔÕÖØÙÚÛÜÝÞ"
noncomputable def lexList (P : Params) (o d1 d2 : Addr) (st tk : Value) (ks : Nat → Tok) : List DictEntry := [
  ⟨PyData.keyHash P (Str.ofString "instream"), .str (Str.ofString "instream") (ks 0), .ref o⟩,
  ⟨PyData.keyHash P (Str.ofString "infile"), .str (Str.ofString "infile") (ks 1), .none⟩,
  ⟨PyData.keyHash P (Str.ofString "posix"), .str (Str.ofString "posix") (ks 2), .bool true⟩,
  ⟨PyData.keyHash P (Str.ofString "eof"), .str (Str.ofString "eof") (ks 3), .none⟩,
  ⟨PyData.keyHash P (Str.ofString "commenters"), .str (Str.ofString "commenters") (ks 4), .str (Str.ofString "") (ks 20)⟩,
  ⟨PyData.keyHash P (Str.ofString "wordchars"), .str (Str.ofString "wordchars") (ks 5), .str wordChars (ks 21)⟩,
  ⟨PyData.keyHash P (Str.ofString "whitespace"), .str (Str.ofString "whitespace") (ks 6), .str (Str.ofString " \t\r\n") (ks 22)⟩,
  ⟨PyData.keyHash P (Str.ofString "whitespace_split"), .str (Str.ofString "whitespace_split") (ks 7), .bool true⟩,
  ⟨PyData.keyHash P (Str.ofString "quotes"), .str (Str.ofString "quotes") (ks 8), .str (Str.ofString "'\"") (ks 23)⟩,
  ⟨PyData.keyHash P (Str.ofString "escape"), .str (Str.ofString "escape") (ks 9), .str (Str.ofString "\\") (ks 24)⟩,
  ⟨PyData.keyHash P (Str.ofString "escapedquotes"), .str (Str.ofString "escapedquotes") (ks 10), .str (Str.ofString "\"") (ks 25)⟩,
  ⟨PyData.keyHash P (Str.ofString "state"), .str (Str.ofString "state") (ks 11), st⟩,
  ⟨PyData.keyHash P (Str.ofString "pushback"), .str (Str.ofString "pushback") (ks 12), .ref d1⟩,
  ⟨PyData.keyHash P (Str.ofString "lineno"), .str (Str.ofString "lineno") (ks 13), .int 1 (ks 26)⟩,
  ⟨PyData.keyHash P (Str.ofString "debug"), .str (Str.ofString "debug") (ks 14), .int 0 (ks 27)⟩,
  ⟨PyData.keyHash P (Str.ofString "token"), .str (Str.ofString "token") (ks 15), tk⟩,
  ⟨PyData.keyHash P (Str.ofString "filestack"), .str (Str.ofString "filestack") (ks 16), .ref d2⟩,
  ⟨PyData.keyHash P (Str.ofString "source"), .str (Str.ofString "source") (ks 17), .none⟩,
  ⟨PyData.keyHash P (Str.ofString "_punctuation_chars"), .str (Str.ofString "_punctuation_chars") (ks 18), .str (Str.ofString "") (ks 29)⟩]
noncomputable def LexD (P : Params) (o d1 d2 : Addr) (st : Value) (tkn : Str) (lo : Obj) : Prop := ∃ (ks : Nat → Tok) (t : Tok), lo = dictOf (lexList P o d1 d2 st (.str tkn t) ks) 19
section
variable {P : Params} {o d1 d2 : Addr} {st tk : Value} {ks : Nat → Tok} {x : Str} {pos : Value}
theorem lexD_of {tkn : Str} {k0 k1 k2 k3 k4 k5 k6 k7 k8 k9 k10 k11 k12 k13 k14 k15 k16 k17 k18 v0 v1 v2 v3 v4 v5 v6 v7 v8 v9 : Tok} : LexD P o d1 d2 st tkn (dictOf [
  ⟨PyData.keyHash P (Str.ofString "instream"), .str (Str.ofString "instream") k0, .ref o⟩,
  ⟨PyData.keyHash P (Str.ofString "infile"), .str (Str.ofString "infile") k1, .none⟩,
  ⟨PyData.keyHash P (Str.ofString "posix"), .str (Str.ofString "posix") k2, .bool true⟩,
  ⟨PyData.keyHash P (Str.ofString "eof"), .str (Str.ofString "eof") k3, .none⟩,
  ⟨PyData.keyHash P (Str.ofString "commenters"), .str (Str.ofString "commenters") k4, .str (Str.ofString "") v0⟩,
  ⟨PyData.keyHash P (Str.ofString "wordchars"), .str (Str.ofString "wordchars") k5, .str wordChars v1⟩,
  ⟨PyData.keyHash P (Str.ofString "whitespace"), .str (Str.ofString "whitespace") k6, .str (Str.ofString " \t\r\n") v2⟩,
  ⟨PyData.keyHash P (Str.ofString "whitespace_split"), .str (Str.ofString "whitespace_split") k7, .bool true⟩,
  ⟨PyData.keyHash P (Str.ofString "quotes"), .str (Str.ofString "quotes") k8, .str (Str.ofString "'\"") v3⟩,
  ⟨PyData.keyHash P (Str.ofString "escape"), .str (Str.ofString "escape") k9, .str (Str.ofString "\\") v4⟩,
  ⟨PyData.keyHash P (Str.ofString "escapedquotes"), .str (Str.ofString "escapedquotes") k10, .str (Str.ofString "\"") v5⟩,
  ⟨PyData.keyHash P (Str.ofString "state"), .str (Str.ofString "state") k11, st⟩,
  ⟨PyData.keyHash P (Str.ofString "pushback"), .str (Str.ofString "pushback") k12, .ref d1⟩,
  ⟨PyData.keyHash P (Str.ofString "lineno"), .str (Str.ofString "lineno") k13, .int 1 v6⟩,
  ⟨PyData.keyHash P (Str.ofString "debug"), .str (Str.ofString "debug") k14, .int 0 v7⟩,
  ⟨PyData.keyHash P (Str.ofString "token"), .str (Str.ofString "token") k15, .str tkn v8⟩,
  ⟨PyData.keyHash P (Str.ofString "filestack"), .str (Str.ofString "filestack") k16, .ref d2⟩,
  ⟨PyData.keyHash P (Str.ofString "source"), .str (Str.ofString "source") k17, .none⟩,
  ⟨PyData.keyHash P (Str.ofString "_punctuation_chars"), .str (Str.ofString "_punctuation_chars") k18, .str (Str.ofString "") v9⟩] 19) := ⟨fun i => match i with | 0 => k0 | 1 => k1 | 2 => k2 | 3 => k3 | 4 => k4 | 5 => k5 | 6 => k6 | 7 => k7 | 8 => k8 | 9 => k9 | 10 => k10 | 11 => k11 | 12 => k12 | 13 => k13 | 14 => k14 | 15 => k15 | 16 => k16 | 17 => k17 | 18 => k18 | 20 => v0 | 21 => v1 | 22 => v2 | 23 => v3 | 24 => v4 | 25 => v5 | 26 => v6 | 27 => v7 | _ => v9, v8, rfl⟩
theorem lp_state {h : Int} {k v : Value} : (putL (Str.ofString "state") h k v (lexList P o d1 d2 st tk ks), putN (Str.ofString "state") (lexList P o d1 d2 st tk ks) 19) = (lexList P o d1 d2 v tk ks, 19) := by kernel_rfl
theorem lp_token {h : Int} {k v : Value} : (putL (Str.ofString "token") h k v (lexList P o d1 d2 st tk ks), putN (Str.ofString "token") (lexList P o d1 d2 st tk ks) 19) = (lexList P o d1 d2 st v ks, 19) := by kernel_rfl
end
end Mine
end
local macro_rules | `(tactic| k_put) => `(tactic| with_reducible first | apply Mine.lp_state | apply Mine.lp_token)
section

namespace Mine
theorem fillK5 : PySem.Challenge.rw_in0080_01 = PySem.Challenge.rw_in0080_01 ∧ hd.heap_39 = hd.heap_39 := by k_fill; exact ⟨rfl, rfl⟩
theorem hid2 {h g : Heap} {a b : Addr} {oa ob : Obj} (ea : h.get? a = some oa) (na : g.get? a = none) (eb : h.get? b = some ob) (nb : g.get? b = none) : ∀ p ∈ [(a, oa), (b, ob)], h.get? p.1 = some p.2 ∧ g.get? p.1 = none := by
  intro p hp
  rcases List.mem_cons.mp hp with rfl | hp
  · exact ⟨ea, na⟩
  · rcases List.mem_cons.mp hp with rfl | hp
    · exact ⟨eb, nb⟩
    · cases hp
theorem sio_read_ch {w : World} {dp un : Nat} {gd : Option (List Code)} {s : Shared} {p : Program} {loose : List Str} {mean : ExcName → Option Value} {mg mb : Str → Option Value} {base g : Heap} {outer : List Env} {Q E : Value → Shared → Prop}
    (C : Cx w p loose mean mg mb base dp un gd outer g s) (hroom : dp + 6 < recursionLimit)
    {o d : Addr} {od : Obj} {x : Str} {q : Nat} {t1 : Tok} (eO : s.heap.get? o = some (instObj 628 d)) (eD : s.heap.get? d = some od) (nO : g.get? o = none) (nD : g.get? d = none) (S : SioD w.params x (q : Int) od) (hlt : d < o) (hq : q < x.length) (hx : x.length < 1000)
    (k : ∀ h' tk od' t, g.StaysIn h' → h'.get? o = some (instObj 628 d) → h'.get? d = some od' → SioD w.params x ((q + 1 : Nat) : Int) od' → Q (.str ⟨#[x.cps.getD q 0]⟩ t) { s with heap := h', toks := tk }) :
    wpAny (model PG w) (Ar dp un gd outer) (call (.ref 574) [.ref o, .int 1 t1]) Q E s := by
  obtain ⟨X, T, B, G, Gz⟩ := C
  obtain ⟨ks, k5, rfl⟩ := S
  unfold sioList at eD
  replace hlt := ltN hlt
  refine wpAny_call ?_
  k_dflt (refine' enter X T G Gz (hid2 eO nO eD nD) ?k6 ?k7 ?k8 ?k9 ?kB ?_ ?c2 ?c3 ?c4 ?c5; (case k6 => k_is); (case k7 => k_is); (case k8 => (show dp < _; omega)); (case k9 => first | exact BindsTo.of_eq rfl | exact binds_K (X.keeps G) rfl (by k_is) rfl rfl rfl);(case c5 => decide); (case kB => exact locs rfl); (case c2 => exact rfl); (case c3 => exact rfl); (case c4 => exact rfl))
  intro L' h₁ _ F N l1 G1
  (try k_lt l1)
  (try dsimp only); (try k_fold)
  repeat' ((first | (k_unfold; (try dsimp only)) | (k_end; wrow_close) | walk1 | (dsimp only; walk1) | (leave1; walk_say "STEP leave1"; try dsimp only) | fail "no step") <;> (try dsimp only))
  all_goals (
    (try dsimp only); (try k_unfold); (try dsimp only)
    have F9 := ‹Fr g _ _ _›
    have N9 := ‹News g _ _ _›)
  · rw [slice_one hq]
    exact k _ _ _ _ F9.keep (N9 _ (.head _)).1 (N9 _ (.tail _ (.head _))).1 sioD_of
  · have e : ((x.length : Nat) : Int) = (q : Int) + 1 := by omega
    rw [e, slice_one hq]
    refine k _ _ _ _ F9.keep (N9 _ (.head _)).1 (N9 _ (.tail _ (.head _))).1 ?_
    rw [e]
    exact sioD_of
theorem sio_read_eof {w : World} {dp un : Nat} {gd : Option (List Code)} {s : Shared} {p : Program} {loose : List Str} {mean : ExcName → Option Value} {mg mb : Str → Option Value} {base g : Heap} {outer : List Env} {Q E : Value → Shared → Prop}
    (C : Cx w p loose mean mg mb base dp un gd outer g s) (hroom : dp + 6 < recursionLimit)
    {o d : Addr} {od : Obj} {x : Str} {q : Nat} {t1 : Tok} (eO : s.heap.get? o = some (instObj 628 d)) (eD : s.heap.get? d = some od) (nO : g.get? o = none) (nD : g.get? d = none) (S : SioD w.params x (q : Int) od) (hlt : d < o) (hq : x.length ≤ q) (hx : x.length < 1000)
    (k : ∀ h' tk od' t, g.StaysIn h' → h'.get? o = some (instObj 628 d) → h'.get? d = some od' → SioD w.params x (q : Int) od' → Q (.str (Str.ofString "") t) { s with heap := h', toks := tk }) :
    wpAny (model PG w) (Ar dp un gd outer) (call (.ref 574) [.ref o, .int 1 t1]) Q E s := by
  obtain ⟨X, T, B, G, Gz⟩ := C
  obtain ⟨ks, k5, rfl⟩ := S
  unfold sioList at eD
  replace hlt := ltN hlt
  refine wpAny_call ?_
  k_dflt (refine' enter X T G Gz (hid2 eO nO eD nD) ?k6 ?k7 ?k8 ?k9 ?kB ?_ ?c2 ?c3 ?c4 ?c5; (case k6 => k_is); (case k7 => k_is); (case k8 => (show dp < _; omega)); (case k9 => first | exact BindsTo.of_eq rfl | exact binds_K (X.keeps G) rfl (by k_is) rfl rfl rfl);(case c5 => decide); (case kB => exact locs rfl); (case c2 => exact rfl); (case c3 => exact rfl); (case c4 => exact rfl))
  intro L' h₁ _ F N l1 G1
  (try k_lt l1)
  (try dsimp only); (try k_fold)
  repeat' ((first | (k_unfold; (try dsimp only)) | (k_end; wrow_close) | walk1 | (dsimp only; walk1) | (leave1; walk_say "STEP leave1"; try dsimp only) | fail "no step") <;> (try dsimp only))
  all_goals (
    (try dsimp only); (try k_unfold); (try dsimp only)
    have F9 := ‹Fr g _ _ _›
    have N9 := ‹News g _ _ _›)
  · exact k _ _ _ _ F9.keep (N9 _ (.head _)).1 (N9 _ (.tail _ (.head _))).1 sioD_of
end Mine
end
section

namespace Mine
theorem fillK6 : PySem.Challenge.rw_in0080_01 = PySem.Challenge.rw_in0080_01 ∧ hd.heap_39 = hd.heap_39 := by k_fill; exact ⟨rfl, rfl⟩
theorem hid4 {h g : Heap} {a b c d : Addr} {oa ob oc od : Obj} (ea : h.get? a = some oa) (na : g.get? a = none) (eb : h.get? b = some ob) (nb : g.get? b = none) (ec : h.get? c = some oc) (nc : g.get? c = none) (ed : h.get? d = some od) (nd : g.get? d = none) : ∀ p ∈ [(a, oa), (b, ob), (c, oc), (d, od)], h.get? p.1 = some p.2 ∧ g.get? p.1 = none := by
  intro p hp
  rcases List.mem_cons.mp hp with rfl | hp
  · exact ⟨ea, na⟩
  · exact List.forall_mem_cons.mpr ⟨⟨eb, nb⟩, hid2 ec nc ed nd⟩ p hp
theorem turn0 {w : World} {A : Around} {E : Value → Shared → Prop} {env : Env} {test : PySem.Expr} {body orelse : List Stmt} {Q : Flow → Shared → Prop} {s : Shared} (hE : PassesOwn (model PG w) A env E)
    (h : wpAny (model PG w) A (isTrue test env (eval test env)) (fun b s₂ => WhlIf b (wpAny (model PG w) A (execs body env) (WhlPost PG w A E env test body orelse Q 0) E s₂) (wpAny (model PG w) A (execs orelse env) Q E s₂)) E s) :
    WhlRest PG w A E env test body orelse Q 0 s := whl_turn (k := 0) hE h
theorem news_tail {h₀ h : Heap} {L : Addr} {a : Addr × Obj} {l : List (Addr × Obj)} (N : News h₀ L h (a :: l)) : News h₀ L h l := fun p hp => N p (.tail _ hp)
theorem len_true {x : Str} (h : 0 < x.length) : ((x.length : Int) != 0) = true := bne_iff_ne.mpr (by omega)
theorem ne_empty {x : Str} (h : 0 < x.length) : (x == Str.ofString "") = false := str_beq_false fun e => by
  rw [e, show (Str.ofString "").length = 0 by decide +kernel] at h; exact absurd h (Nat.lt_irrefl _)
noncomputable abbrev LL (x dx o d : Addr) (lo so : Obj) : List (Addr × Obj) := [(x, instObj 763 dx), (dx, lo), (o, instObj 628 d), (d, so)]
noncomputable abbrev stV (st : Option Str) (ts : Tok) : Value := match st with | none => .none | some z => .str z ts
structure LexAt (P : Params) (g : Heap) (L x dx o d d1 d2 : Addr) (txt : Str) (st : Option Str) (tkn : Str) (q : Nat) (b : Bool) (m : Str → Option Value) (h : Heap) : Prop where
  all : ∃ lo so ts, Fr g L h m ∧ News g L h (LL x dx o d lo so) ∧ LexD P o d1 d2 (stV st ts) tkn lo ∧ SioD P txt (q : Int) so
  self : m (Str.ofString "self") = some (.ref x)
  quoted : m (Str.ofString "quoted") = some (.bool b)
section
variable (w : World) (A : Around) (E : Value → Shared → Prop) (env : Env) (test : PySem.Expr) (body : List Stmt) (Q : Flow → Shared → Prop) (s : Shared) (g : Heap) (L x dx o d d1 d2 : Addr) (txt : Str)
noncomputable def Nxt (st : Option Str) (tkn : Str) (q : Nat) (b : Bool) : Prop := ∀ h tk m, LexAt w.params g L x dx o d d1 d2 txt st tkn q b m h → WhlRest PG w A E env test body [] Q 0 { s with heap := h, toks := tk }
noncomputable def Ext (st : Option Str) (tkn : Str) (q : Nat) (b : Bool) : Prop := ∀ h tk m, LexAt w.params g L x dx o d d1 d2 txt st tkn q b m h → Q .next { s with heap := h, toks := tk }
end
section
variable {w : World} {A : Around} {E : Value → Shared → Prop} {env : Env} {test : PySem.Expr} {body : List Stmt} {Q : Flow → Shared → Prop} {s : Shared} {g : Heap} {L x dx o d d1 d2 : Addr} {txt : Str} {st : Option Str} {tkn : Str} {q : Nat} {b : Bool} {m : Str → Option Value} {h : Heap} {tk : Nat}
theorem Nxt.go (H : Nxt w A E env test body Q s g L x dx o d d1 d2 txt st tkn q b) (a : LexAt w.params g L x dx o d d1 d2 txt st tkn q b m h) : WhlRest PG w A E env test body [] Q 0 { s with heap := h, toks := tk } := H h tk m a
theorem Ext.go (H : Ext w Q s g L x dx o d d1 d2 txt st tkn q b) (a : LexAt w.params g L x dx o d d1 d2 txt st tkn q b m h) : Q .next { s with heap := h, toks := tk } := H h tk m a
theorem canon_map {m : Str → Option Value} {x : Addr} {b : Bool} (h1 : m (Str.ofString "self") = some (.ref x)) (h2 : m (Str.ofString "quoted") = some (.bool b)) : m = fun y => if y = Str.ofString "self" then some (.ref x) else if y = Str.ofString "quoted" then some (.bool b) else m y := by
  funext y
  by_cases e1 : y = Str.ofString "self"
  · rw [if_pos e1, e1, h1]
  · rw [if_neg e1]
    by_cases e2 : y = Str.ofString "quoted"
    · rw [if_pos e2, e2, h2]
    · rw [if_neg e2]
end
section
variable {w : World} {p : Program} {loose : List Str} {mean : ExcName → Option Value} {mg mb : Str → Option Value} {base h₀ : Heap} {dp un : Nat} {gd : Option (List Code)} {outer : List Env} {s : Shared} {env : Env} {L : Addr} {m : Str → Option Value} {A₀ : Around} {Q E : Value → Shared → Prop} {x dx o d : Addr} {lo so : Obj} {txt : Str} {q : Nat} {t1 : Tok}
theorem read_hide (X : (hd.heap_39 w.params).In h₀) (T : Top p loose mean mg mb h₀) (B : Below A₀ base outer h₀) (F : Fr h₀ L s.heap m) (N : News h₀ L s.heap (LL x dx o d lo so)) (hA : A₀.deeper env = Ar dp un gd (env :: outer)) (hf : env.frame = some L) (hk : env.scope.kind = .function)
    (l1 : dx < x) (l2 : d < o) (l3 : x < d) : ∃ g, Cx w p loose mean mg mb base dp un gd (env :: outer) g s ∧ Fr h₀ L g m ∧ g.get? o = none ∧ g.get? d = none ∧
      ∀ h' so', g.StaysIn h' → h'.get? o = some (instObj 628 d) → h'.get? d = some so' → Fr h₀ L h' m ∧ News h₀ L h' (LL x dx o d lo so') := by
  have Nh : News h₀ L s.heap [(o, instObj 628 d), (d, so)] := fun p hp => N p (.tail _ (.tail _ hp))
  obtain ⟨C, FG⟩ := Cx.hide (hid := [(o, instObj 628 d), (d, so)]) X T B F Nh hA (by rw [hA]) hf hk
  refine ⟨_, C, FG, hide_none (.head _), hide_none (.tail _ (.head _)), fun h' so' st e1 e2 => ⟨fr_stays FG st, ?_⟩⟩
  have Nx : News h₀ L s.heap [(x, instObj 763 dx), (dx, lo)] := fun p hp => by
    rcases List.mem_cons.mp hp with rfl | hp
    · exact N _ (.head _)
    · rcases List.mem_cons.mp hp with rfl | hp
      · exact N _ (.tail _ (.head _))
      · cases hp
  have Ny := news_unhid (hid := [(o, instObj 628 d), (d, so)]) Nx (fun q hq => by
    have l1' : @LT.lt Nat _ dx x := l1
    have l2' : @LT.lt Nat _ d o := l2
    have l3' : @LT.lt Nat _ x d := l3
    rcases List.mem_cons.mp hq with rfl | hq
    · intro z
      rcases List.mem_cons.mp z with z | z
      · have z' : @Eq Nat _ _ := z; dsimp only at z'; omega
      · rcases List.mem_cons.mp z with z | z
        · have z' : @Eq Nat _ _ := z; dsimp only at z'; omega
        · cases z
    · rcases List.mem_cons.mp hq with rfl | hq
      · intro z
        rcases List.mem_cons.mp z with z | z
        · have z' : @Eq Nat _ _ := z; dsimp only at z'; omega
        · rcases List.mem_cons.mp z with z | z
          · have z' : @Eq Nat _ _ := z; dsimp only at z'; omega
          · cases z
      · cases hq) st
  intro p hp
  rcases List.mem_cons.mp hp with rfl | hp
  · exact Ny _ (.head _)
  · rcases List.mem_cons.mp hp with rfl | hp
    · exact Ny _ (.tail _ (.head _))
    · rcases List.mem_cons.mp hp with rfl | hp
      · exact ⟨e1, (Nh _ (.head _)).2⟩
      · rcases List.mem_cons.mp hp with rfl | hp
        · exact ⟨e2, (Nh (d, so) (.tail _ (.head _))).2⟩
        · cases hp
theorem read_ch_K {cs : Str} (X : (hd.heap_39 w.params).In h₀) (T : Top p loose mean mg mb h₀) (B : Below A₀ base outer h₀) (F : Fr h₀ L s.heap m) (N : News h₀ L s.heap (LL x dx o d lo so)) (hA : A₀.deeper env = Ar dp un gd (env :: outer)) (hf : env.frame = some L) (hk : env.scope.kind = .function) (hroom : dp + 6 < recursionLimit)
    (S : SioD w.params txt (q : Int) so) (l1 : dx < x) (l2 : d < o) (l3 : x < d) (hq : q < txt.length) (hx : txt.length < 1000) (hc : (⟨#[txt.cps.getD q 0]⟩ : Str) = cs)
    (h : ∀ h' tk so' t, Fr h₀ L h' m → News h₀ L h' (LL x dx o d lo so') → SioD w.params txt ((q + 1 : Nat) : Int) so' → Q (.str cs t) { s with heap := h', toks := tk }) :
    wpAny (model PG w) (A₀.deeper env) (call (.ref 574) [.ref o, .int 1 t1]) Q E s := by
  obtain ⟨g, C, FG, n1, n2, back⟩ := read_hide X T B F N hA hf hk l1 l2 l3
  subst hc
  rw [hA]
  refine sio_read_ch C hroom (N _ (.tail _ (.tail _ (.head _)))).1 (N _ (.tail _ (.tail _ (.tail _ (.head _))))).1 n1 n2 S l2 hq hx fun h' tk so' t st e1 e2 S' => ?_
  obtain ⟨F', N'⟩ := back h' so' st e1 e2
  exact h h' tk so' t F' N' S'
theorem read_eof_K (X : (hd.heap_39 w.params).In h₀) (T : Top p loose mean mg mb h₀) (B : Below A₀ base outer h₀) (F : Fr h₀ L s.heap m) (N : News h₀ L s.heap (LL x dx o d lo so)) (hA : A₀.deeper env = Ar dp un gd (env :: outer)) (hf : env.frame = some L) (hk : env.scope.kind = .function) (hroom : dp + 6 < recursionLimit)
    (S : SioD w.params txt (q : Int) so) (l1 : dx < x) (l2 : d < o) (l3 : x < d) (hq : txt.length ≤ q) (hx : txt.length < 1000)
    (h : ∀ h' tk so' t, Fr h₀ L h' m → News h₀ L h' (LL x dx o d lo so') → SioD w.params txt (q : Int) so' → Q (.str (Str.ofString "") t) { s with heap := h', toks := tk }) :
    wpAny (model PG w) (A₀.deeper env) (call (.ref 574) [.ref o, .int 1 t1]) Q E s := by
  obtain ⟨g, C, FG, n1, n2, back⟩ := read_hide X T B F N hA hf hk l1 l2 l3
  rw [hA]
  refine sio_read_eof C hroom (N _ (.tail _ (.tail _ (.head _)))).1 (N _ (.tail _ (.tail _ (.tail _ (.head _))))).1 n1 n2 S l2 hq hx fun h' tk so' t st e1 e2 S' => ?_
  obtain ⟨F', N'⟩ := back h' so' st e1 e2
  exact h h' tk so' t F' N' S'
end
inductive LexRun (txt : Str) (st' : Option Str) (tkn' : Str) (q' : Nat) (b' : Bool) : Option Str → Str → Nat → Bool → Prop
  | w0 {tkn q b c} : q < txt.length → txt.cps.getD q 0 = c → isWb c = true → LexRun txt st' tkn' q' b' (some (Str.ofString "a")) ⟨#[c]⟩ (q + 1) b → LexRun txt st' tkn' q' b' (some (Str.ofString " ")) tkn q b
  | q0 {tkn q b} : q < txt.length → txt.cps.getD q 0 = 39 → LexRun txt st' tkn' q' b' (some (Str.ofString "'")) tkn (q + 1) b → LexRun txt st' tkn' q' b' (some (Str.ofString " ")) tkn q b
  | qc {tkn q b c} : q < txt.length → txt.cps.getD q 0 = c → isQb c = true → tkn.length < 1000 → LexRun txt st' tkn' q' b' (some (Str.ofString "'")) (tkn ++ ⟨#[c]⟩) (q + 1) true → LexRun txt st' tkn' q' b' (some (Str.ofString "'")) tkn q b
  | q1 {tkn q b} : q < txt.length → txt.cps.getD q 0 = 39 → LexRun txt st' tkn' q' b' (some (Str.ofString "a")) tkn (q + 1) true → LexRun txt st' tkn' q' b' (some (Str.ofString "'")) tkn q b
  | w1 {tkn q b c} : q < txt.length → txt.cps.getD q 0 = c → isWb c = true → tkn.length < 1000 → LexRun txt st' tkn' q' b' (some (Str.ofString "a")) (tkn ++ ⟨#[c]⟩) (q + 1) b → LexRun txt st' tkn' q' b' (some (Str.ofString "a")) tkn q b
  | sp {tkn q b} : q < txt.length → txt.cps.getD q 0 = 32 → 0 < tkn.length → tkn.length < 1000 → st' = some (Str.ofString " ") → tkn' = tkn → q' = q + 1 → b' = b → LexRun txt st' tkn' q' b' (some (Str.ofString "a")) tkn q b
  | fin {tkn q b} : txt.length ≤ q → st' = none → tkn' = tkn → q' = q → b' = b → LexRun txt st' tkn' q' b' (some (Str.ofString "a")) tkn q b
  | non {tkn q b} : txt.length ≤ q → st' = none → tkn' = Str.ofString "" → q' = q → b' = b → LexRun txt st' tkn' q' b' none tkn q b
theorem lex_loop {w : World} {A : Around} {E : Value → Shared → Prop} {env : Env} {test : PySem.Expr} {body : List Stmt} {Q : Flow → Shared → Prop} {s : Shared} {g : Heap} {L x dx o d d1 d2 : Addr} {txt : Str} {st' st : Option Str} {tkn' tkn : Str} {q' q : Nat} {b' b : Bool}
   (R : LexRun txt st' tkn' q' b' st tkn q b) (a : ∃ m, LexAt w.params g L x dx o d d1 d2 txt st tkn q b m s.heap)
   (T1 : ∀ (Q : Flow → Shared → Prop) q tkn b c, q < txt.length → txt.cps.getD q 0 = c → isWb c = true → Nxt w A E env test body Q s g L x dx o d d1 d2 txt (some (Str.ofString "a")) ⟨#[c]⟩ (q + 1) b → Nxt w A E env test body Q s g L x dx o d d1 d2 txt (some (Str.ofString " ")) tkn q b)
   (T2 : ∀ (Q : Flow → Shared → Prop) q tkn b, q < txt.length → txt.cps.getD q 0 = 39 → Nxt w A E env test body Q s g L x dx o d d1 d2 txt (some (Str.ofString "'")) tkn (q + 1) b → Nxt w A E env test body Q s g L x dx o d d1 d2 txt (some (Str.ofString " ")) tkn q b)
   (T3 : ∀ (Q : Flow → Shared → Prop) q tkn b c, q < txt.length → txt.cps.getD q 0 = c → isQb c = true → tkn.length < 1000 → Nxt w A E env test body Q s g L x dx o d d1 d2 txt (some (Str.ofString "'")) (tkn ++ ⟨#[c]⟩) (q + 1) true → Nxt w A E env test body Q s g L x dx o d d1 d2 txt (some (Str.ofString "'")) tkn q b)
   (T4 : ∀ (Q : Flow → Shared → Prop) q tkn b, q < txt.length → txt.cps.getD q 0 = 39 → Nxt w A E env test body Q s g L x dx o d d1 d2 txt (some (Str.ofString "a")) tkn (q + 1) true → Nxt w A E env test body Q s g L x dx o d d1 d2 txt (some (Str.ofString "'")) tkn q b)
   (T5 : ∀ (Q : Flow → Shared → Prop) q tkn b c, q < txt.length → txt.cps.getD q 0 = c → isWb c = true → tkn.length < 1000 → Nxt w A E env test body Q s g L x dx o d d1 d2 txt (some (Str.ofString "a")) (tkn ++ ⟨#[c]⟩) (q + 1) b → Nxt w A E env test body Q s g L x dx o d d1 d2 txt (some (Str.ofString "a")) tkn q b)
   (T6 : ∀ (Q : Flow → Shared → Prop) q tkn b, q < txt.length → txt.cps.getD q 0 = 32 → 0 < tkn.length → tkn.length < 1000 → Ext w Q s g L x dx o d d1 d2 txt (some (Str.ofString " ")) tkn (q + 1) b → Nxt w A E env test body Q s g L x dx o d d1 d2 txt (some (Str.ofString "a")) tkn q b)
   (T7 : ∀ (Q : Flow → Shared → Prop) q tkn b, txt.length ≤ q → Ext w Q s g L x dx o d d1 d2 txt none tkn q b → Nxt w A E env test body Q s g L x dx o d d1 d2 txt (some (Str.ofString "a")) tkn q b)
   (T8 : ∀ (Q : Flow → Shared → Prop) q tkn b, txt.length ≤ q → Ext w Q s g L x dx o d d1 d2 txt none (Str.ofString "") q b → Nxt w A E env test body Q s g L x dx o d d1 d2 txt none tkn q b)
   (X : Ext w Q s g L x dx o d d1 d2 txt st' tkn' q' b') : WhlRest PG w A E env test body [] Q 0 s := by
  have key : Nxt w A E env test body Q s g L x dx o d d1 d2 txt st tkn q b := by
    clear a
    induction R with
    | w0 h1 h2 h3 _ ih => exact T1 Q _ _ _ _ h1 h2 h3 ih
    | q0 h1 h2 _ ih => exact T2 Q _ _ _ h1 h2 ih
    | qc h1 h2 h3 h4 _ ih => exact T3 Q _ _ _ _ h1 h2 h3 h4 ih
    | q1 h1 h2 _ ih => exact T4 Q _ _ _ h1 h2 ih
    | w1 h1 h2 h3 h4 _ ih => exact T5 Q _ _ _ _ h1 h2 h3 h4 ih
    | sp h1 h2 h3 h4 e1 e2 e3 e4 => subst e1 e2 e3 e4; exact T6 Q _ _ _ h1 h2 h3 h4 X
    | fin h1 e1 e2 e3 e4 => subst e1 e2 e3 e4; exact T7 Q _ _ _ h1 X
    | non h1 e1 e2 e3 e4 => subst e1 e2 e3 e4; exact T8 Q _ _ _ h1 X
  obtain ⟨m, a⟩ := a
  exact key s.heap s.toks m a
theorem LexAt.mk' {P : Params} {g : Heap} {L x dx o d d1 d2 : Addr} {txt : Str} {st : Option Str} {tkn : Str} {q : Nat} {b : Bool} {m : Str → Option Value} {h : Heap} {lo so : Obj} {ts : Tok} (F : Fr g L h m) (N : News g L h (LL x dx o d lo so)) (LS : LexD P o d1 d2 (stV st ts) tkn lo) (S : SioD P txt (q : Int) so)
  (h1 : m (Str.ofString "self") = some (.ref x)) (h2 : m (Str.ofString "quoted") = some (.bool b)) : LexAt P g L x dx o d d1 d2 txt st tkn q b m h := ⟨⟨lo, so, ts, F, N, LS, S⟩, h1, h2⟩
namespace read_tokenN
noncomputable def S (w : World) (dp un : Nat) (gd : Option (List Code)) (s : Shared) (p : Program) (loose : List Str) (mean : ExcName → Option Value) (mg mb : Str → Option Value) (base g : Heap) (outer : List Env) (Q E : Value → Shared → Prop) (x dx o d d1 d2 : Addr) (txt : Str) (tss : Tok) (q : Nat) (st0 st' : Option Str) (q' : Nat) : Prop := ∀ (C : Cx w p loose mean mg mb base dp un gd outer g s) (hroom : dp + 20 < recursionLimit) (lo so : Obj) (eX : s.heap.get? x = some (instObj 763 dx)) (nX : g.get? x = none) (eDx : s.heap.get? dx = some lo) (nDx : g.get? dx = none) (eO : s.heap.get? o = some (instObj 628 d)) (eD : s.heap.get? d = some so) (nO : g.get? o = none) (nD : g.get? d = none) (LS : LexD w.params o d1 d2 (stV st0 tss) (Str.ofString "") lo) (S : SioD w.params txt (q : Int) so) (l1 : dx < x) (l2 : d < o) (l3 : x < d) (hx : txt.length < 1000) (tkn' : Str) (b' : Bool) (R : LexRun txt st' tkn' q' b' st0 (Str.ofString "") q false) (hA : (0 < tkn'.length ∧ tkn'.length < 1000) ∨ (tkn' = Str.ofString "" ∧ b' = false)) (kA : 0 < tkn'.length → ∀ h' tk lo' so' ts t, g.StaysIn h' → (∀ p ∈ LL x dx o d lo' so', h'.get? p.1 = some p.2) → LexD w.params o d1 d2 (stV st' ts) (Str.ofString "") lo' → SioD w.params txt (q' : Int) so' → Q (.str tkn' t) { s with heap := h', toks := tk }) (kB : tkn' = Str.ofString "" → ∀ h' tk lo' so' ts, g.StaysIn h' → (∀ p ∈ LL x dx o d lo' so', h'.get? p.1 = some p.2) → LexD w.params o d1 d2 (stV st' ts) (Str.ofString "") lo' → SioD w.params txt (q' : Int) so' → Q .none { s with heap := h', toks := tk }), wpAny (model PG w) (Ar dp un gd outer) (call (.ref 731) [.ref x]) Q E s
noncomputable def zD : World × Nat × Nat × Option (List Code) × Shared × Program × List Str × (ExcName → Option Value) × (Str → Option Value) × (Str → Option Value) × Heap × Heap × List Env × (Value → Shared → Prop) × (Value → Shared → Prop) × Addr × Addr × Addr × Addr × Addr × Addr × Str × Tok × Nat × Option Str × Option Str × Nat := cex (jW, 0, 0, none, jS, default, [], (fun _ => none), (fun _ => none), (fun _ => none), default, default, [], (fun _ _ => True), (fun _ _ => True), (0 : Nat), (0 : Nat), (0 : Nat), (0 : Nat), (0 : Nat), (0 : Nat), default, 0, 0, none, none, 0) fun d => S d.1 d.2.1 d.2.2.1 d.2.2.2.1 d.2.2.2.2.1 d.2.2.2.2.2.1 d.2.2.2.2.2.2.1 d.2.2.2.2.2.2.2.1 d.2.2.2.2.2.2.2.2.1 d.2.2.2.2.2.2.2.2.2.1 d.2.2.2.2.2.2.2.2.2.2.1 d.2.2.2.2.2.2.2.2.2.2.2.1 d.2.2.2.2.2.2.2.2.2.2.2.2.1 d.2.2.2.2.2.2.2.2.2.2.2.2.2.1 d.2.2.2.2.2.2.2.2.2.2.2.2.2.2.1 d.2.2.2.2.2.2.2.2.2.2.2.2.2.2.2.1 d.2.2.2.2.2.2.2.2.2.2.2.2.2.2.2.2.1 d.2.2.2.2.2.2.2.2.2.2.2.2.2.2.2.2.2.1 d.2.2.2.2.2.2.2.2.2.2.2.2.2.2.2.2.2.2.1 d.2.2.2.2.2.2.2.2.2.2.2.2.2.2.2.2.2.2.2.1 d.2.2.2.2.2.2.2.2.2.2.2.2.2.2.2.2.2.2.2.2.1 d.2.2.2.2.2.2.2.2.2.2.2.2.2.2.2.2.2.2.2.2.2.1 d.2.2.2.2.2.2.2.2.2.2.2.2.2.2.2.2.2.2.2.2.2.2.1 d.2.2.2.2.2.2.2.2.2.2.2.2.2.2.2.2.2.2.2.2.2.2.2.1 d.2.2.2.2.2.2.2.2.2.2.2.2.2.2.2.2.2.2.2.2.2.2.2.2.1 d.2.2.2.2.2.2.2.2.2.2.2.2.2.2.2.2.2.2.2.2.2.2.2.2.2.1 d.2.2.2.2.2.2.2.2.2.2.2.2.2.2.2.2.2.2.2.2.2.2.2.2.2.2
@[irreducible] noncomputable def w : World := zD.1
@[irreducible] noncomputable def dp : Nat := zD.2.1
@[irreducible] noncomputable def un : Nat := zD.2.2.1
@[irreducible] noncomputable def gd : Option (List Code) := zD.2.2.2.1
@[irreducible] noncomputable def s : Shared := zD.2.2.2.2.1
@[irreducible] noncomputable def L' : Addr := s.heap.objs.size
@[irreducible] noncomputable def p : Program := zD.2.2.2.2.2.1
@[irreducible] noncomputable def loose : List Str := zD.2.2.2.2.2.2.1
@[irreducible] noncomputable def mean : ExcName → Option Value := zD.2.2.2.2.2.2.2.1
@[irreducible] noncomputable def mg : Str → Option Value := zD.2.2.2.2.2.2.2.2.1
@[irreducible] noncomputable def mb : Str → Option Value := zD.2.2.2.2.2.2.2.2.2.1
@[irreducible] noncomputable def base : Heap := zD.2.2.2.2.2.2.2.2.2.2.1
@[irreducible] noncomputable def g : Heap := zD.2.2.2.2.2.2.2.2.2.2.2.1
@[irreducible] noncomputable def outer : List Env := zD.2.2.2.2.2.2.2.2.2.2.2.2.1
@[irreducible] noncomputable def Q : Value → Shared → Prop := zD.2.2.2.2.2.2.2.2.2.2.2.2.2.1
@[irreducible] noncomputable def E : Value → Shared → Prop := zD.2.2.2.2.2.2.2.2.2.2.2.2.2.2.1
@[irreducible] noncomputable def x : Addr := zD.2.2.2.2.2.2.2.2.2.2.2.2.2.2.2.1
@[irreducible] noncomputable def dx : Addr := zD.2.2.2.2.2.2.2.2.2.2.2.2.2.2.2.2.1
@[irreducible] noncomputable def o : Addr := zD.2.2.2.2.2.2.2.2.2.2.2.2.2.2.2.2.2.1
@[irreducible] noncomputable def d : Addr := zD.2.2.2.2.2.2.2.2.2.2.2.2.2.2.2.2.2.2.1
@[irreducible] noncomputable def d1 : Addr := zD.2.2.2.2.2.2.2.2.2.2.2.2.2.2.2.2.2.2.2.1
@[irreducible] noncomputable def d2 : Addr := zD.2.2.2.2.2.2.2.2.2.2.2.2.2.2.2.2.2.2.2.2.1
@[irreducible] noncomputable def txt : Str := zD.2.2.2.2.2.2.2.2.2.2.2.2.2.2.2.2.2.2.2.2.2.1
@[irreducible] noncomputable def tss : Tok := zD.2.2.2.2.2.2.2.2.2.2.2.2.2.2.2.2.2.2.2.2.2.2.1
@[irreducible] noncomputable def q : Nat := zD.2.2.2.2.2.2.2.2.2.2.2.2.2.2.2.2.2.2.2.2.2.2.2.1
@[irreducible] noncomputable def st0 : Option Str := zD.2.2.2.2.2.2.2.2.2.2.2.2.2.2.2.2.2.2.2.2.2.2.2.2.1
@[irreducible] noncomputable def st' : Option Str := zD.2.2.2.2.2.2.2.2.2.2.2.2.2.2.2.2.2.2.2.2.2.2.2.2.2.1
@[irreducible] noncomputable def q' : Nat := zD.2.2.2.2.2.2.2.2.2.2.2.2.2.2.2.2.2.2.2.2.2.2.2.2.2.2
theorem core : S w dp un gd s p loose mean mg mb base g outer Q E x dx o d d1 d2 txt tss q st0 st' q' := by
  intro C hroom lo so eX nX eDx nDx eO eD nO nD LS S l1 l2 l3 hx tkn' b' R hA kA kB
  obtain ⟨X, T, B, G, Gz⟩ := C
  obtain ⟨js, k5, rfl⟩ := S
  obtain ⟨ks, v8, rfl⟩ := LS
  replace l1 := ltN l1
  replace l2 := ltN l2
  replace l3 := ltN l3
  refine wpAny_call ?_
  k_dflt (refine' enter X T G Gz (hid4 eX nX eDx nDx eO nO eD nD) ?k6 ?k7 ?k8 ?k9 ?kB ?_ ?c2 ?c3 ?c4 ?c5; (case k6 => k_is); (case k7 => k_is); (case k8 => (show dp < _; omega)); (case k9 => first | exact BindsTo.of_eq rfl | exact binds_K (X.keeps G) rfl (by k_is) rfl rfl rfl);(case c5 => decide); (case kB => exact locs rfl); (case c2 => exact rfl); (case c3 => exact rfl); (case c4 => exact rfl))
  intro L₀ h₁ hL F N l4 G1
  obtain rfl : L₀ = L' := hL.trans (by with_unfolding_all rfl)
  (try k_lt l4)
  (try dsimp only); (try k_fold)
  repeat' ((first | ((fail_if_success (with_reducible show wpAny _ _ (exec (Stmt.While _ _ _ _) _) _ _ _)); first | ((with_reducible show wpAny _ _ (exec (Stmt.If _ _ _ _) _) _ _ _); (refine wpAny_If ?_)) | ((with_reducible show WhlRest _ _ _ _ _ _ _ _ _ _ _); k_dflt (refine' Nxt.go ?H (LexAt.mk' ?F ?N ?LS ?S ?h1 ?h2); (case H => assumption); (case F => k_asm); (case N => first | k_asm | exact news_tail (by k_asm)); (case LS => exact ⟨_, _, rfl⟩); (case S => exact ⟨_, _, rfl⟩); (case h1 => exact rfl); (case h2 => exact rfl))) | ((with_reducible show wpAny _ _ (truthy (Value.str _ _)) _ _ _); (k_dflt (first | (refine' KXt.truthy (b := true) ?e ?l ?_; (case e => first | rfl | decide +kernel | exact len_true (by assumption)); (case l => first | (show (1 : Nat) ≤ _; decide) | decide +kernel | omega); intro _) | (refine' KXt.truthy (b := false) ?e ?l ?_; (case e => first | rfl | decide +kernel); (case l => first | (show (1 : Nat) ≤ _; decide) | decide +kernel); intro _)))) | ((with_reducible show wpAny _ _ (compareOp CmpOp.In (Value.str _ _) (Value.str _ _)) _ _ _); (k_dflt (first | (refine' inS (b := false) ?e ?_; (case e => first | decide +kernel | exact w_notin (by assumption) (by decide +kernel) | exact q_notin (by assumption) (by decide +kernel))) | (refine' inS (b := true) ?e ?_; (case e => first | decide +kernel | exact w_in (by assumption) (by decide +kernel)))))) | ((with_reducible show wpAny _ _ (compareOp CmpOp.Eq (Value.str _ _) (Value.str _ _)) _ _ _); (k_dflt (first | (refine' eqS (b := false) ?e ?_; (case e => first | decide +kernel | exact w_ne (by assumption) (by decide +kernel) | exact q_ne (by assumption) (by decide +kernel) | exact ne_empty (by assumption))) | (refine' eqS (b := true) ?e ?_; (case e => decide +kernel))))) | (((with_reducible show wpAny _ _ (call (Value.ref 574) [_, _]) _ _ _); k_dflt (refine' read_eof_K ?k1 ?k2 ?k3 ?k4 ?k5 ?k6 ?k7 ?k8 ?k9 ?kS ?kl1 ?kl2 ?kl3 ?kq ?kx ?_; (case k1 => k_asm); (case k2 => k_asm); (case k3 => k_asm); (case k4 => k_asm); (case k5 => k_asm); (case k6 => exact rfl); (case k7 => exact rfl); (case k8 => exact rfl); (case k9 => k_room); (case kS => exact ⟨_, _, rfl⟩); (case kl1 => assumption); (case kl2 => assumption); (case kl3 => assumption); (case kq => assumption); (case kx => assumption); k_whole; intro h' tk' so' t' F' N' S'; (obtain ⟨js', t5', e'⟩ := S'); subst e'; (dsimp only [LL] at N'); (try k_sweep)))) | (((with_reducible show wpAny _ _ (call (Value.ref 574) [_, _]) _ _ _); k_dflt (refine' read_ch_K ?k1 ?k2 ?k3 ?k4 ?k5 ?k6 ?k7 ?k8 ?k9 ?kS ?kl1 ?kl2 ?kl3 ?kq ?kx ?kc ?_; (case k1 => k_asm); (case k2 => k_asm); (case k3 => k_asm); (case k4 => k_asm); (case k5 => k_asm); (case k6 => exact rfl); (case k7 => exact rfl); (case k8 => exact rfl); (case k9 => k_room); (case kS => exact ⟨_, _, rfl⟩); (case kl1 => assumption); (case kl2 => assumption); (case kl3 => assumption); (case kq => assumption); (case kx => assumption); (case kc => assumption); k_whole; intro h' tk' so' t' F' N' S'; (obtain ⟨js', t5', e'⟩ := S'); subst e'; (dsimp only [LL] at N'); (try k_sweep)))) | (k_unfold; (try dsimp only)) | walk1 | (dsimp only; walk1)) | fail "no step") <;> (try dsimp only))
  refine whl_start 0 ?_
  refine lex_loop (d1 := d1) (d2 := d2) (g := g) (L := L') (x := x) (dx := dx) (o := o) (d := d) (txt := txt) R ?a ?T1 ?T2 ?T3 ?T4 ?T5 ?T6 ?T7 ?T8 ?X
  case a => exact ⟨_, LexAt.mk' ‹Fr _ _ _ _› ‹News _ _ _ _› ⟨_, _, rfl⟩ ⟨_, _, rfl⟩ rfl rfl⟩
  case' T1 =>
    intro Q q tkn b c hq hc hW nx h tk m a
    have hcs : (⟨#[txt.cps.getD q 0]⟩ : Str) = ⟨#[c]⟩ := by rw [hc]
    obtain ⟨⟨lo, so, ts, F, N, LS, SS⟩, ms, mq⟩ := a
    obtain ⟨js, k5, rfl⟩ := SS
    obtain ⟨ks, v8, rfl⟩ := LS
    rw [canon_map ms mq] at F
    dsimp only [LL, stV] at N
    refine turn0 ?hE ?_
    case hE => first | passes_own | with_unfolding_all passes_own
  case' T2 =>
    intro Q q tkn b hq hc nx h tk m a
    have hcs : (⟨#[txt.cps.getD q 0]⟩ : Str) = Str.ofString "'" := by rw [hc]; decide +kernel
    obtain ⟨⟨lo, so, ts, F, N, LS, SS⟩, ms, mq⟩ := a
    obtain ⟨js, k5, rfl⟩ := SS
    obtain ⟨ks, v8, rfl⟩ := LS
    rw [canon_map ms mq] at F
    dsimp only [LL, stV] at N
    refine turn0 ?hE ?_
    case hE => first | passes_own | with_unfolding_all passes_own
  case' T3 =>
    intro Q q tkn b c hq hc hW ht nx h tk m a
    have hcs : (⟨#[txt.cps.getD q 0]⟩ : Str) = ⟨#[c]⟩ := by rw [hc]
    obtain ⟨⟨lo, so, ts, F, N, LS, SS⟩, ms, mq⟩ := a
    obtain ⟨js, k5, rfl⟩ := SS
    obtain ⟨ks, v8, rfl⟩ := LS
    rw [canon_map ms mq] at F
    dsimp only [LL, stV] at N
    refine turn0 ?hE ?_
    case hE => first | passes_own | with_unfolding_all passes_own
  case' T4 =>
    intro Q q tkn b hq hc nx h tk m a
    have hcs : (⟨#[txt.cps.getD q 0]⟩ : Str) = Str.ofString "'" := by rw [hc]; decide +kernel
    obtain ⟨⟨lo, so, ts, F, N, LS, SS⟩, ms, mq⟩ := a
    obtain ⟨js, k5, rfl⟩ := SS
    obtain ⟨ks, v8, rfl⟩ := LS
    rw [canon_map ms mq] at F
    dsimp only [LL, stV] at N
    refine turn0 ?hE ?_
    case hE => first | passes_own | with_unfolding_all passes_own
  case' T5 =>
    intro Q q tkn b c hq hc hW ht nx h tk m a
    have hcs : (⟨#[txt.cps.getD q 0]⟩ : Str) = ⟨#[c]⟩ := by rw [hc]
    obtain ⟨⟨lo, so, ts, F, N, LS, SS⟩, ms, mq⟩ := a
    obtain ⟨js, k5, rfl⟩ := SS
    obtain ⟨ks, v8, rfl⟩ := LS
    rw [canon_map ms mq] at F
    dsimp only [LL, stV] at N
    refine turn0 ?hE ?_
    case hE => first | passes_own | with_unfolding_all passes_own
  case' T6 =>
    intro Q q tkn b hq hc ht0 ht nx h tk m a
    have hcs : (⟨#[txt.cps.getD q 0]⟩ : Str) = Str.ofString " " := by rw [hc]; decide +kernel
    obtain ⟨⟨lo, so, ts, F, N, LS, SS⟩, ms, mq⟩ := a
    obtain ⟨js, k5, rfl⟩ := SS
    obtain ⟨ks, v8, rfl⟩ := LS
    rw [canon_map ms mq] at F
    dsimp only [LL, stV] at N
    refine turn0 ?hE ?_
    case hE => first | passes_own | with_unfolding_all passes_own
  case' T7 =>
    intro Q q tkn b hq nx h tk m a
    obtain ⟨⟨lo, so, ts, F, N, LS, SS⟩, ms, mq⟩ := a
    obtain ⟨js, k5, rfl⟩ := SS
    obtain ⟨ks, v8, rfl⟩ := LS
    rw [canon_map ms mq] at F
    dsimp only [LL, stV] at N
    refine turn0 ?hE ?_
    case hE => first | passes_own | with_unfolding_all passes_own
  case' T8 =>
    intro Q q tkn b hq nx h tk m a
    obtain ⟨⟨lo, so, ts, F, N, LS, SS⟩, ms, mq⟩ := a
    obtain ⟨js, k5, rfl⟩ := SS
    obtain ⟨ks, v8, rfl⟩ := LS
    rw [canon_map ms mq] at F
    dsimp only [LL, stV] at N
    refine turn0 ?hE ?_
    case hE => first | passes_own | with_unfolding_all passes_own
  case' X =>
    intro h tk m a
    obtain ⟨⟨lo, so, ts, F, N, LS, SS⟩, ms, mq⟩ := a
    obtain ⟨js, k5, rfl⟩ := SS
    obtain ⟨ks, v8, rfl⟩ := LS
    rw [canon_map ms mq] at F
    dsimp only [LL, stV] at N
    rcases hA with ⟨ht0, ht⟩ | ⟨ht0, rfl⟩
    all_goals first | subst ht0 | cases b'
  all_goals repeat' ((first | ((with_reducible show wpAny _ _ (exec (Stmt.If _ _ _ _) _) _ _ _); (refine wpAny_If ?_)) | ((with_reducible show WhlRest _ _ _ _ _ _ _ _ _ _ _); k_dflt (refine' Nxt.go ?H (LexAt.mk' ?F ?N ?LS ?S ?h1 ?h2); (case H => assumption); (case F => k_asm); (case N => first | k_asm | exact news_tail (by k_asm)); (case LS => exact ⟨_, _, rfl⟩); (case S => exact ⟨_, _, rfl⟩); (case h1 => exact rfl); (case h2 => exact rfl))) | ((with_reducible show wpAny _ _ (truthy (Value.str _ _)) _ _ _); (k_dflt (first | (refine' KXt.truthy (b := true) ?e ?l ?_; (case e => first | rfl | decide +kernel | exact len_true (by assumption)); (case l => first | (show (1 : Nat) ≤ _; decide) | decide +kernel | omega); intro _) | (refine' KXt.truthy (b := false) ?e ?l ?_; (case e => first | rfl | decide +kernel); (case l => first | (show (1 : Nat) ≤ _; decide) | decide +kernel); intro _)))) | ((with_reducible show wpAny _ _ (compareOp CmpOp.In (Value.str _ _) (Value.str _ _)) _ _ _); (k_dflt (first | (refine' inS (b := false) ?e ?_; (case e => first | decide +kernel | exact w_notin (by assumption) (by decide +kernel) | exact q_notin (by assumption) (by decide +kernel))) | (refine' inS (b := true) ?e ?_; (case e => first | decide +kernel | exact w_in (by assumption) (by decide +kernel)))))) | ((with_reducible show wpAny _ _ (compareOp CmpOp.Eq (Value.str _ _) (Value.str _ _)) _ _ _); (k_dflt (first | (refine' eqS (b := false) ?e ?_; (case e => first | decide +kernel | exact w_ne (by assumption) (by decide +kernel) | exact q_ne (by assumption) (by decide +kernel) | exact ne_empty (by assumption))) | (refine' eqS (b := true) ?e ?_; (case e => decide +kernel))))) | (((with_reducible show wpAny _ _ (call (Value.ref 574) [_, _]) _ _ _); k_dflt (refine' read_eof_K ?k1 ?k2 ?k3 ?k4 ?k5 ?k6 ?k7 ?k8 ?k9 ?kS ?kl1 ?kl2 ?kl3 ?kq ?kx ?_; (case k1 => k_asm); (case k2 => k_asm); (case k3 => k_asm); (case k4 => k_asm); (case k5 => k_asm); (case k6 => exact rfl); (case k7 => exact rfl); (case k8 => exact rfl); (case k9 => k_room); (case kS => exact ⟨_, _, rfl⟩); (case kl1 => assumption); (case kl2 => assumption); (case kl3 => assumption); (case kq => assumption); (case kx => assumption); k_whole; intro h' tk' so' t' F' N' S'; (obtain ⟨js', t5', e'⟩ := S'); subst e'; (dsimp only [LL] at N'); (try k_sweep)))) | (((with_reducible show wpAny _ _ (call (Value.ref 574) [_, _]) _ _ _); k_dflt (refine' read_ch_K ?k1 ?k2 ?k3 ?k4 ?k5 ?k6 ?k7 ?k8 ?k9 ?kS ?kl1 ?kl2 ?kl3 ?kq ?kx ?kc ?_; (case k1 => k_asm); (case k2 => k_asm); (case k3 => k_asm); (case k4 => k_asm); (case k5 => k_asm); (case k6 => exact rfl); (case k7 => exact rfl); (case k8 => exact rfl); (case k9 => k_room); (case kS => exact ⟨_, _, rfl⟩); (case kl1 => assumption); (case kl2 => assumption); (case kl3 => assumption); (case kq => assumption); (case kx => assumption); (case kc => assumption); k_whole; intro h' tk' so' t' F' N' S'; (obtain ⟨js', t5', e'⟩ := S'); subst e'; (dsimp only [LL] at N'); (try k_sweep)))) | (k_unfold; (try dsimp only)) | (k_end; wrow_close) | walk1 | (dsimp only; walk1) | (leave1; walk_say "STEP leave1"; try dsimp only) | fail "no step") <;> (try dsimp only))
  all_goals first
    | exact Ext.go nx (LexAt.mk' ‹Fr _ _ _ _› (by first | k_asm | exact news_tail (by k_asm)) ⟨_, _, rfl⟩ ⟨_, _, rfl⟩ rfl rfl)
    | exact Ext.go nx (LexAt.mk' (ts := 0) ‹Fr _ _ _ _› (by first | k_asm | exact news_tail (by k_asm)) ⟨_, _, rfl⟩ ⟨_, _, rfl⟩ rfl rfl)
    | exact kA ht0 _ _ _ _ _ _ (Fr.keep ‹Fr g _ _ _›) (fun p hp => (‹News g _ _ _› p hp).1) ⟨_, _, rfl⟩ ⟨_, _, rfl⟩
    | exact kB rfl _ _ _ _ _ (Fr.keep ‹Fr g _ _ _›) (fun p hp => (‹News g _ _ _› p hp).1) ⟨_, _, rfl⟩ ⟨_, _, rfl⟩
end read_tokenN
theorem read_token {w : World} {dp un : Nat} {gd : Option (List Code)} {s : Shared} {p : Program} {loose : List Str} {mean : ExcName → Option Value} {mg mb : Str → Option Value} {base g : Heap} {outer : List Env} {Q E : Value → Shared → Prop}
    (C : Cx w p loose mean mg mb base dp un gd outer g s) (hroom : dp + 20 < recursionLimit)
    {x dx o d d1 d2 : Addr} {lo so : Obj} {txt : Str} {tss : Tok} {q : Nat} {st0 : Option Str} (eX : s.heap.get? x = some (instObj 763 dx)) (nX : g.get? x = none) (eDx : s.heap.get? dx = some lo) (nDx : g.get? dx = none)
    (eO : s.heap.get? o = some (instObj 628 d)) (eD : s.heap.get? d = some so) (nO : g.get? o = none) (nD : g.get? d = none) (LS : LexD w.params o d1 d2 (stV st0 tss) (Str.ofString "") lo) (S : SioD w.params txt (q : Int) so)
    (l1 : dx < x) (l2 : d < o) (l3 : x < d) (hx : txt.length < 1000)
    {st' : Option Str} {tkn' : Str} {q' : Nat} {b' : Bool} (R : LexRun txt st' tkn' q' b' st0 (Str.ofString "") q false)
    (hA : (0 < tkn'.length ∧ tkn'.length < 1000) ∨ (tkn' = Str.ofString "" ∧ b' = false))
    (kA : 0 < tkn'.length → ∀ h' tk lo' so' ts t, g.StaysIn h' → (∀ p ∈ LL x dx o d lo' so', h'.get? p.1 = some p.2) → LexD w.params o d1 d2 (stV st' ts) (Str.ofString "") lo' → SioD w.params txt (q' : Int) so' → Q (.str tkn' t) { s with heap := h', toks := tk })
    (kB : tkn' = Str.ofString "" → ∀ h' tk lo' so' ts, g.StaysIn h' → (∀ p ∈ LL x dx o d lo' so', h'.get? p.1 = some p.2) → LexD w.params o d1 d2 (stV st' ts) (Str.ofString "") lo' → SioD w.params txt (q' : Int) so' → Q .none { s with heap := h', toks := tk }) :
    wpAny (model PG w) (Ar dp un gd outer) (call (.ref 731) [.ref x]) Q E s := all_of _ (fun d => read_tokenN.S d.1 d.2.1 d.2.2.1 d.2.2.2.1 d.2.2.2.2.1 d.2.2.2.2.2.1 d.2.2.2.2.2.2.1 d.2.2.2.2.2.2.2.1 d.2.2.2.2.2.2.2.2.1 d.2.2.2.2.2.2.2.2.2.1 d.2.2.2.2.2.2.2.2.2.2.1 d.2.2.2.2.2.2.2.2.2.2.2.1 d.2.2.2.2.2.2.2.2.2.2.2.2.1 d.2.2.2.2.2.2.2.2.2.2.2.2.2.1 d.2.2.2.2.2.2.2.2.2.2.2.2.2.2.1 d.2.2.2.2.2.2.2.2.2.2.2.2.2.2.2.1 d.2.2.2.2.2.2.2.2.2.2.2.2.2.2.2.2.1 d.2.2.2.2.2.2.2.2.2.2.2.2.2.2.2.2.2.1 d.2.2.2.2.2.2.2.2.2.2.2.2.2.2.2.2.2.2.1 d.2.2.2.2.2.2.2.2.2.2.2.2.2.2.2.2.2.2.2.1 d.2.2.2.2.2.2.2.2.2.2.2.2.2.2.2.2.2.2.2.2.1 d.2.2.2.2.2.2.2.2.2.2.2.2.2.2.2.2.2.2.2.2.2.1 d.2.2.2.2.2.2.2.2.2.2.2.2.2.2.2.2.2.2.2.2.2.2.1 d.2.2.2.2.2.2.2.2.2.2.2.2.2.2.2.2.2.2.2.2.2.2.2.1 d.2.2.2.2.2.2.2.2.2.2.2.2.2.2.2.2.2.2.2.2.2.2.2.2.1 d.2.2.2.2.2.2.2.2.2.2.2.2.2.2.2.2.2.2.2.2.2.2.2.2.2.1 d.2.2.2.2.2.2.2.2.2.2.2.2.2.2.2.2.2.2.2.2.2.2.2.2.2.2) (by with_unfolding_all exact read_tokenN.core) (w, dp, un, gd, s, p, loose, mean, mg, mb, base, g, outer, Q, E, x, dx, o, d, d1, d2, txt, tss, q, st0, st', q') C hroom lo so eX nX eDx nDx eO eD nO nD LS S l1 l2 l3 hx tkn' b' R hA kA kB
end Mine
end
section

namespace Mine
theorem dq_lookup_bool : typeLookup (.type "collections.deque") "__bool__" = pure none := by rw [typeLookup_type, builtinLookup_eq_fast]; kernel_rfl
theorem dq_slot_len : Slot "collections.deque" "__len__" "collections.deque.__len__" :=
  .of (owner := "collections.deque") (n := "__len__") (by rw [typeLookup_type, builtinLookup_eq_fast]; kernel_rfl) (by decide +kernel) (by decide +kernel) (by decide +kernel)
    (by first | exact .inl (by decide +kernel) | exact .inr (by decide +kernel)) (by rw [isSubtype_type]; kernel_rfl)
theorem dq_entry_len : entryFor table "collections.deque.__len__" = some Builtin.«collections.deque.__len__» := entryFor_of_tree (by kernel_rfl)
theorem dq_args_len (a : Value) : argsOk "collections.deque.__len__" ⟨[a], []⟩ := by unfold argsOk; kernel_rfl
theorem dq_truthy {w : World} {A : Around} {hh : Heap} {gg : Array GenState} {dd : Drawn} {tt : Nat} {oo : OsState} {Q : Bool → Shared → Prop} {E : Value → Shared → Prop} {d : Addr} (e : hh.get? d = some dqObj)
    (h : ∀ tk, Q false ⟨hh, gg, dd, tk, oo⟩) : wpAny (model PG w) A (truthy (.ref d)) Q E ⟨hh, gg, dd, tt, oo⟩ := by
  have b : Looks (model PG w) hh (typeLookup (.type "collections.deque") "__bool__") none := Looks.of_pure dq_lookup_bool
  have l : Looks (model PG w) hh (typeLookup (.type "collections.deque") "__len__") (some (.builtin "collections.deque.__len__")) := Looks.of_pure dq_slot_len.lookup
  unfold truthy callSpecial? specialOf
  repeat (first | (with_reducible refine wpAny_runValue ?_) | lk)
  refine codeAny_builtin (entryFor_of_tree (by kernel_rfl) : entryFor table "len" = some Builtin.«len») ?_
  unfold Builtin.«len»
  repeat (first | (with_reducible refine wpAny_call ?_) | lk)
  refine codeAny_call_builtin dq_slot_len.plain dq_entry_len (dq_slot_len.check _ _ _ _ _ _ _ _ ⟨_, e, rfl⟩ (dq_args_len _) ?_)
  unfold Builtin.«collections.deque.__len__»
  repeat lk
  exact h _
theorem dq_truthy_K {w : World} {A : Around} {h₀ : Heap} {s : Shared} {L d : Addr} {m : Str → Option Value} {Q : Bool → Shared → Prop} {E : Value → Shared → Prop} (F : Fr h₀ L s.heap m) (e : h₀.get? d = some dqObj)
    (h : ∀ tk, Q false { s with toks := tk }) : wpAny (model PG w) A (truthy (.ref d)) Q E s := by
  obtain ⟨hh, gg, dd, tt, oo⟩ := s
  exact dq_truthy (F.keep _ _ e) h
end Mine
end
section

namespace Mine
theorem fillK8 : PySem.Challenge.rw_in0080_01 = PySem.Challenge.rw_in0080_01 ∧ hd.heap_39 = hd.heap_39 := by k_fill; exact ⟨rfl, rfl⟩
structure LexSt (P : Params) (g : Heap) (x dx o d d1 d2 : Addr) (txt : Str) (st : Option Str) (q : Nat) (h : Heap) : Prop where
  all : ∃ lo so ts, (∀ p ∈ LL x dx o d lo so, h.get? p.1 = some p.2) ∧ LexD P o d1 d2 (stV st ts) (Str.ofString "") lo ∧ SioD P txt (q : Int) so
  nX : g.get? x = none
  nDx : g.get? dx = none
  nO : g.get? o = none
  nD : g.get? d = none
  l1 : dx < x
  l2 : d < o
  l3 : x < d
  q1 : g.get? d1 = some dqObj
  q2 : g.get? d2 = some dqObj
section
variable {w : World} {p : Program} {loose : List Str} {mean : ExcName → Option Value} {mg mb : Str → Option Value} {base h₀ : Heap} {dp un : Nat} {gd : Option (List Code)} {outer : List Env} {s : Shared} {env : Env} {L : Addr} {m : Str → Option Value} {A₀ : Around} {Q E : Value → Shared → Prop} {x dx o d d1 d2 : Addr} {lo so : Obj} {txt : Str} {q : Nat} {st0 st' : Option Str} {tkn' : Str} {q' : Nat} {b' : Bool} {tss : Tok}
theorem hide4 (X : (hd.heap_39 w.params).In h₀) (T : Top p loose mean mg mb h₀) (B : Below A₀ base outer h₀) (F : Fr h₀ L s.heap m) (N : News h₀ L s.heap (LL x dx o d lo so)) (hA : A₀.deeper env = Ar dp un gd (env :: outer)) (hf : env.frame = some L) (hk : env.scope.kind = .function) :
    ∃ g, Cx w p loose mean mg mb base dp un gd (env :: outer) g s ∧ Fr h₀ L g m ∧ g.get? x = none ∧ g.get? dx = none ∧ g.get? o = none ∧ g.get? d = none ∧ h₀.StaysIn g ∧
      ∀ h' lo' so', g.StaysIn h' → (∀ p ∈ LL x dx o d lo' so', h'.get? p.1 = some p.2) → Fr h₀ L h' m ∧ News h₀ L h' (LL x dx o d lo' so') := by
  obtain ⟨C, FG⟩ := Cx.hide (hid := LL x dx o d lo so) X T B F N hA (by rw [hA]) hf hk
  refine ⟨_, C, FG, hide_none (.head _), hide_none (.tail _ (.head _)), hide_none (.tail _ (.tail _ (.head _))), hide_none (.tail _ (.tail _ (.tail _ (.head _)))), FG.keep, fun h' lo' so' st e => ⟨fr_stays FG st, fun p hp => ⟨e p hp, ?_⟩⟩⟩
  rcases List.mem_cons.mp hp with rfl | hp
  · exact (N _ (.head _)).2
  · rcases List.mem_cons.mp hp with rfl | hp
    · exact (N (dx, lo) (.tail _ (.head _))).2
    · rcases List.mem_cons.mp hp with rfl | hp
      · exact (N _ (.tail _ (.tail _ (.head _)))).2
      · rcases List.mem_cons.mp hp with rfl | hp
        · exact (N (d, so) (.tail _ (.tail _ (.tail _ (.head _))))).2
        · cases hp
theorem read_token_K (X : (hd.heap_39 w.params).In h₀) (T : Top p loose mean mg mb h₀) (B : Below A₀ base outer h₀) (F : Fr h₀ L s.heap m) (N : News h₀ L s.heap (LL x dx o d lo so)) (hA : A₀.deeper env = Ar dp un gd (env :: outer)) (hf : env.frame = some L) (hk : env.scope.kind = .function) (hroom : dp + 20 < recursionLimit)
    (LS : LexD w.params o d1 d2 (stV st0 tss) (Str.ofString "") lo) (S : SioD w.params txt (q : Int) so) (l1 : dx < x) (l2 : d < o) (l3 : x < d) (hx : txt.length < 1000) (R : LexRun txt st' tkn' q' b' st0 (Str.ofString "") q false)
    (hA' : (0 < tkn'.length ∧ tkn'.length < 1000) ∨ (tkn' = Str.ofString "" ∧ b' = false))
    (k : ∀ h' tk lo' so' ts v, ((0 < tkn'.length ∧ ∃ t, v = .str tkn' t) ∨ (tkn' = Str.ofString "" ∧ v = .none)) → Fr h₀ L h' m → News h₀ L h' (LL x dx o d lo' so') → LexD w.params o d1 d2 (stV st' ts) (Str.ofString "") lo' → SioD w.params txt (q' : Int) so' → Q v { s with heap := h', toks := tk }) :
    wpAny (model PG w) (A₀.deeper env) (call (.ref 731) [.ref x]) Q E s := by
  obtain ⟨g, C, FG, n1, n2, n3, n4, _, back⟩ := hide4 X T B F N hA hf hk
  rw [hA]
  refine read_token C hroom (N _ (.head _)).1 n1 (N (dx, lo) (.tail _ (.head _))).1 n2 (N _ (.tail _ (.tail _ (.head _)))).1 (N (d, so) (.tail _ (.tail _ (.tail _ (.head _))))).1 n3 n4 LS S l1 l2 l3 hx R hA' (fun z h' tk lo' so' ts t st e LS' S' => ?_) fun z h' tk lo' so' ts st e LS' S' => ?_
  · obtain ⟨F', N'⟩ := back h' lo' so' st e
    exact k h' tk lo' so' ts _ (.inl ⟨z, t, rfl⟩) F' N' LS' S'
  · obtain ⟨F', N'⟩ := back h' lo' so' st e
    exact k h' tk lo' so' ts _ (.inr ⟨z, rfl⟩) F' N' LS' S'
end
theorem next_token {w : World} {dp un : Nat} {gd : Option (List Code)} {s : Shared} {p : Program} {loose : List Str} {mean : ExcName → Option Value} {mg mb : Str → Option Value} {base g : Heap} {outer : List Env} {Q E : Value → Shared → Prop}
    (C : Cx w p loose mean mg mb base dp un gd outer g s) (hroom : dp + 30 < recursionLimit)
    {x dx o d d1 d2 : Addr} {txt : Str} {q : Nat} {st0 : Option Str} (LX : LexSt w.params g x dx o d d1 d2 txt st0 q s.heap) (hx : txt.length < 1000)
    {st' : Option Str} {tkn' : Str} {q' : Nat} {b' : Bool} (R : LexRun txt st' tkn' q' b' st0 (Str.ofString "") q false)
    (hA : (0 < tkn'.length ∧ tkn'.length < 1000) ∨ (tkn' = Str.ofString "" ∧ b' = false))
    (k : ∀ h' tk v, ((0 < tkn'.length ∧ ∃ t, v = .str tkn' t) ∨ (tkn' = Str.ofString "" ∧ v = .none)) → g.StaysIn h' → LexSt w.params g x dx o d d1 d2 txt st' q' h' → Q v { s with heap := h', toks := tk }) :
    wpAny (model PG w) (Ar dp un gd outer) (call (.ref 724) [.ref x]) Q E s := by
  obtain ⟨X, T, B, G, Gz⟩ := C
  obtain ⟨⟨lo, so, tss, EE, LS, S⟩, nX, nDx, nO, nD, l1, l2, l3, q1, q2⟩ := LX
  have LX' : ∀ h' lo' so' ts, (∀ p ∈ LL x dx o d lo' so', h'.get? p.1 = some p.2) → LexD w.params o d1 d2 (stV st' ts) (Str.ofString "") lo' → SioD w.params txt (q' : Int) so' → LexSt w.params g x dx o d d1 d2 txt st' q' h' := fun h' lo' so' ts e a b => ⟨⟨lo', so', ts, e, a, b⟩, nX, nDx, nO, nD, l1, l2, l3, q1, q2⟩
  have eX := EE _ (.head _)
  have eDx := EE (dx, lo) (.tail _ (.head _))
  have eO := EE _ (.tail _ (.tail _ (.head _)))
  have eD := EE (d, so) (.tail _ (.tail _ (.tail _ (.head _))))
  obtain ⟨js, k5, rfl⟩ := S
  obtain ⟨ks, v8, rfl⟩ := LS
  replace l1 := ltN l1
  replace l2 := ltN l2
  replace l3 := ltN l3
  refine wpAny_call ?_
  k_dflt (refine' enter X T G Gz (hid4 eX nX eDx nDx eO nO eD nD) ?k6 ?k7 ?k8 ?k9 ?kB ?_ ?c2 ?c3 ?c4 ?c5; (case k6 => k_is); (case k7 => k_is); (case k8 => (show dp < _; omega)); (case k9 => first | exact BindsTo.of_eq rfl | exact binds_K (X.keeps G) rfl (by k_is) rfl rfl rfl);(case c5 => decide); (case kB => exact locs rfl); (case c2 => exact rfl); (case c3 => exact rfl); (case c4 => exact rfl))
  intro L' h₁ _ F N l4 G1
  (try k_lt l4)
  (try dsimp only); (try k_fold)
  iterate 15 ((first | ((with_reducible show wpAny _ _ (truthy (Value.ref _)) _ _ _); (k_dflt (refine' dq_truthy_K ?F ?e ?_; (case F => k_asm); (case e => assumption); intro tk'))) | ((with_reducible show wpAny _ _ (exec (Stmt.If _ _ _ _) _) _ _ _); (refine wpAny_If ?_)) | (k_unfold; (try dsimp only)) | walk1 | (dsimp only; walk1)) <;> (try dsimp only))
  (refine' read_token_K ?k1 ?k2 ?k3 ?k4 ?k5 ?k6 ?k7 ?k8 ?k9 ?kL ?kS ?kl1 ?kl2 ?kl3 ?kx ?kR ?kA ?_)
  case k1 => k_asm
  case k2 => k_asm
  case k3 => k_asm
  case k4 => k_asm
  case k5 => k_asm
  case k6 => exact rfl
  case k7 => exact rfl
  case k8 => exact rfl
  case k9 => k_room
  case kR => assumption
  case kL => exact ⟨_, _, rfl⟩
  case kS => exact ⟨_, _, rfl⟩
  case kl1 => assumption
  case kl2 => assumption
  case kl3 => assumption
  case kx => assumption
  case kA => assumption
  k_whole
  intro h' tk' lo' so' ts' v' V' F' N' L' S'
  rcases V' with ⟨z', t', e''⟩ | ⟨z', e''⟩
  all_goals subst e''
  all_goals (obtain ⟨js', t5', e'⟩ := S'; subst e'; obtain ⟨ks', v8', e2'⟩ := L'; subst e2'; (dsimp only [LL] at N'); (try k_sweep))
  all_goals repeat' ((first | ((with_reducible show wpAny _ _ (truthy (Value.ref _)) _ _ _); (k_dflt (refine' dq_truthy_K ?F ?e ?_; (case F => k_asm); (case e => assumption); intro tk'))) | ((with_reducible show wpAny _ _ (exec (Stmt.If _ _ _ _) _) _ _ _); (refine wpAny_If ?_)) | (k_unfold; (try dsimp only)) | (k_end; wrow_close) | walk1 | (dsimp only; walk1) | (leave1; walk_say "STEP leave1"; try dsimp only) | fail "no step") <;> (try dsimp only))
  all_goals (
    (try dsimp only); (try k_unfold); (try dsimp only)
    have F9 := ‹Fr g _ _ _›
    have N9 := ‹News g _ _ _›)
  · exact k _ _ _ (.inl ⟨z', t', rfl⟩) F9.keep (LX' _ _ _ _ (fun p hp => (N9 p hp).1) ⟨_, _, rfl⟩ ⟨_, _, rfl⟩)
  · exact k _ _ _ (.inr ⟨z', rfl⟩) F9.keep (LX' _ _ _ _ (fun p hp => (N9 p hp).1) ⟨_, _, rfl⟩ ⟨_, _, rfl⟩)
end Mine
end
section

namespace Mine
theorem fillK9 : PySem.Challenge.rw_in0080_01 = PySem.Challenge.rw_in0080_01 ∧ hd.heap_39 = hd.heap_39 := by k_fill; exact ⟨rfl, rfl⟩
section
variable {prog : Program} {w : World} {A : Around} {s : Shared} {g : Heap} {news : List (Addr × Obj)} {K : Frag} {p : Program} {loose : List Str} {mean : ExcName → Option Value} {mg mb : Str → Option Value}
  {R : Result → Shared → Prop} {name qual : Str} {params : Arguments} {body : List Stmt} {scope : Scope} {dV kV doc pm cdv ct oc : Value} {an od : Option Addr} {osl : Array (Option Value)} {f : Addr} {args : Args} {binds : List (Str × Value)}
theorem enterE (X : K.In g) (T : Top p loose mean mg mb g) (G : g.StaysIn s.heap) (Gz : g.objs.size ≤ s.heap.objs.size) (N : ∀ p ∈ news, s.heap.get? p.1 = some p.2 ∧ g.get? p.1 = none)
    (ho : K.lookup f = some ⟨oc, od, .func (fnOf name qual params body scope dV kV doc pm an cdv ct), osl⟩) (hcd : codeIn K cdv qual = true) (hroom : A.depth < recursionLimit)
    (hbind : BindsTo s (fnOf name qual params body scope dV kV doc pm an cdv ct) args binds) (hloc : ∀ y ∈ binds, scope.names.lookup y.1 = some .local)
    (h : ∀ L' h₁, L' = s.heap.objs.size → Fr g L' h₁ (fun y => binds.reverse.lookup y) → News g L' h₁ news → (∀ p ∈ news, p.1 < L') → s.heap.StaysIn h₁ →
      wpAny (model prog w) (A.deeper (envOf qual scope L' f cdv)) (execs body (envOf qual scope L' f cdv))
        (fun fl s' => R (.ok (.ret (match fl with | .ret v => v | _ => .none))) s')
        (fun e s' => wpAny (model prog w) (A.deeper (envOf qual scope L' f cdv)) (leaving (envOf qual scope L' f cdv) e) (fun _ s'' => R (.error e) s'') (fun e' s'' => R (.error e') s'') s')
        { s with heap := h₁, toks := s.toks + binds.length })
    (hco : scope.isCoroutine = false) (hgen : scope.isGenerator = false) (hk : scope.kind = .function)
    (hcell : ∀ x ∈ scope.names, x.2 ≠ .cell) : codeAny (model prog w) A (.call (.ref f) args) R s := by
  refine codeAny_call_def (fd := fnOf name qual params body scope dV kV doc pm an cdv ct) (body := body) (binds := binds) hroom (G _ _ (X _ _ ho)) rfl (T.nolimit.keeps G) ((codeRec_of X hcd).keeps G) rfl hbind hcell hloc (fun h₁ hns hk₁ => ?_) hco hgen hk
  exact h s.heap.objs.size h₁ rfl ⟨hns, fun b o e => hk₁ b o (G b o e), Gz⟩ (fun p hp => ⟨hk₁ _ _ (N p hp).1, Nat.ne_of_lt (Heap.lt_size (N p hp).1), (N p hp).2⟩)
    (fun p hp => Heap.lt_size (N p hp).1) hk₁
end
section
variable {w : World} {p : Program} {loose : List Str} {mean : ExcName → Option Value} {mg mb : Str → Option Value} {base h₀ : Heap} {dp un : Nat} {gd : Option (List Code)} {outer : List Env} {s : Shared} {env : Env} {L : Addr} {m : Str → Option Value} {A₀ : Around} {Q E : Value → Shared → Prop} {x dx o d d1 d2 : Addr} {lo so : Obj} {txt : Str} {q : Nat} {st0 st' : Option Str} {tkn' : Str} {q' : Nat} {b' : Bool} {tss : Tok}
theorem next_token_K (X : (hd.heap_39 w.params).In h₀) (T : Top p loose mean mg mb h₀) (B : Below A₀ base outer h₀) (F : Fr h₀ L s.heap m) (N : News h₀ L s.heap (LL x dx o d lo so)) (hA : A₀.deeper env = Ar dp un gd (env :: outer)) (hf : env.frame = some L) (hk : env.scope.kind = .function) (hroom : dp + 30 < recursionLimit)
    (LS : LexD w.params o d1 d2 (stV st0 tss) (Str.ofString "") lo) (S : SioD w.params txt (q : Int) so) (l1 : dx < x) (l2 : d < o) (l3 : x < d) (q1 : h₀.get? d1 = some dqObj) (q2 : h₀.get? d2 = some dqObj) (hx : txt.length < 1000) (R : LexRun txt st' tkn' q' b' st0 (Str.ofString "") q false)
    (hA' : (0 < tkn'.length ∧ tkn'.length < 1000) ∨ (tkn' = Str.ofString "" ∧ b' = false))
    (k : ∀ h' tk lo' so' ts v, ((0 < tkn'.length ∧ ∃ t, v = .str tkn' t) ∨ (tkn' = Str.ofString "" ∧ v = .none)) → Fr h₀ L h' m → News h₀ L h' (LL x dx o d lo' so') → LexD w.params o d1 d2 (stV st' ts) (Str.ofString "") lo' → SioD w.params txt (q' : Int) so' → Q v { s with heap := h', toks := tk }) :
    wpAny (model PG w) (A₀.deeper env) (call (.ref 724) [.ref x]) Q E s := by
  obtain ⟨g, C, FG, n1, n2, n3, n4, sg, back⟩ := hide4 X T B F N hA hf hk
  rw [hA]
  refine next_token C hroom ⟨⟨lo, so, tss, fun p hp => (N p hp).1, LS, S⟩, n1, n2, n3, n4, l1, l2, l3, sg _ _ q1, sg _ _ q2⟩ hx R hA' fun h' tk v V st LX => ?_
  obtain ⟨⟨lo', so', ts, EE, LS', S'⟩, _⟩ := LX
  obtain ⟨F', N'⟩ := back h' lo' so' st EE
  exact k h' tk lo' so' ts v V F' N' LS' S'
end
theorem next_spec {w : World} {dp un : Nat} {gd : Option (List Code)} {s : Shared} {p : Program} {loose : List Str} {mean : ExcName → Option Value} {mg mb : Str → Option Value} {base g : Heap} {outer : List Env} {Q E : Value → Shared → Prop}
    (C : Cx w p loose mean mg mb base dp un gd outer g s) (hroom : dp + 40 < recursionLimit)
    {x dx o d d1 d2 : Addr} {txt : Str} {q : Nat} {st0 : Option Str} (LX : LexSt w.params g x dx o d d1 d2 txt st0 q s.heap) (hx : txt.length < 1000)
    {st' : Option Str} {tkn' : Str} {q' : Nat} {b' : Bool} (R : LexRun txt st' tkn' q' b' st0 (Str.ofString "") q false)
    (hA : (0 < tkn'.length ∧ tkn'.length < 1000) ∨ (tkn' = Str.ofString "" ∧ b' = false))
    (k1 : ∀ h' tk t, 0 < tkn'.length → g.StaysIn h' → LexSt w.params g x dx o d d1 d2 txt st' q' h' → Q (.str tkn' t) { s with heap := h', toks := tk })
    (k2 : ∀ h' tk e t lo so, tkn' = Str.ofString "" → RaisedS base g outer e (.type "StopIteration") t [] (LL x dx o d lo so) h' → g.UpToSlots h' → E (.ref e) { s with heap := h', toks := tk }) :
    wpAny (model PG w) (Ar dp un gd outer) (call (.ref 760) [.ref x]) Q E s := by
  obtain ⟨X, T, B, G, Gz⟩ := C
  obtain ⟨⟨lo, so, tss, EE, LS, S⟩, nX, nDx, nO, nD, l1, l2, l3, q1, q2⟩ := LX
  have LX' : ∀ h' lo' so' ts, (∀ p ∈ LL x dx o d lo' so', h'.get? p.1 = some p.2) → LexD w.params o d1 d2 (stV st' ts) (Str.ofString "") lo' → SioD w.params txt (q' : Int) so' → LexSt w.params g x dx o d d1 d2 txt st' q' h' := fun h' lo' so' ts e a b => ⟨⟨lo', so', ts, e, a, b⟩, nX, nDx, nO, nD, l1, l2, l3, q1, q2⟩
  have eX := EE _ (.head _)
  have eDx := EE (dx, lo) (.tail _ (.head _))
  have eO := EE _ (.tail _ (.tail _ (.head _)))
  have eD := EE (d, so) (.tail _ (.tail _ (.tail _ (.head _))))
  obtain ⟨k1', k2', k3', k4', k5', rfl⟩ := S
  obtain ⟨ks, v8, rfl⟩ := LS
  replace l1 := ltN l1
  replace l2 := ltN l2
  replace l3 := ltN l3
  refine wpAny_call ?_
  k_dflt (refine' enterE X T G Gz (hid4 eX nX eDx nDx eO nO eD nD) ?k6 ?k7 ?k8 ?k9 ?kB ?_ ?c2 ?c3 ?c4 ?c5; (case k6 => k_is); (case k7 => k_is); (case k8 => (show dp < _; omega)); (case k9 => first | exact BindsTo.of_eq rfl | exact binds_K (X.keeps G) rfl (by k_is) rfl rfl rfl);(case c5 => decide); (case kB => exact locs rfl); (case c2 => exact rfl); (case c3 => exact rfl); (case c4 => exact rfl))
  intro L' h₁ _ F N l4 G1
  (try k_lt l4)
  (try dsimp only); (try k_fold)
  iterate 15 ((first | (with_reducible show wpAny _ _ (call (Value.ref 724) _) _ _ _) | ((k_dflt (refine' leave_raiseS ?k1 ?k0 ?k2 ?k3 ?_; (case k0 => first | assumption | exact Heap.MadeExc.of (by assumption)); (case k2 => assumption); (case k1 => assumption); (case k3 => k_asm); k_whole; intro h' t' S' R' U'; (try dsimp only at S' R' U' ⊢)))) | ((with_reducible show wpAny _ _ (exec (Stmt.If _ _ _ _) _) _ _ _); (refine wpAny_If ?_)) | (k_unfold; (try dsimp only)) | walk1 | (dsimp only; walk1)) <;> (try dsimp only))
  (refine' next_token_K ?k1 ?k2 ?k3 ?k4 ?k5 ?k6 ?k7 ?k8 ?k9 ?kL ?kS ?kl1 ?kl2 ?kl3 ?kq1 ?kq2 ?kx ?kR ?kA ?_)
  case k1 => k_asm
  case k2 => k_asm
  case k3 => k_asm
  case k4 => k_asm
  case k5 => k_asm
  case k6 => exact rfl
  case k7 => exact rfl
  case k8 => exact rfl
  case k9 => k_room
  case kR => assumption
  case kL => exact ⟨_, _, rfl⟩
  case kS => exact ⟨_, _, rfl⟩
  case kl1 => assumption
  case kl2 => assumption
  case kl3 => assumption
  case kq1 => assumption
  case kq2 => assumption
  case kx => assumption
  case kA => assumption
  k_whole
  intro h' tk' lo' so' ts' v' V' F' N' L' S'
  rcases V' with ⟨z', t', e''⟩ | ⟨z', e''⟩
  all_goals subst e''
  all_goals (obtain ⟨js', t5', e'⟩ := S'; subst e'; obtain ⟨ks', v8', e2'⟩ := L'; subst e2'; (dsimp only [LL] at N'); (try k_sweep))
  all_goals repeat' ((first | ((k_dflt (refine' leave_raiseS ?k1 ?k0 ?k2 ?k3 ?_; (case k0 => first | assumption | exact Heap.MadeExc.of (by assumption)); (case k2 => assumption); (case k1 => assumption); (case k3 => k_asm); k_whole; intro h' t' S' R' U'; (try dsimp only at S' R' U' ⊢)))) | ((with_reducible show wpAny _ _ (exec (Stmt.If _ _ _ _) _) _ _ _); (refine wpAny_If ?_)) | (k_unfold; (try dsimp only)) | (k_end; wrow_close) | walk1 | (dsimp only; walk1) | (leave1; walk_say "STEP leave1"; try dsimp only) | fail "no step") <;> (try dsimp only))
  · (try dsimp only); (try k_unfold); (try dsimp only)
    have F9 := ‹Fr g _ _ _›
    have N9 := ‹News g _ _ _›
    exact k1 _ _ _ z' F9.keep (LX' _ _ _ _ (fun p hp => (N9 p hp).1) ⟨_, _, rfl⟩ ⟨_, _, rfl⟩)
  · exact k2 _ _ _ _ _ _ z' (by assumption) (by assumption)
end Mine
end
section

namespace Mine
theorem fillK10 : PySem.Challenge.rw_in0080_01 = PySem.Challenge.rw_in0080_01 ∧ hd.heap_39 = hd.heap_39 := by k_fill; exact ⟨rfl, rfl⟩
section
variable {w : World} {p : Program} {loose : List Str} {mean : ExcName → Option Value} {mg mb : Str → Option Value} {base h₀ : Heap} {dp un un' : Nat} {gd : Option (List Code)} {outer : List Env} {s : Shared} {name : Str} {scope : Scope} {a : Addr} {cd : Value} {L : Addr} {m : Str → Option Value} {A₀ : Around} {Q : Option Value → Shared → Prop} {E : Value → Shared → Prop} {x dx o d d1 d2 S : Addr} {lo so ob : Obj} {txt : Str} {q : Nat} {st0 st' : Option Str} {tkn' : Str} {q' : Nat} {b' : Bool} {tss : Tok}
theorem stop_sub : isSubtype (.type "StopIteration") (.type "StopIteration") = pure true := by rw [isSubtype_type]; kernel_rfl
theorem pyNext_K (X : (hd.heap_39 w.params).In h₀) (T : Top p loose mean mg mb h₀) (B : Below A₀ base outer h₀) (F : Fr h₀ L s.heap m) (N : News h₀ L s.heap ((S, ob) :: LL x dx o d lo so)) (hA : A₀.deeper (envOf name scope L a cd) = Ar dp un gd (envOf name scope L a cd :: outer)) (hk : scope.kind = .function) (hroom : dp + 40 < recursionLimit)
    (LS : LexD w.params o d1 d2 (stV st0 tss) (Str.ofString "") lo) (SS : SioD w.params txt (q : Int) so) (l1 : dx < x) (l2 : d < o) (l3 : x < d) (lS : o < S) (q1 : s.heap.get? d1 = some dqObj) (q2 : s.heap.get? d2 = some dqObj) (n1 : d1 ∉ [x, dx, o, d]) (n2 : d2 ∉ [x, dx, o, d])
    (hx : txt.length < 1000) (R : LexRun txt st' tkn' q' b' st0 (Str.ofString "") q false) (hA' : (0 < tkn'.length ∧ tkn'.length < 1000) ∨ (tkn' = Str.ofString "" ∧ b' = false))
    (kw : ∀ h' tk t lo' so' ts, 0 < tkn'.length → Fr h₀ L h' m → News h₀ L h' ((S, ob) :: LL x dx o d lo' so') → LexD w.params o d1 d2 (stV st' ts) (Str.ofString "") lo' → SioD w.params txt (q' : Int) so' → h'.get? d1 = some dqObj → h'.get? d2 = some dqObj → Q (some (.str tkn' t)) { s with heap := h', toks := tk })
    (kn : ∀ h' tk g', tkn' = Str.ofString "" → KtsTurn (outer.filterMap (·.frame)) h₀ g' → Fr g' L h' m → Below A₀ base outer g' → h'.get? S = some ob → S ≠ L → g'.get? S = none → Q none { s with heap := h', toks := tk }) :
    wpAny (model PG w) (Ar dp un' gd (envOf name scope L a cd :: outer)) (pyNext (.ref x)) Q E s := by
  have N4 : News h₀ L s.heap (LL x dx o d lo so) := fun p hp => N p (.tail _ hp)
  obtain ⟨C, FG⟩ := Cx.hide (w := w) (dp := dp) (un := un) (gd := gd) (hid := LL x dx o d lo so) X T B F N4 hA (by rw [hA]) rfl hk
  have C' : Cx w p loose mean mg mb base dp un' gd (envOf name scope L a cd :: outer) (hideAll s.heap ((LL x dx o d lo so).map (·.1))) s := ⟨C.X, C.T, ⟨rfl, C.B.stays, C.B.frames⟩, C.G, C.Gz⟩
  have NS := N _ (.head _)
  have hS : S ∉ [x, dx, o, d] := fun hm => by
    replace l1 := ltN l1; replace l2 := ltN l2; replace l3 := ltN l3; replace lS := ltN lS
    simp only [List.mem_cons, List.not_mem_nil, or_false] at hm
    rcases hm with e | e | e | e <;> (subst e; omega)
  have gS : (hideAll s.heap ((LL x dx o d lo so).map (·.1))).get? S = some ob := hideAll_get _ NS.1 hS
  have g1 : (hideAll s.heap ((LL x dx o d lo so).map (·.1))).get? d1 = some dqObj := hideAll_get _ q1 n1
  have g2 : (hideAll s.heap ((LL x dx o d lo so).map (·.1))).get? d2 = some dqObj := hideAll_get _ q2 n2
  have LX : LexSt w.params (hideAll s.heap ((LL x dx o d lo so).map (·.1))) x dx o d d1 d2 txt st0 q s.heap :=
    ⟨⟨lo, so, tss, fun p hp => (N4 p hp).1, LS, SS⟩, hide_none (.head _), hide_none (.tail _ (.head _)), hide_none (.tail _ (.tail _ (.head _))), hide_none (.tail _ (.tail _ (.tail _ (.head _)))), l1, l2, l3, g1, g2⟩
  have IX : InstAt s.heap x (instObj 763 dx) 763 (some lo) := by
    obtain ⟨_, _, rfl⟩ := LS
    exact InstAt.of_news N4 (.head _) (.tail _ (.head _))
  refine owit_next (C := 763) (f := 760) F X IX (by k_is) (by k_is) ?_
  refine next_spec C' hroom LX hx R hA' (fun h' tk t z st LX' => ?_) fun h' tk e t lo' so' z RS U => ?_
  · obtain ⟨⟨lo', so', ts, EE, LS', S'⟩, _⟩ := LX'
    refine kw h' tk t lo' so' ts z (fr_stays FG st) (fun p hp => ?_) LS' S' (st _ _ g1) (st _ _ g2)
    rcases List.mem_cons.mp hp with rfl | hp
    · exact ⟨st _ _ gS, NS.2⟩
    · refine ⟨EE p hp, ?_⟩
      rcases List.mem_cons.mp hp with rfl | hp
      · exact (N4 _ (.head _)).2
      · rcases List.mem_cons.mp hp with rfl | hp
        · exact (N4 (dx, lo) (.tail _ (.head _))).2
        · rcases List.mem_cons.mp hp with rfl | hp
          · exact (N4 _ (.tail _ (.tail _ (.head _)))).2
          · rcases List.mem_cons.mp hp with rfl | hp
            · exact (N4 (d, so) (.tail _ (.tail _ (.tail _ (.head _))))).2
            · cases hp
  · obtain ⟨⟨BB, hB, hBG, hl, hfl, hnew⟩, htup⟩ := RS
    obtain ⟨g', TT, FF, KK⟩ := kts_ground B FG hBG hfl.1 U
    obtain ⟨oe, hoe, hoec⟩ := hfl.there
    have hT : ({ s with heap := h', toks := tk } : Shared).TypeIs (.ref e) "StopIteration" := (show ∃ o, h'.get? e = some o ∧ o.cls = .type "StopIteration" from ⟨oe, hoe, hoec⟩)
    have hSB : BB.get? S = some ob := hBG S ob gS fun hm => by
      rcases kts_mem hm with z | z
      · exact NS.2.1 z
      · obtain ⟨_, o', ho', _⟩ := B.frames.mem z
        rw [NS.2.2] at ho'; cases ho'
    unfold OwitStop
    refine wpAny_isInstance hT stop_sub ?_
    show (if true = true then Q none _ else E (.ref e) _)
    rw [if_pos rfl]
    exact kn h' tk g' z TT FF KK (hfl.1 _ _ hSB) NS.2.1 (TT.none_ _ NS.2.2)
end
inductive LexWords (txt : Str) : List Str → Option Str → Nat → Prop
  | done {st st' : Option Str} {q q' : Nat} : LexRun txt st' (Str.ofString "") q' false st (Str.ofString "") q false → LexWords txt [] st q
  | word {st st' : Option Str} {q q' : Nat} {tkn : Str} {b : Bool} {ws : List Str} : 0 < tkn.length → tkn.length < 1000 → LexRun txt st' tkn q' b st (Str.ofString "") q false → LexWords txt ws st' q' → LexWords txt (tkn :: ws) st q
inductive LStrs : List Value → List Str → Prop
  | nil : LStrs [] []
  | cons {vs : List Value} {ws : List Str} {x : Str} {t : Tok} : LStrs vs ws → LStrs (.str x t :: vs) (x :: ws)
noncomputable abbrev lobj (acc : Array Value) (c : Nat) : Obj := { cls := .type "list", dict := none, data := .seq acc c, slots := #[] }
theorem empty_len : (Str.ofString "").length = 0 := by decide +kernel
section
variable {w : World} {p : Program} {loose : List Str} {mean : ExcName → Option Value} {mg mb : Str → Option Value} {base h₀ : Heap} {dp un : Nat} {gd : Option (List Code)} {outer : List Env} {name : Str} {scope : Scope} {a : Addr} {cd : Value} {L : Addr} {m : Str → Option Value} {A₀ : Around} {x dx o d d1 d2 S : Addr} {txt : Str}
theorem ext_loop (X : (hd.heap_39 w.params).In h₀) (T : Top p loose mean mg mb h₀) (B : Below A₀ base outer h₀) (hA : A₀.deeper (envOf name scope L a cd) = Ar dp un gd (envOf name scope L a cd :: outer)) (hk : scope.kind = .function) (hroom : dp + 40 < recursionLimit)
    (l1 : dx < x) (l2 : d < o) (l3 : x < d) (lS : o < S) (n1 : d1 ∉ [x, dx, o, d]) (n2 : d2 ∉ [x, dx, o, d]) (m1 : d1 ≠ S) (m2 : d2 ≠ S)
    (hx : txt.length < 1000) : ∀ {ws : List Str} {st : Option Str} {q : Nat}, LexWords txt ws st q → ∀ (s : Shared) (acc : Array Value) (c un' : Nat) (lo so : Obj) (tss : Tok) {R : Result → Shared → Prop},
    Fr h₀ L s.heap m → News h₀ L s.heap ((S, lobj acc c) :: LL x dx o d lo so) → LexD w.params o d1 d2 (stV st tss) (Str.ofString "") lo → SioD w.params txt (q : Int) so → s.heap.get? d1 = some dqObj → s.heap.get? d2 = some dqObj → acc.size + ws.length ≤ sizeLine →
    (∀ h' tk vs c' g', LStrs vs ws → KtsTurn (outer.filterMap (·.frame)) h₀ g' → Fr g' L h' m → Below A₀ base outer g' → h'.get? S = some (lobj (acc ++ vs.toArray) c') → S ≠ L → g'.get? S = none → R (.ok (.ret .none)) { s with heap := h', toks := tk }) →
    codeAny (model PG w) (Ar dp un' gd (envOf name scope L a cd :: outer)) (.builtin "list.extend.loop" ⟨[.ref S, .ref x, .none], []⟩) R s := by
  intro ws st q W
  induction W with
  | done R0 =>
    intro s acc c un' lo so tss R F N LS SS q1 q2 _ hR
    refine codeAny_builtin PySem.F.entry_extend_loop ?_
    rw [Around.under_plainId PySem.F.plain_extend_loop _]
    show wpAny _ (Ar dp (un' + 1) gd (envOf name scope L a cd :: outer)) (pyNext (.ref x) >>= _) _ _ s
    refine wpAny_bind (pyNext_K X T B F N hA hk hroom LS SS l1 l2 l3 lS q1 q2 n1 n2 hx R0 (.inr ⟨rfl, rfl⟩) (fun h' tk t lo' so' ts z => ?_) fun h' tk g' _ TT FF KK hS nL nS => ?_)
    · rw [empty_len] at z; exact absurd z (Nat.lt_irrefl _)
    · refine wpAny_pure (hR h' tk [] c g' .nil TT FF KK ?_ nL nS)
      simpa using hS
  | word z zl R0 _ ih =>
    rename_i tkn b ws' _
    intro s acc c un' lo so tss R F N LS SS q1 q2 hsz hR
    refine codeAny_builtin PySem.F.entry_extend_loop ?_
    rw [Around.under_plainId PySem.F.plain_extend_loop _]
    show wpAny _ (Ar dp (un' + 1) gd (envOf name scope L a cd :: outer)) (pyNext (.ref x) >>= _) _ _ s
    refine wpAny_bind (pyNext_K X T B F N hA hk hroom LS SS l1 l2 l3 lS q1 q2 n1 n2 hx R0 (.inl ⟨z, zl⟩) (fun h' tk t lo' so' ts _ F' N' LS' S' q1' q2' => ?_) fun h' tk g' z' => ?_)
    · have hS' := (N' _ (.head _)).1
      have hS : S ∉ [x, dx, o, d] := fun hm => by
        replace l1 := ltN l1; replace l2 := ltN l2; replace l3 := ltN l3; replace lS := ltN lS
        simp only [List.mem_cons, List.not_mem_nil, or_false] at hm
        rcases hm with e | e | e | e <;> (subst e; omega)
      have oth : ∀ b o, b ≠ S → h'.get? b = some o → (h'.update S (Obj.mapSeq (·.push (.str tkn t)))).get? b = some o := fun b o hb e => (Heap.get?_update_other _ _ (Ne.symm hb)).trans e
      have self := Heap.get?_update_self (Obj.mapSeq (·.push (Value.str tkn t))) hS' rfl
      have F2 : Fr h₀ L (h'.update S (Obj.mapSeq (·.push (.str tkn t)))) m := Fr.update F' N' (.head _) ⟨Heap.size_after_update .., fun b hb => Heap.get?_update_other _ _ (Ne.symm hb)⟩
      have N2 : News h₀ L (h'.update S (Obj.mapSeq (·.push (.str tkn t)))) ((S, lobj (acc.push (.str tkn t)) _) :: LL x dx o d lo' so') := fun p hp => by
        rcases List.mem_cons.mp hp with rfl | hp
        · exact ⟨self, (N' _ (.head _)).2⟩
        · refine ⟨oth _ _ (fun e => hS ?_) (N' p (.tail _ hp)).1, (N' p (.tail _ hp)).2⟩
          rw [← e]
          exact List.mem_map_of_mem (f := fun p => p.1) hp
      show wpAny _ _ (updateSeq S (·.push (.str tkn t)) >>= _) _ _ _
      refine wpAny_bind ?_
      have hsz' : acc.size + (ws'.length + 1) ≤ sizeLine := hsz
      refine wpAny_updateSeq hS' rfl (wpAny_pure ⟨plainId_quiet PySem.F.plain_extend_loop _, ih _ _ _ _ _ _ _ F2 N2 LS' S' (oth _ _ m1 q1') (oth _ _ m2 q2') (by rw [Array.size_push]; omega) fun h'' tk' vs c' g' V TT FF KK e nL nS => ?_⟩) (by omega) (by show (acc.push _).size ≤ sizeLine + 1; rw [Array.size_push]; omega)
      refine hR h'' tk' (.str tkn t :: vs) c' g' (.cons V) TT FF KK ?_ nL nS
      rw [e]
      congr 2
      simp
    · rw [z', empty_len] at z; exact absurd z (Nat.lt_irrefl _)
end
end Mine
end
section

namespace Mine
theorem fillK11 : PySem.Challenge.rw_in0080_01 = PySem.Challenge.rw_in0080_01 ∧ hd.heap_39 = hd.heap_39 := by k_fill; exact ⟨rfl, rfl⟩
theorem iter_spec {w : World} {dp un : Nat} {gd : Option (List Code)} {s : Shared} {p : Program} {loose : List Str} {mean : ExcName → Option Value} {mg mb : Str → Option Value} {base : Heap} {outer : List Env} {Q E : Value → Shared → Prop}
    (C : Cx w p loose mean mg mb base dp un gd outer s.heap s) (hroom : dp + 30 < recursionLimit) {x : Addr}
    (k : ∀ h' tk, s.heap.StaysIn h' → Q (.ref x) { s with heap := h', toks := tk }) :
    wpAny (model PG w) (Ar dp un gd outer) (call (.ref 753) [.ref x]) Q E s := by
  obtain ⟨X, T, B, G, Gz⟩ := C
  refine wpAny_call ?_
  k_dflt (refine' enter (news := []) X T (fun _ _ e => e) (Nat.le_refl _) (fun _ h => nomatch h) ?k6 ?k7 ?k8 ?k9 ?kB ?_ ?c2 ?c3 ?c4 ?c5; (case k6 => k_is); (case k7 => k_is); (case k8 => (show dp < _; omega)); (case k9 => first | exact BindsTo.of_eq rfl | exact binds_K (by k_in) rfl (by k_is) rfl rfl rfl);(case c5 => decide); (case kB => exact locs rfl); (case c2 => exact rfl); (case c3 => exact rfl); (case c4 => exact rfl))
  intro L' h₁ _ F N l1 G1
  (try dsimp only); (try k_fold)
  k_steps
  have F9 := ‹Fr s.heap _ _ _›
  exact k _ _ F9.keep
theorem size_none' {h : Heap} {a : Addr} (e : h.objs.size ≤ a) : h.get? a = none := by
  cases q : h.get? a with
  | none => rfl
  | some o => exact absurd (Heap.lt_size q) (Nat.not_lt.mpr e)
section
variable {w : World} {p : Program} {loose : List Str} {mean : ExcName → Option Value} {mg mb : Str → Option Value} {base h₀ : Heap} {dp un : Nat} {gd : Option (List Code)} {outer : List Env} {s : Shared} {name : Str} {scope : Scope} {a : Addr} {cd : Value} {L : Addr} {m : Str → Option Value} {A₀ : Around} {Q E : Value → Shared → Prop} {x dx o d d1 d2 : Addr} {lo so : Obj} {txt : Str} {ws : List Str} {st : Option Str} {q : Nat} {tss : Tok}
theorem list_own (X : (hd.heap_39 w.params).In h₀) (T : Top p loose mean mg mb h₀) (B : Below A₀ base outer h₀) (F : Fr h₀ L s.heap m) (N : News h₀ L s.heap (LL x dx o d lo so)) (hA : A₀.deeper (envOf name scope L a cd) = Ar dp un gd (envOf name scope L a cd :: outer)) (hk : scope.kind = .function) (hroom : dp + 40 < recursionLimit)
    (LS : LexD w.params o d1 d2 (stV st tss) (Str.ofString "") lo) (SS : SioD w.params txt (q : Int) so) (l1 : dx < x) (l2 : d < o) (l3 : x < d) (q1 : s.heap.get? d1 = some dqObj) (q2 : s.heap.get? d2 = some dqObj) (n1 : d1 ∉ [x, dx, o, d]) (n2 : d2 ∉ [x, dx, o, d])
    (hx : txt.length < 1000) (W : LexWords txt ws st q) (hsz : ws.length ≤ sizeLine)
    (k : ∀ h' tk vs c' g' S, LStrs vs ws → KtsTurn (outer.filterMap (·.frame)) h₀ g' → Fr g' L h' m → Below A₀ base outer g' → h'.get? S = some (lobj vs.toArray c') → S ≠ L → g'.get? S = none → Q (.ref S) { s with heap := h', toks := tk }) :
    wpAny (model PG w) (A₀.deeper (envOf name scope L a cd)) (call (.type "list") [.ref x]) Q E s := by
  rw [hA]
  have IX₀ : InstAt s.heap x (instObj 763 dx) 763 (some lo) := by
    obtain ⟨_, _, rfl⟩ := LS
    exact InstAt.of_news N (.head _) (.tail _ (.head _))
  have eO := Heap.lt_size (N _ (.tail _ (.tail _ (.head _)))).1
  have eX := Heap.lt_size (N _ (.head _)).1
  refine callType_codes (Q₁ := fun obj s₁ => obj = .ref s.heap.objs.size ∧ s₁ = { s with heap := s.heap.push { cls := .type "list", data := .seq #[] } }) PySem.F.called_list (PySem.F.typeCall_list_1 _) PySem.F.entry_list_init
    (code_list_new _ ⟨rfl, rfl⟩) fun obj s₁ h₁ => ?_
  obtain ⟨rfl, rfl⟩ := h₁
  have hS : (s.heap.push { cls := .type "list", data := .seq #[] }).get? s.heap.objs.size = some (lobj #[] 0) := Heap.get?_push_size _ rfl
  refine ⟨⟨_, hS, rfl⟩, PySem.F.args_list_init_2 _ _, ?_⟩
  have Fp : Fr h₀ L (s.heap.push { cls := .type "list", data := .seq #[] }) m := fr_stays F fun b o e => Heap.get?_push_of_some _ e
  have Sn : s.heap.get? s.heap.objs.size = none := size_none' (Nat.le_refl _)
  have nL : s.heap.objs.size ≠ L := fun e => by
    obtain ⟨oL, _, _, hL, _⟩ := F.ns
    rw [← e, Sn] at hL; cases hL
  have nh : h₀.get? s.heap.objs.size = none := by
    cases z : h₀.get? s.heap.objs.size with
    | none => rfl
    | some o' => have := F.keep _ _ z; rw [Sn] at this; cases this
  generalize hSe : s.heap.objs.size = S at *
  show wpAny _ _ (do let old ← Builtin.List.listItems (.ref S); Builtin.List.listUpdate (.ref S) (fun _ => #[]); letGo old.toList.reverse; Builtin.List.listExtendWith (.ref S) (.ref x) .none) _ _ _
  refine wpAny_bind ?_
  unfold Builtin.List.listItems
  refine wpAny_bind (wpAny_seqItems hS rfl (wpAny_pure ?_))
  show wpAny _ _ (updateSeq S (fun _ => #[]) >>= fun _ => letGo (#[] : Array Value).toList.reverse >>= fun _ => Builtin.List.listExtendWith (.ref S) (.ref x) .none) _ _ _
  refine wpAny_bind (wpAny_updateSeq hS rfl ?_)
  have hS₂ := Heap.get?_update_self (Obj.mapSeq (fun _ => (#[] : Array Value))) hS rfl
  refine wpAny_bind (wpAny_letGo ?_)
  have h1 : Builtin.List.listSameRef (.ref S) (.ref x) = false := by
    have : S ≠ x := fun e => Nat.lt_irrefl x (e ▸ eX)
    simp [Builtin.List.listSameRef, this]
  unfold Builtin.List.listExtendWith
  have oth : ∀ b o', b ≠ S → s.heap.get? b = some o' → ((s.heap.push { cls := .type "list", data := .seq #[] }).update S (Obj.mapSeq fun _ => (#[] : Array Value))).get? b = some o' :=
    fun b o' hb e => (Heap.get?_update_other _ _ (Ne.symm hb)).trans (Heap.get?_push_of_some _ e)
  have nxt : ∀ b, b < S → b ≠ S := fun b e z => Nat.lt_irrefl _ (z ▸ e)
  have eLt : ∀ p ∈ LL x dx o d lo so, p.1 < S := fun p hp => hSe ▸ Heap.lt_size (N p hp).1
  have N₂ : News h₀ L ((s.heap.push { cls := .type "list", data := .seq #[] }).update S (Obj.mapSeq fun _ => (#[] : Array Value))) ((S, lobj #[] _) :: LL x dx o d lo so) := fun p hp => by
    rcases List.mem_cons.mp hp with rfl | hp
    · exact ⟨hS₂, nL, nh⟩
    · exact ⟨oth _ _ (nxt _ (eLt p hp)) (N p hp).1, (N p hp).2⟩
  have F₂ : Fr h₀ L ((s.heap.push { cls := .type "list", data := .seq #[] }).update S (Obj.mapSeq fun _ => (#[] : Array Value))) m := Fr.update (o := lobj #[] 0) Fp (news := [(S, lobj #[] 0)]) (fun p hp => by
    rcases List.mem_cons.mp hp with rfl | hp
    · exact ⟨hS, nL, nh⟩
    · cases hp) (.head _) ⟨Heap.size_after_update .., fun b hb => Heap.get?_update_other _ _ (Ne.symm hb)⟩
  have q1' := oth _ _ (nxt _ (hSe ▸ Heap.lt_size q1)) q1
  have q2' := oth _ _ (nxt _ (hSe ▸ Heap.lt_size q2)) q2
  have m1 : d1 ≠ S := nxt _ (hSe ▸ Heap.lt_size q1)
  have m2 : d2 ≠ S := nxt _ (hSe ▸ Heap.lt_size q2)
  clear hS₂ Fp hS IX₀
  generalize (s.heap.push { cls := .type "list", data := .seq #[] }).update S (Obj.mapSeq fun _ => (#[] : Array Value)) = H₂ at *
  have IX₂ : InstAt H₂ x (instObj 763 dx) 763 (some lo) := by
    obtain ⟨_, _, rfl⟩ := LS
    exact InstAt.of_news N₂ (.tail _ (.head _)) (.tail _ (.tail _ (.head _)))
  refine wpAny_bind (IX₂.type.here ?_)
  have h2 : (Value.ref 763 == Value.type "list") = false := by decide
  have h3 : (Value.ref 763 == Value.type "tuple") = false := by decide
  simp only [h1, h2, h3, Bool.or_false, Bool.false_eq_true, if_false]
  refine wpAny_bind (owit_iter (C := 763) (f := 753) F₂ X IX₂ (by k_is) (by k_is) ?_)
  have C₁ := Cx.call (w := w) (dp := dp) (un := un) (gd := gd) (s := { s with heap := H₂ }) X T B F₂ hA rfl hk
  refine iter_spec (dp := dp) (un := un + 2) ⟨C₁.X, C₁.T, ⟨rfl, C₁.B.stays, C₁.B.frames⟩, C₁.G, C₁.Gz⟩ (show dp + 30 < recursionLimit by omega) fun h₃ tk₃ st₃ => ?_
  have F₃ := fr_stays F₂ st₃
  have N₃ := news_stays N₂ st₃
  have IX₃ : InstAt h₃ x (instObj 763 dx) 763 (some lo) := by
    obtain ⟨_, _, rfl⟩ := LS
    exact InstAt.of_news N₃ (.tail _ (.head _)) (.tail _ (.tail _ (.head _)))
  refine owit_it (C := 763) F₃ X IX₃ (g := .ref 760) (by k_is) ?_
  refine wpAny_bind (wpAny_holding ?_)
  unfold Builtin.List.listLengthHint
  refine wpAny_bind (wpAny_bind (IX₃.type.here ((looks_findIn (X.keeps F₃.keep) (r := none) (by k_is)).here ?_)))
  show wpAny _ _ (specialOf (Value.ref x) (Str.ofString "__length_hint__") >>= _) _ _ _
  refine wpAny_bind (wpAny_bind (IX₃.type.here ((looks_findIn (X.keeps F₃.keep) (r := none) (by k_is)).here ?_)))
  refine wpAny_pure ?_
  show wpAny _ _ (rule "list.extend.makes-room" >>= fun _ => Builtin.List.listTouch (.ref S) >>= fun _ =>
    again (.builtin "list.extend.loop" ⟨[.ref S, .ref x, .none], []⟩)) _ _ _
  refine wpAny_bind (wpAny_rule ?_)
  refine wpAny_bind ?_
  show wpAny _ _ (updateSeq S (·.push .none) >>= fun _ => updateSeq S (·.pop)) _ _ _
  obtain ⟨c₃, hS₃⟩ : ∃ c, h₃.get? S = some (lobj #[] c) := ⟨_, (N₃ _ (.head _)).1⟩
  refine wpAny_bind (wpAny_updateSeq hS₃ rfl ?_)
  have hS₄ := Heap.get?_update_self (Obj.mapSeq (·.push Value.none)) hS₃ rfl
  refine wpAny_updateSeq (hz := by seq_fits) hS₄ rfl ?_
  have hS₅ := Heap.get?_update_self (Obj.mapSeq (·.pop)) hS₄ rfl
  obtain ⟨c₅, hS₆⟩ : ∃ c, ((h₃.update S (Obj.mapSeq (·.push Value.none))).update S (Obj.mapSeq (·.pop))).get? S = some (lobj #[] c) := ⟨_, hS₅⟩
  have oth₃ : ∀ b o', b ≠ S → h₃.get? b = some o' → ((h₃.update S (Obj.mapSeq (·.push Value.none))).update S (Obj.mapSeq (·.pop))).get? b = some o' :=
    fun b o' hb e => (Heap.get?_update_other _ _ (Ne.symm hb)).trans ((Heap.get?_update_other _ _ (Ne.symm hb)).trans e)
  have N₅ : News h₀ L ((h₃.update S (Obj.mapSeq (·.push Value.none))).update S (Obj.mapSeq (·.pop))) ((S, lobj #[] c₅) :: LL x dx o d lo so) := fun p hp => by
    rcases List.mem_cons.mp hp with rfl | hp
    · exact ⟨hS₆, nL, nh⟩
    · exact ⟨oth₃ _ _ (nxt _ (eLt p hp)) (N₃ p (.tail _ hp)).1, (N p hp).2⟩
  have F₅ : Fr h₀ L ((h₃.update S (Obj.mapSeq (·.push Value.none))).update S (Obj.mapSeq (·.pop))) m := Fr.update F₃ N₃ (.head _) ⟨(Heap.size_after_update ..).trans (Heap.size_after_update ..), fun b hb => (Heap.get?_update_other _ _ (Ne.symm hb)).trans (Heap.get?_update_other _ _ (Ne.symm hb))⟩
  refine wpAny_pure ⟨plainId_quiet PySem.F.plain_extend_loop _, ?_⟩
  refine ext_loop (m := m) X T B hA hk hroom l1 l2 l3 eO n1 n2 m1 m2 hx W _ #[] c₅ (un + 1) lo so tss ?_ ?_ LS SS ?_ ?_ ?_ ?_
  · exact F₅
  · exact N₅
  · exact oth₃ _ _ m1 (st₃ _ _ q1')
  · exact oth₃ _ _ m2 (st₃ _ _ q2')
  · simpa using hsz
  · intro h' tk vs c' g' V TT FF KK e nL' nS
    exact ⟨rfl, k h' tk vs c' g' S V TT FF KK (by rw [e]; simp) nL' nS⟩
end
end Mine
end
section

namespace Mine
theorem fillK3 : PySem.Challenge.rw_in0080_01 = PySem.Challenge.rw_in0080_01 ∧ hd.heap_39 = hd.heap_39 := by k_fill; exact ⟨rfl, rfl⟩
theorem size_none {h : Heap} {a : Addr} (e : h.objs.size ≤ a) : h.get? a = none := by
  cases q : h.get? a with
  | none => rfl
  | some o => exact absurd (Heap.lt_size q) (Nat.not_lt.mpr e)
theorem fresh_ne {h₀ h : Heap} {L : Addr} {news : List (Addr × Obj)} {a : Addr} (N : News h₀ L h news) (e : h.get? a = none) : ∀ p ∈ news, p.1 ≠ a := fun p hp q => by
  have := (N p hp).1; rw [q, e] at this; cases this
theorem news_new {h₀ h h' : Heap} {L : Addr} {m : Str → Option Value} {news : List (Addr × Obj)} {a : Addr} {o : Obj} (F : Fr h₀ L h m) (N : News h₀ L h' news) (e : h.get? a = none) (e' : h'.get? a = some o) : News h₀ L h' ((a, o) :: news) := fun p hp => by
  rcases List.mem_cons.mp hp with rfl | hp
  · refine ⟨e', fun q => ?_, ?_⟩
    · obtain ⟨oL, _, _, hL, _⟩ := F.ns
      dsimp only at q
      rw [← q, e] at hL; cases hL
    · cases q : h₀.get? a with
      | none => rfl
      | some o' => have := F.keep _ _ q; rw [e] at this; cases this
  · exact N p hp
theorem sio_K {w : World} {p : Program} {loose : List Str} {mean : ExcName → Option Value} {mg mb : Str → Option Value} {base h₀ : Heap} {dp un : Nat} {gd : Option (List Code)} {outer : List Env} {s : Shared} {env : Env} {L : Addr} {m : Str → Option Value} {news : List (Addr × Obj)} {A₀ : Around} {Q E : Value → Shared → Prop} {x : Str} {t : Tok}
    (X : (hd.heap_39 w.params).In h₀) (T : Top p loose mean mg mb h₀) (B : Below A₀ base outer h₀) (F : Fr h₀ L s.heap m) (N : News h₀ L s.heap news) (hA : A₀.deeper env = Ar dp un gd (env :: outer)) (hf : env.frame = some L) (hk : env.scope.kind = .function) (hroom : dp + 5 < recursionLimit)
    (h : ∀ (x0 d0 : Addr) (h' : Heap) (tk : Nat) (o : Obj), Fr h₀ L h' m → News h₀ L h' ((x0, instObj 628 d0) :: (d0, o) :: news) → SioD w.params x 0 o → (∀ p ∈ news, p.1 < d0) → d0 < x0 → Q (.ref x0) { s with heap := h', toks := tk }) :
    wpAny (model PG w) (A₀.deeper env) (call (.ref 628) [.str x t]) Q E s := by
  have C := Cx.call (dp := dp) (un := un) (gd := gd) X T B F hA hf hk
  rw [hA]
  refine wpAny_call (sio_call C hroom x t fun x0 d0 h' tk o st e1 e2 hs n1 lt => ?_)
  have F' := fr_stays F st
  have N' := news_stays N st
  have N2 := news_new F N' (size_none n1) e2
  have N3 := news_new F N2 (size_none (Nat.le_trans n1 (Nat.le_of_lt lt))) e1
  exact h x0 d0 h' tk o F' N3 hs (fun p hp => Nat.lt_of_lt_of_le (Heap.lt_size (N p hp).1) n1) lt
theorem deque_K {w : World} {A : Around} {h₀ : Heap} {s : Shared} {L : Addr} {m : Str → Option Value} {news : List (Addr × Obj)} {Q E : Value → Shared → Prop} (F : Fr h₀ L s.heap m) (N : News h₀ L s.heap news)
    (h : ∀ (d : Addr) (h' : Heap), Fr h₀ L h' m → News h₀ L h' ((d, dqObj) :: news) → (∀ p ∈ news, p.1 < d) → Q (.ref d) { s with heap := h' }) : wpAny (model PG w) A (call (.type "collections.deque") []) Q E s := by
  obtain ⟨hh, gg, dd, tt, oo⟩ := s
  exact deque_new fun d h' st e z => h d h' (fr_stays F st) (news_new F (news_stays N st) (size_none z) e) fun p hp => Nat.lt_of_lt_of_le (Heap.lt_size (N p hp).1) z
theorem list_K {w : World} {p : Program} {loose : List Str} {mean : ExcName → Option Value} {mg mb : Str → Option Value} {base h₀ : Heap} {dp un : Nat} {gd : Option (List Code)} {outer : List Env} {s : Shared} {name : Str} {scope : Scope} {a : Addr} {cd : Value} {L : Addr} {m : Str → Option Value} {A₀ : Around} {Q E : Value → Shared → Prop} {x dx o d d1 d2 e1 e2 : Addr} {lo so : Obj} {txt : Str} {ws : List Str} {st : Option Str} {q : Nat} {tss : Tok}
    (X : (hd.heap_39 w.params).In h₀) (T : Top p loose mean mg mb h₀) (B : Below A₀ base outer h₀) (F : Fr h₀ L s.heap m) (N : News h₀ L s.heap [(e2, dqObj), (e1, dqObj), (o, instObj 628 d), (d, so), (x, instObj 763 dx), (dx, lo)]) (hA : A₀.deeper (envOf name scope L a cd) = Ar dp un gd (envOf name scope L a cd :: outer)) (hk : scope.kind = .function) (hroom : dp + 40 < recursionLimit)
    (LS : LexD w.params o d1 d2 (stV st tss) (Str.ofString "") lo) (SS : SioD w.params txt (q : Int) so) (hdd : (d1 = e1 ∧ d2 = e2) ∨ (d1 = e2 ∧ d2 = e1)) (o1 : dx < x) (o2 : x < d ∧ dx < d) (o3 : d < o) (o4 : o < e1 ∧ d < e1 ∧ x < e1 ∧ dx < e1) (o5 : e1 < e2 ∧ o < e2 ∧ d < e2 ∧ x < e2 ∧ dx < e2)
    (hx : txt.length < 1000) (W : LexWords txt ws st q) (hsz : ws.length ≤ sizeLine)
    (k : ∀ h' tk vs c' g' S, LStrs vs ws → KtsTurn (outer.filterMap (·.frame)) h₀ g' → Fr g' L h' m → Below A₀ base outer g' → h'.get? S = some (lobj vs.toArray c') → S ≠ L → g'.get? S = none → Q (.ref S) { s with heap := h', toks := tk }) :
    wpAny (model PG w) (A₀.deeper (envOf name scope L a cd)) (call (.type "list") [.ref x]) Q E s := by
  have N' : News h₀ L s.heap (LL x dx o d lo so) := fun p hp => N p (by
    simp only [List.mem_cons, List.not_mem_nil, or_false] at hp ⊢
    rcases hp with h | h | h | h <;> simp [h])
  obtain ⟨b1, b2, b3, b4⟩ := o4
  obtain ⟨c0, c1, c2, c3, c4⟩ := o5
  have f1 : e1 ∉ [x, dx, o, d] := fun hm => by
    simp only [List.mem_cons, List.not_mem_nil, or_false] at hm
    rcases hm with e | e | e | e <;> (subst e; exact absurd ‹_ < _› (Nat.lt_irrefl _))
  have f2 : e2 ∉ [x, dx, o, d] := fun hm => by
    simp only [List.mem_cons, List.not_mem_nil, or_false] at hm
    rcases hm with e | e | e | e <;> (subst e; exact absurd ‹_ < _› (Nat.lt_irrefl _))
  have z2 := (N _ (.head _)).1
  have z1 := (N _ (.tail _ (.head _))).1
  rcases hdd with ⟨rfl, rfl⟩ | ⟨rfl, rfl⟩
  · exact list_own X T B F N' hA hk hroom LS SS o1 o3 o2.1 z1 z2 f1 f2 hx W hsz k
  · exact list_own X T B F N' hA hk hroom LS SS o1 o3 o2.1 z2 z1 f2 f1 hx W hsz k
namespace split_specN
noncomputable def S (w : World) (dp un : Nat) (gd : Option (List Code)) (s : Shared) (p : Program) (loose : List Str) (mean : ExcName → Option Value) (mg mb : Str → Option Value) (base : Heap) (outer : List Env) (Q E : Value → Shared → Prop) (x : Str) (t' : Tok) (ws : List Str) : Prop := ∀ (C : Cx w p loose mean mg mb base dp un gd outer s.heap s) (hroom : dp + 60 < recursionLimit) (hx : x.length < 1000) (W : LexWords x ws (some (Str.ofString " ")) 0) (hsz : ws.length ≤ sizeLine) (k : ∀ h' tk vs c' g' l, LStrs vs ws → KtsTurn (outer.filterMap (·.frame)) s.heap g' → g'.StaysIn h' → h'.get? l = some (lobj vs.toArray c') → g'.get? l = none → Q (.ref l) { s with heap := h', toks := tk }), wpAny (model PG w) (Ar dp un gd outer) (call (.ref 775) [.str x t']) Q E s
noncomputable def d : World × Nat × Nat × Option (List Code) × Shared × Program × List Str × (ExcName → Option Value) × (Str → Option Value) × (Str → Option Value) × Heap × List Env × (Value → Shared → Prop) × (Value → Shared → Prop) × Str × Tok × List Str := cex (jW, 0, 0, none, jS, default, [], (fun _ => none), (fun _ => none), (fun _ => none), default, [], (fun _ _ => True), (fun _ _ => True), default, 0, []) fun d => S d.1 d.2.1 d.2.2.1 d.2.2.2.1 d.2.2.2.2.1 d.2.2.2.2.2.1 d.2.2.2.2.2.2.1 d.2.2.2.2.2.2.2.1 d.2.2.2.2.2.2.2.2.1 d.2.2.2.2.2.2.2.2.2.1 d.2.2.2.2.2.2.2.2.2.2.1 d.2.2.2.2.2.2.2.2.2.2.2.1 d.2.2.2.2.2.2.2.2.2.2.2.2.1 d.2.2.2.2.2.2.2.2.2.2.2.2.2.1 d.2.2.2.2.2.2.2.2.2.2.2.2.2.2.1 d.2.2.2.2.2.2.2.2.2.2.2.2.2.2.2.1 d.2.2.2.2.2.2.2.2.2.2.2.2.2.2.2.2
@[irreducible] noncomputable def w : World := d.1
@[irreducible] noncomputable def dp : Nat := d.2.1
@[irreducible] noncomputable def un : Nat := d.2.2.1
@[irreducible] noncomputable def gd : Option (List Code) := d.2.2.2.1
@[irreducible] noncomputable def s : Shared := d.2.2.2.2.1
@[irreducible] noncomputable def L' : Addr := s.heap.objs.size
@[irreducible] noncomputable def p : Program := d.2.2.2.2.2.1
@[irreducible] noncomputable def loose : List Str := d.2.2.2.2.2.2.1
@[irreducible] noncomputable def mean : ExcName → Option Value := d.2.2.2.2.2.2.2.1
@[irreducible] noncomputable def mg : Str → Option Value := d.2.2.2.2.2.2.2.2.1
@[irreducible] noncomputable def mb : Str → Option Value := d.2.2.2.2.2.2.2.2.2.1
@[irreducible] noncomputable def base : Heap := d.2.2.2.2.2.2.2.2.2.2.1
@[irreducible] noncomputable def outer : List Env := d.2.2.2.2.2.2.2.2.2.2.2.1
@[irreducible] noncomputable def Q : Value → Shared → Prop := d.2.2.2.2.2.2.2.2.2.2.2.2.1
@[irreducible] noncomputable def E : Value → Shared → Prop := d.2.2.2.2.2.2.2.2.2.2.2.2.2.1
@[irreducible] noncomputable def x : Str := d.2.2.2.2.2.2.2.2.2.2.2.2.2.2.1
@[irreducible] noncomputable def t' : Tok := d.2.2.2.2.2.2.2.2.2.2.2.2.2.2.2.1
@[irreducible] noncomputable def ws : List Str := d.2.2.2.2.2.2.2.2.2.2.2.2.2.2.2.2
noncomputable def core0 := fun (zt : Sp _) => (show S w dp un gd s p loose mean mg mb base outer Q E x t' ws from by
  intro C hroom hx W hsz k
  obtain ⟨X, T, B, G, Gz⟩ := C
  refine wpAny_call ?_
  k_dflt (refine' enter (news := []) X T (fun _ _ e => e) (Nat.le_refl _) (fun _ h => nomatch h) ?k6 ?k7 ?k8 ?k9 ?kB ?_ ?c2 ?c3 ?c4 ?c5; (case k6 => k_is); (case k7 => k_is); (case k8 => (show dp < _; omega)); (case k9 => first | exact BindsTo.of_eq rfl | exact binds_K (by k_in) rfl (by k_is) rfl rfl rfl); (case c5 => decide); (case kB => exact locs rfl); (case c2 => exact rfl); (case c3 => exact rfl); (case c4 => exact rfl))
  intro L₀ h₁ hL F N l1 G1
  obtain rfl : L₀ = L' := hL.trans (by with_unfolding_all rfl)
  (try dsimp only); (try k_fold)
  repeat' ((first | ((fail_if_success (with_reducible show wpAny _ _ (call (Value.type "collections.deque") _) _ _ _)); first | (((with_reducible show wpAny _ _ (call (Value.ref 628) [_]) _ _ _); k_dflt (refine' sio_K ?k1 ?k2 ?k3 ?k4 ?k5 ?k6 ?k7 ?k8 ?k9 ?_; (case k1 => k_asm); (case k2 => k_asm); (case k3 => k_asm); (case k4 => k_asm); (case k5 => k_asm); (case k6 => exact rfl); (case k7 => exact rfl); (case k8 => exact rfl); (case k9 => k_room); k_whole; intro x' d' h' tk' o' F' N' S' n1 l2; (try k_lt n1); (try k_lt2 l2); (obtain ⟨js', t5', e'⟩ := S'); subst e'; (try k_sweep)))) | (k_unfold; (try dsimp only)) | (k_end; wrow_close) | walk1 | (dsimp only; walk1) | (leave1; walk_say "STEP leave1"; try dsimp only)) | fail "no step") <;> (try dsimp only))
  rename_i qk0 ek0 tk15 X0 DX h15 F15 N15 l1b l2b g1 L1 h14 FG BB XX TT tk14 h13 tk13 h12 tk12 h11 tk11 h10 tk10 h9 tk9 h8 tk8 h7 tk7 tk6 t0 k0 a0 h6 tk5 h5 tk4 h4 tk3 h3 tk2 h2 tk1 h1x tk0 h0 FF NN
  clear F15 N15 l1b a0
  (try dsimp only at NN FF ⊢)
  revert hroom hx W hsz k X T B l2b FG BB XX TT n1 l2 FF NN
  revert qk0 ek0 qk ek
  revert X0 DX g1 L1 x' d' js' t5' tk13 tk12 tk11 tk10 tk9 tk8 t0 tk5 tk4 tk3 tk2 tk1 tk0 h0 tk
  exact cur23 zt.h)
noncomputable def z := pk core0
@[irreducible] noncomputable def X0 : Addr := z.1.1.1.1.1.1.1.1.1.1.1.1.1.1.1.1.1.1.1.1.1.1
@[irreducible] noncomputable def DX : Addr := z.1.1.1.1.1.1.1.1.1.1.1.1.1.1.1.1.1.1.1.1.1.2
@[irreducible] noncomputable def g1 : Heap := z.1.1.1.1.1.1.1.1.1.1.1.1.1.1.1.1.1.1.1.1.2
@[irreducible] noncomputable def L1 : Addr := z.1.1.1.1.1.1.1.1.1.1.1.1.1.1.1.1.1.1.1.2
@[irreducible] noncomputable def x' : Addr := z.1.1.1.1.1.1.1.1.1.1.1.1.1.1.1.1.1.1.2
@[irreducible] noncomputable def d' : Addr := z.1.1.1.1.1.1.1.1.1.1.1.1.1.1.1.1.1.2
@[irreducible] noncomputable def js' : Nat → Tok := z.1.1.1.1.1.1.1.1.1.1.1.1.1.1.1.1.2
@[irreducible] noncomputable def t5' : Tok := z.1.1.1.1.1.1.1.1.1.1.1.1.1.1.1.2
@[irreducible] noncomputable def tk13 : Nat := z.1.1.1.1.1.1.1.1.1.1.1.1.1.1.2
@[irreducible] noncomputable def tk12 : Nat := z.1.1.1.1.1.1.1.1.1.1.1.1.1.2
@[irreducible] noncomputable def tk11 : Nat := z.1.1.1.1.1.1.1.1.1.1.1.1.2
@[irreducible] noncomputable def tk10 : Nat := z.1.1.1.1.1.1.1.1.1.1.1.2
@[irreducible] noncomputable def tk9 : Nat := z.1.1.1.1.1.1.1.1.1.1.2
@[irreducible] noncomputable def tk8 : Nat := z.1.1.1.1.1.1.1.1.1.2
@[irreducible] noncomputable def t0 : Tok := z.1.1.1.1.1.1.1.1.2
@[irreducible] noncomputable def tk5 : Nat := z.1.1.1.1.1.1.1.2
@[irreducible] noncomputable def tk4 : Nat := z.1.1.1.1.1.1.2
@[irreducible] noncomputable def tk3 : Nat := z.1.1.1.1.1.2
@[irreducible] noncomputable def tk2 : Nat := z.1.1.1.1.2
@[irreducible] noncomputable def tk1 : Nat := z.1.1.1.2
@[irreducible] noncomputable def tk0 : Nat := z.1.1.2
@[irreducible] noncomputable def h0 : Heap := z.1.2
@[irreducible] noncomputable def tk : Nat := z.2
theorem turn : domP core0 ((((((((((((((((((((((X0, DX), g1), L1), x'), d'), js'), t5'), tk13), tk12), tk11), tk10), tk9), tk8), t0), tk5), tk4), tk3), tk2), tk1), tk0), h0), tk) := by
  dsimp only [domP]
  intro hroom hx W hsz k X T B l2b FG BB XX TT n1 l2 FF NN
  repeat' ((first | ((with_reducible show wpAny _ _ (call (Value.type "collections.deque") _) _ _ _); (k_dflt (refine' deque_K ?k1 ?k2 ?_; (case k1 => k_asm); (case k2 => k_asm); k_whole; intro d' h' F' N' n1; (try k_lt n1); (try k_sweep)))) | (k_unfold; (try dsimp only)) | (k_end; wrow_close) | walk1 | (dsimp only; walk1) | (leave1; walk_say "STEP leave1"; try dsimp only) | fail "no step") <;> (try dsimp only))
  k_dflt (refine' list_K ?k1 ?k2 ?k3 ?k4 ?k5 ?k6 ?k7 ?k8 ?kL ?kS ?kd ?o1 ?o2 ?o3 ?o4 ?o5 hx W hsz ?_)
  case k1 => k_asm
  case k2 => k_asm
  case k3 => k_asm
  case k4 => k_asm
  case k5 => k_asm
  case k6 => exact rfl
  case k7 => exact rfl
  case k8 => (show dp + 1 + 40 < _; omega)
  case kL => exact lexD_of
  case kS => exact ⟨_, _, rfl⟩
  case kd => first | exact .inl ⟨rfl, rfl⟩ | exact .inr ⟨rfl, rfl⟩
  case o1 => assumption
  case o2 => assumption
  case o3 => assumption
  case o4 => first | assumption | omega
  case o5 => first | assumption | omega
  k_whole
  intro h' tk' vs c' g' S V TT FF KK e nL nS
  (try dsimp only); (try k_unfold); (try dsimp only)
  exact k _ _ vs c' g' S V TT FF.keep e nS
theorem core : S w dp un gd s p loose mean mg mb base outer Q E x t' ws := pk_all core0 (by with_unfolding_all exact turn)
end split_specN
theorem split_spec {w : World} {dp un : Nat} {gd : Option (List Code)} {s : Shared} {p : Program} {loose : List Str} {mean : ExcName → Option Value} {mg mb : Str → Option Value} {base : Heap} {outer : List Env} {Q E : Value → Shared → Prop}
    (C : Cx w p loose mean mg mb base dp un gd outer s.heap s) (hroom : dp + 60 < recursionLimit)
    (x : Str) (t' : Tok) (hx : x.length < 1000) {ws : List Str} (W : LexWords x ws (some (Str.ofString " ")) 0) (hsz : ws.length ≤ sizeLine)
    (k : ∀ h' tk vs c' g' l, LStrs vs ws → KtsTurn (outer.filterMap (·.frame)) s.heap g' → g'.StaysIn h' → h'.get? l = some (lobj vs.toArray c') → g'.get? l = none → Q (.ref l) { s with heap := h', toks := tk }) :
    wpAny (model PG w) (Ar dp un gd outer) (call (.ref 775) [.str x t']) Q E s := all_of _ (fun d => split_specN.S d.1 d.2.1 d.2.2.1 d.2.2.2.1 d.2.2.2.2.1 d.2.2.2.2.2.1 d.2.2.2.2.2.2.1 d.2.2.2.2.2.2.2.1 d.2.2.2.2.2.2.2.2.1 d.2.2.2.2.2.2.2.2.2.1 d.2.2.2.2.2.2.2.2.2.2.1 d.2.2.2.2.2.2.2.2.2.2.2.1 d.2.2.2.2.2.2.2.2.2.2.2.2.1 d.2.2.2.2.2.2.2.2.2.2.2.2.2.1 d.2.2.2.2.2.2.2.2.2.2.2.2.2.2.1 d.2.2.2.2.2.2.2.2.2.2.2.2.2.2.2.1 d.2.2.2.2.2.2.2.2.2.2.2.2.2.2.2.2) (by with_unfolding_all exact split_specN.core) (w, dp, un, gd, s, p, loose, mean, mg, mb, base, outer, Q, E, x, t', ws) C hroom hx W hsz k
end Mine
end
section

namespace Mine
theorem lstrs_strs : ∀ {vs : List Value} {xs : List Str}, LStrs vs xs → StrsAre vs xs
  | _, _, .nil => .nil
  | _, _, .cons h => .cons _ _ (lstrs_strs h)
section
variable {w : World} {p : Program} {loose : List Str} {mean : ExcName → Option Value} {mg mb : Str → Option Value} {base h₀ : Heap} {dp un : Nat} {gd : Option (List Code)} {s : Shared} {env : Env} {L : Addr} {m : Str → Option Value} {news : List (Addr × Obj)} {A₀ : Around} {Q E : Value → Shared → Prop}
theorem split_K (X : (hd.heap_39 w.params).In h₀) (T : Top p loose mean mg mb h₀) (B : Below A₀ base [] h₀) (F : Fr h₀ L s.heap m) (N : News h₀ L s.heap news) (hA : A₀.deeper env = Ar dp un gd [env]) (hf : env.frame = some L) (hk : env.scope.kind = .function) (hroom : dp + 60 < recursionLimit)
    (x : Str) (t' : Tok) (hx : x.length < 1000) {ws : List Str} (WX : LexWords x ws (some (Str.ofString " ")) 0) (hsz : ws.length ≤ sizeLine)
    (k : ∀ h' tk vs c l, StrsAre vs ws → Fr h₀ L h' m → News h₀ L h' ((l, W.listOf vs.toArray c) :: news) → (∀ q ∈ news, q.1 ≠ l) → Q (.ref l) { s with heap := h', toks := tk }) :
    wpAny (model PG w) (A₀.deeper env) (call (.ref 775) [.str x t']) Q E s := by
  have C := Cx.call (dp := dp) (un := un) (gd := gd) X T B F hA hf hk
  rw [hA]
  refine split_spec C hroom x t' hx WX hsz fun h' tk vs c g' l hvs KT st hl gl => ?_
  have hfs : [env].filterMap (·.frame) = [L] := by simp [hf]
  rw [hfs] at KT
  have up : ∀ b o, b ≠ L → s.heap.get? b = some o → g'.get? b = some o := fun b o hne e => KT.other b o e (fun hm => hne (List.mem_singleton.mp hm))
  have hL0 : h₀.get? L = none := Heap.get?_none_of_le F.above
  have lL : l ≠ L := fun e => by
    obtain ⟨oL, _, _, hoL, _⟩ := F.ns
    obtain ⟨sl, e'⟩ := KT.up hoL
    rw [e, e'] at gl; cases gl
  have l0 : h₀.get? l = none := by
    cases q : h₀.get? l with
    | none => rfl
    | some o => rw [up l o lL (F.keep _ _ q)] at gl; cases gl
  refine k h' tk vs c l (lstrs_strs hvs) ⟨?_, fun b o e => st _ _ (up b o (fun q => by subst q; rw [hL0] at e; cases e) (F.keep b o e)), F.above⟩ (fun q hq => ?_) (fun q hq e => ?_)
  · obtain ⟨oL, a1, a2, hoL, hd', r⟩ := F.ns
    obtain ⟨sl, e⟩ := KT.up hoL
    exact ⟨_, a1, a2, st _ _ e, hd', r⟩
  · rcases List.mem_cons.mp hq with rfl | hq
    · exact ⟨hl, lL, l0⟩
    · have z := N q hq
      exact ⟨st _ _ (up _ _ z.2.1 z.1), z.2⟩
  · have z := N q hq
    have := up _ _ z.2.1 z.1
    rw [e, gl] at this; cases this
end
end Mine
end
section

namespace Mine
section
variable {prog : Program} {w : World} {A : Around} {E : Value → Shared → Prop} {s : Shared} {h₀ : Heap} {L l : Addr} {Q : Value → Shared → Prop} {t u : Tok} {news : List (Addr × Obj)}
theorem fmodN (n m : Nat) : Int.fmod (n : Int) (m : Int) = ((n % m : Nat) : Int) := by rw [Int.fmod_eq_emod_of_nonneg _ (Int.natCast_nonneg m)]; rfl
theorem fdivN (n m : Nat) : Int.fdiv (n : Int) (m : Int) = ((n / m : Nat) : Int) := by rw [Int.fdiv_eq_ediv_of_nonneg _ (Int.natCast_nonneg m)]; rfl
theorem half_eq (x : Int) : (if x.fdiv 2 < 0 then -x.fdiv 2 else x.fdiv 2).fmod 216 = ((halfOf x : Nat) : Int) := by
  have e : (if x.fdiv 2 < 0 then -x.fdiv 2 else x.fdiv 2) = (((x.fdiv 2).natAbs : Nat) : Int) := by split <;> omega
  rw [e]
  unfold halfOf
  exact fmodN (x.fdiv 2).natAbs 216
theorem halfOf_lt (x : Int) : halfOf x < 216 := Nat.mod_lt _ (by decide)
theorem half_rule {x : Int} (h : Q (.int ((halfOf x : Nat) : Int) s.toks) { s with toks := s.toks + 1 }) :
    wpAny (model prog w) A (binaryOp .Mod (.int (if x.fdiv 2 < 0 then -x.fdiv 2 else x.fdiv 2) t) (.int 216 u)) Q E s := mod_int (by decide) (by rw [half_eq]; exact h)
theorem modN (n m : Nat) (hm : (m : Int) ≠ 0) (h : Q (.int ((n % m : Nat) : Int) s.toks) { s with toks := s.toks + 1 }) :
    wpAny (model prog w) A (binaryOp .Mod (.int (n : Int) t) (.int (m : Int) u)) Q E s := mod_int hm (by rw [fmodN n m]; exact h)
theorem divN (n m : Nat) (hm : (m : Int) ≠ 0) (_hn : n < 10000) (hm' : m < 10000) (h : Q (.int ((n / m : Nat) : Int) s.toks) { s with toks := s.toks + 1 }) :
    wpAny (model prog w) A (binaryOp .FloorDiv (.int (n : Int) t) (.int (m : Int) u)) Q E s :=
  floordiv_int hm (by rw [fdivN n m]; exact h) (Or.inl (PyProof.noPylong_small (by omega)))
theorem mod6 {n : Nat} (h : Q (.int ((n % 6 : Nat) : Int) s.toks) { s with toks := s.toks + 1 }) : wpAny (model prog w) A (binaryOp .Mod (.int ((n : Nat) : Int) t) (.int 6 u)) Q E s := modN n 6 (by decide) h
theorem div6 {n : Nat} (hn : n < 216) (h : Q (.int ((n / 6 : Nat) : Int) s.toks) { s with toks := s.toks + 1 }) : wpAny (model prog w) A (binaryOp .FloorDiv (.int ((n : Nat) : Int) t) (.int 6 u)) Q E s := divN n 6 (by decide) (by omega) (by decide) h
theorem str_menu (n : Nat) (hn : n < 6) (h : ∀ t' k, Q (.str (widthT n) t') { s with toks := k }) : wpAny (model prog w) A (call (.type "str") [.int ([2, 3, 4, 6, 12, 1].getD ((n : Nat) : Int).toNat 0) t]) Q E s := by
  have d : n = 0 ∨ n = 1 ∨ n = 2 ∨ n = 3 ∨ n = 4 ∨ n = 5 := by omega
  rcases d with rfl | rfl | rfl | rfl | rfl | rfl
  all_goals (refine P.str_of_int (shown (N := 2 ^ 1920) (by decide +kernel) (by decide +kernel) (Int.le_refl _)) ?_)
  all_goals (first | exact (show Str.ofString (toString (2 : Int)) = widthT 0 by decide +kernel) ▸ h _ _ | exact (show Str.ofString (toString (3 : Int)) = widthT 1 by decide +kernel) ▸ h _ _ | exact (show Str.ofString (toString (4 : Int)) = widthT 2 by decide +kernel) ▸ h _ _ | exact (show Str.ofString (toString (6 : Int)) = widthT 3 by decide +kernel) ▸ h _ _ | exact (show Str.ofString (toString (12 : Int)) = widthT 4 by decide +kernel) ▸ h _ _ | exact (show Str.ofString (toString (1 : Int)) = widthT 5 by decide +kernel) ▸ h _ _)
theorem piece_item {value slice : PySem.Expr} {t0 t1 t2 t3 t4 t5 : Tok} {c : Nat} {n : Nat} (N : News h₀ L s.heap news)
    (hm : (l, W.listOf #[.str (Str.ofString "0") t0, .str (Str.ofString "a") t1, .str (Str.ofString "?") t2, .str (Str.ofString "*") t3, .str (Str.ofString "[0a]") t4, .str (Str.ofString "[!0]") t5] c) ∈ news) (hn : n < 6) (h : ∀ t', Q (.str (pieceT n) t') s)
    (hs : ∀ (k : Int) (u : Tok), subscripted slice false (.ref l) (.int k u) = operate [.ref l, .int k u] (getItem (.ref l) (.int k u)) := by intro _ _; with_unfolding_all rfl) :
    wpAny (model prog w) A (subscriptTail value slice (.ref l) (.int ((n : Nat) : Int) u)) Q E s := by
  have hl : s.heap.IsList l _ := ⟨_, (N _ hm).1, rfl, c, rfl⟩
  have d : n = 0 ∨ n = 1 ∨ n = 2 ∨ n = 3 ∨ n = 4 ∨ n = 5 := by omega
  have hx : ∃ t', (#[Value.str (Str.ofString "0") t0, .str (Str.ofString "a") t1, .str (Str.ofString "?") t2, .str (Str.ofString "*") t3, .str (Str.ofString "[0a]") t4, .str (Str.ofString "[!0]") t5] : Array Value)[((n : Nat) : Int).toNat]? = some (.str (pieceT n) t') := by
    rcases d with rfl | rfl | rfl | rfl | rfl | rfl <;> exact ⟨_, rfl⟩
  obtain ⟨t', hx⟩ := hx
  exact tail_any hl.typeIs slot_list_getitem.lookup (wpAny_getItem_list hl (by omega) (by omega) hx (h t')) (hs _ _)
theorem star_ne {n : Nat} (hn : n < 6) : (pieceT n == Str.ofString "*") = decide (n = 3) := by
  have d : n = 0 ∨ n = 1 ∨ n = 2 ∨ n = 3 ∨ n = 4 ∨ n = 5 := by omega
  rcases d with rfl | rfl | rfl | rfl | rfl | rfl <;> decide +kernel
theorem any_star (ps : List Nat) (h : ∀ q ∈ ps, q < 6) : (ps.map pieceT).any (· == Str.ofString "*") = ps.contains 3 := by
  induction ps with
  | nil => rfl
  | cons a r ih =>
    rw [List.map_cons, List.any_cons, ih fun q hq => h q (.tail _ hq), star_ne (h a (.head _)), List.contains_cons]
    congr 1
    by_cases e : a = 3
    · subst e; rfl
    · rw [decide_eq_false e]; exact (beq_eq_false_iff_ne.mpr (Ne.symm e)).symm
theorem notin_star (ps : List Nat) {vs : List Value} (h6 : ∀ q ∈ ps, q < 6) (hl : s.heap.IsList l vs.toArray) (hi : StrsAre vs (ps.map pieceT)) (h : Q (.bool (!(ps.contains 3))) s) :
    wpAny (model prog w) A (compareOp .NotIn (.str (Str.ofString "*") t) (.ref l)) Q E s := notin_list_strs hl hi (by rw [any_star ps h6]; exact h)
theorem no3 {n : Nat} (hn : n < 216) : ¬ (0 : Int) < ((n / 6 / 6 / 6 : Nat) : Int) := by omega
theorem whl_cases {p : Prop} [Decidable p] {T F : Prop} (h : p → T) (h' : ¬ p → F) : WhlIf (decide p) T F := by
  by_cases e : p
  · exact WhlIf.yes (decide_eq_true e) (h e)
  · exact WhlIf.no (decide_eq_false e) (h' e)
theorem ord_swap {x : Int} (h : x.fmod 2 = 0) : Dat.list [Dat.str (Str.ofString "swap"), Dat.str (widthT (halfOf x % 6))] = ordD x := by
  unfold ordD ordOf; rw [if_pos h]; rfl
theorem ord_fits (ps : List Nat) {x : Int} (h : ¬ x.fmod 2 = 0) (hf : figs (halfOf x) = ps) (hc : ps.contains 3 = true) : Dat.list (Dat.str (Str.ofString "fits") :: ps.map fun q => Dat.str (pieceT q)) = ordD x := by
  unfold ordD ordOf rowOf; rw [if_neg h, hf, if_pos hc]
  show _ = Dat.list (List.map _ (_ :: List.map _ _))
  rw [List.map_cons, List.map_map]; rfl
theorem ord_fits' (ps : List Nat) {x : Int} (h : ¬ x.fmod 2 = 0) (hf : figs (halfOf x) = ps) (hc : ps.contains 3 = false) : Dat.list (Dat.str (Str.ofString "fits") :: ((ps.map fun q => Dat.str (pieceT q)) ++ [Dat.str (Str.ofString "*")])) = ordD x := by
  unfold ordD ordOf rowOf; rw [if_neg h, hf, if_neg (by rw [hc]; decide)]
  show _ = Dat.list (List.map _ (_ :: List.map _ _))
  rw [List.map_cons, List.map_map, List.map_append]; rfl
theorem figs1 {h : Nat} (a : ¬ (0 : Int) < ((h / 6 : Nat) : Int)) : figs h = [h % 6] := by unfold figs; rw [if_pos (by omega)]; congr 1; omega
theorem figs2 {h : Nat} (a : (0 : Int) < ((h / 6 : Nat) : Int)) (b : ¬ (0 : Int) < ((h / 6 / 6 : Nat) : Int)) : figs h = [h % 6, h / 6 % 6] := by
  unfold figs; rw [if_neg (by omega), if_pos (by omega)]; congr 2; omega
theorem figs3 {h : Nat} (hh : h < 216) (a : (0 : Int) < ((h / 6 / 6 : Nat) : Int)) : figs h = [h % 6, h / 6 % 6, h / 6 / 6 % 6] := by
  unfold figs; rw [if_neg (by omega), if_neg (by omega)]; congr 3; omega
theorem ordA (ps : List Nat) {x : Int} (h : ¬ x.fmod 2 = 0) (hf : figs (halfOf x) = ps) (hc : (ps.map pieceT).any (fun y => y == Str.ofString "*") = true) (h6 : ∀ q ∈ ps, q < 6) : Dat.list (Dat.str (Str.ofString "fits") :: ps.map fun q => Dat.str (pieceT q)) = ordD x :=
  ord_fits ps h hf (by rw [← any_star ps h6]; exact hc)
theorem ordB (ps : List Nat) {x : Int} (h : ¬ x.fmod 2 = 0) (hf : figs (halfOf x) = ps) (hc : (ps.map pieceT).any (fun y => y == Str.ofString "*") = false) (h6 : ∀ q ∈ ps, q < 6) : Dat.list (Dat.str (Str.ofString "fits") :: ((ps.map fun q => Dat.str (pieceT q)) ++ [Dat.str (Str.ofString "*")])) = ordD x :=
  ord_fits' ps h hf (by rw [← any_star ps h6]; exact hc)
theorem lt6 (n : Nat) : n % 6 < 6 := Nat.mod_lt _ (by decide)
theorem b1 {a : Nat} (h : a < 6) : ∀ q ∈ [a], q < 6 := fun q hq => by simp only [List.mem_cons, List.not_mem_nil, or_false] at hq; omega
theorem b2 {a b : Nat} (h : a < 6) (h' : b < 6) : ∀ q ∈ [a, b], q < 6 := fun q hq => by simp only [List.mem_cons, List.not_mem_nil, or_false] at hq; omega
theorem b3 {a b c : Nat} (h : a < 6) (h' : b < 6) (h'' : c < 6) : ∀ q ∈ [a, b, c], q < 6 := fun q hq => by simp only [List.mem_cons, List.not_mem_nil, or_false] at hq; omega
theorem ordA1 {a : Nat} {x : Int} (h : ¬ x.fmod 2 = 0) (hf : figs (halfOf x) = [a]) (hC : ([pieceT a].any fun y => y == Str.ofString "*") = true) (ha : a < 6) : Dat.list [Dat.str (Str.ofString "fits"), Dat.str (pieceT a)] = ordD x := ordA [a] h hf hC (b1 ha)
theorem ordB1 {a : Nat} {x : Int} (h : ¬ x.fmod 2 = 0) (hf : figs (halfOf x) = [a]) (hC : ([pieceT a].any fun y => y == Str.ofString "*") = false) (ha : a < 6) : Dat.list [Dat.str (Str.ofString "fits"), Dat.str (pieceT a), Dat.str (Str.ofString "*")] = ordD x := ordB [a] h hf hC (b1 ha)
theorem ordA2 {a b : Nat} {x : Int} (h : ¬ x.fmod 2 = 0) (hf : figs (halfOf x) = [a, b]) (hC : ([pieceT a, pieceT b].any fun y => y == Str.ofString "*") = true) (ha : a < 6) (hb : b < 6) : Dat.list [Dat.str (Str.ofString "fits"), Dat.str (pieceT a), Dat.str (pieceT b)] = ordD x := ordA [a, b] h hf hC (b2 ha hb)
theorem ordB2 {a b : Nat} {x : Int} (h : ¬ x.fmod 2 = 0) (hf : figs (halfOf x) = [a, b]) (hC : ([pieceT a, pieceT b].any fun y => y == Str.ofString "*") = false) (ha : a < 6) (hb : b < 6) : Dat.list [Dat.str (Str.ofString "fits"), Dat.str (pieceT a), Dat.str (pieceT b), Dat.str (Str.ofString "*")] = ordD x := ordB [a, b] h hf hC (b2 ha hb)
theorem ordA3 {a b c : Nat} {x : Int} (h : ¬ x.fmod 2 = 0) (hf : figs (halfOf x) = [a, b, c]) (hC : ([pieceT a, pieceT b, pieceT c].any fun y => y == Str.ofString "*") = true) (ha : a < 6) (hb : b < 6) (hc : c < 6) : Dat.list [Dat.str (Str.ofString "fits"), Dat.str (pieceT a), Dat.str (pieceT b), Dat.str (pieceT c)] = ordD x := ordA [a, b, c] h hf hC (b3 ha hb hc)
theorem ordB3 {a b c : Nat} {x : Int} (h : ¬ x.fmod 2 = 0) (hf : figs (halfOf x) = [a, b, c]) (hC : ([pieceT a, pieceT b, pieceT c].any fun y => y == Str.ofString "*") = false) (ha : a < 6) (hb : b < 6) (hc : c < 6) : Dat.list [Dat.str (Str.ofString "fits"), Dat.str (pieceT a), Dat.str (pieceT b), Dat.str (pieceT c), Dat.str (Str.ofString "*")] = ordD x := ordB [a, b, c] h hf hC (b3 ha hb hc)
theorem ord_end {pre : List Int} {x : Int} {D : Dat} (e : D = ordD x) : pre.map ordD ++ [D] = (pre ++ [x]).map ordD := by rw [List.map_append, e]; rfl
end
noncomputable def Fresh (g h' : Heap) (tl : List (Addr × Obj)) : Prop := ∀ p ∈ tl, h'.get? p.1 = some p.2 ∧ g.get? p.1 = none
theorem Fresh.of {h₀ h : Heap} {L : Addr} {tl : List (Addr × Obj)} (N : News h₀ L h tl) : Fresh h₀ h tl := fun p hp => ⟨(N p hp).1, (N p hp).2.2⟩
theorem Fresh.news {h₀ h h' : Heap} {L : Addr} {m : Str → Option Value} {tl : List (Addr × Obj)} (F : Fr h₀ L h m) (X : Fresh h h' tl) : News h₀ L h' tl := fun p hp => by
  refine ⟨(X p hp).1, fun e => ?_, ?_⟩
  · obtain ⟨o, _, _, ho, _⟩ := F.ns
    have := (X p hp).2
    rw [e, ho] at this; cases this
  · cases q : h₀.get? p.1 with
    | none => rfl
    | some o => have := F.keep _ _ q; rw [(X p hp).2] at this; cases this
end Mine
end
section

namespace Mine
section
variable {prog : Program} {w : World} {A : Around} {E : Value → Shared → Prop} {s : Shared} {h₀ : Heap} {L : Addr} {m : Str → Option Value} {env : Env}
noncomputable def SrcB (prog : Program) (w : World) (A : Around) (h₀ : Heap) (L : Addr) (m : Str → Option Value) (env : Env) (elt : PySem.Expr) (x : Str) (scope : Scope) (cl : List (Str × Addr)) (Fin : Shared → List Value → List (Addr × Obj) → Prop) (xv : Value) (s₁ : Shared) : Prop :=
  ∃ b t news, xv = .bytes b t ∧ A.handled = none ∧ Fr h₀ L s₁.heap m ∧ News h₀ L s₁.heap news ∧ b.size ≤ sizeLine ∧
    ∀ g : Heap, LCg.CompRest prog w A h₀ L m env elt x scope cl { s₁ with heap := g } (fun _ => True) (fun i v => ∃ c u, b[i]? = some c ∧ v = .int (c.toNat : Int) u) (Fin { s₁ with heap := g }) b.size 0 [] news
theorem listComp_B {elt iter : PySem.Expr} {x : Str} {px : Pos} {scope : Scope} {cl : List (Str × Addr)} {pos : Pos} {Q : Value → Shared → Prop} (_F₀ : Fr h₀ L s.heap m)
    (hclos : closureFor scope env = pure cl) (hcell : ∀ y ∈ scope.names, y.2 ≠ .cell) (hkind : scope.kind = .function)
    (hnames : ∀ y ∈ scope.names, y.2 = .local → scope.names.lookup y.1 = some .local) (hx : scope.names.lookup x = some .local)
    (h : wpAny (model prog w) A (eval iter env) (SrcB prog w A h₀ L m env elt x scope cl (fun s₂ => LCg.FinE h₀ L m s₂ Q)) E s)
    (hs : ∀ x, foldedSetIterable iter env x = pure x := by intro _; rfl) :
    wpAny (model prog w) A (eval (.ListComp elt [⟨.Name x px, iter, [], 0⟩] scope pos) env) Q E s := by
  rw [eval_ListComp]
  refine wpAny_comprehension_free (use := none) rfl hs hclos hkind hnames (wpAny_mono h (fun xv s₁ h₁ => ?_) fun _ _ e => e)
  obtain ⟨b, t, news, rfl, hh, F, N, hsz, R⟩ := h₁
  refine KBw.pyIter_bytes ?_
  have up : ∀ c o, s₁.heap.get? c = some o → (s₁.heap.push { cls := .type "bytes_iterator", data := .fields #[.bytes b t, .int 0 0] }).get? c = some o := fun c o e => Heap.get?_push_of_some _ e
  refine LCg.block_U (S := fun _ => True) (KBw.walks hh s₁.heap.objs.size b t) hsz (fun i h st => by obtain ⟨o, e, _⟩ := st; exact ⟨o, e⟩)
    (fun i h h' o nw st e e' _ _ _ => by obtain ⟨o', q, r⟩ := st; rw [e] at q; cases q; exact ⟨o, e', r⟩) hcell hkind hx ⟨_, Heap.get?_push_size _ rfl, rfl, rfl⟩ (fun c hc => ?_)
    (F.keeps up) (N.grown up) (Nat.ne_of_lt F.ns.lt) (next_is_new F) (fun p hp => Nat.ne_of_lt (Heap.lt_size (N p hp).1)) trivial (R _) ?_
  · show c < (s₁.heap.push _).objs.size
    rw [Heap.size_push, List.mem_singleton.mp hc]
    exact Nat.lt_succ_self _
  · intro D C h' tk m' ys news' F' N' o1 hn hC₀ hD₀ hCL hDL hCD offC fin
    refine ⟨m', hn, fun h'' hs'' => fin D h'' tk (F'.change hs'' hCL hC₀) (fun p hp => ?_) o1⟩
    refine ⟨hs''.extBut _ _ ?_ (N' p hp).1, (N' p hp).2⟩
    rcases List.mem_cons.mp hp with rfl | hp
    · exact Ne.symm hCD
    · exact offC p hp
theorem SrcB.mk' {elt : PySem.Expr} {x : Str} {scope : Scope} {cl : List (Str × Addr)} {Fin : Shared → List Value → List (Addr × Obj) → Prop} {b : Array UInt8} {t : Tok} {news : List (Addr × Obj)} {s₁ : Shared} {ns : List Int}
    (g : Int → Str) (hb : KBw.bInts b = ns) (hh : A.handled = none) (F : Fr h₀ L s₁.heap m) (N : News h₀ L s₁.heap news) (hsz : b.size ≤ sizeLine)
    (turn : ∀ k t I oI C oC D m₂ ys h tk (E' : Value → Shared → Prop), k ∈ ns → LCg.NsObj oC m₂ → m₂ x = some (.int k t) → Fr h₀ L h m → News h₀ L h ((I, oI) :: (C, oC) :: (D, LCg.lst ys) :: news) → LCg.Off3 I C D news → ((@Ne Nat I C) ∧ (@Ne Nat I D) ∧ (@Ne Nat C D)) → KPfMark →
      wpAny (model prog w) A (eval elt (compEnvC scope cl C env)) (LCg.CompEnd h₀ L m { s₁ with heap := h, toks := tk } I oI C oC D (LCg.lst ys) (fun _ => True) (fun y news' => KCtEl news (g k) y news')) E' { s₁ with heap := h, toks := tk })
    (fin : ∀ (g' : Heap) ys, CarriedAll ys (ns.map fun k => PyData.str (g k)) → Fin { s₁ with heap := g' } ys news) : SrcB prog w A h₀ L m env elt x scope cl Fin (.bytes b t) s₁ := by
  refine ⟨b, t, news, rfl, hh, F, N, hsz, fun g' => ?_⟩
  refine kct_rest (ks := ns) g (by rw [← hb]; exact KBw.ints_length b) (fun i v hi hv => ?_) (fun k t I oI C oC D m₂ ys h tk E' hk hC hx F N off ne mk => turn k t I oI C oC D m₂ ys h tk E' hk hC hx F N off ne mk) fun ys hc _ => fin g' ys hc
  obtain ⟨c, u, hc, rfl⟩ := hv
  exact ⟨_, u, hb ▸ KBw.ints_get hc, rfl⟩
end
end Mine
end
section

namespace Mine
section
variable {prog : Program} {w : World} {A : Around} {s : Shared} {h₀ : Heap} {env : Env} {m : Str → Option Value}
noncomputable def CellEnd (h₀ : Heap) (L : Addr) (m : Str → Option Value) (c I : Addr) (oI : Obj) (J : List (Addr × Obj) → Prop) (s₁ : Shared) (f : Flow) (s₂ : Shared) : Prop :=
  (f = .next ∨ f = .cont) ∧ ∃ h' tk oc v rest, s₂ = { s₁ with heap := h', toks := tk } ∧ Fr h₀ L h' m ∧ News h₀ L h' ((c, oc) :: (I, oI) :: rest) ∧ oc.data = .cell v ∧ (∀ p ∈ rest, p.1 ≠ c ∧ p.1 ≠ I) ∧ J rest
end
namespace for_cellN
noncomputable def S (prog : Program) (w : World) (A : Around) (s : Shared) (h₀ : Heap) (env : Env) (m : Str → Option Value) (iter : PySem.Expr) (x : Str) (px pos : Pos) (body : List Stmt) (Q : Flow → Shared → Prop) (l c : Addr) (vs : List Value) (J : Nat → List (Addr × Obj) → Prop) : Prop := ∀ (_F : Fr h₀ env.locals s.heap m) (hk : env.scope.kind = .function) (hx : env.kindOf x = some .cell) (hc : env.cells.lookup x = some c) (hh : A.handled = none) (h : wpAny (model prog w) A (eval iter env) (fun xv s₁ => ∃ nx oc v0, xv = .ref l ∧ h₀.IsList l vs.toArray ∧ Fr h₀ env.locals s₁.heap m ∧ News h₀ env.locals s₁.heap ((c, oc) :: nx) ∧ oc.data = .cell v0 ∧ (∀ p ∈ nx, p.1 ≠ c) ∧ J 0 nx ∧
      (∀ i v oc rest h tk I oI, vs[i]? = some v → J i rest → oc.data = .cell (some v) → Fr h₀ env.locals h m → News h₀ env.locals h ((c, oc) :: (I, oI) :: rest) → c ≠ I → (∀ p ∈ rest, p.1 ≠ c ∧ p.1 ≠ I) →
        wpAny (model prog w) A (execs body env) (CellEnd h₀ env.locals m c I oI (J (i + 1)) { s₁ with heap := h, toks := tk }) (fun _ _ => False) { s₁ with heap := h, toks := tk }) ∧
      (∀ oc v rest h tk, J vs.length rest → oc.data = .cell v → Fr h₀ env.locals h m → News h₀ env.locals h ((c, oc) :: rest) → Q .next { s₁ with heap := h, toks := tk })) (fun _ _ => False) s) (hs : ∀ x, foldedSetIterable iter env x = pure x), wpAny (model prog w) A (exec (.For (.Name x px) iter body [] pos) env) Q (fun _ _ => False) s
noncomputable def zD : Program × World × Around × Shared × Heap × Env × (Str → Option Value) × PySem.Expr × Str × Pos × Pos × List Stmt × (Flow → Shared → Prop) × Addr × Addr × List Value × (Nat → List (Addr × Obj) → Prop) := cex (default, jW, jA, jS, default, default, (fun _ => none), default, default, default, default, [], (fun _ _ => True), (0 : Nat), (0 : Nat), [], (fun _ _ => True)) fun d => S d.1 d.2.1 d.2.2.1 d.2.2.2.1 d.2.2.2.2.1 d.2.2.2.2.2.1 d.2.2.2.2.2.2.1 d.2.2.2.2.2.2.2.1 d.2.2.2.2.2.2.2.2.1 d.2.2.2.2.2.2.2.2.2.1 d.2.2.2.2.2.2.2.2.2.2.1 d.2.2.2.2.2.2.2.2.2.2.2.1 d.2.2.2.2.2.2.2.2.2.2.2.2.1 d.2.2.2.2.2.2.2.2.2.2.2.2.2.1 d.2.2.2.2.2.2.2.2.2.2.2.2.2.2.1 d.2.2.2.2.2.2.2.2.2.2.2.2.2.2.2.1 d.2.2.2.2.2.2.2.2.2.2.2.2.2.2.2.2
@[irreducible] noncomputable def prog : Program := zD.1
@[irreducible] noncomputable def w : World := zD.2.1
@[irreducible] noncomputable def A : Around := zD.2.2.1
@[irreducible] noncomputable def s : Shared := zD.2.2.2.1
@[irreducible] noncomputable def h₀ : Heap := zD.2.2.2.2.1
@[irreducible] noncomputable def env : Env := zD.2.2.2.2.2.1
@[irreducible] noncomputable def m : Str → Option Value := zD.2.2.2.2.2.2.1
@[irreducible] noncomputable def iter : PySem.Expr := zD.2.2.2.2.2.2.2.1
@[irreducible] noncomputable def x : Str := zD.2.2.2.2.2.2.2.2.1
@[irreducible] noncomputable def px : Pos := zD.2.2.2.2.2.2.2.2.2.1
@[irreducible] noncomputable def pos : Pos := zD.2.2.2.2.2.2.2.2.2.2.1
@[irreducible] noncomputable def body : List Stmt := zD.2.2.2.2.2.2.2.2.2.2.2.1
@[irreducible] noncomputable def Q : Flow → Shared → Prop := zD.2.2.2.2.2.2.2.2.2.2.2.2.1
@[irreducible] noncomputable def l : Addr := zD.2.2.2.2.2.2.2.2.2.2.2.2.2.1
@[irreducible] noncomputable def c : Addr := zD.2.2.2.2.2.2.2.2.2.2.2.2.2.2.1
@[irreducible] noncomputable def vs : List Value := zD.2.2.2.2.2.2.2.2.2.2.2.2.2.2.2.1
@[irreducible] noncomputable def J : Nat → List (Addr × Obj) → Prop := zD.2.2.2.2.2.2.2.2.2.2.2.2.2.2.2.2
theorem core : S prog w A s h₀ env m iter x px pos body Q l c vs J := by
  intro _F hk hx hc hh h hs
  refine wpAny_For (wpAny_mono h (fun xv s₁ h₁ => ?_) fun _ _ e => e) hs
  obtain ⟨nx, oc, v0, rfl, hl, F, N, hoc, hnc, hJ, turn, done⟩ := h₁
  have hls : s₁.heap.IsList l vs.toArray := hl.at fun o e => F.keep l o e
  refine wpAny_pyIter_list hls ?_
  have hlt : l < s₁.heap.objs.size := by obtain ⟨_, e, _⟩ := hls; exact Heap.lt_size e
  generalize hIe : s₁.heap.objs.size = I at hlt
  have W := Walks.list (prog := prog) (w := w) hh I l (Nat.ne_of_lt hlt) vs.toArray
  have hlen : vs.toArray.size = vs.length := by simp
  rw [hlen] at W
  have hIL : env.locals ≠ I := hIe ▸ Nat.ne_of_lt F.ns.lt
  have hI0 : h₀.get? I = none := by rw [← hIe]; exact next_is_new F
  refine codeAny_forLoop (fun k s' => ∃ i h' tk oc v rest, s' = { s₁ with heap := h', toks := tk } ∧ (h'.IsListIter I l i ∧ h'.IsList l vs.toArray) ∧ Fr h₀ env.locals h' m ∧ News h₀ env.locals h' ((c, oc) :: rest) ∧ oc.data = .cell v ∧
      (∀ p ∈ rest, p.1 ≠ c ∧ p.1 ≠ I) ∧ c ≠ I ∧ J i rest ∧ i ≤ vs.length ∧ k = vs.length + 1 - i) ?_ (vs.length + 1)
    ⟨0, _, _, oc, v0, nx, rfl, ⟨⟨_, by rw [← hIe]; exact Heap.get?_push_size _ rfl, rfl, rfl⟩, hls.at fun o e => Heap.get?_push_of_some _ e⟩, F.push _, (fun p hp => ⟨Heap.get?_push_of_some _ (N p hp).1, (N p hp).2⟩), hoc,
      (fun p hp => ⟨hnc p hp, fun e => Nat.lt_irrefl I (by have := Heap.lt_size (N p (.tail _ hp)).1; rw [hIe, e] at this; exact this)⟩),
      (fun e => Nat.lt_irrefl I (by have := Heap.lt_size (N _ (.head _)).1; rw [hIe] at this; exact e ▸ this)), hJ, Nat.zero_le _, rfl⟩
  rintro k s' ⟨i, h', tk, oc, v, rest, rfl, st, F', N', hoc, hne, hcI, hJ, hi, rfl⟩
  have kp : ∀ h₁ : Heap, (∀ b o, b ∉ [I] → h'.get? b = some o → h₁.get? b = some o) → Fr h₀ env.locals h₁ m ∧ News h₀ env.locals h₁ ((c, oc) :: rest) := fun h₁ hk₁ =>
    ⟨LCg.fr_but F' hk₁ hIL hI0, LCg.news_but N' hk₁ fun p hp => by
      rcases List.mem_cons.mp hp with rfl | hp
      · exact hcI
      · exact (hne p hp).2⟩
  by_cases hlt : i < vs.length
  · refine W.item i _ _ _ hlt st fun v' h₁ tk₁ hP st₁ hk₁ => ?_
    obtain ⟨F₁, N₁⟩ := kp h₁ hk₁
    obtain ⟨oI, eI, rI⟩ := st₁.1
    have zc := N₁ _ (.head _)
    refine wpAny_assign_Name (wpAny_storeName_cell hk hx hc ⟨oc, zc.1, hoc⟩ fun h₂ hv₂ hs₂ => ?_)
    obtain ⟨oc', e', d'⟩ := hv₂
    have F₂ : Fr h₀ env.locals h₂ m := F₁.change hs₂ zc.2.1 zc.2.2
    have eI₂ : h₂.get? I = some oI := (hs₂.2 _ (Ne.symm hcI)).trans eI
    have N₂ : News h₀ env.locals h₂ ((c, oc') :: (I, oI) :: rest) := fun p hp => by
      rcases List.mem_cons.mp hp with rfl | hp
      · exact ⟨e', zc.2⟩
      · rcases List.mem_cons.mp hp with rfl | hp
        · exact ⟨eI₂, Ne.symm hIL, hI0⟩
        · have z := N₁ p (.tail _ hp)
          exact ⟨(hs₂.2 _ (hne p hp).1).trans z.1, z.2⟩
    refine wpAny_mono (turn i v' oc' rest h₂ _ I oI (by simpa using hP) hJ d' F₂ N₂ hcI hne) (fun f s₃ h₃ => ?_) fun _ _ e => e.elim
    obtain ⟨hf, h₃', tk₃, oc₃, v₃, rest₃, rfl, F₃, N₃, d₃, hne₃, hJ₃⟩ := h₃
    have key : ∃ m', m' < vs.length + 1 - i ∧ ∃ i h' tk oc v rest, ({ s₁ with heap := h₃', toks := tk₃ } : Shared) = { s₁ with heap := h', toks := tk } ∧ (h'.IsListIter I l i ∧ h'.IsList l vs.toArray) ∧ Fr h₀ env.locals h' m ∧ News h₀ env.locals h' ((c, oc) :: rest) ∧ oc.data = .cell v ∧
        (∀ p ∈ rest, p.1 ≠ c ∧ p.1 ≠ I) ∧ c ≠ I ∧ J i rest ∧ i ≤ vs.length ∧ m' = vs.length + 1 - i := by
      refine ⟨vs.length + 1 - (i + 1), by omega, i + 1, h₃', tk₃, oc₃, v₃, rest₃, rfl, ⟨⟨oI, (N₃ _ (.tail _ (.head _))).1, rI⟩, hl.at fun o e => F₃.keep l o e⟩, F₃, fun p hp => ?_, d₃, hne₃, hcI, hJ₃, hlt, rfl⟩
      rcases List.mem_cons.mp hp with rfl | hp
      · exact N₃ _ (.head _)
      · exact N₃ p (.tail _ (.tail _ hp))
    rcases hf with rfl | rfl
    · exact key
    · exact key
  · obtain rfl : i = vs.length := Nat.le_antisymm hi (Nat.not_lt.mp hlt)
    refine W.done _ _ _ st fun h₁ tk₁ hk₁ => wpAny_execs_nil ?_
    obtain ⟨F₁, N₁⟩ := kp h₁ hk₁
    exact done oc v rest h₁ tk₁ hJ hoc F₁ N₁
end for_cellN
section
variable {prog : Program} {w : World} {A : Around} {s : Shared} {h₀ : Heap} {env : Env} {m : Str → Option Value}
theorem for_cell {iter : PySem.Expr} {x : Str} {px pos : Pos} {body : List Stmt} {Q : Flow → Shared → Prop} {l c : Addr} {vs : List Value} (J : Nat → List (Addr × Obj) → Prop)
    (_F : Fr h₀ env.locals s.heap m) (hk : env.scope.kind = .function) (hx : env.kindOf x = some .cell) (hc : env.cells.lookup x = some c) (hh : A.handled = none)
    (h : wpAny (model prog w) A (eval iter env) (fun xv s₁ => ∃ nx oc v0, xv = .ref l ∧ h₀.IsList l vs.toArray ∧ Fr h₀ env.locals s₁.heap m ∧ News h₀ env.locals s₁.heap ((c, oc) :: nx) ∧ oc.data = .cell v0 ∧ (∀ p ∈ nx, p.1 ≠ c) ∧ J 0 nx ∧
      (∀ i v oc rest h tk I oI, vs[i]? = some v → J i rest → oc.data = .cell (some v) → Fr h₀ env.locals h m → News h₀ env.locals h ((c, oc) :: (I, oI) :: rest) → c ≠ I → (∀ p ∈ rest, p.1 ≠ c ∧ p.1 ≠ I) →
        wpAny (model prog w) A (execs body env) (CellEnd h₀ env.locals m c I oI (J (i + 1)) { s₁ with heap := h, toks := tk }) (fun _ _ => False) { s₁ with heap := h, toks := tk }) ∧
      (∀ oc v rest h tk, J vs.length rest → oc.data = .cell v → Fr h₀ env.locals h m → News h₀ env.locals h ((c, oc) :: rest) → Q .next { s₁ with heap := h, toks := tk })) (fun _ _ => False) s)
    (hs : ∀ x, foldedSetIterable iter env x = pure x := by intro _; rfl) :
    wpAny (model prog w) A (exec (.For (.Name x px) iter body [] pos) env) Q (fun _ _ => False) s := all_of _ (fun d => for_cellN.S d.1 d.2.1 d.2.2.1 d.2.2.2.1 d.2.2.2.2.1 d.2.2.2.2.2.1 d.2.2.2.2.2.2.1 d.2.2.2.2.2.2.2.1 d.2.2.2.2.2.2.2.2.1 d.2.2.2.2.2.2.2.2.2.1 d.2.2.2.2.2.2.2.2.2.2.1 d.2.2.2.2.2.2.2.2.2.2.2.1 d.2.2.2.2.2.2.2.2.2.2.2.2.1 d.2.2.2.2.2.2.2.2.2.2.2.2.2.1 d.2.2.2.2.2.2.2.2.2.2.2.2.2.2.1 d.2.2.2.2.2.2.2.2.2.2.2.2.2.2.2.1 d.2.2.2.2.2.2.2.2.2.2.2.2.2.2.2.2) (by with_unfolding_all exact for_cellN.core) (prog, w, A, s, h₀, env, m, iter, x, px, pos, body, Q, l, c, vs, J) _F hk hx hc hh h hs
end
end Mine
end
section

namespace Mine
section
variable {prog : Program} {w : World} {A : Around} {s : Shared} {h₀ : Heap} {env : Env}
noncomputable def BaseEnd (h₀ : Heap) (L : Addr) (I : Addr) (oI : Obj) (J : (Str → Option Value) → List (Addr × Obj) → Prop) (s₁ : Shared) (f : Flow) (s₂ : Shared) : Prop :=
  (f = .next ∨ f = .cont) ∧ ∃ h' tk m rest, s₂ = { s₁ with heap := h', toks := tk } ∧ Fr h₀ L h' m ∧ News h₀ L h' ((I, oI) :: rest) ∧ (∀ p ∈ rest, p.1 ≠ I) ∧ J m rest
theorem for_gen {x : Str} {px : Pos} {body : List Stmt} {I : Addr} {fp : List Addr} {n : Nat} {P : Nat → Value → Prop} {St : Nat → Heap → Prop} {R : Result → Shared → Prop} {m : Str → Option Value} {nx : List (Addr × Obj)}
    (W : Walks prog w A I fp [I] n P St) (J : Nat → (Str → Option Value) → List (Addr × Obj) → Prop) (hk : env.scope.kind = .function) (hx : env.kindOf x = some .local) (hIL : env.locals ≠ I) (hI0 : h₀.get? I = none)
    (keep : ∀ i h h', St i h → h'.get? I = h.get? I → (∀ b o, h₀.get? b = some o → h'.get? b = some o) → St i h') (at_ : ∀ i h, St i h → ∃ o, h.get? I = some o)
    (st0 : St 0 s.heap) (F : Fr h₀ env.locals s.heap m) (N : News h₀ env.locals s.heap nx) (hne : ∀ p ∈ nx, p.1 ≠ I) (hJ : J 0 m nx)
    (turn : ∀ i v m rest h tk oI, i < n → P i v → J i m rest → Fr h₀ env.locals h (fun y => if y = x then some v else m y) → News h₀ env.locals h ((I, oI) :: rest) → (∀ p ∈ rest, p.1 ≠ I) →
      wpAny (model prog w) A (execs body env) (BaseEnd h₀ env.locals I oI (J (i + 1)) { s with heap := h, toks := tk }) (fun _ _ => False) { s with heap := h, toks := tk })
    (done : ∀ m rest h tk, J n m rest → Fr h₀ env.locals h m → News h₀ env.locals h rest → R (.ok .next) { s with heap := h, toks := tk }) :
    codeAny (model prog w) A (.forLoop (.Name x px) (.ref I) body [] env) R s := by
  refine codeAny_forLoop (fun k s' => ∃ i h' tk m rest, s' = { s with heap := h', toks := tk } ∧ St i h' ∧ Fr h₀ env.locals h' m ∧ News h₀ env.locals h' rest ∧
      (∀ p ∈ rest, p.1 ≠ I) ∧ J i m rest ∧ i ≤ n ∧ k = n + 1 - i) ?_ (n + 1) ⟨0, _, _, m, nx, rfl, st0, F, N, hne, hJ, Nat.zero_le _, rfl⟩
  rintro k s' ⟨i, h', tk, m, rest, rfl, st, F', N', hne, hJ, hi, rfl⟩
  by_cases hlt : i < n
  · refine W.item i _ _ _ hlt st fun v' h₁ tk₁ hP st₁ hk₁ => ?_
    have F₁ := LCg.fr_but F' hk₁ hIL hI0
    have N₁ := LCg.news_but N' hk₁ hne
    obtain ⟨oI, eI⟩ := at_ _ _ st₁
    refine wpAny_assign_Name (wpAny_storeName_local hx F₁.ns (fun h₂ hn₂ hs₂ => ?_) (by rw [hk]; rfl))
    have F₂ := F₁.set hn₂ hs₂
    have eI₂ : h₂.get? I = some oI := (hs₂.2 _ (Ne.symm hIL)).trans eI
    have N₂ : News h₀ env.locals h₂ ((I, oI) :: rest) := fun p hp => by
      rcases List.mem_cons.mp hp with rfl | hp
      · exact ⟨eI₂, Ne.symm hIL, hI0⟩
      · have z := N₁ p hp
        exact ⟨(hs₂.2 _ z.2.1).trans z.1, z.2⟩
    refine wpAny_mono (turn i v' m rest h₂ _ oI hlt hP hJ F₂ N₂ hne) (fun f s₃ h₃ => ?_) fun _ _ e => e.elim
    obtain ⟨hf, h₃', tk₃, m₃, rest₃, rfl, F₃, N₃, hne₃, hJ₃⟩ := h₃
    have key : ∃ m', m' < n + 1 - i ∧ ∃ i h' tk m rest, ({ s with heap := h₃', toks := tk₃ } : Shared) = { s with heap := h', toks := tk } ∧ St i h' ∧ Fr h₀ env.locals h' m ∧ News h₀ env.locals h' rest ∧
        (∀ p ∈ rest, p.1 ≠ I) ∧ J i m rest ∧ i ≤ n ∧ m' = n + 1 - i :=
      ⟨n + 1 - (i + 1), by omega, i + 1, h₃', tk₃, m₃, rest₃, rfl, keep _ _ _ st₁ ((N₃ _ (.head _)).1.trans eI.symm) F₃.keep, F₃, fun p hp => N₃ p (.tail _ hp), hne₃, hJ₃, hlt, rfl⟩
    rcases hf with rfl | rfl
    · exact key
    · exact key
  · obtain rfl : i = n := Nat.le_antisymm hi (Nat.not_lt.mp hlt)
    exact W.done _ _ _ st fun h₁ tk₁ hk₁ => wpAny_execs_nil (done m rest h₁ tk₁ hJ (LCg.fr_but F' hk₁ hIL hI0) (LCg.news_but N' hk₁ hne))
theorem news_ne {h : Heap} {L : Addr} {nx : List (Addr × Obj)} (N : News h₀ L h nx) : ∀ p ∈ nx, p.1 ≠ h.objs.size := fun p hp => Nat.ne_of_lt (Heap.lt_size (N p hp).1)
theorem for_base {iter : PySem.Expr} {x : Str} {px pos : Pos} {body : List Stmt} {Q : Flow → Shared → Prop} {l : Addr} {vs : List Value} (J : Nat → (Str → Option Value) → List (Addr × Obj) → Prop)
    (hk : env.scope.kind = .function) (hx : env.kindOf x = some .local) (hh : A.handled = none)
    (h : wpAny (model prog w) A (eval iter env) (fun xv s₁ => ∃ m nx, xv = .ref l ∧ h₀.IsList l vs.toArray ∧ Fr h₀ env.locals s₁.heap m ∧ News h₀ env.locals s₁.heap nx ∧ J 0 m nx ∧
      (∀ i v m rest h tk I oI, vs[i]? = some v → J i m rest → Fr h₀ env.locals h (fun y => if y = x then some v else m y) → News h₀ env.locals h ((I, oI) :: rest) → (∀ p ∈ rest, p.1 ≠ I) →
        wpAny (model prog w) A (execs body env) (BaseEnd h₀ env.locals I oI (J (i + 1)) { s₁ with heap := h, toks := tk }) (fun _ _ => False) { s₁ with heap := h, toks := tk }) ∧
      (∀ m rest h tk, J vs.length m rest → Fr h₀ env.locals h m → News h₀ env.locals h rest → Q .next { s₁ with heap := h, toks := tk })) (fun _ _ => False) s)
    (hs : ∀ x, foldedSetIterable iter env x = pure x := by intro _; rfl) :
    wpAny (model prog w) A (exec (.For (.Name x px) iter body [] pos) env) Q (fun _ _ => False) s := by
  refine wpAny_For (wpAny_mono h (fun xv s₁ h₁ => ?_) fun _ _ e => e) hs
  obtain ⟨m, nx, rfl, hl, F, N, hJ, turn, done⟩ := h₁
  have hls : s₁.heap.IsList l vs.toArray := hl.at fun o e => F.keep l o e
  refine wpAny_pyIter_list hls ?_
  have hlt : l < s₁.heap.objs.size := by obtain ⟨_, e, _⟩ := hls; exact Heap.lt_size e
  have hlen : vs.toArray.size = vs.length := by simp
  exact for_gen (Walks.list hh _ l (Nat.ne_of_lt hlt) vs.toArray) J hk hx (Nat.ne_of_lt F.ns.lt) (next_is_new F) (fun i h h' st e kp => ⟨st.1.at fun o q => e.trans q, hl.at fun o q => kp _ _ q⟩) (fun i h st => let ⟨o, e, _⟩ := st.1; ⟨o, e⟩)
    ⟨⟨_, Heap.get?_push_size _ rfl, rfl, rfl⟩, hls.at fun o e => Heap.get?_push_of_some _ e⟩ (F.push _) (fun p hp => ⟨Heap.get?_push_of_some _ (N p hp).1, (N p hp).2⟩) (news_ne N) hJ
    (fun i v m rest h tk oI _ hv => turn i v m rest h tk _ oI (by simpa using hv)) (fun m rest h tk hJ => done m rest h tk (hlen ▸ hJ))
theorem for_range {iter : PySem.Expr} {x : Str} {px pos : Pos} {body : List Stmt} {Q : Flow → Shared → Prop} {a b c : Int} {n : Nat} (J : Nat → (Str → Option Value) → List (Addr × Obj) → Prop)
    (hk : env.scope.kind = .function) (hx : env.kindOf x = some .local) (hh : A.handled = none) (hsm : Builtin.Range.small a b c = true) (hn : Builtin.Range.rangeSize a b c = (n : Int))
    (h : wpAny (model prog w) A (eval iter env) (fun xv s₁ => ∃ r t u v m nx, xv = .ref r ∧ IsRange s₁.heap r a b c t u v ∧ Fr h₀ env.locals s₁.heap m ∧ News h₀ env.locals s₁.heap nx ∧ J 0 m nx ∧
      (∀ (i : Nat) t m rest h tk I oI, i < n → J i m rest → Fr h₀ env.locals h (fun y => if y = x then some (.int (a + i * c) t) else m y) → News h₀ env.locals h ((I, oI) :: rest) → (∀ p ∈ rest, p.1 ≠ I) →
        wpAny (model prog w) A (execs body env) (BaseEnd h₀ env.locals I oI (J (i + 1)) { s₁ with heap := h, toks := tk }) (fun _ _ => False) { s₁ with heap := h, toks := tk }) ∧
      (∀ m rest h tk, J n m rest → Fr h₀ env.locals h m → News h₀ env.locals h rest → Q .next { s₁ with heap := h, toks := tk })) (fun _ _ => False) s)
    (hs : ∀ x, foldedSetIterable iter env x = pure x := by intro _; rfl) :
    wpAny (model prog w) A (exec (.For (.Name x px) iter body [] pos) env) Q (fun _ _ => False) s := by
  refine wpAny_For (wpAny_mono h (fun xv s₁ h₁ => ?_) fun _ _ e => e) hs
  obtain ⟨r, t, u, v, m, nx, rfl, hr, F, N, hJ, turn, done⟩ := h₁
  refine wpAny_pyIter_range hr hsm ?_
  rw [hn]
  exact for_gen (Walks.range hh _ a c n) J hk hx (Nat.ne_of_lt F.ns.lt) (next_is_new F) (fun i h h' st e kp => Eq.trans e st) (fun i h st => ⟨_, st⟩)
    (by
      show Heap.get? _ _ = _
      rw [Heap.get?_push_size _ rfl]
      simp [rawInt]) (F.push _) (fun p hp => ⟨Heap.get?_push_of_some _ (N p hp).1, (N p hp).2⟩) (news_ne N) hJ
    (fun i v m rest h tk oI hi hv => by obtain ⟨t, rfl⟩ := hv; exact turn i t m rest h tk _ oI hi) done
end
end Mine
end
section

namespace Mine
section
variable {prog : Program} {w : World} {A : Around} {s : Shared} {h₀ : Heap} {env : Env} {L : Addr}
noncomputable def WEnd (h₀ : Heap) (L : Addr) (J : (Str → Option Value) → List (Addr × Obj) → Prop) (s₁ : Shared) (f : Flow) (s₂ : Shared) : Prop :=
  (f = .next ∨ f = .cont) ∧ ∃ h' tk m rest, s₂ = { s₁ with heap := h', toks := tk } ∧ Fr h₀ L h' m ∧ News h₀ L h' rest ∧ J m rest
end
namespace while_JN
noncomputable def S (prog : Program) (w : World) (A : Around) (s : Shared) (h₀ : Heap) (env : Env) (L : Addr) (test : PySem.Expr) (body : List Stmt) (pos : Pos) (n : Nat) (Q : Flow → Shared → Prop) (m : Str → Option Value) (nx : List (Addr × Obj)) (J : Nat → (Str → Option Value) → List (Addr × Obj) → Prop) : Prop := ∀ (F : Fr h₀ L s.heap m) (N : News h₀ L s.heap nx) (hJ : J 0 m nx) (turn : ∀ k m rest h tk, k < n → J k m rest → Fr h₀ L h m → News h₀ L h rest →
      wpAny (model prog w) A (isTrue test env (eval test env)) (fun b s₂ => b = true ∧ wpAny (model prog w) A (execs body env) (WEnd h₀ L (J (k + 1)) { s with heap := h, toks := tk }) (fun _ _ => False) s₂) (fun _ _ => False) { s with heap := h, toks := tk }) (done : ∀ m rest h tk, J n m rest → Fr h₀ L h m → News h₀ L h rest →
      wpAny (model prog w) A (isTrue test env (eval test env)) (fun b s₂ => b = false ∧ Q .next s₂) (fun _ _ => False) { s with heap := h, toks := tk }), wpAny (model prog w) A (exec (.While test body [] pos) env) Q (fun _ _ => False) s
noncomputable def zD : Program × World × Around × Shared × Heap × Env × Addr × PySem.Expr × List Stmt × Pos × Nat × (Flow → Shared → Prop) × (Str → Option Value) × List (Addr × Obj) × (Nat → (Str → Option Value) → List (Addr × Obj) → Prop) := cex (default, jW, jA, jS, default, default, (0 : Nat), default, [], default, 0, (fun _ _ => True), (fun _ => none), [], (fun _ _ _ => True)) fun d => S d.1 d.2.1 d.2.2.1 d.2.2.2.1 d.2.2.2.2.1 d.2.2.2.2.2.1 d.2.2.2.2.2.2.1 d.2.2.2.2.2.2.2.1 d.2.2.2.2.2.2.2.2.1 d.2.2.2.2.2.2.2.2.2.1 d.2.2.2.2.2.2.2.2.2.2.1 d.2.2.2.2.2.2.2.2.2.2.2.1 d.2.2.2.2.2.2.2.2.2.2.2.2.1 d.2.2.2.2.2.2.2.2.2.2.2.2.2.1 d.2.2.2.2.2.2.2.2.2.2.2.2.2.2
@[irreducible] noncomputable def prog : Program := zD.1
@[irreducible] noncomputable def w : World := zD.2.1
@[irreducible] noncomputable def A : Around := zD.2.2.1
@[irreducible] noncomputable def s : Shared := zD.2.2.2.1
@[irreducible] noncomputable def h₀ : Heap := zD.2.2.2.2.1
@[irreducible] noncomputable def env : Env := zD.2.2.2.2.2.1
@[irreducible] noncomputable def L : Addr := zD.2.2.2.2.2.2.1
@[irreducible] noncomputable def test : PySem.Expr := zD.2.2.2.2.2.2.2.1
@[irreducible] noncomputable def body : List Stmt := zD.2.2.2.2.2.2.2.2.1
@[irreducible] noncomputable def pos : Pos := zD.2.2.2.2.2.2.2.2.2.1
@[irreducible] noncomputable def n : Nat := zD.2.2.2.2.2.2.2.2.2.2.1
@[irreducible] noncomputable def Q : Flow → Shared → Prop := zD.2.2.2.2.2.2.2.2.2.2.2.1
@[irreducible] noncomputable def m : Str → Option Value := zD.2.2.2.2.2.2.2.2.2.2.2.2.1
@[irreducible] noncomputable def nx : List (Addr × Obj) := zD.2.2.2.2.2.2.2.2.2.2.2.2.2.1
@[irreducible] noncomputable def J : Nat → (Str → Option Value) → List (Addr × Obj) → Prop := zD.2.2.2.2.2.2.2.2.2.2.2.2.2.2
theorem core : S prog w A s h₀ env L test body pos n Q m nx J := by
  intro F N hJ turn done
  refine wpAny_While (codeAny_whileLoop (fun k s' => ∃ i h' tk m rest, s' = { s with heap := h', toks := tk } ∧ Fr h₀ L h' m ∧ News h₀ L h' rest ∧ J i m rest ∧ i ≤ n ∧ k = n + 1 - i) ?_ (n + 1) ⟨0, _, _, m, nx, rfl, F, N, hJ, Nat.zero_le _, rfl⟩)
  rintro k s' ⟨i, h', tk, m, rest, rfl, F', N', hJ, hi, rfl⟩
  by_cases hlt : i < n
  · refine wpAny_mono (turn i m rest h' tk hlt hJ F' N') (fun b s₂ h₂ => ?_) fun _ _ e => e.elim
    obtain ⟨rfl, h₂⟩ := h₂
    refine wpAny_mono h₂ (fun f s₃ h₃ => ?_) fun _ _ e => e.elim
    obtain ⟨hf, h₃', tk₃, m₃, rest₃, rfl, F₃, N₃, hJ₃⟩ := h₃
    have key : ∃ m', m' < n + 1 - i ∧ ∃ i h' tk m rest, ({ s with heap := h₃', toks := tk₃ } : Shared) = { s with heap := h', toks := tk } ∧ Fr h₀ L h' m ∧ News h₀ L h' rest ∧ J i m rest ∧ i ≤ n ∧ m' = n + 1 - i :=
      ⟨n + 1 - (i + 1), by omega, i + 1, h₃', tk₃, m₃, rest₃, rfl, F₃, N₃, hJ₃, hlt, rfl⟩
    rcases hf with rfl | rfl
    · exact key
    · exact key
  · obtain rfl : i = n := Nat.le_antisymm hi (Nat.not_lt.mp hlt)
    refine wpAny_mono (done m rest h' tk hJ F' N') (fun b s₂ h₂ => ?_) fun _ _ e => e.elim
    obtain ⟨rfl, h₂⟩ := h₂
    exact wpAny_execs_nil h₂
end while_JN
section
variable {prog : Program} {w : World} {A : Around} {s : Shared} {h₀ : Heap} {env : Env} {L : Addr}
theorem while_J {test : PySem.Expr} {body : List Stmt} {pos : Pos} {n : Nat} {Q : Flow → Shared → Prop} {m : Str → Option Value} {nx : List (Addr × Obj)} (J : Nat → (Str → Option Value) → List (Addr × Obj) → Prop)
    (F : Fr h₀ L s.heap m) (N : News h₀ L s.heap nx) (hJ : J 0 m nx)
    (turn : ∀ k m rest h tk, k < n → J k m rest → Fr h₀ L h m → News h₀ L h rest →
      wpAny (model prog w) A (isTrue test env (eval test env)) (fun b s₂ => b = true ∧ wpAny (model prog w) A (execs body env) (WEnd h₀ L (J (k + 1)) { s with heap := h, toks := tk }) (fun _ _ => False) s₂) (fun _ _ => False) { s with heap := h, toks := tk })
    (done : ∀ m rest h tk, J n m rest → Fr h₀ L h m → News h₀ L h rest →
      wpAny (model prog w) A (isTrue test env (eval test env)) (fun b s₂ => b = false ∧ Q .next s₂) (fun _ _ => False) { s with heap := h, toks := tk }) :
    wpAny (model prog w) A (exec (.While test body [] pos) env) Q (fun _ _ => False) s := all_of _ (fun d => while_JN.S d.1 d.2.1 d.2.2.1 d.2.2.2.1 d.2.2.2.2.1 d.2.2.2.2.2.1 d.2.2.2.2.2.2.1 d.2.2.2.2.2.2.2.1 d.2.2.2.2.2.2.2.2.1 d.2.2.2.2.2.2.2.2.2.1 d.2.2.2.2.2.2.2.2.2.2.1 d.2.2.2.2.2.2.2.2.2.2.2.1 d.2.2.2.2.2.2.2.2.2.2.2.2.1 d.2.2.2.2.2.2.2.2.2.2.2.2.2.1 d.2.2.2.2.2.2.2.2.2.2.2.2.2.2) (by with_unfolding_all exact while_JN.core) (prog, w, A, s, h₀, env, L, test, body, pos, n, Q, m, nx, J) F N hJ turn done
end
end Mine
end
section

namespace Mine
noncomputable abbrev swapI (w k : Int) : Int := k.fdiv w * w + w - 1 - k.fmod w
noncomputable def swapR (w : Nat) (row : List Int) : List Int := (rangeKs 0 row.length).map fun k => row.getD (swapI (w : Int) k).toNat 0
noncomputable abbrev bytesOf (row : List Int) : Array UInt8 := (row.map fun n => n.toNat.toUInt8).toArray
noncomputable def walkS (st : List Int × List Dat) (o : Ord) : List Int × List Dat := match o with
  | .swap i => (swapR (widthN i) st.1, st.2 ++ [Dat.bytes (bytesOf (swapR (widthN i) st.1))])
  | .fits ps => (st.1, st.2 ++ [Dat.bool (fitsP (hexT st.1) ps)])
noncomputable def walkP (row : List Int) (os : List Ord) : List Dat := (os.foldl walkS (row, [])).2
noncomputable def Ord.Ok : Ord → Prop
  | .swap i => i < 6
  | .fits ps => ps.length ≤ 4 ∧ ∀ q ∈ ps, q < 6
noncomputable def OrdAt (h : Heap) (v : Value) (o : Ord) : Prop := ∃ a ws, v = .ref a ∧ h.IsList a ws.toArray ∧ StrsAre ws o.texts
noncomputable def RowOk (row : List Int) : Prop := row.length = 12 ∧ ∀ n ∈ row, Oct n
theorem swap_bd {i : Nat} {k : Int} (hi : i < 6) (h0 : 0 ≤ k) (h1 : k < 12) : 0 ≤ swapI (widthN i : Int) k ∧ swapI (widthN i : Int) k < 12 := by
  have key : ∀ i : Fin 6, ∀ n : Fin 12, 0 ≤ swapI (widthN i.1 : Int) ((n.1 : Nat) : Int) ∧ swapI (widthN i.1 : Int) ((n.1 : Nat) : Int) < 12 := by decide +kernel
  have := key ⟨i, hi⟩ ⟨k.toNat, by omega⟩
  rwa [Int.toNat_of_nonneg h0] at this
theorem swapR_ok {i : Nat} {row : List Int} (hi : i < 6) (h : RowOk row) : RowOk (swapR (widthN i) row) := by
  refine ⟨by unfold swapR; rw [List.length_map, rangeKs_length]; exact h.1, fun n hn => ?_⟩
  obtain ⟨k, hk, rfl⟩ := List.mem_map.mp hn
  have hb := mem_rangeKs hk
  have hl := h.1
  have b := swap_bd hi (k := k) (by omega) (by omega)
  have hlt : (swapI (widthN i : Int) k).toNat < row.length := by omega
  rw [List.getD_eq_getElem?_getD, List.getElem?_eq_getElem hlt]
  exact h.2 _ (List.getElem_mem hlt)
theorem walk_ok {o : Ord} {st : List Int × List Dat} (ho : o.Ok) (h : RowOk st.1) : RowOk (walkS st o).1 := by
  cases o with
  | swap i => exact swapR_ok ho h
  | fits ps => exact h
theorem oct_byte {n : Int} (h : Oct n) : 0 ≤ n ∧ n < 256 := by
  unfold Oct at h; omega
theorem rowsOk_foldl : ∀ (os : List Ord) (st : List Int × List Dat), (∀ o ∈ os, o.Ok) → RowOk st.1 → RowOk (os.foldl walkS st).1
  | [], _, _, h => h
  | o :: os, st, ho, h => rowsOk_foldl os _ (fun x hx => ho x (.tail _ hx)) (walk_ok (ho o (.head _)) h)
theorem hexI_two (n : Int) : (hexI n).length ≤ 2 := by
  unfold hexI
  split
  · decide +kernel
  · split
    · decide +kernel
    · split <;> decide +kernel
theorem join_two (l : List Str) (h : ∀ a ∈ l, a.length ≤ 2) : (Txt.join (Str.ofString "") l).length ≤ l.length * 2 := by
  show (Builtin.Str.glued (Str.ofString "") l).length ≤ _
  rw [StrLaws.glued_eq_join]
  cases l with
  | nil => exact Nat.zero_le _
  | cons a r =>
    have z : (Str.ofString "").length = 0 := by decide
    rw [len_join_cons, z]
    have := StrLaws.sumLen_le (a :: r) h
    omega
theorem hexT_len {row : List Int} (h : RowOk row) : (hexT row).length ≤ 24 := by
  have := join_two (row.map hexI) (fun a ha => by obtain ⟨n, _, rfl⟩ := List.mem_map.mp ha; exact hexI_two n)
  rw [List.length_map, h.1] at this
  exact this
theorem walk_len : ∀ (os : List Ord) (st : List Int × List Dat), (os.foldl walkS st).2.length = st.2.length + os.length
  | [], _ => rfl
  | o :: os, st => by
    rw [List.foldl_cons, walk_len os]
    cases o <;> simp [walkS] <;> omega
end Mine
end
section

namespace Mine
noncomputable def arrK (b : Array UInt8) (w k : Nat) : Array UInt8 := (List.range k).foldl (fun a k => a.setIfInBounds (k / w * w + (w - 1 - k % w)) (b.getD k 0)) (Array.replicate 12 0)
theorem arrK_succ (b : Array UInt8) (w k : Nat) : arrK b w (k + 1) = (arrK b w k).setIfInBounds (k / w * w + (w - 1 - k % w)) (b.getD k 0) := by
  unfold arrK
  rw [List.range_succ, List.foldl_append]
  rfl
theorem arrK_size (b : Array UInt8) (w : Nat) : ∀ k, (arrK b w k).size = 12
  | 0 => by unfold arrK; simp
  | k + 1 => by rw [arrK_succ, Array.size_setIfInBounds, arrK_size b w k]
theorem twelve {α : Type} {l : List α} (h : l.length = 12) : ∃ a b c d e f g i j k m n, l = [a, b, c, d, e, f, g, i, j, k, m, n] := by
  match l, h with
  | [a, b, c, d, e, f, g, i, j, k, m, n], _ => exact ⟨a, b, c, d, e, f, g, i, j, k, m, n, rfl⟩
theorem six {P : Nat → Prop} (h0 : P 0) (h1 : P 1) (h2 : P 2) (h3 : P 3) (h4 : P 4) (h5 : P 5) : ∀ i, i < 6 → P i := fun i hi => by
  have d : i = 0 ∨ i = 1 ∨ i = 2 ∨ i = 3 ∨ i = 4 ∨ i = 5 := by omega
  rcases d with rfl | rfl | rfl | rfl | rfl | rfl <;> assumption
theorem swap_arr {i : Nat} {row : List Int} (hi : i < 6) (h : RowOk row) : arrK (bytesOf row) (widthN i) 12 = bytesOf (swapR (widthN i) row) := by
  obtain ⟨a, b, c, d, e, f, g, i', j, k, m, n, rfl⟩ := twelve h.1
  exact six (P := fun i => arrK (bytesOf [a, b, c, d, e, f, g, i', j, k, m, n]) (widthN i) 12 = bytesOf (swapR (widthN i) [a, b, c, d, e, f, g, i', j, k, m, n])) (by kernel_rfl) (by kernel_rfl) (by kernel_rfl) (by kernel_rfl) (by kernel_rfl) (by kernel_rfl) i hi
theorem bytesOf_size {row : List Int} (h : RowOk row) : (bytesOf row).size = 12 := by simp [h.1]
noncomputable def turnsN (i : Nat) : Nat := match i with | 0 => 6 | 1 => 4 | 2 => 3 | 3 => 2 | 4 => 1 | _ => 12
theorem turns_w {i : Nat} (hi : i < 6) : turnsN i * widthN i = 12 ∧ 0 < widthN i ∧ widthN i ≤ 12 := six (P := fun i => turnsN i * widthN i = 12 ∧ 0 < widthN i ∧ widthN i ≤ 12) (by decide) (by decide) (by decide) (by decide) (by decide) (by decide) i hi
theorem range_w {i : Nat} (hi : i < 6) : Builtin.Range.small 0 12 (widthN i : Int) = true ∧ Builtin.Range.rangeSize 0 12 (widthN i : Int) = ((turnsN i : Nat) : Int) ∧ Builtin.Range.small 0 (widthN i : Int) 1 = true ∧ Builtin.Range.rangeSize 0 (widthN i : Int) 1 = ((widthN i : Nat) : Int) :=
  six (P := fun i => Builtin.Range.small 0 12 (widthN i : Int) = true ∧ Builtin.Range.rangeSize 0 12 (widthN i : Int) = ((turnsN i : Nat) : Int) ∧ Builtin.Range.small 0 (widthN i : Int) 1 = true ∧ Builtin.Range.rangeSize 0 (widthN i : Int) 1 = ((widthN i : Nat) : Int))
    (by decide +kernel) (by decide +kernel) (by decide +kernel) (by decide +kernel) (by decide +kernel) (by decide +kernel) i hi
theorem place_lt {i a j : Nat} (hi : i < 6) (ha : a < turnsN i) (hj : j < widthN i) : a * widthN i + j < 12 ∧ a * widthN i + (widthN i - 1 - j) < 12 := by
  have t := turns_w hi
  have : (a + 1) * widthN i ≤ turnsN i * widthN i := Nat.mul_le_mul_right _ ha
  rw [Nat.succ_mul] at this
  omega
theorem place_div {w a j : Nat} (hj : j < w) : (a * w + j) / w * w + (w - 1 - (a * w + j) % w) = a * w + (w - 1 - j) := by
  have h0 : 0 < w := Nat.lt_of_le_of_lt (Nat.zero_le _) hj
  rw [Nat.add_comm (a * w) j, Nat.add_mul_div_right _ _ h0, Nat.div_eq_of_lt hj, Nat.add_mul_mod_self_right, Nat.mod_eq_of_lt hj, Nat.zero_add]
end Mine
end
section

namespace Mine
noncomputable abbrev pieceL (q : Nat) : List Nat := (pieceT q).cps.toList
noncomputable def patT (ps : List Nat) : Str := ⟨(ps.flatMap pieceL).toArray⟩
noncomputable def offN (ps : List Nat) (k : Nat) : Nat := ((ps.take k).flatMap pieceL).length
noncomputable def partsS (l : List Nat) (q : Nat) : List Nat := if q = 3 ∧ l.getLast? = some 3 then l else l ++ [q]
noncomputable def partsN (ps : List Nat) : List Nat := ps.foldl partsS []
theorem partsN_succ {ps : List Nat} {k q : Nat} (h : ps[k]? = some q) : partsN (ps.take (k + 1)) = partsS (partsN (ps.take k)) q := by
  unfold partsN; rw [List.take_add_one, h]; simp
theorem parts_mem {q : Nat} : ∀ (ps l : List Nat), q ∈ ps.foldl partsS l → q ∈ l ∨ q ∈ ps
  | [], l, h => .inl h
  | p :: ps, l, h => by
    rcases parts_mem ps _ h with h | h
    · unfold partsS at h
      split at h
      · exact .inl h
      · rcases List.mem_append.mp h with h | h
        · exact .inl h
        · rw [List.mem_singleton.mp h]; exact .inr (.head _)
    · exact .inr (.tail _ h)
theorem parts_len : ∀ (ps l : List Nat), (ps.foldl partsS l).length ≤ l.length + ps.length
  | [], l => Nat.le_refl _
  | p :: ps, l => by
    have := parts_len ps (partsS l p)
    have h : (partsS l p).length ≤ l.length + 1 := by unfold partsS; split <;> simp
    simp only [List.foldl_cons, List.length_cons]
    omega
theorem offN_succ {ps : List Nat} {k q : Nat} (h : ps[k]? = some q) : offN ps (k + 1) = offN ps k + (pieceL q).length := by
  unfold offN; rw [List.take_add_one, h]; simp
theorem offN_le (ps : List Nat) (k : Nat) : offN ps k ≤ (patT ps).length := by
  unfold offN patT
  show _ ≤ (List.toArray _).size
  rw [List.size_toArray]
  conv => rhs; rw [← List.take_append_drop k ps, List.flatMap_append, List.length_append]
  omega
theorem offN_end (ps : List Nat) : offN ps ps.length = (patT ps).length := by
  unfold offN patT; rw [List.take_length]; rfl
theorem pat_at {ps : List Nat} {k q : Nat} (h : ps[k]? = some q) {i c : Nat} (hc : (pieceL q)[i]? = some c) : (patT ps).cps[offN ps k + i]? = some c := by
  have hk : k < ps.length := (List.getElem?_eq_some_iff.mp h).1
  unfold patT offN
  rw [List.getElem?_toArray]
  have e : ps = ps.take k ++ q :: ps.drop (k + 1) := by
    have := List.getElem?_eq_some_iff.mp h
    obtain ⟨h1, h2⟩ := this
    rw [← h2, List.getElem_cons_drop, List.take_append_drop]
  conv => lhs; rw [e, List.flatMap_append, List.flatMap_cons]
  have hl : (List.take k (List.take k ps ++ q :: List.drop (k + 1) ps)) = ps.take k := by
    rw [List.take_append_of_le_length (by rw [List.length_take]; omega), List.take_take, Nat.min_self]
  rw [hl, List.getElem?_append_right (by omega), Nat.add_sub_cancel_left]
  rw [List.getElem?_append_left (List.getElem?_eq_some_iff.mp hc).1]
  exact hc
theorem item_of {x : Str} {i c : Nat} (h : x.cps[i]? = some c) : Txt.item x (i : Int) = ⟨#[c]⟩ := by
  have hi : i < x.cps.size := (Array.getElem?_eq_some_iff.mp h).1
  unfold Txt.item Txt.charAt seqIndex?
  have h0 : ¬ (i : Int) < 0 := by omega
  have h1 : (i : Int) < ((x.length : Nat) : Int) := Int.ofNat_lt.mpr hi
  simp [h0, h1, h]
theorem pieceL_len {q : Nat} (h : q < 6) : 1 ≤ (pieceL q).length ∧ (pieceL q).length ≤ 4 := six (P := fun q => 1 ≤ (pieceL q).length ∧ (pieceL q).length ≤ 4) (by decide +kernel) (by decide +kernel) (by decide +kernel) (by decide +kernel) (by decide +kernel) (by decide +kernel) q h
theorem patT_len : ∀ {ps : List Nat}, (∀ q ∈ ps, q < 6) → (patT ps).length ≤ 4 * ps.length
  | [], _ => Nat.le_refl _
  | q :: ps, h => by
    have ih := patT_len (ps := ps) fun x hx => h x (.tail _ hx)
    have hq := (pieceL_len (h q (.head _))).2
    have e : (patT (q :: ps)).length = (pieceL q).length + (patT ps).length := by
      show (List.toArray _).size = _ + (List.toArray _).size
      rw [List.size_toArray, List.size_toArray, List.flatMap_cons, List.length_append]
    rw [e, List.length_cons]
    omega
end Mine
end
section

namespace Mine
theorem slice_two {x : Str} {i c d : Nat} (h1 : x.cps[i]? = some c) (h2 : x.cps[i + 1]? = some d) : Txt.slice x (some (i : Int)) (some ((i : Int) + 1 + 1)) = ⟨#[c, d]⟩ := by
  obtain ⟨z1, g1⟩ := Array.getElem?_eq_some_iff.mp h1
  obtain ⟨z2, g2⟩ := Array.getElem?_eq_some_iff.mp h2
  have a1 : i < x.cps.toList.length := by rw [Array.length_toList]; exact z1
  have a2 : i + 1 < x.cps.toList.length := by rw [Array.length_toList]; exact z2
  rw [show (i : Int) + 1 + 1 = ((i + 2 : Nat) : Int) by omega]
  show StrLaws.sliceText x (some ((i : Nat) : Int)) (some (((i + 2 : Nat)) : Int)) = _
  rw [StrLaws.sliceText_nat x (by omega) (show i + 2 ≤ x.cps.size by omega), List.drop_eq_getElem_cons a1, List.drop_eq_getElem_cons a2, show i + 2 - i = 2 by omega]
  simp [g1, g2]
end Mine
end
section

namespace Mine
section
variable {prog : Program} {w : World} {A : Around} {E : Value → Shared → Prop} {s : Shared}
theorem replace_no {x y z : Str} {t u v : Tok} {Q : Value → Shared → Prop} (he : (Builtin.Str.occurrences x y 0 x.length (x.length + 1)).isEmpty = true) (hq : Q (.str x t) s) : wpAny (model prog w) A (call (.builtin "str.replace") [.str x t, .str y u, .str z v]) Q E s := by
  refine call_gives F.slot_str_replace (typeIs_str _ _ _) F.entry_str_replace (F.args_str_replace_3 _ _ _)
    (gives_str_replace x y z t u v fun h => ?_) ?_
  · rw [he] at h
    simp at h
  · rw [he]
    simp only [Bool.true_or, if_true]
    exact hq
end
end Mine
end
section

namespace Mine
theorem ap_lookup : typeLookup (.type "list") "append" = pure (some (.builtin "list.append")) := by rw [typeLookup_type, builtinLookup_eq_fast]; kernel_rfl
theorem ap_type : typeOf (.builtin "list.append") = pure (.type "method_descriptor") := by
  show builtinType _ = _
  rw [builtinType_eq_fast]; kernel_rfl
theorem md_set : typeLookup (.type "method_descriptor") "__set__" = pure none := by rw [typeLookup_type, builtinLookup_eq_fast]; kernel_rfl
theorem md_delete : typeLookup (.type "method_descriptor") "__delete__" = pure none := by rw [typeLookup_type, builtinLookup_eq_fast]; kernel_rfl
theorem md_slot_get : Slot "method_descriptor" "__get__" "method_descriptor.__get__" :=
  .of (owner := "method_descriptor") (n := "__get__") (by rw [typeLookup_type, builtinLookup_eq_fast]; kernel_rfl) (by decide +kernel) (by decide +kernel) (by decide +kernel)
    (by first | exact .inl (by decide +kernel) | exact .inr (by decide +kernel)) (by rw [isSubtype_type]; kernel_rfl)
theorem md_entry : entryFor table "method_descriptor.__get__" = some Builtin.«method_descriptor.__get__» := entryFor_of_tree (by kernel_rfl)
theorem md_args (a b c : Value) : argsOk "method_descriptor.__get__" ⟨[a, b, c], []⟩ := by unfold argsOk; kernel_rfl
theorem md_told : (Manifest.toldItsClass.contains "list.append") = false := by decide +kernel
section
variable {prog : Program} {w : World} {A : Around} {E : Value → Shared → Prop} {s : Shared}
theorem append_attr {a : Addr} {xs : Array Value} {n : Nat} {Q : Value → Shared → Prop} (hx : s.heap.get? a = some { cls := .type "list", data := .seq xs n })
    (h : ∀ tk, Q (.ref s.heap.objs.size) { s with heap := s.heap.push { cls := .type "builtin_function_or_method", data := .fields #[.builtin "list.append", .ref a] }, toks := tk }) :
    wpAny (model prog w) A (getAttr (.ref a) (Str.ofString "append") true) Q E s := by
  obtain ⟨hp, g, d, tk, os⟩ := s
  have hT : ∀ tk', (⟨hp, g, d, tk', os⟩ : Shared).TypeIs (.ref a) "list" := fun _ => ⟨_, hx, rfl⟩
  have f3 := F.slot_list_getattribute.lookup
  have f4 := F.slot_list_getattribute.bind (.ref a)
  have f5 := am_list_getattr_none
  unfold getAttr getAttrBy
  repeat (any_goals (first | assumption | exact hT _ | wp_step))
  refine codeAny_call_builtin F.slot_list_getattribute.plain am_entry_list_getattribute (F.slot_list_getattribute.check _ _ _ _ _ _ _ _ (hT _) (F.args_list_getattribute_2 _ _) ?_)
  have g1 := ap_lookup
  have g2 := ap_type
  have g3 := md_set
  have g4 := md_delete
  have g5 := md_slot_get.lookup
  have g6 : isSubtype (.type "list") (.type "list") = pure true := by rw [isSubtype_type]; kernel_rfl
  have hT5 : ∀ tk', (⟨hp, g, d, tk', os⟩ : Shared).TypeIs (.builtin "list.append") "method_descriptor" := fun _ => ap_type
  unfold Builtin.«object.__getattribute__»
  repeat (any_goals (first | assumption | exact hT _ | exact hT5 _ | wp_step))
  refine codeAny_call_builtin md_slot_get.plain md_entry (md_slot_get.check _ _ _ _ _ _ _ _ (hT5 _) (md_args _ _ _) ?_)
  unfold Builtin.«method_descriptor.__get__»
  refine wpAny_bind (wpAny_of_eq (a := (.builtin "list.append", some (.ref a), some (.type "list"))) (by first | rfl | kernel_rfl) ?_)
  dsimp only
  simp only [md_told, Bool.false_eq_true, if_false]
  refine wpAny_bind (wpAny_bind (wpAny_of_eq (a := (Str.ofString "append", .type "list")) (by
    have e1 : ("list.append".cutAt '.').getLastD "" = "append" := by decide +kernel
    have e2 : ".".intercalate ("list.append".cutAt '.').dropLast = "list" := by decide +kernel
    show pure (Str.ofString (("list.append".cutAt '.').getLastD ""), Value.type (".".intercalate ("list.append".cutAt '.').dropLast)) = _
    rw [e1, e2]) ?_))
  dsimp only
  repeat (any_goals (first | assumption | exact hT _ | exact hT5 _ | wp_step))
  exact h _
end
end Mine
end
section
open PySem PySem.W PySem.Calls PyProof.Rows PySem.Builtin.Re
namespace Mine
theorem sb_attrs : PlainAttrs "re.Pattern" := ⟨⟨"object.__getattribute__", by rw [typeLookup_type, builtinLookup_eq_fast]; kernel_rfl, by decide +kernel⟩, by rw [typeLookup_type, builtinLookup_eq_fast]; kernel_rfl⟩
theorem sb_slot : Slot "re.Pattern" "sub" "re.Pattern.sub" :=
  .of (owner := "re.Pattern") (n := "sub") (by rw [typeLookup_type, builtinLookup_eq_fast]; kernel_rfl) (by decide +kernel) (by decide +kernel) (by decide +kernel)
    (by first | exact .inl (by decide +kernel) | exact .inr (by decide +kernel)) (by rw [isSubtype_type]; kernel_rfl)
theorem sb_type : typeOf (.builtin "re.Pattern.sub") = pure (.type "method_descriptor") := by show builtinType _ = _; rw [builtinType_eq_fast]; kernel_rfl
theorem sb_entry : entryFor table "re.Pattern.sub" = some Builtin.«re.Pattern.sub» := entryFor_of_tree (by kernel_rfl)
theorem sb_loop : entryFor table "re.Pattern.sub.loop" = some Builtin.«re.Pattern.sub.loop» := entryFor_of_tree (by kernel_rfl)
theorem sb_args (a b c : Value) : argsOk "re.Pattern.sub" ⟨[a, b, c], []⟩ := by unfold argsOk; kernel_rfl
theorem fn_call : typeLookup (.type "function") "__call__" = pure (some (.builtin "function.__call__")) := by rw [typeLookup_type, builtinLookup_eq_fast]; kernel_rfl
noncomputable def codeF : Array Nat := #[14, 14, 4, 1, 1, 9, 0, 64, 0, 1342177280, 0, 0, 0, 0, 0, 17, 0, 13, 11, 9, 0, 64, 0, 1342177280, 0, 0, 0, 0, 0, 17, 1, 1]
noncomputable def foundF (x : Str) : Option Bool := match adv 400 (Sre.forSearch codeF x.cps 1 0 x.cps.size false) with
  | some m => (match m.outcome with | some .matched => some true | some .failed => some false | _ => none)
  | none => none
theorem foundF_two : foundF ⟨#[48, 97]⟩ = some false ∧ foundF ⟨#[33, 48]⟩ = some false := by decide +kernel
section
variable {w : World} {A : Around} {s : Shared} {Q E : Value → Shared → Prop}
theorem if_ng {α : Type} {M : Model} {A : Around} {E : Value → Shared → Prop} {s : Shared} {c : Prop} [Decidable c] {a b : Sem α} {Q : α → Shared → Prop} (h : ¬ c) (x : wpAny M A b Q E s) : wpAny M A (if c then a else b) Q E s := by rw [if_neg h]; exact x
theorem if_ps {α : Type} {M : Model} {A : Around} {E : Value → Shared → Prop} {s : Shared} {c : Prop} [Decidable c] {a b : Sem α} {Q : α → Shared → Prop} (h : c) (x : wpAny M A a Q E s) : wpAny M A (if c then a else b) Q E s := by rw [if_pos h]; exact x
theorem sub_method {prog : Program} {w : World} {pl : Sem Bool} {Q : Value × List Value → Shared → Prop} {E : Value → Shared → Prop} (X : (hd.heap_39 w.params).In s.heap) (h : Q (.builtin "re.Pattern.sub", [.ref 56]) s) : wpAny (model prog w) A (getMethod (.ref 56) (Str.ofString "sub") pl) Q E s := by
  have z56 := X 56 _ rfl
  exact getMethod_builtin (T := "re.Pattern") ⟨_, z56, rfl⟩ sb_attrs sb_slot sb_type (fun a e => by cases e; exact ⟨_, z56, rfl⟩) h
theorem whole_F {w : World} {A : Around} {s : Shared} {Q : ReTarget → Shared → Prop} {E : Value → Shared → Prop} (X : (hd.heap_39 w.params).In s.heap) {x : Str} {t : Tok}
    (h : Q { pattern := .ref 56, string := .str x t, code := codeF, text := x.cps, kind := 0, groups := 1, pos := 0, lim := x.cps.size } s) :
    wpAny (model PG w) A (reWholeTarget (.ref 56) (.str x t)) Q E s := by
  have z56 := X 56 _ rfl
  have z55 := X 55 _ rfl
  obtain ⟨hh, gg, dd, tt, oo⟩ := s
  unfold reWholeTarget
  repeat lk
  refine Eq.mp (congrArg (fun z => Q z _) ?_) h
  refine (ReTarget.mk.injEq ..).mpr ⟨rfl, rfl, by decide +kernel, rfl, rfl, rfl, rfl, rfl⟩
theorem sub_call (X : (hd.heap_39 w.params).In s.heap) {f : Addr} {o : Obj} (hf : s.heap.get? f = some o) (hc : o.cls = .type "function") {x : Str} {t : Tok} (hx : 0 < x.cps.size ∧ x.cps.size ≤ 1000) (hn : foundF x = some false)
    (h : ∀ h' tk t', s.heap.StaysIn h' → Q (.str x t') { s with heap := h', toks := tk }) :
    wpAny (model PG w) A (call (.builtin "re.Pattern.sub") [.ref 56, .ref f, .str x t]) Q E s := by
  refine wpAny_call ?_
  have z56 := X 56 _ rfl
  have hT : s.TypeIs (.ref 56) "re.Pattern" := ⟨_, z56, rfl⟩
  have X0 := X
  obtain ⟨hh, gg, dd, tt, oo⟩ := s
  refine codeAny_call_builtin sb_slot.plain sb_entry (sb_slot.check _ _ _ _ _ _ _ _ hT (sb_args _ _ _) ?_)
  show wpAny _ _ (reSubstitute "re.Pattern.sub" "sub" false _) _ _ _
  unfold reSubstitute
  dsimp only
  refine wpAny_bind (wpAny_of_eq (a := [some (.ref f), some (.str x t), none]) (by first | rfl | kernel_rfl) ?_)
  dsimp only
  refine wpAny_bind (wpAny_pure ?_)
  refine wpAny_bind (wpAny_specialOf (T := "function") ⟨_, hf, hc⟩ fn_call ?_)
  refine wpAny_bind (wpAny_of_eq (a := false) rfl ?_)
  refine wpAny_bind (wpAny_of_eq (a := (Value.ref f, 1)) rfl ?_)
  dsimp only
  refine wpAny_bind (wpAny_holding (whole_F X0 ?_))
  refine wpAny_bind ?_
  unfold reNotHeld
  refine wpAny_bind (wpAny_isInstance (T := "str") (b := false) (typeIs_str _ _ _) (by rw [isSubtype_type]; kernel_rfl) ?_)
  rw [if_neg Bool.false_ne_true]
  refine wpAny_pure ?_
  unfold newList
  refine wpAny_bind (wpAny_newObj_type ?_ (by size_fits))
  refine wpAny_pure ⟨Code.quiet_builtin _ (by decide +kernel), codeAny_builtin sb_loop ?_⟩
  dsimp only
  have X1 : (hd.heap_39 w.params).In (hh.push { cls := .type "list", data := .seq #[] 0 }) := fun a o e => Heap.get?_push_of_some _ (X0 a o e)
  have L1 : (hh.push { cls := .type "list", data := .seq #[] 0 }).get? hh.objs.size = some { cls := .type "list", data := .seq #[] 0 } := Heap.get?_push_size _ rfl
  have S1 : hh.StaysIn (hh.push { cls := .type "list", data := .seq #[] 0 }) := fun b o e => Heap.get?_push_of_some _ e
  show wpAny _ _ (Builtin.«re.Pattern.sub.loop» ⟨[.ref 56, .str x t, .ref f, rawInt 1, rawInt 0, rawInt 0, rawInt 0, rawInt 0, .bool false, .ref hh.objs.size, .bool false], []⟩) _ _ _
  unfold Builtin.«re.Pattern.sub.loop»
  dsimp only [rawInt]
  refine wpAny_bind (whole_F X1 ?_)
  dsimp only
  rw [if_neg (by decide)]
  refine wpAny_bind ?_
  rw [if_neg (by decide)]
  show wpAny _ _ (reRunToEnd (Sre.forSearch codeF x.cps 1 0 x.cps.size false)) _ _ _
  unfold foundF at hn
  cases ea : adv 400 (Sre.forSearch codeF x.cps 1 0 x.cps.size false) with
  | none => rw [ea] at hn; cases hn
  | some m =>
    rw [ea] at hn
    dsimp only at hn
    refine run_end (k := 400) (by decide) ea (.inr ⟨?_, ?_⟩)
    · revert hn
      split <;> intro hn <;> first | assumption | cases hn
    dsimp only
    rw [if_pos (show Int.toNat 0 < x.cps.size from hx.1)]
    unfold reSlice
    refine wpAny_bind ?_
    rw [if_pos (by decide)]
    refine wpAny_mkStr ?_ (by rw [sizeLine_eq]; show (x.cps.extract 0 x.cps.size).size ≤ _; rw [Array.extract_size]; omega)
    rw [show (⟨x.cps.extract (Int.toNat 0) x.cps.size⟩ : Str) = x from congrArg Str.mk Array.extract_size]
    refine wpAny_bind (wpAny_updateSeq L1 rfl ?_)
    refine wpAny_bind ?_
    rw [if_pos (by decide)]
    refine wpAny_mkStr ?_ (by rw [sizeLine_eq]; show (x.cps.extract 0 0).size ≤ _; rw [Array.size_extract]; omega)
    have L2 := Heap.get?_update_self (Obj.mapSeq (·.push (.str x tt))) L1 rfl
    refine wpAny_bind ?_
    unfold seqItems?
    dsimp only
    refine wpAny_bind (wpAny_load L2 ?_)
    refine wpAny_pure ?_
    refine if_ng (by simp [Obj.mapSeq]) ?_
    refine wpAny_bind ?_
    have e0 : (⟨x.cps.extract 0 0⟩ : Str) = ⟨#[]⟩ := congrArg Str.mk (by simp)
    rw [e0]
    show wpAny _ _ (call (.builtin "str.join") _) _ _ _
    refine wpAny_call_entry PySem.F.slot_str_join (typeIs_str _ _ _) PySem.F.entry_str_join ?_ (PySem.F.args_str_join_2 _ _)
    unfold Builtin.«str.join»
    refine wpAny_bind (wpAny_of_eq (a := (.str ⟨#[]⟩ _, ⟨#[]⟩, .ref hh.objs.size)) (by first | rfl | kernel_rfl) ?_)
    dsimp only
    refine wpAny_bind (wpAny_typeOf (T := "list") ⟨_, L2, rfl⟩ ?_)
    refine if_ps (by decide) ?_
    refine wpAny_bind ?_
    unfold seqItems?
    dsimp only
    refine wpAny_bind (wpAny_load L2 ?_)
    refine wpAny_pure ?_
    show wpAny _ _ (do rule "str.join.same-object"; ret (.str x tt)) _ _ _
    refine wpAny_bind (wpAny_rule (wpAny_pure ⟨_, rfl, ?_⟩))
    refine if_ng (by decide) ?_
    refine wpAny_pure (h _ _ _ ?_)
    exact fun b o e => ((Heap.SameBut.update _ _ _).2 b (Nat.ne_of_lt (Heap.lt_size e))).trans (S1 b o e)
end
end Mine
end
section

namespace Mine
noncomputable abbrev boundAp (a : Addr) : Obj := { cls := .type "builtin_function_or_method", data := .fields #[.builtin "list.append", .ref a] }
section
variable {prog : Program} {w : World} {A : Around} {E : Value → Shared → Prop} {s : Shared} {h₀ : Heap} {L : Addr} {m : Str → Option Value} {news : List (Addr × Obj)}
theorem append_attrN {a : Addr} {o : Obj} {xs : Array Value} {n : Nat} {Q : Value → Shared → Prop} (F : Fr h₀ L s.heap m) (N : News h₀ L s.heap news) (hm : (a, o) ∈ news) (ho : o = { cls := .type "list", data := .seq xs n })
    (h : ∀ u h' tk, (∀ p ∈ news, p.1 < u) → Fr h₀ L h' m → News h₀ L h' ((u, boundAp a) :: news) → Q (.ref u) { s with heap := h', toks := tk }) :
    wpAny (model prog w) A (getAttr (.ref a) (Str.ofString "append") true) Q E s := by
  subst ho
  exact append_attr (N.get hm) fun tk => h _ _ _ (fun p hp => Heap.lt_size (N p hp).1) (F.push _) (News.push F N _)
theorem callWith_ap' {M : Model} {pos : Pos} {u a : Addr} {first : List Value} {args : List (Bool × Sem Value)} {Q : Value → Shared → Prop} (hplain : args.any (·.1) = false)
    (h : wpAny M A (evalArgs (.ref u) true args []) (fun x s₁ => s₁.heap.get? u = some (boundAp a) ∧ wpAny M A (call (.ref u) (first ++ x.pos) x.kw) Q E s₁) E s) : wpAny M A (callWith pos (.ref u) first args []) Q E s := by
  unfold callWith
  refine wpAny_bind (wpAny_holding (wpAny_mono h (fun x s₁ h₁ => wpAny_bind (wpAny_standAt ?_)) fun _ _ x => x))
  obtain ⟨ho, hcall⟩ := h₁
  simp only [hplain, List.any_nil, Bool.or_false]
  refine wpAny_bind (m := keeperOf (.ref u)) ?_
  unfold keeperOf
  refine wpAny_bind (wpAny_load ho ?_)
  simp only [show (Value.type "builtin_function_or_method" != Value.type "method") = true by decide, show (Value.type "builtin_function_or_method" == Value.type "builtin_function_or_method" || Value.type "builtin_function_or_method" == Value.type "method-wrapper") = true by decide, if_true]
  refine wpAny_pure ?_
  exact wpAny_bind (wpAny_mono hcall (fun r s₂ hr => wpAny_bind (wpAny_holding (wpAny_point (wpAny_pure hr)))) fun _ _ x => x)
theorem callWith_ap {M : Model} {pos : Pos} {u a : Addr} {first : List Value} {env : Env} {e : PySem.Expr} {rest : List PySem.Expr} {Q : Value → Shared → Prop}
    (h : wpAny M A (spliced (backTo pos (starEach (e :: rest) env))) (fun vs s₁ => s₁.heap.get? u = some (boundAp a) ∧ wpAny M A (call (.ref u) (first ++ vs)) Q E s₁) E s)
    (he : starEach (e :: rest) env = (false, eval e env) :: starEach rest env := by rfl) (hplain : (backTo pos (starEach rest env)).any (·.1) = false := by rfl) :
    wpAny M A (callWith pos (.ref u) first (backTo pos (starEach (e :: rest) env)) []) Q E s := by
  rw [he] at h ⊢
  refine callWith_ap' (a := a) (by show (false || (backTo pos (starEach rest env)).any (·.1)) = false; rw [hplain]; rfl) ?_
  exact evalArgs_plain h
theorem call_ap {u a : Addr} {x : Value} {xs : Array Value} {n : Nat} {Q : Value → Shared → Prop} (hu : s.heap.get? u = some (boundAp a)) (ha : s.heap.get? a = some (W.listOf xs n)) (hsz : xs.size ≤ 1000)
    (h : ∀ n', (s.heap.update a (Obj.mapSeq (·.push x))).get? a = some (W.listOf (xs.push x) n') → Q .none { s with heap := s.heap.update a (Obj.mapSeq (·.push x)) }) :
    wpAny (model prog w) A (call (.ref u) [x]) Q E s := by
  refine wpAny_call ?_
  have hT : s.TypeIs (.ref a) "list" := ⟨_, ha, rfl⟩
  obtain ⟨hh, gg, dd, tt, oo⟩ := s
  refine codeAny_of_tree ?_
  show wpAny _ _ (callAny (.ref u) _) _ _ _
  repeat lk
  refine ⟨Code.quiet_builtin _ (by decide +kernel), codeAny_builtin F.entry_list_append ?_⟩
  show wpAny _ _ (updateSeq a (·.push x) >>= fun _ => ret .none) _ _ _
  refine wpAny_bind ?_
  obtain ⟨n', hd'⟩ := Obj.data_mapSeq (o := W.listOf xs n) rfl (·.push x)
  have e : Obj.mapSeq (·.push x) (W.listOf xs n) = W.listOf (xs.push x) n' := by
    unfold Obj.mapSeq W.listOf at *
    simp only [Obj.mk.injEq, true_and, and_true] at *
    exact hd'
  refine wpAny_updateSeq ha rfl (wpAny_pure (h n' ?_))
  rw [← e]
  exact Heap.get?_update_self (Obj.mapSeq (·.push x)) ha rfl
theorem call_apN {pre post : List (Addr × Obj)} {u a : Addr} {x : Value} {xs : Array Value} {n : Nat} {Q : Value → Shared → Prop} (F : Fr h₀ L s.heap m) (N : News h₀ L s.heap (pre ++ (a, W.listOf xs n) :: post)) (hu : (u, boundAp a) ∈ pre ++ post) (hne : ∀ p ∈ pre ++ post, p.1 ≠ a) (hsz : xs.size ≤ 1000)
    (h : ∀ h' n', Fr h₀ L h' m → News h₀ L h' (pre ++ (a, W.listOf (xs.push x) n') :: post) → Q .none { s with heap := h' }) :
    wpAny (model prog w) A (call (.ref u) [x]) Q E s := by
  have Na := N (a, W.listOf xs n) (List.mem_append_right _ (.head _))
  have hu' : (u, boundAp a) ∈ pre ++ (a, W.listOf xs n) :: post := by
    rcases List.mem_append.mp hu with h | h
    · exact List.mem_append_left _ h
    · exact List.mem_append_right _ (.tail _ h)
  have sb : Heap.SameBut a s.heap (s.heap.update a (Obj.mapSeq (·.push x))) := Heap.SameBut.update ..
  refine call_ap (N.get hu') Na.1 hsz fun n' e => h _ n' (F.change sb Na.2.1 Na.2.2) fun p hp => ?_
  have keep : p ∈ pre ++ post → _ := fun hp' => by
    have z := N p (by rcases List.mem_append.mp hp' with h | h; exact List.mem_append_left _ h; exact List.mem_append_right _ (.tail _ h))
    exact (⟨sb.extBut _ _ (hne p hp') z.1, z.2⟩ : (s.heap.update a (Obj.mapSeq (·.push x))).get? p.1 = some p.2 ∧ p.1 ≠ L ∧ h₀.get? p.1 = none)
  rcases List.mem_append.mp hp with hp | hp
  · exact keep (List.mem_append_left _ hp)
  · rcases List.mem_cons.mp hp with rfl | hp
    · exact ⟨e, Na.2⟩
    · exact keep (List.mem_append_right _ hp)
end
end Mine
end
section

namespace Mine
theorem fillH1 : PySem.Challenge.rw_in0080_01 = PySem.Challenge.rw_in0080_01 ∧ hd.heap_39 = hd.heap_39 := by k_fill; exact ⟨rfl, rfl⟩
theorem oct_of {ns : List Int} {k : Int} (h : ∀ n ∈ ns, Oct n) (hk : k ∈ ns) : Oct k := h k hk
theorem hexI_len (n : Int) : (hexI n).length ≤ 2 := by
  unfold hexI
  split
  · decide +kernel
  · split
    · decide +kernel
    · split <;> decide +kernel
theorem hexL_spec {w : World} {dp un : Nat} {gd : Option (List Code)} {s : Shared} {p : Program} {loose : List Str} {mean : ExcName → Option Value} {mg mb : Str → Option Value} {base : Heap} {outer : List Env} {Q E : Value → Shared → Prop}
    (C : Cx w p loose mean mg mb base dp un gd outer s.heap s) (hroom : dp + 30 < recursionLimit) {al : Addr} {vs : List Value} {ns : List Int} (hal : s.heap.IsList al vs.toArray) (hvs : IntsAre vs ns) (hlen : ns.length ≤ 12) (ho : ∀ n ∈ ns, Oct n)
    (k : ∀ h' tk t, s.heap.StaysIn h' → Q (.str (hexT ns) t) { s with heap := h', toks := tk }) :
    wpAny (model PG w) (Ar dp un gd outer) (call (.ref 807) [.ref al]) Q E s := by
  obtain ⟨X, T, B, G, Gz⟩ := C
  refine wpAny_call ?_
  k_dflt (refine' enter (news := []) X T (fun _ _ e => e) (Nat.le_refl _) (fun _ h => nomatch h) ?k6 ?k7 ?k8 ?k9 ?kB ?_ ?c2 ?c3 ?c4 ?c5; (case k6 => k_is); (case k7 => k_is); (case k8 => (show dp < _; omega)); (case k9 => first | exact BindsTo.of_eq rfl | exact binds_K (by k_in) rfl (by k_is) rfl rfl rfl);(case c5 => decide); (case kB => exact locs rfl); (case c2 => exact rfl); (case c3 => exact rfl); (case c4 => exact rfl))
  intro L' h₁ _ F N l1 G1
  (try dsimp only); (try k_fold)
  repeat' ((first | ((with_reducible show wpAny _ _ (call (Value.builtin "str.join") _) _ _ _); (k_dflt (refine KT.join_B 2 ?hl (by assumption) (fun a _ => hexI_len a) (by omega) (by decide +kernel) ?_; (case hl => is_list); intro _ _))) | ((with_reducible show KCtEl _ _ _ _); exact kct_el (by decide +kernel) rfl rfl) | ((with_reducible show LCg.CompSrc _ _ _ _ _ _ _ _ _ _ _ _ _ _); (k_dflt (refine LCg.CompSrc.base (by rfl) (by k_asm) (by k_asm) (by assumption) (by simp only [List.size_toArray]; rw [PySem.sizeLine_eq]; (have hkl := IntsAre.length (by assumption)); omega) ?_; intro g'; (refine' kct_list hexI (by assumption) (fun k' t' I' oI' C' oC' D' m' ys' h' tk' E' hk' hC' hx' F' N' off' ne' hM' => ?_) ?_); (first | (have ho9 := oct_of (by assumption) hk'; (try (simp only [LCg.Off3, and_true] at off')); rcases ho9 with ho9 | ho9 | ho9 | ho9 <;> subst ho9) | skip)))) | ((with_reducible show wpAny _ _ (eval (PySem.Expr.ListComp _ _ _ _) _) _ _ _); (k_dflt (refine LCg.ListComp_U (F₀ := by k_asm) (by with_unfolding_all rfl) (by decide) (by rfl) (by decide) (by rfl) ?_))) | (k_unfold; (try dsimp only)) | (k_end; wrow_close) | walk1 | (dsimp only; walk1) | (leave1; walk_say "STEP leave1"; try dsimp only) | fail "no step") <;> (try dsimp only))
  all_goals first | done | exact k _ _ _ (by first | exact F'.keep | exact Fr.keep (by assumption))
end Mine
end
section

namespace Mine
noncomputable def TabOk (pst : Array Value) : Prop := pst = #[] ∨ ∃ c : Addr, pst = #[rawInt 69, rawInt 46, .ref c]
theorem code74 {P : Params} : codeHdIn (hd.heap_39 P) 74 70 = true := by kernel_rfl
section
variable {M : Model} {w : World} {A : Around} {E : Value → Shared → Prop} {s : Shared} {h₀ : Heap} {L a u D : Addr} {m mg mb : Str → Option Value} {cn : Str} {cs : Scope} {cl : List (Str × Addr)} {ou oD : Obj}
  {p : Program} {loose : List Str} {mean : ExcName → Option Value} {name qual : Str} {params : Arguments} {body : PySem.Expr} {scope : Scope} {pst : Array Value} {firstLine : Nat} {clos : List (Str × Addr)}
theorem lam_tab {Q : Value → Shared → Prop} {pos : Pos} (hl : pos.line = 69) (hc : pos.col = 46) (X : (hd.heap_39 w.params).In h₀) (F : Fr h₀ L s.heap m) (N : News h₀ L s.heap [(u, ou), (D, oD), (70, tabObj pst)]) (T : Top p loose mean mg mb h₀) (hp : TabOk pst)
    (hu : u ≠ 70) (hD : D ≠ 70) (hcl : closureFor scope (envX cn cs L a (.ref 74) cl) = pure clos)
    (h : ∀ f o pst' h' tk, TabOk pst' → o.cls = .type "function" → Fr h₀ L h' m → News h₀ L h' [(f, o), (u, ou), (D, oD), (70, tabObj pst')] → Q (.ref f) { s with heap := h', toks := tk }) :
    wpAny M A (makeFunction name qual params (.expr body) scope (envX cn cs L a (.ref 74) cl) [] [] [] pos firstLine) Q E s := by
  rcases hp with rfl | ⟨c, rfl⟩
  · refine kla_nest (P := 70) (ps := #[]) (g := fun o => [(u, ou), (D, oD), (70, o)]) F N T (codeHd_of_K X code74) rfl ?_ trivial rfl hcl fun f c' oc vs t ctv h' tk F' N' _ _ _ _ => ?_
    · exact .tail hu (.tail hD (.head (fun _ h => nomatch h)))
    · refine h f (kla_obj name qual params body scope clos ((mg (Str.ofString "__name__")).getD .none) c' ctv) (#[] ++ #[rawInt pos.line, rawInt pos.col, .ref c']) h' tk (.inr ⟨c', by rw [hl, hc]; rfl⟩) rfl F' fun q hq => ?_
      rcases List.mem_cons.mp hq with rfl | hq
      · exact N' _ (.head _)
      · exact N' q (.tail _ (.tail _ hq))
  · refine kla_hit (P := 70) (ps := #[rawInt 69, rawInt 46, .ref c]) (c' := c) F N T (codeHd_of_K X code74) rfl (.tail _ (.tail _ (.head _))) trivial ?_ hcl fun f ctv h' tk F' N' _ => ?_
    · simp [codeAmong, rawInt, hl, hc]
    · exact h _ _ _ _ _ (.inr ⟨c, rfl⟩) rfl F' N'
end
end Mine
end
section

namespace Mine
theorem fillES : PySem.Challenge.rw_in0080_01 = PySem.Challenge.rw_in0080_01 ∧ hd.heap_39 = hd.heap_39 := by k_fill; exact ⟨rfl, rfl⟩
section
variable {prog : Program} {w : World} {A : Around} {E : Value → Shared → Prop} {s : Shared}
theorem look_miss {d : Addr} {c : Nat} (hh : A.handled = none) (hd : (d == sysModules) = false) {f : Int → Option Value} (hm : s.heap.MapOf (intKind prog w) d f) (hf : f (c : Int) = none) {Q : Builtin.Str.Mapped → Shared → Prop} (h : ∀ h' tk, s.heap.StaysIn h' → Q .keep { s with heap := h', toks := tk }) : wpAny (model prog w) A (Builtin.Str.tableLookup (.ref d) c) Q E s := by
  unfold Builtin.Str.tableLookup
  refine wpAny_bind (wpAny_attempt (wpAny_bind (wpAny_mkInt ?_)))
  refine wpAny_getItem_missing_of (knd := intKind prog w) (k := (c : Int)) (by simp [intKind, Value.isInt]) hd hh hm hf fun h' e he => ?_
  refine wpAny_bind ?_
  obtain ⟨k1, k2, ob, tt, k3, k4, k5⟩ := he
  refine wpAny_isInstance (T := "KeyError") (b := true) ⟨ob, k3, k4⟩ (by rw [isSubtype_type]; kernel_rfl) ?_
  rw [if_pos rfl]
  exact wpAny_bind (wpAny_rule (wpAny_pure (h _ _ k1)))
theorem translate1 {c : Nat} {t : Tok} {d : Addr} (hh : A.handled = none) (hd : (d == sysModules) = false) {f : Int → Option Value} (hm : s.heap.MapOf (intKind prog w) d f) (hf : f (c : Int) = none) {Q : Fin → Shared → Prop} (hc : c < 128) (h : ∀ h' tk t', s.heap.StaysIn h' → Q (.done (.ret (.str ⟨#[c]⟩ t'))) { s with heap := h', toks := tk }) :
    wpAny (model prog w) A (Builtin.«str.translate» ⟨[.str ⟨#[c]⟩ t, .ref d], []⟩) Q E s := by
  unfold Builtin.«str.translate»
  refine wpAny_bind (wpAny_of_eq (a := (.str ⟨#[c]⟩ t, ⟨#[c]⟩, .ref d)) (by first | rfl | kernel_rfl) ?_)
  dsimp only
  rw [if_neg (show ¬ (((⟨#[c]⟩ : Str).length == 0) = true) from fun e => Bool.false_ne_true e)]
  refine wpAny_bind ?_
  rw [← Array.forIn_toList]
  have hall : (#[c].all fun x => decide (x < 128)) = true := by simp [hc]
  rw [hall]
  show wpAny _ _ (forIn [c] _ _) _ _ _
  rw [List.forIn_cons]
  refine wpAny_bind ?_
  dsimp only
  rw [if_neg (by decide), if_pos rfl]
  show wpAny _ _ (Builtin.Str.tableLookup (.ref d) c >>= _) _ _ _
  refine wpAny_bind (look_miss hh hd hm hf fun h' tk st => ?_)
  dsimp only
  refine wpAny_bind (wpAny_pure ?_)
  dsimp only
  refine wpAny_pure ?_
  dsimp only
  rw [List.forIn_nil]
  refine wpAny_pure ?_
  dsimp only
  rw [if_neg (show ¬ Builtin.Str.tooLong (0 + 1) = true by decide)]
  show wpAny _ _ (retStr ⟨#[c]⟩) _ _ _
  unfold retStr
  refine wpAny_bind (wpAny_mkStr ?_ ?_)
  exact wpAny_pure (h _ _ _ st)
  show 1 ≤ sizeLine
  rw [sizeLine_eq]; omega
end
noncomputable def intKeyed (es : Array DictEntry) : Bool := es.toList.all fun e => match e.key with | .int k _ => e.hash == hashInt k | _ => false
theorem keys_int {prog : Program} {w : World} {es : Array DictEntry} (h : intKeyed es = true) : KeysOf (intKind prog w) es := by
  intro e he
  have z := List.all_eq_true.mp h e (Array.mem_def.mp he)
  split at z
  · rename_i k t hk
    exact ⟨k, by rw [hk]; simp [intKind, Value.isInt], beq_iff_eq.mp z⟩
  · cases z
theorem map_58 {prog : Program} {w : World} {h : Heap} (X : (hd.heap_39 w.params).In h) : ∃ f : Int → Option Value, h.MapOf (intKind prog w) 58 f ∧ f 48 = none ∧ f 97 = none := by
  have z := X 58 _ rfl
  refine ⟨_, ⟨_, _, _, z, ⟨rfl, rfl, rfl⟩, rfl, ?_, fun _ => rfl⟩, ?_, ?_⟩
  · exact keys_int (by kernel_rfl)
  · show findBy Value.isInt _ _ = none
    kernel_rfl
  · show findBy Value.isInt _ _ = none
    kernel_rfl
theorem escape_spec {w : World} {dp un : Nat} {gd : Option (List Code)} {s : Shared} {p : Program} {loose : List Str} {mean : ExcName → Option Value} {mg mb : Str → Option Value} {base : Heap} {outer : List Env} {Q E : Value → Shared → Prop}
    (C : Cx w p loose mean mg mb base dp un gd outer s.heap s) (hroom : dp + 30 < recursionLimit) {c : Nat} (hc : c = 48 ∨ c = 97) {t : Tok}
    (k : ∀ h' tk t, s.heap.StaysIn h' → Q (.str ⟨#[c]⟩ t) { s with heap := h', toks := tk }) :
    wpAny (model PG w) (Ar dp un gd outer) (call (.ref 68) [.str ⟨#[c]⟩ t]) Q E s := by
  obtain ⟨X, T, B, G, Gz⟩ := C
  refine wpAny_call ?_
  k_dflt (refine' enter (news := []) X T (fun _ _ e => e) (Nat.le_refl _) (fun _ h => nomatch h) ?k6 ?k7 ?k8 ?k9 ?kB ?_ ?c2 ?c3 ?c4 ?c5; (case k6 => k_is); (case k7 => k_is); (case k8 => (show dp < _; omega)); (case k9 => first | exact BindsTo.of_eq rfl | exact binds_K (by k_in) rfl (by k_is) rfl rfl rfl);(case c5 => decide); (case kB => exact locs rfl); (case c2 => exact rfl); (case c3 => exact rfl); (case c4 => exact rfl))
  intro L' h₁ _ F N l1 G1
  (try dsimp only); (try k_fold)
  repeat' ((first | ((fail_if_success (with_reducible show wpAny _ _ (call (Value.builtin "str.translate") _) _ _ _)); first | (k_unfold; (try dsimp only)) | walk1 | (dsimp only; walk1)) | fail "no step") <;> (try dsimp only))
  refine getMethod_builtin (typeIs_str _ _ _) PySem.F.plainAttrs_str PySem.F.slot_str_translate PySem.F.type_str_translate (fun b e => nomatch e) ?_
  repeat' ((first | ((fail_if_success (with_reducible show wpAny _ _ (call (Value.builtin "str.translate") _) _ _ _)); first | (k_unfold; (try dsimp only)) | walk1 | (dsimp only; walk1)) | fail "no step") <;> (try dsimp only))
  obtain ⟨f, hm, f1, f2⟩ := map_58 (prog := PG) (w := w) (X.keeps F.keep)
  refine wpAny_call_entry PySem.F.slot_str_translate (typeIs_str _ _ _) PySem.F.entry_str_translate ?_ (PySem.F.args_str_translate_2 _ _)
  refine translate1 (by first | rfl | assumption) (by decide) hm (by rcases hc with rfl | rfl <;> assumption) (by omega) fun h' tk t' st => ?_
  refine ⟨_, rfl, ?_⟩
  repeat' ((first | (k_unfold; (try dsimp only)) | walk1 | (dsimp only; walk1) | fail "no step") <;> (try dsimp only))
  exact k _ _ _ fun a o e => st a o (F.keep a o e)
end Mine
end
section

namespace Mine
theorem fillTR : PySem.Challenge.rw_in0080_01 = PySem.Challenge.rw_in0080_01 ∧ hd.heap_39 = hd.heap_39 := by k_fill; exact ⟨rfl, rfl⟩
theorem form7 {m : Str → Option Value} {a1 a2 a3 a4 a5 a6 a7 : Str} {x1 x2 x3 x4 x5 x6 x7 : Value} (h1 : m a1 = some x1) (h2 : m a2 = some x2) (h3 : m a3 = some x3) (h4 : m a4 = some x4) (h5 : m a5 = some x5) (h6 : m a6 = some x6) (h7 : m a7 = some x7) :
    m = fun v => if v = a1 then some x1 else if v = a2 then some x2 else if v = a3 then some x3 else if v = a4 then some x4 else if v = a5 then some x5 else if v = a6 then some x6 else if v = a7 then some x7 else m v := by
  funext v
  repeat' split
  all_goals first | rfl | (subst_vars; assumption)
noncomputable def TrM (t tq : Tok) (ps : List Nat) (star D u : Addr) (k : Nat) (m : Str → Option Value) : Prop :=
  m (Str.ofString "pat") = some (.str (patT ps) t) ∧ m (Str.ofString "STAR") = some (.ref star) ∧ m (Str.ofString "QUESTION_MARK") = some (.str (Str.ofString ".") tq) ∧ m (Str.ofString "res") = some (.ref D) ∧ m (Str.ofString "add") = some (.ref u) ∧
  (∃ ti, m (Str.ofString "i") = some (.int ((offN ps k : Nat) : Int) ti)) ∧ ∃ tn, m (Str.ofString "n") = some (.int (((patT ps).length : Nat) : Int) tn)
noncomputable def PartsL (star : Addr) (vs : List Value) (qs : List Nat) : Prop := vs.length = qs.length ∧ ∀ (i : Nat) v q, vs[i]? = some v → qs[i]? = some q → PartIs star v q
noncomputable def TrR (star D u : Addr) (qs : List Nat) (rest : List (Addr × Obj)) : Prop := ∃ vs n pst', rest = [(u, boundAp D), (D, W.listOf vs.toArray n), (70, tabObj pst')] ∧ TabOk pst' ∧ PartsL star vs qs
theorem escape_K {w : World} {p : Program} {loose : List Str} {mean : ExcName → Option Value} {mg mb : Str → Option Value} {base h₀ : Heap} {dp un : Nat} {gd : Option (List Code)} {outer : List Env} {s : Shared} {env : Env} {L : Addr} {m : Str → Option Value} {news : List (Addr × Obj)} {A₀ : Around} {Q E : Value → Shared → Prop}
    (X : (hd.heap_39 w.params).In h₀) (T : Top p loose mean mg mb h₀) (B : Below A₀ base outer h₀) (F : Fr h₀ L s.heap m) (N : News h₀ L s.heap news) (hA : A₀.deeper env = Ar dp un gd (env :: outer)) (hf : env.frame = some L) (hk : env.scope.kind = .function) (hroom : dp + 30 < recursionLimit)
    {c : Nat} (hc : c = 48 ∨ c = 97) {t : Tok} (k : ∀ h' tk t, Fr h₀ L h' m → News h₀ L h' news → Q (.str ⟨#[c]⟩ t) { s with heap := h', toks := tk }) : wpAny (model PG w) (A₀.deeper env) (call (.ref 68) [.str ⟨#[c]⟩ t]) Q E s := by
  have C := Cx.call (dp := dp) (un := un) (gd := gd) X T B F hA hf hk
  rw [hA]
  exact escape_spec C hroom hc fun h' tk t st => k h' tk t (fr_stays F st) (news_stays N st)
theorem PartsL.add {star : Addr} {vs : List Value} {qs : List Nat} {v : Value} {q : Nat} (h : PartsL star vs qs) (hv : PartIs star v q) : PartsL star (vs ++ [v]) (qs ++ [q]) := by
  refine ⟨by simp [h.1], fun i v' q' h1 h2 => ?_⟩
  by_cases hi : i < vs.length
  · rw [List.getElem?_append_left hi] at h1
    rw [List.getElem?_append_left (by rw [← h.1]; exact hi)] at h2
    exact h.2 i v' q' h1 h2
  · have hi' : vs.length ≤ i := Nat.not_lt.mp hi
    rw [List.getElem?_append_right hi'] at h1
    rw [List.getElem?_append_right (by rw [← h.1]; exact hi'), ← h.1] at h2
    generalize i - vs.length = j at h1 h2
    cases j with
    | zero => cases h1; cases h2; exact hv
    | succ j => cases h1
theorem partsS_ne {l : List Nat} {q : Nat} (h : q ≠ 3) : partsS l q = l ++ [q] := by unfold partsS; rw [if_neg (fun e => h e.1)]
theorem nil_or_snoc {α : Type} (l : List α) : l = [] ∨ ∃ l' a, l = l' ++ [a] := by
  rcases List.eq_nil_or_concat l with h | ⟨l', a, h⟩
  · exact .inl h
  · exact .inr ⟨l', a, by rw [h, List.concat_eq_append]⟩
theorem PartsL.snoc {star : Addr} {vs : List Value} {qs : List Nat} {v : Value} (h : PartsL star (vs ++ [v]) qs) : ∃ qs' q, qs = qs' ++ [q] ∧ PartIs star v q := by
  rcases nil_or_snoc qs with rfl | ⟨qs', q, rfl⟩
  · have := h.1; simp at this
  · have e : vs.length = qs'.length := by have := h.1; simp at this; exact this
    exact ⟨qs', q, by simp, h.2 vs.length v q (by simp) (by rw [e]; simp)⟩
theorem PartsL.nil {star : Addr} {qs : List Nat} (h : PartsL star [] qs) : qs = [] := List.eq_nil_of_length_eq_zero h.1.symm
theorem partsS_star {l : List Nat} {q : Nat} : partsS (l ++ [q]) 3 = if q = 3 then l ++ [q] else l ++ [q] ++ [3] := by
  unfold partsS
  by_cases h : q = 3
  · simp [h]
  · simp [h]
section
variable {M : Model} {prog : Program} {w : World} {A : Around} {E : Value → Shared → Prop} {s : Shared}
theorem isnot_star {star : Addr} {v : Value} {q : Nat} {Q : Value → Shared → Prop} (hv : PartIs star v q) (h : Q (.bool (!decide (q = 3))) s) : wpAny M A (compareOp .IsNot v (.ref star)) Q E s := by
  rcases hv with ⟨rfl, rfl⟩ | ⟨hq, t, rfl⟩
  · exact isnot_ref_same h
  · rw [decide_eq_false hq] at h
    show wpAny M A (do return Value.bool (!(← isSame (.str _ t) (.ref star)))) Q E s
    unfold isSame
    exact wpAny_bind (wpAny_pure (wpAny_pure h))
theorem last_item {D : Addr} {vs : List Value} {v : Value} {n : Nat} {value slice : PySem.Expr} {t : Tok} {Q : Value → Shared → Prop} (hD : s.heap.get? D = some (W.listOf (vs ++ [v]).toArray n)) (hl : vs.length ≤ 1000) (h : Q v s)
    (hs : subscripted slice false (.ref D) (.int (-1) t) = operate [.ref D, .int (-1) t] (getItem (.ref D) (.int (-1) t)) := by with_unfolding_all rfl) :
    wpAny (model prog w) A (subscriptTail value slice (.ref D) (.int (-1) t)) Q E s := by
  have hL : s.heap.IsList D (vs ++ [v]).toArray := ⟨_, hD, rfl, n, rfl⟩
  refine tail_any hL.typeIs slot_list_getitem.lookup (wpAny_getItem_list_neg hL (by decide) ?_ (by decide) ?_ h) hs
  · simp only [List.size_toArray, List.length_append, List.length_singleton]; omega
  · simp only [List.size_toArray, List.length_append, List.length_singleton]
    have : ((-1 : Int) + ((vs.length + 1 : Nat) : Int)).toNat = vs.length := by omega
    rw [this]; simp
end
namespace translate_specN
noncomputable def S (w : World) (dp un : Nat) (gd : Option (List Code)) (s : Shared) (p : Program) (loose : List Str) (mean : ExcName → Option Value) (mg mb : Str → Option Value) (base g : Heap) (outer : List Env) (Q E : Value → Shared → Prop) (pst : Array Value) (ps : List Nat) (star : Addr) (t tq : Tok) : Prop := ∀ (C : Cx w p loose mean mg mb base dp un gd outer g s) (hroom : dp + 60 < recursionLimit) (hun : un + 200 < 9900) (h70 : s.heap.get? 70 = some (tabObj pst)) (g70 : g.get? 70 = none) (hp : TabOk pst) (hlen : ps.length ≤ 4) (h6 : ∀ q ∈ ps, q < 6) (k : ∀ h' tk D vs n pst', g.StaysIn h' → h'.get? 70 = some (tabObj pst') → TabOk pst' → g.get? D = none → h'.get? D = some (W.listOf vs.toArray n) → PartsL star vs (partsN ps) → Q (.ref D) { s with heap := h', toks := tk }), wpAny (model PG w) (Ar dp un gd outer) (call (.ref 75) [.str (patT ps) t, .ref star, .str (Str.ofString ".") tq]) Q E s
noncomputable def d : World × Nat × Nat × Option (List Code) × Shared × Program × List Str × (ExcName → Option Value) × (Str → Option Value) × (Str → Option Value) × Heap × Heap × List Env × (Value → Shared → Prop) × (Value → Shared → Prop) × Array Value × List Nat × Addr × Tok × Tok := cex (jW, 0, 0, none, jS, default, [], (fun _ => none), (fun _ => none), (fun _ => none), default, default, [], (fun _ _ => True), (fun _ _ => True), #[], [], (0 : Nat), 0, 0) fun d => S d.1 d.2.1 d.2.2.1 d.2.2.2.1 d.2.2.2.2.1 d.2.2.2.2.2.1 d.2.2.2.2.2.2.1 d.2.2.2.2.2.2.2.1 d.2.2.2.2.2.2.2.2.1 d.2.2.2.2.2.2.2.2.2.1 d.2.2.2.2.2.2.2.2.2.2.1 d.2.2.2.2.2.2.2.2.2.2.2.1 d.2.2.2.2.2.2.2.2.2.2.2.2.1 d.2.2.2.2.2.2.2.2.2.2.2.2.2.1 d.2.2.2.2.2.2.2.2.2.2.2.2.2.2.1 d.2.2.2.2.2.2.2.2.2.2.2.2.2.2.2.1 d.2.2.2.2.2.2.2.2.2.2.2.2.2.2.2.2.1 d.2.2.2.2.2.2.2.2.2.2.2.2.2.2.2.2.2.1 d.2.2.2.2.2.2.2.2.2.2.2.2.2.2.2.2.2.2.1 d.2.2.2.2.2.2.2.2.2.2.2.2.2.2.2.2.2.2.2
@[irreducible] noncomputable def w : World := d.1
@[irreducible] noncomputable def dp : Nat := d.2.1
@[irreducible] noncomputable def un : Nat := d.2.2.1
@[irreducible] noncomputable def gd : Option (List Code) := d.2.2.2.1
@[irreducible] noncomputable def s : Shared := d.2.2.2.2.1
@[irreducible] noncomputable def L' : Addr := s.heap.objs.size
@[irreducible] noncomputable def p : Program := d.2.2.2.2.2.1
@[irreducible] noncomputable def loose : List Str := d.2.2.2.2.2.2.1
@[irreducible] noncomputable def mean : ExcName → Option Value := d.2.2.2.2.2.2.2.1
@[irreducible] noncomputable def mg : Str → Option Value := d.2.2.2.2.2.2.2.2.1
@[irreducible] noncomputable def mb : Str → Option Value := d.2.2.2.2.2.2.2.2.2.1
@[irreducible] noncomputable def base : Heap := d.2.2.2.2.2.2.2.2.2.2.1
@[irreducible] noncomputable def g : Heap := d.2.2.2.2.2.2.2.2.2.2.2.1
@[irreducible] noncomputable def outer : List Env := d.2.2.2.2.2.2.2.2.2.2.2.2.1
@[irreducible] noncomputable def Q : Value → Shared → Prop := d.2.2.2.2.2.2.2.2.2.2.2.2.2.1
@[irreducible] noncomputable def E : Value → Shared → Prop := d.2.2.2.2.2.2.2.2.2.2.2.2.2.2.1
@[irreducible] noncomputable def pst : Array Value := d.2.2.2.2.2.2.2.2.2.2.2.2.2.2.2.1
@[irreducible] noncomputable def ps : List Nat := d.2.2.2.2.2.2.2.2.2.2.2.2.2.2.2.2.1
@[irreducible] noncomputable def star : Addr := d.2.2.2.2.2.2.2.2.2.2.2.2.2.2.2.2.2.1
@[irreducible] noncomputable def t : Tok := d.2.2.2.2.2.2.2.2.2.2.2.2.2.2.2.2.2.2.1
@[irreducible] noncomputable def tq : Tok := d.2.2.2.2.2.2.2.2.2.2.2.2.2.2.2.2.2.2.2
noncomputable def core0 := fun (zt : Sp _) => (show S w dp un gd s p loose mean mg mb base g outer Q E pst ps star t tq from by
  intro C hroom hun h70 g70 hp hlen h6 k
  obtain ⟨X, T, B, G, Gz⟩ := C
  refine wpAny_call ?_
  k_dflt (refine' enter (news := [(70, tabObj pst)]) X T G Gz (fun p hp => by rw [List.mem_singleton.mp hp]; exact ⟨h70, g70⟩) ?k6 ?k7 ?k8 ?k9 ?kB ?_ ?c2 ?c3 ?c4 ?c5; (case k6 => k_is); (case k7 => k_is); (case k8 => (show dp < _; omega)); (case k9 => first | exact BindsTo.of_eq rfl | exact binds_K (by k_in) rfl (by k_is) rfl rfl rfl);(case c5 => decide); (case kB => exact locs rfl); (case c2 => exact rfl); (case c3 => exact rfl); (case c4 => exact rfl))
  intro L₀ h₁ hL F N l1 G1
  obtain rfl : L₀ = L' := hL.trans (by with_unfolding_all rfl)
  (try dsimp only); (try k_fold)
  have hT := patT_len h6
  have hT2 : (patT ps).length ≤ 1000 := by omega
  repeat' ((first | ((fail_if_success (with_reducible show wpAny _ _ (getAttr _ _ _) _ _ _)); first | (k_unfold; (try dsimp only)) | walk1 | (dsimp only; walk1)) | fail "no step") <;> (try dsimp only))
  rename_i D hA lD1 hB F2 N2
  refine append_attrN (by assumption) N2 (.head _) rfl ?_
  try clear N
  have lD := l1 _ (.head _)
  intro u h2 tk2 hlt F N
  have lu1 := hlt _ (.head _)
  have lu2 := hlt _ (.tail _ (.head _))
  clear N2 F2 hlt
  repeat' ((first | ((fail_if_success (with_reducible show wpAny _ _ (exec (Stmt.While _ _ _ _) _) _ _ _)); first | (k_unfold; (try dsimp only)) | walk1 | (dsimp only; walk1)) | fail "no step") <;> (try dsimp only))
  rename News _ _ _ _ => N
  rename Fr _ _ _ _ => F
  refine' while_J (h₀ := g) (n := ps.length) (fun k m rest => TrM t tq ps star D u k m ∧ TrR star D u (partsN (ps.take k)) rest) ?kF ?kN ?k0 ?kt ?kd
  case kF => exact F
  case kN => exact fun p hp => N p (.tail _ hp)
  case k0 => exact ⟨⟨rfl, rfl, rfl, rfl, rfl, ⟨_, rfl⟩, ⟨_, rfl⟩⟩, [], _, _, rfl, hp, rfl, fun i v q h => nomatch h⟩
  case kt =>
    clear F N
    rintro k m rest h tk hk ⟨⟨m1, m2, m3, m4, m5, ⟨ti, m6⟩, ⟨tn, m7⟩⟩, vs, n, pst', rfl, hp', hvs⟩ F N
    rw [form7 m1 m2 m3 m4 m5 m6 m7] at F
    rename _ < _ ∧ _ < _ ∧ _ < _ => l9
    clear l9 m1 m2 m3 m4 m5 m6 m7
    dsimp only
    revert hvs N
    revert vs
    revert X T B hroom hun h6 hlen hT hT2 lD lD1 lu1 lu2 hk hp' F
    revert D u k m h tk ti tn n pst'
    exact cur10 zt.h
  case kd =>
    clear F N
    rintro m rest h tk ⟨⟨m1, m2, m3, m4, m5, ⟨ti, m6⟩, ⟨tn, m7⟩⟩, vs, n, pst', rfl, hp', hvs⟩ F N
    rw [offN_end] at m6
    rw [List.take_length] at hvs
    rw [form7 m1 m2 m3 m4 m5 m6 m7] at F
    repeat' ((first | ((fail_if_success (with_reducible show And _ _)); first | (k_unfold; (try dsimp only)) | walk1 | (dsimp only; walk1)) | fail "no step") <;> (try dsimp only))
    refine ⟨decide_eq_false (by omega), ?_⟩
    repeat' ((first | (k_unfold; (try dsimp only)) | walk1 | (dsimp only; walk1) | fail "no step") <;> (try dsimp only))
    exact k _ _ _ _ _ _ F.keep (N _ (.tail _ (.tail _ (.head _)))).1 hp' (N _ (.tail _ (.head _))).2.2 (N _ (.tail _ (.head _))).1 hvs)
noncomputable def z := pk core0
@[irreducible] noncomputable def D : Addr := z.1.1.1.1.1.1.1.1.1
@[irreducible] noncomputable def u : Addr := z.1.1.1.1.1.1.1.1.2
@[irreducible] noncomputable def k : Nat := z.1.1.1.1.1.1.1.2
@[irreducible] noncomputable def m : Str → Option Value := z.1.1.1.1.1.1.2
@[irreducible] noncomputable def h : Heap := z.1.1.1.1.1.2
@[irreducible] noncomputable def tk : Nat := z.1.1.1.1.2
@[irreducible] noncomputable def ti : Tok := z.1.1.1.2
@[irreducible] noncomputable def tn : Tok := z.1.1.2
@[irreducible] noncomputable def n : Nat := z.1.2
@[irreducible] noncomputable def pst' : Array Value := z.2
theorem turn : domP core0 (((((((((D, u), k), m), h), tk), ti), tn), n), pst') := by
  dsimp only [domP]
  intro hroom hun hlen h6 X T B hT hT2 lD1 lD lu1 lu2 hk hp' F vs hvs N
  obtain ⟨q, hq⟩ : ∃ q, ps[k]? = some q := ⟨_, List.getElem?_eq_getElem hk⟩
  have hq6 := h6 q (List.mem_of_getElem? hq)
  have hpl := pieceL_len hq6
  have ho1 := offN_succ hq
  have ho2 := offN_le ps (k + 1)
  repeat' ((first | ((fail_if_success (with_reducible show wpAny _ _ (exec (Stmt.If _ _ _ _) _) _ _ _)); first | walk1 | (dsimp only; walk1)) | fail "no step") <;> (try dsimp only))
  rename Fr _ _ _ _ => F
  have hne9 : ∀ ob : Obj, ∀ p ∈ [(u, boundAp D)] ++ [(70, ob)], p.1 ≠ D := fun ob => by simp only [List.cons_append, List.nil_append, List.forall_mem_cons, List.not_mem_nil, false_implies, implies_true, and_true]; exact ⟨Nat.ne_of_gt lu1, Nat.ne_of_lt lD1⟩
  have hpn : (partsN (ps.take k)).length ≤ 1000 := by
    have := parts_len (ps.take k) []
    unfold partsN
    rw [List.length_take] at this
    simp only [List.length_nil] at this
    omega
  have sub1 : (Str.ofString "0").length = 1 := by decide +kernel
  rcases (by omega : q = 0 ∨ q = 1 ∨ q = 2 ∨ q = 3 ∨ q = 4 ∨ q = 5) with rfl | rfl | rfl | rfl | rfl | rfl
  · have hc : Txt.item (patT ps) ((offN ps k : Nat) : Int) = ⟨#[48]⟩ := item_of (pat_at (i := 0) hq rfl)
    rw [hc] at F
    repeat' ((first | ((fail_if_success (with_reducible first | show wpAny _ _ (call (Value.ref _) _) _ _ _ | show wpAny _ _ (callWith _ (Value.ref _) _ _ _) _ _ _)); first | walk1 | (dsimp only; walk1)) | fail "no step") <;> (try dsimp only))
    refine callWith_ap (a := D) ?_
    repeat' ((first | ((fail_if_success (with_reducible show wpAny _ _ (call (Value.ref _) _) _ _ _)); first | walk1 | (dsimp only; walk1)) | fail "no step") <;> (try dsimp only))
    refine escape_K X T B (by assumption) (by assumption) rfl rfl rfl (show dp + 1 + 30 < recursionLimit by omega) (.inl rfl) fun h3 tk3 t3 F N => ?_
    repeat' ((first | ((fail_if_success (with_reducible show wpAny _ _ (call (Value.ref _) _) _ _ _)); first | walk1 | (dsimp only; walk1)) | fail "no step") <;> (try dsimp only))
    · exact (N _ (.head _)).1
    refine call_apN (pre := [(u, boundAp D)]) F N (.head _) (hne9 _) (by rw [List.size_toArray, hvs.1]; exact hpn) ?_
    rw [List.push_toArray]
    intro h4 n4 F N
    repeat' ((first | ((fail_if_success (with_reducible show WEnd _ _ _ _ _ _)); first | walk1 | (dsimp only; walk1)) | fail "no step") <;> (try dsimp only))
    exact ⟨.inl rfl, _, _, _, _, rfl, by assumption, by assumption, ⟨rfl, rfl, rfl, rfl, rfl, ⟨_, by rw [ho1]; rfl⟩, ⟨_, rfl⟩⟩, _, _, _, rfl, hp', by rw [partsN_succ hq, partsS_ne (by decide)]; exact hvs.add (.inr ⟨by decide, _, rfl⟩)⟩
  · have hc : Txt.item (patT ps) ((offN ps k : Nat) : Int) = ⟨#[97]⟩ := item_of (pat_at (i := 0) hq rfl)
    rw [hc] at F
    repeat' ((first | ((fail_if_success (with_reducible first | show wpAny _ _ (call (Value.ref _) _) _ _ _ | show wpAny _ _ (callWith _ (Value.ref _) _ _ _) _ _ _)); first | walk1 | (dsimp only; walk1)) | fail "no step") <;> (try dsimp only))
    refine callWith_ap (a := D) ?_
    repeat' ((first | ((fail_if_success (with_reducible show wpAny _ _ (call (Value.ref _) _) _ _ _)); first | walk1 | (dsimp only; walk1)) | fail "no step") <;> (try dsimp only))
    refine escape_K X T B (by assumption) (by assumption) rfl rfl rfl (show dp + 1 + 30 < recursionLimit by omega) (.inr rfl) fun h3 tk3 t3 F N => ?_
    repeat' ((first | ((fail_if_success (with_reducible show wpAny _ _ (call (Value.ref _) _) _ _ _)); first | walk1 | (dsimp only; walk1)) | fail "no step") <;> (try dsimp only))
    · exact (N _ (.head _)).1
    refine call_apN (pre := [(u, boundAp D)]) F N (.head _) (hne9 _) (by rw [List.size_toArray, hvs.1]; exact hpn) ?_
    rw [List.push_toArray]
    intro h4 n4 F N
    repeat' ((first | ((fail_if_success (with_reducible show WEnd _ _ _ _ _ _)); first | walk1 | (dsimp only; walk1)) | fail "no step") <;> (try dsimp only))
    exact ⟨.inl rfl, _, _, _, _, rfl, by assumption, by assumption, ⟨rfl, rfl, rfl, rfl, rfl, ⟨_, by rw [ho1]; rfl⟩, ⟨_, rfl⟩⟩, _, _, _, rfl, hp', by rw [partsN_succ hq, partsS_ne (by decide)]; exact hvs.add (.inr ⟨by decide, _, rfl⟩)⟩
  · have hc : Txt.item (patT ps) ((offN ps k : Nat) : Int) = ⟨#[63]⟩ := item_of (pat_at (i := 0) hq rfl)
    rw [hc] at F
    repeat' ((first | ((fail_if_success (with_reducible first | show wpAny _ _ (call (Value.ref _) _) _ _ _ | show wpAny _ _ (callWith _ (Value.ref _) _ _ _) _ _ _)); first | walk1 | (dsimp only; walk1)) | fail "no step") <;> (try dsimp only))
    refine callWith_ap (a := D) ?_
    repeat' ((first | ((fail_if_success (with_reducible show wpAny _ _ (call (Value.ref _) _) _ _ _)); first | walk1 | (dsimp only; walk1)) | fail "no step") <;> (try dsimp only))
    all_goals (rename Fr _ _ _ _ => F; rename News _ _ _ _ => N)
    · exact (N _ (.head _)).1
    refine call_apN (pre := [(u, boundAp D)]) F N (.head _) (hne9 _) (by rw [List.size_toArray, hvs.1]; exact hpn) ?_
    rw [List.push_toArray]
    intro h4 n4 F N
    repeat' ((first | ((fail_if_success (with_reducible show WEnd _ _ _ _ _ _)); first | walk1 | (dsimp only; walk1)) | fail "no step") <;> (try dsimp only))
    exact ⟨.inl rfl, _, _, _, _, rfl, by assumption, by assumption, ⟨rfl, rfl, rfl, rfl, rfl, ⟨_, by rw [ho1]; rfl⟩, ⟨_, rfl⟩⟩, _, _, _, rfl, hp', by rw [partsN_succ hq, partsS_ne (by decide)]; exact hvs.add (.inr ⟨by decide, _, rfl⟩)⟩
  · have hc : Txt.item (patT ps) ((offN ps k : Nat) : Int) = ⟨#[42]⟩ := item_of (pat_at (i := 0) hq rfl)
    rw [hc] at F
    repeat' ((first | ((fail_if_success (with_reducible show wpAny _ _ (truthy (Value.ref _)) _ _ _)); first | walk1 | (dsimp only; walk1)) | fail "no step") <;> (try dsimp only))
    rename News _ _ _ _ => N
    refine wpAny_truthy_list (⟨_, (N _ (.tail _ (.head _))).1, rfl, _, rfl⟩ : Heap.IsList _ D vs.toArray) (by rw [List.size_toArray, hvs.1]; omega) ?_
    rcases nil_or_snoc vs with rfl | ⟨vs', v, rfl⟩
    · have eq0 := hvs.nil
      repeat' ((first | ((fail_if_success (with_reducible first | show wpAny _ _ (call (Value.ref _) _) _ _ _ | show wpAny _ _ (callWith _ (Value.ref _) _ _ _) _ _ _)); first | walk1 | (dsimp only; walk1)) | fail "no step") <;> (try dsimp only))
      refine callWith_ap (a := D) ?_
      repeat' ((first | ((fail_if_success (with_reducible show wpAny _ _ (call (Value.ref _) _) _ _ _)); first | walk1 | (dsimp only; walk1)) | fail "no step") <;> (try dsimp only))
      all_goals (rename Fr _ _ _ _ => F; rename News _ _ _ _ => N)
      · exact (N _ (.head _)).1
      refine call_apN (pre := [(u, boundAp D)]) F N (.head _) (hne9 _) (by rw [List.size_toArray, hvs.1]; exact hpn) ?_
      rw [List.push_toArray]
      intro h4 n4 F N
      repeat' ((first | ((fail_if_success (with_reducible show WEnd _ _ _ _ _ _)); first | walk1 | (dsimp only; walk1)) | fail "no step") <;> (try dsimp only))
      exact ⟨.inl rfl, _, _, _, _, rfl, by assumption, by assumption, ⟨rfl, rfl, rfl, rfl, rfl, ⟨_, by rw [ho1]; rfl⟩, ⟨_, rfl⟩⟩, _, _, _, rfl, hp', by rw [partsN_succ hq, eq0]; rw [eq0] at hvs; exact hvs.add (.inl ⟨rfl, rfl⟩)⟩
    · obtain ⟨qs', q', eqs, hv⟩ := hvs.snoc
      rw [show (!(vs' ++ [v]).toArray.isEmpty) = true by simp]
      repeat' ((first | ((fail_if_success (with_reducible show wpAny _ _ (subscriptTail _ _ (Value.ref _) _) _ _ _)); first | walk1 | (dsimp only; walk1)) | fail "no step") <;> (try dsimp only))
      refine last_item (N _ (.tail _ (.head _))).1 (by have := hvs.1; rw [List.length_append, List.length_singleton] at this; omega) ?_
      repeat' ((first | ((fail_if_success (with_reducible show wpAny _ _ (compareOp CmpOp.IsNot _ _) _ _ _)); first | walk1 | (dsimp only; walk1)) | fail "no step") <;> (try dsimp only))
      refine isnot_star hv ?_
      rcases Decidable.em (q' = 3) with e3 | e3
      · rw [decide_eq_true e3]
        repeat' ((first | ((fail_if_success (with_reducible show WEnd _ _ _ _ _ _)); first | walk1 | (dsimp only; walk1)) | fail "no step") <;> (try dsimp only))
        exact ⟨.inl rfl, _, _, _, _, rfl, by assumption, by assumption, ⟨rfl, rfl, rfl, rfl, rfl, ⟨_, by rw [ho1]; rfl⟩, ⟨_, rfl⟩⟩, _, _, _, rfl, hp', by rw [partsN_succ hq, eqs, partsS_star, if_pos e3, ← eqs]; exact hvs⟩
      · rw [decide_eq_false e3]
        repeat' ((first | ((fail_if_success (with_reducible first | show wpAny _ _ (call (Value.ref _) _) _ _ _ | show wpAny _ _ (callWith _ (Value.ref _) _ _ _) _ _ _)); first | walk1 | (dsimp only; walk1)) | fail "no step") <;> (try dsimp only))
        refine callWith_ap (a := D) ?_
        repeat' ((first | ((fail_if_success (with_reducible show wpAny _ _ (call (Value.ref _) _) _ _ _)); first | walk1 | (dsimp only; walk1)) | fail "no step") <;> (try dsimp only))
        all_goals (rename Fr _ _ _ _ => F; rename News _ _ _ _ => N)
        · exact (N _ (.head _)).1
        refine call_apN (pre := [(u, boundAp D)]) F N (.head _) (hne9 _) (by rw [List.size_toArray, hvs.1]; exact hpn) ?_
        rw [List.push_toArray]
        intro h4 n4 F N
        repeat' ((first | ((fail_if_success (with_reducible show WEnd _ _ _ _ _ _)); first | walk1 | (dsimp only; walk1)) | fail "no step") <;> (try dsimp only))
        exact ⟨.inl rfl, _, _, _, _, rfl, by assumption, by assumption, ⟨rfl, rfl, rfl, rfl, rfl, ⟨_, by rw [ho1]; rfl⟩, ⟨_, rfl⟩⟩, _, _, _, rfl, hp', by rw [partsN_succ hq, eqs, partsS_star, if_neg e3, ← eqs]; exact hvs.add (.inl ⟨rfl, rfl⟩)⟩
  · have hc : Txt.item (patT ps) ((offN ps k : Nat) : Int) = ⟨#[91]⟩ := item_of (pat_at (i := 0) hq rfl)
    rw [hc] at F
    have hp4 : (pieceL 4).length = 4 := by decide +kernel
    have hlt4 : offN ps k + 4 ≤ (patT ps).length := by omega
    have hi1 : Txt.item (patT ps) (((offN ps k : Nat) : Int) + 1) = ⟨#[48]⟩ := by
      rw [show ((offN ps k : Nat) : Int) + 1 = ((offN ps k + 1 : Nat) : Int) by push_cast; omega]
      exact item_of (pat_at (i := 1) hq rfl)
    have hi2 : Txt.item (patT ps) (((offN ps k : Nat) : Int) + 1 + 1) = ⟨#[97]⟩ := by
      rw [show ((offN ps k : Nat) : Int) + 1 + 1 = ((offN ps k + 2 : Nat) : Int) by push_cast; omega]
      exact item_of (pat_at (i := 2) hq rfl)
    have hi3 : Txt.item (patT ps) (((offN ps k : Nat) : Int) + 1 + 1 + 1) = ⟨#[93]⟩ := by
      rw [show ((offN ps k : Nat) : Int) + 1 + 1 + 1 = ((offN ps k + 3 : Nat) : Int) by push_cast; omega]
      exact item_of (pat_at (i := 3) hq rfl)
    repeat' ((first | ((fail_if_success (with_reducible show wpAny _ _ (compareOp _ (Value.str (Txt.item _ _) _) _) _ _ _)); first | ((with_reducible show ite _ _ _); (fail_if_success (with_reducible show if true = true then _ else _)); (fail_if_success (with_reducible show if false = true then _ else _)); first | refine ite_pos (by k_dec) ?_ | refine ite_neg (by k_dec) ?_) | walk1 | (dsimp only; walk1)) | fail "no step") <;> (try dsimp only))
    rw [hi1]
    repeat' ((first | ((fail_if_success (with_reducible show wpAny _ _ (compareOp _ (Value.str (Txt.item _ _) _) _) _ _ _)); first | ((with_reducible show ite _ _ _); (fail_if_success (with_reducible show if true = true then _ else _)); (fail_if_success (with_reducible show if false = true then _ else _)); first | refine ite_pos (by k_dec) ?_ | refine ite_neg (by k_dec) ?_) | walk1 | (dsimp only; walk1)) | fail "no step") <;> (try dsimp only))
    rw [hi1]
    repeat' ((first | ((fail_if_success (with_reducible show wpAny _ _ (exec (Stmt.While _ _ _ _) _) _ _ _)); first | ((with_reducible show ite _ _ _); (fail_if_success (with_reducible show if true = true then _ else _)); (fail_if_success (with_reducible show if false = true then _ else _)); first | refine ite_pos (by k_dec) ?_ | refine ite_neg (by k_dec) ?_) | walk1 | (dsimp only; walk1)) | fail "no step") <;> (try dsimp only))
    refine whl_start 100 ?_
    repeat' ((first | ((fail_if_success (with_reducible show wpAny _ _ (compareOp _ (Value.str (Txt.item _ _) _) _) _ _ _)); first | ((with_reducible show ite _ _ _); (fail_if_success (with_reducible show if true = true then _ else _)); (fail_if_success (with_reducible show if false = true then _ else _)); first | refine ite_pos (by k_dec) ?_ | refine ite_neg (by k_dec) ?_) | walk1 | (dsimp only; walk1)) | fail "no step") <;> (try dsimp only))
    rw [hi1]
    repeat' ((first | ((fail_if_success (with_reducible show wpAny _ _ (compareOp _ (Value.str (Txt.item _ _) _) _) _ _ _)); first | ((with_reducible show ite _ _ _); (fail_if_success (with_reducible show if true = true then _ else _)); (fail_if_success (with_reducible show if false = true then _ else _)); first | refine ite_pos (by k_dec) ?_ | refine ite_neg (by k_dec) ?_) | walk1 | (dsimp only; walk1)) | fail "no step") <;> (try dsimp only))
    rw [hi2]
    repeat' ((first | ((fail_if_success (with_reducible show wpAny _ _ (compareOp _ (Value.str (Txt.item _ _) _) _) _ _ _)); first | ((with_reducible show ite _ _ _); (fail_if_success (with_reducible show if true = true then _ else _)); (fail_if_success (with_reducible show if false = true then _ else _)); first | refine ite_pos (by k_dec) ?_ | refine ite_neg (by k_dec) ?_) | walk1 | (dsimp only; walk1)) | fail "no step") <;> (try dsimp only))
    rw [hi3]
    repeat' ((first | ((fail_if_success (with_reducible show wpAny _ _ (compareOp CmpOp.NotIn _ _) _ _ _)); first | ((with_reducible show ite _ _ _); (fail_if_success (with_reducible show if true = true then _ else _)); (fail_if_success (with_reducible show if false = true then _ else _)); first | refine ite_pos (by k_dec) ?_ | refine ite_neg (by k_dec) ?_) | walk1 | (dsimp only; walk1)) | fail "no step") <;> (try dsimp only))
    have hsl : Txt.slice (patT ps) (some (((offN ps k : Nat) : Int) + 1)) (some (((offN ps k : Nat) : Int) + 1 + 1 + 1)) = ⟨#[48, 97]⟩ := by
      have z := slice_two (pat_at (i := 1) hq rfl) (pat_at (i := 2) hq rfl)
      rwa [show ((offN ps k + 1 : Nat) : Int) = ((offN ps k : Nat) : Int) + 1 by omega] at z
    rename Fr _ _ _ _ => F
    rw [hsl] at F ⊢
    walk1
    rw [show (!!(Builtin.Str.occurrences (⟨#[48, 97]⟩ : Str) (Str.ofString "-") 0 (Str.length ⟨#[48, 97]⟩) 1).isEmpty) = true by decide +kernel]
    repeat' ((first | ((fail_if_success (with_reducible show wpAny _ _ (call (Value.builtin "str.replace") _) _ _ _)); first | ((with_reducible show ite _ _ _); (fail_if_success (with_reducible show if true = true then _ else _)); (fail_if_success (with_reducible show if false = true then _ else _)); first | refine ite_pos (by k_dec) ?_ | refine ite_neg (by k_dec) ?_) | walk1 | (dsimp only; walk1)) | fail "no step") <;> (try dsimp only))
    refine replace_no (by decide +kernel) ?_
    repeat' ((first | ((fail_if_success (with_reducible show wpAny _ _ (getMethod (Value.ref _) _ _) _ _ _)); first | ((with_reducible show ite _ _ _); (fail_if_success (with_reducible show if true = true then _ else _)); (fail_if_success (with_reducible show if false = true then _ else _)); first | refine ite_pos (by k_dec) ?_ | refine ite_neg (by k_dec) ?_) | walk1 | (dsimp only; walk1)) | fail "no step") <;> (try dsimp only))
    refine sub_method (X.keeps (Fr.keep (by assumption))) ?_
    repeat' ((first | ((fail_if_success (with_reducible show wpAny _ _ (eval (Expr.Lambda _ _ _ _) _) _ _ _)); first | ((with_reducible show ite _ _ _); (fail_if_success (with_reducible show if true = true then _ else _)); (fail_if_success (with_reducible show if false = true then _ else _)); first | refine ite_pos (by k_dec) ?_ | refine ite_neg (by k_dec) ?_) | walk1 | (dsimp only; walk1)) | fail "no step") <;> (try dsimp only))
    rename Fr _ _ _ _ => F
    rename News _ _ _ _ => N
    refine kla_eval rfl (lam_tab rfl rfl X F N T hp' (Nat.ne_of_gt lu2) (Nat.ne_of_gt lD1) rfl fun f of pst2 h5 tk5 hp2 hof F N => ?_)
    repeat' ((first | ((fail_if_success (with_reducible show wpAny _ _ (call (Value.builtin "re.Pattern.sub") _) _ _ _)); first | ((with_reducible show ite _ _ _); (fail_if_success (with_reducible show if true = true then _ else _)); (fail_if_success (with_reducible show if false = true then _ else _)); first | refine ite_pos (by k_dec) ?_ | refine ite_neg (by k_dec) ?_) | walk1 | (dsimp only; walk1)) | fail "no step") <;> (try dsimp only))
    refine sub_call (X.keeps (Fr.keep (by assumption))) (N _ (.head _)).1 hof (by decide) foundF_two.1 fun h6 tk6 t6 st => ?_
    rename Fr _ _ _ _ => F
    have F := fr_stays F st
    have N : News g L' h6 [(u, boundAp D), (D, W.listOf vs.toArray n), (70, tabObj pst2)] := fun p hp => news_stays N st p (.tail _ hp)
    repeat' ((first | ((fail_if_success (with_reducible first | show wpAny _ _ (call (Value.ref _) _) _ _ _ | show wpAny _ _ (callWith _ (Value.ref _) _ _ _) _ _ _)); first | ((with_reducible show ite _ _ _); (fail_if_success (with_reducible show if true = true then _ else _)); (fail_if_success (with_reducible show if false = true then _ else _)); first | refine ite_pos (by k_dec) ?_ | refine ite_neg (by k_dec) ?_) | walk1 | (dsimp only; walk1)) | fail "no step") <;> (try dsimp only))
    refine callWith_ap (a := D) ?_
    repeat' ((first | ((fail_if_success (with_reducible show wpAny _ _ (call (Value.ref _) _) _ _ _)); first | ((with_reducible show ite _ _ _); (fail_if_success (with_reducible show if true = true then _ else _)); (fail_if_success (with_reducible show if false = true then _ else _)); first | refine ite_pos (by k_dec) ?_ | refine ite_neg (by k_dec) ?_) | walk1 | (dsimp only; walk1)) | fail "no step") <;> (try dsimp only))
    all_goals (rename Fr _ _ _ _ => F; rename News _ _ _ _ => N)
    · exact (N _ (.tail _ (.head _))).1
    have N := fun p hp => N p (.tail _ (hp))
    refine call_apN (pre := [(u, boundAp D)]) (post := [(70, tabObj pst2)]) F N (.head _) (hne9 _) (by rw [List.size_toArray, hvs.1]; exact hpn) ?_
    rw [List.push_toArray]
    intro h4 n4 F N
    repeat' ((first | ((fail_if_success (with_reducible show WEnd _ _ _ _ _ _)); first | ((with_reducible show ite _ _ _); (fail_if_success (with_reducible show if true = true then _ else _)); (fail_if_success (with_reducible show if false = true then _ else _)); first | refine ite_pos (by k_dec) ?_ | refine ite_neg (by k_dec) ?_) | walk1 | (dsimp only; walk1)) | fail "no step") <;> (try dsimp only))
    exact ⟨.inl rfl, _, _, _, _, rfl, by assumption, by assumption, ⟨rfl, rfl, rfl, rfl, rfl, ⟨_, by rw [ho1, hp4]; rfl⟩, ⟨_, rfl⟩⟩, _, _, _, rfl, hp2, by rw [partsN_succ hq, partsS_ne (by decide)]; exact hvs.add (.inr ⟨by decide, _, congrArg (fun z => Value.str z _) (by decide +kernel)⟩)⟩
  · have hc : Txt.item (patT ps) ((offN ps k : Nat) : Int) = ⟨#[91]⟩ := item_of (pat_at (i := 0) hq rfl)
    rw [hc] at F
    have hp4 : (pieceL 5).length = 4 := by decide +kernel
    have hlt4 : offN ps k + 4 ≤ (patT ps).length := by omega
    have hi1 : Txt.item (patT ps) (((offN ps k : Nat) : Int) + 1) = ⟨#[33]⟩ := by
      rw [show ((offN ps k : Nat) : Int) + 1 = ((offN ps k + 1 : Nat) : Int) by push_cast; omega]
      exact item_of (pat_at (i := 1) hq rfl)
    have hi2 : Txt.item (patT ps) (((offN ps k : Nat) : Int) + 1 + 1) = ⟨#[48]⟩ := by
      rw [show ((offN ps k : Nat) : Int) + 1 + 1 = ((offN ps k + 2 : Nat) : Int) by push_cast; omega]
      exact item_of (pat_at (i := 2) hq rfl)
    have hi3 : Txt.item (patT ps) (((offN ps k : Nat) : Int) + 1 + 1 + 1) = ⟨#[93]⟩ := by
      rw [show ((offN ps k : Nat) : Int) + 1 + 1 + 1 = ((offN ps k + 3 : Nat) : Int) by push_cast; omega]
      exact item_of (pat_at (i := 3) hq rfl)
    repeat' ((first | ((fail_if_success (with_reducible show wpAny _ _ (compareOp _ (Value.str (Txt.item _ _) _) _) _ _ _)); first | ((with_reducible show ite _ _ _); (fail_if_success (with_reducible show if true = true then _ else _)); (fail_if_success (with_reducible show if false = true then _ else _)); first | refine ite_pos (by k_dec) ?_ | refine ite_neg (by k_dec) ?_) | walk1 | (dsimp only; walk1)) | fail "no step") <;> (try dsimp only))
    rw [hi1]
    repeat' ((first | ((fail_if_success (with_reducible show wpAny _ _ (compareOp _ (Value.str (Txt.item _ _) _) _) _ _ _)); first | ((with_reducible show ite _ _ _); (fail_if_success (with_reducible show if true = true then _ else _)); (fail_if_success (with_reducible show if false = true then _ else _)); first | refine ite_pos (by k_dec) ?_ | refine ite_neg (by k_dec) ?_) | walk1 | (dsimp only; walk1)) | fail "no step") <;> (try dsimp only))
    rw [hi2]
    repeat' ((first | ((fail_if_success (with_reducible show wpAny _ _ (exec (Stmt.While _ _ _ _) _) _ _ _)); first | ((with_reducible show ite _ _ _); (fail_if_success (with_reducible show if true = true then _ else _)); (fail_if_success (with_reducible show if false = true then _ else _)); first | refine ite_pos (by k_dec) ?_ | refine ite_neg (by k_dec) ?_) | walk1 | (dsimp only; walk1)) | fail "no step") <;> (try dsimp only))
    refine whl_start 100 ?_
    repeat' ((first | ((fail_if_success (with_reducible show wpAny _ _ (compareOp _ (Value.str (Txt.item _ _) _) _) _ _ _)); first | ((with_reducible show ite _ _ _); (fail_if_success (with_reducible show if true = true then _ else _)); (fail_if_success (with_reducible show if false = true then _ else _)); first | refine ite_pos (by k_dec) ?_ | refine ite_neg (by k_dec) ?_) | walk1 | (dsimp only; walk1)) | fail "no step") <;> (try dsimp only))
    rw [hi2]
    repeat' ((first | ((fail_if_success (with_reducible show wpAny _ _ (compareOp _ (Value.str (Txt.item _ _) _) _) _ _ _)); first | ((with_reducible show ite _ _ _); (fail_if_success (with_reducible show if true = true then _ else _)); (fail_if_success (with_reducible show if false = true then _ else _)); first | refine ite_pos (by k_dec) ?_ | refine ite_neg (by k_dec) ?_) | walk1 | (dsimp only; walk1)) | fail "no step") <;> (try dsimp only))
    rw [hi3]
    repeat' ((first | ((fail_if_success (with_reducible show wpAny _ _ (compareOp CmpOp.NotIn _ _) _ _ _)); first | ((with_reducible show ite _ _ _); (fail_if_success (with_reducible show if true = true then _ else _)); (fail_if_success (with_reducible show if false = true then _ else _)); first | refine ite_pos (by k_dec) ?_ | refine ite_neg (by k_dec) ?_) | walk1 | (dsimp only; walk1)) | fail "no step") <;> (try dsimp only))
    have hsl : Txt.slice (patT ps) (some (((offN ps k : Nat) : Int) + 1)) (some (((offN ps k : Nat) : Int) + 1 + 1 + 1)) = ⟨#[33, 48]⟩ := by
      have z := slice_two (pat_at (i := 1) hq rfl) (pat_at (i := 2) hq rfl)
      rwa [show ((offN ps k + 1 : Nat) : Int) = ((offN ps k : Nat) : Int) + 1 by omega] at z
    rename Fr _ _ _ _ => F
    rw [hsl] at F ⊢
    walk1
    rw [show (!!(Builtin.Str.occurrences (⟨#[33, 48]⟩ : Str) (Str.ofString "-") 0 (Str.length ⟨#[33, 48]⟩) 1).isEmpty) = true by decide +kernel]
    repeat' ((first | ((fail_if_success (with_reducible show wpAny _ _ (call (Value.builtin "str.replace") _) _ _ _)); first | ((with_reducible show ite _ _ _); (fail_if_success (with_reducible show if true = true then _ else _)); (fail_if_success (with_reducible show if false = true then _ else _)); first | refine ite_pos (by k_dec) ?_ | refine ite_neg (by k_dec) ?_) | walk1 | (dsimp only; walk1)) | fail "no step") <;> (try dsimp only))
    refine replace_no (by decide +kernel) ?_
    repeat' ((first | ((fail_if_success (with_reducible show wpAny _ _ (getMethod (Value.ref _) _ _) _ _ _)); first | ((with_reducible show ite _ _ _); (fail_if_success (with_reducible show if true = true then _ else _)); (fail_if_success (with_reducible show if false = true then _ else _)); first | refine ite_pos (by k_dec) ?_ | refine ite_neg (by k_dec) ?_) | walk1 | (dsimp only; walk1)) | fail "no step") <;> (try dsimp only))
    refine sub_method (X.keeps (Fr.keep (by assumption))) ?_
    repeat' ((first | ((fail_if_success (with_reducible show wpAny _ _ (eval (Expr.Lambda _ _ _ _) _) _ _ _)); first | ((with_reducible show ite _ _ _); (fail_if_success (with_reducible show if true = true then _ else _)); (fail_if_success (with_reducible show if false = true then _ else _)); first | refine ite_pos (by k_dec) ?_ | refine ite_neg (by k_dec) ?_) | walk1 | (dsimp only; walk1)) | fail "no step") <;> (try dsimp only))
    rename Fr _ _ _ _ => F
    rename News _ _ _ _ => N
    refine kla_eval rfl (lam_tab rfl rfl X F N T hp' (Nat.ne_of_gt lu2) (Nat.ne_of_gt lD1) rfl fun f of pst2 h5 tk5 hp2 hof F N => ?_)
    repeat' ((first | ((fail_if_success (with_reducible show wpAny _ _ (call (Value.builtin "re.Pattern.sub") _) _ _ _)); first | ((with_reducible show ite _ _ _); (fail_if_success (with_reducible show if true = true then _ else _)); (fail_if_success (with_reducible show if false = true then _ else _)); first | refine ite_pos (by k_dec) ?_ | refine ite_neg (by k_dec) ?_) | walk1 | (dsimp only; walk1)) | fail "no step") <;> (try dsimp only))
    refine sub_call (X.keeps (Fr.keep (by assumption))) (N _ (.head _)).1 hof (by decide) foundF_two.2 fun h6 tk6 t6 st => ?_
    rename Fr _ _ _ _ => F
    have F := fr_stays F st
    have N : News g L' h6 [(u, boundAp D), (D, W.listOf vs.toArray n), (70, tabObj pst2)] := fun p hp => news_stays N st p (.tail _ hp)
    repeat' ((first | ((fail_if_success (with_reducible first | show wpAny _ _ (call (Value.ref _) _) _ _ _ | show wpAny _ _ (callWith _ (Value.ref _) _ _ _) _ _ _)); first | ((with_reducible show ite _ _ _); (fail_if_success (with_reducible show if true = true then _ else _)); (fail_if_success (with_reducible show if false = true then _ else _)); first | refine ite_pos (by k_dec) ?_ | refine ite_neg (by k_dec) ?_) | walk1 | (dsimp only; walk1)) | fail "no step") <;> (try dsimp only))
    refine callWith_ap (a := D) ?_
    repeat' ((first | ((fail_if_success (with_reducible show wpAny _ _ (call (Value.ref _) _) _ _ _)); first | ((with_reducible show ite _ _ _); (fail_if_success (with_reducible show if true = true then _ else _)); (fail_if_success (with_reducible show if false = true then _ else _)); first | refine ite_pos (by k_dec) ?_ | refine ite_neg (by k_dec) ?_) | walk1 | (dsimp only; walk1)) | fail "no step") <;> (try dsimp only))
    all_goals (rename Fr _ _ _ _ => F; rename News _ _ _ _ => N)
    · exact (N _ (.head _)).1
    have N := fun p hp => N p (hp)
    refine call_apN (pre := [(u, boundAp D)]) (post := [(70, tabObj pst2)]) F N (.head _) (hne9 _) (by rw [List.size_toArray, hvs.1]; exact hpn) ?_
    rw [List.push_toArray]
    intro h4 n4 F N
    repeat' ((first | ((fail_if_success (with_reducible show WEnd _ _ _ _ _ _)); first | ((with_reducible show ite _ _ _); (fail_if_success (with_reducible show if true = true then _ else _)); (fail_if_success (with_reducible show if false = true then _ else _)); first | refine ite_pos (by k_dec) ?_ | refine ite_neg (by k_dec) ?_) | walk1 | (dsimp only; walk1)) | fail "no step") <;> (try dsimp only))
    exact ⟨.inl rfl, _, _, _, _, rfl, by assumption, by assumption, ⟨rfl, rfl, rfl, rfl, rfl, ⟨_, by rw [ho1, hp4]; rfl⟩, ⟨_, rfl⟩⟩, _, _, _, rfl, hp2, by rw [partsN_succ hq, partsS_ne (by decide)]; exact hvs.add (.inr ⟨by decide, _, congrArg (fun z => Value.str z _) (by decide +kernel)⟩)⟩
theorem core : S w dp un gd s p loose mean mg mb base g outer Q E pst ps star t tq := pk_all core0 (by with_unfolding_all exact turn)
end translate_specN
theorem translate_spec {w : World} {dp un : Nat} {gd : Option (List Code)} {s : Shared} {p : Program} {loose : List Str} {mean : ExcName → Option Value} {mg mb : Str → Option Value} {base g : Heap} {outer : List Env} {Q E : Value → Shared → Prop}
    (C : Cx w p loose mean mg mb base dp un gd outer g s) (hroom : dp + 60 < recursionLimit) (hun : un + 200 < 9900) {pst : Array Value} (h70 : s.heap.get? 70 = some (tabObj pst)) (g70 : g.get? 70 = none) (hp : TabOk pst)
    {ps : List Nat} (hlen : ps.length ≤ 4) (h6 : ∀ q ∈ ps, q < 6) {star : Addr} {t tq : Tok}
    (k : ∀ h' tk D vs n pst', g.StaysIn h' → h'.get? 70 = some (tabObj pst') → TabOk pst' → g.get? D = none → h'.get? D = some (W.listOf vs.toArray n) → PartsL star vs (partsN ps) → Q (.ref D) { s with heap := h', toks := tk }) :
    wpAny (model PG w) (Ar dp un gd outer) (call (.ref 75) [.str (patT ps) t, .ref star, .str (Str.ofString ".") tq]) Q E s := all_of _ (fun d => translate_specN.S d.1 d.2.1 d.2.2.1 d.2.2.2.1 d.2.2.2.2.1 d.2.2.2.2.2.1 d.2.2.2.2.2.2.1 d.2.2.2.2.2.2.2.1 d.2.2.2.2.2.2.2.2.1 d.2.2.2.2.2.2.2.2.2.1 d.2.2.2.2.2.2.2.2.2.2.1 d.2.2.2.2.2.2.2.2.2.2.2.1 d.2.2.2.2.2.2.2.2.2.2.2.2.1 d.2.2.2.2.2.2.2.2.2.2.2.2.2.1 d.2.2.2.2.2.2.2.2.2.2.2.2.2.2.1 d.2.2.2.2.2.2.2.2.2.2.2.2.2.2.2.1 d.2.2.2.2.2.2.2.2.2.2.2.2.2.2.2.2.1 d.2.2.2.2.2.2.2.2.2.2.2.2.2.2.2.2.2.1 d.2.2.2.2.2.2.2.2.2.2.2.2.2.2.2.2.2.2.1 d.2.2.2.2.2.2.2.2.2.2.2.2.2.2.2.2.2.2.2) (by with_unfolding_all exact translate_specN.core) (w, dp, un, gd, s, p, loose, mean, mg, mb, base, g, outer, Q, E, pst, ps, star, t, tq) C hroom hun h70 g70 hp hlen h6 k
end Mine
end
section

namespace Mine
theorem fillF1 : PySem.Challenge.rw_in0080_01 = PySem.Challenge.rw_in0080_01 ∧ hd.heap_39 = hd.heap_39 := by k_fill; exact ⟨rfl, rfl⟩
noncomputable def FitsJ (T0 : Str) (t0 : Tok) (R0 : Addr) (rv : List Value) (rs : List Nat) (c1 c2 c3 : Addr) (i : Nat) (nx : List (Addr × Obj)) : Prop :=
  ∃ o1 o2 o3 D us c v, nx = [(R0, W.listOf rv.toArray 0), (D, W.listOf us.toArray c), (c1, o1), (c2, o2), (c3, o3)] ∧ o1.data = .cell v ∧ o2.data = .cell (some (.ref D)) ∧ o3.data = .cell (some (.str T0 t0)) ∧
    IntsAre us ((rs.take i).foldl (backS T0) [(T0.length : Int)]) ∧ (@Ne Nat c1 D ∧ @Ne Nat c2 D ∧ @Ne Nat c3 D ∧ @Ne Nat R0 D)
theorem rev_strs {vs : List Value} {ps : List Nat} (h : StrsAre vs (ps.map pieceT)) : StrsAre vs.toArray.toList.reverse (ps.reverse.map pieceT) := by
  rw [List.map_reverse]
  show StrsAre vs.reverse _
  generalize ps.map pieceT = xs at h
  induction h with
  | nil => exact .nil
  | cons x t _ ih =>
    rw [List.reverse_cons, List.reverse_cons]
    exact kct_snoc ih
theorem backG_nil {pl l : List Int} {k : Int} (h : pl = []) : backG pl l k = l := by unfold backG; rw [h]; rfl
theorem backG_no {pl l : List Int} {k M : Int} (hm : ∀ a, a ∈ pl → a ≤ M) (h : ¬ k ≤ M) : backG pl l k = l := by
  unfold backG
  rw [if_neg]
  intro e
  obtain ⟨a, ha, hk⟩ := List.any_eq_true.mp e
  have := hm a ha
  have := of_decide_eq_true hk
  omega
theorem backG_yes {pl l : List Int} {k M : Int} (hm : M ∈ pl) (h : k ≤ M) : backG pl l k = l ++ [k] := by
  unfold backG
  rw [if_pos (List.any_eq_true.mpr ⟨M, hm, decide_eq_true h⟩)]
theorem grows_G (pl : List Int) : KPfGrows (backG pl) := by
  intro l k
  unfold backG
  split <;> simp
theorem pos_of_ne {pl : List Int} (h : ¬ pl = []) : 0 < pl.length := List.length_pos_iff.mpr h
theorem off1_mem {D : Addr} : ∀ {l : List (Addr × Obj)}, LCg.Off1 D l → ∀ p ∈ l, p.1 ≠ D
  | [], _, _, h => nomatch h
  | _ :: _, x, p, h => by
    rcases List.mem_cons.mp h with rfl | h
    · exact x.1
    · exact off1_mem x.2 p h
theorem fits_close {h₀ : Heap} {L : Addr} {T0 : Str} {t0 : Tok} {R0 : Addr} {rv : List Value} {rs : List Nat} {c1 c2 c3 : Addr} {i : Nat} {own news' : List (Addr × Obj)} {s₁ : Shared} {h' : Heap} {tk : Nat} {m' : Str → Option Value} {a1 a2 a3 o' od : Obj} {D D' : Addr} {ys : List Value} {v1 : Option Value} {pl : List Int} {pp : Nat}
    (F : Fr h₀ L h' m') (N : News h₀ L h' news') (oR : LCg.Off1 D' ((R0, W.listOf rv.toArray 0) :: (D, od) :: (c1, a1) :: (c2, a2) :: (c3, a3) :: own)) (hI : IntsAre ys (backS T0 pl pp)) (hnext : (rs.take (i + 1)).foldl (backS T0) [(T0.length : Int)] = backS T0 pl pp) (d : o'.data = .cell (some (.ref D'))) (e1 : a1.data = .cell v1) (e3 : a3.data = .cell (some (.str T0 t0)))
    (hoff : OwnOff own [R0, D, c1, c2, c3]) (sub : ∀ p ∈ [(R0, W.listOf rv.toArray 0), (D', LCg.lst ys), (c1, a1), (c2, o'), (c3, a3)], p ∈ news') (subo : ∀ p ∈ own, p ∈ news') :
    InvEndG h₀ L (fun _ nx => (R0, W.listOf rv.toArray 0) ∈ nx ∧ FitsJ T0 t0 R0 rv rs c1 c2 c3 (i + 1) nx) own s₁ { s₁ with heap := h', toks := tk } := by
  obtain ⟨n1, _, n2, n3, n4, n5⟩ := oR
  refine InvEndG.intro (nx := [(R0, W.listOf rv.toArray 0), (D', LCg.lst ys), (c1, a1), (c2, o'), (c3, a3)]) F N ⟨.head _, a1, o', a3, D', ys, _, v1, rfl, e1, d, e3, by rw [hnext]; exact hI, n2, n3, n4, n1⟩ ?_ sub subo
  intro p hp b hb
  simp only [List.map_cons, List.map_nil, List.mem_cons, List.not_mem_nil, or_false] at hb
  rcases hb with rfl | rfl | rfl | rfl | rfl
  · exact hoff p hp _ (.head _)
  · exact off1_mem n5 p hp
  · exact hoff p hp _ (.tail _ (.tail _ (.head _)))
  · exact hoff p hp _ (.tail _ (.tail _ (.tail _ (.head _))))
  · exact hoff p hp _ (.tail _ (.tail _ (.tail _ (.tail _ (.head _)))))
theorem star_no {pp : Nat} (hp : pp < 6) (h3 : ¬ pp = 3) : (pieceT pp == Str.ofString "*") = false := by rw [star_ne hp]; exact decide_eq_false h3
theorem flat_str (hp : Heap) {v : Value} {x : Str} (h : PyProof.V.Flat v (.str x)) : ∃ t, v = .str x t := by
  have r := h hp
  cases r
  exact ⟨_, rfl⟩
theorem dget_val (hp : Heap) {pp : Nat} {a1 a2 a3 a4 a5 a6 : Tok} (h6 : pp < 6) (h3 : ¬ pp = 3) {v : Value}
    (h : PyProof.V.Flat v ((PySem.Spec.lookup (.str (pieceT pp)) (strData [(.str (Str.ofString "?") a1, .str (Str.ofString "0a") a2), (.str (Str.ofString "[0a]") a3, .str (Str.ofString "0a") a4), (.str (Str.ofString "[!0]") a5, .str (Str.ofString "a") a6)])).getD (.str (pieceT pp)))) : ∃ t, v = .str (signT pp) t := by
  have d : pp = 0 ∨ pp = 1 ∨ pp = 2 ∨ pp = 4 ∨ pp = 5 := by omega
  refine flat_str hp (x := signT pp) ?_
  rcases d with rfl | rfl | rfl | rfl | rfl
  all_goals exact h
theorem foldl_bd {G : List Int → Int → List Int} {P : Int → Prop} : ∀ (ks : List Int) (l : List Int), (∀ l k, k ∈ ks → (∀ a ∈ l, P a) → ∀ a ∈ G l k, P a) → (∀ a ∈ l, P a) → ∀ a ∈ ks.foldl G l, P a
  | [], _, _, h => h
  | k :: ks, l, hG, h => foldl_bd ks (G l k) (fun l k hk => hG l k (.tail _ hk)) (hG l k (.head _) h)
theorem backS_bd {T : Str} {pl : List Int} {p : Nat} (h : ∀ a ∈ pl, 0 ≤ a ∧ a ≤ (T.length : Int)) : ∀ a ∈ backS T pl p, 0 ≤ a ∧ a ≤ (T.length : Int) := by
  unfold backS
  split
  · refine foldl_bd _ _ (fun l k hk hl a ha => ?_) (fun _ h => nomatch h)
    unfold backG at ha
    split at ha
    · rcases List.mem_append.mp ha with ha | ha
      · exact hl a ha
      · rw [List.mem_singleton.mp ha]
        have := mem_rangeKs hk
        omega
    · exact hl a ha
  · refine foldl_bd _ _ (fun l k hk hl a ha => ?_) (fun _ h => nomatch h)
    unfold backH at ha
    split at ha
    · rename_i hc
      rcases List.mem_append.mp ha with ha | ha
      · exact hl a ha
      · rw [List.mem_singleton.mp ha]
        have := h k hk
        omega
    · exact hl a ha
theorem back_bd (T : Str) : ∀ (rs : List Nat) (pl : List Int), (∀ a ∈ pl, 0 ≤ a ∧ a ≤ (T.length : Int)) → ∀ a ∈ rs.foldl (backS T) pl, 0 ≤ a ∧ a ≤ (T.length : Int)
  | [], _, h => h
  | _ :: rs, _, h => back_bd T rs _ (backS_bd h)
theorem backH_no1 {T : Str} {p : Nat} {l : List Int} {k : Int} (h : ¬ 0 < k) : backH T p l k = l := by unfold backH; rw [if_neg fun e => h e.1]
theorem backH_no2 {T : Str} {p : Nat} {l : List Int} {k : Int} (h0 : (Builtin.Str.occurrences (signT p) (Txt.item T (k - 1)) 0 (signT p).length 1).isEmpty = true) : backH T p l k = l := by
  have h : Txt.contains (signT p) (Txt.item T (k - 1)) = false := by show (!_) = false; rw [h0]; rfl
  unfold backH; rw [if_neg fun e => by rw [h] at e; exact absurd e.2 Bool.false_ne_true]
theorem backH_yes {T : Str} {p : Nat} {l : List Int} {k : Int} (h1 : 0 < k) (h0 : (Builtin.Str.occurrences (signT p) (Txt.item T (k - 1)) 0 (signT p).length 1).isEmpty = false) : backH T p l k = l ++ [k - 1] := by
  have h : Txt.contains (signT p) (Txt.item T (k - 1)) = true := by show (!_) = true; rw [h0]; rfl
  unfold backH; rw [if_pos ⟨h1, h⟩]
theorem grows_H (T : Str) (p : Nat) : KPfGrows (backH T p) := by
  intro l k
  unfold backH
  split <;> simp
theorem backS_len {T : Str} (hT : T.length ≤ 24) {pl : List Int} {p : Nat} (h : pl.length ≤ 1000) : (backS T pl p).length ≤ 1000 := by
  unfold backS
  split
  · have := kpf_len (grows_G pl) (rangeKs 0 (T.length + 1)) []
    rw [rangeKs_length] at this
    simp only [List.length_nil] at this
    omega
  · have := kpf_len (grows_H T p) pl []
    simp only [List.length_nil] at this
    omega
theorem back_len (T : Str) (hT : T.length ≤ 24) : ∀ (rs : List Nat) (pl : List Int), pl.length ≤ 1000 → (rs.foldl (backS T) pl).length ≤ 1000
  | [], _, h => h
  | _ :: rs, _, h => back_len T hT rs _ (backS_len hT h)
theorem cLine9 : cLine = 9900 := rfl
namespace fits_specN
noncomputable def S (w : World) (dp un : Nat) (gd : Option (List Code)) (s : Shared) (p : Program) (loose : List Str) (mean : ExcName → Option Value) (mg mb : Str → Option Value) (base : Heap) (outer : List Env) (Q E : Value → Shared → Prop) (al : Addr) (vs : List Value) (ps : List Nat) (T0 : Str) (t0 : Tok) : Prop := ∀ (C : Cx w p loose mean mg mb base dp un gd outer s.heap s) (hroom : dp + 30 < recursionLimit) (hun : un + 200 < 9900) (hal : s.heap.IsList al vs.toArray) (hvs : StrsAre vs (ps.map pieceT)) (hlen : ps.length ≤ 4) (h6 : ∀ q ∈ ps, q < 6) (hT : T0.length ≤ 24) (k : ∀ h' tk, s.heap.StaysIn h' → Q (.bool (fitsP T0 ps)) { s with heap := h', toks := tk }), wpAny (model PG w) (Ar dp un gd outer) (call (.ref 824) [.ref al, .str T0 t0]) Q E s
noncomputable def d : World × Nat × Nat × Option (List Code) × Shared × Program × List Str × (ExcName → Option Value) × (Str → Option Value) × (Str → Option Value) × Heap × List Env × (Value → Shared → Prop) × (Value → Shared → Prop) × Addr × List Value × List Nat × Str × Tok := cex (jW, 0, 0, none, jS, default, [], (fun _ => none), (fun _ => none), (fun _ => none), default, [], (fun _ _ => True), (fun _ _ => True), (0 : Nat), [], [], default, 0) fun d => S d.1 d.2.1 d.2.2.1 d.2.2.2.1 d.2.2.2.2.1 d.2.2.2.2.2.1 d.2.2.2.2.2.2.1 d.2.2.2.2.2.2.2.1 d.2.2.2.2.2.2.2.2.1 d.2.2.2.2.2.2.2.2.2.1 d.2.2.2.2.2.2.2.2.2.2.1 d.2.2.2.2.2.2.2.2.2.2.2.1 d.2.2.2.2.2.2.2.2.2.2.2.2.1 d.2.2.2.2.2.2.2.2.2.2.2.2.2.1 d.2.2.2.2.2.2.2.2.2.2.2.2.2.2.1 d.2.2.2.2.2.2.2.2.2.2.2.2.2.2.2.1 d.2.2.2.2.2.2.2.2.2.2.2.2.2.2.2.2.1 d.2.2.2.2.2.2.2.2.2.2.2.2.2.2.2.2.2.1 d.2.2.2.2.2.2.2.2.2.2.2.2.2.2.2.2.2.2
@[irreducible] noncomputable def w : World := d.1
@[irreducible] noncomputable def dp : Nat := d.2.1
@[irreducible] noncomputable def un : Nat := d.2.2.1
@[irreducible] noncomputable def gd : Option (List Code) := d.2.2.2.1
@[irreducible] noncomputable def s : Shared := d.2.2.2.2.1
@[irreducible] noncomputable def L' : Addr := s.heap.objs.size
@[irreducible] noncomputable def p : Program := d.2.2.2.2.2.1
@[irreducible] noncomputable def loose : List Str := d.2.2.2.2.2.2.1
@[irreducible] noncomputable def mean : ExcName → Option Value := d.2.2.2.2.2.2.2.1
@[irreducible] noncomputable def mg : Str → Option Value := d.2.2.2.2.2.2.2.2.1
@[irreducible] noncomputable def mb : Str → Option Value := d.2.2.2.2.2.2.2.2.2.1
@[irreducible] noncomputable def base : Heap := d.2.2.2.2.2.2.2.2.2.2.1
@[irreducible] noncomputable def outer : List Env := d.2.2.2.2.2.2.2.2.2.2.2.1
@[irreducible] noncomputable def Q : Value → Shared → Prop := d.2.2.2.2.2.2.2.2.2.2.2.2.1
@[irreducible] noncomputable def E : Value → Shared → Prop := d.2.2.2.2.2.2.2.2.2.2.2.2.2.1
@[irreducible] noncomputable def al : Addr := d.2.2.2.2.2.2.2.2.2.2.2.2.2.2.1
@[irreducible] noncomputable def vs : List Value := d.2.2.2.2.2.2.2.2.2.2.2.2.2.2.2.1
@[irreducible] noncomputable def ps : List Nat := d.2.2.2.2.2.2.2.2.2.2.2.2.2.2.2.2.1
@[irreducible] noncomputable def T0 : Str := d.2.2.2.2.2.2.2.2.2.2.2.2.2.2.2.2.2.1
@[irreducible] noncomputable def t0 : Tok := d.2.2.2.2.2.2.2.2.2.2.2.2.2.2.2.2.2.2
noncomputable def core0 := fun (zt : Sp _) => (show S w dp un gd s p loose mean mg mb base outer Q E al vs ps T0 t0 from by
  intro C hroom hun hal hvs hlen h6 hT k
  obtain ⟨X, T, B, G, Gz⟩ := C
  refine wpAny_call ?_
  k_dflt (refine' enterC (news := []) X T (fun _ _ e => e) (Nat.le_refl _) (fun _ h => nomatch h) ?k6 ?k7 ?k8 ?k9 ?kB ?kD ?_ ?c2 ?c3 ?c4; (case k6 => k_is); (case k7 => k_is); (case k8 => (show dp < _; omega)); (case k9 => first | exact BindsTo.of_eq rfl | exact binds_K (by k_in) rfl (by k_is) rfl rfl rfl);(case kB => exact rfl); (case kD => decide +kernel); (case c2 => exact rfl); (case c3 => exact rfl); (case c4 => exact rfl))
  intro L₀ h₁ tk' cells' hL F N Y l1 G1
  obtain rfl : L₀ = L' := hL.trans (by with_unfolding_all rfl)
  k_cells Y
  (try simp only [List.cons_append, List.nil_append] at N)
  (try dsimp only); (try k_fold)
  iterate 60 (first | (with_reducible show wpAny _ _ (pyIter (Value.ref _)) _ _ _) | (first | with_reducible refine ite_tt ?_ | with_reducible refine ite_ff ?_) | ((with_reducible show wpAny _ _ (compareOp CmpOp.Eq (Value.str _ _) (Value.str _ _)) _ _ _); (k_dflt (first | (with_reducible refine' eqS (b := true) ?e ?_; (case e => decide +kernel)) | (with_reducible refine' eqS (b := false) ?e ?_; (case e => exact star_no (by assumption) (by assumption)))))) | ((with_reducible show LCg.FinE _ _ _ _ _ _ _); ((unfold LCg.FinE); intro D' h' tk' F' N' o1'; (have oRaw := o1'); (try simp only [LCg.Off1, and_true] at o1'); (try simp only [List.nil_append, List.cons_append] at N'); (try dsimp only))) | ((with_reducible show wpAny _ _ (call (Value.builtin "max") _) _ _ _); (k_dflt (refine' max_list_N ?hh ?F ?N ?hl ?hi ?hne ?_; (case hh => exact rfl); (case F => k_asm); (case N => k_asm); (case hl => is_list); (case hi => assumption); (case hne => exact pos_of_ne (of_decide_eq_false (by assumption)))); k_whole; intro h' M' t' tk' F' N' hm' hmx')) | ((with_reducible show wpAny _ _ (eval (PySem.Expr.ListComp _ _ _ _) _) _ _ _); (k_dflt (refine LCt.ListComp_T (F₀ := by k_asm) (by with_unfolding_all rfl) (by decide) (by rfl) (by decide) (by rfl) ?_))) | ((with_reducible show wpAny _ _ (compareOp CmpOp.NotEq (Value.ref _) (Value.ref _)) _ _ _); (k_dflt (refine' ke_ne_ints (ys := []) ?ha ?hb ?hi .nil ?hu ?_; (case ha => is_list); (case hb => is_list); (case hi => assumption); (case hu => (rw [cLine9]; show _ + 3 + 64 < 9900; omega)); k_whole))) | ((with_reducible show wpAny _ _ (subscriptTail (PySem.Expr.Name _ _) (PySem.Expr.Slice _ _ _ _) (Value.ref _) (Value.ref _)) _ _ _); (k_dflt (refine' krv_lit ?F ?N ?hl ?pk rfl ?_ ?hs ?ht ?hz; (case F => k_asm); (case N => k_asm); (case hl => is_list); (case pk => first | exact .int _ _ | constructor); (case hs => with_unfolding_all rfl); (case ht => (intro _; with_unfolding_all rfl)); (case hz => (simp only [List.size_toArray]; rw [PySem.sizeLine_eq]; (have hkl := StrsAre.length (by assumption)); simp only [List.length_map] at hkl; omega)); k_whole; intro R0 h4 F4 N4 q2; (try k_lt q2)))) | ((with_reducible show wpAny _ _ (exec (Stmt.For _ _ _ _ _) _) _ _ _); ((rename Fr _ _ _ _ => lF'); (with_unfolding_all refine' For_invVF lF' ?k1 ?k2 ?_; (case k1 => exact rfl); (case k2 => exact rfl); k_whole))) | (k_unfold; (try dsimp only)) | walk1 | (dsimp only; walk1))
  rename_i o1 o2 o3 d1 d2 d3 P0 h2 q1 h3 oP N2 dP
  have hrv := rev_strs hvs
  generalize hrve : vs.toArray.toList.reverse = rv at *
  have hrl : rv.length = ps.reverse.length := by have := hrv.length; simpa using this
  refine kdl_iter (fun i m nx => FitsJ T0 t0 R0 rv ps.reverse (L' + 1 + 1 + 1) (L' + 1 + 1) (L' + 1) i nx) rfl (.head _) F4 N4 ⟨o1, oP, o3, P0, _, _, _, rfl, d1, dP, d3, .cons _ _ .nil, ⟨by omega, by omega, by omega, by omega⟩⟩ ?_ ?_
  · rintro i v m₁ nx h tk own hv hoff - ⟨a1, a2, a3, D, us, c, v1, rfl, e1, e2, e3, hus, q3⟩ F N
    simp only [List.cons_append, List.nil_append] at N
    have kMark1 := kstMark
    have kMark2 := kdMark
    have hi : i < ps.reverse.length := by rw [← hrl]; exact (List.getElem?_eq_some_iff.mp hv).1
    obtain ⟨tv, hv'⟩ := hrv.get i (pieceT (ps.reverse[i])) (by rw [List.getElem?_map, List.getElem?_eq_getElem hi]; rfl)
    rw [hv] at hv'
    obtain rfl := Option.some.inj hv'
    have hp6 : ps.reverse[i] < 6 := h6 _ (List.mem_reverse.mp (List.getElem_mem hi))
    have hnext : (ps.reverse.take (i + 1)).foldl (backS T0) [(T0.length : Int)] = backS T0 ((ps.reverse.take i).foldl (backS T0) [(T0.length : Int)]) ps.reverse[i] := by
      rw [List.take_add_one, List.getElem?_eq_getElem hi, List.foldl_append]; rfl
    have hul : us.length ≤ 1000 := by rw [hus.length]; exact back_len T0 hT _ _ (by simp)
    have hbd := back_bd T0 (ps.reverse.take i) [(T0.length : Int)] (fun a ha => by rw [List.mem_singleton.mp ha]; omega)
    generalize (ps.reverse.take i).foldl (backS T0) [(T0.length : Int)] = pl at *
    generalize ps.reverse[i] = pp at *
    clear hv' hrve hrv N4
    replace q2 := q2.2
    try dsimp only
    revert hv F hp6 hnext
    revert pp
    revert hoff N hul hus hbd
    revert us pl
    revert hroom hun hT hlen X T B q2 e1 e2 e3 q3 kMark1 kMark2 hi hrl
    revert R0 rv i m₁ h tk own a1 a2 a3 D c v1 tv
    exact cur14 zt.h
  · rintro m₁ nx h tk ⟨a1, a2, a3, D, us, c, v1, rfl, e1, e2, e3, hus, q3⟩ F N
    repeat' ((first | (first | with_reducible refine ite_tt ?_ | with_reducible refine ite_ff ?_) | ((with_reducible show wpAny _ _ (compareOp CmpOp.Eq (Value.str _ _) (Value.str _ _)) _ _ _); (k_dflt (first | (with_reducible refine' eqS (b := true) ?e ?_; (case e => decide +kernel)) | (with_reducible refine' eqS (b := false) ?e ?_; (case e => exact star_no (by assumption) (by assumption)))))) | ((with_reducible show LCg.FinE _ _ _ _ _ _ _); ((unfold LCg.FinE); intro D' h' tk' F' N' o1'; (have oRaw := o1'); (try simp only [LCg.Off1, and_true] at o1'); (try simp only [List.nil_append, List.cons_append] at N'); (try dsimp only))) | ((with_reducible show wpAny _ _ (call (Value.builtin "max") _) _ _ _); (k_dflt (refine' max_list_N ?hh ?F ?N ?hl ?hi ?hne ?_; (case hh => exact rfl); (case F => k_asm); (case N => k_asm); (case hl => is_list); (case hi => assumption); (case hne => exact pos_of_ne (of_decide_eq_false (by assumption)))); k_whole; intro h' M' t' tk' F' N' hm' hmx')) | ((with_reducible show wpAny _ _ (eval (PySem.Expr.ListComp _ _ _ _) _) _ _ _); (k_dflt (refine LCt.ListComp_T (F₀ := by k_asm) (by with_unfolding_all rfl) (by decide) (by rfl) (by decide) (by rfl) ?_))) | ((with_reducible show wpAny _ _ (compareOp CmpOp.NotEq (Value.ref _) (Value.ref _)) _ _ _); (k_dflt (refine' ke_ne_ints (ys := []) ?ha ?hb ?hi .nil ?hu ?_; (case ha => is_list); (case hb => is_list); (case hi => assumption); (case hu => (rw [cLine9]; show _ + 3 + 64 < 9900; omega)); k_whole))) | (k_unfold; (try dsimp only)) | (k_end; wrow_close) | walk1 | (dsimp only; walk1) | (leave1; walk_say "STEP leave1"; try dsimp only) | fail "no step") <;> (try dsimp only))
    have e9 : List.take rv.length ps.reverse = ps.reverse := by rw [hrl, List.take_length]
    rw [e9]
    exact k _ _ (Fr.keep (by assumption)))
noncomputable def z := pk core0
@[irreducible] noncomputable def R0 : Addr := z.1.1.1.1.1.1.1.1.1.1.1.1.1
@[irreducible] noncomputable def rv : List Value := z.1.1.1.1.1.1.1.1.1.1.1.1.2
@[irreducible] noncomputable def i : Nat := z.1.1.1.1.1.1.1.1.1.1.1.2
@[irreducible] noncomputable def m₁ : Str → Option Value := z.1.1.1.1.1.1.1.1.1.1.2
@[irreducible] noncomputable def h : Heap := z.1.1.1.1.1.1.1.1.1.2
@[irreducible] noncomputable def tk : Nat := z.1.1.1.1.1.1.1.1.2
@[irreducible] noncomputable def own : List (Addr × Obj) := z.1.1.1.1.1.1.1.2
@[irreducible] noncomputable def a1 : Obj := z.1.1.1.1.1.1.2
@[irreducible] noncomputable def a2 : Obj := z.1.1.1.1.1.2
@[irreducible] noncomputable def a3 : Obj := z.1.1.1.1.2
@[irreducible] noncomputable def D : Addr := z.1.1.1.2
@[irreducible] noncomputable def c : Nat := z.1.1.2
@[irreducible] noncomputable def v1 : Option Value := z.1.2
@[irreducible] noncomputable def tv : Tok := z.2
theorem turn : domP core0 (((((((((((((R0, rv), i), m₁), h), tk), own), a1), a2), a3), D), c), v1), tv) := by
  dsimp only [domP]
  intro hroom hun hlen hT X T B hrl e1 e2 e3 q3 kMark1 kMark2 hi q2 us pl hoff N hul hus hbd pp hv F hp6 hnext
  by_cases hp3 : pp = 3
  · subst hp3
    iterate 60 (first | (with_reducible show LCt.CompSrcT _ _ _ _ _ _ _ _ _ _ _ _ _ _ _) | (first | with_reducible refine ite_tt ?_ | with_reducible refine ite_ff ?_) | ((with_reducible show wpAny _ _ (compareOp CmpOp.Eq (Value.str _ _) (Value.str _ _)) _ _ _); (k_dflt (first | (with_reducible refine' eqS (b := true) ?e ?_; (case e => decide +kernel)) | (with_reducible refine' eqS (b := false) ?e ?_; (case e => exact star_no (by assumption) (by assumption)))))) | ((with_reducible show LCg.FinE _ _ _ _ _ _ _); ((unfold LCg.FinE); intro D' h' tk' F' N' o1'; (have oRaw := o1'); (try simp only [LCg.Off1, and_true] at o1'); (try simp only [List.nil_append, List.cons_append] at N'); (try dsimp only))) | ((with_reducible show wpAny _ _ (call (Value.builtin "max") _) _ _ _); (k_dflt (refine' max_list_N ?hh ?F ?N ?hl ?hi ?hne ?_; (case hh => exact rfl); (case F => k_asm); (case N => k_asm); (case hl => first | is_list | exact News.isList (by assumption) (by k_mem)); (case hi => assumption); (case hne => exact pos_of_ne (of_decide_eq_false (by assumption)))); k_whole; intro h' M' t' tk' F' N' hm' hmx')) | ((with_reducible show wpAny _ _ (eval (PySem.Expr.ListComp _ _ _ _) _) _ _ _); (k_dflt (refine LCt.ListComp_T (F₀ := by k_asm) (by with_unfolding_all rfl) (by decide) (by rfl) (by decide) (by rfl) ?_))) | ((with_reducible show wpAny _ _ (compareOp CmpOp.NotEq (Value.ref _) (Value.ref _)) _ _ _); (k_dflt (refine' ke_ne_ints (ys := []) ?ha ?hb ?hi .nil ?hu ?_; (case ha => first | is_list | exact News.isList (by assumption) (by k_mem)); (case hb => first | is_list | exact News.isList (by assumption) (by k_mem)); (case hi => assumption); (case hu => (rw [cLine9]; show _ + 3 + 64 < 9900; omega)); k_whole))) | (k_unfold; (try dsimp only)) | walk1 | (dsimp only; walk1))
    k_dflt (refine LCt.CompSrcT.range (n := T0.length + 1) (by rfl) (by k_asm) (by k_asm) (by assumption) (small_one (by omega) (by omega) (by omega) (by omega)) (by simp [Builtin.Range.rangeSize]) (by rw [PySem.sizeLine_eq]; omega) ?_)
    intro g'
    refine' kci_range (backG pl) (fun k' t' I' oI' C' oC' D' m' ys' l' h' tk' E' hlo' hhi' hI' hC' hx' F' N' off' ne' hM' => ?_) ?_ (grows_G pl)
    · have off0 := off'
      simp only [LCg.Off3, and_true] at off'
      repeat' ((first | ((with_reducible show wpAny _ _ (compareOp CmpOp.NotEq (Value.ref _) (Value.ref _)) _ _ _); k_dflt (refine ke_ne_ints (News.isList (by assumption) (by k_mem)) (News.isList (by assumption) (by k_mem)) (by l_ints) (by l_ints) (by ke_room) ?_); ke_norm) | (first | with_reducible refine ite_tt ?_ | with_reducible refine ite_ff ?_) | ((with_reducible show wpAny _ _ (compareOp CmpOp.Eq (Value.str _ _) (Value.str _ _)) _ _ _); (k_dflt (first | (with_reducible refine' eqS (b := true) ?e ?_; (case e => decide +kernel)) | (with_reducible refine' eqS (b := false) ?e ?_; (case e => exact star_no (by assumption) (by assumption)))))) | ((with_reducible show LCg.FinE _ _ _ _ _ _ _); ((unfold LCg.FinE); intro D' h' tk' F' N' o1'; (have oRaw := o1'); (try simp only [LCg.Off1, and_true] at o1'); (try simp only [List.nil_append, List.cons_append] at N'); (try dsimp only))) | ((with_reducible show wpAny _ _ (call (Value.builtin "max") _) _ _ _); (k_dflt (refine' max_list_N ?hh ?F ?N ?hl ?hi ?hne ?_; (case hh => exact rfl); (case F => k_asm); (case N => k_asm); (case hl => first | is_list | exact News.isList (by assumption) (by k_mem)); (case hi => assumption); (case hne => exact pos_of_ne (of_decide_eq_false (by assumption)))); k_whole; intro h' M' t' tk' F' N' hm' hmx')) | ((with_reducible show wpAny _ _ (eval (PySem.Expr.ListComp _ _ _ _) _) _ _ _); (k_dflt (refine LCt.ListComp_T (F₀ := by k_asm) (by with_unfolding_all rfl) (by decide) (by rfl) (by decide) (by rfl) ?_))) | ((with_reducible show wpAny _ _ (compareOp CmpOp.NotEq (Value.ref _) (Value.ref _)) _ _ _); (k_dflt (refine' ke_ne_ints (ys := []) ?ha ?hb ?hi .nil ?hu ?_; (case ha => first | is_list | exact News.isList (by assumption) (by k_mem)); (case hb => first | is_list | exact News.isList (by assumption) (by k_mem)); (case hi => assumption); (case hu => (rw [cLine9]; show _ + 3 + 64 < 9900; omega)); k_whole))) | (k_unfold; (try dsimp only)) | (k_end; wrow_close) | walk1 | (dsimp only; walk1) | (leave1; walk_say "STEP leave1"; try dsimp only) | fail "no step") <;> (try dsimp only))
      · exact LCg.CompEnd.intro (by assumption) (by assumption) _ (fun p hp => .tail _ hp) off0 trivial (kci_no (backG_nil (of_decide_eq_true (by assumption))) rfl)
      · exact LCg.CompEnd.intro (by assumption) (by assumption) _ (fun p hp => .tail _ hp) off0 trivial (kci_el (backG_yes (by assumption) (by assumption)) rfl rfl)
      · exact LCg.CompEnd.intro (by assumption) (by assumption) _ (fun p hp => .tail _ hp) off0 trivial (kci_no (backG_no (by assumption) (by assumption)) rfl)
    · repeat' ((first | (first | with_reducible refine ite_tt ?_ | with_reducible refine ite_ff ?_) | ((with_reducible show wpAny _ _ (compareOp CmpOp.Eq (Value.str _ _) (Value.str _ _)) _ _ _); (k_dflt (first | (with_reducible refine' eqS (b := true) ?e ?_; (case e => decide +kernel)) | (with_reducible refine' eqS (b := false) ?e ?_; (case e => exact star_no (by assumption) (by assumption)))))) | ((with_reducible show LCg.FinE _ _ _ _ _ _ _); ((unfold LCg.FinE); intro D' h' tk' F' N' o1'; (have oRaw := o1'); (try simp only [LCg.Off1, and_true] at o1'); (try simp only [List.nil_append, List.cons_append] at N'); (try dsimp only))) | ((with_reducible show wpAny _ _ (call (Value.builtin "max") _) _ _ _); (k_dflt (refine' max_list_N ?hh ?F ?N ?hl ?hi ?hne ?_; (case hh => exact rfl); (case F => k_asm); (case N => k_asm); (case hl => first | is_list | exact News.isList (by assumption) (by k_mem)); (case hi => assumption); (case hne => exact pos_of_ne (of_decide_eq_false (by assumption)))); k_whole; intro h' M' t' tk' F' N' hm' hmx')) | ((with_reducible show wpAny _ _ (eval (PySem.Expr.ListComp _ _ _ _) _) _ _ _); (k_dflt (refine LCt.ListComp_T (F₀ := by k_asm) (by with_unfolding_all rfl) (by decide) (by rfl) (by decide) (by rfl) ?_))) | ((with_reducible show wpAny _ _ (compareOp CmpOp.NotEq (Value.ref _) (Value.ref _)) _ _ _); (k_dflt (refine' ke_ne_ints (ys := []) ?ha ?hb ?hi .nil ?hu ?_; (case ha => first | is_list | exact News.isList (by assumption) (by k_mem)); (case hb => first | is_list | exact News.isList (by assumption) (by k_mem)); (case hi => assumption); (case hu => (rw [cLine9]; show _ + 3 + 64 < 9900; omega)); k_whole))) | (k_unfold; (try dsimp only)) | (k_end; wrow_close) | walk1 | (dsimp only; walk1) | (leave1; walk_say "STEP leave1"; try dsimp only) | fail "no step") <;> (try dsimp only))
      have hI9 : IntsAre _ (backS T0 pl 3) := ‹IntsAre _ (List.foldl (backG pl) [] (rangeKs 0 (T0.length + 1)))›
      exact fits_close (by assumption) (by assumption) (by assumption) hI9 hnext (by assumption) e1 e3 hoff (by kcf_all) (by kcf_all)
  · iterate 60 (first | (with_reducible show wpAny _ _ (call (Value.builtin "dict.get") _) _ _ _) | (first | with_reducible refine ite_tt ?_ | with_reducible refine ite_ff ?_) | ((with_reducible show wpAny _ _ (compareOp CmpOp.Eq (Value.str _ _) (Value.str _ _)) _ _ _); (k_dflt (first | (with_reducible refine' eqS (b := true) ?e ?_; (case e => decide +kernel)) | (with_reducible refine' eqS (b := false) ?e ?_; (case e => exact star_no (by assumption) (by assumption)))))) | ((with_reducible show LCg.FinE _ _ _ _ _ _ _); ((unfold LCg.FinE); intro D' h' tk' F' N' o1'; (have oRaw := o1'); (try simp only [LCg.Off1, and_true] at o1'); (try simp only [List.nil_append, List.cons_append] at N'); (try dsimp only))) | ((with_reducible show wpAny _ _ (call (Value.builtin "max") _) _ _ _); (k_dflt (refine' max_list_N ?hh ?F ?N ?hl ?hi ?hne ?_; (case hh => exact rfl); (case F => k_asm); (case N => k_asm); (case hl => first | is_list | exact News.isList (by assumption) (by k_mem)); (case hi => assumption); (case hne => exact pos_of_ne (of_decide_eq_false (by assumption)))); k_whole; intro h' M' t' tk' F' N' hm' hmx')) | ((with_reducible show wpAny _ _ (eval (PySem.Expr.ListComp _ _ _ _) _) _ _ _); (k_dflt (refine LCt.ListComp_T (F₀ := by k_asm) (by with_unfolding_all rfl) (by decide) (by rfl) (by decide) (by rfl) ?_))) | ((with_reducible show wpAny _ _ (compareOp CmpOp.NotEq (Value.ref _) (Value.ref _)) _ _ _); (k_dflt (refine' ke_ne_ints (ys := []) ?ha ?hb ?hi .nil ?hu ?_; (case ha => first | is_list | exact News.isList (by assumption) (by k_mem)); (case hb => first | is_list | exact News.isList (by assumption) (by k_mem)); (case hi => assumption); (case hu => (rw [cLine9]; show _ + 3 + 64 < 9900; omega)); k_whole))) | (k_unfold; (try dsimp only)) | walk1 | (dsimp only; walk1))
    k_dflt (refine' call_get2_strTab ?k1 ?k2 ?_; (case k1 => k_tabat); (case k2 => k_flat); k_whole; intro v9 hv9)
    obtain ⟨t9, rfl⟩ := dget_val s.heap hp6 hp3 hv9
    clear hv9
    iterate 60 (first | (with_reducible show LCt.CompSrcT _ _ _ _ _ _ _ _ _ _ _ _ _ _ _) | (first | with_reducible refine ite_tt ?_ | with_reducible refine ite_ff ?_) | ((with_reducible show wpAny _ _ (compareOp CmpOp.Eq (Value.str _ _) (Value.str _ _)) _ _ _); (k_dflt (first | (with_reducible refine' eqS (b := true) ?e ?_; (case e => decide +kernel)) | (with_reducible refine' eqS (b := false) ?e ?_; (case e => exact star_no (by assumption) (by assumption)))))) | ((with_reducible show LCg.FinE _ _ _ _ _ _ _); ((unfold LCg.FinE); intro D' h' tk' F' N' o1'; (have oRaw := o1'); (try simp only [LCg.Off1, and_true] at o1'); (try simp only [List.nil_append, List.cons_append] at N'); (try dsimp only))) | ((with_reducible show wpAny _ _ (call (Value.builtin "max") _) _ _ _); (k_dflt (refine' max_list_N ?hh ?F ?N ?hl ?hi ?hne ?_; (case hh => exact rfl); (case F => k_asm); (case N => k_asm); (case hl => first | is_list | exact News.isList (by assumption) (by k_mem)); (case hi => assumption); (case hne => exact pos_of_ne (of_decide_eq_false (by assumption)))); k_whole; intro h' M' t' tk' F' N' hm' hmx')) | ((with_reducible show wpAny _ _ (eval (PySem.Expr.ListComp _ _ _ _) _) _ _ _); (k_dflt (refine LCt.ListComp_T (F₀ := by k_asm) (by with_unfolding_all rfl) (by decide) (by rfl) (by decide) (by rfl) ?_))) | ((with_reducible show wpAny _ _ (compareOp CmpOp.NotEq (Value.ref _) (Value.ref _)) _ _ _); (k_dflt (refine' ke_ne_ints (ys := []) ?ha ?hb ?hi .nil ?hu ?_; (case ha => first | is_list | exact News.isList (by assumption) (by k_mem)); (case hb => first | is_list | exact News.isList (by assumption) (by k_mem)); (case hi => assumption); (case hu => (rw [cLine9]; show _ + 3 + 64 < 9900; omega)); k_whole))) | (k_unfold; (try dsimp only)) | walk1 | (dsimp only; walk1))
    k_dflt (refine LCt.CompSrcT.ledger (by rfl) (by k_asm) (by k_asm) (by k_mem) (by simp only [List.size_toArray]; rw [PySem.sizeLine_eq]; exact Nat.le_trans hul (by decide)) ?_)
    intro g'
    refine' kci_list (backH T0 pp) hus (fun k' t' I' oI' C' oC' D' m' ys' l' h' tk' E' hk' hI' hC' hx' F' N' off' ne' hM' => ?_) ?_ (grows_H T0 pp)
    · have off0 := off'
      simp only [LCg.Off3, and_true] at off'
      have hb9 := hbd k' hk'
      repeat' ((first | (first | with_reducible refine ite_tt ?_ | with_reducible refine ite_ff ?_) | ((with_reducible show wpAny _ _ (compareOp CmpOp.Eq (Value.str _ _) (Value.str _ _)) _ _ _); (k_dflt (first | (with_reducible refine' eqS (b := true) ?e ?_; (case e => decide +kernel)) | (with_reducible refine' eqS (b := false) ?e ?_; (case e => exact star_no (by assumption) (by assumption)))))) | ((with_reducible show LCg.FinE _ _ _ _ _ _ _); ((unfold LCg.FinE); intro D' h' tk' F' N' o1'; (have oRaw := o1'); (try simp only [LCg.Off1, and_true] at o1'); (try simp only [List.nil_append, List.cons_append] at N'); (try dsimp only))) | ((with_reducible show wpAny _ _ (call (Value.builtin "max") _) _ _ _); (k_dflt (refine' max_list_N ?hh ?F ?N ?hl ?hi ?hne ?_; (case hh => exact rfl); (case F => k_asm); (case N => k_asm); (case hl => first | is_list | exact News.isList (by assumption) (by k_mem)); (case hi => assumption); (case hne => exact pos_of_ne (of_decide_eq_false (by assumption)))); k_whole; intro h' M' t' tk' F' N' hm' hmx')) | ((with_reducible show wpAny _ _ (eval (PySem.Expr.ListComp _ _ _ _) _) _ _ _); (k_dflt (refine LCt.ListComp_T (F₀ := by k_asm) (by with_unfolding_all rfl) (by decide) (by rfl) (by decide) (by rfl) ?_))) | ((with_reducible show wpAny _ _ (compareOp CmpOp.NotEq (Value.ref _) (Value.ref _)) _ _ _); (k_dflt (refine' ke_ne_ints (ys := []) ?ha ?hb ?hi .nil ?hu ?_; (case ha => first | is_list | exact News.isList (by assumption) (by k_mem)); (case hb => first | is_list | exact News.isList (by assumption) (by k_mem)); (case hi => assumption); (case hu => (rw [cLine9]; show _ + 3 + 64 < 9900; omega)); k_whole))) | (k_unfold; (try dsimp only)) | (k_end; wrow_close) | walk1 | (dsimp only; walk1) | (leave1; walk_say "STEP leave1"; try dsimp only) | fail "no step") <;> (try dsimp only))
      all_goals first
        | exact LCg.CompEnd.intro (by assumption) (by assumption) _ (fun p hp => .tail _ hp) off0 (.inr ⟨_, .tail _ (.tail _ (.head _)), rfl, _, rfl⟩) (kci_no (backH_no1 (by assumption)) rfl)
        | exact LCg.CompEnd.intro (by assumption) (by assumption) _ (fun p hp => .tail _ hp) off0 (.inr ⟨_, .tail _ (.tail _ (.head _)), rfl, _, rfl⟩) (kci_no (backH_no2 (by assumption)) rfl)
        | exact LCg.CompEnd.intro (by assumption) (by assumption) _ (fun p hp => hp) off0 (.inr ⟨_, .tail _ (.tail _ (.head _)), rfl, _, rfl⟩) (kci_no (backH_no1 (by assumption)) rfl)
        | exact LCg.CompEnd.intro (by assumption) (by assumption) _ (fun p hp => hp) off0 (.inr ⟨_, .tail _ (.tail _ (.head _)), rfl, _, rfl⟩) (kci_no (backH_no2 (by assumption)) rfl)
        | exact LCg.CompEnd.intro (by assumption) (by assumption) _ (fun p hp => hp) off0 (.inr ⟨_, .tail _ (.tail _ (.head _)), rfl, _, rfl⟩) (kci_el (backH_yes (by assumption) (by assumption)) rfl rfl)
    · repeat' ((first | (first | with_reducible refine ite_tt ?_ | with_reducible refine ite_ff ?_) | ((with_reducible show wpAny _ _ (compareOp CmpOp.Eq (Value.str _ _) (Value.str _ _)) _ _ _); (k_dflt (first | (with_reducible refine' eqS (b := true) ?e ?_; (case e => decide +kernel)) | (with_reducible refine' eqS (b := false) ?e ?_; (case e => exact star_no (by assumption) (by assumption)))))) | ((with_reducible show LCg.FinE _ _ _ _ _ _ _); ((unfold LCg.FinE); intro D' h' tk' F' N' o1'; (have oRaw := o1'); (try simp only [LCg.Off1, and_true] at o1'); (try simp only [List.nil_append, List.cons_append] at N'); (try dsimp only))) | ((with_reducible show wpAny _ _ (call (Value.builtin "max") _) _ _ _); (k_dflt (refine' max_list_N ?hh ?F ?N ?hl ?hi ?hne ?_; (case hh => exact rfl); (case F => k_asm); (case N => k_asm); (case hl => first | is_list | exact News.isList (by assumption) (by k_mem)); (case hi => assumption); (case hne => exact pos_of_ne (of_decide_eq_false (by assumption)))); k_whole; intro h' M' t' tk' F' N' hm' hmx')) | ((with_reducible show wpAny _ _ (eval (PySem.Expr.ListComp _ _ _ _) _) _ _ _); (k_dflt (refine LCt.ListComp_T (F₀ := by k_asm) (by with_unfolding_all rfl) (by decide) (by rfl) (by decide) (by rfl) ?_))) | ((with_reducible show wpAny _ _ (compareOp CmpOp.NotEq (Value.ref _) (Value.ref _)) _ _ _); (k_dflt (refine' ke_ne_ints (ys := []) ?ha ?hb ?hi .nil ?hu ?_; (case ha => first | is_list | exact News.isList (by assumption) (by k_mem)); (case hb => first | is_list | exact News.isList (by assumption) (by k_mem)); (case hi => assumption); (case hu => (rw [cLine9]; show _ + 3 + 64 < 9900; omega)); k_whole))) | (k_unfold; (try dsimp only)) | (k_end; wrow_close) | walk1 | (dsimp only; walk1) | (leave1; walk_say "STEP leave1"; try dsimp only) | fail "no step") <;> (try dsimp only))
      have eS : backS T0 pl pp = pl.foldl (backH T0 pp) [] := by unfold backS; rw [if_neg hp3]
      have hI9 := eS ▸ ‹IntsAre _ (List.foldl (backH T0 pp) [] pl)›
      exact fits_close (by assumption) (by assumption) (And.right ‹LCg.Off1 _ (_ :: _ :: _ :: _ :: _ :: _ :: _)›) hI9 hnext (by assumption) (by assumption) e3 hoff (by kcf_all) (by kcf_all)
theorem core : S w dp un gd s p loose mean mg mb base outer Q E al vs ps T0 t0 := pk_all core0 (by with_unfolding_all exact turn)
end fits_specN
theorem fits_spec {w : World} {dp un : Nat} {gd : Option (List Code)} {s : Shared} {p : Program} {loose : List Str} {mean : ExcName → Option Value} {mg mb : Str → Option Value} {base : Heap} {outer : List Env} {Q E : Value → Shared → Prop}
    (C : Cx w p loose mean mg mb base dp un gd outer s.heap s) (hroom : dp + 30 < recursionLimit) (hun : un + 200 < 9900) {al : Addr} {vs : List Value} {ps : List Nat} (hal : s.heap.IsList al vs.toArray) (hvs : StrsAre vs (ps.map pieceT)) (hlen : ps.length ≤ 4) (h6 : ∀ q ∈ ps, q < 6) (T0 : Str) (t0 : Tok) (hT : T0.length ≤ 24)
    (k : ∀ h' tk, s.heap.StaysIn h' → Q (.bool (fitsP T0 ps)) { s with heap := h', toks := tk }) :
    wpAny (model PG w) (Ar dp un gd outer) (call (.ref 824) [.ref al, .str T0 t0]) Q E s := all_of _ (fun d => fits_specN.S d.1 d.2.1 d.2.2.1 d.2.2.2.1 d.2.2.2.2.1 d.2.2.2.2.2.1 d.2.2.2.2.2.2.1 d.2.2.2.2.2.2.2.1 d.2.2.2.2.2.2.2.2.1 d.2.2.2.2.2.2.2.2.2.1 d.2.2.2.2.2.2.2.2.2.2.1 d.2.2.2.2.2.2.2.2.2.2.2.1 d.2.2.2.2.2.2.2.2.2.2.2.2.1 d.2.2.2.2.2.2.2.2.2.2.2.2.2.1 d.2.2.2.2.2.2.2.2.2.2.2.2.2.2.1 d.2.2.2.2.2.2.2.2.2.2.2.2.2.2.2.1 d.2.2.2.2.2.2.2.2.2.2.2.2.2.2.2.2.1 d.2.2.2.2.2.2.2.2.2.2.2.2.2.2.2.2.2.1 d.2.2.2.2.2.2.2.2.2.2.2.2.2.2.2.2.2.2) (by with_unfolding_all exact fits_specN.core) (w, dp, un, gd, s, p, loose, mean, mg, mb, base, outer, Q, E, al, vs, ps, T0, t0) C hroom hun hal hvs hlen h6 hT k
end Mine
end
section

namespace Mine
theorem fillK1 : PySem.Challenge.rw_in0080_01 = PySem.Challenge.rw_in0080_01 ∧ hd.heap_39 = hd.heap_39 := by k_fill; exact ⟨rfl, rfl⟩
noncomputable def TakesJ (T0 : Str) (t0 : Tok) (qs : List Nat) (c2 c3 : Addr) (i : Nat) (rest : List (Addr × Obj)) : Prop :=
  ∃ oP oT D us cc, rest = [(D, W.listOf us.toArray cc), (c2, oP), (c3, oT)] ∧ oP.data = .cell (some (.ref D)) ∧ oT.data = .cell (some (.str T0 t0)) ∧ IntsAre us ((qs.take i).foldl (takeS T0) [(0 : Int)]) ∧ @Ne Nat c2 D ∧ @Ne Nat c3 D
theorem takeG_no {pl l : List Int} {k M : Int} (hm : ∀ a, a ∈ pl → M ≤ a) (h : ¬ M ≤ k) : takeG pl l k = l := by
  unfold takeG
  rw [if_neg]
  intro e
  obtain ⟨a, ha, hk⟩ := List.any_eq_true.mp e
  have := hm a ha
  have := of_decide_eq_true hk
  omega
theorem takeG_yes {pl l : List Int} {k M : Int} (hm : M ∈ pl) (h : M ≤ k) : takeG pl l k = l ++ [k] := by
  unfold takeG
  rw [if_pos (List.any_eq_true.mpr ⟨M, hm, decide_eq_true h⟩)]
theorem takeG_nil : ∀ (ks : List Int) (l : List Int), ks.foldl (takeG []) l = l
  | [], _ => rfl
  | _ :: ks, l => takeG_nil ks l
theorem grows_tG (pl : List Int) : KPfGrows (takeG pl) := by
  intro l k
  unfold takeG
  split <;> simp
theorem grows_tH (T : Str) (q : Nat) : KPfGrows (takeH T q) := by
  intro l k
  unfold takeH
  split <;> simp
theorem takeS_bd {T : Str} {pl : List Int} {p : Nat} (h : ∀ a ∈ pl, 0 ≤ a ∧ a ≤ (T.length : Int)) : ∀ a ∈ takeS T pl p, 0 ≤ a ∧ a ≤ (T.length : Int) := by
  unfold takeS
  split
  · refine foldl_bd _ _ (fun l k hk hl a ha => ?_) (fun _ h => nomatch h)
    unfold takeG at ha
    split at ha
    · rcases List.mem_append.mp ha with ha | ha
      · exact hl a ha
      · rw [List.mem_singleton.mp ha]
        have := mem_rangeKs hk
        omega
    · exact hl a ha
  · refine foldl_bd _ _ (fun l k hk hl a ha => ?_) (fun _ h => nomatch h)
    unfold takeH at ha
    split at ha
    · rename_i hc
      rcases List.mem_append.mp ha with ha | ha
      · exact hl a ha
      · rw [List.mem_singleton.mp ha]
        have := h k hk
        have := hc.1
        omega
    · exact hl a ha
theorem take_bd (T : Str) : ∀ (rs : List Nat) (pl : List Int), (∀ a ∈ pl, 0 ≤ a ∧ a ≤ (T.length : Int)) → ∀ a ∈ rs.foldl (takeS T) pl, 0 ≤ a ∧ a ≤ (T.length : Int)
  | [], _, h => h
  | _ :: rs, _, h => take_bd T rs _ (takeS_bd h)
theorem takeS_len {T : Str} (hT : T.length ≤ 24) {pl : List Int} {p : Nat} (h : pl.length ≤ 1000) : (takeS T pl p).length ≤ 1000 := by
  unfold takeS
  split
  · have := kpf_len (grows_tG pl) (rangeKs 0 (T.length + 1)) []
    rw [rangeKs_length] at this
    simp only [List.length_nil] at this
    omega
  · have := kpf_len (grows_tH T p) pl []
    simp only [List.length_nil] at this
    omega
theorem take_len (T : Str) (hT : T.length ≤ 24) : ∀ (rs : List Nat) (pl : List Int), pl.length ≤ 1000 → (rs.foldl (takeS T) pl).length ≤ 1000
  | [], _, h => h
  | _ :: rs, _, h => take_len T hT rs _ (takeS_len hT h)
theorem takes_close {h₀ : Heap} {L : Addr} {T0 : Str} {t0 : Tok} {qs : List Nat} {c c2 c3 I : Addr} {i : Nat} {news' : List (Addr × Obj)} {s₁ : Shared} {h' : Heap} {tk : Nat} {m : Str → Option Value} {oc oI aT o' : Obj} {D' : Addr} {ys : List Value} {n : Nat} {v : Option Value} {pl : List Int} {q : Nat}
    (F : Fr h₀ L h' m) (N : News h₀ L h' news') (hI : IntsAre ys (takeS T0 pl q)) (hnext : (qs.take (i + 1)).foldl (takeS T0) [(0 : Int)] = takeS T0 pl q) (d : o'.data = .cell (some (.ref D'))) (eT : aT.data = .cell (some (.str T0 t0))) (ho : oc.data = .cell v)
    (nc : @Ne Nat c D' ∧ @Ne Nat I D' ∧ @Ne Nat c2 D' ∧ @Ne Nat c3 D') (nn : (@Ne Nat c2 c ∧ @Ne Nat c2 I) ∧ (@Ne Nat c3 c ∧ @Ne Nat c3 I))
    (sub : ∀ p ∈ [(c, oc), (I, oI), (D', W.listOf ys.toArray n), (c2, o'), (c3, aT)], p ∈ news') :
    CellEnd h₀ L m c I oI (TakesJ T0 t0 qs c2 c3 (i + 1)) s₁ .next { s₁ with heap := h', toks := tk } := by
  obtain ⟨n1, n2, n3, n4⟩ := nc
  refine ⟨.inl rfl, h', tk, oc, v, [(D', W.listOf ys.toArray n), (c2, o'), (c3, aT)], rfl, F, fun p hp => N p (sub p hp), ho, ?_, o', aT, D', ys, _, rfl, d, eT, by rw [hnext]; exact hI, n3, n4⟩
  intro p hp
  simp only [List.mem_cons, List.not_mem_nil, or_false] at hp
  rcases hp with rfl | rfl | rfl
  · exact ⟨Ne.symm n1, Ne.symm n2⟩
  · exact nn.1
  · exact nn.2
theorem off1_5 {D' c I D c2 c3 : Addr} {oc oI od aP aT : Obj} (h : LCg.Off1 D' [(c, oc), (I, oI), (D, od), (c2, aP), (c3, aT)]) : @Ne Nat c D' ∧ @Ne Nat I D' ∧ @Ne Nat c2 D' ∧ @Ne Nat c3 D' := ⟨h.1, h.2.1, h.2.2.2.1, h.2.2.2.2.1⟩
theorem takeH_no1 {T : Str} {q : Nat} {l : List Int} {k : Int} (h : ¬ k < (T.length : Int)) : takeH T q l k = l := by unfold takeH; rw [if_neg fun e => h e.1]
theorem takeH_no2 {T : Str} {q : Nat} {l : List Int} {k : Int} (h : okC q (Txt.item T k) = false) : takeH T q l k = l := by unfold takeH; rw [if_neg fun e => by rw [h] at e; exact absurd e.2 Bool.false_ne_true]
theorem takeH_yes {T : Str} {q : Nat} {l : List Int} {k : Int} (h1 : k < (T.length : Int)) (h : okC q (Txt.item T k) = true) : takeH T q l k = l ++ [k + 1] := by unfold takeH; rw [if_pos ⟨h1, h⟩]
theorem ok_0 {c : Str} {b : Bool} (h : (partT 0 == c) = b) : okC 0 c = b := h
theorem ok_1 {c : Str} {b : Bool} (h : (partT 1 == c) = b) : okC 1 c = b := h
theorem ok_4 {c : Str} {b : Bool} (h : ((!(Builtin.Str.occurrences (partT 4) c 0 (partT 4).length 1).isEmpty) != false) = b) : okC 4 c = b := by
  rw [Bool.bne_false] at h
  exact h
theorem ok_5 {c : Str} {b : Bool} (h : ((!(Builtin.Str.occurrences (partT 5) c 0 (partT 5).length 1).isEmpty) != true) = b) : okC 5 c = b := by
  rw [Bool.bne_true] at h
  exact h
theorem src5 {h : Heap} {c I D : Addr} {oc oI : Obj} {xs : Array Value} {cc : Nat} {rest : List (Addr × Obj)} : LCg.SrcAt h D xs ((c, oc) :: (I, oI) :: (D, W.listOf xs cc) :: rest) := Or.inr ⟨_, .tail _ (.tail _ (.head _)), rfl, _, rfl⟩
namespace takes_specN
noncomputable def S (w : World) (dp un : Nat) (gd : Option (List Code)) (s : Shared) (p : Program) (loose : List Str) (mean : ExcName → Option Value) (mg mb : Str → Option Value) (base : Heap) (outer : List Env) (Q E : Value → Shared → Prop) (al star : Addr) (vs : List Value) (qs : List Nat) (T0 : Str) (t0 : Tok) : Prop := ∀ (C : Cx w p loose mean mg mb base dp un gd outer s.heap s) (hroom : dp + 30 < recursionLimit) (hun : un + 200 < 9900) (hal : s.heap.IsList al vs.toArray) (hvl : vs.length = qs.length) (hvs : ∀ (i : Nat) v q, vs[i]? = some v → qs[i]? = some q → PartIs star v q) (h6 : ∀ q ∈ qs, q < 6) (hT : T0.length ≤ 24) (k : ∀ h' tk, s.heap.StaysIn h' → Q (.bool (takesP T0 qs)) { s with heap := h', toks := tk }), wpAny (model PG w) (Ar dp un gd outer) (call (.ref 812) [.ref al, .ref star, .str T0 t0]) Q E s
noncomputable def d : World × Nat × Nat × Option (List Code) × Shared × Program × List Str × (ExcName → Option Value) × (Str → Option Value) × (Str → Option Value) × Heap × List Env × (Value → Shared → Prop) × (Value → Shared → Prop) × Addr × Addr × List Value × List Nat × Str × Tok := cex (jW, 0, 0, none, jS, default, [], (fun _ => none), (fun _ => none), (fun _ => none), default, [], (fun _ _ => True), (fun _ _ => True), (0 : Nat), (0 : Nat), [], [], default, 0) fun d => S d.1 d.2.1 d.2.2.1 d.2.2.2.1 d.2.2.2.2.1 d.2.2.2.2.2.1 d.2.2.2.2.2.2.1 d.2.2.2.2.2.2.2.1 d.2.2.2.2.2.2.2.2.1 d.2.2.2.2.2.2.2.2.2.1 d.2.2.2.2.2.2.2.2.2.2.1 d.2.2.2.2.2.2.2.2.2.2.2.1 d.2.2.2.2.2.2.2.2.2.2.2.2.1 d.2.2.2.2.2.2.2.2.2.2.2.2.2.1 d.2.2.2.2.2.2.2.2.2.2.2.2.2.2.1 d.2.2.2.2.2.2.2.2.2.2.2.2.2.2.2.1 d.2.2.2.2.2.2.2.2.2.2.2.2.2.2.2.2.1 d.2.2.2.2.2.2.2.2.2.2.2.2.2.2.2.2.2.1 d.2.2.2.2.2.2.2.2.2.2.2.2.2.2.2.2.2.2.1 d.2.2.2.2.2.2.2.2.2.2.2.2.2.2.2.2.2.2.2
@[irreducible] noncomputable def w : World := d.1
@[irreducible] noncomputable def dp : Nat := d.2.1
@[irreducible] noncomputable def un : Nat := d.2.2.1
@[irreducible] noncomputable def gd : Option (List Code) := d.2.2.2.1
@[irreducible] noncomputable def s : Shared := d.2.2.2.2.1
@[irreducible] noncomputable def L' : Addr := s.heap.objs.size
@[irreducible] noncomputable def p : Program := d.2.2.2.2.2.1
@[irreducible] noncomputable def loose : List Str := d.2.2.2.2.2.2.1
@[irreducible] noncomputable def mean : ExcName → Option Value := d.2.2.2.2.2.2.2.1
@[irreducible] noncomputable def mg : Str → Option Value := d.2.2.2.2.2.2.2.2.1
@[irreducible] noncomputable def mb : Str → Option Value := d.2.2.2.2.2.2.2.2.2.1
@[irreducible] noncomputable def base : Heap := d.2.2.2.2.2.2.2.2.2.2.1
@[irreducible] noncomputable def outer : List Env := d.2.2.2.2.2.2.2.2.2.2.2.1
@[irreducible] noncomputable def Q : Value → Shared → Prop := d.2.2.2.2.2.2.2.2.2.2.2.2.1
@[irreducible] noncomputable def E : Value → Shared → Prop := d.2.2.2.2.2.2.2.2.2.2.2.2.2.1
@[irreducible] noncomputable def al : Addr := d.2.2.2.2.2.2.2.2.2.2.2.2.2.2.1
@[irreducible] noncomputable def star : Addr := d.2.2.2.2.2.2.2.2.2.2.2.2.2.2.2.1
@[irreducible] noncomputable def vs : List Value := d.2.2.2.2.2.2.2.2.2.2.2.2.2.2.2.2.1
@[irreducible] noncomputable def qs : List Nat := d.2.2.2.2.2.2.2.2.2.2.2.2.2.2.2.2.2.1
@[irreducible] noncomputable def T0 : Str := d.2.2.2.2.2.2.2.2.2.2.2.2.2.2.2.2.2.2.1
@[irreducible] noncomputable def t0 : Tok := d.2.2.2.2.2.2.2.2.2.2.2.2.2.2.2.2.2.2.2
theorem core : S w dp un gd s p loose mean mg mb base outer Q E al star vs qs T0 t0 := by
  intro C hroom hun hal hvl hvs h6 hT k
  obtain ⟨X, T, B, G, Gz⟩ := C
  refine wpAny_call ?_
  k_dflt (refine' enterC (news := []) X T (fun _ _ e => e) (Nat.le_refl _) (fun _ h => nomatch h) ?k6 ?k7 ?k8 ?k9 ?kB ?kD ?_ ?c2 ?c3 ?c4; (case k6 => k_is); (case k7 => k_is); (case k8 => (show dp < _; omega)); (case k9 => first | exact BindsTo.of_eq rfl | exact binds_K (by k_in) rfl (by k_is) rfl rfl rfl);(case kB => exact rfl); (case kD => decide +kernel); (case c2 => exact rfl); (case c3 => exact rfl); (case c4 => exact rfl))
  intro L₀ h₁ tk' cells' hL F N Y l1 G1
  obtain rfl : L₀ = L' := hL.trans (by with_unfolding_all rfl)
  k_cells Y
  (try simp only [List.cons_append, List.nil_append] at N)
  (try dsimp only); (try k_fold)
  iterate 60 ((first | (with_reducible show wpAny _ _ (exec (Stmt.For _ _ _ _ _) _) _ _ _) | (k_unfold; (try dsimp only)) | walk1 | (dsimp only; walk1)) <;> (try dsimp only))
  rename_i o1 o2 o3 d1 d2 d3 P0 h2 q1 h4 oP F4 N4 dP
  refine for_cell (l := al) (c := L' + 1 + 1 + 1) (vs := vs) (TakesJ T0 t0 qs (L' + 1 + 1) (L' + 1)) F4 rfl rfl rfl rfl ?_
  walk1
  refine ⟨[(P0, W.listOf #[Value.int 0 tk'] 0), (L' + 1 + 1, oP), (L' + 1, o3)], o1, _, rfl, hal, F4, (fun p hp => N4 p (by simp only [List.mem_cons, List.not_mem_nil, or_false] at hp ⊢; rcases hp with h | h | h | h <;> simp [h])), d1, ?_, ⟨oP, o3, P0, _, _, rfl, dP, d3, .cons _ _ .nil, by omega, by omega⟩, ?_, ?_⟩
  · intro p hp
    simp only [List.mem_cons, List.not_mem_nil, or_false] at hp
    rcases hp with rfl | rfl | rfl
    · exact neN (by omega)
    · exact neN (by omega)
    · exact neN (by omega)
  · rintro i v oc rest h tk I oI hv ⟨aP, aT, D, us, cc, rfl, eP, eT, hus, n2, n3⟩ ho F N hcI hne
    have hi : i < qs.length := by rw [← hvl]; exact (List.getElem?_eq_some_iff.mp hv).1
    have hpart := hvs i v qs[i] hv (List.getElem?_eq_getElem hi)
    have hq6 : qs[i] < 6 := h6 _ (List.getElem_mem hi)
    have hnext : (qs.take (i + 1)).foldl (takeS T0) [(0 : Int)] = takeS T0 ((qs.take i).foldl (takeS T0) [(0 : Int)]) qs[i] := by
      rw [List.take_add_one, List.getElem?_eq_getElem hi, List.foldl_append]; rfl
    have hul : us.length ≤ 1000 := by rw [hus.length]; exact take_len T0 hT _ _ (by simp)
    have hbd := take_bd T0 (qs.take i) [(0 : Int)] (fun a ha => by rw [List.mem_singleton.mp ha]; omega)
    have nn : (@Ne Nat (L' + 1 + 1) (L' + 1 + 1 + 1) ∧ @Ne Nat (L' + 1 + 1) I) ∧ (@Ne Nat (L' + 1) (L' + 1 + 1 + 1) ∧ @Ne Nat (L' + 1) I) := ⟨hne _ (.tail _ (.head _)), hne _ (.tail _ (.tail _ (.head _)))⟩
    have n41 := nn.1.1; have n42 := nn.1.2; have n43 := nn.2.1; have n44 := nn.2.2
    have nD : @Ne Nat D (L' + 1 + 1 + 1) ∧ @Ne Nat D I := hne _ (.head _)
    replace hcI : @Ne Nat (L' + 1 + 1 + 1) I := hcI
    clear hne
    generalize (qs.take i).foldl (takeS T0) [(0 : Int)] = pl at *
    generalize qs[i] = q at *
    rcases hpart with ⟨rfl, rfl⟩ | ⟨hq3, tv, rfl⟩
    · repeat' ((first | ((fail_if_success (with_reducible show LCt.CompSrcT _ _ _ _ _ _ _ _ _ _ _ _ _ _ _)); first | ((with_reducible show wpAny _ _ (subscriptTail (PySem.Expr.Name _ _) (PySem.Expr.Constant _ _ _) (Value.str _ _) (Value.int _ _)) _ _ _); (k_dflt (refine KXi.item rfl (by decide +kernel) (by decide +kernel) (by decide +kernel) ?_); intro kxiE)) | (first | with_reducible refine ite_tt ?_ | with_reducible refine ite_ff ?_) | ((with_reducible show wpAny _ _ (call (Value.builtin "min") _) _ _ _); (k_dflt (refine' min_list_N ?zqhh ?zqF ?zqN ?zqhl ?zqhi ?zqhne ?_; (case zqhh => exact rfl); (case zqF => k_asm); (case zqN => k_asm); (case zqhl => is_list); (case zqhi => assumption); (case zqhne => exact pos_of_ne (of_decide_eq_false (by assumption)))); k_whole; intro h' M' t' tk' F' N' hm' hmx')) | ((with_reducible show wpAny _ _ (eval (PySem.Expr.ListComp _ _ _ _) _) _ _ _); (k_dflt (refine LCt.ListComp_T (F₀ := by k_asm) (by with_unfolding_all rfl) (by decide) (by rfl) (by decide) (by rfl) ?_))) | ((with_reducible show wpAny _ _ (compareOp CmpOp.NotEq (Value.ref _) (Value.ref _)) _ _ _); (k_dflt (refine' ke_ne_ints (ys := []) ?zqha ?zqhb ?zqhi .nil ?zqhu ?_; (case zqha => is_list); (case zqhb => is_list); (case zqhi => assumption); (case zqhu => (rw [cLine9]; show _ + 3 + 64 < 9900; omega)); k_whole))) | ((with_reducible show wpAny _ _ (compareOp CmpOp.Eq (Value.str _ _) (Value.str _ _)) _ _ _); (k_dflt (first | (with_reducible refine' eqS (b := true) ?zqe ?_; (case zqe => decide +kernel)) | (with_reducible refine' eqS (b := false) ?zqe ?_; (case zqe => decide +kernel))))) | ((with_reducible show wpAny _ _ (compareOp CmpOp.Is (Value.str _ _) (Value.ref _)) _ _ _); refine wpAny_is_other (by rfl) (by intro x; cases x) ?_) | (k_unfold; (try dsimp only)) | walk1 | (dsimp only; walk1)) | fail "no step") <;> (try dsimp only))
      · have e0 := of_decide_eq_true ‹decide (pl = []) = true›
        refine takes_close (oc := oc) (oI := oI) (by assumption) (by assumption) (ys := []) (pl := pl) (q := 3) ?_ hnext (by assumption) eT ho ⟨by k_ne, by k_ne, by k_ne, by k_ne⟩ nn (by kcf_all)
        subst e0
        show IntsAre [] (List.foldl (takeG []) [] _)
        rw [takeG_nil]
        exact .nil
      · k_dflt (refine LCt.CompSrcT.range (n := T0.length + 1) (by rfl) (by k_asm) (by k_asm) (by assumption) (small_one (by omega) (by omega) (by omega) (by omega)) (by simp [Builtin.Range.rangeSize]) (by rw [PySem.sizeLine_eq]; omega) ?_)
        intro g'
        refine' kci_range (takeG pl) (fun k' t' I' oI' C' oC' D' m' ys' l' h' tk' E' hlo' hhi' hI' hC' hx' F' N' off' ne' hM' => ?_) ?_ (grows_tG pl)
        · have off0 := off'
          simp only [LCg.Off3] at off'
          repeat' ((first | ((fail_if_success (with_reducible show LCg.CompEnd _ _ _ _ _ _ _ _ _ _ _ _ _ _)); first | ((with_reducible show wpAny _ _ (subscriptTail (PySem.Expr.Name _ _) (PySem.Expr.Constant _ _ _) (Value.str _ _) (Value.int _ _)) _ _ _); (k_dflt (refine KXi.item rfl (by decide +kernel) (by decide +kernel) (by decide +kernel) ?_); intro kxiE)) | (first | with_reducible refine ite_tt ?_ | with_reducible refine ite_ff ?_) | ((with_reducible show wpAny _ _ (call (Value.builtin "min") _) _ _ _); (k_dflt (refine' min_list_N ?zqhh ?zqF ?zqN ?zqhl ?zqhi ?zqhne ?_; (case zqhh => exact rfl); (case zqF => k_asm); (case zqN => k_asm); (case zqhl => is_list); (case zqhi => assumption); (case zqhne => exact pos_of_ne (of_decide_eq_false (by assumption)))); k_whole; intro h' M' t' tk' F' N' hm' hmx')) | ((with_reducible show wpAny _ _ (compareOp CmpOp.Eq (Value.str _ _) (Value.str _ _)) _ _ _); (k_dflt (first | (with_reducible refine' eqS (b := true) ?zqe ?_; (case zqe => decide +kernel)) | (with_reducible refine' eqS (b := false) ?zqe ?_; (case zqe => decide +kernel))))) | ((with_reducible show wpAny _ _ (compareOp CmpOp.Is (Value.str _ _) (Value.ref _)) _ _ _); refine wpAny_is_other (by rfl) (by intro x; cases x) ?_) | (k_unfold; (try dsimp only)) | walk1 | (dsimp only; walk1)) | fail "no step") <;> (try dsimp only))
          · exact LCg.CompEnd.intro (by assumption) (by assumption) _ (by kcf_all) off0 trivial (kci_el (takeG_yes (by assumption) (by assumption)) rfl rfl)
          · exact LCg.CompEnd.intro (by assumption) (by assumption) _ (by kcf_all) off0 trivial (kci_no (takeG_no (by assumption) (by assumption)) rfl)
        · repeat' ((first | ((with_reducible show LCg.FinE _ _ _ _ _ _ _); ((unfold LCg.FinE); intro D' h' tk' F' N' o1'; (have oRaw := o1'); (try simp only [LCg.Off1, and_true] at o1'); (try simp only [List.nil_append, List.cons_append] at N'); (try dsimp only))) | (k_unfold; (try dsimp only)) | walk1 | (dsimp only; walk1) | fail "no step") <;> (try dsimp only))
          have hI9 : IntsAre _ (takeS T0 pl 3) := ‹IntsAre _ (List.foldl (takeG pl) [] (rangeKs 0 (T0.length + 1)))›
          exact takes_close (by assumption) (by assumption) hI9 hnext (by assumption) eT ho (off1_5 (And.right ‹LCg.Off1 _ (_ :: _ :: _ :: _ :: _ :: _ :: [])›)) nn (by kcf_all)
    · have d5 : q = 0 ∨ q = 1 ∨ q = 2 ∨ q = 4 ∨ q = 5 := by omega
      rcases d5 with rfl | rfl | rfl | rfl | rfl
      all_goals repeat' ((first | ((fail_if_success (with_reducible show LCt.CompSrcT _ _ _ _ _ _ _ _ _ _ _ _ _ _ _)); first | ((with_reducible show wpAny _ _ (subscriptTail (PySem.Expr.Name _ _) (PySem.Expr.Constant _ _ _) (Value.str _ _) (Value.int _ _)) _ _ _); (k_dflt (refine KXi.item rfl (by decide +kernel) (by decide +kernel) (by decide +kernel) ?_); intro kxiE)) | (first | with_reducible refine ite_tt ?_ | with_reducible refine ite_ff ?_) | ((with_reducible show wpAny _ _ (call (Value.builtin "min") _) _ _ _); (k_dflt (refine' min_list_N ?zqhh ?zqF ?zqN ?zqhl ?zqhi ?zqhne ?_; (case zqhh => exact rfl); (case zqF => k_asm); (case zqN => k_asm); (case zqhl => is_list); (case zqhi => assumption); (case zqhne => exact pos_of_ne (of_decide_eq_false (by assumption)))); k_whole; intro h' M' t' tk' F' N' hm' hmx')) | ((with_reducible show wpAny _ _ (eval (PySem.Expr.ListComp _ _ _ _) _) _ _ _); (k_dflt (refine LCt.ListComp_T (F₀ := by k_asm) (by with_unfolding_all rfl) (by decide) (by rfl) (by decide) (by rfl) ?_))) | ((with_reducible show wpAny _ _ (compareOp CmpOp.NotEq (Value.ref _) (Value.ref _)) _ _ _); (k_dflt (refine' ke_ne_ints (ys := []) ?zqha ?zqhb ?zqhi .nil ?zqhu ?_; (case zqha => is_list); (case zqhb => is_list); (case zqhi => assumption); (case zqhu => (rw [cLine9]; show _ + 3 + 64 < 9900; omega)); k_whole))) | ((with_reducible show wpAny _ _ (compareOp CmpOp.Eq (Value.str _ _) (Value.str _ _)) _ _ _); (k_dflt (first | (with_reducible refine' eqS (b := true) ?zqe ?_; (case zqe => decide +kernel)) | (with_reducible refine' eqS (b := false) ?zqe ?_; (case zqe => decide +kernel))))) | ((with_reducible show wpAny _ _ (compareOp CmpOp.Is (Value.str _ _) (Value.ref _)) _ _ _); refine wpAny_is_other (by rfl) (by intro x; cases x) ?_) | (k_unfold; (try dsimp only)) | walk1 | (dsimp only; walk1)) | fail "no step") <;> (try dsimp only))
      · k_dflt (refine LCt.CompSrcT.ledger (by rfl) (by k_asm) (by k_asm) (by k_mem) (by simp only [List.size_toArray]; rw [PySem.sizeLine_eq]; exact Nat.le_trans hul (by decide)) ?_)
        intro g'
        refine' kci_list (takeH T0 0) hus (fun k' t' I' oI' C' oC' D' m' ys' l' h' tk' E' hk' hI' hC' hx' F' N' off' ne' hM' => ?_) ?_ (grows_tH T0 0)
        · have off0 := off'
          simp only [LCg.Off3] at off'
          have hb9 := hbd k' hk'
          repeat' ((first | ((fail_if_success (with_reducible show LCg.CompEnd _ _ _ _ _ _ _ _ _ _ _ _ _ _)); first | ((with_reducible show wpAny _ _ (subscriptTail (PySem.Expr.Name _ _) (PySem.Expr.Constant _ _ _) (Value.str _ _) (Value.int _ _)) _ _ _); (k_dflt (refine KXi.item rfl (by decide +kernel) (by decide +kernel) (by decide +kernel) ?_); intro kxiE)) | (first | with_reducible refine ite_tt ?_ | with_reducible refine ite_ff ?_) | ((with_reducible show wpAny _ _ (call (Value.builtin "min") _) _ _ _); (k_dflt (refine' min_list_N ?zqhh ?zqF ?zqN ?zqhl ?zqhi ?zqhne ?_; (case zqhh => exact rfl); (case zqF => k_asm); (case zqN => k_asm); (case zqhl => is_list); (case zqhi => assumption); (case zqhne => exact pos_of_ne (of_decide_eq_false (by assumption)))); k_whole; intro h' M' t' tk' F' N' hm' hmx')) | ((with_reducible show wpAny _ _ (compareOp CmpOp.Eq (Value.str _ _) (Value.str _ _)) _ _ _); (k_dflt (first | (with_reducible refine' eqS (b := true) ?zqe ?_; (case zqe => decide +kernel)) | (with_reducible refine' eqS (b := false) ?zqe ?_; (case zqe => decide +kernel))))) | ((with_reducible show wpAny _ _ (compareOp CmpOp.Is (Value.str _ _) (Value.ref _)) _ _ _); refine wpAny_is_other (by rfl) (by intro x; cases x) ?_) | (k_unfold; (try dsimp only)) | walk1 | (dsimp only; walk1)) | fail "no step") <;> (try dsimp only))
          all_goals first
            | exact LCg.CompEnd.intro (by assumption) (by assumption) _ (fun p hp => hp) off0 src5 (kci_no (takeH_no1 (by assumption)) rfl)
            | exact LCg.CompEnd.intro (by assumption) (by assumption) _ (fun p hp => .tail _ hp) off0 src5 (kci_no (takeH_no1 (by assumption)) rfl)
            | exact LCg.CompEnd.intro (by assumption) (by assumption) _ (fun p hp => hp) off0 src5 (kci_no (takeH_no2 (ok_0 (by assumption))) rfl)
            | exact LCg.CompEnd.intro (by assumption) (by assumption) _ (fun p hp => .tail _ hp) off0 src5 (kci_no (takeH_no2 (ok_0 (by assumption))) rfl)
            | exact LCg.CompEnd.intro (by assumption) (by assumption) _ (fun p hp => hp) off0 src5 (kci_el (takeH_yes (by assumption) (ok_0 (by assumption))) rfl rfl)
            | exact LCg.CompEnd.intro (by assumption) (by assumption) _ (fun p hp => .tail _ hp) off0 src5 (kci_el (takeH_yes (by assumption) (ok_0 (by assumption))) rfl rfl)
        · repeat' ((first | ((with_reducible show LCg.FinE _ _ _ _ _ _ _); ((unfold LCg.FinE); intro D' h' tk' F' N' o1'; (have oRaw := o1'); (try simp only [LCg.Off1, and_true] at o1'); (try simp only [List.nil_append, List.cons_append] at N'); (try dsimp only))) | (k_unfold; (try dsimp only)) | walk1 | (dsimp only; walk1) | fail "no step") <;> (try dsimp only))
          have hI9 : IntsAre _ (takeS T0 pl 0) := ‹IntsAre _ (List.foldl (takeH T0 0) [] pl)›
          exact takes_close (by assumption) (by assumption) hI9 hnext (by assumption) eT ho (off1_5 ‹LCg.Off1 _ (_ :: _ :: _ :: _ :: _ :: [])›) nn (by kcf_all)
      · k_dflt (refine LCt.CompSrcT.ledger (by rfl) (by k_asm) (by k_asm) (by k_mem) (by simp only [List.size_toArray]; rw [PySem.sizeLine_eq]; exact Nat.le_trans hul (by decide)) ?_)
        intro g'
        refine' kci_list (takeH T0 1) hus (fun k' t' I' oI' C' oC' D' m' ys' l' h' tk' E' hk' hI' hC' hx' F' N' off' ne' hM' => ?_) ?_ (grows_tH T0 1)
        · have off0 := off'
          simp only [LCg.Off3] at off'
          have hb9 := hbd k' hk'
          repeat' ((first | ((fail_if_success (with_reducible show LCg.CompEnd _ _ _ _ _ _ _ _ _ _ _ _ _ _)); first | ((with_reducible show wpAny _ _ (subscriptTail (PySem.Expr.Name _ _) (PySem.Expr.Constant _ _ _) (Value.str _ _) (Value.int _ _)) _ _ _); (k_dflt (refine KXi.item rfl (by decide +kernel) (by decide +kernel) (by decide +kernel) ?_); intro kxiE)) | (first | with_reducible refine ite_tt ?_ | with_reducible refine ite_ff ?_) | ((with_reducible show wpAny _ _ (call (Value.builtin "min") _) _ _ _); (k_dflt (refine' min_list_N ?zqhh ?zqF ?zqN ?zqhl ?zqhi ?zqhne ?_; (case zqhh => exact rfl); (case zqF => k_asm); (case zqN => k_asm); (case zqhl => is_list); (case zqhi => assumption); (case zqhne => exact pos_of_ne (of_decide_eq_false (by assumption)))); k_whole; intro h' M' t' tk' F' N' hm' hmx')) | ((with_reducible show wpAny _ _ (compareOp CmpOp.Eq (Value.str _ _) (Value.str _ _)) _ _ _); (k_dflt (first | (with_reducible refine' eqS (b := true) ?zqe ?_; (case zqe => decide +kernel)) | (with_reducible refine' eqS (b := false) ?zqe ?_; (case zqe => decide +kernel))))) | ((with_reducible show wpAny _ _ (compareOp CmpOp.Is (Value.str _ _) (Value.ref _)) _ _ _); refine wpAny_is_other (by rfl) (by intro x; cases x) ?_) | (k_unfold; (try dsimp only)) | walk1 | (dsimp only; walk1)) | fail "no step") <;> (try dsimp only))
          all_goals first
            | exact LCg.CompEnd.intro (by assumption) (by assumption) _ (fun p hp => hp) off0 src5 (kci_no (takeH_no1 (by assumption)) rfl)
            | exact LCg.CompEnd.intro (by assumption) (by assumption) _ (fun p hp => .tail _ hp) off0 src5 (kci_no (takeH_no1 (by assumption)) rfl)
            | exact LCg.CompEnd.intro (by assumption) (by assumption) _ (fun p hp => hp) off0 src5 (kci_no (takeH_no2 (ok_1 (by assumption))) rfl)
            | exact LCg.CompEnd.intro (by assumption) (by assumption) _ (fun p hp => .tail _ hp) off0 src5 (kci_no (takeH_no2 (ok_1 (by assumption))) rfl)
            | exact LCg.CompEnd.intro (by assumption) (by assumption) _ (fun p hp => hp) off0 src5 (kci_el (takeH_yes (by assumption) (ok_1 (by assumption))) rfl rfl)
            | exact LCg.CompEnd.intro (by assumption) (by assumption) _ (fun p hp => .tail _ hp) off0 src5 (kci_el (takeH_yes (by assumption) (ok_1 (by assumption))) rfl rfl)
        · repeat' ((first | ((with_reducible show LCg.FinE _ _ _ _ _ _ _); ((unfold LCg.FinE); intro D' h' tk' F' N' o1'; (have oRaw := o1'); (try simp only [LCg.Off1, and_true] at o1'); (try simp only [List.nil_append, List.cons_append] at N'); (try dsimp only))) | (k_unfold; (try dsimp only)) | walk1 | (dsimp only; walk1) | fail "no step") <;> (try dsimp only))
          have hI9 : IntsAre _ (takeS T0 pl 1) := ‹IntsAre _ (List.foldl (takeH T0 1) [] pl)›
          exact takes_close (by assumption) (by assumption) hI9 hnext (by assumption) eT ho (off1_5 ‹LCg.Off1 _ (_ :: _ :: _ :: _ :: _ :: [])›) nn (by kcf_all)
      · k_dflt (refine LCt.CompSrcT.ledger (by rfl) (by k_asm) (by k_asm) (by k_mem) (by simp only [List.size_toArray]; rw [PySem.sizeLine_eq]; exact Nat.le_trans hul (by decide)) ?_)
        intro g'
        refine' kci_list (takeH T0 2) hus (fun k' t' I' oI' C' oC' D' m' ys' l' h' tk' E' hk' hI' hC' hx' F' N' off' ne' hM' => ?_) ?_ (grows_tH T0 2)
        · have off0 := off'
          simp only [LCg.Off3] at off'
          have hb9 := hbd k' hk'
          repeat' ((first | ((fail_if_success (with_reducible show LCg.CompEnd _ _ _ _ _ _ _ _ _ _ _ _ _ _)); first | ((with_reducible show wpAny _ _ (subscriptTail (PySem.Expr.Name _ _) (PySem.Expr.Constant _ _ _) (Value.str _ _) (Value.int _ _)) _ _ _); (k_dflt (refine KXi.item rfl (by decide +kernel) (by decide +kernel) (by decide +kernel) ?_); intro kxiE)) | (first | with_reducible refine ite_tt ?_ | with_reducible refine ite_ff ?_) | ((with_reducible show wpAny _ _ (call (Value.builtin "min") _) _ _ _); (k_dflt (refine' min_list_N ?zqhh ?zqF ?zqN ?zqhl ?zqhi ?zqhne ?_; (case zqhh => exact rfl); (case zqF => k_asm); (case zqN => k_asm); (case zqhl => is_list); (case zqhi => assumption); (case zqhne => exact pos_of_ne (of_decide_eq_false (by assumption)))); k_whole; intro h' M' t' tk' F' N' hm' hmx')) | ((with_reducible show wpAny _ _ (compareOp CmpOp.Eq (Value.str _ _) (Value.str _ _)) _ _ _); (k_dflt (first | (with_reducible refine' eqS (b := true) ?zqe ?_; (case zqe => decide +kernel)) | (with_reducible refine' eqS (b := false) ?zqe ?_; (case zqe => decide +kernel))))) | ((with_reducible show wpAny _ _ (compareOp CmpOp.Is (Value.str _ _) (Value.ref _)) _ _ _); refine wpAny_is_other (by rfl) (by intro x; cases x) ?_) | (k_unfold; (try dsimp only)) | walk1 | (dsimp only; walk1)) | fail "no step") <;> (try dsimp only))
          all_goals first
            | exact LCg.CompEnd.intro (by assumption) (by assumption) _ (fun p hp => hp) off0 src5 (kci_no (takeH_no1 (by assumption)) rfl)
            | exact LCg.CompEnd.intro (by assumption) (by assumption) _ (fun p hp => .tail _ hp) off0 src5 (kci_no (takeH_no1 (by assumption)) rfl)
            | exact LCg.CompEnd.intro (by assumption) (by assumption) _ (fun p hp => hp) off0 src5 (kci_el (takeH_yes (by assumption) rfl) rfl rfl)
            | exact LCg.CompEnd.intro (by assumption) (by assumption) _ (fun p hp => .tail _ hp) off0 src5 (kci_el (takeH_yes (by assumption) rfl) rfl rfl)
        · repeat' ((first | ((with_reducible show LCg.FinE _ _ _ _ _ _ _); ((unfold LCg.FinE); intro D' h' tk' F' N' o1'; (have oRaw := o1'); (try simp only [LCg.Off1, and_true] at o1'); (try simp only [List.nil_append, List.cons_append] at N'); (try dsimp only))) | (k_unfold; (try dsimp only)) | walk1 | (dsimp only; walk1) | fail "no step") <;> (try dsimp only))
          have hI9 : IntsAre _ (takeS T0 pl 2) := ‹IntsAre _ (List.foldl (takeH T0 2) [] pl)›
          exact takes_close (by assumption) (by assumption) hI9 hnext (by assumption) eT ho (off1_5 ‹LCg.Off1 _ (_ :: _ :: _ :: _ :: _ :: [])›) nn (by kcf_all)
      · k_dflt (refine LCt.CompSrcT.ledger (by rfl) (by k_asm) (by k_asm) (by k_mem) (by simp only [List.size_toArray]; rw [PySem.sizeLine_eq]; exact Nat.le_trans hul (by decide)) ?_)
        intro g'
        refine' kci_list (takeH T0 4) hus (fun k' t' I' oI' C' oC' D' m' ys' l' h' tk' E' hk' hI' hC' hx' F' N' off' ne' hM' => ?_) ?_ (grows_tH T0 4)
        · have off0 := off'
          simp only [LCg.Off3] at off'
          have hb9 := hbd k' hk'
          repeat' ((first | ((fail_if_success (with_reducible show LCg.CompEnd _ _ _ _ _ _ _ _ _ _ _ _ _ _)); first | ((with_reducible show wpAny _ _ (subscriptTail (PySem.Expr.Name _ _) (PySem.Expr.Constant _ _ _) (Value.str _ _) (Value.int _ _)) _ _ _); (k_dflt (refine KXi.item rfl (by decide +kernel) (by decide +kernel) (by decide +kernel) ?_); intro kxiE)) | (first | with_reducible refine ite_tt ?_ | with_reducible refine ite_ff ?_) | ((with_reducible show wpAny _ _ (call (Value.builtin "min") _) _ _ _); (k_dflt (refine' min_list_N ?zqhh ?zqF ?zqN ?zqhl ?zqhi ?zqhne ?_; (case zqhh => exact rfl); (case zqF => k_asm); (case zqN => k_asm); (case zqhl => is_list); (case zqhi => assumption); (case zqhne => exact pos_of_ne (of_decide_eq_false (by assumption)))); k_whole; intro h' M' t' tk' F' N' hm' hmx')) | ((with_reducible show wpAny _ _ (compareOp CmpOp.Eq (Value.str _ _) (Value.str _ _)) _ _ _); (k_dflt (first | (with_reducible refine' eqS (b := true) ?zqe ?_; (case zqe => decide +kernel)) | (with_reducible refine' eqS (b := false) ?zqe ?_; (case zqe => decide +kernel))))) | ((with_reducible show wpAny _ _ (compareOp CmpOp.Is (Value.str _ _) (Value.ref _)) _ _ _); refine wpAny_is_other (by rfl) (by intro x; cases x) ?_) | (k_unfold; (try dsimp only)) | walk1 | (dsimp only; walk1)) | fail "no step") <;> (try dsimp only))
          all_goals first
            | exact LCg.CompEnd.intro (by assumption) (by assumption) _ (fun p hp => hp) off0 src5 (kci_no (takeH_no1 (by assumption)) rfl)
            | exact LCg.CompEnd.intro (by assumption) (by assumption) _ (fun p hp => .tail _ hp) off0 src5 (kci_no (takeH_no1 (by assumption)) rfl)
            | exact LCg.CompEnd.intro (by assumption) (by assumption) _ (fun p hp => hp) off0 src5 (kci_no (takeH_no2 (ok_4 (by assumption))) rfl)
            | exact LCg.CompEnd.intro (by assumption) (by assumption) _ (fun p hp => .tail _ hp) off0 src5 (kci_no (takeH_no2 (ok_4 (by assumption))) rfl)
            | exact LCg.CompEnd.intro (by assumption) (by assumption) _ (fun p hp => hp) off0 src5 (kci_el (takeH_yes (by assumption) (ok_4 (by assumption))) rfl rfl)
            | exact LCg.CompEnd.intro (by assumption) (by assumption) _ (fun p hp => .tail _ hp) off0 src5 (kci_el (takeH_yes (by assumption) (ok_4 (by assumption))) rfl rfl)
        · repeat' ((first | ((with_reducible show LCg.FinE _ _ _ _ _ _ _); ((unfold LCg.FinE); intro D' h' tk' F' N' o1'; (have oRaw := o1'); (try simp only [LCg.Off1, and_true] at o1'); (try simp only [List.nil_append, List.cons_append] at N'); (try dsimp only))) | (k_unfold; (try dsimp only)) | walk1 | (dsimp only; walk1) | fail "no step") <;> (try dsimp only))
          have hI9 : IntsAre _ (takeS T0 pl 4) := ‹IntsAre _ (List.foldl (takeH T0 4) [] pl)›
          exact takes_close (by assumption) (by assumption) hI9 hnext (by assumption) eT ho (off1_5 ‹LCg.Off1 _ (_ :: _ :: _ :: _ :: _ :: [])›) nn (by kcf_all)
      · k_dflt (refine LCt.CompSrcT.ledger (by rfl) (by k_asm) (by k_asm) (by k_mem) (by simp only [List.size_toArray]; rw [PySem.sizeLine_eq]; exact Nat.le_trans hul (by decide)) ?_)
        intro g'
        refine' kci_list (takeH T0 5) hus (fun k' t' I' oI' C' oC' D' m' ys' l' h' tk' E' hk' hI' hC' hx' F' N' off' ne' hM' => ?_) ?_ (grows_tH T0 5)
        · have off0 := off'
          simp only [LCg.Off3] at off'
          have hb9 := hbd k' hk'
          repeat' ((first | ((fail_if_success (with_reducible show LCg.CompEnd _ _ _ _ _ _ _ _ _ _ _ _ _ _)); first | ((with_reducible show wpAny _ _ (subscriptTail (PySem.Expr.Name _ _) (PySem.Expr.Constant _ _ _) (Value.str _ _) (Value.int _ _)) _ _ _); (k_dflt (refine KXi.item rfl (by decide +kernel) (by decide +kernel) (by decide +kernel) ?_); intro kxiE)) | (first | with_reducible refine ite_tt ?_ | with_reducible refine ite_ff ?_) | ((with_reducible show wpAny _ _ (call (Value.builtin "min") _) _ _ _); (k_dflt (refine' min_list_N ?zqhh ?zqF ?zqN ?zqhl ?zqhi ?zqhne ?_; (case zqhh => exact rfl); (case zqF => k_asm); (case zqN => k_asm); (case zqhl => is_list); (case zqhi => assumption); (case zqhne => exact pos_of_ne (of_decide_eq_false (by assumption)))); k_whole; intro h' M' t' tk' F' N' hm' hmx')) | ((with_reducible show wpAny _ _ (compareOp CmpOp.Eq (Value.str _ _) (Value.str _ _)) _ _ _); (k_dflt (first | (with_reducible refine' eqS (b := true) ?zqe ?_; (case zqe => decide +kernel)) | (with_reducible refine' eqS (b := false) ?zqe ?_; (case zqe => decide +kernel))))) | ((with_reducible show wpAny _ _ (compareOp CmpOp.Is (Value.str _ _) (Value.ref _)) _ _ _); refine wpAny_is_other (by rfl) (by intro x; cases x) ?_) | (k_unfold; (try dsimp only)) | walk1 | (dsimp only; walk1)) | fail "no step") <;> (try dsimp only))
          all_goals first
            | exact LCg.CompEnd.intro (by assumption) (by assumption) _ (fun p hp => hp) off0 src5 (kci_no (takeH_no1 (by assumption)) rfl)
            | exact LCg.CompEnd.intro (by assumption) (by assumption) _ (fun p hp => .tail _ hp) off0 src5 (kci_no (takeH_no1 (by assumption)) rfl)
            | exact LCg.CompEnd.intro (by assumption) (by assumption) _ (fun p hp => hp) off0 src5 (kci_no (takeH_no2 (ok_5 (by assumption))) rfl)
            | exact LCg.CompEnd.intro (by assumption) (by assumption) _ (fun p hp => .tail _ hp) off0 src5 (kci_no (takeH_no2 (ok_5 (by assumption))) rfl)
            | exact LCg.CompEnd.intro (by assumption) (by assumption) _ (fun p hp => hp) off0 src5 (kci_el (takeH_yes (by assumption) (ok_5 (by assumption))) rfl rfl)
            | exact LCg.CompEnd.intro (by assumption) (by assumption) _ (fun p hp => .tail _ hp) off0 src5 (kci_el (takeH_yes (by assumption) (ok_5 (by assumption))) rfl rfl)
        · repeat' ((first | ((with_reducible show LCg.FinE _ _ _ _ _ _ _); ((unfold LCg.FinE); intro D' h' tk' F' N' o1'; (have oRaw := o1'); (try simp only [LCg.Off1, and_true] at o1'); (try simp only [List.nil_append, List.cons_append] at N'); (try dsimp only))) | (k_unfold; (try dsimp only)) | walk1 | (dsimp only; walk1) | fail "no step") <;> (try dsimp only))
          have hI9 : IntsAre _ (takeS T0 pl 5) := ‹IntsAre _ (List.foldl (takeH T0 5) [] pl)›
          exact takes_close (by assumption) (by assumption) hI9 hnext (by assumption) eT ho (off1_5 ‹LCg.Off1 _ (_ :: _ :: _ :: _ :: _ :: [])›) nn (by kcf_all)
  · rintro oc v rest h tk ⟨aP, aT, D, us, cc, rfl, eP, eT, hus, n2, n3⟩ ho F N
    repeat' ((first | (k_unfold; (try dsimp only)) | (k_end; wrow_close) | walk1 | (dsimp only; walk1) | (leave1; walk_say "STEP leave1"; try dsimp only) | fail "no step") <;> (try dsimp only))
    have e9 : List.take vs.length qs = qs := by rw [hvl, List.take_length]
    rw [e9]
    exact k _ _ (Fr.keep (by assumption))
end takes_specN
theorem takes_spec {w : World} {dp un : Nat} {gd : Option (List Code)} {s : Shared} {p : Program} {loose : List Str} {mean : ExcName → Option Value} {mg mb : Str → Option Value} {base : Heap} {outer : List Env} {Q E : Value → Shared → Prop}
    (C : Cx w p loose mean mg mb base dp un gd outer s.heap s) (hroom : dp + 30 < recursionLimit) (hun : un + 200 < 9900) {al star : Addr} {vs : List Value} {qs : List Nat} (hal : s.heap.IsList al vs.toArray) (hvl : vs.length = qs.length) (hvs : ∀ (i : Nat) v q, vs[i]? = some v → qs[i]? = some q → PartIs star v q)
    (h6 : ∀ q ∈ qs, q < 6) (T0 : Str) (t0 : Tok) (hT : T0.length ≤ 24)
    (k : ∀ h' tk, s.heap.StaysIn h' → Q (.bool (takesP T0 qs)) { s with heap := h', toks := tk }) :
    wpAny (model PG w) (Ar dp un gd outer) (call (.ref 812) [.ref al, .ref star, .str T0 t0]) Q E s := all_of _ (fun d => takes_specN.S d.1 d.2.1 d.2.2.1 d.2.2.2.1 d.2.2.2.2.1 d.2.2.2.2.2.1 d.2.2.2.2.2.2.1 d.2.2.2.2.2.2.2.1 d.2.2.2.2.2.2.2.2.1 d.2.2.2.2.2.2.2.2.2.1 d.2.2.2.2.2.2.2.2.2.2.1 d.2.2.2.2.2.2.2.2.2.2.2.1 d.2.2.2.2.2.2.2.2.2.2.2.2.1 d.2.2.2.2.2.2.2.2.2.2.2.2.2.1 d.2.2.2.2.2.2.2.2.2.2.2.2.2.2.1 d.2.2.2.2.2.2.2.2.2.2.2.2.2.2.2.1 d.2.2.2.2.2.2.2.2.2.2.2.2.2.2.2.2.1 d.2.2.2.2.2.2.2.2.2.2.2.2.2.2.2.2.2.1 d.2.2.2.2.2.2.2.2.2.2.2.2.2.2.2.2.2.2.1 d.2.2.2.2.2.2.2.2.2.2.2.2.2.2.2.2.2.2.2) (by with_unfolding_all exact takes_specN.core) (w, dp, un, gd, s, p, loose, mean, mg, mb, base, outer, Q, E, al, star, vs, qs, T0, t0) C hroom hun hal hvl hvs h6 hT k
end Mine
end
section

namespace Mine
theorem fillH2 : PySem.Challenge.rw_in0080_01 = PySem.Challenge.rw_in0080_01 ∧ hd.heap_39 = hd.heap_39 := by k_fill; exact ⟨rfl, rfl⟩
theorem oct_ofB {ns : List Int} {k : Int} (h : ∀ n ∈ ns, Oct n) (hk : k ∈ ns) : Oct k := h k hk
theorem bsz {b : Array UInt8} {ns : List Int} (hb : KBw.bInts b = ns) (hl : ns.length ≤ 12) : b.size ≤ sizeLine := by rw [← KBw.ints_length, hb, PySem.sizeLine_eq]; omega
theorem hexI_lenB (n : Int) : (hexI n).length ≤ 2 := by
  unfold hexI
  split
  · decide +kernel
  · split
    · decide +kernel
    · split <;> decide +kernel
theorem hexB_spec {w : World} {dp un : Nat} {gd : Option (List Code)} {s : Shared} {p : Program} {loose : List Str} {mean : ExcName → Option Value} {mg mb : Str → Option Value} {base : Heap} {outer : List Env} {Q E : Value → Shared → Prop}
    (C : Cx w p loose mean mg mb base dp un gd outer s.heap s) (hroom : dp + 30 < recursionLimit) {b : Array UInt8} {tb : Tok} {ns : List Int} (hb : KBw.bInts b = ns) (hlen : ns.length ≤ 12) (ho : ∀ n ∈ ns, Oct n)
    (k : ∀ h' tk t, s.heap.StaysIn h' → Q (.str (hexT ns) t) { s with heap := h', toks := tk }) :
    wpAny (model PG w) (Ar dp un gd outer) (call (.ref 807) [.bytes b tb]) Q E s := by
  obtain ⟨X, T, B, G, Gz⟩ := C
  refine wpAny_call ?_
  k_dflt (refine' enter (news := []) X T (fun _ _ e => e) (Nat.le_refl _) (fun _ h => nomatch h) ?k6 ?k7 ?k8 ?k9 ?kB ?_ ?c2 ?c3 ?c4 ?c5; (case k6 => k_is); (case k7 => k_is); (case k8 => (show dp < _; omega)); (case k9 => first | exact BindsTo.of_eq rfl | exact binds_K (by k_in) rfl (by k_is) rfl rfl rfl);(case c5 => decide); (case kB => exact locs rfl); (case c2 => exact rfl); (case c3 => exact rfl); (case c4 => exact rfl))
  intro L' h₁ _ F N l1 G1
  (try dsimp only); (try k_fold)
  repeat' ((first | ((with_reducible show wpAny _ _ (call (Value.builtin "str.join") _) _ _ _); (k_dflt (refine KT.join_B 2 ?hl (by assumption) (fun a _ => hexI_lenB a) (by omega) (by decide +kernel) ?_; (case hl => is_list); intro _ _))) | ((with_reducible show KCtEl _ _ _ _); exact kct_el (by decide +kernel) rfl rfl) | ((k_dflt (refine' SrcB.mk' hexI (by assumption) (by rfl) (by k_asm) (by k_asm) (bsz (by assumption) (by assumption)) (fun k' t' I' oI' C' oC' D' m' ys' h' tk' E' hk' hC' hx' F' N' off' ne' hM' => ?_) ?_; (first | (have ho9 := oct_ofB (by assumption) hk'; (try (simp only [LCg.Off3, and_true] at off')); rcases ho9 with ho9 | ho9 | ho9 | ho9 <;> subst ho9) | (intro g' ys' hc'))))) | ((with_reducible show wpAny _ _ (eval (PySem.Expr.ListComp _ _ _ _) _) _ _ _); (k_dflt (refine listComp_B (by k_asm) (by with_unfolding_all rfl) (by decide) (by rfl) (by decide) (by rfl) ?_))) | (k_unfold; (try dsimp only)) | (k_end; wrow_close) | walk1 | (dsimp only; walk1) | (leave1; walk_say "STEP leave1"; try dsimp only) | fail "no step") <;> (try dsimp only))
  all_goals first | done | exact k _ _ _ (by first | exact F'.keep | exact Fr.keep (by assumption))
end Mine
end
section

namespace Mine
theorem ba_newCall (a : Value) : checkBuiltinCall "bytearray.__new__" ⟨[.type "bytearray", a], []⟩ = pure () := by kernel_rfl
theorem ba_entry_new : entryFor table "bytearray.__new__" = some Builtin.«list.__new__» := entryFor_alias (id' := "list.__new__") (by kernel_rfl) rfl (by decide +kernel) (by kernel_rfl)
theorem ba_plain_new : plainId "bytearray.__new__" = true := by decide +kernel
theorem ba_owner : ("bytearray.__new__".splitOn ".__new__").headD "" = "bytearray" := by simp +decide [String.splitOn, String.splitOnAux]
theorem ba_sub : isSubtype (.type "bytearray") (.type "bytearray") = pure true := by rw [isSubtype_type]; kernel_rfl
theorem code_ba_new {prog : Program} {w : World} {A : Around} {E : Value → Shared → Prop} {s : Shared} (a : Value) {Q₁ : Value → Shared → Prop}
    (h : Q₁ (.ref s.heap.objs.size) { s with heap := s.heap.push { cls := .type "bytearray", data := .bytearray #[] } }) :
    codeAny (model prog w) A (.call (.builtin "bytearray.__new__") ⟨[.type "bytearray", a], []⟩) (wants Q₁ E) s := by
  refine codeAny_of_tree ?_
  show wpAny _ A.in1 (do checkBuiltinCall "bytearray.__new__" ⟨[.type "bytearray", a], []⟩; again (.builtin "bytearray.__new__" ⟨[.type "bytearray", a], []⟩)) _ _ s
  refine wpAny_bind (wpAny_of_eq (ba_newCall a) (wpAny_pure ⟨plainId_quiet ba_plain_new _, codeAny_builtin_stack ba_entry_new rfl fun p st => ?_⟩))
  rw [Around.under_plainId ba_plain_new _]
  have hsub := ba_sub
  have hown := ba_owner
  obtain ⟨hp, g, d, tk, os⟩ := s
  simp only [hown]
  repeat lk
  first | exact h | (have sub := (fun hh => (Looks.of_pure ba_sub : Looks (model prog w) hh (isSubtype (.type "bytearray") (.type "bytearray")) true)); repeat (first | (with_reducible refine (sub _).at ?_) | lk); trace_state; exact h)
end Mine
end
section

namespace Mine
theorem wpC_exported {M : Model} {A : Around} {E : Value → Shared → Prop} {s : Shared} {self : Value} {Q : Bool → Shared → Prop} (h : Q false s) : wpC M A (Builtin.Bytes.exported self) Q E s := fun Γ p _ hc => by
  have key : ∀ x ∈ (Γ.code, p) :: Γ.below, cleanCode x.1 = true := fun x hx => by
    rcases List.mem_cons.mp hx with rfl | hx
    · exact hc.1
    · exact hc.2 x hx
  unfold Builtin.Bytes.exported
  show Q (((Γ.code, p) :: Γ.below).any _) s
  rw [List.any_eq_false.mpr]
  · exact h
  · intro x hx
    have hx := key x hx
    obtain ⟨c, q⟩ := x
    delta Builtin.Bytes.exported.match_1
    cases c with
    | builtin id args =>
      obtain ⟨pos, kw⟩ := args
      have hx : (!Builtin.Bytes.decodersThatHold.contains id && !["bytearray.__contains__", "bytearray.__mod__", "bytearray.__rmod__", "_struct.pack_into.held", "bytearray.find.held"].contains id) = true := hx
      obtain ⟨h1, h2⟩ := Bool.and_eq_true_iff.mp hx
      have ne : ∀ x ∈ ["bytearray.__contains__", "bytearray.__mod__", "bytearray.__rmod__", "_struct.pack_into.held", "bytearray.find.held"], id ≠ x := fun x hm e => by
        rw [e, List.contains_iff_mem.mpr hm] at h2; cases h2
      have h1 : Builtin.Bytes.decodersThatHold.contains id = false := by simpa using h1
      dsimp only
      delta Builtin.Bytes.exported._sparseCasesOn_1
      dsimp only
      rw [dif_neg (ne _ (.head _)), dif_neg (ne _ (.tail _ (.head _))), dif_neg (ne _ (.tail _ (.tail _ (.head _)))), dif_neg (ne _ (.tail _ (.tail _ (.tail _ (.head _))))), dif_neg (ne _ (.tail _ (.tail _ (.tail _ (.tail _ (.head _))))))]
      cases pos with
      | nil => exact Bool.false_ne_true
      | cons v r =>
        show ¬ (Builtin.Bytes.sameRef v self && Builtin.Bytes.decodersThatHold.contains id) = true
        rw [h1, Bool.and_false]
        exact Bool.false_ne_true
    | _ => exact Bool.false_ne_true
end Mine
end
section

namespace Mine
theorem wpC_seq {α β : Type} {M : Model} {A : Around} {E : Value → Shared → Prop} {s : Shared} {m : Sem α} {f : α → Sem β} {Q : β → Shared → Prop} (h : wpAny M A m (fun a s' => wpC M A (f a) Q E s') E s) : wpC M A (m >>= f) Q E s := wpC_bind (wpC_of h)
theorem clean_builtin {id : String} {args : Args} (h : (!Builtin.Bytes.decodersThatHold.contains id && !["bytearray.__contains__", "bytearray.__mod__", "bytearray.__rmod__", "_struct.pack_into.held", "bytearray.find.held"].contains id) = true) : cleanCode (.builtin id args) = true := h
theorem codeC_builtin {prog : Program} {w : World} {A : Around} {s : Shared} {R : Result → Shared → Prop} {id : String} {args : Args} {b : Builtin} (hb : entryFor table id = some b)
    (h : wpC (model prog w) (A.under (.builtin id args)) (b args) (fun fin s' => match fin with | .done f => R (.ok f) s' | .again c' => c'.quiet = true ∧ cleanCode c' = true ∧ codeC (model prog w) A c' R s') (fun e s' => R (.error e) s') s) :
    codeC (model prog w) A (.builtin id args) R s := by
  refine codeC_of_tree ?_
  have hden : (model prog w).den (.builtin id args) = b args := by
    show (match entryFor table id with | some b => b args | none => unsupported ((withoutEnding? id "#data").getD id)) = _
    rw [hb]
  rw [hden]
  exact h
theorem codeC_call_builtin_code {prog : Program} {w : World} {A : Around} {s : Shared} {R : Result → Shared → Prop} {id : String} {args : Args} (hq : (Code.builtin id args).quiet = true) (hk : cleanCode (.builtin id args) = true)
    (h : wpAny (model prog w) A.in1 (checkBuiltinCall id args) (fun _ s₁ => codeC (model prog w) A (.builtin id args) R s₁) (fun e s' => R (.error e) s') s) : codeC (model prog w) A (.call (.builtin id) args) R s := by
  refine codeC_of_tree (wpC_of ?_)
  show wpAny _ A.in1 (do checkBuiltinCall id args; again (.builtin id args)) _ _ s
  exact wpAny_bind (wpAny_mono h (fun _ s₁ h₁ => wpAny_pure ⟨hq, hk, h₁⟩) fun _ _ h' => h')
theorem ba_made {h : Heap} {M : Model} : Looks M h (Bind.madeBy (.type "bytearray")) (some "bytearray.__new__") := by
  intro A Q E s k q
  unfold Bind.madeBy
  repeat (first | lk | rw [if_neg (by decide +kernel)])
  exact q
theorem ba_entry_init : entryFor table "bytearray.__init__" = some Builtin.«bytearray.__init__» := entryFor_of_tree (by kernel_rfl)
theorem ba_slot_init : Slot "bytearray" "__init__" "bytearray.__init__" :=
  .of (owner := "bytearray") (n := "__init__") (by rw [typeLookup_type, builtinLookup_eq_fast]; kernel_rfl) (by decide +kernel) (by decide +kernel) (by decide +kernel)
    (by first | exact .inl (by decide +kernel) | exact .inr (by decide +kernel)) (by rw [isSubtype_type]; kernel_rfl)
theorem ba_args_init (a b : Value) : argsOk "bytearray.__init__" ⟨[a, b], []⟩ := by unfold argsOk; kernel_rfl
theorem ba_index (n : Int) (t : Tok) : specialOf (.int n t) "__index__" = pure (some (.builtin "int.__index__")) := by
  show typeLookup (.type "int") _ = _
  rw [typeLookup_type, builtinLookup_eq_fast]; kernel_rfl
theorem asIndex_int (n : Int) (t : Tok) : asIndex (.int n t) = pure n := rfl
theorem at_index {M : Model} {A : Around} {E : Value → Shared → Prop} {s : Shared} {n : Int} {t : Tok} {Q : Except Value Int → Shared → Prop} (h : Q (.ok n) s) : wpAny M A (asIndex (.int n t)).attempt Q E s := wpAny_attempt (wpAny_of_eq (asIndex_int n t) h)
theorem upd_ba {M : Model} {A : Around} {E : Value → Shared → Prop} {s : Shared} {a : Addr} {o : Obj} {b : Array UInt8} {n : Nat} {f : Array UInt8 → Array UInt8} {Q : Unit → Shared → Prop} (ho : s.heap.get? a = some { o with data := .bytearray b n }) (hs : (f b).size ≤ 1000)
    (h : Q () { s with heap := s.heap.update a (Obj.mapBytearray f) }) : wpAny M A (updateBytearray a f) Q E s := by
  unfold updateBytearray
  refine wpAny_bind (wpAny_load ho ?_)
  dsimp only
  refine wpAny_bind (wpAny_update ho ?_)
  have hu := Heap.get?_update_self (Obj.mapBytearray f) ho rfl
  unfold lookBehind
  refine wpAny_bind (wpAny_loadPart hu ?_)
  have hp : (Obj.mapBytearray f { o with data := .bytearray b n }).data.pastItsLine = none := by
    show (if (f b).size > sizeLine then some "bytearray:memory" else none) = none
    rw [if_neg (by rw [sizeLine_eq]; omega)]
  rw [hp]
  exact wpAny_pure h
namespace bnN
noncomputable def S (prog : Program) (w : World) (A : Around) (hh : Heap) (gg : Array GenState) (dd : Drawn) (tt : Nat) (oo : OsState) (Q : Value → Shared → Prop) (E : Value → Shared → Prop) (t : Tok) : Prop := ∀ (n : Nat), n ≤ 100 → (∀ d h' k, hh.StaysIn h' → (∃ o, h'.get? d = some o ∧ o.cls = .type "bytearray" ∧ o.data = .bytearray (Array.replicate n 0) 0) → hh.objs.size ≤ d → Q (.ref d) ⟨h', gg, dd, k, oo⟩) →
    wpC (model prog w) A (call (.type "bytearray") [.int (n : Int) t]) Q E ⟨hh, gg, dd, tt, oo⟩
noncomputable def d : (Program) × (World) × (Around) × (Heap) × (Array GenState) × (Drawn) × (Nat) × (OsState) × (Value → Shared → Prop) × (Value → Shared → Prop) × (Tok) := cex (default, jW, jA, default, #[], jD, 0, default, (fun _ _ => True), (fun _ _ => True), 0) fun d => S d.1 d.2.1 d.2.2.1 d.2.2.2.1 d.2.2.2.2.1 d.2.2.2.2.2.1 d.2.2.2.2.2.2.1 d.2.2.2.2.2.2.2.1 d.2.2.2.2.2.2.2.2.1 d.2.2.2.2.2.2.2.2.2.1 d.2.2.2.2.2.2.2.2.2.2
@[irreducible] noncomputable def prog : Program := d.1
@[irreducible] noncomputable def w : World := d.2.1
@[irreducible] noncomputable def A : Around := d.2.2.1
@[irreducible] noncomputable def hh : Heap := d.2.2.2.1
@[irreducible] noncomputable def gg : Array GenState := d.2.2.2.2.1
@[irreducible] noncomputable def dd : Drawn := d.2.2.2.2.2.1
@[irreducible] noncomputable def tt : Nat := d.2.2.2.2.2.2.1
@[irreducible] noncomputable def oo : OsState := d.2.2.2.2.2.2.2.1
@[irreducible] noncomputable def Q : Value → Shared → Prop := d.2.2.2.2.2.2.2.2.1
@[irreducible] noncomputable def E : Value → Shared → Prop := d.2.2.2.2.2.2.2.2.2.1
@[irreducible] noncomputable def t : Tok := d.2.2.2.2.2.2.2.2.2.2
theorem core : S prog w A hh gg dd tt oo Q E t := by
  intro n hn h
  refine wpC_call ?_
  refine codeC_of_tree (wpC_of ?_)
  show wpAny _ _ (callAny (.type "bytearray") _) _ _ _
  repeat lk
  refine ⟨Code.quiet_builtin _ (by decide +kernel), clean_builtin (by decide +kernel), codeC_builtin entry_typeCall ?_⟩
  unfold Builtin.«type.__call__»
  have made := ba_made (M := model prog w) (h := hh)
  dsimp only
  refine wpC_seq ?_
  repeat lk
  refine wpC_seq ?_
  repeat lk
  refine wpC_seq ?_
  repeat lk
  dsimp only
  refine wpC_seq ?_
  repeat lk
  refine wpC_seq (wpAny_holding (wpAny_call (code_ba_new _ ?_)))
  have sub := (fun hh => (Looks.of_pure ba_sub : Looks (model prog w) hh (isSubtype (.type "bytearray") (.type "bytearray")) true))
  refine wpC_seq ?_
  repeat (first | (with_reducible refine (sub _).at ?_) | lk | (refine nd_load (Heap.get?_push_size _ rfl) ?_; try dsimp only))
  rw [if_neg (by decide)]
  refine wpC_bind (wpC_holding ?_)
  unfold callSpecial?
  refine wpC_seq ?_
  repeat (first | lk | (refine nd_load (Heap.get?_push_size _ rfl) ?_; try dsimp only))
  refine wpC_holding ?_
  refine wpC_seq ?_
  repeat (first | lk | (refine nd_load (Heap.get?_push_size _ rfl) ?_; try dsimp only))
  refine wpC_bind (wpC_call ?_)
  refine codeC_call_builtin_code (Code.quiet_builtin _ (by decide +kernel)) (clean_builtin (by decide +kernel)) ?_
  refine ba_slot_init.check _ _ _ _ _ _ _ _ ⟨_, (Heap.get?_push_size _ rfl), rfl⟩ (ba_args_init _ _) ?_
  refine codeC_builtin ba_entry_init ?_
  unfold Builtin.«bytearray.__init__»
  dsimp only
  refine wpC_seq ?_
  repeat (first | lk | (refine nd_load (Heap.get?_push_size _ rfl) ?_; try dsimp only) | rw [if_neg (by decide +kernel)] | rw [if_pos (by decide +kernel)] | (with_reducible refine (sub _).at ?_))
  refine wpC_seq ?_
  unfold Builtin.Bytes.bindOptional
  repeat (first | lk | (refine nd_load (Heap.get?_push_size _ rfl) ?_; try dsimp only) | rw [if_neg (by decide +kernel)] | rw [if_pos (by decide +kernel)] | (with_reducible refine (sub _).at ?_))
  dsimp [List.zipIdx]
  refine wpC_seq ?_
  try unfold Builtin.Bytes.checkCodecArg
  repeat (first | lk | (refine nd_load (Heap.get?_push_size _ rfl) ?_; try dsimp only) | rw [if_neg (by decide +kernel)] | rw [if_pos (by decide +kernel)] | (with_reducible refine (sub _).at ?_))
  refine wpC_seq ?_
  try unfold Builtin.Bytes.checkCodecArg
  repeat (first | lk | (refine nd_load (Heap.get?_push_size _ rfl) ?_; try dsimp only) | rw [if_neg (by decide +kernel)] | rw [if_pos (by decide +kernel)] | (with_reducible refine (sub _).at ?_))
  refine wpC_bind ?_
  unfold orM
  refine wpC_bind (wpC_exported ?_)
  refine wpC_of ?_
  unfold Builtin.Bytes.exportsOf
  repeat (first | lk | (refine nd_load (Heap.get?_push_size _ rfl) ?_; try dsimp only) | rw [if_neg (by decide +kernel)] | rw [if_pos (by decide +kernel)] | (with_reducible refine (sub _).at ?_))
  refine wpC_of ?_
  unfold Builtin.Bytes.write
  repeat (first | lk | (refine nd_load (Heap.get?_push_size _ rfl) ?_; try dsimp only) | rw [if_neg (by decide +kernel)] | rw [if_pos (by decide +kernel)] | (with_reducible refine (sub _).at ?_))
  refine wpAny_update (Heap.get?_push_size _ rfl) ?_
  have hu : ((hh.push { cls := .type "bytearray", data := .bytearray #[] }).update hh.objs.size (Obj.mapBytearray fun _ => #[])).get? hh.objs.size = some { cls := .type "bytearray", data := .bytearray #[] } :=
    Heap.get?_update_self _ (Heap.get?_push_size _ rfl) rfl
  unfold lookBehind
  have hp : Data.pastItsLine (.bytearray #[]) = none := by decide +kernel
  iterate 3 (first | lk | (refine nd_load hu ?_; try dsimp only))
  refine wpAny_pure ?_
  dsimp only
  rw [hp]
  refine wpAny_pure ?_
  dsimp
  iterate 12 (first | lk | rw [if_neg (by decide +kernel)] | rw [if_pos (by decide +kernel)])
  refine wpAny_pure ?_
  refine wpAny_bind ?_
  rw [ba_index (n : Int) t]
  refine wpAny_pure ?_
  rw [if_pos (by decide)]
  have hfit : Builtin.Bytes.fitsIndex (n : Int) = true := by
    show (decide (-(2 ^ 63 : Int) ≤ (n : Int)) && decide ((n : Int) < 2 ^ 63)) = true
    rw [Bool.and_eq_true]; exact ⟨decide_eq_true (by omega), decide_eq_true (by omega)⟩
  refine wpAny_bind ?_
  with_reducible refine at_index ?_
  dsimp only
  have f1 : ¬ ((n : Int) < 0) := by omega
  have f2 : ((n : Int) == 9223372036854775807) = false := by rw [beq_eq_false_iff_ne]; omega
  have f3 : Builtin.Bytes.tooLong (n : Int).toNat = false := by
    show decide ((n : Int).toNat > sizeLine) = false
    rw [Int.toNat_natCast, sizeLine_eq]; exact decide_eq_false (by omega)
  have f4 : ((2 : Int) ^ 63 - 1) = 9223372036854775807 := by decide +kernel
  simp only [hfit, Bool.not_true, Bool.false_eq_true, if_false, f1, f4, f2, f3]
  refine wpAny_bind (wpAny_rule ?_)
  have st : hh.StaysIn ((hh.push { cls := .type "bytearray", data := .bytearray #[] }).update hh.objs.size (Obj.mapBytearray fun _ => #[])) := fun b o e =>
    (Heap.get?_update_other _ _ (Nat.ne_of_gt (Heap.lt_size e))).trans (Heap.get?_push_of_some _ e)
  by_cases hz : (n : Int) > 0
  · rw [if_pos hz]
    have hu2 := Heap.get?_update_self (Obj.mapBytearray fun _ => Array.replicate (n : Int).toNat 0) hu rfl
    refine wpAny_bind (upd_ba (o := { cls := .type "bytearray", data := .bytearray #[] }) (b := #[]) (n := 0) hu (by rw [Array.size_replicate, Int.toNat_natCast]; omega) ?_)
    refine wpAny_pure ?_
    dsimp only
    refine wpC_of (wpAny_pure ?_)
    dsimp only
    rw [if_neg (by decide)]
    refine wpC_of (wpAny_pure ?_)
    rw [Int.toNat_natCast] at hu2 ⊢
    exact h _ _ _ (fun b o e => (Heap.get?_update_other _ _ (Nat.ne_of_gt (Heap.lt_size e))).trans (st b o e)) ⟨_, hu2, rfl, rfl⟩ (Nat.le_refl _)
  · rw [if_neg hz]
    obtain rfl : n = 0 := by omega
    refine wpAny_pure ?_
    dsimp only
    refine wpC_of (wpAny_pure ?_)
    dsimp only
    rw [if_neg (by decide)]
    refine wpC_of (wpAny_pure ?_)
    exact h _ _ _ st ⟨_, hu, rfl, rfl⟩ (Nat.le_refl _)
end bnN
theorem bytearray_new {prog : Program} {w : World} {A : Around} {hh : Heap} {gg : Array GenState} {dd : Drawn} {tt : Nat} {oo : OsState} {Q E : Value → Shared → Prop} {n : Nat} {t : Tok} (hn : n ≤ 100)
    (h : ∀ d h' k, hh.StaysIn h' → (∃ o, h'.get? d = some o ∧ o.cls = .type "bytearray" ∧ o.data = .bytearray (Array.replicate n 0) 0) → hh.objs.size ≤ d → Q (.ref d) ⟨h', gg, dd, k, oo⟩) :
    wpC (model prog w) A (call (.type "bytearray") [.int (n : Int) t]) Q E ⟨hh, gg, dd, tt, oo⟩ := by
  have z := all_of _ (fun d => bnN.S d.1 d.2.1 d.2.2.1 d.2.2.2.1 d.2.2.2.2.1 d.2.2.2.2.2.1 d.2.2.2.2.2.2.1 d.2.2.2.2.2.2.2.1 d.2.2.2.2.2.2.2.2.1 d.2.2.2.2.2.2.2.2.2.1 d.2.2.2.2.2.2.2.2.2.2) (by with_unfolding_all exact bnN.core) (prog, w, A, hh, gg, dd, tt, oo, Q, E, t)
  exact z n hn h
end Mine
end
section

namespace Mine
section
variable {M : Model} {A : Around} {E : Value → Shared → Prop} {s : Shared} {env : Env}
theorem wpC_execs {st : Stmt} {rest : List Stmt} {Q : Flow → Shared → Prop} (h : wpC M A (exec st env) (fun f s' => match f with | .next => wpC M A (execs rest env) Q E s' | f => Q f s') E s) : wpC M A (execs (st :: rest) env) Q E s := by
  rw [execs_cons]
  refine wpC_bind (wpC_mono h (fun f s' h' => ?_) fun _ _ x => x)
  cases f <;> first | exact h' | exact wpC_of (wpAny_pure h')
theorem wpC_If {test : PySem.Expr} {body orelse : List Stmt} {pos : Pos} {Q : Flow → Shared → Prop}
    (h : wpAny M A (isTrue test env (eval test env)) (fun b s₂ => if b then wpC M A (execs body env) Q E s₂ else wpC M A (execs orelse env) Q E s₂) E s) : wpC M A (exec (.If test body orelse pos) env) Q E s := by
  rw [exec_If]
  refine wpC_bind (wpC_of (wpAny_standAt (wpC_bind (wpC_of (wpAny_mono h (fun b s₂ h₂ => ?_) fun _ _ x => x)))))
  cases b <;> exact h₂
theorem wpC_Assign {x : Str} {px : Pos} {value : PySem.Expr} {pos : Pos} {Q : Flow → Shared → Prop} (h : wpC M A (eval value env) (fun v s₁ => wpAny M A (storeName env x v) (fun _ => Q .next) E s₁) E s)
    (hs : swapsWith value (some (.Name x px)) pos.line env = pure false := by rfl) : wpC M A (exec (.Assign [.Name x px] value pos) env) Q E s := by
  rw [exec_Assign_Name env x px value pos hs]
  exact wpC_bind (wpC_of (wpAny_standAt (wpC_bind (wpC_mono h (fun v s₁ h₁ => wpC_of (wpAny_bind (wpAny_standAt (wpAny_bind (wpAny_bindName (wpAny_mono h₁ (fun _ _ q => wpAny_pure q) fun _ _ x => x)))))) fun _ _ x => x))))
theorem wpC_Call {func : PySem.Expr} {args : List PySem.Expr} {pos : Pos} {Q : Value → Shared → Prop}
    (h : wpAny M A (eval func env) (fun f s₁ => wpC M A (callWith pos f [] (backTo pos (starEach args env)) []) Q E s₁) E s)
    (he : eval (.Call func args [] pos) env = (do callWith pos (← eval func env) [] (backTo pos (starEach args env)) (backToKw pos (keywordEach [] env))) := by rfl) : wpC M A (eval (.Call func args [] pos) env) Q E s := by
  rw [he]; exact wpC_bind (wpC_of h)
theorem callWithC {P : Heap → Prop} {pos : Pos} {f : Value} {args : List (Bool × Sem Value)} {Q : Value → Shared → Prop} (hplain : args.any (·.1) = false)
    (hk : ∀ h, P h → ∃ k, (k = Keeper.frame ∨ k = Keeper.machine ∨ k = Keeper.boundFrame) ∧ Looks M h (keeperOf f) k)
    (h : wpAny M A (evalArgs f true args []) (fun a s₁ => P s₁.heap ∧ wpC M A (call f a.pos a.kw) Q E s₁) E s) : wpC M A (callWith pos f [] args []) Q E s := by
  unfold callWith
  refine wpC_bind (wpC_holding (wpC_of (wpAny_mono h (fun a s₁ h₁ => wpC_bind (wpC_of (wpAny_standAt ?_))) fun _ _ x => x)))
  obtain ⟨k, hk', L⟩ := hk _ h₁.1
  simp only [hplain, List.any_nil, Bool.or_false]
  refine wpC_bind (wpC_of (L.here ?_))
  have marked (mk : Value) : wpC M A (callMarked mk f a.pos a.kw) Q E s₁ := fun Γ p hΓ hc => by
    show Sem.wp M Γ ((call f a.pos a.kw).keep [mk]) _ _ p s₁
    rw [Sem.wp_keep]; exact h₁.2 Γ p hΓ hc
  have tail : ∀ {t : Sem Value}, wpC M A t Q E s₁ → wpC M A (t >>= fun r => holding [r] point >>= fun _ => pure r) Q E s₁ :=
    fun ht => wpC_bind (wpC_mono ht (fun r s₂ hr => wpC_of (wpAny_bind (wpAny_holding (wpAny_point (wpAny_pure hr))))) fun _ _ x => x)
  rcases hk' with rfl | rfl | rfl <;> dsimp only <;> first | exact tail h₁.2 | (split <;> first | exact tail h₁.2 | exact tail (marked _))
theorem callC_type {pos : Pos} {T : String} {e : PySem.Expr} {rest : List PySem.Expr} {Q : Value → Shared → Prop} (h : wpAny M A (spliced (backTo pos (starEach (e :: rest) env))) (fun vs s₁ => wpC M A (call (.type T) vs) Q E s₁) E s)
    (he : starEach (e :: rest) env = (false, eval e env) :: starEach rest env := by rfl) (hplain : (backTo pos (starEach rest env)).any (·.1) = false := by rfl) :
    wpC M A (callWith pos (.type T) [] (backTo pos (starEach (e :: rest) env)) []) Q E s := by
  rw [he] at h ⊢
  refine callWithC (P := fun _ => True) (by show (false || (backTo pos (starEach rest env)).any (·.1)) = false; rw [hplain]; rfl) (fun _ _ => ⟨.machine, .inr (.inl rfl), Looks.of_pure rfl⟩) (evalArgs_plain (Q := fun a s₁ => True ∧ wpC M A (call (.type T) a.pos a.kw) Q E s₁) (wpAny_mono h (fun a s₁ h₁ => ⟨trivial, h₁⟩) fun _ _ x => x))
end
section
variable {prog : Program} {w : World} {A : Around} {s : Shared} {R : Result → Shared → Prop}
theorem callC_K {K : Frag} {h₀ : Heap} {pos : Pos} {f : Value} {env : Env} {E : Value → Shared → Prop} {e : PySem.Expr} {rest : List PySem.Expr} {Q : Value → Shared → Prop} (_X : K.In h₀) (hk : keepIn K f = true)
    (h : wpAny (model prog w) A (spliced (backTo pos (starEach (e :: rest) env))) (fun vs s₁ => K.In s₁.heap ∧ wpC (model prog w) A (call f vs) Q E s₁) E s)
    (he : starEach (e :: rest) env = (false, eval e env) :: starEach rest env := by rfl) (hplain : (backTo pos (starEach rest env)).any (·.1) = false := by rfl) :
    wpC (model prog w) A (callWith pos f [] (backTo pos (starEach (e :: rest) env)) []) Q E s := by
  rw [he] at h ⊢
  exact callWithC (P := K.In) (by show (false || (backTo pos (starEach rest env)).any (·.1)) = false; rw [hplain]; rfl) (keeps_K hk) (evalArgs_plain h)
theorem codeC_func {body : List Stmt} {env : Env} (h : wpC (model prog w) (A.deeper env) (execs body env) (fun f s' => R (.ok (.ret (match f with | .ret v => v | _ => .none))) s') (fun _ _ => False) s) : codeC (model prog w) A (.func body env) R s := by
  refine codeC_of_tree ?_
  show wpC _ (A.deeper env) (do point; match ← (execs body env).onRaise (leaving env) with | .ret v => ret v | _ => ret .none) _ _ s
  refine wpC_bind (wpC_of (wpAny_point (wpC_bind (wpC_onRaise (wpC_mono h (fun f s' h' => wpC_of ?_) fun _ _ x => x.elim)))))
  cases f <;> exact wpAny_pure h'
theorem codeC_callFn {a : Addr} {args : Args} {o : Obj} {fd : FuncData} {body : List Stmt} {binds : List (Str × Value)} (hroom : A.depth < recursionLimit) (ho : s.heap.get? a = some o) (hd' : o.data = .func fd)
    (hlim : s.heap.NoLimit) (hcd : s.heap.CodeRec fd.code fd.qualname) (hbody : fd.body = .stmts body) (hbind : BindsTo s fd args binds) (hcell : ∀ x ∈ fd.scope.names, x.2 ≠ .cell) (hloc : ∀ x ∈ binds, fd.scope.names.lookup x.1 = some .local)
    (h : ∀ h₀, h₀.Ns s.heap.objs.size (fun x => binds.reverse.lookup x) → s.heap.StaysIn h₀ →
      wpC (model prog w) (A.deeper (callEnv fd s.heap.objs.size a)) (execs body (callEnv fd s.heap.objs.size a)) (fun f s' => R (.ok (.ret (match f with | .ret v => v | _ => .none))) s') (fun _ _ => False) { s with heap := h₀, toks := s.toks + binds.length })
    (hco : fd.scope.isCoroutine = false) (hgen : fd.scope.isGenerator = false) (hk : fd.scope.kind = .function) : codeC (model prog w) A (.call (.ref a) args) R s := by
  refine codeC_of_tree (wpC_of ?_)
  show wpAny _ A.in1 (callAny (.ref a) args) _ _ s
  simp only [callAny]
  refine wpAny_bind (wpAny_load ho ?_)
  obtain ⟨c, oc, vs, tq, hc, hoc, hdc, hq⟩ := hcd
  simp only [hd', callFunction, hco, hgen, hbody, hc]
  refine wpAny_bind (m := field (.ref c) 1) (wpAny_field hoc hdc hq (wpAny_bind (wpAny_pure ?_)))
  refine wpAny_bind (hbind _ _ _ _ (wpAny_bind (wpAny_newFunctionEnv hcell hloc (fun h₀ hns hsb => wpAny_bind (wpAny_enterFrame (hlim.fresh _ hsb) hroom (wpAny_pure ⟨rfl, rfl, codeC_func ?_⟩))) hk)))
  rw [← hc]
  exact h h₀ hns fun b o e => hsb.extBut b o (Nat.ne_of_lt (Heap.lt_size e)) (Heap.get?_push_of_some _ e)
end
end Mine
end
section

namespace Mine
theorem ba_slot_set : Slot "bytearray" "__setitem__" "bytearray.__setitem__" :=
  .of (owner := "bytearray") (n := "__setitem__") (by rw [typeLookup_type, builtinLookup_eq_fast]; kernel_rfl) (by decide +kernel) (by decide +kernel) (by decide +kernel)
    (by first | exact .inl (by decide +kernel) | exact .inr (by decide +kernel)) (by rw [isSubtype_type]; kernel_rfl)
theorem ba_entry_set : entryFor table "bytearray.__setitem__" = some Builtin.«bytearray.__setitem__» := entryFor_of_tree (by kernel_rfl)
theorem ba_args_set (a b c : Value) : argsOk "bytearray.__setitem__" ⟨[a, b, c], []⟩ := by unfold argsOk; kernel_rfl
theorem ba_no_bytes : typeLookup (.type "bytearray") "__bytes__" = pure none := by rw [typeLookup_type, builtinLookup_eq_fast]; kernel_rfl
theorem ba_no_index : typeLookup (.type "bytearray") "__index__" = pure none := by rw [typeLookup_type, builtinLookup_eq_fast]; kernel_rfl
theorem ba_buffer : typeLookup (.type "bytearray") "__buffer__" = pure (some (.builtin "bytearray.__buffer__")) := by rw [typeLookup_type, builtinLookup_eq_fast]; kernel_rfl
theorem seqIndex_nat {j n : Nat} (h : j < n) : seqIndex? (j : Int) n = some j := by
  have h0 : ¬ (j : Int) < 0 := by omega
  have h1 : (j : Int) < (n : Int) := by omega
  simp [seqIndex?, h0, h1]
noncomputable def BaAt (h : Heap) (S : Addr) (b : Array UInt8) : Prop := ∃ o, h.get? S = some o ∧ o.cls = .type "bytearray" ∧ o.data = .bytearray b 0
section
variable {prog : Program} {w : World} {A : Around} {E : Value → Shared → Prop} {s : Shared}
theorem BaAt.typeIs {S : Addr} {b : Array UInt8} (h : BaAt s.heap S b) : s.TypeIs (.ref S) "bytearray" := let ⟨o, ho, hc, _⟩ := h; ⟨o, ho, hc⟩
theorem payload_ba {S : Addr} {b : Array UInt8} {Q : Array UInt8 → Shared → Prop} (hS : BaAt s.heap S b) (h : Q b s) : wpAny (model prog w) A (Builtin.Bytes.payload (.ref S)) Q E s := by
  obtain ⟨o, ho, _, hd⟩ := hS
  unfold Builtin.Bytes.payload Builtin.Bytes.payload?
  refine wpAny_bind (wpAny_bind (wpAny_load ho ?_))
  rw [hd]
  exact wpAny_pure (wpAny_pure h)
theorem index_int {M : Model} {n : Int} {t : Tok} {Q : Int → Shared → Prop} (h : Q n s) : wpAny M A (asIndex (.int n t)) Q E s := wpAny_of_eq (asIndex_int n t) h
theorem ba_set {S : Addr} {b : Array UInt8} {j v : Nat} {t u : Tok} {Q : Unit → Shared → Prop} (hS : BaAt s.heap S b) (hj : j < b.size) (hb : b.size ≤ 1000) (hv : v < 256)
    (hQ : ∀ o', (s.heap.update S (Obj.mapBytearray (·.setIfInBounds j v.toUInt8))).get? S = some o' → o'.cls = .type "bytearray" → o'.data = .bytearray (b.setIfInBounds j v.toUInt8) 0 →
      Q () { s with heap := s.heap.update S (Obj.mapBytearray (·.setIfInBounds j v.toUInt8)) }) :
    wpAny (model prog w) A (setItem (.ref S) (.int (j : Int) t) (.int (v : Int) u)) Q E s := by
  have hT := hS.typeIs
  unfold setItem
  try with_reducible refine wpAny_holding ?_
  first | refine wpAny_bind (wpAny_pure ?_) | skip
  refine wpAny_bind (wpAny_sequenceKey hT (by decide) ?_)
  refine wpAny_bind (wpAny_callSpecial?_slot (name := Str.ofString "__setitem__") hT ba_slot_set
    (wpAny_call_entry ba_slot_set hT ba_entry_set ?_ (ba_args_set _ _ _)))
  show wpAny _ _ (Builtin.Bytes.subscript? (.int (j : Int) t) >>= _) _ _ s
  refine wpAny_bind ?_
  unfold Builtin.Bytes.subscript?
  refine wpAny_bind ?_
  with_reducible refine wpAny_specialOf (T := "int") (typeIs_int s (j : Int) t) int_index ?_
  show wpAny _ _ (asIndex (.int (j : Int) t) >>= _) _ _ s
  refine wpAny_bind ?_
  with_reducible refine index_int ?_
  show wpAny _ _ (if (!Builtin.Bytes.fitsIndex (j : Int)) = true then _ else _) _ _ s
  have hfit : Builtin.Bytes.fitsIndex (j : Int) = true := by
    show (decide (-(2 ^ 63 : Int) ≤ (j : Int)) && decide ((j : Int) < 2 ^ 63)) = true
    rw [decide_eq_true (by omega), decide_eq_true (by omega)]; rfl
  rw [if_neg (by rw [hfit]; decide)]
  refine wpAny_pure ?_
  show wpAny _ _ (Builtin.Bytes.byteValue (.int (v : Int) u) >>= _) _ _ s
  refine wpAny_bind ?_
  unfold Builtin.Bytes.byteValue
  refine wpAny_bind ?_
  with_reducible refine index_int ?_
  rw [if_neg (by simp; omega)]
  refine wpAny_pure ?_
  show wpAny _ _ (Builtin.Bytes.payload (.ref S) >>= _) _ _ s
  refine wpAny_bind (payload_ba hS ?_)
  rw [seqIndex_nat hj]
  obtain ⟨o, ho, hc, hd⟩ := hS
  have ho' : s.heap.get? S = some { o with data := .bytearray b 0 } := by rw [← hd]; exact ho
  have hup := Heap.get?_update_self (Obj.mapBytearray fun x => x.setIfInBounds j ((v : Int).toNat.toUInt8)) ho' rfl
  refine wpAny_bind (upd_ba ho' (by rw [Array.size_setIfInBounds]; exact hb) (wpAny_pure ⟨.none, rfl, wpAny_pure ?_⟩))
  exact hQ _ hup hc rfl
theorem ba_release : typeLookup (.type "bytearray") "__release_buffer__" = pure (some (.builtin "bytearray.__release_buffer__")) := by rw [typeLookup_type, builtinLookup_eq_fast]; kernel_rfl
theorem ba_own {v : Value} {name id : String} {Q : Bool → Shared → Prop} (hT : s.TypeIs v "bytearray") (hl : typeLookup (.type "bytearray") (name : Str) = pure (some (.builtin id))) (he : id.endsWith ("." ++ name) = true)
    (hd : id.dropRight (name.length + 1) = "bytearray") (h : Q true s) : wpAny (model prog w) A (Builtin.Bytes.slotIsOwn v name) Q E s := by
  unfold Builtin.Bytes.slotIsOwn
  refine wpAny_bind (wpAny_specialOf hT hl ?_)
  dsimp only
  rw [he, hd]
  refine bm_if_false rfl ?_
  exact wpAny_isInstance hT ba_sub h
theorem ba_bytes_new {S : Addr} {b : Array UInt8} {Q : Value → Shared → Prop} (hS : BaAt s.heap S b) (hz : b.size ≤ 1000) (h : ∀ t k, Q (.bytes b t) { s with toks := k }) :
    codeAny (model prog w) A (.call (.builtin "bytes.__new__") ⟨[.type "bytes", .ref S], []⟩) (wants Q E) s := by
  have hT := hS.typeIs
  refine codeAny_of_tree ?_
  show wpAny _ A.in1 (do checkBuiltinCall "bytes.__new__" ⟨[.type "bytes", .ref S], []⟩; again (.builtin "bytes.__new__" ⟨[.type "bytes", .ref S], []⟩)) _ _ s
  refine wpAny_bind (wpAny_of_eq (F.bm_newCall _) (wpAny_pure ⟨plainId_quiet F.bm_plain _, codeAny_builtin F.bm_entry ?_⟩))
  rw [Around.under_plainId F.bm_plain _]
  unfold Builtin.«bytes.__new__»
  refine wpAny_bind (wpAny_of_eq (a := true) rfl ?_)
  refine bm_if_false rfl ?_
  refine wpAny_bind (wpAny_of_eq F.bm_sub ?_)
  refine bm_if_false rfl ?_
  refine wpAny_bind (wpAny_of_eq (F.bm_bind _) ?_)
  refine wpAny_bind (wpAny_of_eq (a := ()) rfl ?_)
  refine wpAny_bind (wpAny_of_eq (a := ()) rfl ?_)
  refine bm_if_false rfl ?_
  refine wpAny_bind (wpAny_specialOf hT ba_no_bytes ?_)
  refine wpAny_bind (wpAny_bind ?_)
  obtain ⟨o, ho, hc, hd⟩ := id hS
  show wpAny _ _ (load S >>= _) _ _ _
  refine wpAny_bind (wpAny_load ho ?_)
  rw [hd]
  refine wpAny_pure (wpAny_pure ?_)
  refine bm_if_false rfl ?_
  refine wpAny_bind (wpAny_specialOf hT ba_no_index ?_)
  refine bm_if_true rfl ?_
  have st : s = { s with toks := s.toks } := rfl
  show wpAny _ _ (Builtin.Bytes.buffer? "bytes.__new__" (.ref S) true >>= _) _ _ _
  refine wpAny_bind ?_
  unfold Builtin.Bytes.buffer?
  refine wpAny_bind (wpAny_specialOf hT ba_buffer ?_)
  dsimp only
  refine wpAny_bind (ba_own hT ba_buffer (by decide +kernel) (by decide +kernel) ?_)
  refine bm_if_false rfl ?_
  refine wpAny_bind (wpAny_specialOf hT ba_buffer ?_)
  unfold Builtin.Bytes.ownRelease
  refine wpAny_bind (wpAny_bind (ba_own hT ba_release (by decide +kernel) (by decide +kernel) (wpAny_pure ?_)))
  refine bm_if_false rfl ?_
  refine wpAny_bind (payload_ba hS (wpAny_pure ?_))
  refine wpAny_bind (wpAny_rule ?_)
  refine wpAny_bind (wpAny_mkBytes ?_ (by rw [sizeLine_eq]; omega))
  show wpAny _ _ (if (Value.type "bytes" == Value.type "bytes") = true then _ else _) _ _ _
  refine bm_if_true rfl ?_
  exact wpAny_pure (h _ _)
theorem call_bytes_ba {S : Addr} {b : Array UInt8} {Q : Value → Shared → Prop} (hS : BaAt s.heap S b) (hz : b.size ≤ 1000) (h : ∀ t k, Q (.bytes b t) { s with toks := k }) : wpAny (model prog w) A (call (.type "bytes") [.ref S]) Q E s := by
  refine callType_codes (Q₁ := fun obj s₁ => s₁.TypeIs obj "bytes" ∧ Q obj s₁) F.bm_called (F.bm_typeCall _) F.entry_object_init
    (ba_bytes_new hS hz fun t k => ⟨PySem.W.typeIs_bytes _ _ _, h t k⟩) fun obj s₁ h₁ => ?_
  exact ⟨h₁.1, F.args_object_init_2 obj _, object_init_meets F.bm_called.init.lookup F.bm_called.made (by decide) prog w A.in1 _ s₁ ⟨h₁.1, rfl, h₁.2⟩⟩
end
end Mine
end
section

namespace Mine
theorem fillBS : PySem.Challenge.rw_in0080_01 = PySem.Challenge.rw_in0080_01 ∧ hd.heap_39 = hd.heap_39 := by k_fill; exact ⟨rfl, rfl⟩
section
variable {K : Frag} {p : Program} {loose : List Str} {mean : ExcName → Option Value} {mg mb : Str → Option Value} {g : Heap} {prog : Program} {w : World} {A : Around} {s : Shared} {R : Result → Shared → Prop} {name qual : Str} {params : Arguments} {body : List Stmt} {scope : Scope} {dV kV doc pm cdv ct oc : Value} {an od : Option Addr} {osl : Array (Option Value)} {f : Addr} {args : Args} {binds : List (Str × Value)}
theorem enterZ (X : K.In s.heap) (T : Top p loose mean mg mb s.heap)
    (ho : K.lookup f = some ⟨oc, od, .func (fnOf name qual params body scope dV kV doc pm an cdv ct), osl⟩) (hcd : codeIn K cdv qual = true) (hroom : A.depth < recursionLimit)
    (hbind : BindsTo s (fnOf name qual params body scope dV kV doc pm an cdv ct) args binds) (hloc : ∀ y ∈ binds, scope.names.lookup y.1 = some .local)
    (h : ∀ L' h₁, L' = s.heap.objs.size → Fr s.heap L' h₁ (fun y => binds.reverse.lookup y) → s.heap.StaysIn h₁ →
      wpC (model prog w) (A.deeper (envOf qual scope L' f cdv)) (execs body (envOf qual scope L' f cdv)) (fun fl s' => R (.ok (.ret (match fl with | .ret v => v | _ => .none))) s') (fun _ _ => False) { s with heap := h₁, toks := s.toks + binds.length })
    (hco : scope.isCoroutine = false) (hgen : scope.isGenerator = false) (hk : scope.kind = .function) (hcell : ∀ x ∈ scope.names, x.2 ≠ .cell) : codeC (model prog w) A (.call (.ref f) args) R s :=
  codeC_callFn (fd := fnOf name qual params body scope dV kV doc pm an cdv ct) (body := body) (binds := binds) hroom (X _ _ ho) rfl T.nolimit (codeRec_of X hcd) rfl hbind hcell hloc
    (fun h₁ hns hk₁ => h s.heap.objs.size h₁ rfl ⟨hns, fun b o e => hk₁ b o e, Nat.le_refl _⟩ hk₁) hco hgen hk
end
theorem form3 {m : Str → Option Value} {a b c : Str} {x y z : Value} (h1 : m a = some x) (h2 : m b = some y) (h3 : m c = some z) : m = fun v => if v = a then some x else if v = b then some y else if v = c then some z else m v := by
  funext v
  repeat' split
  all_goals first | rfl | (subst_vars; assumption)
theorem form4 {m : Str → Option Value} {a b c d : Str} {x y z u : Value} (h1 : m a = some x) (h2 : m b = some y) (h3 : m c = some z) (h4 : m d = some u) : m = fun v => if v = a then some x else if v = b then some y else if v = c then some z else if v = d then some u else m v := by
  funext v
  repeat' split
  all_goals first | rfl | (subst_vars; assumption)
noncomputable def BsJ (b : Array UInt8) (w : Nat) (tb tw : Tok) (S : Addr) (m : Str → Option Value) : Prop := m (Str.ofString "data") = some (.bytes b tb) ∧ m (Str.ofString "width") = some (.int (w : Int) tw) ∧ m (Str.ofString "swapped_data") = some (.ref S)
noncomputable def BsO (b : Array UInt8) (w k : Nat) (o : Obj) : Prop := o.cls = .type "bytearray" ∧ o.data = .bytearray (arrK b w k) 0
section
variable {prog : Program} {w : World} {A : Around} {E : Value → Shared → Prop} {s : Shared} {h₀ : Heap} {L : Addr} {m : Str → Option Value}
theorem by_itemN {b : Array UInt8} {x : Int} {k : Nat} {t u : Tok} {value slice : PySem.Expr} {Q : Value → Shared → Prop} (hk : x = (k : Int)) (hlt : k < b.size) (hb : b.size ≤ 1000) (h : Q (.int (((b.getD k 0).toNat : Nat) : Int) s.toks) { s with toks := s.toks + 1 })
    (hs : subscripted slice false (.bytes b.toList.toArray t) (.int x u) = operate [.bytes b.toList.toArray t, .int x u] (getItem (.bytes b.toList.toArray t) (.int x u)) := by with_unfolding_all rfl)
    (ht : ∀ r, letTemporaryGo value (.bytes b.toList.toArray t) r = pure () := by intro _; with_unfolding_all rfl) : wpAny (model prog w) A (subscriptTail value slice (.bytes b t) (.int x u)) Q E s := by
  subst hk
  have hl : b.toList.length = b.size := Array.length_toList
  refine bytes_item_K (x := b.toList) (by omega) (by omega) (by omega) ?_ h hs ht
  rw [Int.toNat_natCast, List.getD_eq_getElem?_getD, Array.getElem?_toList, Array.getD_eq_getD_getElem?]
theorem ba_set_N {pre : List (Addr × Obj)} {S : Addr} {o : Obj} {b : Array UInt8} {x : Int} {c : UInt8} {k n : Nat} {t u : Tok} {Q : Unit → Shared → Prop} (F : Fr h₀ L s.heap m) (N : News h₀ L s.heap (pre ++ [(S, o)])) (hne : ∀ p ∈ pre, p.1 ≠ S)
    (hc : o.cls = .type "bytearray") (hd : o.data = .bytearray b 0) (hb : b.size = n) (hk : x = (k : Int)) (hlt : k < n) (hn : n ≤ 1000)
    (h : ∀ h' o', Fr h₀ L h' m → News h₀ L h' (pre ++ [(S, o')]) → o'.cls = .type "bytearray" → o'.data = .bytearray (b.setIfInBounds k c) 0 → Q () { s with heap := h' }) :
    wpAny (model prog w) A (setItem (.ref S) (.int x t) (.int ((c.toNat : Nat) : Int) u)) Q E s := by
  subst hk
  have NS := N _ (List.mem_append_right _ (.head _))
  refine ba_set ⟨o, NS.1, hc, hd⟩ (by omega) (by omega) c.toNat_lt fun o' e c' d' => ?_
  have sb : Heap.SameBut S s.heap (s.heap.update S (Obj.mapBytearray (·.setIfInBounds k c.toNat.toUInt8))) := Heap.SameBut.update ..
  refine h _ o' (F.change sb NS.2.1 NS.2.2) (fun p hp => ?_) c' (by rw [d']; congr 2; exact UInt8.ofNat_toNat)
  rcases List.mem_append.mp hp with hp | hp
  · have z := N p (List.mem_append_left _ hp)
    exact ⟨sb.extBut _ _ (hne p hp) z.1, z.2⟩
  · rw [List.mem_singleton.mp hp]; exact ⟨e, NS.2⟩
end
namespace byteswap_specN
noncomputable def S (w : World) (dp un : Nat) (gd : Option (List Code)) (s : Shared) (p : Program) (loose : List Str) (mean : ExcName → Option Value) (mg mb : Str → Option Value) (base : Heap) (outer : List Env) (Q E : Value → Shared → Prop) (i : Nat) (row : List Int) (tb tw : Tok) : Prop := ∀ (C : Cx w p loose mean mg mb base dp un gd outer s.heap s) (hroom : dp + 30 < recursionLimit) (hi : i < 6) (hrow : RowOk row) (k : ∀ h' tk t, s.heap.StaysIn h' → Q (.bytes (bytesOf (swapR (widthN i) row)) t) { s with heap := h', toks := tk }), wpC (model PG w) (Ar dp un gd outer) (call (.ref 51) [.bytes (bytesOf row) tb, .int (widthN i : Int) tw]) Q E s
noncomputable def d : World × Nat × Nat × Option (List Code) × Shared × Program × List Str × (ExcName → Option Value) × (Str → Option Value) × (Str → Option Value) × Heap × List Env × (Value → Shared → Prop) × (Value → Shared → Prop) × Nat × List Int × Tok × Tok := cex (jW, 0, 0, none, jS, default, [], (fun _ => none), (fun _ => none), (fun _ => none), default, [], (fun _ _ => True), (fun _ _ => True), 0, [], 0, 0) fun d => S d.1 d.2.1 d.2.2.1 d.2.2.2.1 d.2.2.2.2.1 d.2.2.2.2.2.1 d.2.2.2.2.2.2.1 d.2.2.2.2.2.2.2.1 d.2.2.2.2.2.2.2.2.1 d.2.2.2.2.2.2.2.2.2.1 d.2.2.2.2.2.2.2.2.2.2.1 d.2.2.2.2.2.2.2.2.2.2.2.1 d.2.2.2.2.2.2.2.2.2.2.2.2.1 d.2.2.2.2.2.2.2.2.2.2.2.2.2.1 d.2.2.2.2.2.2.2.2.2.2.2.2.2.2.1 d.2.2.2.2.2.2.2.2.2.2.2.2.2.2.2.1 d.2.2.2.2.2.2.2.2.2.2.2.2.2.2.2.2.1 d.2.2.2.2.2.2.2.2.2.2.2.2.2.2.2.2.2
@[irreducible] noncomputable def w : World := d.1
@[irreducible] noncomputable def dp : Nat := d.2.1
@[irreducible] noncomputable def un : Nat := d.2.2.1
@[irreducible] noncomputable def gd : Option (List Code) := d.2.2.2.1
@[irreducible] noncomputable def s : Shared := d.2.2.2.2.1
@[irreducible] noncomputable def L' : Addr := s.heap.objs.size
@[irreducible] noncomputable def p : Program := d.2.2.2.2.2.1
@[irreducible] noncomputable def loose : List Str := d.2.2.2.2.2.2.1
@[irreducible] noncomputable def mean : ExcName → Option Value := d.2.2.2.2.2.2.2.1
@[irreducible] noncomputable def mg : Str → Option Value := d.2.2.2.2.2.2.2.2.1
@[irreducible] noncomputable def mb : Str → Option Value := d.2.2.2.2.2.2.2.2.2.1
@[irreducible] noncomputable def base : Heap := d.2.2.2.2.2.2.2.2.2.2.1
@[irreducible] noncomputable def outer : List Env := d.2.2.2.2.2.2.2.2.2.2.2.1
@[irreducible] noncomputable def Q : Value → Shared → Prop := d.2.2.2.2.2.2.2.2.2.2.2.2.1
@[irreducible] noncomputable def E : Value → Shared → Prop := d.2.2.2.2.2.2.2.2.2.2.2.2.2.1
@[irreducible] noncomputable def i : Nat := d.2.2.2.2.2.2.2.2.2.2.2.2.2.2.1
@[irreducible] noncomputable def row : List Int := d.2.2.2.2.2.2.2.2.2.2.2.2.2.2.2.1
@[irreducible] noncomputable def tb : Tok := d.2.2.2.2.2.2.2.2.2.2.2.2.2.2.2.2.1
@[irreducible] noncomputable def tw : Tok := d.2.2.2.2.2.2.2.2.2.2.2.2.2.2.2.2.2
theorem core : S w dp un gd s p loose mean mg mb base outer Q E i row tb tw := by
  intro C hroom hi hrow k
  obtain ⟨X, T, B, G, Gz⟩ := C
  refine wpC_call ?_
  k_dflt (refine' enterZ X T ?k6 ?k7 ?k8 ?k9 ?kB ?_ ?c2 ?c3 ?c4 ?c5; (case k6 => k_is); (case k7 => k_is); (case k8 => (show dp < _; omega)); (case k9 => first | exact BindsTo.of_eq rfl | exact binds_K (by k_in) rfl (by k_is) rfl rfl rfl);(case c5 => decide); (case kB => exact locs rfl); (case c2 => exact rfl); (case c3 => exact rfl); (case c4 => exact rfl))
  intro L₀ h₁ hL F l1
  obtain rfl : L₀ = L' := hL.trans (by with_unfolding_all rfl)
  (try dsimp only); (try k_fold)
  have hb := bytesOf_size hrow
  generalize hbe : bytesOf row = b at *
  refine wpC_execs (wpC_Assign (wpC_Call ?_))
  have N : News s.heap L' h₁ [] := fun _ h => nomatch h
  walk1
  refine callC_type ?_
  repeat (first | walk1 | (dsimp only; walk1))
  refine bytearray_new (n := b.size) (by omega) ?_
  rintro S h₂ tk₂ st ⟨o, ho, hoc, hod⟩ hS
  rw [hb] at hod
  rename Fr _ _ _ _ => F
  have F2 := fr_stays F st
  have hLS : @Ne Nat S L' := fun e => by
    have := F.ns.lt
    subst e
    exact absurd hS (Nat.not_le.mpr this)
  have N2 : News s.heap L' h₂ [(S, o)] := fun p hp => by
    rw [List.mem_singleton.mp hp]
    refine ⟨ho, hLS, ?_⟩
    cases q : s.heap.get? S with
    | none => rfl
    | some o' => exact absurd hS (Nat.not_le.mpr (Nat.lt_of_lt_of_le (Heap.lt_size q) (Nat.le_trans F.above (Nat.le_of_lt F.ns.lt))))
  (try clear N); clear F
  repeat (first | walk1 | (dsimp only; walk1))
  refine wpC_of ?_
  rename Fr _ _ _ _ => F4
  rename News _ _ _ _ => N4
  have tw9 := turns_w hi
  have rw9 := range_w hi
  have hw0 : (widthN i : Int) ≠ 0 := by omega
  have hw1 : (widthN i : Int) ≤ 12 := by omega
  walk1
  refine for_range (h₀ := s.heap) (a := 0) (b := (b.size : Int)) (c := (widthN i : Int)) (n := turnsN i) (fun a m rest => BsJ b (widthN i) tb tw S m ∧ ∃ o, rest = [(S, o)] ∧ BsO b (widthN i) (a * widthN i) o) rfl rfl rfl (by rw [hb]; exact rw9.1) (by rw [hb]; exact rw9.2.1) ?_
  repeat' ((first | ((fail_if_success (with_reducible show Exists _)); first | walk1 | (dsimp only; walk1)) | fail "no step") <;> (try dsimp only))
  refine ⟨_, _, _, _, _, _, rfl, by assumption, by assumption, by assumption, ⟨⟨rfl, rfl, rfl⟩, o, rfl, hoc, by rw [Nat.zero_mul]; exact hod⟩, ?_, ?_⟩
  · rintro a t m rest h tk I oI ha ⟨⟨m1, m2, m3⟩, o, rfl, o1, o2⟩ F N hne
    rw [form3 m1 m2 m3] at F
    have nSI : @Ne Nat S I := hne _ (.head _)
    walk1
    refine for_range (h₀ := s.heap) (a := 0) (b := (widthN i : Int)) (c := 1) (n := widthN i) (fun j m rest => (BsJ b (widthN i) tb tw S m ∧ m (Str.ofString "i") = some (.int (0 + (a : Int) * (widthN i : Int)) t)) ∧ ∃ o, rest = [(I, oI), (S, o)] ∧ BsO b (widthN i) (a * widthN i + j) o) rfl rfl rfl rw9.2.2.1 rw9.2.2.2 ?_
    repeat' ((first | ((fail_if_success (with_reducible show Exists _)); first | walk1 | (dsimp only; walk1)) | fail "no step") <;> (try dsimp only))
    refine ⟨_, _, _, _, _, _, rfl, by assumption, by assumption, by assumption, ⟨⟨⟨rfl, rfl, rfl⟩, rfl⟩, o, rfl, o1, o2⟩, ?_, ?_⟩
    · rintro j u m' rest h tk I2 oI2 hj ⟨⟨⟨m1, m2, m3⟩, m4⟩, o', rfl, o1, o2⟩ F N hne
      rw [form4 m1 m2 m3 m4] at F
      have nSI2 : @Ne Nat S I2 := hne _ (.tail _ (.head _))
      have nII2 : @Ne Nat I I2 := hne _ (.head _)
      have hne9 := fun o3 : Obj => (by simp only [List.forall_mem_cons, List.not_mem_nil, false_implies, implies_true, and_true]; exact ⟨nII2, nSI2⟩ : ∀ p ∈ [(I, oI), (S, o3)], p.1 ≠ I2)
      have pl := place_lt hi ha hj
      repeat' ((first | ((fail_if_success (with_reducible show wpAny _ _ (subscriptTail _ _ (Value.bytes _ _) _) _ _ _)); first | walk1 | (dsimp only; walk1)) | fail "no step") <;> (try dsimp only))
      refine by_itemN (k := a * widthN i + j) (by push_cast; omega) (by omega) (by omega) ?_
      repeat' ((first | ((fail_if_success (with_reducible show wpAny _ _ (setItem _ _ _) _ _ _)); first | walk1 | (dsimp only; walk1)) | fail "no step") <;> (try dsimp only))
      refine ba_set_N (pre := [(I2, oI2), (I, oI)]) (k := a * widthN i + (widthN i - 1 - j)) (by assumption) (by assumption) (by simp only [List.forall_mem_cons, List.not_mem_nil, false_implies, implies_true, and_true]; exact ⟨Ne.symm nSI2, Ne.symm nSI⟩) o1 o2 (arrK_size _ _ _) (by push_cast; omega) (by omega) (by omega) ?_
      intro h' o3 F N o4 o5
      repeat' ((first | walk1 | (dsimp only; walk1) | fail "no step") <;> (try dsimp only))
      exact ⟨.inl rfl, h', _, _, [(I, oI), (S, o3)], rfl, F, N, hne9 o3, ⟨⟨rfl, rfl, rfl⟩, rfl⟩, o3, rfl, o4, by rw [o5, ← Nat.add_assoc, arrK_succ, place_div hj]⟩
    · rintro m rest h tk ⟨⟨⟨m1, m2, m3⟩, m4⟩, o', rfl, o1, o2⟩ F N
      refine wpAny_execs_nil ⟨.inl rfl, h, tk, m, [(S, o')], rfl, F, N, fun p hp => by rw [List.mem_singleton.mp hp]; exact nSI, ⟨m1, m2, m3⟩, o', rfl, o1, by rw [Nat.succ_mul]; exact o2⟩
  · rintro m rest h tk ⟨⟨m1, m2, m3⟩, o', rfl, o1, o2⟩ F N
    rw [form3 m1 m2 m3] at F
    rw [tw9.1, ← hbe, swap_arr hi hrow] at o2
    repeat' ((first | ((fail_if_success (with_reducible show wpAny _ _ (call (Value.type _) _) _ _ _)); first | walk1 | (dsimp only; walk1)) | fail "no step") <;> (try dsimp only))
    refine call_bytes_ba ⟨o', (N _ (.head _)).1, o1, o2⟩ (by rw [bytesOf_size (swapR_ok hi hrow)]; decide) fun t k' => ?_
    repeat' ((first | walk1 | (dsimp only; walk1) | fail "no step") <;> (try dsimp only))
    exact k _ _ _ F.keep
end byteswap_specN
theorem byteswap_spec {w : World} {dp un : Nat} {gd : Option (List Code)} {s : Shared} {p : Program} {loose : List Str} {mean : ExcName → Option Value} {mg mb : Str → Option Value} {base : Heap} {outer : List Env} {Q E : Value → Shared → Prop}
    (C : Cx w p loose mean mg mb base dp un gd outer s.heap s) (hroom : dp + 30 < recursionLimit) {i : Nat} (hi : i < 6) {row : List Int} (hrow : RowOk row) {tb tw : Tok}
    (k : ∀ h' tk t, s.heap.StaysIn h' → Q (.bytes (bytesOf (swapR (widthN i) row)) t) { s with heap := h', toks := tk }) :
    wpC (model PG w) (Ar dp un gd outer) (call (.ref 51) [.bytes (bytesOf row) tb, .int (widthN i : Int) tw]) Q E s := all_of _ (fun d => byteswap_specN.S d.1 d.2.1 d.2.2.1 d.2.2.2.1 d.2.2.2.2.1 d.2.2.2.2.2.1 d.2.2.2.2.2.2.1 d.2.2.2.2.2.2.2.1 d.2.2.2.2.2.2.2.2.1 d.2.2.2.2.2.2.2.2.2.1 d.2.2.2.2.2.2.2.2.2.2.1 d.2.2.2.2.2.2.2.2.2.2.2.1 d.2.2.2.2.2.2.2.2.2.2.2.2.1 d.2.2.2.2.2.2.2.2.2.2.2.2.2.1 d.2.2.2.2.2.2.2.2.2.2.2.2.2.2.1 d.2.2.2.2.2.2.2.2.2.2.2.2.2.2.2.1 d.2.2.2.2.2.2.2.2.2.2.2.2.2.2.2.2.1 d.2.2.2.2.2.2.2.2.2.2.2.2.2.2.2.2.2) (by with_unfolding_all exact byteswap_specN.core) (w, dp, un, gd, s, p, loose, mean, mg, mb, base, outer, Q, E, i, row, tb, tw) C hroom hi hrow k
end Mine
end
section

namespace Mine
section
variable {prog : Program} {w : World} {A : Around} {s : Shared} {h₀ : Heap} {env : Env}
theorem wpC_noted {α : Type} {M : Model} {m : Sem α} {k : Value → Sem Unit} {Q : α → Shared → Prop} {E : Value → Shared → Prop} (h : wpC M A m Q (fun _ _ => False) s) : wpC M A (m.onRaise k) Q E s :=
  wpC_onRaise (wpC_mono h (fun _ _ q => q) fun _ _ x => x.elim)
theorem codeC_forLoop {R : Result → Shared → Prop} {target it body env} (I : Nat → Shared → Prop)
    (turn : ∀ n s, I n s → wpAny (model prog w) A (pyNext it) (fun r s₁ => match r with
      | none => R (.ok .next) s₁
      | some v => wpAny (model prog w) A (assign target env v) (fun _ s₂ => wpC (model prog w) A (execs body env) (fun f s₃ => (f = .next ∨ f = .cont) ∧ ∃ m, m < n ∧ I m s₃) (fun _ _ => False) s₂) (fun _ _ => False) s₁) (fun _ _ => False) s)
    (n : Nat) (h : I n s) (ht : ∀ v, letOwnedTupleGo target it v = pure () := by intro _; rfl) : codeC (model prog w) A (.forLoop target it body [] env) R s := by
  refine codeC_loop rfl rfl I (fun n s hI => ?_) n h
  show wpC _ A ((forTurn target it body [] env).onRaise (fun x => do noteFrame x env; theTreesLotGoes x)) _ _ s
  refine wpC_noted ?_
  simp only [forTurn]
  refine wpC_bind (wpC_of (wpAny_standAt (wpC_bind (wpC_noted (wpC_of (wpAny_mono (turn n s hI) (fun r s₁ h₁ => ?_) fun _ _ h' => h'))))))
  cases r with
  | none => exact wpC_of (wpAny_pure (.inr ⟨rfl, rfl, codeC_of (codeAny_block (wpAny_execs_nil h₁))⟩))
  | some v =>
    refine wpC_bind (wpC_of (wpAny_of_eq (ht v) ?_))
    refine wpC_bind (wpC_of (wpAny_mono h₁ (fun _ s₂ h₂ => wpC_bind (wpC_mono h₂ (fun f s₃ h₃ => ?_) fun _ _ h' => h')) fun _ _ h' => h'))
    obtain ⟨hf, h₃⟩ := h₃
    rcases hf with rfl | rfl
    · exact wpC_of (wpAny_pure (.inl ⟨rfl, h₃⟩))
    · exact wpC_of (wpAny_pure (.inl ⟨rfl, h₃⟩))
theorem forC_gen {x : Str} {px : Pos} {body : List Stmt} {I : Addr} {fp : List Addr} {n : Nat} {P : Nat → Value → Prop} {St : Nat → Heap → Prop} {R : Result → Shared → Prop} {m : Str → Option Value} {nx : List (Addr × Obj)}
    (W : Walks prog w A I fp [I] n P St) (J : Nat → (Str → Option Value) → List (Addr × Obj) → Prop) (hk : env.scope.kind = .function) (hx : env.kindOf x = some .local) (hIL : env.locals ≠ I) (hI0 : h₀.get? I = none)
    (keep : ∀ i h h', St i h → h'.get? I = h.get? I → (∀ b o, h₀.get? b = some o → h'.get? b = some o) → St i h') (at_ : ∀ i h, St i h → ∃ o, h.get? I = some o)
    (st0 : St 0 s.heap) (F : Fr h₀ env.locals s.heap m) (N : News h₀ env.locals s.heap nx) (hne : ∀ p ∈ nx, p.1 ≠ I) (hJ : J 0 m nx)
    (turn : ∀ i v m rest h tk oI, i < n → P i v → J i m rest → Fr h₀ env.locals h (fun y => if y = x then some v else m y) → News h₀ env.locals h ((I, oI) :: rest) → (∀ p ∈ rest, p.1 ≠ I) →
      wpC (model prog w) A (execs body env) (BaseEnd h₀ env.locals I oI (J (i + 1)) { s with heap := h, toks := tk }) (fun _ _ => False) { s with heap := h, toks := tk })
    (done : ∀ m rest h tk, J n m rest → Fr h₀ env.locals h m → News h₀ env.locals h rest → R (.ok .next) { s with heap := h, toks := tk }) :
    codeC (model prog w) A (.forLoop (.Name x px) (.ref I) body [] env) R s := by
  refine codeC_forLoop (fun k s' => ∃ i h' tk m rest, s' = { s with heap := h', toks := tk } ∧ St i h' ∧ Fr h₀ env.locals h' m ∧ News h₀ env.locals h' rest ∧
      (∀ p ∈ rest, p.1 ≠ I) ∧ J i m rest ∧ i ≤ n ∧ k = n + 1 - i) ?_ (n + 1) ⟨0, _, _, m, nx, rfl, st0, F, N, hne, hJ, Nat.zero_le _, rfl⟩
  rintro k s' ⟨i, h', tk, m, rest, rfl, st, F', N', hne, hJ, hi, rfl⟩
  by_cases hlt : i < n
  · refine W.item i _ _ _ hlt st fun v' h₁ tk₁ hP st₁ hk₁ => ?_
    have F₁ := LCg.fr_but F' hk₁ hIL hI0
    have N₁ := LCg.news_but N' hk₁ hne
    obtain ⟨oI, eI⟩ := at_ _ _ st₁
    refine wpAny_assign_Name (wpAny_storeName_local hx F₁.ns (fun h₂ hn₂ hs₂ => ?_) (by rw [hk]; rfl))
    have F₂ := F₁.set hn₂ hs₂
    have eI₂ : h₂.get? I = some oI := (hs₂.2 _ (Ne.symm hIL)).trans eI
    have N₂ : News h₀ env.locals h₂ ((I, oI) :: rest) := fun p hp => by
      rcases List.mem_cons.mp hp with rfl | hp
      · exact ⟨eI₂, Ne.symm hIL, hI0⟩
      · have z := N₁ p hp
        exact ⟨(hs₂.2 _ z.2.1).trans z.1, z.2⟩
    refine wpC_mono (turn i v' m rest h₂ _ oI hlt hP hJ F₂ N₂ hne) (fun f s₃ h₃ => ?_) fun _ _ e => e.elim
    obtain ⟨hf, h₃', tk₃, m₃, rest₃, rfl, F₃, N₃, hne₃, hJ₃⟩ := h₃
    exact ⟨hf, n + 1 - (i + 1), by omega, i + 1, h₃', tk₃, m₃, rest₃, rfl, keep _ _ _ st₁ ((N₃ _ (.head _)).1.trans eI.symm) F₃.keep, F₃, fun p hp => N₃ p (.tail _ hp), hne₃, hJ₃, hlt, rfl⟩
  · obtain rfl : i = n := Nat.le_antisymm hi (Nat.not_lt.mp hlt)
    exact W.done _ _ _ st fun h₁ tk₁ hk₁ => done m rest h₁ tk₁ hJ (LCg.fr_but F' hk₁ hIL hI0) (LCg.news_but N' hk₁ hne)
theorem wpC_For {M : Model} {E : Value → Shared → Prop} {target iter body pos} {Q : Flow → Shared → Prop}
    (h : wpAny M A (eval iter env) (fun x s₁ => wpAny M A (pyIter x) (fun it s₂ => codeC M A (.forLoop target it body [] env) (fun r s' => match r with | .ok f => Q f s' | .error _ => False) s₂) (fun _ _ => False) s₁) (fun _ _ => False) s)
    (hs : ∀ x, foldedSetIterable iter env x = pure x := by intro _; rfl) :
    wpC M A (exec (.For target iter body [] pos) env) Q E s := by
  rw [exec_For]
  refine wpC_bind (wpC_of (wpAny_standAt (wpC_bind (wpC_of (wpAny_mono h (fun x s₁ h₁ => ?_) fun _ _ h' => h'.elim)))))
  refine wpC_bind (wpC_of (wpAny_of_eq (hs x) (wpC_bind (wpC_of (wpAny_standAt (wpC_bind (wpC_holding (wpC_of (wpAny_mono h₁ (fun it s₂ h₂ => ?_) fun _ _ h' => h'.elim)))))))))
  unfold runOwn
  refine wpC_noted (wpC_run rfl ?_ (by intro x; cases x))
  have e : A.mark none = A := rfl
  rw [e]
  exact h₂
theorem forC_range {iter : PySem.Expr} {x : Str} {px pos : Pos} {body : List Stmt} {Q : Flow → Shared → Prop} {a b c : Int} {n : Nat} (J : Nat → (Str → Option Value) → List (Addr × Obj) → Prop)
    (hk : env.scope.kind = .function) (hx : env.kindOf x = some .local) (hh : A.handled = none) (hsm : Builtin.Range.small a b c = true) (hn : Builtin.Range.rangeSize a b c = (n : Int))
    (h : wpAny (model prog w) A (eval iter env) (fun xv s₁ => ∃ r t u v m nx, xv = .ref r ∧ IsRange s₁.heap r a b c t u v ∧ Fr h₀ env.locals s₁.heap m ∧ News h₀ env.locals s₁.heap nx ∧ J 0 m nx ∧
      (∀ (i : Nat) t m rest h tk I oI, i < n → J i m rest → Fr h₀ env.locals h (fun y => if y = x then some (.int (a + i * c) t) else m y) → News h₀ env.locals h ((I, oI) :: rest) → (∀ p ∈ rest, p.1 ≠ I) →
        wpC (model prog w) A (execs body env) (BaseEnd h₀ env.locals I oI (J (i + 1)) { s₁ with heap := h, toks := tk }) (fun _ _ => False) { s₁ with heap := h, toks := tk }) ∧
      (∀ m rest h tk, J n m rest → Fr h₀ env.locals h m → News h₀ env.locals h rest → Q .next { s₁ with heap := h, toks := tk })) (fun _ _ => False) s)
    (hs : ∀ x, foldedSetIterable iter env x = pure x := by intro _; rfl) :
    wpC (model prog w) A (exec (.For (.Name x px) iter body [] pos) env) Q (fun _ _ => False) s := by
  refine wpC_For (wpAny_mono h (fun xv s₁ h₁ => ?_) fun _ _ e => e) hs
  obtain ⟨r, t, u, v, m, nx, rfl, hr, F, N, hJ, turn, done⟩ := h₁
  refine wpAny_pyIter_range hr hsm ?_
  rw [hn]
  exact forC_gen (Walks.range hh _ a c n) J hk hx (Nat.ne_of_lt F.ns.lt) (next_is_new F) (fun i h h' st e kp => Eq.trans e st) (fun i h st => ⟨_, st⟩)
    (by
      show Heap.get? _ _ = _
      rw [Heap.get?_push_size _ rfl]
      simp [rawInt]) (F.push _) (fun p hp => ⟨Heap.get?_push_of_some _ (N p hp).1, (N p hp).2⟩) (news_ne N) hJ
    (fun i v m rest h tk oI hi hv => by obtain ⟨t, rfl⟩ := hv; exact turn i t m rest h tk _ oI hi) done
end
end Mine
end
section

namespace Mine
section
variable {w : World} {p : Program} {loose : List Str} {mean : ExcName → Option Value} {mg mb : Str → Option Value} {base h₀ : Heap} {dp un : Nat} {gd : Option (List Code)} {outer : List Env} {s : Shared} {env : Env} {L : Addr} {m : Str → Option Value} {news pre : List (Addr × Obj)} {A₀ : Around} {Q E : Value → Shared → Prop}
theorem translate_K (X : (hd.heap_39 w.params).In h₀) (T : Top p loose mean mg mb h₀) (B : Below A₀ base outer h₀) (F : Fr h₀ L s.heap m) {pst : Array Value} (N : News h₀ L s.heap (pre ++ [(70, tabObj pst)])) (hn : ∀ q ∈ pre, q.1 ≠ 70) (hA : A₀.deeper env = Ar dp un gd (env :: outer)) (hA' : (A₀.deeper env).frames = some (env :: outer)) (hf : env.frame = some L) (hk : env.scope.kind = .function) (hroom : dp + 60 < recursionLimit) (hun : un + 200 < 9900)
    (hp : TabOk pst) {ps : List Nat} (hlen : ps.length ≤ 4) (h6 : ∀ q ∈ ps, q < 6) {star : Addr} {t tq : Tok}
    (k : ∀ h' tk D vs n pst', TabOk pst' → Fr h₀ L h' m → News h₀ L h' ((D, W.listOf vs.toArray n) :: (pre ++ [(70, tabObj pst')])) → (∀ q ∈ pre, q.1 ≠ D) → @Ne Nat 70 D → PartsL star vs (partsN ps) → Q (.ref D) { s with heap := h', toks := tk }) :
    wpAny (model PG w) (A₀.deeper env) (call (.ref 75) [.str (patT ps) t, .ref star, .str (Str.ofString ".") tq]) Q E s := by
  have N7 : News h₀ L s.heap [(70, tabObj pst)] := fun q hq => N q (List.mem_append_right _ hq)
  obtain ⟨C, FG⟩ := Cx.hide (dp := dp) (un := un) (gd := gd) X T B F N7 hA hA' hf hk
  rw [hA]
  refine translate_spec C hroom hun (N7 _ (.head _)).1 (hide_none (.head _)) hp hlen h6 fun h' tk D vs n pst' st h70 hp' gD hD hv => ?_
  have keepG : ∀ q ∈ pre, (hideAll s.heap ([((70 : Addr), tabObj pst)].map (·.1))).get? q.1 = some q.2 := fun q hq =>
    hideAll_get _ (N q (List.mem_append_left _ hq)).1 (fun hm => hn q hq (List.mem_singleton.mp hm))
  have hL : D ≠ L := fun e => by
    obtain ⟨oL, _, _, hoL, _⟩ := FG.ns
    rw [e, hoL] at gD; cases gD
  have h0 : h₀.get? D = none := by
    cases q : h₀.get? D with
    | none => rfl
    | some o => rw [FG.keep _ _ q] at gD; cases gD
  refine k h' tk D vs n pst' hp' (fr_stays FG st) (fun q hq => ?_) (fun q hq e => by have := keepG q hq; rw [e, gD] at this; cases this) ?_ hv
  · rcases List.mem_cons.mp hq with rfl | hq
    · exact ⟨hD, hL, h0⟩
    · rcases List.mem_append.mp hq with hq | hq
      · exact ⟨st _ _ (keepG q hq), (N q (List.mem_append_left _ hq)).2⟩
      · rw [List.mem_singleton.mp hq]
        exact ⟨h70, (N7 _ (.head _)).2⟩
  · intro e
    subst e
    rw [h70] at hD
    cases hD
theorem takes_K (X : (hd.heap_39 w.params).In h₀) (T : Top p loose mean mg mb h₀) (B : Below A₀ base outer h₀) (F : Fr h₀ L s.heap m) (N : News h₀ L s.heap news) (hA : A₀.deeper env = Ar dp un gd (env :: outer)) (hf : env.frame = some L) (hk : env.scope.kind = .function) (hroom : dp + 30 < recursionLimit) (hun : un + 200 < 9900)
    {al star : Addr} {vs : List Value} {qs : List Nat} (hal : s.heap.IsList al vs.toArray) (hvs : PartsL star vs qs) (h6 : ∀ q ∈ qs, q < 6) (T0 : Str) (t0 : Tok) (hT : T0.length ≤ 24)
    (k : ∀ h' tk, Fr h₀ L h' m → News h₀ L h' news → Q (.bool (takesP T0 qs)) { s with heap := h', toks := tk }) : wpAny (model PG w) (A₀.deeper env) (call (.ref 812) [.ref al, .ref star, .str T0 t0]) Q E s := by
  have C := Cx.call (dp := dp) (un := un) (gd := gd) X T B F hA hf hk
  rw [hA]
  exact takes_spec C hroom hun hal hvs.1 hvs.2 h6 T0 t0 hT fun h' tk st => k h' tk (fr_stays F st) (news_stays N st)
theorem hexB_K (X : (hd.heap_39 w.params).In h₀) (T : Top p loose mean mg mb h₀) (B : Below A₀ base outer h₀) (F : Fr h₀ L s.heap m) (N : News h₀ L s.heap news) (hA : A₀.deeper env = Ar dp un gd (env :: outer)) (hf : env.frame = some L) (hk : env.scope.kind = .function) (hroom : dp + 30 < recursionLimit)
    {b : Array UInt8} {tb : Tok} {ns : List Int} (hb : KBw.bInts b = ns) (ho : RowOk ns)
    (k : ∀ h' tk t, Fr h₀ L h' m → News h₀ L h' news → Q (.str (hexT ns) t) { s with heap := h', toks := tk }) : wpAny (model PG w) (A₀.deeper env) (call (.ref 807) [.bytes b tb]) Q E s := by
  have C := Cx.call (dp := dp) (un := un) (gd := gd) X T B F hA hf hk
  rw [hA]
  exact hexB_spec C hroom hb (by rw [ho.1]; decide) ho.2 fun h' tk t st => k h' tk t (fr_stays F st) (news_stays N st)
theorem byteswap_K (X : (hd.heap_39 w.params).In h₀) (T : Top p loose mean mg mb h₀) (B : Below A₀ base outer h₀) (F : Fr h₀ L s.heap m) (N : News h₀ L s.heap news) (hA : A₀.deeper env = Ar dp un gd (env :: outer)) (hf : env.frame = some L) (hk : env.scope.kind = .function) (hroom : dp + 30 < recursionLimit)
    {i : Nat} (hi : i < 6) {row : List Int} (hrow : RowOk row) {tb tw : Tok}
    (k : ∀ h' tk t, Fr h₀ L h' m → News h₀ L h' news → Q (.bytes (bytesOf (swapR (widthN i) row)) t) { s with heap := h', toks := tk }) : wpC (model PG w) (A₀.deeper env) (call (.ref 51) [.bytes (bytesOf row) tb, .int (widthN i : Int) tw]) Q E s := by
  have C := Cx.call (dp := dp) (un := un) (gd := gd) X T B F hA hf hk
  rw [hA]
  exact byteswap_spec C hroom hi hrow fun h' tk t st => k h' tk t (fr_stays F st) (news_stays N st)
end
end Mine
end
section

namespace Mine
noncomputable def wordsO : Ord → List Str
  | .swap i => [Str.ofString "swap", widthT i]
  | .fits ps => [Str.ofString "fits", patT ps]
noncomputable def wordsL (os : List Ord) : List Str := os.flatMap wordsO
noncomputable def doneS (st : List Int × List Dat) (o : Ord) : List Int × List Dat := match o with
  | .swap i => (swapR (widthN i) st.1, st.2 ++ [Dat.bytes (bytesOf (swapR (widthN i) st.1))])
  | .fits ps => (st.1, st.2 ++ [Dat.bool (takesP (hexT st.1) (partsN ps))])
noncomputable def doneP (row : List Int) (os : List Ord) : List Dat := (os.foldl doneS (row, [])).2
theorem done_row : ∀ (os : List Ord) (a b : List Int × List Dat), a.1 = b.1 → (os.foldl doneS a).1 = (os.foldl walkS b).1
  | [], _, _, h => h
  | o :: os, a, b, h => by
    rw [List.foldl_cons, List.foldl_cons]
    refine done_row os _ _ ?_
    cases o <;> simp [doneS, walkS, h]
theorem done_ok (os : List Ord) (row : List Int) (ho : ∀ o ∈ os, o.Ok) (h : RowOk row) : RowOk (os.foldl doneS (row, [])).1 := by
  rw [done_row os _ (row, []) rfl]; exact rowsOk_foldl os _ ho h
theorem done_len : ∀ (os : List Ord) (st : List Int × List Dat), (os.foldl doneS st).2.length = st.2.length + os.length
  | [], _ => rfl
  | o :: os, st => by
    rw [List.foldl_cons, done_len os]
    cases o <;> simp [doneS] <;> omega
theorem words_len : ∀ (os : List Ord), (wordsL os).length = 2 * os.length
  | [] => rfl
  | o :: os => by
    have := words_len os
    unfold wordsL at *
    rw [List.flatMap_cons, List.length_append, this, List.length_cons]
    cases o <;> simp [wordsO] <;> omega
theorem words_at : ∀ (os : List Ord) (i : Nat) (o : Ord), os[i]? = some o → (wordsL os)[2 * i]? = (wordsO o)[0]? ∧ (wordsL os)[2 * i + 1]? = (wordsO o)[1]?
  | [], i, o, h => by simp at h
  | o' :: os, 0, o, h => by
    simp at h; subst h
    unfold wordsL; rw [List.flatMap_cons]
    cases o' <;> simp [wordsO]
  | o' :: os, i + 1, o, h => by
    have ih := words_at os i o (by simpa using h)
    unfold wordsL at *; rw [List.flatMap_cons]
    have hl : (wordsO o').length = 2 := by cases o' <;> rfl
    rw [List.getElem?_append_right (by omega), List.getElem?_append_right (by omega), hl]
    exact ⟨by rw [← ih.1]; congr 1, by rw [← ih.2]; congr 1⟩
theorem range_two : ∀ n : Nat, n ≤ 9 → Builtin.Range.small 0 ((2 * n : Nat) : Int) 2 = true ∧ Builtin.Range.rangeSize 0 ((2 * n : Nat) : Int) 2 = (n : Int) := fun n h => by
  have key : ∀ n : Fin 10, Builtin.Range.small 0 ((2 * n.1 : Nat) : Int) 2 = true ∧ Builtin.Range.rangeSize 0 ((2 * n.1 : Nat) : Int) 2 = (n.1 : Int) := by decide +kernel
  exact key ⟨n, by omega⟩
end Mine
end
section

namespace Mine
theorem fillW1 : PySem.Challenge.rw_in0080_01 = PySem.Challenge.rw_in0080_01 ∧ hd.heap_39 = hd.heap_39 := by k_fill; exact ⟨rfl, rfl⟩
theorem int_width {i : Nat} (h : i < 6) : PySem.intText? (widthT i) = some ((widthN i : Nat) : Int) := by
  have d : i = 0 ∨ i = 1 ∨ i = 2 ∨ i = 3 ∨ i = 4 ∨ i = 5 := by omega
  rcases d with rfl | rfl | rfl | rfl | rfl | rfl <;> decide +kernel
theorem width_len {i : Nat} (h : i < 6) : (widthT i).length ≤ 640 := by
  have d : i = 0 ∨ i = 1 ∨ i = 2 ∨ i = 3 ∨ i = 4 ∨ i = 5 := by omega
  rcases d with rfl | rfl | rfl | rfl | rfl | rfl <;> decide +kernel
theorem width_pos {i : Nat} (h : i < 6) : 0 < widthN i ∧ widthN i ≤ 12 := by
  have d : i = 0 ∨ i = 1 ∨ i = 2 ∨ i = 3 ∨ i = 4 ∨ i = 5 := by omega
  rcases d with rfl | rfl | rfl | rfl | rfl | rfl <;> decide +kernel
theorem pick_tail (x : Value) (ws : List Value) : kms_pick (x :: ws).toArray.toList (some 1) none = ws := by
  show ((x :: ws).drop (min 1 (ws.length + 1))).take (ws.length + 1 - min 1 (ws.length + 1)) = ws
  rw [Nat.min_eq_left (by omega)]
  show ws.take (ws.length + 1 - 1) = ws
  exact List.take_of_length_le (by omega)
section
variable {prog : Program} {w : World} {A : Around} {E : Value → Shared → Prop} {s : Shared} {Q : Value → Shared → Prop} {t u : Tok} {l : Addr}
theorem fd_w {i : Nat} {k : Int} (hi : i < 6) (h : Q (.int (k.fdiv ((widthN i : Nat) : Int)) s.toks) { s with toks := s.toks + 1 }) : wpAny (model prog w) A (binaryOp .FloorDiv (.int k t) (.int ((widthN i : Nat) : Int) u)) Q E s :=
  floordiv_int (by have := (width_pos hi).1; omega) h (Or.inl (PyProof.noPylong_small (by have := (width_pos hi).2; omega)))
theorem fm_w {i : Nat} {k : Int} (hi : i < 6) (h : Q (.int (k.fmod ((widthN i : Nat) : Int)) s.toks) { s with toks := s.toks + 1 }) : wpAny (model prog w) A (binaryOp .Mod (.int k t) (.int ((widthN i : Nat) : Int) u)) Q E s :=
  mod_int (by have := (width_pos hi).1; omega) h
theorem width_bits {i : Nat} (h : i < 6) : Builtin.Int.intBits ((widthN i : Nat) : Int) ≤ 64 := by
  have d : i = 0 ∨ i = 1 ∨ i = 2 ∨ i = 3 ∨ i = 4 ∨ i = 5 := by omega
  rcases d with rfl | rfl | rfl | rfl | rfl | rfl <;> decide +kernel
theorem mul_w {i : Nat} {k : Int} (hi : i < 6) (h : Q (.int (k * ((widthN i : Nat) : Int)) s.toks) { s with toks := s.toks + 1 }) : wpAny (model prog w) A (binaryOp .Mult (.int k t) (.int ((widthN i : Nat) : Int) u)) Q E s :=
  mul_int h (IntMulOk.of_right (width_bits hi))
theorem row_len {rs : List Value} (hl : s.heap.IsList l rs.toArray) (h12 : rs.length = 12) (h : Q (.int 12 (s.toks + 1)) { s with toks := s.toks + 1 + 1 }) : wpAny (model prog w) A (call (.builtin "len") [.ref l]) Q E s := by
  refine len_list hl (by rw [List.size_toArray, h12]; decide) ?_
  rw [List.size_toArray, h12]
  exact h
theorem base_list {h₀ h : Heap} {L : Addr} {m : Str → Option Value} {its : Array Value} (F : Fr h₀ L h m) (hl : h₀.IsList l its) : h.IsList l its := hl.at fun o e => F.keep l o e
theorem row_item {value slice : PySem.Expr} {rs : List Value} {row : List Int} {i : Nat} {k : Int} (hl : s.heap.IsList l rs.toArray) (hr : IntsAre rs row) (hn : row.length = 12) (hi : i < 6) (h0 : 0 ≤ k) (h1 : k < 12) (h : ∀ t', Q (.int (row.getD (swapI ((widthN i : Nat) : Int) k).toNat 0) t') s)
    (hs : ∀ (k : Int) (u : Tok), subscripted slice false (.ref l) (.int k u) = operate [.ref l, .int k u] (getItem (.ref l) (.int k u)) := by intro _ _; with_unfolding_all rfl) :
    wpAny (model prog w) A (subscriptTail value slice (.ref l) (.int (swapI ((widthN i : Nat) : Int) k) u)) Q E s := by
  have b := swap_bd hi h0 h1
  have hlt : (swapI (widthN i : Int) k).toNat < row.length := by omega
  obtain ⟨t', e⟩ := hr.get (swapI (widthN i : Int) k).toNat (row.getD (swapI (widthN i : Int) k).toNat 0) (by rw [List.getD_eq_getElem?_getD, List.getElem?_eq_getElem hlt]; rfl)
  exact tail_any hl.typeIs slot_list_getitem.lookup (wpAny_getItem_list hl b.1 (Int.lt_trans b.2 (by decide)) (by simpa using e) (h t')) (hs _ _)
end
section
variable {w : World} {p : Program} {loose : List Str} {mean : ExcName → Option Value} {mg mb : Str → Option Value} {base h₀ : Heap} {dp un : Nat} {gd : Option (List Code)} {outer : List Env} {s : Shared} {env : Env} {L : Addr} {m : Str → Option Value} {news : List (Addr × Obj)} {A₀ : Around} {Q E : Value → Shared → Prop}
theorem fits_K (X : (hd.heap_39 w.params).In h₀) (T : Top p loose mean mg mb h₀) (B : Below A₀ base outer h₀) (F : Fr h₀ L s.heap m) (N : News h₀ L s.heap news) (hA : A₀.deeper env = Ar dp un gd (env :: outer)) (hf : env.frame = some L) (hk : env.scope.kind = .function) (hroom : dp + 30 < recursionLimit) (hun : un + 200 < 9900)
    {al : Addr} {vs : List Value} {ps : List Nat} (hal : s.heap.IsList al vs.toArray) (hvs : StrsAre vs (ps.map pieceT)) (hps : ps.length ≤ 4 ∧ ∀ q ∈ ps, q < 6) (T0 : Str) (t0 : Tok) (hT : T0.length ≤ 24)
    (k : ∀ h' tk, Fr h₀ L h' m → News h₀ L h' news → Q (.bool (fitsP T0 ps)) { s with heap := h', toks := tk }) : wpAny (model PG w) (A₀.deeper env) (call (.ref 824) [.ref al, .str T0 t0]) Q E s := by
  have C := Cx.call (dp := dp) (un := un) (gd := gd) X T B F hA hf hk
  rw [hA]
  exact fits_spec C hroom hun hal hvs hps.1 hps.2 T0 t0 hT fun h' tk st => k h' tk (fr_stays F st) (news_stays N st)
theorem hexL_K (X : (hd.heap_39 w.params).In h₀) (T : Top p loose mean mg mb h₀) (B : Below A₀ base outer h₀) (F : Fr h₀ L s.heap m) (N : News h₀ L s.heap news) (hA : A₀.deeper env = Ar dp un gd (env :: outer)) (hf : env.frame = some L) (hk : env.scope.kind = .function) (hroom : dp + 30 < recursionLimit)
    {al : Addr} {vs : List Value} {ns : List Int} (hal : s.heap.IsList al vs.toArray) (hvs : IntsAre vs ns) (ho : RowOk ns)
    (k : ∀ h' tk t, Fr h₀ L h' m → News h₀ L h' news → Q (.str (hexT ns) t) { s with heap := h', toks := tk }) : wpAny (model PG w) (A₀.deeper env) (call (.ref 807) [.ref al]) Q E s := by
  have C := Cx.call (dp := dp) (un := un) (gd := gd) X T B F hA hf hk
  rw [hA]
  exact hexL_spec C hroom hal hvs (by rw [ho.1]; decide) ho.2 fun h' tk t st => k h' tk t (fr_stays F st) (news_stays N st)
end
noncomputable def WalkJ (h₀ : Heap) (row : List Int) (os : List Ord) (cR cW : Addr) (i : Nat) (m : Str → Option Value) (rest : List (Addr × Obj)) : Prop :=
  ∃ T ts cc oR oW vw R rs, m (Str.ofString "told") = some (.ref T) ∧ oR.data = .cell (some (.ref R)) ∧ oW.data = .cell vw ∧ IntsAre rs ((os.take i).foldl walkS (row, [])).1 ∧
    DatAll [] ts ((os.take i).foldl walkS (row, [])).2 ∧ (@Ne Nat cR T ∧ @Ne Nat cW T) ∧
    ((rest = [(T, W.listOf ts.toArray cc), (cW, oW), (cR, oR)] ∧ h₀.IsList R rs.toArray) ∨ (∃ n, rest = [(R, W.listOf rs.toArray n), (T, W.listOf ts.toArray cc), (cW, oW), (cR, oR)] ∧ @Ne Nat R T ∧ @Ne Nat cR R ∧ @Ne Nat cW R))
theorem hhi_of {k : Int} (h : k < 0 + ((12 : Nat) : Int)) : k < 12 := by omega
theorem dat_len {news : List (Addr × Obj)} : ∀ {vs : List Value} {ds : List Dat}, DatAll news vs ds → vs.length = ds.length
  | _, _, .nil => rfl
  | _, _, .cons _ r => congrArg (· + 1) (dat_len r)
theorem dat_snoc {news : List (Addr × Obj)} {v : Value} {d : Dat} (hd : DatIn news v d) : ∀ {vs : List Value} {ds : List Dat}, DatAll news vs ds → DatAll news (vs ++ [v]) (ds ++ [d])
  | _, _, .nil => .cons hd .nil
  | _, _, .cons a r => .cons a (dat_snoc hd r)
theorem walk_closeS {h₀ : Heap} {L I : Addr} {oI : Obj} {row : List Int} {os : List Ord} {cR cW : Addr} {i : Nat} {s₁ : Shared} {h' : Heap} {tk : Nat} {m' : Str → Option Value} {all : List (Addr × Obj)} {oR oW : Obj} {T D : Addr} {ts ys : List Value} {cc n : Nat} {vw : Option Value} {xs : List Int} {st : List Int × List Dat} {j : Nat} {tb : Tok}
    (F : Fr h₀ L h' m') (N : News h₀ L h' all) (hm : m' (Str.ofString "told") = some (.ref T)) (eR : oR.data = .cell (some (.ref D))) (eW : oW.data = .cell vw) (e : xs = swapR (widthN j) st.1) (hys : IntsAre ys xs) (hts : DatAll [] ts st.2)
    (hnext : (os.take (i + 1)).foldl walkS (row, []) = walkS st (.swap j)) (n1 : @Ne Nat cR T) (n2 : @Ne Nat cW T) (nI : @Ne Nat T I ∧ @Ne Nat cW I ∧ @Ne Nat cR I) (nD : @Ne Nat I D ∧ @Ne Nat T D ∧ @Ne Nat cW D ∧ @Ne Nat cR D)
    (sub : ∀ p ∈ [(I, oI), (D, W.listOf ys.toArray n), (T, W.listOf (ts.toArray.push (.bytes (xs.map fun n => n.toNat.toUInt8).toArray tb)) cc), (cW, oW), (cR, oR)], p ∈ all) :
    BaseEnd h₀ L I oI (WalkJ h₀ row os cR cW (i + 1)) s₁ .next { s₁ with heap := h', toks := tk } := by
  subst e
  have ep : ts.toArray.push (.bytes ((swapR (widthN j) st.1).map fun n => n.toNat.toUInt8).toArray tb) = (ts ++ [Value.bytes (bytesOf (swapR (widthN j) st.1)) tb]).toArray := by simp
  rw [ep] at sub
  refine ⟨.inl rfl, h', tk, m', [(D, W.listOf ys.toArray n), (T, W.listOf (ts ++ [Value.bytes (bytesOf (swapR (widthN j) st.1)) tb]).toArray cc), (cW, oW), (cR, oR)], rfl, F, fun p hp => N p (sub p hp), ?_, T, _, cc, oR, oW, vw, D, ys, hm, eR, eW, ?_, ?_, ⟨n1, n2⟩, .inr ⟨n, rfl, Ne.symm nD.2.1, nD.2.2.2, nD.2.2.1⟩⟩
  · intro p hp
    simp only [List.mem_cons, List.not_mem_nil, or_false] at hp
    rcases hp with rfl | rfl | rfl | rfl
    · exact Ne.symm nD.1
    · exact nI.1
    · exact nI.2.1
    · exact nI.2.2
  · rw [hnext]; exact hys
  · rw [hnext]; exact dat_snoc (.bytes _ _) hts
theorem walk_closeF {h₀ : Heap} {L I : Addr} {oI : Obj} {row : List Int} {os : List Ord} {cR cW : Addr} {i : Nat} {s₁ : Shared} {h' : Heap} {tk : Nat} {m' : Str → Option Value} {all : List (Addr × Obj)} {oR oW : Obj} {T R : Addr} {ts rs : List Value} {cc : Nat} {vw : Option Value} {st : List Int × List Dat} {ps : List Nat}
    (F : Fr h₀ L h' m') (N : News h₀ L h' all) (hm : m' (Str.ofString "told") = some (.ref T)) (eR : oR.data = .cell (some (.ref R))) (eW : oW.data = .cell vw) (hrs : IntsAre rs st.1) (hts : DatAll [] ts st.2)
    (hnext : (os.take (i + 1)).foldl walkS (row, []) = walkS st (.fits ps)) (n1 : @Ne Nat cR T) (n2 : @Ne Nat cW T) (nI : @Ne Nat T I ∧ @Ne Nat cW I ∧ @Ne Nat cR I)
    (hc : (h₀.IsList R rs.toArray ∧ ∀ p ∈ [(I, oI), (T, W.listOf (ts.toArray.push (.bool (fitsP (hexT st.1) ps))) cc), (cW, oW), (cR, oR)], p ∈ all) ∨
      ∃ n, (∀ p ∈ [(I, oI), (R, W.listOf rs.toArray n), (T, W.listOf (ts.toArray.push (.bool (fitsP (hexT st.1) ps))) cc), (cW, oW), (cR, oR)], p ∈ all) ∧ @Ne Nat R I ∧ @Ne Nat R T ∧ @Ne Nat cR R ∧ @Ne Nat cW R) :
    BaseEnd h₀ L I oI (WalkJ h₀ row os cR cW (i + 1)) s₁ .next { s₁ with heap := h', toks := tk } := by
  have ep : ts.toArray.push (.bool (fitsP (hexT st.1) ps)) = (ts ++ [Value.bool (fitsP (hexT st.1) ps)]).toArray := by simp
  rw [ep] at hc
  rcases hc with ⟨hl, sub⟩ | ⟨n, sub, r1, r2, r3, r4⟩
  · refine ⟨.inl rfl, h', tk, m', [(T, W.listOf (ts ++ [Value.bool (fitsP (hexT st.1) ps)]).toArray cc), (cW, oW), (cR, oR)], rfl, F, fun p hp => N p (sub p hp), ?_, T, _, cc, oR, oW, vw, R, rs, hm, eR, eW, ?_, ?_, ⟨n1, n2⟩, .inl ⟨rfl, hl⟩⟩
    · intro p hp
      simp only [List.mem_cons, List.not_mem_nil, or_false] at hp
      rcases hp with rfl | rfl | rfl
      · exact nI.1
      · exact nI.2.1
      · exact nI.2.2
    · rw [hnext]; exact hrs
    · rw [hnext]; exact dat_snoc (.bool _) hts
  · refine ⟨.inl rfl, h', tk, m', [(R, W.listOf rs.toArray n), (T, W.listOf (ts ++ [Value.bool (fitsP (hexT st.1) ps)]).toArray cc), (cW, oW), (cR, oR)], rfl, F, fun p hp => N p (sub p hp), ?_, T, _, cc, oR, oW, vw, R, rs, hm, eR, eW, ?_, ?_, ⟨n1, n2⟩, .inr ⟨n, rfl, r2, r3, r4⟩⟩
    · intro p hp
      simp only [List.mem_cons, List.not_mem_nil, or_false] at hp
      rcases hp with rfl | rfl | rfl | rfl
      · exact r1
      · exact nI.1
      · exact nI.2.1
      · exact nI.2.2
    · rw [hnext]; exact hrs
    · rw [hnext]; exact dat_snoc (.bool _) hts
theorem small9 {ts : List Value} (h : ts.length ≤ 9) : ts.toArray.size ≤ sizeLine := by rw [List.size_toArray, sizeLine_eq]; omega
theorem told_form {m : Str → Option Value} {T : Addr} (h : m (Str.ofString "told") = some (.ref T)) : m = fun y => if y = Str.ofString "told" then some (.ref T) else m y := by
  funext y
  split
  · subst_vars; exact h
  · rfl
theorem strs2 {ws : List Value} {a b : Str} (h : StrsAre ws [a, b]) : ∃ t u, ws = [.str a t, .str b u] := by
  cases h with
  | cons x t h => cases h with
    | cons y u h => cases h; exact ⟨_, _, rfl⟩
theorem strs1 {ws : List Value} {a : Str} {l : List Str} (h : StrsAre ws (a :: l)) : ∃ t us, ws = .str a t :: us ∧ StrsAre us l := by
  cases h with
  | cons x t h => exact ⟨_, _, rfl, h⟩
namespace walked_specN
noncomputable def S (w : World) (dp un : Nat) (gd : Option (List Code)) (s : Shared) (p : Program) (loose : List Str) (mean : ExcName → Option Value) (mg mb : Str → Option Value) (base : Heap) (outer : List Env) (Q E : Value → Shared → Prop) (al rl : Addr) (vs rs : List Value) (os : List Ord) (row : List Int) : Prop := ∀ (C : Cx w p loose mean mg mb base dp un gd outer s.heap s) (hroom : dp + 60 < recursionLimit) (hun : un + 300 < 9900) (hal : s.heap.IsList al vs.toArray) (hvl : vs.length = os.length) (hos : ∀ (i : Nat) v o, vs[i]? = some v → os[i]? = some o → OrdAt s.heap v o) (hok : ∀ o ∈ os, o.Ok) (hlen : os.length ≤ 9) (hrl : s.heap.IsList rl rs.toArray) (hrs : IntsAre rs row) (hrow : RowOk row) (k : ∀ h' tk v tl, s.heap.StaysIn h' → Fresh s.heap h' tl → DatIn tl v (Dat.list (walkP row os)) → Q v { s with heap := h', toks := tk }), wpAny (model PG w) (Ar dp un gd outer) (call (.ref 829) [.ref al, .ref rl]) Q E s
noncomputable def d : World × Nat × Nat × Option (List Code) × Shared × Program × List Str × (ExcName → Option Value) × (Str → Option Value) × (Str → Option Value) × Heap × List Env × (Value → Shared → Prop) × (Value → Shared → Prop) × Addr × Addr × List Value × List Value × List Ord × List Int := cex (jW, 0, 0, none, jS, default, [], (fun _ => none), (fun _ => none), (fun _ => none), default, [], (fun _ _ => True), (fun _ _ => True), (0 : Nat), (0 : Nat), [], [], [], []) fun d => S d.1 d.2.1 d.2.2.1 d.2.2.2.1 d.2.2.2.2.1 d.2.2.2.2.2.1 d.2.2.2.2.2.2.1 d.2.2.2.2.2.2.2.1 d.2.2.2.2.2.2.2.2.1 d.2.2.2.2.2.2.2.2.2.1 d.2.2.2.2.2.2.2.2.2.2.1 d.2.2.2.2.2.2.2.2.2.2.2.1 d.2.2.2.2.2.2.2.2.2.2.2.2.1 d.2.2.2.2.2.2.2.2.2.2.2.2.2.1 d.2.2.2.2.2.2.2.2.2.2.2.2.2.2.1 d.2.2.2.2.2.2.2.2.2.2.2.2.2.2.2.1 d.2.2.2.2.2.2.2.2.2.2.2.2.2.2.2.2.1 d.2.2.2.2.2.2.2.2.2.2.2.2.2.2.2.2.2.1 d.2.2.2.2.2.2.2.2.2.2.2.2.2.2.2.2.2.2.1 d.2.2.2.2.2.2.2.2.2.2.2.2.2.2.2.2.2.2.2
@[irreducible] noncomputable def w : World := d.1
@[irreducible] noncomputable def dp : Nat := d.2.1
@[irreducible] noncomputable def un : Nat := d.2.2.1
@[irreducible] noncomputable def gd : Option (List Code) := d.2.2.2.1
@[irreducible] noncomputable def s : Shared := d.2.2.2.2.1
@[irreducible] noncomputable def L' : Addr := s.heap.objs.size
@[irreducible] noncomputable def p : Program := d.2.2.2.2.2.1
@[irreducible] noncomputable def loose : List Str := d.2.2.2.2.2.2.1
@[irreducible] noncomputable def mean : ExcName → Option Value := d.2.2.2.2.2.2.2.1
@[irreducible] noncomputable def mg : Str → Option Value := d.2.2.2.2.2.2.2.2.1
@[irreducible] noncomputable def mb : Str → Option Value := d.2.2.2.2.2.2.2.2.2.1
@[irreducible] noncomputable def base : Heap := d.2.2.2.2.2.2.2.2.2.2.1
@[irreducible] noncomputable def outer : List Env := d.2.2.2.2.2.2.2.2.2.2.2.1
@[irreducible] noncomputable def Q : Value → Shared → Prop := d.2.2.2.2.2.2.2.2.2.2.2.2.1
@[irreducible] noncomputable def E : Value → Shared → Prop := d.2.2.2.2.2.2.2.2.2.2.2.2.2.1
@[irreducible] noncomputable def al : Addr := d.2.2.2.2.2.2.2.2.2.2.2.2.2.2.1
@[irreducible] noncomputable def rl : Addr := d.2.2.2.2.2.2.2.2.2.2.2.2.2.2.2.1
@[irreducible] noncomputable def vs : List Value := d.2.2.2.2.2.2.2.2.2.2.2.2.2.2.2.2.1
@[irreducible] noncomputable def rs : List Value := d.2.2.2.2.2.2.2.2.2.2.2.2.2.2.2.2.2.1
@[irreducible] noncomputable def os : List Ord := d.2.2.2.2.2.2.2.2.2.2.2.2.2.2.2.2.2.2.1
@[irreducible] noncomputable def row : List Int := d.2.2.2.2.2.2.2.2.2.2.2.2.2.2.2.2.2.2.2
noncomputable def core0 := fun (zt : Sp _) => (show S w dp un gd s p loose mean mg mb base outer Q E al rl vs rs os row from by
  intro C hroom hun hal hvl hos hok hlen hrl hrs hrow k
  obtain ⟨X, T, B, G, Gz⟩ := C
  refine wpAny_call ?_
  k_dflt (refine' enterC (news := []) X T (fun _ _ e => e) (Nat.le_refl _) (fun _ h => nomatch h) ?k6 ?k7 ?k8 ?k9 ?kB ?kD ?_ ?c2 ?c3 ?c4; (case k6 => k_is); (case k7 => k_is); (case k8 => (show dp < _; omega)); (case k9 => first | exact BindsTo.of_eq rfl | exact binds_K (by k_in) rfl (by k_is) rfl rfl rfl);(case kB => exact rfl); (case kD => decide +kernel); (case c2 => exact rfl); (case c3 => exact rfl); (case c4 => exact rfl))
  intro L₀ h₁ tk' cells' hL F N Y l1 G1
  obtain rfl : L₀ = L' := hL.trans (by with_unfolding_all rfl)
  k_cells Y
  (try simp only [List.cons_append, List.nil_append] at N)
  (try dsimp only); (try k_fold)
  iterate 60 (first | (with_reducible show wpAny _ _ (exec (Stmt.For _ _ _ _ _) _) _ _ _) | (k_unfold; (try dsimp only)) | walk1 | (dsimp only; walk1))
  rename_i oW oR dd1 dd2 T0 h2 hT q1 F4 N4
  refine for_base (h₀ := s.heap) (l := al) (vs := vs) (WalkJ s.heap row os (L' + 1) (L' + 1 + 1)) rfl rfl rfl ?_
  walk1
  refine ⟨_, _, rfl, hal, F4, N4, ⟨T0, [], _, oR, oW, _, rl, rs, rfl, by assumption, by assumption, hrs, .nil, ⟨by omega, by omega⟩, .inl ⟨rfl, hrl⟩⟩, ?_, ?_⟩
  · rintro i v m rest h tk I oI hv ⟨T, ts, cc, oR, oW, vw, R, rs', hm, eR, eW, hrs', hts, ⟨n1, n2⟩, hcase⟩ F N hne
    have hi : i < os.length := by rw [← hvl]; exact (List.getElem?_eq_some_iff.mp hv).1
    obtain ⟨a, ws, rfl, hla, hws⟩ := hos i v os[i] hv (List.getElem?_eq_getElem hi)
    have hok9 := hok _ (List.getElem_mem hi)
    have hrow9 := rowsOk_foldl (os.take i) (row, []) (fun o ho => hok o (List.mem_of_mem_take ho)) hrow
    have hnext : (os.take (i + 1)).foldl walkS (row, []) = walkS ((os.take i).foldl walkS (row, [])) os[i] := by
      rw [List.take_add_one, List.getElem?_eq_getElem hi, List.foldl_append]; rfl
    have htl : ts.length ≤ 9 := by
      have e := walk_len (os.take i) (row, [])
      rw [dat_len hts, e, List.length_take]
      show 0 + _ ≤ 9
      omega
    rw [told_form hm] at F
    generalize (os.take i).foldl walkS (row, []) = st at *
    generalize os[i] = o at *
    have hl12 : rs'.length = 12 := by rw [hrs'.length, hrow9.1]
    clear hm hv
    rename Top _ _ _ _ _ _ => TP
    try dsimp only
    revert hcase N hne hla hws hok9 hnext
    revert rest ws o
    revert hroom hun X TP B eR eW n1 n2 hi F htl hrs' hts hrow9 hl12
    revert i m h tk I oI T ts cc oR oW vw R rs' a st
    exact cur16 zt.h
  · rintro m rest h tk ⟨T, ts, cc, oR, oW, vw, R, rs', hm, eR, eW, hrs', hts, ⟨n1, n2⟩, hcase⟩ F N
    rw [told_form hm] at F
    rw [hvl, List.take_length] at hts
    have NT : News s.heap L' h [(T, W.listOf ts.toArray cc)] := fun p hp => by
      rw [List.mem_singleton.mp hp]
      rcases hcase with ⟨rfl, _⟩ | ⟨n, rfl, _⟩
      · exact N _ (.head _)
      · exact N _ (.tail _ (.head _))
    repeat' ((first | (k_unfold; (try dsimp only)) | (k_end; wrow_close) | walk1 | (dsimp only; walk1) | (leave1; walk_say "STEP leave1"; try dsimp only) | fail "no step") <;> (try dsimp only))
    exact k _ _ _ _ F.keep (Fresh.of NT) (.list (.head _) (DatAll.mono (news := []) (fun _ hp => absurd hp List.not_mem_nil) hts)))
noncomputable def z := pk core0
@[irreducible] noncomputable def i : Nat := z.1.1.1.1.1.1.1.1.1.1.1.1.1.1.1
@[irreducible] noncomputable def m : Str → Option Value := z.1.1.1.1.1.1.1.1.1.1.1.1.1.1.2
@[irreducible] noncomputable def h : Heap := z.1.1.1.1.1.1.1.1.1.1.1.1.1.2
@[irreducible] noncomputable def tk : Nat := z.1.1.1.1.1.1.1.1.1.1.1.1.2
@[irreducible] noncomputable def I : Addr := z.1.1.1.1.1.1.1.1.1.1.1.2
@[irreducible] noncomputable def oI : Obj := z.1.1.1.1.1.1.1.1.1.1.2
@[irreducible] noncomputable def T : Addr := z.1.1.1.1.1.1.1.1.1.2
@[irreducible] noncomputable def ts : List Value := z.1.1.1.1.1.1.1.1.2
@[irreducible] noncomputable def cc : Nat := z.1.1.1.1.1.1.1.2
@[irreducible] noncomputable def oR : Obj := z.1.1.1.1.1.1.2
@[irreducible] noncomputable def oW : Obj := z.1.1.1.1.1.2
@[irreducible] noncomputable def vw : Option Value := z.1.1.1.1.2
@[irreducible] noncomputable def R : Addr := z.1.1.1.2
@[irreducible] noncomputable def rs' : List Value := z.1.1.2
@[irreducible] noncomputable def a : Addr := z.1.2
@[irreducible] noncomputable def st : List Int × List Dat := z.2
theorem turn : domP core0 (((((((((((((((i, m), h), tk), I), oI), T), ts), cc), oR), oW), vw), R), rs'), a), st) := by
  dsimp only [domP]
  intro hroom hun X TP B eR eW n1 n2 hi F htl hrs' hts hrow9 hl12 rest ws o hcase N hne hla hws hok9 hnext
  rcases hcase with ⟨rfl, hR⟩ | ⟨nn, rfl, n3, n4, n5⟩
  · have nT : @Ne Nat T I := hne _ (.head _)
    have nW : @Ne Nat (L' + 1 + 1) I := hne _ (.tail _ (.head _))
    have nR : @Ne Nat (L' + 1) I := hne _ (.tail _ (.tail _ (.head _)))
    clear hne
    cases o with
    | swap j =>
      have hj6 : j < 6 := hok9
      obtain ⟨t1, t2, rfl⟩ := strs2 hws
      repeat' ((first | ((fail_if_success (with_reducible show LCg.CompSrc _ _ _ _ _ _ _ _ _ _ _ _ _ _)); first | ((with_reducible show wpAny _ _ (exec (Stmt.If _ _ _ _) _) _ _ _); (refine wpAny_If ?_)) | ((with_reducible show wpAny _ _ (call (Value.builtin "len") _) _ _ _); (k_dflt (refine' row_len ?zqhl ?zqh12 ?_; (case zqhl => first | is_list | exact base_list (by assumption) (by assumption) | exact News.isList (by assumption) (by k_mem)); (case zqh12 => assumption); k_whole))) | ((with_reducible show wpAny _ _ (eval (PySem.Expr.ListComp _ _ _ _) _) _ _ _); (k_dflt (refine LCg.ListComp_U (F₀ := by k_asm) (by with_unfolding_all rfl) (by decide) (by rfl) (by decide) (by rfl) ?_))) | (first | with_reducible refine ite_tt ?_ | with_reducible refine ite_ff ?_) | ((with_reducible show wpAny _ _ (compareOp CmpOp.Eq (Value.str _ _) (Value.str _ _)) _ _ _); (k_dflt (first | (with_reducible refine' eqS (b := true) ?zqe ?_; (case zqe => decide +kernel)) | (with_reducible refine' eqS (b := false) ?zqe ?_; (case zqe => decide +kernel))))) | ((with_reducible show wpAny _ _ (call (Value.type "int") _) _ _ _); (k_dflt (refine KIN.call_text (int_width (by assumption)) (width_len (by assumption)) ?_))) | (k_unfold; (try dsimp only)) | walk1 | (dsimp only; walk1)) | fail "no step") <;> (try dsimp only))
      k_dflt (refine LCg.CompSrc.range (n := 12) (by rfl) (by k_asm) (by k_asm) (by assumption) (by decide) (by rfl) (by rw [PySem.sizeLine_eq]; omega) ?_)
      intro g'
      refine' kcf_range (fun k => st.1.getD (swapI ((widthN j : Nat) : Int) k).toNat 0) (fun k' t' I' oI' C' oC' D' m' ys' h' tk' E' hlo' hhi' hC' hx' F' N' off' ne' hM' => ?_) ?_
      · have off0 := off'
        simp only [LCg.Off3] at off'
        repeat' ((first | ((fail_if_success (with_reducible show LCg.CompEnd _ _ _ _ _ _ _ _ _ _ _ _ _ _)); first | ((with_reducible show wpAny _ _ (subscriptTail (PySem.Expr.Name _ _) (PySem.Expr.BinOp _ _ _ _) (Value.ref _) (Value.int _ _)) _ _ _); (k_dflt (refine' row_item ?zqhl ?zqhr ?zqhn ?zqhi ?zqh0 ?zqh1 ?_ ?zqhs; (case zqhl => first | is_list | exact base_list (by assumption) (by assumption) | exact News.isList (by assumption) (by k_mem)); (case zqhr => assumption); (case zqhn => exact And.left (by assumption)); (case zqhi => assumption); (case zqh0 => assumption); (case zqh1 => exact hhi_of (by assumption)); (case zqhs => (intro _ _; with_unfolding_all rfl)); k_whole; intro _))) | ((with_reducible show wpAny _ _ (binaryOp Operator.Mod (Value.int _ _) (Value.int _ _)) _ _ _); (k_dflt (refine fm_w (by assumption) ?_))) | ((with_reducible show wpAny _ _ (binaryOp Operator.Mult (Value.int _ _) (Value.int _ _)) _ _ _); (k_dflt (refine mul_w (by assumption) ?_))) | ((with_reducible show wpAny _ _ (binaryOp Operator.FloorDiv (Value.int _ _) (Value.int _ _)) _ _ _); (k_dflt (refine fd_w (by assumption) ?_))) | (k_unfold; (try dsimp only)) | walk1 | (dsimp only; walk1)) | fail "no step") <;> (try dsimp only))
        exact LCg.CompEnd.intro (by assumption) (by assumption) _ (by kcf_all) off0 trivial (kcf_el rfl rfl rfl)
      · have hO9 : ∀ n ∈ (rangeKs 0 12).map (fun k => st.1.getD (swapI ((widthN j : Nat) : Int) k).toNat 0), 0 ≤ n ∧ n < 256 := fun n hn => oct_byte ((swapR_ok hj6 hrow9).2 n (by unfold swapR; rw [hrow9.1]; exact hn))
        unfold KPfDone
        intro ys hys
        repeat' ((first | ((fail_if_success (with_reducible show BaseEnd _ _ _ _ _ _ _ _)); first | ((with_reducible show wpAny _ _ (call (Value.builtin "list.append") _) _ _ _); (k_dflt (refine' append_K ?zqk1 ?zqk2 ?zqk3 ?_ ?zqz; (case zqk1 => k_asm); (case zqk2 => k_asm); (case zqk3 => k_upd); (case zqz => exact small9 (by assumption)); k_whole); intro h' F' N'; (try k_sweep))) | ((with_reducible show LCg.FinE _ _ _ _ _ _ _); ((unfold LCg.FinE); intro D' h' tk' F' N' o1'; (have oRaw := o1'); (try simp only [LCg.Off1, and_true] at o1'); (try simp only [List.nil_append, List.cons_append] at N'); (try dsimp only))) | ((with_reducible show wpAny _ _ (call (Value.type "bytes") _) _ _ _); (k_dflt (refine' bytes_K ?zqF ?zqN ?zql ?zqi ?zqr ?zqz ?zqh ?_; (case zqF => k_asm); (case zqN => k_asm); (case zql => is_list); (case zqi => assumption); (case zqr => assumption); (case zqz => (have hkl := IntsAre.length (by assumption); rw [hkl, List.length_map, rangeKs_length, sizeLine_eq]; decide)); (case zqh => with_unfolding_all rfl); k_whole); intro h' t' k' F' N' hB')) | (k_unfold; (try dsimp only)) | walk1 | (dsimp only; walk1)) | fail "no step") <;> (try dsimp only))
        have eS : (rangeKs 0 12).map (fun k => st.1.getD (swapI ((widthN j : Nat) : Int) k).toNat 0) = swapR (widthN j) st.1 := by unfold swapR; rw [hrow9.1]
        obtain ⟨q1, q2, q3, q4⟩ := And.intro (And.left ‹LCg.Off1 _ (_ :: _ :: _ :: _ :: [])›) (And.right ‹LCg.Off1 _ (_ :: _ :: _ :: _ :: [])›)
        exact walk_closeS (by assumption) (by assumption) rfl (by assumption) ‹(_ : Obj).data = .cell (some (.int _ _))› eS hys hts hnext n1 n2 ⟨nT, nW, nR⟩ ⟨q1, q2, q3, q4.1⟩ (by kcf_all)
    | fits ps =>
      obtain ⟨t1, ws', rfl, hws'⟩ := strs1 hws
      have hw9 : (Value.str (Str.ofString "fits") t1 :: ws').length ≤ 9 := by
        have e := hws.length
        rw [e]
        show (ps.map pieceT).length + 1 ≤ 9
        rw [List.length_map]
        have := hok9.1
        omega
      repeat' (first | ((fail_if_success (with_reducible show BaseEnd _ _ _ _ _ _ _ _)); first | ((with_reducible show wpAny _ _ (exec (Stmt.If _ _ _ _) _) _ _ _); (refine wpAny_If ?_)) | (((with_reducible show wpAny _ _ (subscriptTail _ (PySem.Expr.Slice _ _ none _) (Value.ref _) (Value.ref _)) _ _ _); k_dflt (refine' kms_slice_lit ?zqF ?zqN ?zql ?zqp ?zqq ?zqe ?_ ?zqs ?zqt ?zqz; (case zqF => k_asm); (case zqN => k_asm); (case zql => exact base_list (by assumption) (by assumption)); (case zqp => kmk_part); (case zqq => kmk_part); (case zqe => exact pick_tail _ _); (case zqs => with_unfolding_all rfl); (case zqt => kmk_pure); (case zqz => exact small9 (by assumption))); intro D' h' F' N' l1; (try k_lt l1); (try k_sweep))) | ((k_dflt ((with_reducible show wpAny _ _ (call (Value.ref 807) [_]) _ _ _); refine' hexL_K ?zqk1 ?zqk2 ?zqk3 ?zqk4 ?zqk5 ?zqk6 ?zqk7 ?zqk8 ?zqk9 ?zqkl ?zqks ?zqkp ?_; (case zqk1 => k_asm); (case zqk2 => k_asm); (case zqk3 => k_asm); (case zqk4 => k_asm); (case zqk5 => k_asm); (case zqk6 => exact rfl); (case zqk7 => exact rfl); (case zqk8 => exact rfl); (case zqk9 => (dsimp only [Ar]; omega)); (case zqkl => first | is_list | exact base_list (by assumption) (by assumption) | exact News.isList (by assumption) (by k_mem)); (case zqks => assumption); (case zqkp => assumption); k_whole; intro h' tk' t' F' N'))) | ((k_dflt ((with_reducible show wpAny _ _ (call (Value.ref 824) [_, _]) _ _ _); refine' fits_K ?zqk1 ?zqk2 ?zqk3 ?zqk4 ?zqk5 ?zqk6 ?zqk7 ?zqk8 ?zqk9 ?zqku ?zqkl ?zqks ?zqkp _ _ ?zqkT ?_; (case zqk1 => k_asm); (case zqk2 => k_asm); (case zqk3 => k_asm); (case zqk4 => k_asm); (case zqk5 => k_asm); (case zqk6 => exact rfl); (case zqk7 => exact rfl); (case zqk8 => exact rfl); (case zqk9 => (dsimp only [Ar]; omega)); (case zqku => (dsimp only [Ar]; omega)); (case zqkl => is_list); (case zqks => assumption); (case zqkp => assumption); (case zqkT => exact hexT_len (by assumption)); k_whole; intro h' tk' F' N'))) | ((with_reducible show wpAny _ _ (call (Value.builtin "list.append") _) _ _ _); (k_dflt (refine' append_K ?zqk1 ?zqk2 ?zqk3 ?_ ?zqz; (case zqk1 => k_asm); (case zqk2 => k_asm); (case zqk3 => k_upd); (case zqz => exact small9 (by assumption)); k_whole); intro h' F' N'; (try k_sweep))) | (first | with_reducible refine ite_tt ?_ | with_reducible refine ite_ff ?_) | ((with_reducible show wpAny _ _ (compareOp CmpOp.Eq (Value.str _ _) (Value.str _ _)) _ _ _); (k_dflt (first | (with_reducible refine' eqS (b := true) ?zqe ?_; (case zqe => decide +kernel)) | (with_reducible refine' eqS (b := false) ?zqe ?_; (case zqe => decide +kernel))))) | (k_unfold; (try dsimp only)) | walk1 | (dsimp only; walk1)) | fail "no step")
      exact walk_closeF (by assumption) (by assumption) rfl eR eW hrs' hts hnext n1 n2 ⟨nT, nW, nR⟩ (.inl ⟨hR, by kcf_all⟩)
  · have nRI : @Ne Nat R I := hne _ (.head _)
    have nT : @Ne Nat T I := hne _ (.tail _ (.head _))
    have nW : @Ne Nat (L' + 1 + 1) I := hne _ (.tail _ (.tail _ (.head _)))
    have nR : @Ne Nat (L' + 1) I := hne _ (.tail _ (.tail _ (.tail _ (.head _))))
    clear hne
    cases o with
    | swap j =>
      have hj6 : j < 6 := hok9
      obtain ⟨t1, t2, rfl⟩ := strs2 hws
      repeat' ((first | ((fail_if_success (with_reducible show LCg.CompSrc _ _ _ _ _ _ _ _ _ _ _ _ _ _)); first | ((with_reducible show wpAny _ _ (exec (Stmt.If _ _ _ _) _) _ _ _); (refine wpAny_If ?_)) | ((with_reducible show wpAny _ _ (call (Value.builtin "len") _) _ _ _); (k_dflt (refine' row_len ?zqhl ?zqh12 ?_; (case zqhl => first | is_list | exact base_list (by assumption) (by assumption) | exact News.isList (by assumption) (by k_mem)); (case zqh12 => assumption); k_whole))) | ((with_reducible show wpAny _ _ (eval (PySem.Expr.ListComp _ _ _ _) _) _ _ _); (k_dflt (refine LCg.ListComp_U (F₀ := by k_asm) (by with_unfolding_all rfl) (by decide) (by rfl) (by decide) (by rfl) ?_))) | (first | with_reducible refine ite_tt ?_ | with_reducible refine ite_ff ?_) | ((with_reducible show wpAny _ _ (compareOp CmpOp.Eq (Value.str _ _) (Value.str _ _)) _ _ _); (k_dflt (first | (with_reducible refine' eqS (b := true) ?zqe ?_; (case zqe => decide +kernel)) | (with_reducible refine' eqS (b := false) ?zqe ?_; (case zqe => decide +kernel))))) | ((with_reducible show wpAny _ _ (call (Value.type "int") _) _ _ _); (k_dflt (refine KIN.call_text (int_width (by assumption)) (width_len (by assumption)) ?_))) | (k_unfold; (try dsimp only)) | walk1 | (dsimp only; walk1)) | fail "no step") <;> (try dsimp only))
      k_dflt (refine LCg.CompSrc.range (n := 12) (by rfl) (by k_asm) (by k_asm) (by assumption) (by decide) (by rfl) (by rw [PySem.sizeLine_eq]; omega) ?_)
      intro g'
      refine' kcf_range (fun k => st.1.getD (swapI ((widthN j : Nat) : Int) k).toNat 0) (fun k' t' I' oI' C' oC' D' m' ys' h' tk' E' hlo' hhi' hC' hx' F' N' off' ne' hM' => ?_) ?_
      · have off0 := off'
        simp only [LCg.Off3] at off'
        repeat' ((first | ((fail_if_success (with_reducible show LCg.CompEnd _ _ _ _ _ _ _ _ _ _ _ _ _ _)); first | ((with_reducible show wpAny _ _ (subscriptTail (PySem.Expr.Name _ _) (PySem.Expr.BinOp _ _ _ _) (Value.ref _) (Value.int _ _)) _ _ _); (k_dflt (refine' row_item ?zqhl ?zqhr ?zqhn ?zqhi ?zqh0 ?zqh1 ?_ ?zqhs; (case zqhl => first | is_list | exact base_list (by assumption) (by assumption) | exact News.isList (by assumption) (by k_mem)); (case zqhr => assumption); (case zqhn => exact And.left (by assumption)); (case zqhi => assumption); (case zqh0 => assumption); (case zqh1 => exact hhi_of (by assumption)); (case zqhs => (intro _ _; with_unfolding_all rfl)); k_whole; intro _))) | ((with_reducible show wpAny _ _ (binaryOp Operator.Mod (Value.int _ _) (Value.int _ _)) _ _ _); (k_dflt (refine fm_w (by assumption) ?_))) | ((with_reducible show wpAny _ _ (binaryOp Operator.Mult (Value.int _ _) (Value.int _ _)) _ _ _); (k_dflt (refine mul_w (by assumption) ?_))) | ((with_reducible show wpAny _ _ (binaryOp Operator.FloorDiv (Value.int _ _) (Value.int _ _)) _ _ _); (k_dflt (refine fd_w (by assumption) ?_))) | (k_unfold; (try dsimp only)) | walk1 | (dsimp only; walk1)) | fail "no step") <;> (try dsimp only))
        exact LCg.CompEnd.intro (by assumption) (by assumption) _ (by kcf_all) off0 trivial (kcf_el rfl rfl rfl)
      · have hO9 : ∀ n ∈ (rangeKs 0 12).map (fun k => st.1.getD (swapI ((widthN j : Nat) : Int) k).toNat 0), 0 ≤ n ∧ n < 256 := fun n hn => oct_byte ((swapR_ok hj6 hrow9).2 n (by unfold swapR; rw [hrow9.1]; exact hn))
        unfold KPfDone
        intro ys hys
        repeat' ((first | ((fail_if_success (with_reducible show BaseEnd _ _ _ _ _ _ _ _)); first | ((with_reducible show wpAny _ _ (call (Value.builtin "list.append") _) _ _ _); (k_dflt (refine' append_K ?zqk1 ?zqk2 ?zqk3 ?_ ?zqz; (case zqk1 => k_asm); (case zqk2 => k_asm); (case zqk3 => k_upd); (case zqz => exact small9 (by assumption)); k_whole); intro h' F' N'; (try k_sweep))) | ((with_reducible show LCg.FinE _ _ _ _ _ _ _); ((unfold LCg.FinE); intro D' h' tk' F' N' o1'; (have oRaw := o1'); (try simp only [LCg.Off1, and_true] at o1'); (try simp only [List.nil_append, List.cons_append] at N'); (try dsimp only))) | ((with_reducible show wpAny _ _ (call (Value.type "bytes") _) _ _ _); (k_dflt (refine' bytes_K ?zqF ?zqN ?zql ?zqi ?zqr ?zqz ?zqh ?_; (case zqF => k_asm); (case zqN => k_asm); (case zql => is_list); (case zqi => assumption); (case zqr => assumption); (case zqz => (have hkl := IntsAre.length (by assumption); rw [hkl, List.length_map, rangeKs_length, sizeLine_eq]; decide)); (case zqh => with_unfolding_all rfl); k_whole); intro h' t' k' F' N' hB')) | (k_unfold; (try dsimp only)) | walk1 | (dsimp only; walk1)) | fail "no step") <;> (try dsimp only))
        have eS : (rangeKs 0 12).map (fun k => st.1.getD (swapI ((widthN j : Nat) : Int) k).toNat 0) = swapR (widthN j) st.1 := by unfold swapR; rw [hrow9.1]
        obtain ⟨q1, _, q2, q3, q4⟩ := And.intro (And.left ‹LCg.Off1 _ (_ :: _ :: _ :: _ :: _ :: [])›) (And.right ‹LCg.Off1 _ (_ :: _ :: _ :: _ :: _ :: [])›)
        exact walk_closeS (by assumption) (by assumption) rfl (by assumption) ‹(_ : Obj).data = .cell (some (.int _ _))› eS hys hts hnext n1 n2 ⟨nT, nW, nR⟩ ⟨q1, q2, q3, q4.1⟩ (by kcf_all)
    | fits ps =>
      obtain ⟨t1, ws', rfl, hws'⟩ := strs1 hws
      have hw9 : (Value.str (Str.ofString "fits") t1 :: ws').length ≤ 9 := by
        have e := hws.length
        rw [e]
        show (ps.map pieceT).length + 1 ≤ 9
        rw [List.length_map]
        have := hok9.1
        omega
      repeat' (first | ((fail_if_success (with_reducible show BaseEnd _ _ _ _ _ _ _ _)); first | ((with_reducible show wpAny _ _ (exec (Stmt.If _ _ _ _) _) _ _ _); (refine wpAny_If ?_)) | (((with_reducible show wpAny _ _ (subscriptTail _ (PySem.Expr.Slice _ _ none _) (Value.ref _) (Value.ref _)) _ _ _); k_dflt (refine' kms_slice_lit ?zqF ?zqN ?zql ?zqp ?zqq ?zqe ?_ ?zqs ?zqt ?zqz; (case zqF => k_asm); (case zqN => k_asm); (case zql => exact base_list (by assumption) (by assumption)); (case zqp => kmk_part); (case zqq => kmk_part); (case zqe => exact pick_tail _ _); (case zqs => with_unfolding_all rfl); (case zqt => kmk_pure); (case zqz => exact small9 (by assumption))); intro D' h' F' N' l1; (try k_lt l1); (try k_sweep))) | ((k_dflt ((with_reducible show wpAny _ _ (call (Value.ref 807) [_]) _ _ _); refine' hexL_K ?zqk1 ?zqk2 ?zqk3 ?zqk4 ?zqk5 ?zqk6 ?zqk7 ?zqk8 ?zqk9 ?zqkl ?zqks ?zqkp ?_; (case zqk1 => k_asm); (case zqk2 => k_asm); (case zqk3 => k_asm); (case zqk4 => k_asm); (case zqk5 => k_asm); (case zqk6 => exact rfl); (case zqk7 => exact rfl); (case zqk8 => exact rfl); (case zqk9 => (dsimp only [Ar]; omega)); (case zqkl => first | is_list | exact base_list (by assumption) (by assumption) | exact News.isList (by assumption) (by k_mem)); (case zqks => assumption); (case zqkp => assumption); k_whole; intro h' tk' t' F' N'))) | ((k_dflt ((with_reducible show wpAny _ _ (call (Value.ref 824) [_, _]) _ _ _); refine' fits_K ?zqk1 ?zqk2 ?zqk3 ?zqk4 ?zqk5 ?zqk6 ?zqk7 ?zqk8 ?zqk9 ?zqku ?zqkl ?zqks ?zqkp _ _ ?zqkT ?_; (case zqk1 => k_asm); (case zqk2 => k_asm); (case zqk3 => k_asm); (case zqk4 => k_asm); (case zqk5 => k_asm); (case zqk6 => exact rfl); (case zqk7 => exact rfl); (case zqk8 => exact rfl); (case zqk9 => (dsimp only [Ar]; omega)); (case zqku => (dsimp only [Ar]; omega)); (case zqkl => is_list); (case zqks => assumption); (case zqkp => assumption); (case zqkT => exact hexT_len (by assumption)); k_whole; intro h' tk' F' N'))) | ((with_reducible show wpAny _ _ (call (Value.builtin "list.append") _) _ _ _); (k_dflt (refine' append_K ?zqk1 ?zqk2 ?zqk3 ?_ ?zqz; (case zqk1 => k_asm); (case zqk2 => k_asm); (case zqk3 => k_upd); (case zqz => exact small9 (by assumption)); k_whole); intro h' F' N'; (try k_sweep))) | (first | with_reducible refine ite_tt ?_ | with_reducible refine ite_ff ?_) | ((with_reducible show wpAny _ _ (compareOp CmpOp.Eq (Value.str _ _) (Value.str _ _)) _ _ _); (k_dflt (first | (with_reducible refine' eqS (b := true) ?zqe ?_; (case zqe => decide +kernel)) | (with_reducible refine' eqS (b := false) ?zqe ?_; (case zqe => decide +kernel))))) | (k_unfold; (try dsimp only)) | walk1 | (dsimp only; walk1)) | fail "no step")
      exact walk_closeF (by assumption) (by assumption) rfl eR eW hrs' hts hnext n1 n2 ⟨nT, nW, nR⟩ (.inr ⟨nn, by kcf_all, nRI, n3, n4, n5⟩)
theorem core : S w dp un gd s p loose mean mg mb base outer Q E al rl vs rs os row := pk_all core0 (by with_unfolding_all exact turn)
end walked_specN
theorem walked_spec {w : World} {dp un : Nat} {gd : Option (List Code)} {s : Shared} {p : Program} {loose : List Str} {mean : ExcName → Option Value} {mg mb : Str → Option Value} {base : Heap} {outer : List Env} {Q E : Value → Shared → Prop}
    (C : Cx w p loose mean mg mb base dp un gd outer s.heap s) (hroom : dp + 60 < recursionLimit) (hun : un + 300 < 9900) {al rl : Addr} {vs rs : List Value} {os : List Ord} {row : List Int} (hal : s.heap.IsList al vs.toArray) (hvl : vs.length = os.length)
    (hos : ∀ (i : Nat) v o, vs[i]? = some v → os[i]? = some o → OrdAt s.heap v o) (hok : ∀ o ∈ os, o.Ok) (hlen : os.length ≤ 9) (hrl : s.heap.IsList rl rs.toArray) (hrs : IntsAre rs row) (hrow : RowOk row)
    (k : ∀ h' tk v tl, s.heap.StaysIn h' → Fresh s.heap h' tl → DatIn tl v (Dat.list (walkP row os)) → Q v { s with heap := h', toks := tk }) :
    wpAny (model PG w) (Ar dp un gd outer) (call (.ref 829) [.ref al, .ref rl]) Q E s := all_of _ (fun d => walked_specN.S d.1 d.2.1 d.2.2.1 d.2.2.2.1 d.2.2.2.2.1 d.2.2.2.2.2.1 d.2.2.2.2.2.2.1 d.2.2.2.2.2.2.2.1 d.2.2.2.2.2.2.2.2.1 d.2.2.2.2.2.2.2.2.2.1 d.2.2.2.2.2.2.2.2.2.2.1 d.2.2.2.2.2.2.2.2.2.2.2.1 d.2.2.2.2.2.2.2.2.2.2.2.2.1 d.2.2.2.2.2.2.2.2.2.2.2.2.2.1 d.2.2.2.2.2.2.2.2.2.2.2.2.2.2.1 d.2.2.2.2.2.2.2.2.2.2.2.2.2.2.2.1 d.2.2.2.2.2.2.2.2.2.2.2.2.2.2.2.2.1 d.2.2.2.2.2.2.2.2.2.2.2.2.2.2.2.2.2.1 d.2.2.2.2.2.2.2.2.2.2.2.2.2.2.2.2.2.2.1 d.2.2.2.2.2.2.2.2.2.2.2.2.2.2.2.2.2.2.2) (by with_unfolding_all exact walked_specN.core) (w, dp, un, gd, s, p, loose, mean, mg, mb, base, outer, Q, E, al, rl, vs, rs, os, row) C hroom hun hal hvl hos hok hlen hrl hrs hrow k
end Mine
end
section

namespace Mine
theorem ob_made : Bind.madeBy (.type "object") = pure (some "object.__new__") := by kernel_rfl
theorem ob_slot_init : Slot "object" "__init__" "object.__init__" :=
  .of (owner := "object") (n := "__init__") (by rw [typeLookup_type, builtinLookup_eq_fast]; kernel_rfl) (by decide +kernel) (by decide +kernel) (by decide +kernel)
    (by first | exact .inl (by decide +kernel) | exact .inr (by decide +kernel)) (by rw [isSubtype_type]; kernel_rfl)
theorem ob_called : TypeCalled "object" "object.__new__" "object.__init__" where
  notType := by decide
  canCreate := by decide +kernel
  mro := ⟨.type "object", [], by kernel_rfl⟩
  made := ob_made
  plain := by decide +kernel
  sub := by rw [isSubtype_type]; kernel_rfl
  init := ob_slot_init
theorem ob_typeCall : checkTypeCall "object" ⟨[], []⟩ = pure () := by kernel_rfl
theorem ob_newCall : checkBuiltinCall "object.__new__" ⟨[.type "object"], []⟩ = pure () := by kernel_rfl
theorem ob_here : Bind.madeHere "object.__new__" (.type "object") = pure () := by kernel_rfl
theorem ob_isType : isType (.type "object") = pure true := by first | rfl | kernel_rfl | (unfold isType; rw [isSubtype_type]; kernel_rfl)
theorem ob_args (a : Value) : argsOk "object.__init__" ⟨[a], []⟩ := by unfold argsOk; kernel_rfl
section
variable {prog : Program} {w : World} {A : Around} {E : Value → Shared → Prop} {s : Shared}
theorem object_new {Q : Value → Shared → Prop} (h : Q (.ref s.heap.objs.size) { s with heap := s.heap.push { cls := .type "object", data := .plain } }) : wpAny (model prog w) A (call (.type "object") []) Q E s := by
  obtain ⟨hp, g, d, tk, os⟩ := s
  refine callType_codes (Q₁ := fun obj s₁ => obj = .ref hp.objs.size ∧ s₁ = ⟨hp.push { cls := .type "object", data := .plain }, g, d, tk, os⟩) ob_called ob_typeCall F.entry_object_init ?_ fun obj s₁ h₁ => ?_
  · refine codeAny_of_tree ?_
    show wpAny _ A.in1.in1 (do checkBuiltinCall "object.__new__" ⟨[.type "object"], []⟩; again (.builtin "object.__new__" ⟨[.type "object"], []⟩)) _ _ _
    refine wpAny_bind (wpAny_of_eq ob_newCall (wpAny_pure ⟨Code.quiet_builtin _ (by decide +kernel), codeAny_builtin PySem.F.entry_object_new ?_⟩))
    rw [Around.under_plainId (by decide +kernel) _]
    unfold Builtin.«object.__new__»
    refine wpAny_bind (wpAny_of_eq ob_isType ?_)
    rw [if_neg (by decide)]
    dsimp only
    rw [if_neg (by decide +kernel)]
    refine wpAny_bind (wpAny_of_eq ob_here ?_)
    rw [if_neg (by decide), if_neg (by decide +kernel)]
    refine wpAny_bind (wpAny_pure ?_)
    refine wpAny_bind ?_
    refine wpAny_newObj_type ?_ (by size_fits)
    rw [if_neg (by decide +kernel)]
    exact wpAny_pure ⟨rfl, rfl⟩
  · obtain ⟨rfl, rfl⟩ := h₁
    have hT : (⟨hp.push { cls := .type "object", data := .plain }, g, d, tk, os⟩ : Shared).TypeIs (.ref hp.objs.size) "object" := ⟨_, Heap.get?_push_size _ rfl, rfl⟩
    refine ⟨hT, ob_args _, ?_⟩
    show wpAny _ _ (ret .none) _ _ _
    exact wpAny_pure ⟨rfl, h⟩
end
end Mine
end
section

namespace Mine
theorem fillDN : PySem.Challenge.rw_in0080_01 = PySem.Challenge.rw_in0080_01 ∧ hd.heap_39 = hd.heap_39 := by k_fill; exact ⟨rfl, rfl⟩
theorem strs_get : ∀ {vs : List Value} {xs : List Str} {n : Nat} {x : Str}, StrsAre vs xs → xs[n]? = some x → ∃ t, vs[n]? = some (.str x t)
  | _, _, _, _, .nil, h => by simp at h
  | _, _, 0, _, .cons _ t _, h => by simp at h; subst h; exact ⟨t, rfl⟩
  | _, _, n + 1, _, .cons _ _ r, h => by
    obtain ⟨t, e⟩ := strs_get (n := n) r (by simpa using h)
    exact ⟨t, by simpa using e⟩
theorem bInts_bytesOf {row : List Int} (h : ∀ n ∈ row, Oct n) : KBw.bInts (bytesOf row) = row := by
  unfold KBw.bInts bytesOf
  simp only [List.map_map]
  conv => rhs; rw [← List.map_id row]
  refine List.map_congr_left fun n hn => ?_
  rcases h n hn with rfl | rfl | rfl | rfl <;> rfl
section
variable {prog : Program} {w : World} {A : Around} {E : Value → Shared → Prop} {s : Shared}
theorem word_item {l : Addr} {ws : List Value} {xs : List Str} {x : Str} {n : Nat} {k : Int} {u : Tok} {value slice : PySem.Expr} {Q : Value → Shared → Prop} (hl : s.heap.IsList l ws.toArray) (hws : StrsAre ws xs) (hx : xs[n]? = some x) (hk : k = (n : Int)) (hn : n ≤ 1000) (h : ∀ t, Q (.str x t) s)
    (hs : ∀ k : Int, subscripted slice false (.ref l) (.int k u) = operate [.ref l, .int k u] (getItem (.ref l) (.int k u)) := by intro _; with_unfolding_all rfl) :
    wpAny (model prog w) A (subscriptTail value slice (.ref l) (.int k u)) Q E s := by
  subst hk
  obtain ⟨t, e⟩ := strs_get hws hx
  exact tail_any hl.typeIs slot_list_getitem.lookup (wpAny_getItem_list hl (by omega) (by omega) (by simpa using e) (h t)) (hs _)
end
noncomputable def DnJ (al star Ta : Addr) (row : List Int) (os : List Ord) (i : Nat) (m : Str → Option Value) (rest : List (Addr × Obj)) : Prop :=
  m (Str.ofString "words") = some (.ref al) ∧ (∃ tb, m (Str.ofString "row") = some (.bytes (bytesOf ((os.take i).foldl doneS (row, [])).1) tb)) ∧ m (Str.ofString "star") = some (.ref star) ∧ m (Str.ofString "told") = some (.ref Ta) ∧
  ∃ ts cc pst, rest = [(Ta, W.listOf ts.toArray cc), (70, tabObj pst)] ∧ TabOk pst ∧ DatAll [] ts ((os.take i).foldl doneS (row, [])).2
namespace done_specN
noncomputable def S (w : World) (dp un : Nat) (gd : Option (List Code)) (s : Shared) (p : Program) (loose : List Str) (mean : ExcName → Option Value) (mg mb : Str → Option Value) (base g : Heap) (outer : List Env) (Q E : Value → Shared → Prop) (pst : Array Value) (al : Addr) (ws : List Value) (os : List Ord) (row : List Int) (tr : Tok) : Prop := ∀ (C : Cx w p loose mean mg mb base dp un gd outer g s) (hroom : dp + 100 < recursionLimit) (hun : un + 300 < 9900) (h70 : s.heap.get? 70 = some (tabObj pst)) (g70 : g.get? 70 = none) (hp : TabOk pst) (hal : g.IsList al ws.toArray) (hws : StrsAre ws (wordsL os)) (hok : ∀ o ∈ os, o.Ok) (hlen : os.length ≤ 9) (hrow : RowOk row) (k : ∀ h' tk D vs n pst', g.StaysIn h' → h'.get? 70 = some (tabObj pst') → TabOk pst' → g.get? D = none → h'.get? D = some (W.listOf vs.toArray n) → DatAll [] vs (doneP row os) → Q (.ref D) { s with heap := h', toks := tk }), wpC (model PG w) (Ar dp un gd outer) (call (.ref 819) [.ref al, .bytes (bytesOf row) tr]) Q E s
noncomputable def d : World × Nat × Nat × Option (List Code) × Shared × Program × List Str × (ExcName → Option Value) × (Str → Option Value) × (Str → Option Value) × Heap × Heap × List Env × (Value → Shared → Prop) × (Value → Shared → Prop) × Array Value × Addr × List Value × List Ord × List Int × Tok := cex (jW, 0, 0, none, jS, default, [], (fun _ => none), (fun _ => none), (fun _ => none), default, default, [], (fun _ _ => True), (fun _ _ => True), #[], (0 : Nat), [], [], [], 0) fun d => S d.1 d.2.1 d.2.2.1 d.2.2.2.1 d.2.2.2.2.1 d.2.2.2.2.2.1 d.2.2.2.2.2.2.1 d.2.2.2.2.2.2.2.1 d.2.2.2.2.2.2.2.2.1 d.2.2.2.2.2.2.2.2.2.1 d.2.2.2.2.2.2.2.2.2.2.1 d.2.2.2.2.2.2.2.2.2.2.2.1 d.2.2.2.2.2.2.2.2.2.2.2.2.1 d.2.2.2.2.2.2.2.2.2.2.2.2.2.1 d.2.2.2.2.2.2.2.2.2.2.2.2.2.2.1 d.2.2.2.2.2.2.2.2.2.2.2.2.2.2.2.1 d.2.2.2.2.2.2.2.2.2.2.2.2.2.2.2.2.1 d.2.2.2.2.2.2.2.2.2.2.2.2.2.2.2.2.2.1 d.2.2.2.2.2.2.2.2.2.2.2.2.2.2.2.2.2.2.1 d.2.2.2.2.2.2.2.2.2.2.2.2.2.2.2.2.2.2.2.1 d.2.2.2.2.2.2.2.2.2.2.2.2.2.2.2.2.2.2.2.2
@[irreducible] noncomputable def w : World := d.1
@[irreducible] noncomputable def dp : Nat := d.2.1
@[irreducible] noncomputable def un : Nat := d.2.2.1
@[irreducible] noncomputable def gd : Option (List Code) := d.2.2.2.1
@[irreducible] noncomputable def s : Shared := d.2.2.2.2.1
@[irreducible] noncomputable def L' : Addr := s.heap.objs.size
@[irreducible] noncomputable def p : Program := d.2.2.2.2.2.1
@[irreducible] noncomputable def loose : List Str := d.2.2.2.2.2.2.1
@[irreducible] noncomputable def mean : ExcName → Option Value := d.2.2.2.2.2.2.2.1
@[irreducible] noncomputable def mg : Str → Option Value := d.2.2.2.2.2.2.2.2.1
@[irreducible] noncomputable def mb : Str → Option Value := d.2.2.2.2.2.2.2.2.2.1
@[irreducible] noncomputable def base : Heap := d.2.2.2.2.2.2.2.2.2.2.1
@[irreducible] noncomputable def g : Heap := d.2.2.2.2.2.2.2.2.2.2.2.1
@[irreducible] noncomputable def outer : List Env := d.2.2.2.2.2.2.2.2.2.2.2.2.1
@[irreducible] noncomputable def Q : Value → Shared → Prop := d.2.2.2.2.2.2.2.2.2.2.2.2.2.1
@[irreducible] noncomputable def E : Value → Shared → Prop := d.2.2.2.2.2.2.2.2.2.2.2.2.2.2.1
@[irreducible] noncomputable def pst : Array Value := d.2.2.2.2.2.2.2.2.2.2.2.2.2.2.2.1
@[irreducible] noncomputable def al : Addr := d.2.2.2.2.2.2.2.2.2.2.2.2.2.2.2.2.1
@[irreducible] noncomputable def ws : List Value := d.2.2.2.2.2.2.2.2.2.2.2.2.2.2.2.2.2.1
@[irreducible] noncomputable def os : List Ord := d.2.2.2.2.2.2.2.2.2.2.2.2.2.2.2.2.2.2.1
@[irreducible] noncomputable def row : List Int := d.2.2.2.2.2.2.2.2.2.2.2.2.2.2.2.2.2.2.2.1
@[irreducible] noncomputable def tr : Tok := d.2.2.2.2.2.2.2.2.2.2.2.2.2.2.2.2.2.2.2.2
theorem core : S w dp un gd s p loose mean mg mb base g outer Q E pst al ws os row tr := by
  intro C hroom hun h70 g70 hp hal hws hok hlen hrow k
  obtain ⟨X, T, B, G, Gz⟩ := C
  refine wpC_call ?_
  k_dflt (refine' enterZ (X.keeps G) (T.keeps G) ?k6 ?k7 ?k8 ?k9 ?kB ?_ ?c2 ?c3 ?c4 ?c5; (case k6 => k_is); (case k7 => k_is); (case k8 => (show dp < _; omega)); (case k9 => first | exact BindsTo.of_eq rfl | exact binds_K (by k_in) rfl (by k_is) rfl rfl rfl);(case c5 => decide); (case kB => exact locs rfl); (case c2 => exact rfl); (case c3 => exact rfl); (case c4 => exact rfl))
  intro L₀ h₁ hL F1 l1
  obtain rfl : L₀ = L' := hL.trans (by with_unfolding_all rfl)
  have F := (⟨F1.ns, fun b o e => F1.keep _ _ (G b o e), Nat.le_trans Gz F1.above⟩ : Fr g L' h₁ _)
  have N : News g L' h₁ [(70, tabObj pst)] := fun q hq => by
    rw [List.mem_singleton.mp hq]
    refine ⟨l1 _ _ h70, fun e => ?_, g70⟩
    have a := Nat.lt_of_lt_of_le (Heap.lt_size h70) F1.above
    have e' : (70 : Nat) = L' := e
    rw [← e'] at a
    exact Nat.lt_irrefl _ a
  clear F1
  (try dsimp only); (try k_fold)
  refine wpC_execs (wpC_of ?_)
  repeat' ((first | ((fail_if_success (with_reducible show wpAny _ _ (call (Value.type "object") _) _ _ _)); first | walk1 | (dsimp only; walk1)) | fail "no step") <;> (try dsimp only))
  refine object_new ?_
  have N1 := News.push F N { cls := .type "object", data := .plain }
  have F1 := F.push { cls := .type "object", data := .plain }
  have lS : (70 : Nat) < h₁.objs.size := Heap.lt_size (N _ (.head _)).1
  clear F N
  dsimp only
  generalize h₁.push { cls := .type "object", data := .plain } = h2 at *
  generalize h₁.objs.size = star at *
  repeat' ((first | ((fail_if_success (with_reducible show wpC _ _ _ _ _ _)); first | walk1 | (dsimp only; walk1)) | fail "no step") <;> (try dsimp only))
  refine wpC_execs (wpC_of ?_)
  repeat' ((first | ((fail_if_success (with_reducible show wpC _ _ _ _ _ _)); first | walk1 | (dsimp only; walk1)) | fail "no step") <;> (try dsimp only))
  rename_i hA Ta hB lT hC F N
  have wl : ws.length = 2 * os.length := by rw [hws.length, words_len]
  refine wpC_execs (forC_range (h₀ := g) (a := 0) (b := ((2 * os.length : Nat) : Int)) (c := 2) (n := os.length) (DnJ al star Ta row os) rfl rfl rfl (range_two _ hlen).1 (range_two _ hlen).2 ?_)
  repeat' ((first | ((fail_if_success (with_reducible show wpAny _ _ (call (Value.builtin "len") _) _ _ _)); first | walk1 | (dsimp only; walk1)) | fail "no step") <;> (try dsimp only))
  refine len_list (base_list F hal) (by rw [List.size_toArray]; omega) ?_
  rw [List.size_toArray, wl]
  repeat' ((first | ((fail_if_success (with_reducible show Exists _)); first | walk1 | (dsimp only; walk1)) | fail "no step") <;> (try dsimp only))
  rename Fr _ _ _ _ => F
  rename News _ _ _ _ => N
  have N2 := fun q (hq : q ∈ [(Ta, W.listOf ([] : List Value).toArray 0), ((70 : Addr), tabObj pst)]) => N q (by rcases List.mem_cons.mp hq with rfl | hq; exact .head _; exact .tail _ (.tail _ hq))
  refine ⟨_, _, _, _, _, _, rfl, by assumption, F, N2, ⟨rfl, ⟨_, rfl⟩, rfl, rfl, [], 0, pst, rfl, hp, .nil⟩, ?_, ?_⟩
  · clear N F N2
    rintro i t m rest h tk I oI hi ⟨m1, ⟨tb, m2⟩, m3, m4, ts, cc, pst, rfl, hp, hts⟩ F N hne
    rw [form4 m1 m2 m3 m4] at F
    have ho := hok _ (List.getElem_mem hi)
    have hat := words_at os i os[i] (List.getElem?_eq_getElem hi)
    have hrow9 := done_ok (os.take i) row (fun o ho => hok o (List.mem_of_mem_take ho)) hrow
    have hnext : (os.take (i + 1)).foldl doneS (row, []) = doneS ((os.take i).foldl doneS (row, [])) os[i] := by
      rw [List.take_add_one, List.getElem?_eq_getElem hi, List.foldl_append]; rfl
    have htl : ts.length ≤ 9 := by
      have e := done_len (os.take i) (row, [])
      rw [dat_len hts, e, List.length_take]
      show 0 + _ ≤ 9
      omega
    have nT : @Ne Nat Ta I := hne _ (.head _)
    have n7 : @Ne Nat 70 I := hne _ (.tail _ (.head _))
    have hne9 : ∀ o1 o2 : Obj, ∀ p ∈ [(Ta, o1), ((70 : Addr), o2)], p.1 ≠ I := fun o1 o2 => by simp only [List.forall_mem_cons, List.not_mem_nil, false_implies, implies_true, and_true]; exact ⟨nT, n7⟩
    clear hne
    generalize (os.take i).foldl doneS (row, []) = st at *
    generalize os[i] = o at *
    refine wpC_execs (wpC_If ?_)
    repeat' ((first | ((fail_if_success (with_reducible show wpAny _ _ (subscriptTail _ _ (Value.ref _) _) _ _ _)); first | walk1 | (dsimp only; walk1)) | fail "no step") <;> (try dsimp only))
    cases o with
    | swap j =>
      refine word_item (base_list F hal) hws hat.1 (by omega) (by omega) fun t1 => ?_
      repeat' ((first | ((fail_if_success (with_reducible show ite _ _ _)); first | walk1 | (dsimp only; walk1)) | fail "no step") <;> (try dsimp only))
      rw [if_pos (by decide +kernel)]
      refine wpC_execs (wpC_Assign (wpC_Call ?_))
      repeat' ((first | ((fail_if_success (with_reducible show wpC _ _ _ _ _ _)); first | walk1 | (dsimp only; walk1)) | fail "no step") <;> (try dsimp only))
      refine callC_K X (by kernel_rfl) ?_
      repeat' ((first | ((fail_if_success (with_reducible show wpAny _ _ (subscriptTail _ _ (Value.ref _) _) _ _ _)); first | walk1 | (dsimp only; walk1)) | fail "no step") <;> (try dsimp only))
      refine word_item (base_list (by assumption) hal) hws hat.2 (by omega) (by omega) fun t2 => ?_
      repeat' ((first | ((fail_if_success (with_reducible show wpAny _ _ (call (Value.type "int") _) _ _ _)); first | walk1 | (dsimp only; walk1)) | fail "no step") <;> (try dsimp only))
      refine KIN.call_text (int_width ho) (width_len ho) ?_
      repeat' ((first | ((fail_if_success (with_reducible show And _ _)); first | walk1 | (dsimp only; walk1)) | fail "no step") <;> (try dsimp only))
      refine ⟨X.keeps (Fr.keep (by assumption)), ?_⟩
      refine byteswap_K X T B (by assumption) (by assumption) rfl rfl rfl (show dp + 1 + 30 < recursionLimit by omega) ho hrow9 fun h3 tk3 t3 F N => ?_
      repeat' ((first | ((fail_if_success (with_reducible show wpC _ _ _ _ _ _)); first | walk1 | (dsimp only; walk1)) | fail "no step") <;> (try dsimp only))
      refine wpC_execs (wpC_of ?_)
      repeat' ((first | ((fail_if_success (with_reducible show wpC _ _ _ _ _ _)); first | walk1 | (dsimp only; walk1)) | fail "no step") <;> (try dsimp only))
      refine wpC_of ?_
      repeat' ((first | ((fail_if_success (with_reducible first | show wpC _ _ _ _ _ _ | show BaseEnd _ _ _ _ _ _ _ _)); first | walk1 | (dsimp only; walk1)) | fail "no step") <;> (try dsimp only))
      refine wpC_of ?_
      repeat' ((first | ((fail_if_success (with_reducible first | show wpC _ _ _ _ _ _ | show BaseEnd _ _ _ _ _ _ _ _)); first | walk1 | (dsimp only; walk1)) | fail "no step") <;> (try dsimp only))
      rename Fr _ _ _ _ => F
      rename News _ _ _ _ => N
      rw [List.push_toArray] at N
      exact ⟨.inl rfl, _, _, _, [(Ta, W.listOf _ _), (70, tabObj pst)], rfl, F, N, hne9 _ _, ⟨rfl, ⟨_, by rw [hnext]; rfl⟩, rfl, rfl, _, _, _, rfl, hp, by rw [hnext]; exact dat_snoc (.bytes _ _) hts⟩⟩
    | fits ps =>
      refine word_item (base_list F hal) hws hat.1 (by omega) (by omega) fun t1 => ?_
      repeat' ((first | ((fail_if_success (with_reducible show ite _ _ _)); first | walk1 | (dsimp only; walk1)) | fail "no step") <;> (try dsimp only))
      rw [if_neg (by decide +kernel)]
      refine wpC_execs (wpC_of ?_)
      repeat' ((first | ((fail_if_success (with_reducible show wpAny _ _ (subscriptTail _ _ (Value.ref _) _) _ _ _)); first | walk1 | (dsimp only; walk1)) | fail "no step") <;> (try dsimp only))
      refine word_item (base_list (by assumption) hal) hws hat.2 (by omega) (by omega) fun t2 => ?_
      repeat' ((first | ((fail_if_success (with_reducible show wpAny _ _ (call (Value.ref _) _) _ _ _)); first | walk1 | (dsimp only; walk1)) | fail "no step") <;> (try dsimp only))
      rename Fr _ _ _ _ => F
      rename News _ _ _ _ => N
      refine translate_K (pre := [(I, oI), (Ta, W.listOf ts.toArray cc)]) X T B F N ?_ rfl rfl rfl rfl (show dp + 1 + 60 < recursionLimit by omega) (show un + 3 + 200 < 9900 by omega) hp ho.1 ho.2 fun h5 tk5 D vs n5 pst5 hp5 F N hn5 hD7 hv5 => ?_
      · simp only [List.forall_mem_cons, List.not_mem_nil, false_implies, implies_true, and_true]
        exact ⟨Ne.symm n7, Nat.ne_of_gt lT.2⟩
      repeat' ((first | ((fail_if_success (with_reducible show wpAny _ _ (call (Value.ref _) _) _ _ _)); first | walk1 | (dsimp only; walk1)) | fail "no step") <;> (try dsimp only))
      refine hexB_K X T B (by assumption) (by assumption) rfl rfl rfl (show dp + 1 + 30 < recursionLimit by omega) (bInts_bytesOf hrow9.2) hrow9 fun h6 tk6 t6 F N => ?_
      repeat' ((first | ((fail_if_success (with_reducible show wpAny _ _ (call (Value.ref _) _) _ _ _)); first | walk1 | (dsimp only; walk1)) | fail "no step") <;> (try dsimp only))
      rename Fr _ _ _ _ => F
      rename News _ _ _ _ => N
      have hD : Heap.IsList _ D vs.toArray := ⟨_, (N _ (.head _)).1, rfl, _, rfl⟩
      refine takes_K X T B F N rfl rfl rfl (show dp + 1 + 30 < recursionLimit by omega) (show un + 3 + 200 < 9900 by omega) hD hv5 (fun q hq => ho.2 q ((parts_mem ps [] hq).resolve_left (fun h => nomatch h))) _ _ (hexT_len hrow9) fun h7 tk7 F N => ?_
      have N3 : News g _ h7 [(I, oI), (Ta, W.listOf ts.toArray cc), (70, tabObj pst5)] := fun q hq => N q (.tail _ hq)
      clear N
      repeat' ((first | ((fail_if_success (with_reducible first | show wpC _ _ _ _ _ _ | show BaseEnd _ _ _ _ _ _ _ _)); first | walk1 | (dsimp only; walk1)) | fail "no step") <;> (try dsimp only))
      refine wpC_of ?_
      repeat' ((first | ((fail_if_success (with_reducible first | show wpC _ _ _ _ _ _ | show BaseEnd _ _ _ _ _ _ _ _)); first | walk1 | (dsimp only; walk1)) | fail "no step") <;> (try dsimp only))
      refine wpC_of ?_
      repeat' ((first | ((fail_if_success (with_reducible first | show wpC _ _ _ _ _ _ | show BaseEnd _ _ _ _ _ _ _ _)); first | walk1 | (dsimp only; walk1)) | fail "no step") <;> (try dsimp only))
      rename Fr _ _ _ _ => F
      rename News _ _ _ _ => N
      rw [List.push_toArray] at N
      exact ⟨.inl rfl, _, _, _, [(Ta, W.listOf _ _), (70, tabObj pst5)], rfl, F, N, hne9 _ _, ⟨rfl, ⟨_, by rw [hnext]; rfl⟩, rfl, rfl, _, _, _, rfl, hp5, by rw [hnext]; exact dat_snoc (.bool _) hts⟩⟩
  · clear N F N2
    rintro m rest h tk ⟨m1, ⟨tb, m2⟩, m3, m4, ts, cc, pst, rfl, hp, hts⟩ F N
    rw [form4 m1 m2 m3 m4] at F
    rw [List.take_length] at hts
    refine wpC_of ?_
    repeat' ((first | ((fail_if_success (with_reducible show Q _ _)); first | walk1 | (dsimp only; walk1)) | fail "no step") <;> (try dsimp only))
    exact k _ _ _ _ _ _ F.keep (N _ (.tail _ (.head _))).1 hp (N _ (.head _)).2.2 (N _ (.head _)).1 hts
end done_specN
theorem done_spec {w : World} {dp un : Nat} {gd : Option (List Code)} {s : Shared} {p : Program} {loose : List Str} {mean : ExcName → Option Value} {mg mb : Str → Option Value} {base g : Heap} {outer : List Env} {Q E : Value → Shared → Prop}
    (C : Cx w p loose mean mg mb base dp un gd outer g s) (hroom : dp + 100 < recursionLimit) (hun : un + 300 < 9900) {pst : Array Value} (h70 : s.heap.get? 70 = some (tabObj pst)) (g70 : g.get? 70 = none) (hp : TabOk pst)
    {al : Addr} {ws : List Value} {os : List Ord} {row : List Int} {tr : Tok} (hal : g.IsList al ws.toArray) (hws : StrsAre ws (wordsL os)) (hok : ∀ o ∈ os, o.Ok) (hlen : os.length ≤ 9) (hrow : RowOk row)
    (k : ∀ h' tk D vs n pst', g.StaysIn h' → h'.get? 70 = some (tabObj pst') → TabOk pst' → g.get? D = none → h'.get? D = some (W.listOf vs.toArray n) → DatAll [] vs (doneP row os) → Q (.ref D) { s with heap := h', toks := tk }) :
    wpC (model PG w) (Ar dp un gd outer) (call (.ref 819) [.ref al, .bytes (bytesOf row) tr]) Q E s := all_of _ (fun d => done_specN.S d.1 d.2.1 d.2.2.1 d.2.2.2.1 d.2.2.2.2.1 d.2.2.2.2.2.1 d.2.2.2.2.2.2.1 d.2.2.2.2.2.2.2.1 d.2.2.2.2.2.2.2.2.1 d.2.2.2.2.2.2.2.2.2.1 d.2.2.2.2.2.2.2.2.2.2.1 d.2.2.2.2.2.2.2.2.2.2.2.1 d.2.2.2.2.2.2.2.2.2.2.2.2.1 d.2.2.2.2.2.2.2.2.2.2.2.2.2.1 d.2.2.2.2.2.2.2.2.2.2.2.2.2.2.1 d.2.2.2.2.2.2.2.2.2.2.2.2.2.2.2.1 d.2.2.2.2.2.2.2.2.2.2.2.2.2.2.2.2.1 d.2.2.2.2.2.2.2.2.2.2.2.2.2.2.2.2.2.1 d.2.2.2.2.2.2.2.2.2.2.2.2.2.2.2.2.2.2.1 d.2.2.2.2.2.2.2.2.2.2.2.2.2.2.2.2.2.2.2.1 d.2.2.2.2.2.2.2.2.2.2.2.2.2.2.2.2.2.2.2.2) (by with_unfolding_all exact done_specN.core) (w, dp, un, gd, s, p, loose, mean, mg, mb, base, g, outer, Q, E, pst, al, ws, os, row, tr) C hroom hun h70 g70 hp hal hws hok hlen hrow k
end Mine
end
section

namespace Mine
theorem fillO1 : PySem.Challenge.rw_in0080_01 = PySem.Challenge.rw_in0080_01 ∧ hd.heap_39 = hd.heap_39 := by k_fill; exact ⟨rfl, rfl⟩
namespace orders_specN
noncomputable def S (w : World) (dp un : Nat) (gd : Option (List Code)) (s : Shared) (p : Program) (loose : List Str) (mean : ExcName → Option Value) (mg mb : Str → Option Value) (base : Heap) (outer : List Env) (Q E : Value → Shared → Prop) (al : Addr) (vs : List Value) (ns : List Int) : Prop := ∀ (C : Cx w p loose mean mg mb base dp un gd outer s.heap s) (hroom : dp + 30 < recursionLimit) (hal : s.heap.IsList al vs.toArray) (hvs : IntsAre vs ns) (hlen : ns.length ≤ 9) (k : ∀ h' tk v tl, s.heap.StaysIn h' → Fresh s.heap h' tl → DatIn tl v (Dat.list (ns.map ordD)) → Q v { s with heap := h', toks := tk }), wpAny (model PG w) (Ar dp un gd outer) (call (.ref 802) [.ref al]) Q E s
noncomputable def d : World × Nat × Nat × Option (List Code) × Shared × Program × List Str × (ExcName → Option Value) × (Str → Option Value) × (Str → Option Value) × Heap × List Env × (Value → Shared → Prop) × (Value → Shared → Prop) × Addr × List Value × List Int := cex (jW, 0, 0, none, jS, default, [], (fun _ => none), (fun _ => none), (fun _ => none), default, [], (fun _ _ => True), (fun _ _ => True), (0 : Nat), [], []) fun d => S d.1 d.2.1 d.2.2.1 d.2.2.2.1 d.2.2.2.2.1 d.2.2.2.2.2.1 d.2.2.2.2.2.2.1 d.2.2.2.2.2.2.2.1 d.2.2.2.2.2.2.2.2.1 d.2.2.2.2.2.2.2.2.2.1 d.2.2.2.2.2.2.2.2.2.2.1 d.2.2.2.2.2.2.2.2.2.2.2.1 d.2.2.2.2.2.2.2.2.2.2.2.2.1 d.2.2.2.2.2.2.2.2.2.2.2.2.2.1 d.2.2.2.2.2.2.2.2.2.2.2.2.2.2.1 d.2.2.2.2.2.2.2.2.2.2.2.2.2.2.2.1 d.2.2.2.2.2.2.2.2.2.2.2.2.2.2.2.2
@[irreducible] noncomputable def w : World := d.1
@[irreducible] noncomputable def dp : Nat := d.2.1
@[irreducible] noncomputable def un : Nat := d.2.2.1
@[irreducible] noncomputable def gd : Option (List Code) := d.2.2.2.1
@[irreducible] noncomputable def s : Shared := d.2.2.2.2.1
@[irreducible] noncomputable def L' : Addr := s.heap.objs.size
@[irreducible] noncomputable def p : Program := d.2.2.2.2.2.1
@[irreducible] noncomputable def loose : List Str := d.2.2.2.2.2.2.1
@[irreducible] noncomputable def mean : ExcName → Option Value := d.2.2.2.2.2.2.2.1
@[irreducible] noncomputable def mg : Str → Option Value := d.2.2.2.2.2.2.2.2.1
@[irreducible] noncomputable def mb : Str → Option Value := d.2.2.2.2.2.2.2.2.2.1
@[irreducible] noncomputable def base : Heap := d.2.2.2.2.2.2.2.2.2.2.1
@[irreducible] noncomputable def outer : List Env := d.2.2.2.2.2.2.2.2.2.2.2.1
@[irreducible] noncomputable def Q : Value → Shared → Prop := d.2.2.2.2.2.2.2.2.2.2.2.2.1
@[irreducible] noncomputable def E : Value → Shared → Prop := d.2.2.2.2.2.2.2.2.2.2.2.2.2.1
@[irreducible] noncomputable def al : Addr := d.2.2.2.2.2.2.2.2.2.2.2.2.2.2.1
@[irreducible] noncomputable def vs : List Value := d.2.2.2.2.2.2.2.2.2.2.2.2.2.2.2.1
@[irreducible] noncomputable def ns : List Int := d.2.2.2.2.2.2.2.2.2.2.2.2.2.2.2.2
noncomputable def core0 := fun (zt : Sp _) => (show S w dp un gd s p loose mean mg mb base outer Q E al vs ns from by
  intro C hroom hal hvs hlen k
  obtain ⟨X, T, B, G, Gz⟩ := C
  refine wpAny_call ?_
  k_dflt (refine' enter (news := []) X T (fun _ _ e => e) (Nat.le_refl _) (fun _ h => nomatch h) ?k6 ?k7 ?k8 ?k9 ?kB ?_ ?c2 ?c3 ?c4 ?c5; (case k6 => k_is); (case k7 => k_is); (case k8 => (show dp < _; omega)); (case k9 => first | exact BindsTo.of_eq rfl | exact binds_K (by k_in) rfl (by k_is) rfl rfl rfl);(case c5 => decide); (case kB => exact locs rfl); (case c2 => exact rfl); (case c3 => exact rfl); (case c4 => exact rfl))
  intro L₀ h₁ hL F N l1 G1
  obtain rfl : L₀ = L' := hL.trans (by with_unfolding_all rfl)
  (try dsimp only); (try k_fold)
  repeat' ((first | ((fail_if_success (have kStop := kMem)); first | ((with_reducible show WhlIf _ _ _); first | (refine WhlIf.no (decide_eq_false (no3 (halfOf_lt _))) ?_) | (refine whl_cases (fun hw => ?_) (fun hw => ?_))) | ((with_reducible show wpAny _ _ (subscriptTail _ _ _ _) _ _ _); (with_reducible refine' piece_item ?k1 ?k2 ?k3 ?_ ?k4; k_dflt ((case k1 => k_asm); (case k2 => with_reducible first | exact List.mem_cons_self | exact List.mem_cons_of_mem _ List.mem_cons_self | exact List.mem_cons_of_mem _ (List.mem_cons_of_mem _ List.mem_cons_self) | exact List.mem_cons_of_mem _ (List.mem_cons_of_mem _ (List.mem_cons_of_mem _ List.mem_cons_self))); (case k3 => exact Nat.mod_lt _ (by decide)); (case k4 => (intro _ _; with_unfolding_all rfl)); k_whole; intro _))) | ((with_reducible show wpAny _ _ (call (Value.type "str") _) _ _ _); (k_dflt (refine str_menu _ (Nat.mod_lt _ (by decide)) ?_; intro _ _))) | ((with_reducible show wpAny _ _ (binaryOp Operator.FloorDiv (Value.int _ _) (Value.int _ _)) _ _ _); ((with_reducible refine div6 ?hn ?_); (case hn => first | exact halfOf_lt _ | exact Nat.lt_of_le_of_lt (Nat.div_le_self _ _) (halfOf_lt _) | exact Nat.lt_of_le_of_lt (Nat.div_le_self _ _) (Nat.lt_of_le_of_lt (Nat.div_le_self _ _) (halfOf_lt _)) | exact Nat.lt_of_le_of_lt (Nat.div_le_self _ _) (Nat.lt_of_le_of_lt (Nat.div_le_self _ _) (Nat.lt_of_le_of_lt (Nat.div_le_self _ _) (halfOf_lt _)))))) | ((with_reducible show wpAny _ _ (binaryOp Operator.Mod (Value.int _ _) (Value.int _ _)) _ _ _); (first | (with_reducible refine half_rule ?_) | (with_reducible refine mod6 ?_))) | ((with_reducible show wpAny _ _ (pyIter (Value.ref _)) _ _ _); (k_dat (fun (pre : List Int) out => out = pre.map ordD) "orders*")) | (k_unfold; (try dsimp only)) | (k_end; wrow_close) | walk1 | (dsimp only; walk1) | (leave1; walk_say "STEP leave1"; try dsimp only)) | fail "no step") <;> (try dsimp only))
  · rename_i iL tk0 la ha l1a hb lb hc l1b hd2 fs sn km kL1 kL2
    try dsimp only
    clear l1a l1 hL
    revert hroom iL hlen X T B l1b kEq kMem kSep kO4 kFr kNews km kMark kL1 kFacts kL2 kLen
    revert la lb tk0 fs sn kTl kPre kPost kN kT kU kH kTk kOwn
    exact cur14 zt.h
  exact k _ _ _ _ kFr.keep (Fresh.of kNews) (DatIn.list (.head _) (DatAll.mono (fun _ hp => .tail _ hp) kFacts)))
noncomputable def z := pk core0
@[irreducible] noncomputable def la : Addr := z.1.1.1.1.1.1.1.1.1.1.1.1.1
@[irreducible] noncomputable def lb : Addr := z.1.1.1.1.1.1.1.1.1.1.1.1.2
@[irreducible] noncomputable def tk0 : Nat := z.1.1.1.1.1.1.1.1.1.1.1.2
@[irreducible] noncomputable def fs : List Value := z.1.1.1.1.1.1.1.1.1.1.2
@[irreducible] noncomputable def sn : Nat := z.1.1.1.1.1.1.1.1.1.2
@[irreducible] noncomputable def kTl : List (Addr × Obj) := z.1.1.1.1.1.1.1.1.2
@[irreducible] noncomputable def kPre : List Int := z.1.1.1.1.1.1.1.2
@[irreducible] noncomputable def kPost : List Int := z.1.1.1.1.1.1.2
@[irreducible] noncomputable def kN : Int := z.1.1.1.1.1.2
@[irreducible] noncomputable def kT : Tok := z.1.1.1.1.2
@[irreducible] noncomputable def kU : Str → Option Value := z.1.1.1.2
@[irreducible] noncomputable def kH : Heap := z.1.1.2
@[irreducible] noncomputable def kTk : Nat := z.1.2
@[irreducible] noncomputable def kOwn : List (Addr × Obj) := z.2
theorem turn : domP core0 (((((((((((((la, lb), tk0), fs), sn), kTl), kPre), kPost), kN), kT), kU), kH), kTk), kOwn) := by
  dsimp only [domP]
  intro hroom iL hlen X T B l1b kEq kMem kSep kO4 kFr kNews km kMark kL1 kFacts kL2 kLen
  repeat' ((first | ((with_reducible show InvEndG _ _ _ _ _ _); ((first | with_reducible have e9 := ord_end (pre := kPre) (ord_swap (x := kN) (by assumption)) | with_reducible have e9 := ord_end (pre := kPre) (ordA1 (x := kN) (by assumption) (figs1 (by assumption)) (by assumption) (lt6 _)) | with_reducible have e9 := ord_end (pre := kPre) (ordB1 (x := kN) (by assumption) (figs1 (by assumption)) (by assumption) (lt6 _)) | with_reducible have e9 := ord_end (pre := kPre) (ordA2 (x := kN) (by assumption) (figs2 (by assumption) (by assumption)) (by assumption) (lt6 _) (lt6 _)) | with_reducible have e9 := ord_end (pre := kPre) (ordB2 (x := kN) (by assumption) (figs2 (by assumption) (by assumption)) (by assumption) (lt6 _) (lt6 _)) | with_reducible have e9 := ord_end (pre := kPre) (ordA3 (x := kN) (by assumption) (figs3 (halfOf_lt _) (by assumption)) (by assumption) (lt6 _) (lt6 _) (lt6 _)) | with_reducible have e9 := ord_end (pre := kPre) (ordB3 (x := kN) (by assumption) (figs3 (halfOf_lt _) (by assumption)) (by assumption) (lt6 _) (lt6 _) (lt6 _))); walk1)) | ((with_reducible show ite _ _ _); (fail_if_success (with_reducible show if true = true then _ else _)); (fail_if_success (with_reducible show if false = true then _ else _)); first | with_reducible refine split_not ?_ | (with_reducible refine split_ieq ?_ ?_ <;> intro _) | (with_reducible refine split_ine ?_ ?_ <;> intro _) | (refine split_dec ?_ ?_ <;> intro _) | (refine split_bool ?_ ?_ <;> intro _)) | ((with_reducible show WhlIf _ _ _); first | (refine WhlIf.no (decide_eq_false (no3 (halfOf_lt _))) ?_) | (refine whl_cases (fun hw => ?_) (fun hw => ?_))) | ((with_reducible show wpAny _ _ (subscriptTail _ _ _ _) _ _ _); (with_reducible refine' piece_item ?k1 ?k2 ?k3 ?_ ?k4; k_dflt ((case k1 => k_asm); (case k2 => with_reducible first | exact List.mem_cons_self | exact List.mem_cons_of_mem _ List.mem_cons_self | exact List.mem_cons_of_mem _ (List.mem_cons_of_mem _ List.mem_cons_self) | exact List.mem_cons_of_mem _ (List.mem_cons_of_mem _ (List.mem_cons_of_mem _ List.mem_cons_self))); (case k3 => exact Nat.mod_lt _ (by decide)); (case k4 => (intro _ _; with_unfolding_all rfl)); k_whole; intro _))) | ((with_reducible show wpAny _ _ (call (Value.type "str") _) _ _ _); (k_dflt (refine str_menu _ (Nat.mod_lt _ (by decide)) ?_; intro _ _))) | ((with_reducible show wpAny _ _ (binaryOp Operator.FloorDiv (Value.int _ _) (Value.int _ _)) _ _ _); ((with_reducible refine div6 ?hn ?_); (case hn => first | exact halfOf_lt _ | exact Nat.lt_of_le_of_lt (Nat.div_le_self _ _) (halfOf_lt _) | exact Nat.lt_of_le_of_lt (Nat.div_le_self _ _) (Nat.lt_of_le_of_lt (Nat.div_le_self _ _) (halfOf_lt _)) | exact Nat.lt_of_le_of_lt (Nat.div_le_self _ _) (Nat.lt_of_le_of_lt (Nat.div_le_self _ _) (Nat.lt_of_le_of_lt (Nat.div_le_self _ _) (halfOf_lt _)))))) | ((with_reducible show wpAny _ _ (binaryOp Operator.Mod (Value.int _ _) (Value.int _ _)) _ _ _); (first | (with_reducible refine half_rule ?_) | (with_reducible refine mod6 ?_))) | (k_unfold; (try dsimp only)) | (k_end; wrow_close) | walk1 | (dsimp only; walk1) | (leave1; walk_say "STEP leave1"; try dsimp only) | fail "no step") <;> (try dsimp only))
theorem core : S w dp un gd s p loose mean mg mb base outer Q E al vs ns := pk_all core0 (by with_unfolding_all exact turn)
end orders_specN
theorem orders_spec {w : World} {dp un : Nat} {gd : Option (List Code)} {s : Shared} {p : Program} {loose : List Str} {mean : ExcName → Option Value} {mg mb : Str → Option Value} {base : Heap} {outer : List Env} {Q E : Value → Shared → Prop}
    (C : Cx w p loose mean mg mb base dp un gd outer s.heap s) (hroom : dp + 30 < recursionLimit) {al : Addr} {vs : List Value} {ns : List Int} (hal : s.heap.IsList al vs.toArray) (hvs : IntsAre vs ns) (hlen : ns.length ≤ 9)
    (k : ∀ h' tk v tl, s.heap.StaysIn h' → Fresh s.heap h' tl → DatIn tl v (Dat.list (ns.map ordD)) → Q v { s with heap := h', toks := tk }) :
    wpAny (model PG w) (Ar dp un gd outer) (call (.ref 802) [.ref al]) Q E s := all_of _ (fun d => orders_specN.S d.1 d.2.1 d.2.2.1 d.2.2.2.1 d.2.2.2.2.1 d.2.2.2.2.2.1 d.2.2.2.2.2.2.1 d.2.2.2.2.2.2.2.1 d.2.2.2.2.2.2.2.2.1 d.2.2.2.2.2.2.2.2.2.1 d.2.2.2.2.2.2.2.2.2.2.1 d.2.2.2.2.2.2.2.2.2.2.2.1 d.2.2.2.2.2.2.2.2.2.2.2.2.1 d.2.2.2.2.2.2.2.2.2.2.2.2.2.1 d.2.2.2.2.2.2.2.2.2.2.2.2.2.2.1 d.2.2.2.2.2.2.2.2.2.2.2.2.2.2.2.1 d.2.2.2.2.2.2.2.2.2.2.2.2.2.2.2.2) (by with_unfolding_all exact orders_specN.core) (w, dp, un, gd, s, p, loose, mean, mg, mb, base, outer, Q, E, al, vs, ns) C hroom hal hvs hlen k
end Mine
end
section

namespace Mine
section
variable {prog : Program} {w : World} {A : Around} {E : Value → Shared → Prop} {s : Shared} {h₀ : Heap} {L : Addr} {m : Str → Option Value} {env : Env} {elt ct : PySem.Expr} {x : Str} {scope : Scope} {cl : List (Str × Addr)} {S : List (Addr × Obj) → Prop} {P : Nat → Value → Prop} {Fin : List Value → List (Addr × Obj) → Prop} {news : List (Addr × Obj)}
theorem cr_gen {n : Nat} (J : Nat → List Value → List (Addr × Obj) → Prop) (h0 : J 0 [] news)
    (turn : ∀ i v I oI C oC D m₂ ys nw h tk (E' : Value → Shared → Prop), i < n → P i v → J i ys nw → LCg.NsObj oC m₂ → m₂ x = some v → Fr h₀ L h m → News h₀ L h ((I, oI) :: (C, oC) :: (D, LCg.lst ys) :: nw) → LCg.Off3 I C D nw → ((@Ne Nat I C) ∧ (@Ne Nat I D) ∧ (@Ne Nat C D)) →
      wpAny (model prog w) A (eval elt (compEnvC scope cl C env)) (LCg.CompEnd h₀ L m { s with heap := h, toks := tk } I oI C oC D (LCg.lst ys) S (fun y news' => J (i + 1) (ys ++ [y]) news')) E' { s with heap := h, toks := tk })
    (fin : ∀ ys nw, J n ys nw → Fin ys nw) : LCg.CompRest prog w A h₀ L m env elt x scope cl s S P Fin n 0 [] news := by
  have key : ∀ (j i : Nat) (ys : List Value) (nw : List (Addr × Obj)), i + j = n → J i ys nw → LCg.CompRest prog w A h₀ L m env elt x scope cl s S P Fin j i ys nw := by
    intro j
    induction j with
    | zero =>
      intro i ys nw hi hy
      obtain rfl : i = n := hi
      exact LCg.CompRest.zero (fin ys nw hy)
    | succ j ih =>
      intro i ys nw hi hy
      refine LCg.CompRest.succ fun v I oI C oC D m₂ h tk E' hv hC hx F N off ne => wpAny_mono (turn i v I oI C oC D m₂ ys nw h tk E' (by omega) hv hy hC hx F N off ne) (fun y s₂ hq => ?_) fun _ _ e => e
      obtain ⟨h', tk', nw', e, F', N', off', hS, hJ⟩ := hq
      exact ⟨h', tk', nw', e, F', N', off', hS, ih (i + 1) _ _ (by omega) hJ⟩
  exact key n 0 [] news (by omega) h0
theorem cr_genT {n : Nat} (J : Nat → List Value → List (Addr × Obj) → Prop) (h0 : J 0 [] news)
    (turn : ∀ i v I oI C oC D m₂ ys nw h tk (E' : Value → Shared → Prop), i < n → P i v → J i ys nw → LCg.NsObj oC m₂ → m₂ x = some v → Fr h₀ L h m → News h₀ L h ((I, oI) :: (C, oC) :: (D, LCg.lst ys) :: nw) → LCg.Off3 I C D nw → ((@Ne Nat I C) ∧ (@Ne Nat I D) ∧ (@Ne Nat C D)) →
      wpAny (model prog w) A (isTrue ct (compEnvC scope cl C env) (eval ct (compEnvC scope cl C env))) (fun ok s' => if ok = true then
        wpAny (model prog w) A (eval elt (compEnvC scope cl C env)) (LCg.CompEnd h₀ L m { s with heap := h, toks := tk } I oI C oC D (LCg.lst ys) S (fun y news' => J (i + 1) (ys ++ [y]) news')) E' s'
        else LCg.CompEnd h₀ L m { s with heap := h, toks := tk } I oI C oC D (LCg.lst ys) S (fun _ news' => J (i + 1) ys news') Value.none s') E' { s with heap := h, toks := tk })
    (fin : ∀ ys nw, J n ys nw → Fin ys nw) : LCt.CompRestT prog w A h₀ L m env ct elt x scope cl s S P Fin n 0 [] news := by
  have key : ∀ (j i : Nat) (ys : List Value) (nw : List (Addr × Obj)), i + j = n → J i ys nw → LCt.CompRestT prog w A h₀ L m env ct elt x scope cl s S P Fin j i ys nw := by
    intro j
    induction j with
    | zero =>
      intro i ys nw hi hy
      obtain rfl : i = n := hi
      exact LCt.CompRestT.zero (fin ys nw hy)
    | succ j ih =>
      intro i ys nw hi hy
      refine LCt.CompRestT.succ fun v I oI C oC D m₂ h tk E' hv hC hx F N off ne => wpAny_mono (turn i v I oI C oC D m₂ ys nw h tk E' (by omega) hv hy hC hx F N off ne) (fun ok s₂ hq => ?_) fun _ _ e => e
      cases ok with
      | true =>
        simp only [if_true] at hq ⊢
        refine wpAny_mono hq (fun y s₃ hq => ?_) fun _ _ e => e
        obtain ⟨h', tk', nw', e, F', N', off', hS, hJ⟩ := hq
        exact ⟨h', tk', nw', e, F', N', off', hS, ih (i + 1) _ _ (by omega) hJ⟩
      | false =>
        simp only [Bool.false_eq_true, if_false] at hq ⊢
        obtain ⟨h', tk', nw', e, F', N', off', hS, hJ⟩ := hq
        exact ⟨h', tk', nw', e, F', N', off', hS, ih (i + 1) _ _ (by omega) hJ⟩
  exact key n 0 [] news (by omega) h0
theorem listComp_ST {iter : PySem.Expr} {px : Pos} {pos : Pos} {Q : Value → Shared → Prop} (_F₀ : Fr h₀ L s.heap m)
    (hclos : closureFor scope env = pure cl) (hcell : ∀ y ∈ scope.names, y.2 ≠ .cell) (hkind : scope.kind = .function)
    (hnames : ∀ y ∈ scope.names, y.2 = .local → scope.names.lookup y.1 = some .local) (hx : scope.names.lookup x = some .local)
    (h : wpAny (model prog w) A (eval iter env) (fun xv s₁ => ∃ b t news, xv = .str b t ∧ b.cps.all (· < 128) = true ∧ A.handled = none ∧ Fr h₀ L s₁.heap m ∧ News h₀ L s₁.heap news ∧ b.cps.size ≤ sizeLine ∧
      ∀ g : Heap, LCt.CompRestT prog w A h₀ L m env ct elt x scope cl { s₁ with heap := g } (fun _ => True) (SignAt b) (LCg.FinE h₀ L m { s₁ with heap := g } Q) b.cps.size 0 [] news) E s)
    (hs : ∀ x, foldedSetIterable iter env x = pure x := by intro _; rfl) :
    wpAny (model prog w) A (eval (.ListComp elt [⟨.Name x px, iter, [ct], 0⟩] scope pos) env) Q E s := by
  rw [eval_ListComp]
  refine wpAny_comprehension_free (use := none) rfl hs hclos hkind hnames (wpAny_mono h (fun xv s₁ h₁ => ?_) fun _ _ e => e)
  obtain ⟨b, t, news, rfl, ha, hh, F, N, hsz, R⟩ := h₁
  refine wpAny_pyIter_ascii ha ?_
  have up : ∀ (ob : Obj) c o, s₁.heap.get? c = some o → (s₁.heap.push ob).get? c = some o := fun ob c o e => Heap.get?_push_of_some _ e
  refine LCt.block_T (S := fun _ => True) (Walks.strAscii hh s₁.heap.objs.size b t) hsz (fun i h st => by obtain ⟨o, e, _⟩ := st; exact ⟨o, e⟩)
    (fun i h h' o nw st e e' _ _ _ => by obtain ⟨o', q, r⟩ := st; rw [e] at q; cases q; exact ⟨o, e', r⟩) hcell hkind hx ⟨_, Heap.get?_push_size _ rfl, rfl, rfl⟩ (fun c hc => ?_)
    (F.keeps (up _)) (N.grown (up _)) (Nat.ne_of_lt F.ns.lt) (next_is_new F) (fun p hp => Nat.ne_of_lt (Heap.lt_size (N p hp).1)) trivial (R _) ?_
  · show c < (s₁.heap.push _).objs.size
    rw [Heap.size_push, List.mem_singleton.mp hc]
    exact Nat.lt_succ_self _
  · intro D C h' tk m' ys news' F' N' o1 hn hC₀ hD₀ hCL hDL hCD offC fin
    refine ⟨m', hn, fun h'' hs'' => fin D h'' tk (F'.change hs'' hCL hC₀) (fun p hp => ?_) o1⟩
    refine ⟨hs''.extBut _ _ ?_ (N' p hp).1, (N' p hp).2⟩
    rcases List.mem_cons.mp hp with rfl | hp
    · exact Ne.symm hCD
    · exact offC p hp
end
end Mine
end
section

namespace Mine
theorem fillSP : PySem.Challenge.rw_in0080_01 = PySem.Challenge.rw_in0080_01 ∧ hd.heap_39 = hd.heap_39 := by k_fill; exact ⟨rfl, rfl⟩
noncomputable def badC (c : Nat) : Bool := !(Txt.isalnum ⟨#[c]⟩) && (Builtin.Str.occurrences (Str.ofString "_@%+=:,./-") ⟨#[c]⟩ 0 (Str.ofString "_@%+=:,./-").length 1).isEmpty
noncomputable abbrev badL (l : List Nat) : List Str := (l.filter badC).map fun c => ⟨#[c]⟩
theorem badL_yes {l : List Nat} {i c : Nat} (hc : l[i]? = some c) (h : badC c = true) : badL (l.take (i + 1)) = badL (l.take i) ++ [⟨#[c]⟩] := by
  unfold badL; rw [List.take_add_one, hc]; simp [h]
theorem badL_no {l : List Nat} {i c : Nat} (hc : l[i]? = some c) (h : badC c = false) : badL (l.take (i + 1)) = badL (l.take i) := by
  unfold badL; rw [List.take_add_one, hc]; simp [h]
theorem strs_dat : ∀ {vs : List Value} {ws : List Str}, StrsAre vs ws → DatAll [] vs (ws.map Dat.str)
  | _, _, .nil => .nil
  | _, _, .cons x t r => .cons (.str x t) (strs_dat r)
open Classical in
theorem bad_none {x : Str} {q : Bool} (h : (x.cps.toList.filter badC).isEmpty = !q) : decide ((badL x.cps.toList).map Dat.str = []) = !q := by
  rw [← h]
  cases e : x.cps.toList.filter badC <;> simp [badL, e]
theorem bad_y {c : Nat} (h1 : Txt.isalnum ⟨#[c]⟩ = false) (h2 : (Builtin.Str.occurrences (Str.ofString "_@%+=:,./-") ⟨#[c]⟩ 0 (Str.ofString "_@%+=:,./-").length 1).isEmpty = true) : badC c = true := by unfold badC; rw [h1, h2]; rfl
theorem bad_n1 {c : Nat} (h1 : Txt.isalnum ⟨#[c]⟩ = true) : badC c = false := by unfold badC; rw [h1]; rfl
theorem bad_n2 {c : Nat} (h2 : (Builtin.Str.occurrences (Str.ofString "_@%+=:,./-") ⟨#[c]⟩ 0 (Str.ofString "_@%+=:,./-").length 1).isEmpty = false) : badC c = false := by unfold badC; rw [h2, Bool.and_false]
theorem one_of_map {l : List (Str × Tok)} {x : Str} (h : l.map (·.1) = [x]) : ∃ t, l = [(x, t)] := by
  match l, h with
  | [(y, t)], h => injection h with h1 h2; exact ⟨t, by rw [← h1]⟩
theorem IsList9 {h : Heap} {D : Addr} {ys : List Value} (e : h.get? D = some (LCg.lst ys)) : h.IsList D ys.toArray := ⟨_, e, rfl, _, rfl⟩
theorem join_single (sep x : Str) : Txt.join sep [x] = x := by
  show Builtin.Str.glued sep [x] = x
  rw [StrLaws.glued_eq_join]; rfl
namespace spelled_specN
noncomputable def S (w : World) (dp un : Nat) (gd : Option (List Code)) (s : Shared) (outer : List Env) (Q E : Value → Shared → Prop) (al : Addr) (vs : List Value) (ws : List Str) : Prop := ∀ (p : Program) (loose : List Str) (mean : ExcName → Option Value) (mg mb : Str → Option Value) (base : Heap) (C : Cx w p loose mean mg mb base dp un gd outer s.heap s) (hroom : dp + 30 < recursionLimit) (hal : s.heap.IsList al vs.toArray) (hvs : StrsAre vs ws) (hlen : ws.length ≤ 18) (q : Str → Bool) (hun : un + 200 < 9900) (hq : ∀ x ∈ ws, (0 < x.length ∧ x.length ≤ 30) ∧ x.cps.all (· < 128) = true ∧ (x.cps.toList.filter badC).isEmpty = (!q x) ∧ Txt.split x (Str.ofString "'") = [x]) (k : ∀ h' tk t, s.heap.StaysIn h' → Q (.str (Txt.join (Str.ofString " ") (ws.map fun x => quoteT x (q x))) t) { s with heap := h', toks := tk }), wpAny (model PG w) (Ar dp un gd outer) (call (.ref 795) [.ref al]) Q E s
noncomputable def zD : World × Nat × Nat × Option (List Code) × Shared × List Env × (Value → Shared → Prop) × (Value → Shared → Prop) × Addr × List Value × List Str := cex (jW, 0, 0, none, jS, [], (fun _ _ => True), (fun _ _ => True), (0 : Nat), [], []) fun d => S d.1 d.2.1 d.2.2.1 d.2.2.2.1 d.2.2.2.2.1 d.2.2.2.2.2.1 d.2.2.2.2.2.2.1 d.2.2.2.2.2.2.2.1 d.2.2.2.2.2.2.2.2.1 d.2.2.2.2.2.2.2.2.2.1 d.2.2.2.2.2.2.2.2.2.2
@[irreducible] noncomputable def w : World := zD.1
@[irreducible] noncomputable def dp : Nat := zD.2.1
@[irreducible] noncomputable def un : Nat := zD.2.2.1
@[irreducible] noncomputable def gd : Option (List Code) := zD.2.2.2.1
@[irreducible] noncomputable def s : Shared := zD.2.2.2.2.1
@[irreducible] noncomputable def L' : Addr := s.heap.objs.size
@[irreducible] noncomputable def outer : List Env := zD.2.2.2.2.2.1
@[irreducible] noncomputable def Q : Value → Shared → Prop := zD.2.2.2.2.2.2.1
@[irreducible] noncomputable def E : Value → Shared → Prop := zD.2.2.2.2.2.2.2.1
@[irreducible] noncomputable def al : Addr := zD.2.2.2.2.2.2.2.2.1
@[irreducible] noncomputable def vs : List Value := zD.2.2.2.2.2.2.2.2.2.1
@[irreducible] noncomputable def ws : List Str := zD.2.2.2.2.2.2.2.2.2.2
theorem core : S w dp un gd s outer Q E al vs ws := by
  intro p loose mean mg mb base C hroom hal hvs hlen q hun hq k
  obtain ⟨X, T, B, G, Gz⟩ := C
  refine wpAny_call ?_
  k_dflt (refine' enter (news := []) X T (fun _ _ e => e) (Nat.le_refl _) (fun _ h => nomatch h) ?k6 ?k7 ?k8 ?k9 ?kB ?_ ?c2 ?c3 ?c4 ?c5; (case k6 => k_is); (case k7 => k_is); (case k8 => (show dp < _; omega)); (case k9 => first | exact BindsTo.of_eq rfl | exact binds_K (by k_in) rfl (by k_is) rfl rfl rfl);(case c5 => decide); (case kB => exact locs rfl); (case c2 => exact rfl); (case c3 => exact rfl); (case c4 => exact rfl))
  intro L₀ h₁ hL F N l1 G1
  obtain rfl : L₀ = L' := hL.trans (by with_unfolding_all rfl)
  (try dsimp only); (try k_fold)
  repeat' ((first | ((fail_if_success (with_reducible show wpAny _ _ (eval (Expr.ListComp _ _ _ _) _) _ _ _)); first | walk1 | (dsimp only; walk1)) | fail "no step") <;> (try dsimp only))
  refine LCg.ListComp_U (F₀ := F) (by with_unfolding_all rfl) (by decide) (by rfl) (by decide) (by rfl) ?_
  walk1
  refine LCg.CompSrc.base (by rfl) (by k_asm) (by k_asm) hal (by rw [List.size_toArray, hvs.length, sizeLine_eq]; omega) ?_
  intro g'
  refine cr_gen (fun i ys nw => nw = [] ∧ StrsAre ys ((ws.take i).map fun x => quoteT x (q x))) ⟨rfl, .nil⟩ ?_ ?_
  · rintro i v I oI C oC D m₂ ys nw h tk E' hi hv ⟨rfl, hys⟩ hC hx F' N' off ne
    have hi' : i < ws.length := by rw [List.size_toArray, hvs.length] at hi; exact hi
    obtain ⟨t0, e0⟩ := hvs.get i ws[i] (List.getElem?_eq_getElem hi')
    rw [show vs[i]? = some v by simpa using hv] at e0
    obtain rfl := Option.some.inj e0
    obtain ⟨q1, q2, q3, q4⟩ := hq _ (List.getElem_mem hi')
    generalize hx9 : ws[i] = x at *
    have off9 := off
    simp only [LCg.Off3] at off
    (try dsimp only)
    repeat' ((first | ((fail_if_success (with_reducible show wpAny _ _ (eval (Expr.ListComp _ _ _ _) _) _ _ _)); first | walk1 | (dsimp only; walk1)) | fail "no step") <;> (try dsimp only))
    · refine listComp_ST F' (by with_unfolding_all rfl) (by decide) (by rfl) (by decide) (by rfl) ?_
      walk1
      refine ⟨x, t0, _, rfl, q2, rfl, by k_asm, by k_asm, by rw [sizeLine_eq]; exact Nat.le_trans q1.2 (by decide), ?_⟩
      intro g2
      refine cr_genT (fun i ys2 nw => nw = [(I, oI), (C, oC), (D, LCg.lst ys)] ∧ StrsAre ys2 (((x.cps.toList.take i).filter badC).map fun c => ⟨#[c]⟩)) ⟨rfl, .nil⟩ ?_ ?_
      · rintro i2 v2 I2 oI2 C2 oC2 D2 m2 ys2 nw2 h2 tk2 E2 hi2 hv2 ⟨rfl, hys2⟩ hC2 hx2 F2 N2 off2 ne2
        obtain ⟨c, u2, hc, rfl⟩ := hv2
        have off0 := off2
        have hc8 : x.cps.toList[i2]? = some c := by rw [Array.getElem?_toList]; exact hc
        simp only [LCg.Off3] at off2
        (try dsimp only)
        have hc9 : (c : Int) < 128 := by
          have := Array.all_eq_true'.mp q2 c (Array.mem_of_getElem? hc)
          have := of_decide_eq_true this
          omega
        repeat' ((first | ((fail_if_success (with_reducible show LCg.CompEnd _ _ _ _ _ _ _ _ _ _ _ _ _ _)); first | walk1 | (dsimp only; walk1)) | fail "no step") <;> (try dsimp only))
        all_goals first
          | exact absurd hc9 (by assumption)
          | exact LCg.CompEnd.intro (by assumption) (by assumption) _ (by kcf_all) off0 trivial ⟨rfl, by rw [show List.map _ _ = badL _ from rfl, badL_yes hc8 (bad_y (by assumption) (by assumption))]; exact kct_snoc hys2⟩
          | exact LCg.CompEnd.intro (by assumption) (by assumption) _ (by kcf_all) off0 trivial ⟨rfl, by rw [show List.map _ _ = badL _ from rfl, badL_no hc8 (bad_n1 (by assumption))]; exact hys2⟩
          | exact LCg.CompEnd.intro (by assumption) (by assumption) _ (by kcf_all) off0 trivial ⟨rfl, by rw [show List.map _ _ = badL _ from rfl, badL_no hc8 (bad_n2 (by assumption))]; exact hys2⟩
      · rintro ys2 nw2 ⟨rfl, hys2⟩
        unfold LCg.FinE; intro D2 h3 tk3 F3 N3 o3
        rw [show List.take x.cps.size x.cps.toList = x.cps.toList from List.take_of_length_le (by rw [Array.length_toList]; exact Nat.le_refl _)] at hys2
        (try dsimp only)
        repeat' ((first | ((fail_if_success (with_reducible show wpAny _ _ (compareOp _ (Value.ref _) (Value.ref _)) _ _ _)); first | walk1 | (dsimp only; walk1)) | fail "no step") <;> (try dsimp only))
        refine kqd_eq (n₁ := []) (n₂ := []) (ys := []) (es := []) (by assumption) (.tail _ (.head _)) rfl rfl (strs_dat hys2) (fun _ h => nomatch h) (.head _) rfl rfl .nil (fun _ h => nomatch h) (fun d hd => ?_) (fun _ h => nomatch h) (by rw [show cLine = 9900 from rfl]; show un + 3 + 64 < 9900; omega) ?_
        · obtain ⟨y, hy, rfl⟩ := List.mem_map.mp hd
          obtain ⟨c, hc, rfl⟩ := List.mem_map.mp hy
          have hm := Array.all_eq_true'.mp q2 c (Array.mem_toList_iff.mp (List.mem_filter.mp hc).1)
          have := of_decide_eq_true hm
          simp [kqdOk, PyData.strOk]; omega
        rw [bad_none q3]
        cases hqx : q x with
        | false =>
          rw [Bool.not_false]
          repeat' ((first | ((fail_if_success (with_reducible show LCg.CompEnd _ _ _ _ _ _ _ _ _ _ _ _ _ _)); first | walk1 | (dsimp only; walk1)) | fail "no step") <;> (try dsimp only))
          exact LCg.CompEnd.intro (by assumption) (by assumption) [] (by kcf_all) off9 (.inl hal) ⟨rfl, by rw [List.take_add_one, List.getElem?_eq_getElem hi', hx9, List.map_append]; show StrsAre _ (_ ++ [quoteT x (q x)]); rw [hqx]; exact kct_snoc hys⟩
        | true =>
          rw [Bool.not_true]
          repeat' ((first | ((fail_if_success (with_reducible show wpAny _ _ (call (Value.builtin "str.join") _) _ _ _)); first | walk1 | (dsimp only; walk1)) | fail "no step") <;> (try dsimp only))
          have el := ‹List.map _ _ = Txt.split x (Str.ofString "'")›
          rw [q4] at el
          obtain ⟨t9, rfl⟩ : ∃ t9, _ = [(x, t9)] := one_of_map el
          repeat' ((first | ((fail_if_success (with_reducible show wpAny _ _ (binaryOp _ _ _) _ _ _)); first | walk1 | (dsimp only; walk1)) | fail "no step") <;> (try dsimp only))
          rw [show Txt.join (Str.ofString "'\"'\"'") (List.map (fun x => x.1) [(x, t9)]) = x from join_single _ _]
          refine SBL.add (hsz := sz1 q1.2) ?_
          intro _ _ _
          repeat' ((first | ((fail_if_success (with_reducible show wpAny _ _ (binaryOp _ _ _) _ _ _)); first | walk1 | (dsimp only; walk1)) | fail "no step") <;> (try dsimp only))
          refine SBL.add (hsz := sz2 q1.2) ?_
          intro _ _ _
          exact LCg.CompEnd.intro (by assumption) (by assumption) [] (by kcf_all) off9 (.inl hal) ⟨rfl, by rw [List.take_add_one, List.getElem?_eq_getElem hi', hx9, List.map_append]; show StrsAre _ (_ ++ [quoteT x (q x)]); rw [hqx]; exact kct_snoc hys⟩
    · exfalso
      have e : x = Str.ofString "" := by simpa using ‹(x != Str.ofString "") = false›
      rw [e] at q1
      exact absurd q1.1 (by decide +kernel)
  · rintro ys nw ⟨rfl, hys⟩
    rw [show List.take vs.toArray.size ws = ws from List.take_of_length_le (by rw [List.size_toArray, hvs.length]; exact Nat.le_refl _)] at hys
    unfold LCg.FinE; intro D2 h3 tk3 F3 N3 o3
    (try dsimp only)
    repeat' ((first | ((fail_if_success (with_reducible show wpAny _ _ (call (Value.builtin "str.join") _) _ _ _)); first | walk1 | (dsimp only; walk1)) | fail "no step") <;> (try dsimp only))
    refine join_listW (IsList9 (N3 _ (.head _)).1) hys (by decide +kernel) ?_ fun t' k' => ?_
    · have := StrLaws.sumLen_le (B := 32) (ws.map fun x => quoteT x (q x)) (fun y hy => by
        obtain ⟨x, hx, rfl⟩ := List.mem_map.mp hy
        exact quoteT_len (hq x hx).1.2)
      rw [List.length_map] at this ⊢
      omega
    · exact k _ _ _ F3.keep
end spelled_specN
theorem spelled_spec {w : World} {dp un : Nat} {gd : Option (List Code)} {s : Shared} {p : Program} {loose : List Str} {mean : ExcName → Option Value} {mg mb : Str → Option Value} {base : Heap} {outer : List Env} {Q E : Value → Shared → Prop}
    (C : Cx w p loose mean mg mb base dp un gd outer s.heap s) (hroom : dp + 30 < recursionLimit) {al : Addr} {vs : List Value} {ws : List Str} (hal : s.heap.IsList al vs.toArray) (hvs : StrsAre vs ws) (hlen : ws.length ≤ 18) {q : Str → Bool}
    (hun : un + 200 < 9900)
    (hq : ∀ x ∈ ws, (0 < x.length ∧ x.length ≤ 30) ∧ x.cps.all (· < 128) = true ∧ (x.cps.toList.filter badC).isEmpty = (!q x) ∧ Txt.split x (Str.ofString "'") = [x])
    (k : ∀ h' tk t, s.heap.StaysIn h' → Q (.str (Txt.join (Str.ofString " ") (ws.map fun x => quoteT x (q x))) t) { s with heap := h', toks := tk }) :
    wpAny (model PG w) (Ar dp un gd outer) (call (.ref 795) [.ref al]) Q E s := all_of _ (fun d => spelled_specN.S d.1 d.2.1 d.2.2.1 d.2.2.2.1 d.2.2.2.2.1 d.2.2.2.2.2.1 d.2.2.2.2.2.2.1 d.2.2.2.2.2.2.2.1 d.2.2.2.2.2.2.2.2.1 d.2.2.2.2.2.2.2.2.2.1 d.2.2.2.2.2.2.2.2.2.2) (by with_unfolding_all exact spelled_specN.core) (w, dp, un, gd, s, outer, Q, E, al, vs, ws) p loose mean mg mb base C hroom hal hvs hlen q hun hq k
end Mine
end
section

namespace Mine
section
variable {w : World} {p : Program} {loose : List Str} {mean : ExcName → Option Value} {mg mb : Str → Option Value} {base h₀ : Heap} {dp un : Nat} {gd : Option (List Code)} {outer : List Env} {s : Shared} {env : Env} {L : Addr} {m : Str → Option Value} {news pre : List (Addr × Obj)} {A₀ : Around} {Q E : Value → Shared → Prop}
theorem orders_K (X : (hd.heap_39 w.params).In h₀) (T : Top p loose mean mg mb h₀) (B : Below A₀ base outer h₀) (F : Fr h₀ L s.heap m) (N : News h₀ L s.heap news) (hA : A₀.deeper env = Ar dp un gd (env :: outer)) (hf : env.frame = some L) (hk : env.scope.kind = .function) (hroom : dp + 30 < recursionLimit)
    {al : Addr} {vs : List Value} {ns : List Int} (hal : s.heap.IsList al vs.toArray) (hvs : IntsAre vs ns) (hlen : ns.length ≤ 9)
    (k : ∀ h' tk v tl, Fr h₀ L h' m → News h₀ L h' (tl ++ news) → (∀ q ∈ tl, ∀ r ∈ news, r.1 ≠ q.1) → DatIn tl v (Dat.list (ns.map ordD)) → Q v { s with heap := h', toks := tk }) :
    wpAny (model PG w) (A₀.deeper env) (call (.ref 802) [.ref al]) Q E s := by
  have C := Cx.call (dp := dp) (un := un) (gd := gd) X T B F hA hf hk
  rw [hA]
  refine orders_spec C hroom hal hvs hlen fun h' tk v tl st fr hd' => ?_
  have F' := fr_stays F st
  refine k h' tk v tl F' (fun q hq => ?_) (fun q hq r hr e => ?_) hd'
  · rcases List.mem_append.mp hq with hq | hq
    · refine ⟨(fr q hq).1, fun e => ?_, ?_⟩
      · obtain ⟨oL, _, _, hoL, _⟩ := F.ns
        have := (fr q hq).2
        rw [e, hoL] at this; cases this
      · cases z : h₀.get? q.1 with
        | none => rfl
        | some o => have := (fr q hq).2; rw [F.keep _ _ z] at this; cases this
    · exact news_stays N st q hq
  · have := (fr q hq).2
    rw [← e, (N r hr).1] at this; cases this
theorem walked_K (X : (hd.heap_39 w.params).In h₀) (T : Top p loose mean mg mb h₀) (B : Below A₀ base outer h₀) (F : Fr h₀ L s.heap m) (N : News h₀ L s.heap news) (hA : A₀.deeper env = Ar dp un gd (env :: outer)) (hf : env.frame = some L) (hk : env.scope.kind = .function) (hroom : dp + 60 < recursionLimit) (hun : un + 300 < 9900)
    {al rl : Addr} {vs rs : List Value} {os : List Ord} {row : List Int} (hal : s.heap.IsList al vs.toArray) (hvl : vs.length = os.length)
    (hos : ∀ (i : Nat) v o, vs[i]? = some v → os[i]? = some o → OrdAt s.heap v o) (hok : ∀ o ∈ os, o.Ok) (hlen : os.length ≤ 9) (hrl : s.heap.IsList rl rs.toArray) (hrs : IntsAre rs row) (hrow : RowOk row)
    (k : ∀ h' tk v tl, Fr h₀ L h' m → News h₀ L h' (tl ++ news) → (∀ q ∈ tl, ∀ r ∈ news, r.1 ≠ q.1) → DatIn tl v (Dat.list (walkP row os)) → Q v { s with heap := h', toks := tk }) :
    wpAny (model PG w) (A₀.deeper env) (call (.ref 829) [.ref al, .ref rl]) Q E s := by
  have C := Cx.call (dp := dp) (un := un) (gd := gd) X T B F hA hf hk
  rw [hA]
  refine walked_spec C hroom hun hal hvl hos hok hlen hrl hrs hrow fun h' tk v tl st fr hd' => ?_
  have F' := fr_stays F st
  refine k h' tk v tl F' (fun q hq => ?_) (fun q hq r hr e => ?_) hd'
  · rcases List.mem_append.mp hq with hq | hq
    · refine ⟨(fr q hq).1, fun e => ?_, ?_⟩
      · obtain ⟨oL, _, _, hoL, _⟩ := F.ns
        have := (fr q hq).2
        rw [e, hoL] at this; cases this
      · cases z : h₀.get? q.1 with
        | none => rfl
        | some o => have := (fr q hq).2; rw [F.keep _ _ z] at this; cases this
    · exact news_stays N st q hq
  · have := (fr q hq).2
    rw [← e, (N r hr).1] at this; cases this
theorem spelled_K (X : (hd.heap_39 w.params).In h₀) (T : Top p loose mean mg mb h₀) (B : Below A₀ base outer h₀) (F : Fr h₀ L s.heap m) (N : News h₀ L s.heap news) (hA : A₀.deeper env = Ar dp un gd (env :: outer)) (hf : env.frame = some L) (hk : env.scope.kind = .function) (hroom : dp + 30 < recursionLimit) (hun : un + 200 < 9900)
    {al : Addr} {vs : List Value} {ws : List Str} (hal : s.heap.IsList al vs.toArray) (hvs : StrsAre vs ws) (hlen : ws.length ≤ 18) {q : Str → Bool}
    (hq : ∀ x ∈ ws, (0 < x.length ∧ x.length ≤ 30) ∧ x.cps.all (· < 128) = true ∧ (x.cps.toList.filter badC).isEmpty = (!q x) ∧ Txt.split x (Str.ofString "'") = [x])
    (k : ∀ h' tk t, Fr h₀ L h' m → News h₀ L h' news → Q (.str (Txt.join (Str.ofString " ") (ws.map fun x => quoteT x (q x))) t) { s with heap := h', toks := tk }) :
    wpAny (model PG w) (A₀.deeper env) (call (.ref 795) [.ref al]) Q E s := by
  have C := Cx.call (dp := dp) (un := un) (gd := gd) X T B F hA hf hk
  rw [hA]
  exact spelled_spec C hroom hal hvs hlen hun hq fun h' tk t st => k h' tk t (fr_stays F st) (news_stays N st)
theorem done_K (X : (hd.heap_39 w.params).In h₀) (T : Top p loose mean mg mb h₀) (B : Below A₀ base outer h₀) (F : Fr h₀ L s.heap m) {pst : Array Value} (N : News h₀ L s.heap (pre ++ [(70, tabObj pst)])) (hn : ∀ q ∈ pre, q.1 ≠ 70) (hA : A₀.deeper env = Ar dp un gd (env :: outer)) (hA' : (A₀.deeper env).frames = some (env :: outer)) (hf : env.frame = some L) (hk : env.scope.kind = .function) (hroom : dp + 100 < recursionLimit) (hun : un + 300 < 9900)
    (hp : TabOk pst) {al : Addr} {n : Nat} {ws : List Value} {os : List Ord} {row : List Int} {tr : Tok} (hal : (al, W.listOf ws.toArray n) ∈ pre) (hws : StrsAre ws (wordsL os)) (hok : ∀ o ∈ os, o.Ok) (hlen : os.length ≤ 9) (hrow : RowOk row)
    (k : ∀ h' tk D vs n pst', TabOk pst' → Fr h₀ L h' m → News h₀ L h' ((D, W.listOf vs.toArray n) :: (pre ++ [(70, tabObj pst')])) → (∀ q ∈ pre, q.1 ≠ D) → @Ne Nat 70 D → DatAll [] vs (doneP row os) → Q (.ref D) { s with heap := h', toks := tk }) :
    wpC (model PG w) (A₀.deeper env) (call (.ref 819) [.ref al, .bytes (bytesOf row) tr]) Q E s := by
  have N7 : News h₀ L s.heap [(70, tabObj pst)] := fun q hq => N q (List.mem_append_right _ hq)
  obtain ⟨C, FG⟩ := Cx.hide (dp := dp) (un := un) (gd := gd) X T B F N7 hA hA' hf hk
  rw [hA]
  have keepG : ∀ q ∈ pre, (hideAll s.heap ([((70 : Addr), tabObj pst)].map (·.1))).get? q.1 = some q.2 := fun q hq =>
    hideAll_get _ (N q (List.mem_append_left _ hq)).1 (fun hm => hn q hq (List.mem_singleton.mp hm))
  refine done_spec C hroom hun (N7 _ (.head _)).1 (hide_none (.head _)) hp ⟨_, keepG _ hal, rfl, _, rfl⟩ hws hok hlen hrow fun h' tk D vs n pst' st h70 hp' gD hD hv => ?_
  have hL : D ≠ L := fun e => by
    obtain ⟨oL, _, _, hoL, _⟩ := FG.ns
    rw [e, hoL] at gD; cases gD
  have h0 : h₀.get? D = none := by
    cases q : h₀.get? D with
    | none => rfl
    | some o => rw [FG.keep _ _ q] at gD; cases gD
  refine k h' tk D vs n pst' hp' (fr_stays FG st) (fun q hq => ?_) (fun q hq e => by have := keepG q hq; rw [e, gD] at this; cases this) ?_ hv
  · rcases List.mem_cons.mp hq with rfl | hq
    · exact ⟨hD, hL, h0⟩
    · rcases List.mem_append.mp hq with hq | hq
      · exact ⟨st _ _ (keepG q hq), (N q (List.mem_append_left _ hq)).2⟩
      · rw [List.mem_singleton.mp hq]
        exact ⟨h70, (N7 _ (.head _)).2⟩
  · intro e
    subst e
    rw [h70] at hD
    cases hD
end
end Mine
end
section

namespace Mine
section
variable {prog : Program} {w : World} {A : Around} {R : Result → Shared → Prop} {s : Shared} {elt t0 i0 t1 i1 : PySem.Expr} {scope : Scope} {pos : Pos} {it acc : Value} {env : Env}
noncomputable abbrev two (elt t0 i0 t1 i1 : PySem.Expr) (scope : Scope) (pos : Pos) : PySem.Expr := .ListComp elt [⟨t0, i0, [], 0⟩, ⟨t1, i1, [], 0⟩] scope pos
theorem two_start (d : Nat) (hd : d = 0 ∨ d = 1)
    (h0 : codeAny (model prog w) A (.compLoop (two elt t0 i0 t1 i1 scope pos) d it acc env) R s)
    (h : wpAny (model prog w) A (pyIter it) (fun it' s' => codeAny (model prog w) A (.compLoop (two elt t0 i0 t1 i1 scope pos) d it' acc env) R s') (fun _ _ => False) s) :
    codeAny (model prog w) A (.compStart (two elt t0 i0 t1 i1 scope pos) d it acc env) R s := by
  refine codeAny_of_tree ?_
  show wpAny _ _ ((compStart (two elt t0 i0 t1 i1 scope pos) d it acc env).onRaise (fun x => do noteFrame x env; standAt theWindowsPlace)) _ _ s
  refine wpAny_onRaise (wpAny_mono (E := fun _ _ => False) ?_ (fun _ _ q => q) fun _ _ x => x.elim)
  unfold compStart
  rcases hd with rfl | rfl
  all_goals
    show wpAny _ _ (ask >>= _) _ _ s
    refine wpAny_bind (wpAny_askSetting (wpAny_ite ?_))
    split
    · first
        | exact wpAny_bind (wpAny_pure (wpAny_pure (And.intro rfl h0)))
        | exact wpAny_pure (And.intro rfl h0)
    · first
        | exact wpAny_bind (wpAny_rule (wpAny_bind (wpAny_standAt (wpAny_bind (wpAny_mono h (fun it' s' h' => wpAny_pure (And.intro rfl h')) fun _ _ x => x)))))
        | (refine wpAny_bind (wpAny_rule ?_); refine wpAny_bind (wpAny_standAt (wpAny_bind (wpAny_mono h (fun it' s' h' => wpAny_pure (And.intro rfl h')) fun _ _ x => x))))
theorem two_turn0 : compTurn (two elt t0 i0 t1 i1 scope pos) 0 it acc env = (standAt i0.pos >>= fun _ => pyNext it >>= fun r => match r with
      | none => pure (.done .next)
      | some v => letOwnedTupleGo t0 it v >>= fun _ => assign t0 env v >>= fun _ =>
        (eval i1 env >>= fun x => standAt i1.pos >>= fun _ => foldedSetIterable i1 env x >>= fun x => holding [x] (pyIter x) >>= fun it' => runOwn (.compStart (two elt t0 i0 t1 i1 scope pos) 1 it' acc env) env >>= fun _ =>
          again (.compLoop (two elt t0 i0 t1 i1 scope pos) 0 it acc env))) := by rfl
theorem two_turn1 : compTurn (two elt t0 i0 t1 i1 scope pos) 1 it acc env = (standAt i1.pos >>= fun _ => pyNext it >>= fun r => match r with
      | none => pure (.done .next)
      | some v => letOwnedTupleGo t1 it v >>= fun _ => assign t1 env v >>= fun _ =>
        (eval elt env >>= fun x => call (.builtin "list.append") [acc, x] >>= fun _ => pure ()) >>= fun _ =>
          again (.compLoop (two elt t0 i0 t1 i1 scope pos) 1 it acc env)) := by rfl
theorem two_loop0 (I : Nat → Shared → Prop)
    (turn : ∀ n s, I n s → wpAny (model prog w) A (pyNext it) (fun r s₁ => match r with
      | none => R (.ok .next) s₁
      | some v => wpAny (model prog w) A (assign t0 env v) (fun _ s₂ => wpAny (model prog w) A (eval i1 env) (fun x s₃ => wpAny (model prog w) A (pyIter x) (fun it' s₄ =>
          codeAny (model prog w) A (.compStart (two elt t0 i0 t1 i1 scope pos) 1 it' acc env) (fun r s₅ => match r with | .ok _ => ∃ m, m < n ∧ I m s₅ | .error _ => False) s₄) (fun _ _ => False) s₃) (fun _ _ => False) s₂) (fun _ _ => False) s₁) (fun _ _ => False) s)
    (n : Nat) (h : I n s) (ht : ∀ v, letOwnedTupleGo t0 it v = pure () := by intro _; rfl) (hs : ∀ x, foldedSetIterable i1 env x = pure x := by intro _; rfl) :
    codeAny (model prog w) A (.compLoop (two elt t0 i0 t1 i1 scope pos) 0 it acc env) R s := by
  refine codeAny_loop rfl I (fun n s hI => ?_) n h
  show wpAny _ _ ((compTurn (two elt t0 i0 t1 i1 scope pos) 0 it acc env).onRaise (fun x => do noteFrame x env; theTreesLotGoes x)) _ _ s
  refine wpAny_onRaise (wpAny_mono (E := fun _ _ => False) ?_ (fun _ _ q => q) fun _ _ x => x.elim)
  rw [two_turn0]
  refine wpAny_bind (wpAny_standAt (wpAny_bind (wpAny_mono (turn n s hI) (fun r s₁ h₁ => ?_) fun _ _ h' => h')))
  cases r with
  | none => exact wpAny_pure h₁
  | some v =>
    refine wpAny_bind (wpAny_of_eq (ht v) ?_)
    refine wpAny_bind (wpAny_mono h₁ (fun _ s₂ h₂ => wpAny_bind (wpAny_mono h₂ (fun x s₃ h₃ => ?_) fun _ _ h' => h')) fun _ _ h' => h')
    refine wpAny_bind (wpAny_standAt (wpAny_bind (wpAny_of_eq (hs x) (wpAny_bind (wpAny_holding (wpAny_mono h₃ (fun it' s₄ h₄ => ?_) fun _ _ h' => h'))))))
    refine wpAny_bind (wpAny_runOwn (codeAny_mono h₄ fun r s₅ h₅ => ?_))
    cases r with
    | ok f => exact wpAny_pure ⟨rfl, h₅⟩
    | error e => exact h₅.elim
theorem two_loop1 (I : Nat → Shared → Prop)
    (turn : ∀ n s, I n s → wpAny (model prog w) A (pyNext it) (fun r s₁ => match r with
      | none => R (.ok .next) s₁
      | some v => wpAny (model prog w) A (assign t1 env v) (fun _ s₂ => wpAny (model prog w) A (eval elt env) (fun x s₃ =>
          wpAny (model prog w) A (call (.builtin "list.append") [acc, x]) (fun _ s₄ => ∃ m, m < n ∧ I m s₄) (fun _ _ => False) s₃) (fun _ _ => False) s₂) (fun _ _ => False) s₁) (fun _ _ => False) s)
    (n : Nat) (h : I n s) (ht : ∀ v, letOwnedTupleGo t1 it v = pure () := by intro _; rfl) :
    codeAny (model prog w) A (.compLoop (two elt t0 i0 t1 i1 scope pos) 1 it acc env) R s := by
  refine codeAny_loop rfl I (fun n s hI => ?_) n h
  show wpAny _ _ ((compTurn (two elt t0 i0 t1 i1 scope pos) 1 it acc env).onRaise (fun x => do noteFrame x env; theTreesLotGoes x)) _ _ s
  refine wpAny_onRaise (wpAny_mono (E := fun _ _ => False) ?_ (fun _ _ q => q) fun _ _ x => x.elim)
  rw [two_turn1]
  refine wpAny_bind (wpAny_standAt (wpAny_bind (wpAny_mono (turn n s hI) (fun r s₁ h₁ => ?_) fun _ _ h' => h')))
  cases r with
  | none => exact wpAny_pure h₁
  | some v =>
    refine wpAny_bind (wpAny_of_eq (ht v) ?_)
    exact wpAny_bind (wpAny_mono h₁ (fun _ s₂ h₂ => wpAny_bind (wpAny_bind (wpAny_mono h₂ (fun x s₃ h₃ => wpAny_bind (wpAny_mono h₃
      (fun _ s₄ h₄ => wpAny_pure (wpAny_pure ⟨rfl, h₄⟩)) fun _ _ h' => h')) fun _ _ h' => h'))) fun _ _ h' => h')
end
end Mine
end
section

namespace Mine
theorem strs_app : ∀ {a b : List Value} {x y : List Str}, StrsAre a x → StrsAre b y → StrsAre (a ++ b) (x ++ y)
  | _, _, _, _, .nil, h => h
  | _, _, _, _, .cons x t r, h => .cons x t (strs_app r h)
theorem strs_at : ∀ {vs : List Value} {xs : List Str} {j : Nat} {v : Value}, StrsAre vs xs → vs[j]? = some v → ∃ x t, v = .str x t ∧ xs[j]? = some x
  | _, _, _, _, .nil, h => by simp at h
  | _, _, 0, _, .cons x t _, h => by simp at h; exact ⟨x, t, h.symm, rfl⟩
  | _, _, j + 1, _, .cons _ _ r, h => by
    obtain ⟨x, t, e, e'⟩ := strs_at (j := j) r (by simpa using h)
    exact ⟨x, t, e, by simpa using e'⟩
structure TG (h₀ : Heap) (L : Addr) (m : Str → Option Value) (news : List (Addr × Obj)) (C D : Addr) (h : Heap) (ys : List Value) : Prop where
  fr : Fr h₀ L h m
  nw : News h₀ L h ((D, LCg.lst ys) :: news)
structure TGf (h₀ : Heap) (L : Addr) (news : List (Addr × Obj)) (C D : Addr) : Prop where
  cd : C ≠ D
  cl : C ≠ L
  dl : D ≠ L
  c0 : h₀.get? C = none
  d0 : h₀.get? D = none
  oc : ∀ p ∈ news, p.1 ≠ C
  od : ∀ p ∈ news, p.1 ≠ D
section
variable {prog : Program} {w : World} {A : Around} {E : Value → Shared → Prop} {s : Shared} {h₀ h h' : Heap} {L C D I : Addr} {m : Str → Option Value} {env : Env} {news : List (Addr × Obj)} {ys : List Value}
theorem TG.keeps (t : TG h₀ L m news C D h ys) (k : h.StaysIn h') : TG h₀ L m news C D h' ys := ⟨fr_stays t.fr k, news_stays t.nw k⟩
theorem TG.setC (f : TGf h₀ L news C D) (t : TG h₀ L m news C D h ys) (hs : Heap.SameBut C h h') : TG h₀ L m news C D h' ys :=
  ⟨t.fr.change hs f.cl f.c0, fun p hp => ⟨hs.extBut _ _ (by
    rcases List.mem_cons.mp hp with rfl | hp
    · exact Ne.symm f.cd
    · exact f.oc p hp) (t.nw p hp).1, (t.nw p hp).2⟩⟩
theorem TG.setI (t : TG h₀ L m news C D h ys) (hI : L ≠ I) (hI0 : h₀.get? I = none) (hD : D ≠ I) (hn : ∀ p ∈ news, p.1 ≠ I) (hk : ∀ b o, b ∉ [I] → h.get? b = some o → h'.get? b = some o) : TG h₀ L m news C D h' ys :=
  ⟨LCg.fr_but t.fr hk hI hI0, LCg.news_but t.nw hk fun p hp => by
    rcases List.mem_cons.mp hp with rfl | hp
    · exact hD
    · exact hn p hp⟩
theorem TG.app (f : TGf h₀ L news C D) (t : TG h₀ L m news C D h ys) {y : Value} (hs : Heap.SameBut D h h') (e : h'.get? D = some { cls := .type "list", data := .seq (ys.toArray.push y) (ys.length + 1) }) : TG h₀ L m news C D h' (ys ++ [y]) :=
  ⟨t.fr.change hs f.dl f.d0, fun p hp => by
    rcases List.mem_cons.mp hp with rfl | hp
    · exact ⟨e.trans (congrArg some (LCg.lst_snoc ys y)), f.dl, f.d0⟩
    · have z := t.nw p (.tail _ hp)
      exact ⟨hs.extBut _ _ (f.od p hp) z.1, z.2⟩⟩
theorem two_inner {i0 : PySem.Expr} {x0 x1 : Str} {pe p0 p1 pi : Pos} {scope : Scope} {cl : List (Str × Addr)} {pos : Pos} {R : Result → Shared → Prop} (hh : A.handled = none) (f : TGf h₀ L news C D)
    (hkind : scope.kind = .function) (hx1 : scope.names.lookup x1 = some .local) (d1 : (x1 == ("__debug__" : Str)) = false)
    {a : Addr} {ws : List Value} {k : Nat} {xs pre : List Str} (ha : (a, W.listOf ws.toArray k) ∈ news) (hws : StrsAre ws xs) (hwl : ws.length ≤ 100) (hyl : ys.length ≤ 1000)
    (t : TG h₀ L m news C D s.heap ys) (hys : StrsAre ys pre) {m' : Str → Option Value} (hC : s.heap.Ns C m') {oI : Obj} (hI : s.heap.get? I = some oI) (hIC : I ≠ C) (hID : I ≠ D) {I1 : Addr} (hi1 : s.heap.IsListIter I1 a 0) (h1L : L ≠ I1) (h10 : h₀.get? I1 = none) (h1D : D ≠ I1) (h1C : C ≠ I1) (h1I : I ≠ I1) (h1n : ∀ p ∈ news, p.1 ≠ I1)
    (fin : ∀ h' tk ys' m', TG h₀ L m news C D h' ys' → StrsAre ys' (pre ++ xs) → h'.Ns C m' → h'.get? I = some oI → R (.ok .next) { s with heap := h', toks := tk }) :
    codeAny (model prog w) A (.compLoop (two (.Name x1 pe) (.Name x0 p0) i0 (.Name x1 p1) (.Name x0 pi) scope pos) 1 (.ref I1) (.ref D) (compEnvC scope cl C env)) R s := by
  have haI : a ≠ I1 := h1n _ ha
  refine two_loop1 (fun n s' => ∃ j h' tk m' ys', s' = { s with heap := h', toks := tk } ∧ (h'.IsListIter I1 a j ∧ h'.IsList a ws.toArray) ∧ TG h₀ L m news C D h' ys' ∧ StrsAre ys' (pre ++ xs.take j) ∧ h'.Ns C m' ∧ h'.get? I = some oI ∧ ys'.length = ys.length + j ∧ j ≤ ws.length ∧ n = ws.length + 1 - j) ?_ (ws.length + 1)
    ⟨0, _, _, m', ys, rfl, ⟨hi1, ⟨_, (t.nw _ (.tail _ ha)).1, rfl, _, rfl⟩⟩, t, by simpa using hys, hC, hI, rfl, Nat.zero_le _, rfl⟩
  rintro n s' ⟨j, h', tk, m', ys', rfl, st, t', hys', hC', hI', hl', hj, rfl⟩
  have Wk := Walks.list (prog := prog) (w := w) hh I1 a haI ws.toArray
  by_cases hlt : j < ws.length
  · refine Wk.item j _ _ _ (by simpa using hlt) st fun v h₁ tk₁ hP st₁ hk₁ => ?_
    obtain ⟨x, tx, rfl, hx⟩ := strs_at hws (by simpa using hP)
    have t₁ := t'.setI h1L h10 h1D h1n hk₁
    have C₁ : h₁.Ns C m' := hC'.at' fun o e => hk₁ C o (by simpa using h1C) e
    have I₁ : h₁.get? I = some oI := hk₁ I oI (by simpa using h1I) hI'
    refine wpAny_assign_Name (wpAny_storeName_local (lookup_relabel_local hx1) C₁ (fun h₂ hn₂ hs₂ => ?_) (by simp [compEnvC, relabel, hkind]))
    refine wpAny_Name (wpAny_loadName_local (v := .str x tx) (m := fun y => if y = x1 then some (.str x tx) else m' y) (by simp [compEnvC, relabel, hkind]) (lookup_relabel_local hx1) hn₂ (by simp) ?_) d1
    have t₂ := TG.setC f t₁ hs₂
    refine append_at (hsz := by rw [List.size_toArray, sizeLine_eq]; omega) (t₂.nw _ (.head _)).1 fun h₃ hs₃ e₃ => ?_
    have t₃ := TG.app f t₂ hs₃ e₃
    have up : ∀ b o, b ≠ C → b ≠ D → h₁.get? b = some o → h₃.get? b = some o := fun b o n1 n2 e => hs₃.extBut b o n2 (hs₂.extBut b o n1 e)
    refine ⟨ws.length + 1 - (j + 1), by omega, j + 1, h₃, _, _, _, rfl, ⟨?_, ⟨_, (t₃.nw _ (.tail _ ha)).1, rfl, _, rfl⟩⟩, t₃, ?_, hn₂.sameBut hs₃ f.cd, up I oI hIC hID I₁, by simp [hl']; omega, hlt, rfl⟩
    · exact st₁.1.at fun o e => up I1 o (Ne.symm h1C) (Ne.symm h1D) e
    · rw [List.take_add_one, hx, ← List.append_assoc]
      exact strs_app hys' (.cons _ _ .nil)
  · obtain rfl : j = ws.length := Nat.le_antisymm hj (Nat.not_lt.mp hlt)
    refine Wk.done _ _ _ (by simpa using st) fun h₁ tk₁ hk₁ => ?_
    have hxl : xs.take ws.length = xs := List.take_of_length_le (by rw [hws.length]; exact Nat.le_refl _)
    rw [hxl] at hys'
    exact fin h₁ tk₁ ys' m' (t'.setI h1L h10 h1D h1n hk₁) hys' (hC'.at' fun o e => hk₁ C o (by simpa using h1C) e) (hk₁ I oI (by simpa using h1I) hI')
theorem two_comp {iter0 : PySem.Expr} {x0 x1 : Str} {pe p0 p1 pi : Pos} {scope : Scope} {cl : List (Str × Addr)} {pos : Pos} {Q : Value → Shared → Prop} (_F₀ : Fr h₀ L s.heap m)
    (hclos : closureFor scope env = pure cl) (hcell : ∀ y ∈ scope.names, y.2 ≠ .cell) (hkind : scope.kind = .function) (hnames : ∀ y ∈ scope.names, y.2 = .local → scope.names.lookup y.1 = some .local)
    (hx0 : scope.names.lookup x0 = some .local) (hx1 : scope.names.lookup x1 = some .local) (d0 : (x0 == ("__debug__" : Str)) = false) (d1 : (x1 == ("__debug__" : Str)) = false)
    (h : wpAny (model prog w) A (eval iter0 env) (fun xv s₁ => ∃ (Wa : Addr) (n : Nat) (ps : List Value) (txts : List (List Str)) (news : List (Addr × Obj)), xv = .ref Wa ∧ A.handled = none ∧ Fr h₀ L s₁.heap m ∧ News h₀ L s₁.heap news ∧ (Wa, W.listOf ps.toArray n) ∈ news ∧ ps.length ≤ 100 ∧ ps.length = txts.length ∧
      (∀ (i : Nat) v xs, ps[i]? = some v → txts[i]? = some xs → ∃ a k ws, v = .ref a ∧ (a, W.listOf ws.toArray k) ∈ news ∧ StrsAre ws xs ∧ xs.length ≤ 2) ∧
      ∀ D h tk ys, StrsAre ys txts.flatten → Fr h₀ L h m → News h₀ L h ((D, LCg.lst ys) :: news) → (∀ q ∈ news, q.1 ≠ D) → Q (.ref D) { s₁ with heap := h, toks := tk }) E s)
    (hs : ∀ x, foldedSetIterable iter0 env x = pure x := by intro _; rfl) (hs1 : ∀ x, foldedSetIterable (.Name x0 pi) (compEnvC scope cl C env) x = pure x := by intro _; rfl) :
    wpAny (model prog w) A (eval (two (.Name x1 pe) (.Name x0 p0) iter0 (.Name x1 p1) (.Name x0 pi) scope pos) env) Q E s := by
  rw [eval_ListComp]
  refine wpAny_comprehension_free (use := none) rfl hs hclos hkind hnames (wpAny_mono h (fun xv s₁ h₁ => ?_) fun _ _ e => e)
  obtain ⟨Wa, n, ps, txts, news, rfl, hh, F, N, hW, hpl, hpt, hitem, fin⟩ := h₁
  have hWl : s₁.heap.IsList Wa ps.toArray := ⟨_, (N _ hW).1, rfl, _, rfl⟩
  refine wpAny_pyIter_list hWl ?_
  refine wpAny_newObj_type (wpAny_newFunctionEnv hcell (by intro y hy; simp at hy) (fun h₁ hns₁ hsb₁ => ?_) hkind)
  dsimp only at hns₁ hsb₁ ⊢
  have itI : (s₁.heap.push { cls := .type "list_iterator", data := .fields #[.ref Wa, .int 0 0] }).get? s₁.heap.objs.size = some { cls := .type "list_iterator", data := .fields #[.ref Wa, .int 0 0] } := Heap.get?_push_size _ rfl
  have up1 : s₁.heap.StaysIn (s₁.heap.push { cls := .type "list_iterator", data := .fields #[.ref Wa, .int 0 0] }) := fun b o e => Heap.get?_push_of_some _ e
  have z1 : (s₁.heap.push { cls := .type "list_iterator", data := .fields #[.ref Wa, .int 0 0] }).objs.size = s₁.heap.objs.size + 1 := Heap.size_push ..
  generalize s₁.heap.push { cls := .type "list_iterator", data := .fields #[.ref Wa, .int 0 0] } = H1 at *
  have atD : (H1.push { cls := .type "list", data := .seq ([] : List Value).toArray }).get? H1.objs.size = some (LCg.lst []) := Heap.get?_push_size _ rfl
  have up2 : H1.StaysIn (H1.push { cls := .type "list", data := .seq ([] : List Value).toArray }) := fun b o e => Heap.get?_push_of_some _ e
  have z2 : (H1.push { cls := .type "list", data := .seq ([] : List Value).toArray }).objs.size = H1.objs.size + 1 := Heap.size_push ..
  generalize H1.push { cls := .type "list", data := .seq ([] : List Value).toArray } = H2 at *
  have up3 : H2.StaysIn h₁ := fun b o e => hsb₁.extBut b o (Nat.ne_of_lt (Heap.lt_size e)) (Heap.get?_push_of_some _ e)
  have old : s₁.heap.StaysIn h₁ := fun b o e => up3 _ _ (up2 _ _ (up1 _ _ e))
  have hI₁ := up3 _ _ (up2 _ _ itI)
  have hD₁ := up3 _ _ atD
  generalize eI : s₁.heap.objs.size = I at *
  generalize eD : H1.objs.size = D at *
  generalize eC : H2.objs.size = C at *
  have lt0 : ∀ {b : Addr} {o : Obj}, s₁.heap.get? b = some o → b < I := fun {b o} e => eI ▸ Heap.lt_size e
  have bel : ∀ {b : Addr}, b < I → b ≠ I ∧ b ≠ D ∧ b ≠ C := fun {b} hb => by
    have hb' : @LT.lt Nat _ b I := hb
    refine ⟨fun e => ?_, fun e => ?_, fun e => ?_⟩ <;> (have e' : @Eq Nat b _ := e; omega)
  have nI0 : ∀ {b : Addr}, I ≤ b → h₀.get? b = none := fun {b} hb => by
    cases q : h₀.get? b with
    | none => rfl
    | some o => exact absurd (lt0 (F.keep _ _ q)) (Nat.not_lt.mpr hb)
  have leD : I ≤ D := by rw [z1]; exact Nat.le_succ _
  have leC : I ≤ C := by rw [z2, z1]; exact Nat.le_trans (Nat.le_succ _) (Nat.le_succ _)
  have hLl : L < I := eI ▸ F.ns.lt
  have hID : I ≠ D := fun e => by have e' : @Eq Nat I D := e; omega
  have hIC : I ≠ C := fun e => by have e' : @Eq Nat I C := e; omega
  have hCD : C ≠ D := fun e => by have e' : @Eq Nat C D := e; omega
  have hlt : ∀ p ∈ news, p.1 < I := fun p hp => lt0 (N p hp).1
  have f : TGf h₀ L news C D := ⟨hCD, Ne.symm (bel hLl).2.2, Ne.symm (bel hLl).2.1, nI0 leC, nI0 leD, fun p hp => (bel (hlt p hp)).2.2, fun p hp => (bel (hlt p hp)).2.1⟩
  have t0 : TG h₀ L m news C D h₁ [] := ⟨fr_stays F old, fun p hp => by
    rcases List.mem_cons.mp hp with rfl | hp
    · exact ⟨hD₁, f.dl, f.d0⟩
    · exact ⟨old _ _ (N p hp).1, (N p hp).2⟩⟩
  have hWI : Wa ≠ I := (bel (hlt _ hW)).1
  have loop : codeAny (model prog w) A (.compLoop (two (.Name x1 pe) (.Name x0 p0) iter0 (.Name x1 p1) (.Name x0 pi) scope pos) 0 (.ref I) (.ref D) (compEnvC scope cl C env))
      (compPost (model prog w) A E none Q (.ref D) C) { s₁ with heap := h₁, toks := s₁.toks + ([] : List (Str × Value)).length } := by
    have Wk := Walks.list (prog := prog) (w := w) hh I Wa hWI ps.toArray
    refine two_loop0 (fun n s' => ∃ i h' tk m' ys, s' = { s₁ with heap := h', toks := tk } ∧ (h'.IsListIter I Wa i ∧ h'.IsList Wa ps.toArray) ∧ TG h₀ L m news C D h' ys ∧ StrsAre ys (txts.take i).flatten ∧ h'.Ns C m' ∧ ys.length ≤ 2 * i ∧ i ≤ ps.length ∧ n = ps.length + 1 - i) ?_ (ps.length + 1)
      ⟨0, _, _, _, [], rfl, ⟨⟨_, hI₁, rfl, rfl⟩, ⟨_, old _ _ (N _ hW).1, rfl, _, rfl⟩⟩, t0, .nil, hns₁, Nat.le_refl _, Nat.zero_le _, rfl⟩ (by intro _; rfl) hs1
    rintro n' s' ⟨i, h', tk, m', ys, rfl, st, t', hys, hC', hyl, hi, rfl⟩
    by_cases hlt' : i < ps.length
    · refine Wk.item i _ _ _ (by simpa using hlt') st fun v h₂ tk₂ hP st₂ hk₂ => ?_
      have hPs : ps[i]? = some v := by simpa using hP
      have hti : txts[i]? = some txts[i] := List.getElem?_eq_getElem (by omega)
      obtain ⟨a, k, ws, rfl, ha, hws, hxl⟩ := hitem i v _ hPs hti
      have t₂ := t'.setI (bel hLl).1 (nI0 (Nat.le_refl _)) (Ne.symm hID) (fun p hp => (bel (hlt p hp)).1) hk₂
      have C₂ : h₂.Ns C m' := hC'.at' fun o e => hk₂ C o (by simpa using Ne.symm hIC) e
      refine wpAny_assign_Name (wpAny_storeName_local (lookup_relabel_local hx0) C₂ (fun h₃ hn₃ hs₃ => ?_) (by simp [compEnvC, relabel, hkind]))
      have t₃ := TG.setC f t₂ hs₃
      have st₃ := Wk.frame _ _ h₃ st₂ fun b hb o e => hs₃.extBut b o (by
        simp only [List.mem_cons, List.not_mem_nil, or_false] at hb
        rcases hb with rfl | rfl
        · exact hIC
        · exact (bel (hlt _ hW)).2.2) e
      refine wpAny_Name (wpAny_loadName_local (v := .ref a) (m := fun y => if y = x0 then some (.ref a) else m' y) (by simp [compEnvC, relabel, hkind]) (lookup_relabel_local hx0) hn₃ (by simp) ?_) d0
      have hal : h₃.IsList a ws.toArray := ⟨_, (t₃.nw _ (.tail _ ha)).1, rfl, _, rfl⟩
      refine wpAny_pyIter_list hal ?_
      have up4 : h₃.StaysIn (h₃.push { cls := .type "list_iterator", data := .fields #[.ref a, .int 0 0] }) := fun b o e => Heap.get?_push_of_some _ e
      have it1 : (h₃.push { cls := .type "list_iterator", data := .fields #[.ref a, .int 0 0] }).IsListIter h₃.objs.size a 0 := ⟨_, Heap.get?_push_size _ rfl, rfl, rfl⟩
      have fr1 : ∀ {b : Addr} {o : Obj}, h₃.get? b = some o → b ≠ h₃.objs.size := fun {b o} e => Nat.ne_of_lt (Heap.lt_size e)
      obtain ⟨oI, heI, _⟩ := id st₃.1
      have n10 : h₀.get? h₃.objs.size = none := by
        cases q : h₀.get? h₃.objs.size with
        | none => rfl
        | some o => exact absurd (Heap.lt_size (t₃.fr.keep _ _ q)) (Nat.lt_irrefl _)
      have inner : ∀ tk : Nat, codeAny (model prog w) A (.compLoop (two (.Name x1 pe) (.Name x0 p0) iter0 (.Name x1 p1) (.Name x0 pi) scope pos) 1 (.ref h₃.objs.size) (.ref D) (compEnvC scope cl C env))
          (fun r s₅ => match r with | .ok _ => ∃ m_1, m_1 < ps.length + 1 - i ∧ ∃ i h' tk m' ys, s₅ = { s₁ with heap := h', toks := tk } ∧ (h'.IsListIter I Wa i ∧ h'.IsList Wa ps.toArray) ∧ TG h₀ L m news C D h' ys ∧ StrsAre ys (txts.take i).flatten ∧ h'.Ns C m' ∧ ys.length ≤ 2 * i ∧ i ≤ ps.length ∧ m_1 = ps.length + 1 - i | .error _ => False)
          { s₁ with heap := h₃.push { cls := .type "list_iterator", data := .fields #[.ref a, .int 0 0] }, toks := tk } := by
        intro tk
        refine two_inner hh f hkind hx1 d1 ha hws (by rw [hws.length]; omega) (by omega) (t₃.keeps up4) hys (hn₃.at' fun o e => up4 _ _ e) (up4 _ _ heI) hIC hID it1 (by obtain ⟨oL, _, _, e, _⟩ := t₃.fr.ns; exact fr1 e) n10 (fr1 (t₃.nw _ (.head _)).1) (by obtain ⟨oC, _, _, e, _⟩ := hn₃; exact fr1 e) (fr1 heI)
          (fun p hp => fr1 (t₃.nw p (.tail _ hp)).1) fun h₅ tk₅ ys₅ m₅ t₅ hys₅ C₅ I₅ => ?_
        refine ⟨ps.length + 1 - (i + 1), by omega, i + 1, h₅, tk₅, m₅, ys₅, rfl, ⟨?_, ⟨_, (t₅.nw _ (.tail _ hW)).1, rfl, _, rfl⟩⟩, t₅, ?_, C₅, ?_, hlt', rfl⟩
        · exact st₃.1.at fun o e => by rw [heI] at e; cases e; exact I₅
        · rw [List.take_add_one, hti, List.flatten_append]
          simpa using hys₅
        · rw [hys₅.length, List.length_append, ← hys.length]; omega
      exact two_start 1 (.inr rfl) (inner _) (wpAny_pyIter_listiter it1 (inner _))
    · obtain rfl : i = ps.length := Nat.le_antisymm hi (Nat.not_lt.mp hlt')
      refine Wk.done _ _ _ (by simpa using st) fun h₂ tk₂ hk₂ => ?_
      have t₂ := t'.setI (bel hLl).1 (nI0 (Nat.le_refl _)) (Ne.symm hID) (fun p hp => (bel (hlt p hp)).1) hk₂
      have C₂ : h₂.Ns C m' := hC'.at' fun o e => hk₂ C o (by simpa using Ne.symm hIC) e
      rw [hpt, List.take_length] at hys
      refine ⟨m', C₂, fun h'' hs'' => ?_⟩
      have t₃ := TG.setC f t₂ hs''
      exact fin D h'' tk₂ ys hys t₃.fr t₃.nw f.od
  exact two_start 0 (.inl rfl) loop (wpAny_pyIter_listiter ⟨_, hI₁, rfl, rfl⟩ loop)
end
end Mine
end
section

namespace Mine
section
variable {prog : Program} {w : World} {A : Around} {s : Shared} {g : Heap} {news : List (Addr × Obj)} {K : Frag} {p : Program} {loose : List Str} {mean : ExcName → Option Value} {mg mb : Str → Option Value}
  {R : Result → Shared → Prop} {name qual : Str} {params : Arguments} {body : List Stmt} {scope : Scope} {dV kV doc pm cdv ct oc : Value} {an od : Option Addr} {osl : Array (Option Value)} {f : Addr} {args : Args} {binds : List (Str × Value)}
theorem enterZC (X : K.In g) (T : Top p loose mean mg mb g) (G : g.StaysIn s.heap) (Gz : g.objs.size ≤ s.heap.objs.size) (N : ∀ p ∈ news, s.heap.get? p.1 = some p.2 ∧ g.get? p.1 = none)
    (ho : K.lookup f = some ⟨oc, od, .func (fnOf name qual params body scope dV kV doc pm an cdv ct), osl⟩) (hcd : codeIn K cdv qual = true) (hroom : A.depth < recursionLimit)
    (hbind : BindsTo s (fnOf name qual params body scope dV kV doc pm an cdv ct) args binds)
    (hkind : (binds.all fun y => scope.names.lookup y.1 == some .local || scope.names.lookup y.1 == some .cell) = true)
    (hnd : ((cellsFrom 0 scope.names []).map (·.1)).Nodup)
    (h : ∀ L' h₁ tk cells, L' = s.heap.objs.size → Fr g L' h₁ (bindL (envOfC qual scope L' f cdv).kindOf binds fun _ => none) → News g L' h₁ (cells ++ news) →
      CellsAre (bindC (envOfC qual scope L' f cdv).kindOf binds fun _ => none) (cellsFrom (L' + 1) scope.names []) cells → (∀ p ∈ news, p.1 < L') → s.heap.StaysIn h₁ →
      wpC (model prog w) (A.deeper (envOfC qual scope L' f cdv)) (execs body (envOfC qual scope L' f cdv))
        (fun fl s' => R (.ok (.ret (match fl with | .ret v => v | _ => .none))) s') (fun _ _ => False)
        { s with heap := h₁, toks := tk })
    (hco : scope.isCoroutine = false) (hgen : scope.isGenerator = false) (hk : scope.kind = .function) : codeC (model prog w) A (.call (.ref f) args) R s := by
  have hlim := T.nolimit.keeps G
  obtain ⟨c, oc', vs, tq, hc, hoc, hdc, hq⟩ := (codeRec_of X hcd).keeps G
  refine codeC_of_tree (wpC_of ?_)
  show wpAny _ A.in1 (callAny (.ref f) args) _ _ s
  simp only [callAny]
  refine wpAny_bind (wpAny_load (G _ _ (X _ _ ho)) ?_)
  subst hc
  simp only [callFunction, show (fnOf name qual params body scope dV kV doc pm an (.ref c) ct).scope = scope from rfl, hco, hgen, show (fnOf name qual params body scope dV kV doc pm an (.ref c) ct).code = .ref c from rfl, show (fnOf name qual params body scope dV kV doc pm an (.ref c) ct).body = .stmts body from rfl]
  refine wpAny_bind (m := field (.ref c) 1) (wpAny_field hoc hdc hq (wpAny_bind (wpAny_pure ?_)))
  refine wpAny_bind (hbind _ _ _ _ (wpAny_bind (wpAny_newFunctionEnv_cells hk (kindsX hkind _) fun env' he s' x => ?_)))
  subst he
  obtain ⟨h₁, tk, rfl, _⟩ := x.done
  have hk₁ := x.toInCall.keep
  refine wpAny_bind (wpAny_enterFrame (hlim.keeps hk₁) hroom (wpAny_pure ⟨rfl, rfl, codeC_func ?_⟩))
  obtain ⟨cells, NC, Y⟩ := Cl.news (h₀ := s.heap) (Nat.le_refl _) fun n c hm => ⟨x.cell n c (lookup_of_mem_nodup (cellsFrom_names scope.names 0 (s.heap.objs.size + 1) [] [] rfl ▸ hnd) hm), x.above n c hm⟩
  refine wpC_mono (h s.heap.objs.size h₁ tk cells rfl ⟨x.toInCall.ns, fun b o e => hk₁ b o (G b o e), Gz⟩ (fun p hp => ?_) Y (fun p hp => Heap.lt_size (N p hp).1) hk₁) (fun _ _ y => y) fun _ _ y => y.elim
  rcases List.mem_append.mp hp with hp | hp
  · refine ⟨(NC p hp).1, (NC p hp).2.1, ?_⟩
    cases q : g.get? p.1 with
    | none => rfl
    | some o => have := G _ _ q; rw [(NC p hp).2.2] at this; cases this
  · exact ⟨hk₁ _ _ (N p hp).1, Nat.ne_of_lt (Heap.lt_size (N p hp).1), (N p hp).2⟩
end
end Mine
end
section

namespace Mine
theorem drop_step {txt : Str} {q c : Nat} {r : List Nat} (h : txt.cps.toList.drop q = c :: r) : q < txt.length ∧ txt.cps.getD q 0 = c ∧ txt.cps.toList.drop (q + 1) = r := by
  have hl : q < txt.cps.toList.length := by
    rcases Nat.lt_or_ge q txt.cps.toList.length with z | z
    · exact z
    · rw [List.drop_eq_nil_of_le z] at h; cases h
  rw [List.drop_eq_getElem_cons hl] at h
  obtain ⟨h1, h2⟩ := List.cons.inj h
  have hl' : q < txt.cps.size := by simpa using hl
  refine ⟨hl', ?_, h2⟩
  simp only [Array.getD, hl', dite_true]
  simpa using h1
theorem drop_end {txt : Str} {q : Nat} (h : txt.cps.toList.drop q = []) : txt.length ≤ q := by
  have := List.drop_eq_nil_iff.mp h
  have e : txt.length = txt.cps.toList.length := by simp [Str.length]
  omega
theorem app_cons (t : Str) (c : Nat) (cs : List Nat) : t ++ ⟨#[c]⟩ ++ ⟨cs.toArray⟩ = t ++ ⟨(c :: cs).toArray⟩ := by
  show (⟨(t.cps ++ #[c]) ++ cs.toArray⟩ : Str) = ⟨t.cps ++ (c :: cs).toArray⟩
  congr 1
  apply Array.ext'
  simp
theorem app_len (t : Str) (c : Nat) : (t ++ ⟨#[c]⟩ : Str).length = t.length + 1 := by
  show (t.cps ++ #[c]).size = t.cps.size + 1
  simp
section
variable {txt : Str} {st' : Option Str} {tkn' : Str} {q' : Nat} {b' : Bool}
theorem bare_go : ∀ (cs tail : List Nat) (tkn : Str) (q : Nat) (b : Bool), (∀ c ∈ cs, isWb c = true) → txt.cps.toList.drop q = cs ++ tail → tkn.length + cs.length < 1000 →
    LexRun txt st' tkn' q' b' (some (Str.ofString "a")) (tkn ++ ⟨cs.toArray⟩) (q + cs.length) b → LexRun txt st' tkn' q' b' (some (Str.ofString "a")) tkn q b
  | [], _, tkn, q, b, _, _, _, K => by
    have : (tkn ++ ⟨([] : List Nat).toArray⟩ : Str) = tkn := by show (⟨_⟩ : Str) = ⟨tkn.cps⟩; congr 1
    rw [this] at K; exact K
  | c :: cs, tail, tkn, q, b, hc, hd, hl, K => by
    obtain ⟨x1, x2, x3⟩ := drop_step hd
    simp only [List.length_cons] at hl
    refine .w1 x1 x2 (hc c (.head _)) (by omega) (bare_go cs tail _ (q + 1) b (fun z m => hc z (.tail _ m)) x3 (by rw [app_len]; omega) ?_)
    rw [app_cons]
    have : q + 1 + cs.length = q + (c :: cs).length := by simp only [List.length_cons]; omega
    rw [this]; exact K
theorem quot_go : ∀ (cs tail : List Nat) (tkn : Str) (q : Nat) (b : Bool), (∀ c ∈ cs, isQb c = true) → txt.cps.toList.drop q = cs ++ 39 :: tail → tkn.length + cs.length < 1000 →
    LexRun txt st' tkn' q' b' (some (Str.ofString "a")) (tkn ++ ⟨cs.toArray⟩) (q + cs.length + 1) true → LexRun txt st' tkn' q' b' (some (Str.ofString "'")) tkn q b
  | [], _, tkn, q, b, _, hd, _, K => by
    obtain ⟨x1, x2, x3⟩ := drop_step hd
    have : (tkn ++ ⟨([] : List Nat).toArray⟩ : Str) = tkn := by show (⟨_⟩ : Str) = ⟨tkn.cps⟩; congr 1
    rw [this] at K; exact .q1 x1 x2 K
  | c :: cs, tail, tkn, q, b, hc, hd, hl, K => by
    obtain ⟨x1, x2, x3⟩ := drop_step hd
    simp only [List.length_cons] at hl
    refine .qc x1 x2 (hc c (.head _)) (by omega) (quot_go cs tail _ (q + 1) true (fun z m => hc z (.tail _ m)) x3 (by rw [app_len]; omega) ?_)
    rw [app_cons]
    have : q + 1 + cs.length + 1 = q + (c :: cs).length + 1 := by simp only [List.length_cons]; omega
    rw [this]; exact K
end
inductive Spelt : Str → List Nat → Prop
  | bare {c : Nat} {cs : List Nat} : isWb c = true → (∀ x ∈ cs, isWb x = true) → Spelt ⟨(c :: cs).toArray⟩ (c :: cs)
  | quoted {c : Nat} {cs : List Nat} : (∀ x ∈ c :: cs, isQb x = true) → Spelt ⟨(c :: cs).toArray⟩ (39 :: ((c :: cs) ++ [39]))
theorem empty_app (t : Str) : Str.ofString "" ++ t = t := by
  have : Str.ofString "" = ⟨#[]⟩ := by decide +kernel
  rw [this]
  show (⟨#[] ++ t.cps⟩ : Str) = ⟨t.cps⟩
  congr 1
  simp
theorem one_app (c : Nat) (cs : List Nat) : (⟨#[c]⟩ : Str) ++ ⟨cs.toArray⟩ = ⟨(c :: cs).toArray⟩ := by
  show (⟨#[c] ++ cs.toArray⟩ : Str) = ⟨(c :: cs).toArray⟩
  congr 1
  apply Array.ext'
  simp
theorem one_word {txt w : Str} {y tail : List Nat} {st' : Option Str} {tkn' : Str} {q q' : Nat} (h : Spelt w y) (hd : txt.cps.toList.drop q = y ++ tail) (hl : w.length < 999)
    (K : ∀ b, LexRun txt st' tkn' q' b (some (Str.ofString "a")) w (q + y.length) b) : ∃ b', LexRun txt st' tkn' q' b' (some (Str.ofString " ")) (Str.ofString "") q false := by
  cases h with
  | bare h1 h2 =>
    rename_i c cs
    obtain ⟨x1, x2, x3⟩ := drop_step hd
    have hl' : cs.length + 1 < 999 := by simpa [Str.length] using hl
    refine ⟨false, .w0 x1 x2 h1 (bare_go cs tail _ (q + 1) false h2 x3 (by show (#[c] : Array Nat).size + _ < _; simp; omega) ?_)⟩
    rw [one_app]
    have : q + 1 + cs.length = q + (c :: cs).length := by simp only [List.length_cons]; omega
    rw [this]; exact K false
  | quoted h1 =>
    rename_i c cs
    obtain ⟨x1, x2, x3⟩ := drop_step hd
    have hl' : cs.length + 1 < 999 := by simpa [Str.length] using hl
    refine ⟨true, .q0 x1 x2 (quot_go (c :: cs) tail _ (q + 1) false h1 (by rw [x3]; simp) (by rw [empty_len]; simp only [List.length_cons]; omega) ?_)⟩
    rw [empty_app]
    have : q + 1 + (c :: cs).length + 1 = q + (39 :: ((c :: cs) ++ [39])).length := by simp only [List.length_cons, List.length_append, List.length_nil]; omega
    rw [this]; exact K true
inductive Lines : List Str → List Nat → Prop
  | last {w : Str} {y : List Nat} : Spelt w y → w.length < 999 → Lines [w] y
  | more {w : Str} {y r : List Nat} {ws : List Str} : Spelt w y → w.length < 999 → Lines ws r → Lines (w :: ws) (y ++ 32 :: r)
theorem Spelt.pos {w : Str} {y : List Nat} (h : Spelt w y) : 0 < w.length := by
  cases h <;> simp [Str.length]
theorem lex_words {txt : Str} : ∀ {ws : List Str} {r : List Nat}, Lines ws r → ∀ q, txt.cps.toList.drop q = r → LexWords txt ws (some (Str.ofString " ")) q := by
  intro ws r H
  induction H with
  | last h hl =>
    rename_i w y
    intro q hd
    have he : txt.length ≤ q + y.length := by
      apply drop_end
      have := congrArg (List.drop y.length) hd
      simpa [List.drop_drop] using this
    obtain ⟨b, K⟩ := one_word (st' := none) (tkn' := w) (q' := q + y.length) (tail := []) h (by simpa using hd) hl fun b => .fin he rfl rfl rfl rfl
    exact .word h.pos (by omega) K (.done (.non he rfl rfl rfl rfl))
  | more h hl _ ih =>
    rename_i w y r ws _
    intro q hd
    have hd2 : txt.cps.toList.drop (q + y.length) = 32 :: r := by
      have := congrArg (List.drop y.length) hd
      simpa [List.drop_drop] using this
    obtain ⟨x1, x2, x3⟩ := drop_step hd2
    obtain ⟨b, K⟩ := one_word (st' := some (Str.ofString " ")) (tkn' := w) (q' := q + y.length + 1) (tail := 32 :: r) h hd hl fun b => .sp x1 x2 h.pos (by omega) rfl rfl rfl rfl
    exact .word h.pos (by omega) K (ih _ x3)
end Mine
end
section

namespace Mine
theorem gluedE_fold : ∀ (r : List Str) (a : Array Nat), (r.foldl (fun acc p => acc ++ (Str.ofString "").cps ++ p.cps) a).toList = a.toList ++ r.flatMap (·.cps.toList)
  | [], a => by simp
  | x :: r, a => by
    have e : (Str.ofString "").cps = #[] := by decide +kernel
    rw [List.foldl_cons, gluedE_fold r]
    simp [e]
theorem joinE (l : List Str) : (Txt.join (Str.ofString "") l).cps.toList = l.flatMap (·.cps.toList) := by
  cases l with
  | nil => rfl
  | cons a r =>
    show ((r.foldl (fun acc p => acc ++ (Str.ofString "").cps ++ p.cps) a.cps)).toList = _
    rw [gluedE_fold]; rfl
theorem pat_join (ps : List Nat) : patT ps = Txt.join (Str.ofString "") (ps.map pieceT) := by
  have := joinE (ps.map pieceT)
  refine Str.ext' (Array.ext' ?_)
  rw [this, List.flatMap_map]
  rfl
theorem hex_sign {row : List Int} (h : RowOk row) {i : Int} (h0 : 0 ≤ i) (h1 : i < ((hexT row).length : Nat)) : Txt.item (hexT row) i = ⟨#[48]⟩ ∨ Txt.item (hexT row) i = ⟨#[97]⟩ := by
  have hm : ∀ c ∈ (hexT row).cps.toList, c = 48 ∨ c = 97 := by
    unfold hexT
    rw [joinE]
    intro c hc
    obtain ⟨t, ht, hc⟩ := List.mem_flatMap.mp hc
    obtain ⟨n, hn, rfl⟩ := List.mem_map.mp ht
    have e0 : (Str.ofString "00").cps.toList = [48, 48] := by decide +kernel
    have e1 : (Str.ofString "0a").cps.toList = [48, 97] := by decide +kernel
    have e2 : (Str.ofString "a0").cps.toList = [97, 48] := by decide +kernel
    have e3 : (Str.ofString "aa").cps.toList = [97, 97] := by decide +kernel
    rcases h.2 n hn with rfl | rfl | rfl | rfl
    · rw [show hexI 0 = Str.ofString "00" from rfl, e0] at hc; simp at hc; exact .inl hc
    · rw [show hexI 10 = Str.ofString "0a" from rfl, e1] at hc; simpa using hc
    · rw [show hexI 160 = Str.ofString "a0" from rfl, e2] at hc; simp at hc; omega
    · rw [show hexI 170 = Str.ofString "aa" from rfl, e3] at hc; simp at hc; exact .inr hc
  have hi : i.toNat < (hexT row).cps.size := by have : (hexT row).length = (hexT row).cps.size := rfl; omega
  have e : (hexT row).cps[i.toNat]? = some (hexT row).cps[i.toNat] := Array.getElem?_eq_getElem hi
  have z := item_of e
  rw [Int.toNat_of_nonneg h0] at z
  rw [z]
  rcases hm (hexT row).cps[i.toNat] (by simp) with q | q <;> rw [q] <;> simp
section
variable {T : Str}
theorem mem_pick {α : Type} {c : α → Prop} [DecidablePred c] {g : α → Int} {j : Int} : ∀ (l : List α) (init : List Int), j ∈ l.foldl (fun l k => if c k then l ++ [g k] else l) init ↔ j ∈ init ∨ ∃ k ∈ l, c k ∧ g k = j
  | [], init => by simp
  | k :: l, init => by
    rw [List.foldl_cons, mem_pick l]
    by_cases hk : c k
    · simp [hk, or_assoc, eq_comm]
    · simp [hk]
noncomputable def stepR (ok : Nat → Str → Bool) (T : Str) (q : Nat) (i j : Int) : Prop := 0 ≤ i ∧ j ≤ (T.length : Int) ∧ ((q = 3 ∧ i ≤ j) ∨ (¬ q = 3 ∧ j = i + 1 ∧ ok q (Txt.item T i) = true))
noncomputable def reachR (ok : Nat → Str → Bool) (T : Str) : List Nat → Int → Int → Prop
  | [], i, j => i = j
  | q :: qs, i, j => ∃ k, stepR ok T q i k ∧ reachR ok T qs k j
theorem mem_range0 {k : Int} : k ∈ rangeKs 0 (T.length + 1) ↔ 0 ≤ k ∧ k ≤ (T.length : Int) := by
  constructor
  · intro h; have := mem_rangeKs h; omega
  · intro h
    exact List.mem_map.mpr ⟨k.toNat, List.mem_range.mpr (by omega), by omega⟩
theorem take_mem {pl : List Int} {q : Nat} {j : Int} (hpl : ∀ a ∈ pl, 0 ≤ a) : j ∈ takeS T pl q ↔ ∃ a ∈ pl, stepR okC T q a j := by
  unfold takeS
  split
  · rename_i hq
    have := @mem_pick Int (fun k => pl.any (fun a => decide (a ≤ k)) = true) _ (fun k => k) j (rangeKs 0 (T.length + 1)) []
    unfold takeG
    rw [this]
    simp only [List.not_mem_nil, false_or, List.any_eq_true, decide_eq_true_eq, exists_eq_right_right, mem_range0]
    constructor
    · rintro ⟨⟨h0, h1⟩, a, ha, h2⟩
      exact ⟨a, ha, hpl a ha, h1, .inl ⟨hq, h2⟩⟩
    · rintro ⟨a, ha, h0, h1, h | h⟩
      · exact ⟨⟨Int.le_trans h0 h.2, h1⟩, a, ha, h.2⟩
      · exact absurd hq h.1
  · rename_i hq
    have := @mem_pick Int (fun k => k < (T.length : Int) ∧ okC q (Txt.item T k) = true) _ (fun k => k + 1) j pl []
    unfold takeH
    rw [this]
    simp only [List.not_mem_nil, false_or]
    constructor
    · rintro ⟨k, hk, ⟨h1, h2⟩, rfl⟩
      exact ⟨k, hk, hpl k hk, h1, .inr ⟨hq, rfl, h2⟩⟩
    · rintro ⟨a, ha, h0, h1, h | h⟩
      · exact absurd h.1 hq
      · obtain ⟨_, rfl, h2⟩ := h
        exact ⟨a, ha, ⟨by omega, h2⟩, rfl⟩
theorem back_mem {pl : List Int} {q : Nat} {i : Int} (hpl : ∀ a ∈ pl, a ≤ (T.length : Int)) : i ∈ backS T pl q ↔ ∃ b ∈ pl, stepR (fun q c => Txt.contains (signT q) c) T q i b := by
  unfold backS
  split
  · rename_i hq
    have := @mem_pick Int (fun k => pl.any (fun a => decide (k ≤ a)) = true) _ (fun k => k) i (rangeKs 0 (T.length + 1)) []
    unfold backG
    rw [this]
    simp only [List.not_mem_nil, false_or, List.any_eq_true, decide_eq_true_eq, exists_eq_right_right, mem_range0]
    constructor
    · rintro ⟨⟨h0, h1⟩, a, ha, h2⟩
      exact ⟨a, ha, h0, hpl a ha, .inl ⟨hq, h2⟩⟩
    · rintro ⟨a, ha, h0, h1, h | h⟩
      · exact ⟨⟨h0, Int.le_trans h.2 h1⟩, a, ha, h.2⟩
      · exact absurd hq h.1
  · rename_i hq
    have := @mem_pick Int (fun k => 0 < k ∧ Txt.contains (signT q) (Txt.item T (k - 1)) = true) _ (fun k => k - 1) i pl []
    unfold backH
    rw [this]
    simp only [List.not_mem_nil, false_or]
    constructor
    · rintro ⟨k, hk, ⟨h1, h2⟩, rfl⟩
      exact ⟨k, hk, by omega, hpl k hk, .inr ⟨hq, by omega, h2⟩⟩
    · rintro ⟨a, ha, h0, h1, h | h⟩
      · exact absurd h.1 hq
      · obtain ⟨_, rfl, h2⟩ := h
        exact ⟨i + 1, ha, ⟨by omega, by rw [show i + 1 - 1 = i by omega]; exact h2⟩, by omega⟩
theorem takes_reach : ∀ (qs : List Nat) (pl : List Int), (∀ a ∈ pl, 0 ≤ a) → ∀ j, j ∈ qs.foldl (takeS T) pl ↔ ∃ a ∈ pl, reachR okC T qs a j
  | [], pl, _, j => by simp [reachR]
  | q :: qs, pl, h, j => by
    rw [List.foldl_cons, takes_reach qs _ (fun a ha => by
      obtain ⟨b, hb, h1, h2, h3⟩ := (take_mem h).mp ha
      rcases h3 with h3 | h3 <;> omega)]
    constructor
    · rintro ⟨k, hk, hr⟩
      obtain ⟨a, ha, hs⟩ := (take_mem h).mp hk
      exact ⟨a, ha, k, hs, hr⟩
    · rintro ⟨a, ha, k, hs, hr⟩
      exact ⟨k, (take_mem h).mpr ⟨a, ha, hs⟩, hr⟩
theorem backs_reach : ∀ (qs : List Nat) (pl : List Int), (∀ a ∈ pl, a ≤ (T.length : Int)) → (∀ a ∈ qs.foldr (fun q pl => backS T pl q) pl, a ≤ (T.length : Int)) ∧ ∀ i, i ∈ qs.foldr (fun q pl => backS T pl q) pl ↔ ∃ b ∈ pl, reachR (fun q c => Txt.contains (signT q) c) T qs i b
  | [], pl, h => ⟨h, fun i => by simp [reachR]⟩
  | q :: qs, pl, h => by
    obtain ⟨h1, h2⟩ := backs_reach qs pl h
    refine ⟨fun a ha => ?_, fun i => ?_⟩
    · obtain ⟨b, hb, z1, z2, z3⟩ := (back_mem h1).mp ha
      rcases z3 with z3 | z3 <;> omega
    · rw [List.foldr_cons, back_mem h1]
      constructor
      · rintro ⟨k, hk, hs⟩
        obtain ⟨b, hb, hr⟩ := (h2 k).mp hk
        exact ⟨b, hb, k, hs, hr⟩
      · rintro ⟨b, hb, k, hs, hr⟩
        exact ⟨k, (h2 k).mpr ⟨b, hb, hr⟩, hs⟩
theorem reach_app (ok : Nat → Str → Bool) : ∀ (a b : List Nat) (i j : Int), reachR ok T (a ++ b) i j ↔ ∃ k, reachR ok T a i k ∧ reachR ok T b k j
  | [], b, i, j => by simp [reachR]
  | q :: a, b, i, j => by
    constructor
    · rintro ⟨k, hs, hr⟩
      obtain ⟨k', h1, h2⟩ := (reach_app ok a b k j).mp hr
      exact ⟨k', ⟨k, hs, h1⟩, h2⟩
    · rintro ⟨k', ⟨k, hs, h1⟩, h2⟩
      exact ⟨k, hs, (reach_app ok a b k j).mpr ⟨k', h1, h2⟩⟩
theorem star_star (ok : Nat → Str → Bool) (r : List Nat) (i j : Int) : reachR ok T (3 :: 3 :: r) i j ↔ reachR ok T (3 :: r) i j := by
  constructor
  · rintro ⟨k, ⟨a0, a1, a2⟩, k', ⟨b0, b1, b2⟩, hr⟩
    have h1 : i ≤ k := by rcases a2 with h | h; exact h.2; exact absurd rfl h.1
    have h2 : k ≤ k' := by rcases b2 with h | h; exact h.2; exact absurd rfl h.1
    exact ⟨k', ⟨a0, b1, .inl ⟨rfl, Int.le_trans h1 h2⟩⟩, hr⟩
  · rintro ⟨k, ⟨a0, a1, a2⟩, hr⟩
    have h1 : i ≤ k := by rcases a2 with h | h; exact h.2; exact absurd rfl h.1
    exact ⟨i, ⟨a0, Int.le_trans h1 a1, .inl ⟨rfl, Int.le_refl _⟩⟩, k, ⟨a0, a1, a2⟩, hr⟩
theorem parts_reach (ok : Nat → Str → Bool) : ∀ (ps l : List Nat) (i j : Int), reachR ok T (ps.foldl partsS l) i j ↔ reachR ok T (l ++ ps) i j
  | [], l, i, j => by simp
  | q :: ps, l, i, j => by
    rw [List.foldl_cons, parts_reach ok ps]
    unfold partsS
    split
    · rename_i h
      obtain ⟨rfl, h⟩ := h
      obtain ⟨l', rfl⟩ := List.getLast?_eq_some_iff.mp h
      rw [List.append_assoc, List.append_assoc, reach_app, reach_app]
      show (∃ k, reachR ok T l' i k ∧ reachR ok T (3 :: ps) k j) ↔ ∃ k, reachR ok T l' i k ∧ reachR ok T (3 :: 3 :: ps) k j
      simp only [star_star]
    · rw [List.append_assoc]; rfl
end
theorem sign_same : ∀ q, q < 6 → ¬ q = 3 → ∀ c : Str, c = ⟨#[48]⟩ ∨ c = ⟨#[97]⟩ → okC q c = Txt.contains (signT q) c := by
  refine six ?_ ?_ ?_ ?_ ?_ ?_ <;> (intro h c hc; first | exact absurd rfl h | (rcases hc with rfl | rfl <;> decide +kernel))
theorem reach_same {row : List Int} (h : RowOk row) : ∀ (ps : List Nat) (i j : Int), (∀ q ∈ ps, q < 6) → (reachR okC (hexT row) ps i j ↔ reachR (fun q c => Txt.contains (signT q) c) (hexT row) ps i j)
  | [], i, j, _ => Iff.rfl
  | q :: ps, i, j, hp => by
    have ih := fun k => reach_same h ps k j fun x hx => hp x (.tail _ hx)
    have hs : ∀ k, stepR okC (hexT row) q i k ↔ stepR (fun q c => Txt.contains (signT q) c) (hexT row) q i k := by
      intro k
      unfold stepR
      constructor
      · rintro ⟨h0, h1, h2 | ⟨h2, h3, h4⟩⟩
        · exact ⟨h0, h1, .inl h2⟩
        · exact ⟨h0, h1, .inr ⟨h2, h3, (sign_same q (hp q (.head _)) h2 _ (hex_sign h h0 (by omega))).symm.trans h4⟩⟩
      · rintro ⟨h0, h1, h2 | ⟨h2, h3, h4⟩⟩
        · exact ⟨h0, h1, .inl h2⟩
        · exact ⟨h0, h1, .inr ⟨h2, h3, (sign_same q (hp q (.head _)) h2 _ (hex_sign h h0 (by omega))).trans h4⟩⟩
    constructor
    · rintro ⟨k, h1, h2⟩; exact ⟨k, (hs k).mp h1, (ih k).mp h2⟩
    · rintro ⟨k, h1, h2⟩; exact ⟨k, (hs k).mpr h1, (ih k).mpr h2⟩
theorem takes_fits {row : List Int} (h : RowOk row) {ps : List Nat} (hp : ∀ q ∈ ps, q < 6) : takesP (hexT row) (partsN ps) = fitsP (hexT row) ps := by
  rw [Bool.eq_iff_iff]
  unfold takesP fitsP
  rw [List.any_eq_true, List.any_eq_true, List.foldl_reverse]
  have z1 := takes_reach (T := hexT row) (partsN ps) [0] (by simp)
  have z2 := (backs_reach (T := hexT row) ps [((hexT row).length : Int)] (by simp)).2
  simp only [List.mem_singleton, exists_eq_left] at z1 z2
  have z3 := parts_reach (T := hexT row) okC ps [] 0 (hexT row).length
  constructor
  · rintro ⟨x, hx, e⟩
    have e := eq_of_beq e; subst e
    exact ⟨0, (z2 0).mpr ((reach_same h ps _ _ hp).mp (z3.mp ((z1 _).mp hx))), rfl⟩
  · rintro ⟨x, hx, e⟩
    have e := eq_of_beq e; subst e
    exact ⟨_, (z1 _).mpr (z3.mpr ((reach_same h ps _ _ hp).mpr ((z2 0).mp hx))), beq_self_eq_true _⟩
theorem done_walk : ∀ (os : List Ord) (a : List Int × List Dat), (∀ o ∈ os, o.Ok) → RowOk a.1 → os.foldl doneS a = os.foldl walkS a
  | [], _, _, _ => rfl
  | o :: os, a, ho, h => by
    have e : doneS a o = walkS a o := by
      cases o with
      | swap i => rfl
      | fits ps => show (_, _) = (_, _); rw [takes_fits h (ho _ (.head _)).2]
    rw [List.foldl_cons, List.foldl_cons, e]
    exact done_walk os _ (fun x hx => ho x (.tail _ hx)) (walk_ok (ho o (.head _)) h)
theorem done_walked {row : List Int} {os : List Ord} (ho : ∀ o ∈ os, o.Ok) (h : RowOk row) : doneP row os = walkP row os := by
  unfold doneP walkP; rw [done_walk os _ ho h]
end Mine
end
section

namespace Mine
noncomputable def qW (x : Str) : Bool := !(x.cps.toList.filter badC).isEmpty
noncomputable def chkW (x : Str) : Bool := decide (0 < x.length) && decide (x.length ≤ 30) && (foundU x == some (qW x)) && (Txt.replace x (Str.ofString "'") (Str.ofString "'\"'\"'") == x) && x.cps.all (· < 128) && (Txt.split x (Str.ofString "'") == [x]) && (if qW x then x.cps.toList.all isQb else x.cps.toList.all isWb)
theorem chk_pats : ((List.range 216).all fun h => chkW (patT (rowOf h))) = true := by decide +kernel
theorem chk_bare : (chkW (Str.ofString "swap") && chkW (Str.ofString "fits") && (List.range 6).all fun i => chkW (widthT i)) = true := by decide +kernel
noncomputable def OrdW : Ord → Prop
  | .swap i => i < 6
  | .fits ps => ∃ h, h < 216 ∧ ps = rowOf h
theorem ordW (x : Int) : OrdW (ordOf x) := by
  unfold ordOf
  split
  · exact Nat.mod_lt _ (by decide)
  · exact ⟨halfOf x, Nat.mod_lt _ (by decide), rfl⟩
theorem chk_ord {o : Ord} (h : OrdW o) : ∀ x ∈ wordsO o, chkW x = true := by
  have b := chk_bare
  simp only [Bool.and_eq_true] at b
  cases o with
  | swap i =>
    intro x hx
    rcases List.mem_cons.mp hx with rfl | hx
    · exact b.1.1
    · rw [List.mem_singleton.mp hx]
      exact List.all_eq_true.mp b.2 i (List.mem_range.mpr h)
  | fits ps =>
    obtain ⟨n, hn, rfl⟩ := h
    intro x hx
    rcases List.mem_cons.mp hx with rfl | hx
    · exact b.1.2
    · rw [List.mem_singleton.mp hx]
      exact List.all_eq_true.mp chk_pats n (List.mem_range.mpr hn)
theorem chk_words {os : List Ord} (h : ∀ o ∈ os, OrdW o) : ∀ x ∈ wordsL os, chkW x = true := by
  intro x hx
  obtain ⟨o, ho, hx⟩ := List.mem_flatMap.mp hx
  exact chk_ord (h o ho) x hx
theorem chk_join {x : Str} (h : chkW x = true) : (0 < x.length ∧ x.length ≤ 30) ∧ foundU x = some (qW x) ∧ (qW x = true → Txt.replace x (Str.ofString "'") (Str.ofString "'\"'\"'") = x) := by
  simp only [chkW, Bool.and_eq_true, decide_eq_true_eq, beq_iff_eq] at h
  exact ⟨⟨h.1.1.1.1.1.1, h.1.1.1.1.1.2⟩, h.1.1.1.1.2, fun _ => h.1.1.1.2⟩
theorem chk_spelled {x : Str} (h : chkW x = true) : (0 < x.length ∧ x.length ≤ 30) ∧ x.cps.all (· < 128) = true ∧ (x.cps.toList.filter badC).isEmpty = (!qW x) ∧ Txt.split x (Str.ofString "'") = [x] := by
  have j := chk_join h
  simp only [chkW, Bool.and_eq_true, decide_eq_true_eq, beq_iff_eq] at h
  exact ⟨j.1, h.1.1.2, by unfold qW; rw [Bool.not_not], h.1.2⟩
theorem chk_spelt {x : Str} (h : chkW x = true) : Spelt x (quoteT x (qW x)).cps.toList := by
  have j := chk_join h
  simp only [chkW, Bool.and_eq_true] at h
  have h := h.2
  obtain ⟨⟨l⟩⟩ := x
  cases l with
  | nil => exact absurd j.1.1 (by decide)
  | cons c cs =>
    unfold quoteT
    by_cases hq : qW ⟨⟨c :: cs⟩⟩ = true
    · rw [if_pos hq] at h ⊢
      have e : ((Str.ofString "'" ++ (⟨⟨c :: cs⟩⟩ : Str)) ++ Str.ofString "'").cps.toList = 39 :: ((c :: cs) ++ [39]) := by
        have z : (Str.ofString "'").cps = #[39] := by decide +kernel
        rw [Str.cps_append, Str.cps_append, z]; simp
      rw [e]
      exact .quoted fun y hy => List.all_eq_true.mp h y hy
    · rw [if_neg hq] at h ⊢
      have h := List.all_eq_true.mp h
      exact .bare (h c (.head _)) fun y hy => h y (.tail _ hy)
theorem lines_of : ∀ (ws : List Str), ws ≠ [] → (∀ x ∈ ws, chkW x = true) → Lines ws (Str.join (Str.ofString " ") (ws.map fun x => quoteT x (qW x))).cps.toList
  | [], h, _ => absurd rfl h
  | [x], _, h => .last (chk_spelt (h x (.head _))) (by have := (chk_join (h x (.head _))).1.2; omega)
  | x :: y :: r, _, h => by
    have ih := lines_of (y :: r) (by simp) fun z hz => h z (.tail _ hz)
    have e : (Str.join (Str.ofString " ") ((x :: y :: r).map fun x => quoteT x (qW x))).cps.toList = (quoteT x (qW x)).cps.toList ++ 32 :: (Str.join (Str.ofString " ") ((y :: r).map fun x => quoteT x (qW x))).cps.toList := by
      have z : (Str.ofString " ").cps = #[32] := by decide +kernel
      show (_ ++ _ ++ _ : Str).cps.toList = _
      rw [Str.cps_append, Str.cps_append, z]; simp
    rw [e]
    exact .more (chk_spelt (h x (.head _))) (by have := (chk_join (h x (.head _))).1.2; omega) ih
noncomputable abbrev lineT (ws : List Str) : Str := Txt.join (Str.ofString " ") (ws.map fun x => quoteT x (qW x))
theorem lex_line {ws : List Str} (hw : ws ≠ []) (h : ∀ x ∈ ws, chkW x = true) : LexWords (lineT ws) ws (some (Str.ofString " ")) 0 := by
  refine lex_words (lines_of ws hw h) 0 ?_
  rw [List.drop_zero]
  show (Builtin.Str.glued _ _).cps.toList = _
  rw [StrLaws.glued_eq_join]
theorem line_len : ∀ {ws : List Str}, (∀ x ∈ ws, chkW x = true) → (lineT ws).length ≤ 33 * ws.length
  | [], _ => Nat.zero_le _
  | x :: r, h => by
    show (Builtin.Str.glued _ _).length ≤ _
    rw [StrLaws.glued_eq_join]
    have z : (Str.ofString " ").length = 1 := by decide +kernel
    have := StrLaws.sumLen_le (B := 32) ((x :: r).map fun x => quoteT x (qW x)) (fun y hy => by
      obtain ⟨a, ha, rfl⟩ := List.mem_map.mp hy
      exact quoteT_len (chk_join (h a ha)).1.2)
    rw [List.map_cons, len_join_cons, z]
    simp only [List.map_cons, List.length_map, List.length_cons] at this ⊢
    omega
end Mine
end
section
open PySem PySem.W PySem.Calls PyProof.Rows PySem.SeqAt
namespace Mine
section
variable {M : Model} {A : Around} {E : Value → Shared → Prop} {s : Shared} {env : Env}
theorem wpC_Tuple {elts : List PySem.Expr} {k : Nat} {pos : Pos} {Q : Value → Shared → Prop} (h : wpC M A (spliced (backTo pos (starEach elts env))) (fun vs s₁ => wpAny M A (newTuple vs) Q E s₁) E s) : wpC M A (eval (.Tuple elts k pos) env) Q E s := by
  show wpC M A (do standAt pos; newTuple (← spliced (backTo pos (starEach elts env)))) Q E s
  exact wpC_bind (wpC_of (wpAny_standAt (wpC_bind (wpC_mono h (fun _ _ x => wpC_of x) fun _ _ x => x))))
theorem wpC_items {pos : Pos} {e : PySem.Expr} {rest : List PySem.Expr} {Q : List Value → Shared → Prop}
    (h : wpC M A (eval e env) (fun v s₁ => wpAny M A (spliced (backTo pos (starEach rest env))) (fun vs s₂ => Q (v :: vs) s₂) E s₁) E s)
    (he : starEach (e :: rest) env = (false, eval e env) :: starEach rest env := by rfl) : wpC M A (spliced (backTo pos (starEach (e :: rest) env))) Q E s := by
  rw [he]
  show wpC M A (do
    let v ← eval e env
    let here ← (pure [v] : Sem (List Value))
    return here ++ (← holding here (spliced (backTo pos (starEach rest env))))) Q E s
  exact wpC_bind (wpC_mono h (fun v s₁ h₁ => wpC_of (wpAny_bind (wpAny_pure (wpAny_bind (wpAny_holding (wpAny_mono h₁ (fun vs s₂ h₂ => wpAny_pure h₂) fun _ _ x => x)))))) fun _ _ x => x)
theorem wpC_Assign_Tuple {elts : List PySem.Expr} {k : Nat} {tpos : Pos} {value : PySem.Expr} {pos : Pos} {names : List Str} {Q : Flow → Shared → Prop}
    (h : wpC M A (eval value env) (fun v s₁ => wpAny M A (unpackItems v names.length none) (fun items s₂ =>
      wpAny M A (assignInOrder (names.reverse.map fun n => bindName env n) items.reverse) (fun _ => Q .next) E s₂) E s₁) E s)
    (hs : swapsWithSole [.Tuple elts k tpos] value pos.line env = pure false := by rfl)
    (hw : swappedStores [.Tuple elts k tpos] value env = pure (some names) := by rfl) :
    wpC M A (exec (.Assign [.Tuple elts k tpos] value pos) env) Q E s := by
  rw [exec_Assign]
  refine wpC_bind (wpC_of (wpAny_standAt ?_))
  rw [hs]
  refine wpC_bind (wpC_of (wpAny_pure ?_))
  rw [if_neg (by decide)]
  refine wpC_bind (wpC_mono h (fun v s₁ h₁ => wpC_of ?_) fun _ _ x => x)
  rw [hw]
  refine wpAny_bind (wpAny_pure ?_)
  show wpAny M A (do rule "assign.swapped-stores"; let items ← unpackItems v names.length none; assignInOrder (names.reverse.map fun n => bindName env n) items.reverse; pure .next) Q E s₁
  exact wpAny_bind (wpAny_rule (wpAny_bind (wpAny_mono h₁ (fun items s₂ h₂ => wpAny_bind (wpAny_mono h₂ (fun _ _ x => wpAny_pure x) fun _ _ x => x)) fun _ _ x => x)))
end
section
variable {A : Around} {s : Shared}
theorem eqAt_bytes {b : Array UInt8} {t u : Tok} : EqAt A s (.bytes b t) (.bytes b u) true := fun prog w E Q h => by
  unfold eqBool
  refine wpAny_holding ?_
  refine wpAny_ite_split (fun _ => ?_) (fun _ => ?_)
  · exact wpAny_bind (wpAny_rule (wpAny_pure h))
  · refine wpAny_bind (eq_bytes (wpAny_truthy_bool ?_))
    rw [beq_self_eq_true]; exact h
noncomputable def ToldD (d : Dat) : Prop := (∃ b, d = .bytes b) ∨ ∃ b, d = .bool b
theorem eqAt_told {t1 t2 : List (Addr × Obj)} {v v' : Value} {d : Dat} (hd : ToldD d) (h : DatIn t1 v d) (h' : DatIn t2 v' d) : EqAt A s v v' true := by
  rcases hd with ⟨b, rfl⟩ | ⟨b, rfl⟩
  · cases h; cases h'; exact eqAt_bytes
  · cases h; cases h'; exact EqAt.same _
noncomputable def typeV : Dat → Value
  | .bytes _ => .type "bytes"
  | _ => .type "bool"
theorem datAll_get {tl : List (Addr × Obj)} : ∀ {vs : List Value} {ds : List Dat}, DatAll tl vs ds → vs.length = ds.length ∧ ∀ (i : Nat) (v : Value), vs[i]? = some v → ∃ d, ds[i]? = some d ∧ DatIn tl v d
  | _, _, .nil => ⟨rfl, fun i v h => by simp at h⟩
  | _, _, .cons h r => by
    obtain ⟨e, ih⟩ := datAll_get r
    refine ⟨by simp [e], fun i v hv => ?_⟩
    cases i with
    | zero => simp at hv; subst hv; exact ⟨_, rfl, h⟩
    | succ i => exact ih i v (by simpa using hv)
variable {prog : Program} {w : World} {E : Value → Shared → Prop}
theorem lists_same {a b : Addr} {xs ys : List Value} {Q : Value → Shared → Prop} (ha : s.heap.IsList a xs.toArray) (hb : s.heap.IsList b ys.toArray) (hl : xs.length = ys.length) (hu : A.units < cLine)
    (he : ∀ (i : Nat) x y, xs[i]? = some x → ys[i]? = some y → EqAt A.in1 s x y true) (h : Q (.bool true) s) : wpAny (model prog w) A (compareOp .Eq (.ref a) (.ref b)) Q E s := by
  refine RcAt.lists (e := fun _ => true) ha hb (by simpa using hl) hu (fun j h1 h2 => he j _ _ (by simp) (by simp)) prog w E Q ?_
  have : ((List.range xs.toArray.size).all fun _ => true) = true := List.all_eq_true.mpr fun _ _ => rfl
  rw [this]; exact h
theorem told_same {a b : Addr} {t1 t2 : List (Addr × Obj)} {xs ys : List Value} {ds : List Dat} {Q : Value → Shared → Prop} (ha : s.heap.IsList a xs.toArray) (hb : s.heap.IsList b ys.toArray) (h1 : DatAll t1 xs ds) (h2 : DatAll t2 ys ds) (hd : ∀ d ∈ ds, ToldD d) (hu : A.units < cLine)
    (h : Q (.bool true) s) : wpAny (model prog w) A (compareOp .Eq (.ref a) (.ref b)) Q E s := by
  obtain ⟨e1, g1⟩ := datAll_get h1
  obtain ⟨e2, g2⟩ := datAll_get h2
  refine lists_same ha hb (e1.trans e2.symm) hu (fun i x y hx hy => ?_) h
  obtain ⟨d, hdd, z1⟩ := g1 i x hx
  obtain ⟨d', hd', z2⟩ := g2 i y hy
  rw [hdd] at hd'; cases hd'
  exact eqAt_told (hd d (List.mem_of_getElem? hdd)) z1 z2
theorem types_same {a b : Addr} {ds : List Dat} {Q : Value → Shared → Prop} (ha : s.heap.IsList a (ds.map typeV).toArray) (hb : s.heap.IsList b (ds.map typeV).toArray) (hu : A.units < cLine) (h : Q (.bool true) s) : wpAny (model prog w) A (compareOp .Eq (.ref a) (.ref b)) Q E s := by
  refine lists_same ha hb rfl hu (fun i x y hx hy => ?_) h
  rw [hx] at hy; cases hy
  exact EqAt.same _
theorem type_told {t : List (Addr × Obj)} {v : Value} {d : Dat} {Q : Value → Shared → Prop} (hd : ToldD d) (h : DatIn t v d) (hq : Q (typeV d) s) : wpAny (model prog w) A (call (.type "type") [v]) Q E s := by
  rcases hd with ⟨b, rfl⟩ | ⟨b, rfl⟩
  · cases h; exact call_type_of (Tx := "bytes") (typeIs_bytes s _ _) (by decide +kernel) hq
  · cases h; exact call_type_of (Tx := "bool") rfl (by decide +kernel) hq
noncomputable def TyJ (N0 : List (Addr × Obj)) (ds : List Dat) (i : Nat) (ys : List Value) (nw : List (Addr × Obj)) : Prop := nw = N0 ∧ ys = (ds.take i).map typeV
theorem tyj_step {N0 : List (Addr × Obj)} {ds : List Dat} {i : Nat} {d : Dat} (h : ds[i]? = some d) : TyJ N0 ds (i + 1) ((ds.take i).map typeV ++ [typeV d]) N0 := ⟨rfl, by rw [List.take_add_one, h]; simp⟩
theorem walk_told : ∀ (os : List Ord) (st : List Int × List Dat), (∀ d ∈ st.2, ToldD d) → ∀ d ∈ (os.foldl walkS st).2, ToldD d
  | [], _, h => h
  | o :: os, st, h => by
    refine walk_told os _ fun d hd => ?_
    cases o with
    | swap i =>
      rcases List.mem_append.mp hd with hd | hd
      · exact h d hd
      · rw [List.mem_singleton.mp hd]; exact .inl ⟨_, rfl⟩
    | fits ps =>
      rcases List.mem_append.mp hd with hd | hd
      · exact h d hd
      · rw [List.mem_singleton.mp hd]; exact .inr ⟨_, rfl⟩
end
end Mine
end
section

namespace Mine
theorem fillLW : PySem.Challenge.rw_in0080_01 = PySem.Challenge.rw_in0080_01 ∧ hd.heap_39 = hd.heap_39 := by k_fill; exact ⟨rfl, rfl⟩
noncomputable def begF (z k : Int) : Int := ([0, 10, 160, 170] : List Int).getD ((3 * k + k.fdiv 4 + z).fmod 4).toNat 0
theorem begF_get (z k : Int) : (0 ≤ (3 * k + k.fdiv 4 + z).fmod 4) ∧ (3 * k + k.fdiv 4 + z).fmod 4 < 4 := ⟨Int.fmod_nonneg_of_pos _ (by decide), Int.fmod_lt_of_pos _ (by decide)⟩
section
variable {prog : Program} {w : World} {A : Around} {E : Value → Shared → Prop} {s : Shared}
theorem four_item {l : Addr} {n : Nat} {a b c d : Tok} {z k : Int} {u : Tok} {value slice : PySem.Expr} {Q : Value → Shared → Prop} (hl : s.heap.get? l = some (W.listOf #[.int 0 a, .int 10 b, .int 160 c, .int 170 d] n)) (h : ∀ t, Q (.int (begF z k) t) s)
    (hs : ∀ k : Int, subscripted slice false (.ref l) (.int k u) = operate [.ref l, .int k u] (getItem (.ref l) (.int k u)) := by intro _; with_unfolding_all rfl) :
    wpAny (model prog w) A (subscriptTail value slice (.ref l) (.int ((3 * k + k.fdiv 4 + z).fmod 4) u)) Q E s := by
  have hL : s.heap.IsList l #[.int 0 a, .int 10 b, .int 160 c, .int 170 d] := ⟨_, hl, rfl, n, rfl⟩
  have hb := begF_get z k
  unfold begF at h
  generalize (3 * k + k.fdiv 4 + z).fmod 4 = j at hb h ⊢
  obtain rfl | rfl | rfl | rfl : j = 0 ∨ j = 1 ∨ j = 2 ∨ j = 3 := by omega
  · exact tail_any hL.typeIs slot_list_getitem.lookup (wpAny_getItem_list hL (by decide) (by decide) rfl (h a)) (hs _)
  · exact tail_any hL.typeIs slot_list_getitem.lookup (wpAny_getItem_list hL (by decide) (by decide) rfl (h b)) (hs _)
  · exact tail_any hL.typeIs slot_list_getitem.lookup (wpAny_getItem_list hL (by decide) (by decide) rfl (h c)) (hs _)
  · exact tail_any hL.typeIs slot_list_getitem.lookup (wpAny_getItem_list hL (by decide) (by decide) rfl (h d)) (hs _)
end
theorem datin_list {tl : List (Addr × Obj)} {v : Value} {ds : List Dat} (h : DatIn tl v (Dat.list ds)) : ∃ a vs n, v = .ref a ∧ (a, W.listOf vs.toArray n) ∈ tl ∧ DatAll tl vs ds := by
  cases h with
  | list hm hall => exact ⟨_, _, _, rfl, hm, hall⟩
noncomputable def WoJ (N0 : List (Addr × Obj)) (os : List Ord) (i : Nat) (ys : List Value) (nw : List (Addr × Obj)) : Prop :=
  ys.length = i ∧ ∃ tn, nw = tn ++ N0 ∧ (∀ q ∈ tn, ∃ ws k, q.2 = W.listOf ws k) ∧ ∀ (j : Nat) v o, ys[j]? = some v → os[j]? = some o → ∃ a k ws, v = .ref a ∧ (a, W.listOf ws.toArray k) ∈ tn ∧ StrsAre ws (wordsO o)
theorem dat_strs {tl : List (Addr × Obj)} : ∀ {ws : List Str} {vs : List Value}, DatAll tl vs (ws.map Dat.str) → StrsAre vs ws
  | [], _, .nil => .nil
  | w :: ws, _, .cons h r => by
    cases h with
    | str x t => exact .cons _ _ (dat_strs r)
theorem dat_at {tl : List (Addr × Obj)} : ∀ {vs : List Value} {ds : List Dat} {i : Nat} {v : Value} {d : Dat}, DatAll tl vs ds → vs[i]? = some v → ds[i]? = some d → DatIn tl v d
  | _, _, _, _, _, .nil, h, _ => by simp at h
  | _, _, 0, _, _, .cons h _, e, e' => by simp at e e'; subst e; subst e'; exact h
  | _, _, i + 1, _, _, .cons _ r, e, e' => dat_at (i := i) r (by simpa using e) (by simpa using e')
theorem ord_at {tl : List (Addr × Obj)} {vs : List Value} {ns : List Int} {i : Nat} {v : Value} (h : DatAll tl vs (ns.map ordD)) (hv : vs[i]? = some v) : ∃ a ws n x, ns[i]? = some x ∧ v = .ref a ∧ (a, W.listOf ws.toArray n) ∈ tl ∧ StrsAre ws (ordOf x).texts := by
  have hl := h.length
  rw [List.length_map] at hl
  have hi : i < ns.length := by rw [← hl]; exact (List.getElem?_eq_some_iff.mp hv).1
  obtain ⟨a, ws, n, e, hm, hall⟩ := datin_list (dat_at h hv (show (ns.map ordD)[i]? = some (Dat.list ((ordOf ns[i]).texts.map Dat.str)) by rw [List.getElem?_map, List.getElem?_eq_getElem hi]; rfl))
  exact ⟨a, ws, n, ns[i], List.getElem?_eq_getElem hi, e, hm, dat_strs hall⟩
noncomputable def firstO : Ord → Str | .swap _ => Str.ofString "swap" | .fits _ => Str.ofString "fits"
noncomputable def restO : Ord → List Str | .swap i => [widthT i] | .fits ps => ps.map pieceT
theorem texts_eq (o : Ord) : o.texts = firstO o :: restO o := by cases o <;> rfl
theorem rest_sum (o : Ord) (h : o.Ok) : ((restO o).map (·.length)).sum + (restO o).length ≤ 1048576 ∧ (o.texts).length ≤ 6 := by
  have six4 : ∀ q, q < 6 → (pieceT q).length ≤ 4 := six (P := fun q => (pieceT q).length ≤ 4) (by decide +kernel) (by decide +kernel) (by decide +kernel) (by decide +kernel) (by decide +kernel) (by decide +kernel)
  have sixw : ∀ q, q < 6 → (widthT q).length ≤ 4 := six (P := fun q => (widthT q).length ≤ 4) (by decide +kernel) (by decide +kernel) (by decide +kernel) (by decide +kernel) (by decide +kernel) (by decide +kernel)
  cases o with
  | swap i =>
    have := sixw i h
    exact ⟨by show (widthT i).length + 0 + 1 ≤ _; omega, by show 2 ≤ 6; decide⟩
  | fits ps =>
    have key : ∀ l : List Nat, (∀ q ∈ l, q < 6) → ((l.map pieceT).map (·.length)).sum ≤ 4 * l.length := by
      intro l
      induction l with
      | nil => intro _; exact Nat.le_refl _
      | cons q l ih =>
        intro h
        have a := six4 q (h q (.head _))
        have b := ih fun x hx => h x (.tail _ hx)
        simp only [List.map_cons, List.sum_cons, List.length_cons]
        omega
    have := key ps h.2
    have hl := h.1
    refine ⟨?_, ?_⟩
    · show ((ps.map pieceT).map (·.length)).sum + (ps.map pieceT).length ≤ _
      rw [List.length_map]; omega
    · show (ps.map pieceT).length + 1 ≤ 6
      rw [List.length_map]; omega
theorem rows_ok : ∀ h : Fin 216, (rowOf h.1).length ≤ 4 ∧ ∀ q ∈ rowOf h.1, q < 6 := by decide +kernel
theorem ord_ok (x : Int) : (ordOf x).Ok := by
  unfold ordOf
  split
  · exact Nat.mod_lt _ (by decide)
  · exact rows_ok ⟨halfOf x, Nat.mod_lt _ (by decide)⟩
theorem words_two (o : Ord) : wordsO o = [firstO o, Txt.join (Str.ofString "") (restO o)] := by
  cases o with
  | swap i => rfl
  | fits ps => show [_, patT ps] = [_, _]; rw [pat_join]; rfl
theorem woj_step {N0 tn : List (Addr × Obj)} {os : List Ord} {i n : Nat} {ys : List Value} {l : Addr} {o : Ord} {t1 t6 : Tok} (hl : ys.length = i) (hk : ∀ q ∈ tn, ∃ ws k, q.2 = W.listOf ws k)
    (hp : ∀ (j : Nat) v o, ys[j]? = some v → os[j]? = some o → ∃ a k ws, v = .ref a ∧ (a, W.listOf ws.toArray k) ∈ tn ∧ StrsAre ws (wordsO o)) (ho : os[i]? = some o) :
    WoJ N0 os (i + 1) (ys ++ [.ref l]) ((l, W.listOf #[Value.str (firstO o) t1, Value.str (Txt.join (Str.ofString "") (restO o)) t6] n) :: (tn ++ N0)) := by
  refine ⟨by simp [hl], (l, W.listOf #[Value.str (firstO o) t1, Value.str (Txt.join (Str.ofString "") (restO o)) t6] n) :: tn, rfl, fun q hq => ?_, fun j v o' hj ho' => ?_⟩
  · rcases List.mem_cons.mp hq with rfl | hq
    · exact ⟨_, _, rfl⟩
    · exact hk q hq
  · rcases Nat.lt_or_ge j ys.length with z | z
    · rw [List.getElem?_append_left z] at hj
      obtain ⟨a, k, ws, e, hm, hs⟩ := hp j v o' hj ho'
      exact ⟨a, k, ws, e, .tail _ hm, hs⟩
    · have : j = i := by
        have := (List.getElem?_eq_some_iff.mp hj).1
        rw [List.length_append] at this
        simp at this
        omega
      subst this
      rw [ho] at ho'; cases ho'
      rw [List.getElem?_append_right z, hl, Nat.sub_self] at hj
      simp at hj
      subst hj
      exact ⟨l, n, [Value.str (firstO o) t1, Value.str (Txt.join (Str.ofString "") (restO o)) t6], rfl, .head _, by rw [words_two]; exact .cons _ _ (.cons _ _ .nil)⟩
theorem sub6 {α : Type} {a b c d e : α} {r : List α} : ∀ p ∈ a :: b :: c :: d :: r, p ∈ d :: e :: a :: b :: c :: r := by
  intro p hp
  simp only [List.mem_cons] at hp ⊢
  rcases hp with h | h | h | h | h
  · exact .inr (.inr (.inl h))
  · exact .inr (.inr (.inr (.inl h)))
  · exact .inr (.inr (.inr (.inr (.inl h))))
  · exact .inl h
  · exact .inr (.inr (.inr (.inr (.inr h))))
theorem not_tab {h₀ h : Heap} {L P : Addr} {news : List (Addr × Obj)} {ps : Array Value} (N : News h₀ L h news) (hP : (P, tabObj ps) ∈ news) {q : Addr × Obj} (hq : q ∈ news) (hne : ∃ ws k, q.2 = W.listOf ws k) : q.1 ≠ P := by
  intro e
  obtain ⟨ws, k, e2⟩ := hne
  have a := (N _ hq).1
  rw [e, (N _ hP).1, e2] at a
  cases a
theorem row_ok (z : Int) : RowOk ((rangeKs 0 12).map (begF z)) := by
  refine ⟨by rw [List.length_map, rangeKs_length], fun n hn => ?_⟩
  obtain ⟨k, _, rfl⟩ := List.mem_map.mp hn
  have hb := begF_get z k
  unfold begF
  generalize (3 * k + k.fdiv 4 + z).fmod 4 = j at hb ⊢
  obtain rfl | rfl | rfl | rfl : j = 0 ∨ j = 1 ∨ j = 2 ∨ j = 3 := by omega
  · exact .inl rfl
  · exact .inr (.inl rfl)
  · exact .inr (.inr (.inl rfl))
  · exact .inr (.inr (.inr rfl))
theorem chk_ok {x : Str} (h : chkW x = true) : PyData.strOk x = true := by
  have := (chk_spelled h).2.1
  unfold PyData.strOk
  rw [Array.all_eq_true] at this ⊢
  intro i hi
  have := this i hi
  simp only [decide_eq_true_eq] at this ⊢
  omega
open Classical in
theorem ne_words {prog : Program} {w : World} {A : Around} {E : Value → Shared → Prop} {s : Shared} {h₀ : Heap} {L a b : Addr} {news : List (Addr × Obj)} {xs ys : List Value} {ws : List Str} {ka kb : Nat} {Q : Value → Shared → Prop} (N : News h₀ L s.heap news)
    (ma : (a, W.listOf xs.toArray ka) ∈ news) (mb : (b, W.listOf ys.toArray kb) ∈ news) (h1 : StrsAre xs ws) (h2 : StrsAre ys ws) (hk : ∀ x ∈ ws, PyData.strOk x = true) (hu : A.units + 64 < cLine) (h : Q (.bool false) s) :
    wpAny (model prog w) A (compareOp .NotEq (.ref a) (.ref b)) Q E s := by
  have key : ∀ d ∈ ws.map Dat.str, kqdOk 8 d = true := fun d hd => by
    obtain ⟨x, hx, rfl⟩ := List.mem_map.mp hd
    exact hk x hx
  refine kqd_ne (n₁ := []) (n₂ := []) N ma rfl rfl (strs_dat h1) (fun p hp => nomatch hp) mb rfl rfl (strs_dat h2) (fun p hp => nomatch hp) key key hu ?_
  rw [decide_eq_true rfl]; exact h
theorem tab_isCode {P : Params} {h : Heap} {c t : Addr} {ps : Array Value} (X : (hd.heap_39 P).In h) (e : codeHdIn (hd.heap_39 P) c t = true) (ht : h.get? t = some (tabObj ps)) : isCodeTable h t := by
  obtain ⟨o, vs, f, tf, fl, tg, b, n, tt, e, hc, hd', h11, h11', h18, h7', h9, h10, hne⟩ := codeHd_of_K X e
  exact Heap.TableAt.isCodeTable ⟨⟨o, vs, e, hc, hd', h11⟩, ht⟩
theorem oldK_tabs {P : Params} {h h' : Heap} {p70 p777 : Array Value} (X : (hd.heap_39 P).In h) (hT : ∀ t ∈ hidT, h.get? t = some (tabObj #[])) (keep : ∀ b o, h.get? b = some o → b ∉ hidT → h'.get? b = some o)
    (h70 : h'.get? 70 = some (tabObj p70)) (h777 : h'.get? 777 = some (tabObj p777)) : OldK h h' := by
  have tab : ∀ (t : Addr) (p : Array Value) (o : Obj), h.get? t = some o → h.get? t = some (tabObj #[]) → isCodeTable h t → h'.get? t = some (tabObj p) → asItWas h h' t o := by
    intro t p o e e0 it e'
    rw [e0] at e; cases e
    exact .inr (.inl ⟨it, rfl, #[], p, rfl, by rw [e', Array.empty_append]⟩)
  refine ⟨fun b o e => ?_, fun b o e => ?_⟩
  · by_cases h1 : b = 70
    · subst h1; exact tab _ _ _ e (hT _ (.head _)) (tab_isCode X code74 (hT _ (.head _))) h70
    · by_cases h2 : b = 777
      · subst h2; exact tab _ _ _ e (hT _ (.tail _ (.head _))) (tab_isCode X code781 (hT _ (.tail _ (.head _)))) h777
      · exact .inl (keep b o e fun hm => by
          rcases List.mem_cons.mp hm with hm | hm
          · exact h1 hm
          · exact h2 (List.mem_singleton.mp hm))
  · by_cases h1 : b = 70
    · exact ⟨_, h1 ▸ h70⟩
    · by_cases h2 : b = 777
      · exact ⟨_, h2 ▸ h777⟩
      · exact ⟨_, keep b o e fun hm => by
          rcases List.mem_cons.mp hm with hm | hm
          · exact h1 hm
          · exact h2 (List.mem_singleton.mp hm)⟩
namespace law_walkN
noncomputable def S (w : World) (s : Shared) (loose : List Str) (mean : ExcName → Option Value) (mg mb : Str → Option Value) (Q E : Value → Shared → Prop) (al : Addr) (vs : List Value) (ns : List Int) : Prop := ∀ (KX : (hd.heap_39 w.params).In s.heap) (KT : Top P0 loose mean mg mb s.heap) (hT : ∀ P ∈ hidT, s.heap.get? P = some (tabObj #[])) (hg : s.gens = #[]) (hal0 : s.heap.IsList al vs.toArray) (hvs : IntsAre vs ns) (hlen : ns.length ≤ 63) (k : ∀ s', OldK s.heap s'.heap → s'.os = s.os → AllBare s'.gens → Q (.bool true) s'), wpC (model PG w) (Ar (1 + claimMargin) 4 (some []) []) (call (.ref 834) [.ref al]) Q E s
noncomputable def d : World × Shared × List Str × (ExcName → Option Value) × (Str → Option Value) × (Str → Option Value) × (Value → Shared → Prop) × (Value → Shared → Prop) × Addr × List Value × List Int := cex (jW, jS, [], (fun _ => none), (fun _ => none), (fun _ => none), (fun _ _ => True), (fun _ _ => True), (0 : Nat), [], []) fun d => S d.1 d.2.1 d.2.2.1 d.2.2.2.1 d.2.2.2.2.1 d.2.2.2.2.2.1 d.2.2.2.2.2.2.1 d.2.2.2.2.2.2.2.1 d.2.2.2.2.2.2.2.2.1 d.2.2.2.2.2.2.2.2.2.1 d.2.2.2.2.2.2.2.2.2.2
@[irreducible] noncomputable def w : World := d.1
@[irreducible] noncomputable def s : Shared := d.2.1
@[irreducible] noncomputable def L' : Addr := s.heap.objs.size
@[irreducible] noncomputable def loose : List Str := d.2.2.1
@[irreducible] noncomputable def mean : ExcName → Option Value := d.2.2.2.1
@[irreducible] noncomputable def mg : Str → Option Value := d.2.2.2.2.1
@[irreducible] noncomputable def mb : Str → Option Value := d.2.2.2.2.2.1
@[irreducible] noncomputable def Q : Value → Shared → Prop := d.2.2.2.2.2.2.1
@[irreducible] noncomputable def E : Value → Shared → Prop := d.2.2.2.2.2.2.2.1
@[irreducible] noncomputable def al : Addr := d.2.2.2.2.2.2.2.2.1
@[irreducible] noncomputable def vs : List Value := d.2.2.2.2.2.2.2.2.2.1
@[irreducible] noncomputable def ns : List Int := d.2.2.2.2.2.2.2.2.2.2
theorem core : S w s loose mean mg mb Q E al vs ns := by
  intro KX KT hT hg hal0 hvs hlen k
  have hT' : ∀ P ∈ hidT, ∃ ps, s.heap.get? P = some (tabObj ps) := fun P hP => ⟨_, hT P hP⟩
  have X := in_hide KX
  have T := top0_hide KT hT'
  have hal : (hideAll s.heap hidT).IsList al vs.toArray := by
    obtain ⟨o, e, hc, n, hd'⟩ := hal0
    exact ⟨o, hid_ne hT' e (fun ps q => by rw [q] at hc; cases hc), hc, n, hd'⟩
  have hsz := hideAll_size hidT s.heap
  have g70 : (hideAll s.heap hidT).get? 70 = none := hideAll_none _ (.head _)
  have g777 : (hideAll s.heap hidT).get? 777 = none := hideAll_none _ (.tail _ (.head _))
  have hst : ∀ b o, (hideAll s.heap hidT).get? b = some o → s.heap.get? b = some o := fun b o e => of_hideAll _ e
  have B := below_caller (hideAll s.heap hidT)
  have hold : ∀ b o, s.heap.get? b = some o → b ∉ hidT → (hideAll s.heap hidT).get? b = some o := fun b o e n => hideAll_get _ e n
  generalize hideAll s.heap hidT = g at *
  refine wpC_call ?_
  k_dflt (refine' enterZC (news := [(70, tabObj #[]), (777, tabObj #[])]) X T hst (Nat.le_of_eq hsz) (fun q hq => ?kN) ?k6 ?k7 ?k8 ?k9 ?kB ?kD ?_ ?c2 ?c3 ?c4; (case k6 => k_is); (case k7 => k_is); (case k8 => (show 1 + claimMargin < _; decide +kernel)); (case k9 => first | exact BindsTo.of_eq rfl | exact binds_K (by k_in) rfl (by k_is) rfl rfl rfl);(case kB => exact rfl); (case kD => decide +kernel); (case c2 => exact rfl); (case c3 => exact rfl); (case c4 => exact rfl))
  case kN =>
    rcases List.mem_cons.mp hq with rfl | hq
    · exact ⟨hT _ (.head _), g70⟩
    · rw [List.mem_singleton.mp hq]
      exact ⟨hT _ (.tail _ (.head _)), g777⟩
  intro L₀ h₁ tk' cells' hL F N Y l1 G1
  obtain rfl : L₀ = L' := hL.trans (by with_unfolding_all rfl)
  k_cells Y
  (try simp only [List.cons_append, List.nil_append] at N)
  (try dsimp only); (try k_fold)
  refine wpC_execs (wpC_of ?_)
  repeat' (first | ((fail_if_success (with_reducible show wpC _ _ _ _ _ _)); first | walk1 | (dsimp only; walk1)) | fail "no step")
  try clear N
  try clear F
  rename Fr _ _ _ _ => F
  rename News _ _ _ _ => N
  simp only [List.cons_append, List.nil_append] at N
  rename_i Dt wt hA Fo No hI hC hL lt0 hB oc dc
  clear Fo No
  refine wpC_execs (wpC_of ?_)
  repeat' (first | ((fail_if_success (with_reducible show LCg.CompSrc _ _ _ _ _ _ _ _ _ _ _ _ _ _)); first | walk1 | (dsimp only; walk1)) | fail "no step")
  k_dflt (refine LCg.CompSrc.range (n := 12) (by rfl) (by k_asm) (by k_asm) (by assumption) (by decide) (by rfl) (by rw [PySem.sizeLine_eq]; omega) ?_)
  intro g'
  refine' kcf_range (begF (ns.take 5).sum) (fun k' t' I' oI' C' oC' D' m' ys' h' tk' E' hlo' hhi' hC' hx' F' N' off' ne' hM' => ?_) ?_
  · have off0 := off'
    simp only [LCg.Off3] at off'
    repeat' (first | ((fail_if_success (with_reducible show wpAny _ _ (call (Value.builtin "sum") _) _ _ _)); first | walk1 | (dsimp only; walk1)) | fail "no step")
    rename Fr _ _ _ _ => F9
    rename News _ _ _ _ => N9
    refine PyProof.Rows.LSm.sum_ints F9 N9 rfl ⟨_, (N9 _ (.tail _ (.tail _ (.tail _ (.tail _ (.head _)))))).1, rfl, _, rfl⟩ (by assumption) fun h tk t F N => ?_
    repeat' (first | ((fail_if_success (with_reducible first | show LCg.CompEnd _ _ _ _ _ _ _ _ _ _ _ _ _ _ | show wpAny _ _ (subscriptTail _ _ (Value.ref _) _) _ _ _)); first | walk1 | (dsimp only; walk1)) | fail "no step")
    refine four_item (N _ (.head _)).1 fun t => ?_
    repeat' (first | ((fail_if_success (with_reducible show LCg.CompEnd _ _ _ _ _ _ _ _ _ _ _ _ _ _)); first | walk1 | (dsimp only; walk1)) | fail "no step")
    exact LCg.CompEnd.intro (by assumption) (by assumption) _ (by kcf_all) off0 trivial (kcf_el rfl rfl rfl)
  · unfold KPfDone
    intro bvs hbv
    repeat' (first | ((fail_if_success (with_reducible show LCg.FinA _ _ _ _ _ _ _ _)); first | walk1 | (dsimp only; walk1)) | fail "no step")
    intro Db hb1 tkb F N o1b
    simp only [LCg.Off1, and_true] at o1b
    (try simp only [List.nil_append, List.cons_append] at N)
    (try dsimp only)
    refine wpC_execs (wpC_of ?_)
    repeat' (first | ((fail_if_success (with_reducible show wpAny _ _ (call (Value.ref _) _) _ _ _)); first | walk1 | (dsimp only; walk1)) | fail "no step")
    rename Fr _ _ _ _ => F
    rename News _ _ _ _ => N
    have lnn : (ns.take 5 ++ [0, 121, 2, 1]).length ≤ 9 := by rw [List.length_append, List.length_take]; show _ + 4 ≤ 9; omega
    refine orders_K (news := (_, LCg.lst bvs) :: (Dt, W.listOf wt.toArray 0) :: (L' + 1, oc) :: (70, tabObj #[]) :: (777, tabObj #[]) :: []) X T B F (fun q hq => N q (.tail _ (.tail _ hq))) rfl rfl rfl (show 1 + claimMargin + 1 + 30 < recursionLimit by decide +kernel) ⟨_, (N _ (.head _)).1, rfl, _, rfl⟩ (by assumption) lnn fun h4 tk4 v4 tl F N4 hne4 hdat => ?_
    have N5 := fun q hq => N4 q (List.mem_append.mpr (Or.symm (List.mem_append.mp hq)))
    simp only [List.cons_append, List.nil_append] at N5
    clear N4
    obtain ⟨Da, dvs, dn, rfl, hDa, hall⟩ := datin_list hdat
    repeat' (first | ((fail_if_success (with_reducible show wpC _ _ _ _ _ _)); first | walk1 | (dsimp only; walk1)) | fail "no step")
    try clear N5
    try clear N
    try clear F
    rename Fr _ _ _ _ => F
    rename News _ _ _ _ => N
    refine wpC_execs (wpC_of ?_)
    k_dflt (refine LCg.Assign_ListComp_U F rfl (by with_unfolding_all rfl) (by with_unfolding_all rfl) (by decide) (by rfl) (by decide) (by rfl) (by rfl) (by rfl) ?_)
    repeat' (first | ((fail_if_success (with_reducible show LCg.CompSrc _ _ _ _ _ _ _ _ _ _ _ _ _ _)); first | walk1 | (dsimp only; walk1)) | fail "no step")
    k_dflt (refine LCg.CompSrc.ledger (k := dn) rfl F N (.tail _ (.tail _ (.tail _ (.tail _ (.tail _ hDa))))) (by rw [List.size_toArray, sizeLine_eq, hall.length, List.length_map]; omega) ?_)
    intro g'
    refine cr_gen (WoJ _ ((ns.take 5 ++ [0, 121, 2, 1]).map ordOf)) ⟨rfl, [], rfl, (fun q h => by cases h), (fun j v o h => by cases h)⟩ ?_ ?_
    · rintro i v I oI C oC D m₂ ys nw h tk E' hi hv ⟨hyl, tn, rfl, hknd, hpairs⟩ hC hx F N off ne
      obtain ⟨a, ews, en, x, hnx, rfl, hae, hews⟩ := ord_at hall (show dvs[i]? = some v by simpa using hv)
      repeat' (first | ((fail_if_success (with_reducible show wpAny _ _ (subscriptTail _ _ (Value.ref _) _) _ _ _)); first | walk1 | (dsimp only; walk1)) | fail "no step")
      rw [texts_eq] at hews
      obtain ⟨t0, us, rfl, hus⟩ := strs1 hews
      rename News _ _ _ _ => N9
      refine word_item (n := 0) ⟨_, (N9 (a, W.listOf (Value.str (firstO (ordOf x)) t0 :: us).toArray en) (.tail _ (.tail _ (.tail _ (List.mem_append_right _ (.tail _ (.tail _ (.tail _ (.tail _ (.tail _ hae)))))))))).1, rfl, _, rfl⟩ hews rfl rfl (by omega) fun t1 => ?_
      repeat' (first | ((fail_if_success (with_reducible show wpAny _ _ (subscriptTail _ _ (Value.ref _) _) _ _ _)); first | walk1 | (dsimp only; walk1)) | fail "no step")
      rename News _ _ _ _ => N9
      rename Fr _ _ _ _ => F9
      k_dflt (refine kms_slice_lit F9 N9 ⟨_, (N9 (a, W.listOf (Value.str (firstO (ordOf x)) t0 :: us).toArray en) (.tail _ (.tail _ (.tail _ (List.mem_append_right _ (.tail _ (.tail _ (.tail _ (.tail _ (.tail _ hae)))))))))).1, rfl, _, rfl⟩ (by kmk_part) (by kmk_part) (pick_tail _ _) (fun D5 h5 F5 N5 l5 => ?_) (by with_unfolding_all rfl) (by kmk_pure) ?_)
      rotate_left
      · have e := hews.length
        rw [← texts_eq] at e
        rw [List.size_toArray, sizeLine_eq, e]
        exact Nat.le_trans (rest_sum _ (ord_ok x)).2 (by decide)
      repeat' (first | ((fail_if_success (with_reducible show wpAny _ _ (call (Value.builtin "str.join") _) _ _ _)); first | walk1 | (dsimp only; walk1)) | fail "no step")
      refine join_listW ⟨_, (N5 _ (.head _)).1, rfl, _, rfl⟩ hus (by decide +kernel) (rest_sum _ (ord_ok x)).1 fun t6 k6 => ?_
      repeat' (first | ((fail_if_success (with_reducible show LCg.CompEnd _ _ _ _ _ _ _ _ _ _ _ _ _ _)); first | walk1 | (dsimp only; walk1)) | fail "no step")
      rename News _ _ _ _ => N6
      rename Fr _ _ _ _ => F6
      rename _ ∧ _ ∧ _ ∧ _ ∧ AllLt _ _ => lt6
      exact LCg.CompEnd.intro F6 N6 _ sub6 ⟨⟨Ne.symm (Nat.ne_of_lt lt6.2.1), Ne.symm (Nat.ne_of_lt lt6.2.2.1), Ne.symm (Nat.ne_of_lt lt6.2.2.2.1)⟩, off⟩ (.inr ⟨_, .tail _ (List.mem_append_right _ (.tail _ (.tail _ (.tail _ (.tail _ (.tail _ hDa)))))), rfl, _, rfl⟩)
        (woj_step hyl hknd hpairs (by rw [List.getElem?_map, hnx]; rfl))
    · rintro ys nw ⟨hyl, tn, rfl, hknd, hpairs⟩
      try clear F
      try clear N
      intro Dw h7 tk7 F N o7
      clear o7
      obtain ⟨os, hos⟩ : ∃ os, os = (ns.take 5 ++ [0, 121, 2, 1]).map ordOf := ⟨_, rfl⟩
      obtain ⟨R, N, hR7, hDw, hDb, hDa, hord, hitem⟩ : ∃ R, News g L' h7 (R ++ [(70, tabObj #[]), (777, tabObj #[])]) ∧ (∀ q ∈ R, q.1 ≠ 70 ∧ q.1 ≠ 777) ∧ (Dw, LCg.lst ys) ∈ R ∧ (Db, LCg.lst bvs) ∈ R ∧ (Da, W.listOf dvs.toArray dn) ∈ R ∧ (∀ (i : Nat) v o, dvs[i]? = some v → os[i]? = some o → ∃ a ws k, v = .ref a ∧ (a, W.listOf ws.toArray k) ∈ R ∧ StrsAre ws o.texts) ∧
          (∀ (i : Nat) v xs, ys[i]? = some v → (os.map wordsO)[i]? = some xs → ∃ a k ws, v = .ref a ∧ (a, W.listOf ws.toArray k) ∈ R ∧ StrsAre ws xs ∧ xs.length ≤ 2) := by
        refine ⟨(Dw, LCg.lst ys) :: (tn ++ (Db, LCg.lst bvs) :: tl), fun q hq => N q ?_, fun q hq => ?_, .head _, .tail _ (List.mem_append_right _ (.head _)), .tail _ (List.mem_append_right _ (.tail _ hDa)), fun i v o hv ho => ?_, fun i v xs hv hx => ?_⟩
        · simp only [List.mem_append, List.mem_cons, List.not_mem_nil, or_false] at hq ⊢
          rcases hq with (h | h | h | h) | h | h
          · exact .inl h
          · exact .inr (.inl h)
          · exact .inr (.inr (.inl h))
          · exact .inr (.inr (.inr (.inr (.inr (.inr (.inr h))))))
          · exact .inr (.inr (.inr (.inr (.inr (.inl h)))))
          · exact .inr (.inr (.inr (.inr (.inr (.inr (.inl h))))))
        · have m70 : ((70, tabObj #[]) : Addr × Obj) ∈ (Dw, LCg.lst ys) :: (tn ++ (Db, LCg.lst bvs) :: (Dt, W.listOf wt.toArray 0) :: (L' + 1, oc) :: (70, tabObj #[]) :: (777, tabObj #[]) :: tl) := .tail _ (List.mem_append_right _ (.tail _ (.tail _ (.tail _ (.head _)))))
          have m777 : ((777, tabObj #[]) : Addr × Obj) ∈ (Dw, LCg.lst ys) :: (tn ++ (Db, LCg.lst bvs) :: (Dt, W.listOf wt.toArray 0) :: (L' + 1, oc) :: (70, tabObj #[]) :: (777, tabObj #[]) :: tl) := .tail _ (List.mem_append_right _ (.tail _ (.tail _ (.tail _ (.tail _ (.head _))))))
          rcases List.mem_cons.mp hq with rfl | hq
          · exact ⟨not_tab N m70 (.head _) ⟨_, _, rfl⟩, not_tab N m777 (.head _) ⟨_, _, rfl⟩⟩
          · rcases List.mem_append.mp hq with hq | hq
            · exact ⟨not_tab N m70 (.tail _ (List.mem_append_left _ hq)) (hknd q hq), not_tab N m777 (.tail _ (List.mem_append_left _ hq)) (hknd q hq)⟩
            · rcases List.mem_cons.mp hq with rfl | hq
              · exact ⟨not_tab N m70 (.tail _ (List.mem_append_right _ (.head _))) ⟨_, _, rfl⟩, not_tab N m777 (.tail _ (List.mem_append_right _ (.head _))) ⟨_, _, rfl⟩⟩
              · exact ⟨Ne.symm (hne4 q hq _ (.tail _ (.tail _ (.tail _ (.head _))))), Ne.symm (hne4 q hq _ (.tail _ (.tail _ (.tail _ (.tail _ (.head _))))))⟩
        · obtain ⟨a, ws, n, x, hx, e, hm, hs⟩ := ord_at hall hv
          rw [hos, List.getElem?_map, hx] at ho
          cases ho
          exact ⟨a, ws, n, e, .tail _ (List.mem_append_right _ (.tail _ hm)), hs⟩
        · obtain ⟨o, ho, rfl⟩ : ∃ o, os[i]? = some o ∧ wordsO o = xs := by rw [List.getElem?_map] at hx; simpa using hx
          obtain ⟨a, k, ws, e, hm, hs⟩ := hpairs i v o hv (hos ▸ ho)
          exact ⟨a, k, ws, e, .tail _ (List.mem_append_left _ hm), hs, by rw [words_two]; exact Nat.le_refl _⟩
      have hol : os.length ≤ 9 := by rw [hos, List.length_map]; exact lnn
      have hdl : dvs.length = os.length := by rw [hos, hall.length, List.length_map, List.length_map]
      have hyw : ys.length = (os.map wordsO).length := by rw [hyl, List.size_toArray, hdl, List.length_map]
      have hoW : ∀ o ∈ os, OrdW o := by
        intro o ho
        rw [hos] at ho
        obtain ⟨x, _, rfl⟩ := List.mem_map.mp ho
        exact ordW x
      have hck := chk_words hoW
      have hfl : (os.map wordsO).flatten = wordsL os := (List.flatMap_def ..).symm
      have hwl : (wordsL os).length ≤ 18 := by rw [words_len]; omega
      have hwn : wordsL os ≠ [] := by intro e; have z := words_len os; rw [e, hos, List.length_map, List.length_append] at z; simp at z <;> omega
      have hrow := row_ok (ns.take 5).sum
      clear hknd hpairs hne4 hall
      generalize (rangeKs 0 12).map (begF (ns.take 5).sum) = row at hbv hrow
      (try dsimp only)
      refine wpC_execs (wpC_of ?_)
      repeat' (first | ((fail_if_success (with_reducible show wpAny _ _ (eval (PySem.Expr.ListComp _ _ _ _) _) _ _ _)); first | walk1 | (dsimp only; walk1)) | fail "no step")
      refine two_comp (C := (0 : Nat)) F (by with_unfolding_all rfl) (by decide) rfl (by decide) (by rfl) (by rfl) rfl rfl ?_
      walk1
      refine ⟨Dw, ys.length, ys, os.map wordsO, _, rfl, rfl, F, N, List.mem_append_left _ hDw, by rw [hyw, List.length_map]; exact Nat.le_trans hol (by decide), hyw, (fun i v xs a b => by obtain ⟨a, k, ws, e, m, h⟩ := hitem i v xs a b; exact ⟨a, k, ws, e, List.mem_append_left _ m, h⟩), fun D1 h8 tk8 zs hz F N hne1 => ?_⟩
      rw [hfl] at hz
      (try dsimp only)
      repeat' (first | ((fail_if_success (with_reducible show wpAny _ _ (call (Value.ref _) _) _ _ _)); first | walk1 | (dsimp only; walk1)) | fail "no step")
      refine joinA_K (pre := (D1, LCg.lst zs) :: (R ++ [(70, tabObj #[])])) X T B F (by simpa only [List.cons_append, List.append_assoc, List.nil_append] using N) (fun q hq => ?_) rfl rfl rfl (show 1 + claimMargin + 1 + 60 < recursionLimit by decide +kernel) (by exact AllBare.of_eq hg) ⟨_, (N _ (.head _)).1, rfl, _, rfl⟩ hz (fun x hx => chk_join (hck x hx)) hwl fun s9 t9 c9 F N hb9 ho9 => ?_
      · rcases List.mem_cons.mp hq with rfl | hq
        · exact Ne.symm (hne1 (777, _) (List.mem_append_right _ (.tail _ (.head _))))
        · rcases List.mem_append.mp hq with hq | hq
          · exact (hR7 q hq).2
          · rw [List.mem_singleton.mp hq]; decide
      (try dsimp only)
      repeat' (first | ((fail_if_success (with_reducible show wpAny _ _ (eval (PySem.Expr.ListComp _ _ _ _) _) _ _ _)); first | walk1 | (dsimp only; walk1)) | fail "no step")
      refine two_comp (C := (0 : Nat)) F (by with_unfolding_all rfl) (by decide) rfl (by decide) (by rfl) (by rfl) rfl rfl ?_
      walk1
      refine ⟨Dw, ys.length, ys, os.map wordsO, _, rfl, rfl, F, N, List.mem_append_left _ (.tail _ (List.mem_append_left _ hDw)), by rw [hyw, List.length_map]; exact Nat.le_trans hol (by decide), hyw, (fun i v xs a b => by obtain ⟨a, k, ws, e, m, h⟩ := hitem i v xs a b; exact ⟨a, k, ws, e, List.mem_append_left _ (.tail _ (List.mem_append_left _ m)), h⟩), fun D2 h10 tk10 zs2 hz2 F N hne2 => ?_⟩
      rw [hfl] at hz2
      (try dsimp only)
      repeat' (first | ((fail_if_success (with_reducible show wpAny _ _ (call (Value.ref _) _) _ _ _)); first | walk1 | (dsimp only; walk1)) | fail "no step")
      refine spelled_K X T B F N rfl rfl rfl (show 1 + claimMargin + 1 + 30 < recursionLimit by decide +kernel) (by decide) ⟨_, (N _ (.head _)).1, rfl, _, rfl⟩ hz2 hwl (fun x hx => chk_spelled (hck x hx)) fun h11 tk11 t11 F N => ?_
      (try dsimp only)
      repeat' (first | ((fail_if_success (with_reducible show wpAny _ _ (compareOp CmpOp.NotEq (Value.str _ _) (Value.str _ _)) _ _ _)); first | walk1 | (dsimp only; walk1)) | fail "no step")
      refine PyProof.Rows.ne_str ?_
      rw [show ∀ x : Str, (x != x) = false from fun x => by simp]
      repeat' (first | ((fail_if_success (with_reducible show wpC _ _ _ _ _ _)); first | walk1 | (dsimp only; walk1)) | fail "no step")
      (try dsimp only)
      have N3 : News g L' h11 (R ++ [(70, tabObj #[]), (777, tabObj (psJ c9))]) := fun q hq => N q (by
        simp only [List.mem_append, List.mem_cons, List.not_mem_nil, or_false] at hq ⊢
        rcases hq with h | h | h
        · exact .inr (.inl (.inr (.inl h)))
        · exact .inr (.inl (.inr (.inr h)))
        · exact .inr (.inr h))
      clear N
      rename News _ _ _ _ => N
      refine wpC_execs (wpC_of ?_)
      repeat' (first | ((fail_if_success (with_reducible show wpAny _ _ (eval (PySem.Expr.ListComp _ _ _ _) _) _ _ _)); first | walk1 | (dsimp only; walk1)) | fail "no step")
      refine two_comp (C := (0 : Nat)) F (by with_unfolding_all rfl) (by decide) rfl (by decide) (by rfl) (by rfl) rfl rfl ?_
      walk1
      refine ⟨Dw, ys.length, ys, os.map wordsO, _, rfl, rfl, F, N, List.mem_append_left _ hDw, by rw [hyw, List.length_map]; exact Nat.le_trans hol (by decide), hyw, (fun i v xs a b => by obtain ⟨a, k, ws, e, m, h⟩ := hitem i v xs a b; exact ⟨a, k, ws, e, List.mem_append_left _ m, h⟩), fun D3 h12 tk12 zs3 hz3 F N hne3 => ?_⟩
      rw [hfl] at hz3
      (try dsimp only)
      repeat' (first | ((fail_if_success (with_reducible show wpAny _ _ (call (Value.ref _) _) _ _ _)); first | walk1 | (dsimp only; walk1)) | fail "no step")
      refine joinB_K (pre := (D3, LCg.lst zs3) :: (R ++ [(70, tabObj #[])])) X T B F (by simpa only [List.cons_append, List.append_assoc, List.nil_append] using N) rfl rfl rfl (show 1 + claimMargin + 1 + 60 < recursionLimit by decide +kernel) (by exact hb9) ⟨_, (N _ (.head _)).1, rfl, _, rfl⟩ hz3 (fun x hx => chk_join (hck x hx)) hwl fun s13 t13 F N hb13 ho13 => ?_
      (try dsimp only)
      repeat' (first | ((fail_if_success (with_reducible show wpAny _ _ (call (Value.ref _) _) _ _ _)); first | walk1 | (dsimp only; walk1)) | fail "no step")
      refine split_K X T B F N rfl rfl rfl (show 1 + claimMargin + 1 + 60 < recursionLimit by decide +kernel) _ _ (Nat.lt_of_le_of_lt (line_len hck) (by omega)) (lex_line hwn hck) (by rw [sizeLine_eq]; omega) fun h14 tk14 rvs rc rl hrv F N hne4 => ?_
      (try dsimp only)
      repeat' (first | ((fail_if_success (with_reducible show wpC _ _ _ _ _ _)); first | walk1 | (dsimp only; walk1)) | fail "no step")
      rename Fr _ _ _ _ => F
      rename News _ _ _ _ => N
      (try dsimp only)
      refine wpC_execs (wpC_of ?_)
      repeat' (first | ((fail_if_success (with_reducible show wpAny _ _ (eval (PySem.Expr.ListComp _ _ _ _) _) _ _ _)); first | walk1 | (dsimp only; walk1)) | fail "no step")
      refine two_comp (C := (0 : Nat)) F (by with_unfolding_all rfl) (by decide) rfl (by decide) (by rfl) (by rfl) rfl rfl ?_
      walk1
      refine ⟨Dw, ys.length, ys, os.map wordsO, _, rfl, rfl, F, N, .tail _ (List.mem_append_left _ (.tail _ (List.mem_append_left _ hDw))), by rw [hyw, List.length_map]; exact Nat.le_trans hol (by decide), hyw, (fun i v xs a b => by obtain ⟨a, k, ws, e, m, h⟩ := hitem i v xs a b; exact ⟨a, k, ws, e, .tail _ (List.mem_append_left _ (.tail _ (List.mem_append_left _ m))), h⟩), fun D5 h15 tk15 zs5 hz5 F N hne5 => ?_⟩
      rw [hfl] at hz5
      (try dsimp only)
      repeat' (first | ((fail_if_success (with_reducible show wpAny _ _ (compareOp CmpOp.NotEq (Value.ref _) (Value.ref _)) _ _ _)); first | walk1 | (dsimp only; walk1)) | fail "no step")
      refine ne_words N (.tail _ (.head _)) (.head _) hrv hz5 (fun x hx => ?_) (by ke_room) ?_
      · exact chk_ok (hck x hx)
      repeat' (first | ((fail_if_success (with_reducible show wpC _ _ _ _ _ _)); first | walk1 | (dsimp only; walk1)) | fail "no step")
      (try dsimp only)
      have N6 : News g L' h15 (((777, tabObj (psJ c9)) :: (rl, W.listOf rvs.toArray rc) :: R) ++ [(70, tabObj #[])]) := fun q hq => N q (by
        simp only [List.cons_append, List.mem_append, List.mem_cons, List.not_mem_nil, or_false] at hq ⊢
        rcases hq with h | h | h | h
        · exact .inr (.inr (.inr (.inr h)))
        · exact .inr (.inl h)
        · exact .inr (.inr (.inr (.inl (.inl h))))
        · exact .inr (.inr (.inr (.inl (.inr h)))))
      have h6 : ∀ q ∈ (777, tabObj (psJ c9)) :: (rl, W.listOf rvs.toArray rc) :: R, q.1 ≠ 70 := by
        intro q hq
        rcases List.mem_cons.mp hq with rfl | hq
        · exact (show (777 : Nat) ≠ 70 by decide)
        · rcases List.mem_cons.mp hq with rfl | hq
          · exact Ne.symm (hne4 (70, _) (List.mem_append_left _ (.tail _ (List.mem_append_right _ (.head _)))))
          · exact (hR7 q hq).1
      clear N
      have N := N6
      clear N6
      refine wpC_execs (wpC_Assign_Tuple (wpC_Tuple (wpC_items (wpC_Call ?_))))
      repeat' (first | ((fail_if_success (with_reducible show wpC _ _ _ _ _ _)); first | walk1 | (dsimp only; walk1)) | fail "no step")
      refine callC_K X (by kernel_rfl) ?_
      repeat' (first | ((fail_if_success (with_reducible show wpAny _ _ (call (Value.type _) _) _ _ _)); first | walk1 | (dsimp only; walk1)) | fail "no step")
      refine bytes_K F N ⟨_, (N (Db, LCg.lst bvs) (List.mem_append_left _ (.tail _ (.tail _ hDb)))).1, rfl, _, rfl⟩ hbv (fun n hn => oct_byte (hrow.2 n hn)) (by rw [hbv.length, hrow.1, sizeLine_eq]; decide) rfl fun h16 t16 tk16 F N _ => ?_
      repeat' (first | ((fail_if_success (with_reducible show And _ _)); first | walk1 | (dsimp only; walk1)) | fail "no step")
      refine ⟨X.keeps F.keep, ?_⟩
      have hok : ∀ o ∈ os, o.Ok := by
        intro o ho
        rw [hos] at ho
        obtain ⟨x, _, rfl⟩ := List.mem_map.mp ho
        exact ord_ok x
      refine done_K X T B F N h6 rfl rfl rfl rfl (show 1 + claimMargin + 1 + 100 < recursionLimit by decide +kernel) (by decide) (.inl rfl) (.tail _ (.head _)) hrv hok hol hrow fun h17 tk17 Dd dv dk pst hps F N hn7 hn70 hdv => ?_
      rw [done_walked hok hrow] at hdv
      (try dsimp only)
      repeat' (first | ((fail_if_success (with_reducible show wpAny _ _ (call (Value.ref _) _) _ _ _)); first | walk1 | (dsimp only; walk1)) | fail "no step")
      refine walked_K X T B F N rfl rfl rfl (show 1 + claimMargin + 1 + 60 < recursionLimit by decide +kernel) (by decide) ⟨_, (N (Da, W.listOf dvs.toArray dn) (.tail _ (List.mem_append_left _ (.tail _ (.tail _ hDa))))).1, rfl, _, rfl⟩ hdl
        (fun i v o hv ho => by obtain ⟨a, ws, k, e, hm, hs⟩ := hord i v o hv ho; exact ⟨a, ws, e, ⟨_, (N _ (.tail _ (List.mem_append_left _ (.tail _ (.tail _ hm))))).1, rfl, _, rfl⟩, hs⟩) hok hol
        ⟨_, (N (Db, LCg.lst bvs) (.tail _ (List.mem_append_left _ (.tail _ (.tail _ hDb))))).1, rfl, _, rfl⟩ hbv hrow fun h18 tk18 v18 t2 F N hn8 hd8 => ?_
      obtain ⟨Dw2, wv, wk, rfl, hDw2, hwv⟩ := datin_list hd8
      have N7 : News g L' h18 ((Dw2, W.listOf wv.toArray wk) :: (Dd, W.listOf dv.toArray dk) :: (777, tabObj (psJ c9)) :: (70, tabObj pst) :: []) := fun q hq => N q (by
        simp only [List.cons_append, List.mem_append, List.mem_cons, List.not_mem_nil, or_false] at hq ⊢
        rcases hq with h | h | h | h
        · exact .inl (h ▸ hDw2)
        · exact .inr (.inl h)
        · exact .inr (.inr (.inl h))
        · exact .inr (.inr (.inr (.inr (.inr h)))))
      have hdw := hn8 _ hDw2 _ (.head _)
      clear N hd8 hn8
      have N := N7
      clear N7
      (try dsimp only)
      repeat' (first | ((fail_if_success (with_reducible show wpC _ _ _ _ _ _)); first | walk1 | (dsimp only; walk1)) | fail "no step")
      rename Fr _ _ _ _ => F
      rename News _ _ _ _ => N
      (try dsimp only)
      have htold : ∀ d ∈ walkP row os, ToldD d := walk_told os _ (fun d hd => nomatch hd)
      refine wpC_execs (wpC_of ?_)
      repeat' (first | ((fail_if_success (with_reducible show wpAny _ _ (compareOp CmpOp.Eq (Value.ref _) (Value.ref _)) _ _ _)); first | walk1 | (dsimp only; walk1)) | fail "no step")
      refine told_same ⟨_, (N (Dd, W.listOf dv.toArray dk) (by k_mem)).1, rfl, _, rfl⟩ ⟨_, (N (Dw2, W.listOf wv.toArray wk) (by k_mem)).1, rfl, _, rfl⟩ hdv hwv htold (by ke_room) ?_
      clear hrv hitem hord hck hoW hdw
      have hwalk : (walkP row os).length ≤ 9 := by
        have := walk_len os (row, [])
        show (List.foldl walkS (row, []) os).2.length ≤ 9
        rw [this]; simpa using hol
      repeat' (first | ((fail_if_success (with_reducible show wpAny _ _ (eval (PySem.Expr.ListComp _ _ _ _) _) _ _ _)); first | walk1 | (dsimp only; walk1)) | fail "no step")
      refine LCg.ListComp_U (F₀ := F) (by with_unfolding_all rfl) (by decide) (by rfl) (by decide) (by rfl) ?_
      repeat' (first | ((fail_if_success (with_reducible show LCg.CompSrc _ _ _ _ _ _ _ _ _ _ _ _ _ _)); first | walk1 | (dsimp only; walk1)) | fail "no step")
      refine LCg.CompSrc.ledger (k := dk) rfl F N (.tail _ (.tail _ (.head _))) (by rw [List.size_toArray, (hdv).length, sizeLine_eq]; exact Nat.le_trans hwalk (by decide)) ?_
      intro g'
      refine cr_gen (TyJ _ (walkP row os)) ⟨rfl, rfl⟩ ?_ ?_
      · rintro i v I oI C oC D m₂ ys nw h tk E' hi hv ⟨rfl, rfl⟩ hC hx F N off ne
        obtain ⟨d, hd, hin⟩ := (datAll_get hdv).2 i v (by simpa using hv)
        repeat' (first | ((fail_if_success (with_reducible show wpAny _ _ (call (Value.type _) _) _ _ _)); first | walk1 | (dsimp only; walk1)) | fail "no step")
        refine type_told (htold d (List.mem_of_getElem? hd)) hin ?_
        (try dsimp only)
        repeat' (first | ((fail_if_success (with_reducible show LCg.CompEnd _ _ _ _ _ _ _ _ _ _ _ _ _ _)); first | walk1 | (dsimp only; walk1)) | fail "no step")
        exact LCg.CompEnd.intro F N _ (fun p hp => hp) off (.inr ⟨_, (.tail _ (.tail _ (.head _))), rfl, _, rfl⟩) (tyj_step hd)
      rintro ys nw ⟨rfl, rfl⟩
      rw [List.take_of_length_le (by rw [List.size_toArray, (hdv).length]; exact Nat.le_refl _)]
      intro E1 h tk F N o
      clear o
      (try dsimp only)
      repeat' (first | ((fail_if_success (with_reducible show wpAny _ _ (eval (PySem.Expr.ListComp _ _ _ _) _) _ _ _)); first | walk1 | (dsimp only; walk1)) | fail "no step")
      refine LCg.ListComp_U (F₀ := F) (by with_unfolding_all rfl) (by decide) (by rfl) (by decide) (by rfl) ?_
      repeat' (first | ((fail_if_success (with_reducible show LCg.CompSrc _ _ _ _ _ _ _ _ _ _ _ _ _ _)); first | walk1 | (dsimp only; walk1)) | fail "no step")
      refine LCg.CompSrc.ledger (k := wk) rfl F N (.tail _ (.tail _ (.head _))) (by rw [List.size_toArray, (hwv).length, sizeLine_eq]; exact Nat.le_trans hwalk (by decide)) ?_
      intro g'
      refine cr_gen (TyJ _ (walkP row os)) ⟨rfl, rfl⟩ ?_ ?_
      · rintro i v I oI C oC D m₂ ys nw h tk E' hi hv ⟨rfl, rfl⟩ hC hx F N off ne
        obtain ⟨d, hd, hin⟩ := (datAll_get hwv).2 i v (by simpa using hv)
        repeat' (first | ((fail_if_success (with_reducible show wpAny _ _ (call (Value.type _) _) _ _ _)); first | walk1 | (dsimp only; walk1)) | fail "no step")
        refine type_told (htold d (List.mem_of_getElem? hd)) hin ?_
        (try dsimp only)
        repeat' (first | ((fail_if_success (with_reducible show LCg.CompEnd _ _ _ _ _ _ _ _ _ _ _ _ _ _)); first | walk1 | (dsimp only; walk1)) | fail "no step")
        exact LCg.CompEnd.intro F N _ (fun p hp => hp) off (.inr ⟨_, (.tail _ (.tail _ (.head _))), rfl, _, rfl⟩) (tyj_step hd)
      rintro ys nw ⟨rfl, rfl⟩
      rw [List.take_of_length_le (by rw [List.size_toArray, (hwv).length]; exact Nat.le_refl _)]
      intro E2 h tk F N o
      clear o
      (try dsimp only)
      repeat' (first | ((fail_if_success (with_reducible show wpAny _ _ (compareOp CmpOp.Eq (Value.ref _) (Value.ref _)) _ _ _)); first | walk1 | (dsimp only; walk1)) | fail "no step")
      refine types_same ⟨_, (N (E1, LCg.lst _) (.tail _ (.head _))).1, rfl, _, rfl⟩ ⟨_, (N (E2, LCg.lst _) (.head _)).1, rfl, _, rfl⟩ (by ke_room) ?_
      repeat' (first | walk1 | (dsimp only; walk1) | fail "no step")
      exact k _ (oldK_tabs KX hT (fun b o e n => F.keep _ _ (hold b o e n)) (N (70, tabObj pst) (.tail _ (.tail _ (.tail _ (.tail _ (.tail _ (.tail _ (.head _)))))))).1 (N (777, tabObj (psJ c9)) (.tail _ (.tail _ (.tail _ (.tail _ (.tail _ (.head _))))))).1) (ho13.trans ho9) hb13
end law_walkN
theorem law_walk {w : World} {s : Shared} {loose : List Str} {mean : ExcName → Option Value} {mg mb : Str → Option Value} {Q E : Value → Shared → Prop} (KX : (hd.heap_39 w.params).In s.heap) (KT : Top P0 loose mean mg mb s.heap) (hT : ∀ P ∈ hidT, s.heap.get? P = some (tabObj #[])) (hg : s.gens = #[])
    {al : Addr} {vs : List Value} {ns : List Int} (hal0 : s.heap.IsList al vs.toArray) (hvs : IntsAre vs ns) (hlen : ns.length ≤ 63)
    (k : ∀ s', OldK s.heap s'.heap → s'.os = s.os → AllBare s'.gens → Q (.bool true) s') :
    wpC (model PG w) (Ar (1 + claimMargin) 4 (some []) []) (call (.ref 834) [.ref al]) Q E s := all_of _ (fun d => law_walkN.S d.1 d.2.1 d.2.2.1 d.2.2.2.1 d.2.2.2.2.1 d.2.2.2.2.2.1 d.2.2.2.2.2.2.1 d.2.2.2.2.2.2.2.1 d.2.2.2.2.2.2.2.2.1 d.2.2.2.2.2.2.2.2.2.1 d.2.2.2.2.2.2.2.2.2.2) (by with_unfolding_all exact law_walkN.core) (w, s, loose, mean, mg, mb, Q, E, al, vs, ns) KX KT hT hg hal0 hvs hlen k
end Mine
end
section

namespace Mine
theorem law0 : PySem.Challenge.rw_in0080_01.Holds := by
  w_on
  refine hd ?_
  k_fill
  intro w s₀ s₁ mg mb G Y fa o pm cd doc dV kV ho hdd hcd hD hmg hg args vals as hpre hlay hrd hwl hlo
  have KX := km_in_of Y
  have KT := km_tabs_of Y
  have X := (Ground.X G).1
  have V := (Ground.X G).2
  try w_nolog (first | (have GL := glob_more (Ground.glob G (by first | k_qdec | decide +kernel)) V) | (have GL := glob_more (Ground.glob G (by decide +kernel)) V))
  refine Ground.open G ?_
  intro T B D TE TW
  try (refine guard_noD D (by decide +kernel) ?_; clear D)
  obtain ⟨_, _, M⟩ := bmod_of_top T
  have TA := at_of_top T
  try (obtain ⟨_, _, he, B0⟩ := based_of_top T rfl hmg ho hdd; have he' : cd = _ := he; subst he'; clear he)
  wrow_args hpre hlay hrd hwl hlo
  rename IntsAre _ _ => hI
  rename Heap.IsList _ _ _ => hL
  rename ¬ (_ < _) => hlen
  have e8 : fa = 834 := by
    have z := mg_of KX T.g (n := Str.ofString "law") (v := .ref 834) (by kernel_rfl)
    have z2 : mg (Str.ofString "law") = some (.ref fa) := hmg
    rw [z] at z2
    injection z2 with z2
    injection z2 with z2
    exact z2.symm
  subst e8
  refine law_walk (loose := loose0 hd.view_39 (looseW hd.view_39 hd.loose)) KX (top0 T) KT hg hL hI (by omega) fun s' h1 h2 h3 => ?_
  refine ⟨.inl ⟨_, .bool true, [], rfl, ?_, ?_, ?_, ?_⟩, h1, h2, h3⟩
  · intro cls; rfl
  · exact .bool _
  · kernel_rfl
  · exact fun _ => ⟨List.nodup_nil, fun a h => nomatch h⟩
end Mine
end
theorem PySem.Challenge.cw_in0080_01_holds : PySem.Challenge.rw_in0080_01.Holds :=
  Mine.law0
